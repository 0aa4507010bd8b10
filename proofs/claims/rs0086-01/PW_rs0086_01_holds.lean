import PyProof.Rows.All
import Wide.All
import OpenK.AllK
import Wide.FinOn
import PySem.Challenge.RW_rs0086_01
set_option Elab.async false
section
open PySem PySem.W PyProof.Rows PySem.Calls
set_option Elab.async false
set_option linter.unusedVariables false
set_option maxRecDepth 100000
namespace Mine

/-- the codes that stand on the way -/
noncomputable def okCode : Code → Bool
  | .builtin id _ => ["claim.caller", "type.__call__", "bytearray.__new__", "bytearray.__init__"].contains id
  | _ => true
noncomputable def Ok (Γ : Ctx) : Prop := okCode Γ.code = true ∧ ∀ x ∈ Γ.below, okCode x.1 = true

noncomputable def wpC {α : Type} (M : Model) (A : Around) (t : Sem α) (Q : α → Shared → Prop) (E : Value → Shared → Prop) (s : Shared) : Prop :=
  ∀ Γ p, Γ.In A → Ok Γ → Sem.wp M Γ t (fun a _ s' => Q a s') (fun e _ s' => E e s') p s
noncomputable def codeC (M : Model) (A : Around) (c : Code) (R : Result → Shared → Prop) (s : Shared) : Prop :=
  ∀ Γ p, Γ.code = c → Γ.Below A → Ok Γ → wpCode M Γ R p s

/-- the place of the claim's caller: nothing stands below it -/
noncomputable abbrev topΓ : Ctx := ⟨.builtin "claim.caller" {}, none, none, [], none⟩
theorem topΓ_ok : Ok topΓ := ⟨by decide +kernel, fun _ no => by cases no⟩
/-- A clean walk of the call, seen from the caller's own thread: the thread halts, and what the walk said of the end stands at a state that the halted one agrees with. -/
theorem stub_halts {q : Program} {name : Str} {w : World} {s : Shared} {mg : Str → Option Value} {f : Value} {vs : List Value} {G : Result → Shared → Prop}
    (zz : s.asleep) (ns : s.heap.Ns mainGlobals mg) (at_f : mg name = some f) (bare : ∀ r s', G r s' → AllBare s'.gens)
    (walk : wpC (model q w) callerA (PySem.call f vs) (fun v => G (.ok (.ret v))) (fun e => G (.error e)) s) :
    ∃ n r s' t, schedN (denote table) q w n (.single s (callStub name vs)) = .halted (outcomeOf r) s' ∧ G r t ∧ s'.heap = t.heap ∧ s'.os = t.os ∧ s'.heap.life = s.heap.life := by
  have thread : Sem.wp (model q w) topΓ (callStub name vs).cur (Sem.finPost (model q w) topΓ fun r s' => G r s' ∧ leftWithCleanup s'.gens = false)
      (fun e _ s' => G (.error e) s' ∧ leftWithCleanup s'.gens = false) default s := by
    show Sem.wp (model q w) topΓ (nsGet mainNs name >>= fun o => match o with
      | some f => PySem.call f vs >>= fun v => ret v
      | none => unsupported "claim.caller:no-such-global") _ _ default s
    rw [Sem.wp_bind']
    refine wpAny_nsGet (Q := fun o s' => o = some f ∧ s' = s) (E := fun _ _ => False) ns ⟨at_f, rfl⟩ topΓ default caller_in |> Sem.wp_mono _ _ _ ?_ (fun _ _ _ no => no.elim) _ _
    rintro _ p' _ ⟨rfl, rfl⟩
    show Sem.wp _ _ (PySem.call f vs >>= fun v => ret v) _ _ p' _
    rw [Sem.wp_bind']
    exact Sem.wp_mono _ _ _ (fun v _ s' g => ⟨g, leftWithCleanup_false_of_bare (bare _ _ g)⟩) (fun e _ s' g => ⟨g, leftWithCleanup_false_of_bare (bare _ _ g)⟩) _ _ (walk topΓ p' caller_in topΓ_ok)
  obtain ⟨n, r, t, s', sched, run, same, g⟩ := wp_halts_full (M := model q w) (c := .builtin "claim.caller" {}) zz thread
  have hh := Shared.forget_eq same
  exact ⟨n, r, s', t, sched, g, hh.1, hh.2.2.2.1, runN_life _ _ _ run⟩

/-- what a clean walk of the def has to show (the shape in which the kit's opening tactic hands the walk over) -/
noncomputable abbrev WalkOC (q : Program) (loose : List Str) (XP : (Str → Option Value) → Heap → Prop) (YP : World → Heap → Prop) (r : RowW) (d : DefRec) (kwd : List (Str × Expr)) : Prop :=
  ∀ (w : World) (sT s : Shared) (mg mb : Str → Option Value), Ground q loose r.records XP w sT mg mb s.heap → YP w s.heap →
    ∀ (fa : Addr) (o : Obj) (pm cd doc dV kV : Value), s.heap.get? fa = some o → o.data = .func { docDef d.name d.params d.body d.scope pm cd doc with defaults := dV, kwdefaults := kV } →
    s.heap.CodeRec cd d.name → Dflts mg s.heap d.params kwd dV kV → mg d.name = some (.ref fa) → s.gens = #[] →
    ∀ (args : List WData) (vals : List Value) (as : List Addr), r.claim.pre args = true → WData.layableAll args = true → ReadsAllW r.records (classAt sT.heap) s.heap vals args as → WellAll w.params s.heap vals args → (∀ a ∈ as, (a == sysModules) = false) →
      wpC (model r.prog w) callerA (PySem.call (.ref fa) vals) (fun v => GoodWG r.claim (classAt sT.heap) (ExcName.means sT.heap) args s (.ok (.ret v))) (fun e => GoodWG r.claim (classAt sT.heap) (ExcName.means sT.heap) args s (.error e)) s

/-- One call: laid arguments, a clean walk from where they lie, and the claim's answer to it. -/
theorem one_call {r : RowW} {w : World} {sT : Shared} {mg mb : Str → Option Value} {q : Program} {loose : List Str} {XP : (Str → Option Value) → Heap → Prop} {fr : Addr → Prop} {gn : Prop} {kept : Heap → Prop}
    (plain : frees r = true) (inside : r.within = []) (zz : sT.asleep) (fresh : sT.gens = #[]) (G : Ground q loose r.records XP w sT mg mb sT.heap)
    (stay : ∀ h h' : Heap, (∀ b o, sT.heap.get? b = some o → h.get? b = some o) → (∀ b o, h.get? b = some o → asItWas h h' b o) → kept h')
    (walk : ∀ args vs as s, r.claim.pre args = true → WData.layableAll args = true → Laid r.records w sT s args vs as → ∃ f, mg r.name = some f ∧
      wpC (model r.prog w) callerA (PySem.call f vs) (fun v => GoodWG r.claim (classAt sT.heap) (ExcName.means sT.heap) args s (.ok (.ret v))) (fun e => GoodWG r.claim (classAt sT.heap) (ExcName.means sT.heap) args s (.error e)) s) :
    r.claim.CallFrom (callStub r.name) w fr gn kept sT := fun args hp hl ord perm => by
  cases lay : layAllW r.records (classAt sT.heap) w.params ord args sT with
  | none =>
    have some_ := layAllW_isSome (P := w.params) (ord := ord) G.has args r.args sT (pre_splitW hp).1
    rw [lay] at some_
    cases some_
  | some x =>
    obtain ⟨vs, s⟩ := x
    have alike := layAllW_rest _ _ _ lay
    have grown := layAllW_keeps _ _ _ lay
    obtain ⟨as, reads, range, there⟩ := reads_layAllW perm _ _ _ lay hl s.heap fun _ _ x => x
    have L : Laid r.records w sT s args vs as := { laid := ⟨ord, perm, lay⟩, reads := reads, within := range, old := there, keeps := grown, gens := alike.1.trans fresh, os := alike.2.2.1 }
    obtain ⟨f, at_f, wk⟩ := walk args vs as s hp hl L
    obtain ⟨n, res, s', t, sched, good, eh, eo, el⟩ := stub_halts (name := r.name) (Shared.asleep_of_life alike.2.2.2 zz) (Heap.Ns.keeps G.T.g grown) at_f (fun _ _ g => g.2.2.2) wk
    have p := frees_parts plain
    have answer := good.laid (c := r.claim) p.1 inside (ident_freeW p.2.1 p.2.2.1 p.2.2.2.1) L
    refine ⟨vs, s, lay, n, outcomeOf res, s', sched, ?_, ?_, ?_, ?_, ?_⟩
    · exact (answer.1.congr eh).imp (Exists.imp fun v x => ⟨congrArg outcomeOf x.1, x.2.1, x.2.2.1, x.2.2.2.1, fun b o y _ => x.2.2.2.2.1 b o y, x.2.2.2.2.2⟩)
        (Exists.imp fun e => Exists.imp fun ob => Exists.imp fun cls x => ⟨congrArg outcomeOf x.1, x.2.1, x.2.2.1, x.2.2.2.1, x.2.2.2.2.1, fun b o y _ => x.2.2.2.2.2 b o y⟩)
    · intro _ i x no
      rw [fresh] at no
      simp at no
    · exact eh ▸ stay s.heap t.heap grown good.2.1.old
    · rw [el, alike.2.2.2]
    · exact Shared.rest_eq (eo.trans answer.2.1)

/-- The own head: as the kit's, with a clean walk in place of a walk at any place. -/
theorem PySem.W.holds_open {r : OpenRow} {q : Program} {loose : List Str} {Xt : Shared → Bool} {XP : (Str → Option Value) → Heap → Prop} {α : Type} {Yf : Shared → α} {Ya : World → α} {YP : World → Heap → Prop} {d : DefRec} {kwd : List (Str × Expr)} {N : Nat}
    (left : LeftO r.prog q loose Xt Yf Ya N) (says : ∀ w s, Yf s = Ya w → YP w s.heap) (saysOn : ∀ w h h', YP w h → (∀ b o, h.get? b = some o → h'.get? b = some o) → YP w h')
    (seen : ∀ s, Xt s = true → XP (s.heap.nsMap mainGlobals) s.heap) (seenOn : ∀ mg h h', XP mg h → (∀ b o, h.get? b = some o → h'.get? b = some o) → XP mg h')
    (isDef : defOf q r.name = some (d, kwd)) (written : r.prog.theDef r.name = some (d.params, d.body, d.scope)) (kws : kwWritten? d.params.kwonlyargs d.params.kw_defaults = some kwd) (recs : ∀ s, Xt s = true → RecFacts r.records s.heap)
    (tables : (!r.writes || r.records.isEmpty) = true) (said : r.wellSaid = true) (looks : (chainsOk q && opensWell r.prog && (frees r.toRowW && r.within.isEmpty)) = true) (bare : r.prog.bare) (promise : r.toRowW.promised)
    (walk : WalkOC q loose XP YP r.toRowW d kwd) : r.Holds := by
  simp only [Bool.and_eq_true] at looks
  obtain ⟨⟨chains, opens⟩, free, inside⟩ := looks
  refine ⟨said, promise, ⟨bare, opens, congrArg (List.map _) (frees_parts free).2.2.2.2⟩, promise.witness, fun w => ?_⟩
  obtain ⟨first, behind⟩ := left.behind (XP := fun mg h => XP mg h ∧ RecFacts r.records h) (fun s x => ⟨seen s x, recs s x⟩) chains w
  refine ⟨first, fun sI hI => ?_⟩
  obtain ⟨sF, fence, noGens, sT, ran, zz, still, isNs, ground, told⟩ := behind sI hI
  have GT : Ground q loose [] XP w sT (sT.heap.nsMap mainGlobals) (sT.heap.nsMap builtinsNs) sT.heap := { ground with X := ground.X.1 }
  have G := ground.X.2.ground GT
  refine ⟨sF, fence, noGens, sT, ran, fun n hn => ?_, ground.X.2.1, ground.X.2.2.1, ?_⟩
  · cases hp : r.pinned with
    | false => rw [hp] at hn; cases hn
    | true =>
      rw [hp] at hn
      cases List.mem_singleton.mp hn
      exact pinned_of_view isNs GT isDef written kws
  · refine one_call (r := r.toRowW) free (List.isEmpty_iff.mp inside) zz (Array.eq_empty_of_size_eq_zero (beq_iff_eq.mp still)) G (fun h h' grown old wr => ⟨namesKept_of (s₁ := { sT with heap := h }) (s' := { sT with heap := h' }) ran isNs r.keeps grown old, noTable tables wr⟩) fun args vs as s hp hl L => ?_
    have Gs := G.keeps seenOn L.keeps
    obtain ⟨fa, o, pm, cd, doc, dV, kV, m, at_, data, code, dflt⟩ := Gs.fn isDef
    exact ⟨_, m, walk w sT s _ _ Gs (saysOn w _ _ (says w sT told) L.keeps) fa o pm cd doc dV kV at_ data code dflt (defOf_name isDef ▸ m) L.gens args vs as hp hl L.reads L.well (L.low G.low)⟩
end Mine
end

section
open PySem PySem.W PyProof.Rows
set_option Elab.async false
namespace Mine
set_option maxRecDepth 100000 in
set_option maxHeartbeats 0 in
open_top hd for PySem.Challenge.rw_rs0086_01
end Mine
end

section
open PySem PySem.W PyProof.Rows PySem.Calls
set_option Elab.async false
set_option linter.unusedVariables false
namespace Mine

noncomputable abbrev prog : Program := PySem.Challenge.pw_rs0086_01
noncomputable abbrev KF (w : World) : Frag := hd.heap_39 w.params

inductive D where
  | none
  | bool (b : Bool)
  | int (i : Int)
  | str (s : Str)
  | bytes (b : Array UInt8)
  | tup (l : List D)
  | list (l : List D)
  | val (v : Value)
  | mat (t : Str) (sp : List Int)
  | lam
  | rng (lo hi st : Int)

noncomputable abbrev listObj (vs : List Value) (n : Nat) : Obj := { cls := .type "list", data := .seq vs.toArray n }
noncomputable abbrev tupObj (vs : List Value) (n : Nat) : Obj := { cls := .type "tuple", data := .seq vs.toArray n }

theorem tf {p : Prop} (h : true = false) : p := nomatch h
theorem ft {p : Prop} (h : false = true) : p := nomatch h
theorem no_type {T : String} : Value.type T ≠ .none := fun e => nomatch e
theorem seq_nd {vs : Array Value} {n : Nat} : ∀ es ep, Data.seq vs n ≠ .dict es ep := fun _ _ e => nomatch e
theorem seq_nc {vs : Array Value} {n : Nat} : ∀ v, Data.seq vs n ≠ .cell v := fun _ e => nomatch e
theorem ba_nd {b : Array UInt8} {n : Nat} : ∀ es ep, Data.bytearray b n ≠ .dict es ep := fun _ _ e => nomatch e
theorem ba_nc {b : Array UInt8} {n : Nat} : ∀ v, Data.bytearray b n ≠ .cell v := fun _ e => nomatch e
theorem fields_nd {vs : Array Value} : ∀ es ep, Data.fields vs ≠ .dict es ep := fun _ _ e => nomatch e
theorem fields_nc {vs : Array Value} : ∀ v, Data.fields vs ≠ .cell v := fun _ e => nomatch e
/-- the objects that bear data -/
noncomputable def hard (o : Obj) : Bool := match o.data with
  | .seq _ _ => true
  | .func _ => true
  | .fields _ => o.cls == .type "re.Match" || o.cls == .type "range"
  | _ => false

mutual
noncomputable def Rep (h : Heap) (Mt : Addr → Prop) : D → Value → Prop
  | .none, v => v = .none
  | .bool b, v => v = .bool b
  | .int i, v => ∃ t, v = .int i t
  | .str s, v => ∃ t, v = .str s t
  | .bytes b, v => ∃ t, v = .bytes b t
  | .tup l, v => ∃ a vs n, v = .ref a ∧ ¬ Mt a ∧ h.get? a = some (tupObj vs n) ∧ RepL h Mt l vs
  | .list l, v => ∃ a vs n, v = .ref a ∧ ¬ Mt a ∧ h.get? a = some (listObj vs n) ∧ RepL h Mt l vs
  | .val u, v => v = u
  | .mat t sp, v => ∃ a b tk pat p q li n, v = .ref a ∧ ¬ Mt a ∧ ¬ Mt b ∧ h.get? a = some { cls := .type "re.Match", data := .fields #[.str t tk, pat, p, q, li, .ref b] } ∧
      h.get? b = some (tupObj (sp.map rawInt) n)
  | .lam, v => ∃ a o f, v = .ref a ∧ ¬ Mt a ∧ h.get? a = some o ∧ o.cls = .type "function" ∧ o.data = .func f
  | .rng lo hi st, v => ∃ a t1 t2 t3, v = .ref a ∧ ¬ Mt a ∧ h.get? a = some { cls := .type "range", data := .fields #[.int lo t1, .int hi t2, .int st t3] }
noncomputable def RepL (h : Heap) (Mt : Addr → Prop) : List D → List Value → Prop
  | [], vs => vs = []
  | d :: ds, vs => ∃ v r, vs = v :: r ∧ Rep h Mt d v ∧ RepL h Mt ds r
end

/-- a code's own table, that may grow -/
noncomputable def Soft (o : Obj) : Prop := ∃ ps, o = tabObj ps
theorem not_soft_cls {o : Obj} (h : o.cls ≠ .none) : ¬ Soft o := fun ⟨_, e⟩ => h (by rw [e])
theorem not_soft_data {o : Obj} (h : ∀ ps, o.data ≠ .fields ps) : ¬ Soft o := fun ⟨_, e⟩ => h _ (by rw [e])
theorem not_soft_dict {o : Obj} {es ep} (h : o.data = .dict es ep) : ¬ Soft o := not_soft_data fun ps e => by rw [h] at e; cases e
theorem not_soft_cell {o : Obj} {v} (h : o.data = .cell v) : ¬ Soft o := not_soft_data fun ps e => by rw [h] at e; cases e
theorem hard_not_soft {o : Obj} (h : hard o = true) : ¬ Soft o := fun ⟨ps, e⟩ => by rw [e] at h; cases h
noncomputable def TabAt (h : Heap) (P : Addr) (l c : Nat) : Prop := h.get? P = some (tabObj #[]) ∨ ∃ v, h.get? P = some (tabObj #[rawInt l, rawInt c, v])
noncomputable def TG (h : Heap) : Prop := TabAt h 65 26 49 ∧ TabAt h 82 57 50
/-- all stays but the two tables, and these only grow -/
structure Kp (h h' : Heap) : Prop where
  k : ∀ a o, h.get? a = some o → (¬ Soft o ∨ (a ≠ 65 ∧ a ≠ 82)) → h'.get? a = some o
  t : ∀ a ps, h.get? a = some (tabObj ps) → ∃ more, h'.get? a = some (tabObj (ps ++ more))
  w : TG h → TG h'
theorem TabAt.there {h : Heap} {P : Addr} {l c : Nat} (x : TabAt h P l c) : ∃ o, h.get? P = some o := x.elim (fun e => ⟨_, e⟩) fun ⟨_, e⟩ => ⟨_, e⟩
theorem TabAt.keep {h h' : Heap} {P : Addr} {l c : Nat} (x : TabAt h P l c) (k : ∀ o, h.get? P = some o → h'.get? P = some o) : TabAt h' P l c := x.elim (fun e => .inl (k _ e)) fun ⟨v, e⟩ => .inr ⟨v, k _ e⟩
theorem Kp.of {h h' : Heap} (k : ∀ a o, h.get? a = some o → h'.get? a = some o) : Kp h h' :=
  ⟨fun a o e _ => k a o e, fun a ps e => ⟨#[], by rw [Array.append_empty]; exact k _ _ e⟩, fun ⟨x, y⟩ => ⟨x.keep (k _), y.keep (k _)⟩⟩
theorem Kp.trans {h h' h'' : Heap} (x : Kp h h') (y : Kp h' h'') : Kp h h'' :=
  ⟨fun a o e n => y.k a o (x.k a o e n) n, fun a ps e => let ⟨m, e'⟩ := x.t a ps e; let ⟨m', e''⟩ := y.t a _ e'; ⟨m ++ m', by rw [← Array.append_assoc]; exact e''⟩, fun t => y.w (x.w t)⟩
theorem Kp.alive {h h' : Heap} (x : Kp h h') {a : Addr} {o : Obj} (e : h.get? a = some o) : ∃ o', h'.get? a = some o' := by
  by_cases s : Soft o
  · obtain ⟨ps, rfl⟩ := s
    obtain ⟨m, e'⟩ := x.t a ps e
    exact ⟨_, e'⟩
  · exact ⟨_, x.k a o e (.inl s)⟩
theorem Kp.upd {g h h' : Heap} (x : Kp g h) {P : Addr → Prop} (hP : ∀ a, P a → g.get? a = none) (ho : ∀ a o, h.get? a = some o → ¬ P a → h'.get? a = some o) : Kp g h' := by
  have np : ∀ a o, g.get? a = some o → ¬ P a := fun a o e p => by rw [hP a p] at e; cases e
  refine ⟨fun a o e n => ho a o (x.k a o e n) (np a o e), fun a ps e => let ⟨m, e'⟩ := x.t a ps e; ⟨m, ho _ _ e' (np a _ e)⟩, fun tg => ?_⟩
  obtain ⟨⟨o1, e1⟩, ⟨o2, e2⟩⟩ := And.intro tg.1.there tg.2.there
  have := x.w tg
  exact ⟨this.1.keep fun o e => ho _ _ e (np _ _ e1), this.2.keep fun o e => ho _ _ e (np _ _ e2)⟩
theorem Kp.h {h h' : Heap} (x : Kp h h') {a : Addr} {o : Obj} (hh : hard o = true) (e : h.get? a = some o) : h'.get? a = some o := x.k a o e (.inl (hard_not_soft hh))
theorem Kp.ns {h h' : Heap} (x : Kp h h') {a : Addr} {m} (n : h.Ns a m) : h'.Ns a m := let ⟨o, es, ep, e, hd, r⟩ := n; ⟨o, es, ep, x.k _ _ e (.inl (not_soft_dict hd)), hd, r⟩
theorem Kp.cell {h h' : Heap} (x : Kp h h') {a : Addr} {v} (n : h.IsCell a v) : h'.IsCell a v := let ⟨o, e, hd⟩ := n; ⟨o, x.k _ _ e (.inl (not_soft_cell hd)), hd⟩

/-- what data lies on stays -/
noncomputable def KeepD (Mt : Addr → Prop) (h h' : Heap) : Prop := ∀ a o, hard o = true → ¬ Mt a → h.get? a = some o → h'.get? a = some o

theorem hard_list {vs : List Value} {n : Nat} : hard (listObj vs n) = true := rfl
theorem hard_tup {vs : List Value} {n : Nat} : hard (tupObj vs n) = true := rfl

theorem KeepD.of_stays {Mt : Addr → Prop} {h h' : Heap} (k : Kp h h') : KeepD Mt h h' := fun a o hh _ e => k.h hh e
theorem KeepD.of_same {Mt : Addr → Prop} {h h' : Heap} {b : Addr} (k : Heap.SameBut b h h') (hb : Mt b ∨ ∀ o, h.get? b = some o → hard o = false) : KeepD Mt h h' := by
  intro a o ho hm e
  have : a ≠ b := by
    rintro rfl
    rcases hb with hb | hb
    · exact hm hb
    · rw [hb o e] at ho; cases ho
  exact (k.2 a this).trans e
theorem KeepD.of_ext {Mt : Addr → Prop} {h h' : Heap} {b : Addr} (k : Heap.ExtBut b h h') (hb : Mt b ∨ ∀ o, h.get? b = some o → hard o = false) : KeepD Mt h h' := by
  intro a o ho hm e
  have : a ≠ b := by
    rintro rfl
    rcases hb with hb | hb
    · exact hm hb
    · rw [hb o e] at ho; cases ho
  exact k a o this e
theorem KeepD.trans {Mt : Addr → Prop} {h h' h'' : Heap} (x : KeepD Mt h h') (y : KeepD Mt h' h'') : KeepD Mt h h'' := fun a o ho hm e => y a o ho hm (x a o ho hm e)

mutual
theorem Rep.keepD {Mt : Addr → Prop} {h h' : Heap} (k : KeepD Mt h h') : ∀ {d : D} {v : Value}, Rep h Mt d v → Rep h' Mt d v
  | .none, _, r | .bool _, _, r | .int _, _, r | .str _, _, r | .bytes _, _, r | .val _, _, r => by simpa only [Rep] using r
  | .tup l, v, r => by
    simp only [Rep] at r ⊢
    obtain ⟨a, vs, n, e, m, o, q⟩ := r
    exact ⟨a, vs, n, e, m, k _ _ hard_tup m o, RepL.keepD k q⟩
  | .list l, v, r => by
    simp only [Rep] at r ⊢
    obtain ⟨a, vs, n, e, m, o, q⟩ := r
    exact ⟨a, vs, n, e, m, k _ _ hard_list m o, RepL.keepD k q⟩
  | .mat t sp, v, r => by
    simp only [Rep] at r ⊢
    obtain ⟨a, b, tk, pat, p, q, li, n, e, m1, m2, o1, o2⟩ := r
    exact ⟨a, b, tk, pat, p, q, li, n, e, m1, m2, k _ _ rfl m1 o1, k _ _ hard_tup m2 o2⟩
  | .lam, v, r => by
    simp only [Rep] at r ⊢
    obtain ⟨a, o, f, e, m, ho, hc, hd⟩ := r
    exact ⟨a, o, f, e, m, k _ _ (by unfold hard; rw [hd]) m ho, hc, hd⟩
  | .rng lo hi st, v, r => by
    simp only [Rep] at r ⊢
    obtain ⟨a, t1, t2, t3, e, m, o⟩ := r
    exact ⟨a, t1, t2, t3, e, m, k _ _ rfl m o⟩
theorem RepL.keepD {Mt : Addr → Prop} {h h' : Heap} (k : KeepD Mt h h') : ∀ {ds : List D} {vs : List Value}, RepL h Mt ds vs → RepL h' Mt ds vs
  | [], _, r => by simpa only [RepL] using r
  | d :: ds, _, r => by
    simp only [RepL] at r ⊢
    obtain ⟨v, q, e, r1, r2⟩ := r
    exact ⟨v, q, e, Rep.keepD k r1, RepL.keepD k r2⟩
end

mutual
theorem Rep.less {Mt Mt' : Addr → Prop} {h : Heap} (k : ∀ a o, h.get? a = some o → Mt' a → Mt a) : ∀ {d : D} {v : Value}, Rep h Mt d v → Rep h Mt' d v
  | .none, _, r | .bool _, _, r | .int _, _, r | .str _, _, r | .bytes _, _, r | .val _, _, r => by simpa only [Rep] using r
  | .tup l, v, r => by
    simp only [Rep] at r ⊢
    obtain ⟨a, vs, n, e, m, o, q⟩ := r
    exact ⟨a, vs, n, e, fun x => m (k _ _ o x), o, RepL.less k q⟩
  | .list l, v, r => by
    simp only [Rep] at r ⊢
    obtain ⟨a, vs, n, e, m, o, q⟩ := r
    exact ⟨a, vs, n, e, fun x => m (k _ _ o x), o, RepL.less k q⟩
  | .mat t sp, v, r => by
    simp only [Rep] at r ⊢
    obtain ⟨a, b, tk, pat, p, q, li, n, e, m1, m2, o1, o2⟩ := r
    exact ⟨a, b, tk, pat, p, q, li, n, e, fun x => m1 (k _ _ o1 x), fun x => m2 (k _ _ o2 x), o1, o2⟩
  | .lam, v, r => by
    simp only [Rep] at r ⊢
    obtain ⟨a, o, f, e, m, ho, hc, hd⟩ := r
    exact ⟨a, o, f, e, fun x => m (k _ _ ho x), ho, hc, hd⟩
  | .rng lo hi st, v, r => by
    simp only [Rep] at r ⊢
    obtain ⟨a, t1, t2, t3, e, m, o⟩ := r
    exact ⟨a, t1, t2, t3, e, fun x => m (k _ _ o x), o⟩
theorem RepL.less {Mt Mt' : Addr → Prop} {h : Heap} (k : ∀ a o, h.get? a = some o → Mt' a → Mt a) : ∀ {ds : List D} {vs : List Value}, RepL h Mt ds vs → RepL h Mt' ds vs
  | [], _, r => by simpa only [RepL] using r
  | d :: ds, _, r => by
    simp only [RepL] at r ⊢
    obtain ⟨v, q, e, r1, r2⟩ := r
    exact ⟨v, q, e, Rep.less k r1, RepL.less k r2⟩
end

theorem RepL.nil {h : Heap} {Mt : Addr → Prop} : RepL h Mt [] [] := by simp only [RepL]
theorem RepL.cons {h : Heap} {Mt : Addr → Prop} {d : D} {ds : List D} {v : Value} {vs : List Value} (a : Rep h Mt d v) (b : RepL h Mt ds vs) : RepL h Mt (d :: ds) (v :: vs) := by
  simp only [RepL]; exact ⟨v, vs, rfl, a, b⟩
theorem RepL.length {h : Heap} {Mt : Addr → Prop} : ∀ {ds : List D} {vs : List Value}, RepL h Mt ds vs → vs.length = ds.length
  | [], _, r => by simp only [RepL] at r; subst r; rfl
  | d :: ds, _, r => by
    simp only [RepL] at r
    obtain ⟨v, q, e, r1, r2⟩ := r
    subst e
    simp only [List.length_cons, r2.length]
theorem RepL.append {h : Heap} {Mt : Addr → Prop} : ∀ {ds es : List D} {vs us : List Value}, RepL h Mt ds vs → RepL h Mt es us → RepL h Mt (ds ++ es) (vs ++ us)
  | [], _, _, _, r, q => by simp only [RepL] at r; subst r; exact q
  | d :: ds, _, _, _, r, q => by
    simp only [RepL] at r
    obtain ⟨v, vs', e, r1, r2⟩ := r
    subst e
    exact .cons r1 (r2.append q)
theorem RepL.get {h : Heap} {Mt : Addr → Prop} : ∀ {ds : List D} {vs : List Value} {i : Nat} {d : D}, RepL h Mt ds vs → ds[i]? = some d → ∃ v, vs[i]? = some v ∧ Rep h Mt d v
  | [], _, _, _, r, q => by simp at q
  | d :: ds, _, i, x, r, q => by
    simp only [RepL] at r
    obtain ⟨v, vs', e, r1, r2⟩ := r
    subst e
    cases i with
    | zero => simp only [List.getElem?_cons_zero, Option.some.injEq] at q; subst q; exact ⟨v, rfl, r1⟩
    | succ i => simpa only [List.getElem?_cons_succ] using r2.get (by simpa only [List.getElem?_cons_succ] using q)
theorem RepL.cons_inv {h : Heap} {Mt : Addr → Prop} {d : D} {ds : List D} {vs : List Value} (r : RepL h Mt (d :: ds) vs) : ∃ v q, vs = v :: q ∧ Rep h Mt d v ∧ RepL h Mt ds q := by simpa only [RepL] using r
theorem RepL.nil_inv {h : Heap} {Mt : Addr → Prop} {vs : List Value} (r : RepL h Mt [] vs) : vs = [] := by simpa only [RepL] using r
theorem RepL.take {h : Heap} {Mt : Addr → Prop} : ∀ {ds : List D} {vs : List Value} (n : Nat), RepL h Mt ds vs → RepL h Mt (ds.take n) (vs.take n)
  | _, _, 0, _ => by simp only [List.take_zero]; exact .nil
  | [], _, _ + 1, r => by rw [r.nil_inv]; simp only [List.take_nil]; exact .nil
  | d :: ds, _, n + 1, r => by
    obtain ⟨v, q, e, r1, r2⟩ := r.cons_inv
    subst e
    simp only [List.take_succ_cons]; exact .cons r1 (r2.take n)
theorem RepL.drop {h : Heap} {Mt : Addr → Prop} : ∀ {ds : List D} {vs : List Value} (n : Nat), RepL h Mt ds vs → RepL h Mt (ds.drop n) (vs.drop n)
  | _, _, 0, r => by simpa only [List.drop_zero] using r
  | [], _, _ + 1, r => by rw [r.nil_inv]; simp only [List.drop_nil]; exact .nil
  | d :: ds, _, n + 1, r => by
    obtain ⟨v, q, e, r1, r2⟩ := r.cons_inv
    subst e
    simpa only [List.drop_succ_cons] using r2.drop n

/-- a def's owned things -/
inductive Ent where
  | fz (d : D)
  | own (ds : List D)
  | ba (b : Array UInt8)
  | ownL (front : List D) (last : List D)

noncomputable abbrev Sto := List (Str × Ent)

noncomputable def EntAt (h : Heap) (Mt : Addr → Prop) : Ent → Value → List Addr → Prop
  | .fz d, v, as => Rep h Mt d v ∧ as = []
  | .own ds, v, as => ∃ a vs n, v = .ref a ∧ as = [a] ∧ h.get? a = some (listObj vs n) ∧ RepL h Mt ds vs
  | .ba b, v, as => ∃ a, v = .ref a ∧ as = [a] ∧ h.get? a = some { cls := .type "bytearray", data := .bytearray b 0 }
  | .ownL front last, v, as => ∃ a b vs n us k, v = .ref a ∧ as = [a, b] ∧ h.get? a = some (listObj (vs ++ [.ref b]) n) ∧ RepL h Mt front vs ∧ h.get? b = some (listObj us k) ∧ RepL h Mt last us

noncomputable def VarIs (h : Heap) (env : Env) (x : Str) (v : Value) : Prop :=
  (env.kindOf x = some .local ∧ ∃ m, h.Ns env.locals m ∧ m x = some v) ∨
  (env.kindOf x = some .cell ∧ ∃ c, env.cells.lookup x = some c ∧ h.IsCell c (some v))

structure Gd (w : World) (h : Heap) : Prop where
  k : (KF w).In h
  g : ∃ mg, h.Ns mainGlobals mg
  b : ∃ mb, h.Ns builtinsNs mb ∧ ∀ x : Str, x ≠ "__name__" → mb x = bootBuiltins x
  nl : h.NoLimit
  tg : TG h
  bm : ∃ mg bm ob, h.Ns mainGlobals mg ∧ mg "__builtins__" = some (.ref bm) ∧ bm ≠ builtinsNs ∧ h.get? bm = some ob ∧ ob.cls = .type "module" ∧ ob.dict = some builtinsNs ∧ ob.data = .plain
theorem k65 {w : World} : (KF w).lookup 65 = none := by kernel_rfl
theorem k82 {w : World} : (KF w).lookup 82 = none := by kernel_rfl
theorem Gd.keeps {w : World} {h h' : Heap} (x : Gd w h) (k : Kp h h') : Gd w h' :=
  ⟨fun a o e => k.k a o (x.k a o e) (.inr ⟨fun q => (by rw [q, k65] at e; cases e), fun q => (by rw [q, k82] at e; cases e)⟩), let ⟨mg, g⟩ := x.g; ⟨mg, k.ns g⟩, let ⟨mb, b, q⟩ := x.b; ⟨mb, k.ns b, q⟩, let ⟨mc, a, b⟩ := x.nl; ⟨mc, k.ns a, b⟩, k.w x.tg, let ⟨mg, bm, ob, a, b, c, d, e, f, g⟩ := x.bm; ⟨mg, bm, ob, k.ns a, b, c, k.k _ _ d (.inl (not_soft_cls (by rw [e]; nofun))), e, f, g⟩⟩

structure StF (w : World) (g : Heap) (Mt₀ Mt : Addr → Prop) (fr : List Addr) (env : Env) (σ : Sto) (h : Heap) : Prop where
  gd : Gd w g
  stays : Kp g h
  kind : env.scope.kind = .function
  glob : env.globals = mainGlobals
  blt : env.builtins = builtinsNs
  above : g.objs.size ≤ env.locals
  ns : ∃ m, h.Ns env.locals m
  cells : ∀ x c, env.cells.lookup x = some c → ∃ v, h.IsCell c v
  inj : ∀ x y c, env.cells.lookup x = some c → env.cells.lookup y = some c → x = y
  bd : ∀ a, Mt a → ∃ o, h.get? a = some o
  sub : ∀ a, Mt₀ a → Mt a ∧ a < g.objs.size
  vars : ∃ μ : Str → List Addr, (∀ x e, σ.lookup x = some e → ∃ v, VarIs h env x v ∧ EntAt h Mt e v (μ x) ∧ (μ x).Nodup ∧ ∀ a ∈ μ x, Mt a ∧ g.objs.size ≤ a) ∧
    (∀ x y e f, σ.lookup x = some e → σ.lookup y = some f → x ≠ y → ∀ a ∈ μ x, a ∉ μ y) ∧
    ∀ x e, σ.lookup x = some e → ∀ a ∈ μ x, a ∉ fr
noncomputable abbrev St (w : World) (g : Heap) (Mt₀ Mt : Addr → Prop) (env : Env) (σ : Sto) (h : Heap) : Prop := StF w g Mt₀ Mt [] env σ h

theorem VarIs.keeps {h h' : Heap} {env : Env} {x : Str} {v : Value} (k : Kp h h') (r : VarIs h env x v) : VarIs h' env x v := by
  rcases r with ⟨a, m, n, e⟩ | ⟨a, c, l, o, ho, hd⟩
  · exact .inl ⟨a, m, k.ns n, e⟩
  · exact .inr ⟨a, c, l, o, k.k _ _ ho (.inl (not_soft_cell hd)), hd⟩
theorem EntAt.keeps {h h' : Heap} {Mt : Addr → Prop} {e : Ent} {v : Value} {as : List Addr} (k : Kp h h') (r : EntAt h Mt e v as) : EntAt h' Mt e v as := by
  cases e with
  | fz d => exact ⟨r.1.keepD (.of_stays k), r.2⟩
  | own ds => obtain ⟨a, vs, n, e1, e2, o, q⟩ := r; exact ⟨a, vs, n, e1, e2, k.h rfl o, q.keepD (.of_stays k)⟩
  | ba b => obtain ⟨a, e1, e2, o⟩ := r; exact ⟨a, e1, e2, k.k _ _ o (.inl (not_soft_cls no_type))⟩
  | ownL f l => obtain ⟨a, b, vs, n, us, kk, e1, e2, o, q, o2, q2⟩ := r; exact ⟨a, b, vs, n, us, kk, e1, e2, k.h rfl o, q.keepD (.of_stays k), k.h rfl o2, q2.keepD (.of_stays k)⟩


theorem StF.keeps {w : World} {g : Heap} {Mt₀ Mt : Addr → Prop} {fr : List Addr} {env : Env} {σ : Sto} {h h' : Heap} (S : StF w g Mt₀ Mt fr env σ h) (k : Kp h h') : StF w g Mt₀ Mt fr env σ h' where
  gd := S.gd
  stays := S.stays.trans k
  kind := S.kind
  glob := S.glob
  blt := S.blt
  above := S.above
  ns := let ⟨m, n⟩ := S.ns; ⟨m, k.ns n⟩
  cells := fun x c e => let ⟨v, hv⟩ := S.cells x c e; ⟨v, k.cell hv⟩
  inj := S.inj
  bd := fun a m => let ⟨o, e⟩ := S.bd a m; k.alive e
  sub := S.sub
  vars := let ⟨μ, p, q⟩ := S.vars; ⟨μ, fun x e he => let ⟨v, a, b, c⟩ := p x e he; ⟨v, a.keeps k, b.keeps k, c⟩, q⟩
theorem StF.now {w : World} {g : Heap} {Mt₀ Mt : Addr → Prop} {fr : List Addr} {env : Env} {σ : Sto} {h : Heap} (S : StF w g Mt₀ Mt fr env σ h) : Gd w h := S.gd.keeps S.stays

/-- room for n calls in one another -/
structure Room (A : Around) (n : Nat) : Prop where
  d : A.depth + n < 1000
  u : A.units + 10 * n < 9900
  hd : A.handled = none

noncomputable abbrev Ret (s : Shared) (Mt : Addr → Prop) (Q : D → Prop) (R : Value → Shared → Prop) : Prop :=
  ∀ v h' tk' d, Kp s.heap h' → Rep h' Mt d v → Q d → R v { s with heap := h', toks := tk' }

/-- an expression, on data -/
noncomputable def WE (w : World) (n : Nat) (env : Env) (σ : Sto) (e : Expr) (Q : D → Prop) : Prop :=
  ∀ (A : Around) (s : Shared) (g : Heap) (Mt₀ Mt : Addr → Prop) (R : Value → Shared → Prop) (E : Value → Shared → Prop),
    Room A n → St w g Mt₀ Mt env σ s.heap → Ret s Mt Q R → wpAny (model prog w) A (eval e env) R E s

noncomputable abbrev RetB (s : Shared) (Q : Bool → Prop) (R : Bool → Shared → Prop) : Prop :=
  ∀ b h' tk', Kp s.heap h' → Q b → R b { s with heap := h', toks := tk' }

/-- a test -/
noncomputable def WT (w : World) (n : Nat) (env : Env) (σ : Sto) (e : Expr) (Q : Bool → Prop) : Prop :=
  ∀ (A : Around) (s : Shared) (g : Heap) (Mt₀ Mt : Addr → Prop) (R : Bool → Shared → Prop) (E : Value → Shared → Prop),
    Room A n → St w g Mt₀ Mt env σ s.heap → RetB s Q R → wpAny (model prog w) A (isTrue e env (eval e env)) R E s

/-- an operation of some values -/
noncomputable def WO (w : World) (n : Nat) (ds : List D) (op : List Value → Sem Value) (Q : D → Prop) : Prop :=
  ∀ (A : Around) (s : Shared) (Mt : Addr → Prop) (vs : List Value) (R : Value → Shared → Prop) (E : Value → Shared → Prop),
    Room A n → Gd w s.heap → (∀ a, Mt a → ∃ o, s.heap.get? a = some o) → RepL s.heap Mt ds vs → Ret s Mt Q R → wpAny (model prog w) A (op vs) R E s

/-- a call of a def of the text -/
noncomputable def WF (w : World) (n : Nat) (f : Addr) (ds : List D) (Q : D → Prop) : Prop := WO w n ds (fun vs => call (.ref f) vs) Q

inductive FlowD where
  | next | brk | cont
  | ret (d : D)

noncomputable def FlowRep (h : Heap) (Mt : Addr → Prop) : Flow → FlowD → Prop
  | .next, .next => True
  | .brk, .brk => True
  | .cont, .cont => True
  | .ret v, .ret d => Rep h Mt d v
  | _, _ => False

/-- what a statement may change -/
structure Stp (env : Env) (Mt : Addr → Prop) (h : Heap) (Mt' : Addr → Prop) (h' : Heap) : Prop where
  fra : ∀ a o, h.get? a = some o → ¬ Soft o → a ≠ env.locals → (∀ x, env.cells.lookup x ≠ some a) → ¬ Mt a → h'.get? a = some o
  mt : ∀ a, Mt' a → Mt a ∨ h.get? a = none
  alive : ∀ a o, h.get? a = some o → ∃ o', h'.get? a = some o'
theorem Stp.of_stays {env : Env} {Mt : Addr → Prop} {h h' : Heap} (k : Kp h h') : Stp env Mt h Mt h' := ⟨fun a o e s _ _ _ => k.k a o e (.inl s), fun _ m => .inl m, fun a o e => k.alive e⟩
theorem Stp.trans {env : Env} {Mt Mt' Mt'' : Addr → Prop} {h h' h'' : Heap} (p : Stp env Mt h Mt' h') (q : Stp env Mt' h' Mt'' h'') : Stp env Mt h Mt'' h'' := by
  refine ⟨fun a o e s l c m => q.fra a o (p.fra a o e s l c m) s l c fun m' => ?_, fun a m => ?_, fun a o e => ?_⟩
  · rcases p.mt a m' with x | x
    · exact m x
    · rw [x] at e; cases e
  · rcases q.mt a m with x | x
    · exact p.mt a x
    · cases hx : h.get? a with
      | none => exact .inr rfl
      | some o =>
        obtain ⟨o', e'⟩ := p.alive a o hx
        rw [x] at e'; cases e'
  · obtain ⟨o', e'⟩ := p.alive a o e
    exact q.alive a o' e'

noncomputable abbrev RetS (w : World) (g : Heap) (Mt₀ : Addr → Prop) (env : Env) (Mt : Addr → Prop) (s : Shared) (Q : FlowD → Sto → Prop) (R : Flow → Shared → Prop) : Prop :=
  ∀ f h' tk' fd σ' Mt', St w g Mt₀ Mt' env σ' h' → Stp env Mt s.heap Mt' h' → FlowRep h' Mt' f fd → Q fd σ' → R f { s with heap := h', toks := tk' }

/-- a statement; statements -/
noncomputable def WX (w : World) (n : Nat) (env : Env) (σ : Sto) (t : Stmt) (Q : FlowD → Sto → Prop) : Prop :=
  ∀ (A : Around) (s : Shared) (g : Heap) (Mt₀ Mt : Addr → Prop) (R : Flow → Shared → Prop) (E : Value → Shared → Prop),
    Room A n → St w g Mt₀ Mt env σ s.heap → RetS w g Mt₀ env Mt s Q R → wpAny (model prog w) A (exec t env) R E s
noncomputable def WS (w : World) (n : Nat) (env : Env) (σ : Sto) (ts : List Stmt) (Q : FlowD → Sto → Prop) : Prop :=
  ∀ (A : Around) (s : Shared) (g : Heap) (Mt₀ Mt : Addr → Prop) (R : Flow → Shared → Prop) (E : Value → Shared → Prop),
    Room A n → St w g Mt₀ Mt env σ s.heap → RetS w g Mt₀ env Mt s Q R → wpAny (model prog w) A (execs ts env) R E s

theorem stays_refl (h : Heap) : Kp h h := .of fun _ _ e => e
theorem stays_trans {h h' h'' : Heap} (a : Kp h h') (b : Kp h' h'') : Kp h h'' := a.trans b
theorem stays_push (h : Heap) (o : Obj) : Kp h (h.push o) := .of fun _ _ e => Heap.get?_push_of_some o e

section
variable {w : World} {n : Nat} {env : Env} {σ : Sto} {Q : D → Prop} {B : Bool → Prop}

theorem WE.mono {e : Expr} {Q' : D → Prop} (h : WE w n env σ e Q) (k : ∀ d, Q d → Q' d) : WE w n env σ e Q' :=
  fun A s g Mt₀ Mt R E r S q => h A s g Mt₀ Mt R E r S fun v h' tk' d a b c => q v h' tk' d a b (k d c)
theorem WT.mono {e : Expr} {B' : Bool → Prop} (h : WT w n env σ e B) (k : ∀ d, B d → B' d) : WT w n env σ e B' :=
  fun A s g Mt₀ Mt R E r S q => h A s g Mt₀ Mt R E r S fun v h' tk' a b => q v h' tk' a (k v b)
theorem WS.mono {e : List Stmt} {P P' : FlowD → Sto → Prop} (h : WS w n env σ e P) (k : ∀ f s, P f s → P' f s) : WS w n env σ e P' :=
  fun A s g Mt₀ Mt R E r S q => h A s g Mt₀ Mt R E r S fun f h' tk' fd σ' Mt' a p b c => q f h' tk' fd σ' Mt' a p b (k _ _ c)
theorem WX.mono {e : Stmt} {P P' : FlowD → Sto → Prop} (h : WX w n env σ e P) (k : ∀ f s, P f s → P' f s) : WX w n env σ e P' :=
  fun A s g Mt₀ Mt R E r S q => h A s g Mt₀ Mt R E r S fun f h' tk' fd σ' Mt' a p b c => q f h' tk' fd σ' Mt' a p b (k _ _ c)
theorem WO.mono {ds : List D} {op : List Value → Sem Value} {Q' : D → Prop} (h : WO w n ds op Q) (k : ∀ d, Q d → Q' d) : WO w n ds op Q' :=
  fun A s Mt vs R E r g b x q => h A s Mt vs R E r g b x fun v h' tk' d a b c => q v h' tk' d a b (k d c)

theorem WE.str {x : Str} {k pos} (h : Q (.str x)) : WE w n env σ (.Constant (.str x) k pos) Q :=
  fun A s g Mt₀ Mt R E r S q => wpAny_Constant_str (q _ _ _ (.str x) (stays_refl _) (by simp only [Rep]; exact ⟨_, rfl⟩) h)
theorem WE.int {x : Int} {k pos} (h : Q (.int x)) : WE w n env σ (.Constant (.int x) k pos) Q :=
  fun A s g Mt₀ Mt R E r S q => wpAny_Constant_int (q _ _ _ (.int x) (stays_refl _) (by simp only [Rep]; exact ⟨_, rfl⟩) h)
theorem WE.none {k pos} (h : Q .none) : WE w n env σ (.Constant .none k pos) Q :=
  fun A s g Mt₀ Mt R E r S q => wpAny_Constant_none (q _ s.heap s.toks .none (stays_refl _) (by simp only [Rep]) h)
theorem WE.bool {b : Bool} {k pos} (h : Q (.bool b)) : WE w n env σ (.Constant (.bool b) k pos) Q :=
  fun A s g Mt₀ Mt R E r S q => wpAny_Constant_bool (q _ s.heap s.toks (.bool b) (stays_refl _) (by simp only [Rep]) h)

theorem load_var {M : Model} {A : Around} {E : Value → Shared → Prop} {s : Shared} {x : Str} {v : Value} {R : Value → Shared → Prop} (hk : env.scope.kind = .function) (V : VarIs s.heap env x v) (h : R v s) :
    wpAny M A (loadName env x) R E s := by
  rcases V with ⟨l, m, hn, e⟩ | ⟨l, c, e, hc⟩
  · exact wpAny_loadName_local hk l hn e h
  · exact wpAny_loadName_cell hk l e hc h

theorem WE.var {x : Str} {pos : Pos} {d : D} (hx : σ.lookup x = some (.fz d)) (h : Q d) (hd : (x == ("__debug__" : Str)) = Bool.false := by decide) : WE w n env σ (.Name x pos) Q := by
  intro A s g Mt₀ Mt R E r S q
  obtain ⟨μ, p, _⟩ := S.vars
  obtain ⟨v, V, ⟨T, _⟩, _⟩ := p _ _ hx
  exact wpAny_Name (load_var S.kind V (q v s.heap s.toks d (stays_refl _) T h)) hd

theorem load_glob {M : Model} {A : Around} {E : Value → Shared → Prop} {s : Shared} {x : Str} {v : Value} {R : Value → Shared → Prop} (hk : env.scope.kind = .function) (hg : env.globals = mainGlobals)
    (G : Gd w s.heap) (hl : env.kindOf x = some .globalImplicit) (e : nsIn (KF w) mainGlobals x = some (some v)) (h : R v s) : wpAny M A (loadName env x) R E s := by
  obtain ⟨mg, g⟩ := G.g
  have hm := mg_of G.k g e
  intro Γ p hΓ
  unfold loadName
  simp only [Env.blockKind, hk, hl, ScopeKind.isAnnotationScope, Bool.false_and, Bool.false_eq_true, if_false]
  unfold loadGlobal
  rw [hg]
  refine wpAny_bind (M := M) (A := A) (E := E) (s := s) (wpAny_nsGet g ?_) Γ p hΓ
  rw [hm]
  exact wpAny_pure h
theorem load_blt {M : Model} {A : Around} {E : Value → Shared → Prop} {s : Shared} {x : Str} {v : Value} {R : Value → Shared → Prop} (hk : env.scope.kind = .function) (hg : env.globals = mainGlobals) (hb : env.builtins = builtinsNs)
    (G : Gd w s.heap) (hl : env.kindOf x = some .globalImplicit) (e : nsIn (KF w) mainGlobals x = some Option.none) (hv : bootBuiltins x = some v) (hn : x ≠ "__name__") (h : R v s) : wpAny M A (loadName env x) R E s := by
  obtain ⟨mg, g⟩ := G.g
  obtain ⟨mb, b, hb'⟩ := G.b
  have hm := mg_none_of G.k g e
  intro Γ p hΓ
  unfold loadName
  simp only [Env.blockKind, hk, hl, ScopeKind.isAnnotationScope, Bool.false_and, Bool.false_eq_true, if_false]
  unfold loadGlobal
  rw [hg, hb]
  refine wpAny_bind (M := M) (A := A) (E := E) (s := s) (wpAny_nsGet g ?_) Γ p hΓ
  rw [hm]
  refine wpAny_bind (M := M) (A := A) (E := E) (s := s) (wpAny_nsGet b ?_)
  rw [hb' x hn, hv]
  exact wpAny_pure h
end
end Mine
end

section
open PySem PySem.W PyProof.Rows PySem.Calls
set_option Elab.async false
set_option linter.unusedVariables false
namespace Mine

section
variable {w : World} {n : Nat} {env : Env} {σ : Sto} {Q : D → Prop} {B : Bool → Prop}

theorem WE.glob {x : Str} {pos : Pos} {v : Value} (hl : env.kindOf x = some .globalImplicit) (e : nsIn (KF w) mainGlobals x = some (some v)) (h : Q (.val v))
    (hd : (x == ("__debug__" : Str)) = Bool.false := by decide) : WE w n env σ (.Name x pos) Q :=
  fun A s g Mt₀ Mt R E r S q => wpAny_Name (load_glob S.kind S.glob S.now hl e (q v s.heap s.toks (.val v) (stays_refl _) (by simp only [Rep]) h)) hd
theorem WE.blt {x : Str} {pos : Pos} {v : Value} (hl : env.kindOf x = some .globalImplicit) (e : nsIn (KF w) mainGlobals x = some Option.none) (hv : bootBuiltins x = some v) (h : Q (.val v)) (hn : x ≠ "__name__" := by decide)
    (hd : (x == ("__debug__" : Str)) = Bool.false := by decide) : WE w n env σ (.Name x pos) Q :=
  fun A s g Mt₀ Mt R E r S q => wpAny_Name (load_blt S.kind S.glob S.blt S.now hl e hv hn (q v s.heap s.toks (.val v) (stays_refl _) (by simp only [Rep]) h)) hd

/-- two in a row -/
theorem Ret.after {s : Shared} {Mt : Addr → Prop} {h' : Heap} {tk : Nat} {R : Value → Shared → Prop} (k : Kp s.heap h') (q : Ret s Mt Q R) : Ret { s with heap := h', toks := tk } Mt Q R :=
  fun v h'' tk' d a b c => q v h'' tk' d (stays_trans k a) b c

theorem WE.binop {l op r pos} (h : WE w n env σ l fun a => WE w n env σ r fun b => WO w n [a, b] (fun vs => binaryOp op (vs.getD 0 .none) (vs.getD 1 .none)) Q) : WE w n env σ (.BinOp l op r pos) Q := by
  intro A s g Mt₀ Mt R E ro S q
  refine wpAny_BinOp (h A s g Mt₀ Mt _ E ro S fun v h' tk' d k r1 h2 => ?_)
  have S1 := S.keeps k
  refine h2 A _ g Mt₀ Mt _ E ro S1 fun v2 h'' tk'' d2 k2 r2 h3 => ?_
  have S2 := S1.keeps k2
  exact h3 A _ Mt [v, v2] R E ro S2.now S2.bd (.cons (r1.keepD (.of_stays k2)) (.cons r2 .nil)) (Ret.after (s := s) (stays_trans k k2) q)

theorem WE.cmp {l op r pos} (h : WE w n env σ l fun a => WE w n env σ r fun b => WO w n [a, b] (fun vs => compareOp op (vs.getD 0 .none) (vs.getD 1 .none)) Q)
    (hm : behindInMarks op r = Bool.false := by with_unfolding_all rfl) : WE w n env σ (.Compare l [op] [r] pos) Q := by
  intro A s g Mt₀ Mt R E ro S q
  refine wpAny_Compare1 (h A s g Mt₀ Mt _ E ro S fun v h' tk' d k r1 h2 => ?_) hm
  have S1 := S.keeps k
  refine h2 A _ g Mt₀ Mt _ E ro S1 fun v2 h'' tk'' d2 k2 r2 h3 => ?_
  have S2 := S1.keeps k2
  exact h3 A _ Mt [v, v2] R E ro S2.now S2.bd (.cons (r1.keepD (.of_stays k2)) (.cons r2 .nil)) (Ret.after (s := s) (stays_trans k k2) q)

/-- the truth of a value -/
noncomputable def Tru (w : World) (n : Nat) (d : D) (B : Bool → Prop) : Prop :=
  ∀ (A : Around) (s : Shared) (Mt : Addr → Prop) (v : Value) (R : Bool → Shared → Prop) (E : Value → Shared → Prop),
    Room A n → Gd w s.heap → Rep s.heap Mt d v → RetB s B R → wpAny (model prog w) A (truthy v) R E s
theorem Tru.bool {b : Bool} (h : B b) : Tru w n (.bool b) B := by
  intro A s Mt v R E ro G r q
  simp only [Rep] at r; subst r
  exact wpAny_truthy_bool (q b s.heap s.toks (stays_refl _) h)
theorem Tru.none (h : B false) : Tru w n .none B := by
  intro A s Mt v R E ro G r q
  simp only [Rep] at r; subst r
  exact wpAny_pure (q false s.heap s.toks (stays_refl _) h)

theorem WT.cmp {l op r pos} (h : WE w n env σ l fun a => WE w n env σ r fun b => WO w n [a, b] (fun vs => compareOp op (vs.getD 0 .none) (vs.getD 1 .none)) fun c => Tru w n c B)
    (hm : behindInMarks op r = Bool.false := by with_unfolding_all rfl) : WT w n env σ (.Compare l [op] [r] pos) B := by
  intro A s g Mt₀ Mt R E ro S q
  refine wpAny_isTrue_Compare1 (h A s g Mt₀ Mt _ E ro S fun v h' tk' d k r1 h2 => ?_) hm
  have S1 := S.keeps k
  refine h2 A _ g Mt₀ Mt _ E ro S1 fun v2 h'' tk'' d2 k2 r2 h3 => ?_
  have S2 := S1.keeps k2
  refine h3 A _ Mt [v, v2] _ E ro S2.now S2.bd (.cons (r1.keepD (.of_stays k2)) (.cons r2 .nil)) fun v3 h3' tk3 d3 k3 r3 h4 => ?_
  exact h4 A _ Mt v3 R E ro (S2.keeps k3).now r3 fun b h5 tk5 k5 hb => q b h5 tk5 (stays_trans (stays_trans k k2) (stays_trans k3 k5)) hb
theorem WT.val {e : Expr} (h : WE w n env σ e fun c => Tru w n c B) (he : ∀ whole, isTrue e env whole = (do let v ← whole; standAt e.pos; holding [v] (truthy v)) := by intro _; rfl) : WT w n env σ e B := by
  intro A s g Mt₀ Mt R E ro S q
  refine wpAny_isTrue_value (h A s g Mt₀ Mt _ E ro S fun v h' tk' d k r1 h2 => ?_) (he _)
  exact h2 A _ Mt v R E ro (S.keeps k).now r1 fun b h5 tk5 k5 hb => q b h5 tk5 (stays_trans k k5) hb
theorem WT.not {x : Expr} {pos : Pos} (h : WT w n env σ x fun b => B (!b)) : WT w n env σ (.UnaryOp .Not x pos) B := by
  intro A s g Mt₀ Mt R E ro S q
  exact wpAny_isTrue_Not (h A s g Mt₀ Mt _ E ro S fun b h' tk' k hb => q _ h' tk' k hb)

noncomputable def WAll (w : World) (n : Nat) (env : Env) (σ : Sto) (op : BoolOp) (es : List Expr) (Q : Bool → Prop) : Prop :=
  ∀ (A : Around) (s : Shared) (g : Heap) (Mt₀ Mt : Addr → Prop) (R : Bool → Shared → Prop) (E : Value → Shared → Prop),
    Room A n → St w g Mt₀ Mt env σ s.heap → RetB s Q R → wpAny (model prog w) A (allTrue op es env) R E s
theorem WT.boolop {op : BoolOp} {es : List Expr} {pos : Pos} (h : WAll w n env σ op es B) : WT w n env σ (.BoolOp op es pos) B :=
  fun A s g Mt₀ Mt R E ro S q => wpAny_isTrue_BoolOp (h A s g Mt₀ Mt R E ro S q)
theorem WAll.and_nil (h : B Bool.true) : WAll w n env σ .And [] B := fun A s g Mt₀ Mt R E ro S q => wpAny_allTrue_And_nil (q _ s.heap s.toks (stays_refl _) h)
theorem WAll.or_nil (h : B Bool.false) : WAll w n env σ .Or [] B := fun A s g Mt₀ Mt R E ro S q => wpAny_allTrue_Or_nil (q _ s.heap s.toks (stays_refl _) h)
theorem WAll.and {x : Expr} {r : List Expr} (h : WT w n env σ x fun b => (b = Bool.true → WAll w n env σ .And r B) ∧ (b = Bool.false → B Bool.false)) : WAll w n env σ .And (x :: r) B := by
  intro A s g Mt₀ Mt R E ro S q
  refine wpAny_allTrue_And_cons (h A s g Mt₀ Mt _ E ro S fun b h' tk' k hb => ?_)
  cases b with
  | false => exact q _ h' tk' k (hb.2 rfl)
  | true => exact hb.1 rfl A _ g Mt₀ Mt R E ro (S.keeps k) fun b2 h2 tk2 k2 hb2 => q b2 h2 tk2 (stays_trans k k2) hb2
theorem WAll.or {x : Expr} {r : List Expr} (h : WT w n env σ x fun b => (b = Bool.true → B Bool.true) ∧ (b = Bool.false → WAll w n env σ .Or r B)) : WAll w n env σ .Or (x :: r) B := by
  intro A s g Mt₀ Mt R E ro S q
  refine wpAny_allTrue_Or_cons (h A s g Mt₀ Mt _ E ro S fun b h' tk' k hb => ?_)
  cases b with
  | true => exact q _ h' tk' k (hb.1 rfl)
  | false => exact hb.2 rfl A _ g Mt₀ Mt R E ro (S.keeps k) fun b2 h2 tk2 k2 hb2 => q b2 h2 tk2 (stays_trans k k2) hb2

theorem WE.ifexp {t b o : Expr} {pos : Pos} (h : WT w n env σ t fun c => (c = Bool.true → WE w n env σ b Q) ∧ (c = Bool.false → WE w n env σ o Q)) : WE w n env σ (.IfExp t b o pos) Q := by
  intro A s g Mt₀ Mt R E ro S q
  refine wpAny_IfExp (h A s g Mt₀ Mt _ E ro S fun c h' tk' k hc => ?_)
  cases c with
  | true => exact hc.1 rfl A _ g Mt₀ Mt R E ro (S.keeps k) (Ret.after k q)
  | false => exact hc.2 rfl A _ g Mt₀ Mt R E ro (S.keeps k) (Ret.after k q)

/-- arguments -/
noncomputable def WA (w : World) (n : Nat) (env : Env) (σ : Sto) (es : List Expr) (Q : List D → Prop) : Prop :=
  ∀ (A : Around) (s : Shared) (g : Heap) (Mt₀ Mt : Addr → Prop) (pos : Pos) (R : List Value → Shared → Prop) (E : Value → Shared → Prop),
    Room A n → St w g Mt₀ Mt env σ s.heap → (∀ vs h' tk' ds, Kp s.heap h' → RepL h' Mt ds vs → Q ds → R vs { s with heap := h', toks := tk' }) → wpAny (model prog w) A (spliced (backTo pos (starEach es env))) R E s
theorem WA.nil {P : List D → Prop} (h : P []) : WA w n env σ [] P := fun A s g Mt₀ Mt pos R E ro S q => spliced_none (q [] s.heap s.toks [] (stays_refl _) .nil h)
theorem WA.cons {P : List D → Prop} {e : Expr} {r : List Expr} (h : WE w n env σ e fun d => WA w n env σ r fun ds => P (d :: ds))
    (he : starEach (e :: r) env = (Bool.false, eval e env) :: starEach r env := by rfl) : WA w n env σ (e :: r) P := by
  intro A s g Mt₀ Mt pos R E ro S q
  refine spliced_more (h A s g Mt₀ Mt _ E ro S fun v h' tk' d k r1 h2 => ?_) he
  exact h2 A _ g Mt₀ Mt pos _ E ro (S.keeps k) fun vs h'' tk'' ds k2 r2 h3 => q (v :: vs) h'' tk'' (d :: ds) (stays_trans k k2) (.cons (r1.keepD (.of_stays k2)) r2) h3

theorem WE.tuple {es : List Expr} {k pos} (h : WA w n env σ es fun ds => ds.length ≤ sizeLine ∧ Q (.tup ds)) : WE w n env σ (.Tuple es k pos) Q := by
  intro A s g Mt₀ Mt R E ro S q
  refine wpAny_Tuple (h A s g Mt₀ Mt pos _ E ro S fun vs h' tk' ds k r hq => ⟨by rw [r.length]; exact hq.1, ?_⟩)
  have S1 := S.keeps k
  refine q _ _ _ (.tup ds) (stays_trans k (stays_push _ _)) ?_ hq.2
  simp only [Rep]
  refine ⟨_, vs, 0, rfl, fun m => ?_, Heap.get?_push_size _ rfl, r.keepD (.of_stays (stays_push _ _))⟩
  obtain ⟨o, e⟩ := S1.bd _ m
  exact Nat.lt_irrefl _ (Heap.lt_size e)
theorem WE.list {es : List Expr} {pos} (h : WA w n env σ es fun ds => ds.length ≤ sizeLine ∧ Q (.list ds)) : WE w n env σ (.List es pos) Q := by
  intro A s g Mt₀ Mt R E ro S q
  refine wpAny_List (h A s g Mt₀ Mt pos _ E ro S fun vs h' tk' ds k r hq => ⟨by rw [r.length]; exact hq.1, ?_⟩)
  have S1 := S.keeps k
  refine q _ _ _ (.list ds) (stays_trans k (stays_push _ _)) ?_ hq.2
  simp only [Rep]
  refine ⟨_, vs, 0, rfl, fun m => ?_, Heap.get?_push_size _ rfl, r.keepD (.of_stays (stays_push _ _))⟩
  obtain ⟨o, e⟩ := S1.bd _ m
  exact Nat.lt_irrefl _ (Heap.lt_size e)

/-- a call of what a name holds -/
theorem WE.call {x : Str} {p pos : Pos} {e : Expr} {r : List Expr} {f : Value}
    (hf : WE w n env σ (.Name x p) fun d => d = .val f ∧ WA w n env σ (e :: r) fun ds => WO w n ds (fun vs => PySem.call f vs) Q)
    (hk : keepIn (KF w) f = Bool.true)
    (he : starEach (e :: r) env = (Bool.false, eval e env) :: starEach r env := by rfl) (hplain : (backTo pos (starEach r env)).any (·.1) = Bool.false := by rfl) :
    WE w n env σ (.Call (.Name x p) (e :: r) [] pos) Q := by
  intro A s g Mt₀ Mt R E ro S q
  refine wpAny_Call_NameR (hf A s g Mt₀ Mt _ E ro S fun v h' tk' d k r1 h2 => ?_)
  obtain ⟨rfl, h3⟩ := h2
  simp only [Rep] at r1
  subst r1
  have S1 := S.keeps k
  refine callWith_K S1.now.k hk (h3 A _ g Mt₀ Mt pos _ E ro S1 fun vs h'' tk'' ds k2 r2 h4 => ?_) he hplain
  have S2 := S1.keeps k2
  refine ⟨S2.now.k, ?_⟩
  exact h4 A _ Mt vs R E ro S2.now S2.bd r2 (Ret.after (s := s) (stays_trans k k2) q)

/-- data of a built-in kind -/
noncomputable def IsT (w : World) (d : D) (T : String) : Prop := ∀ (s : Shared) (Mt : Addr → Prop) (v : Value), Rep s.heap Mt d v → Gd w s.heap → s.TypeIs v T ∧ ∀ a, v = .ref a → ∃ ob : Obj, s.heap.get? a = some ob ∧ ob.dict = Option.none
theorem IsT.str {x : Str} : IsT w (.str x) "str" := by
  intro s Mt v r G
  simp only [Rep] at r; obtain ⟨t, rfl⟩ := r
  exact ⟨rfl, fun a e => by cases e⟩
theorem IsT.list {l : List D} : IsT w (.list l) "list" := by
  intro s Mt v r G
  simp only [Rep] at r; obtain ⟨a, vs, n, rfl, m, o, q⟩ := r
  exact ⟨⟨_, o, rfl⟩, fun a e => by cases e; exact ⟨_, o, rfl⟩⟩
theorem IsT.mat {t : Str} {sp : List Int} : IsT w (.mat t sp) "re.Match" := by
  intro s Mt v r G
  simp only [Rep] at r; obtain ⟨a, b, tk, pat, p, q, li, n, rfl, m1, m2, o1, o2⟩ := r
  exact ⟨⟨_, o1, rfl⟩, fun a e => by cases e; exact ⟨_, o1, rfl⟩⟩

/-- a method of a built-in kind -/
theorem WE.meth {o : Expr} {name : Str} {apos pos : Pos} {es : List Expr} {T id : String}
    (pa : PlainAttrs T) (slot : Slot T name id) (hty : typeOf (.builtin id) = pure (.type "method_descriptor"))
    (h : WE w n env σ o fun d => IsT w d T ∧
      WA w n env σ es fun ds => WO w n (d :: ds) (fun vs => PySem.call (.builtin id) vs) Q)
    (hbase : attributeBase o name env (eval o env) = eval o env := by rfl)
    (hfew : ((backTo pos (starEach es env)).all (fun x => !x.1) && (backToKw pos (keywordEach [] env)).all (fun x => x.1.isSome)
      && decide (es.length + ([] : List Keyword).length + (if ([] : List Keyword).isEmpty then 0 else 1) < 30)) = Bool.true := by rfl)
    (hline : (apos.endLine == pos.line) = Bool.true := by rfl)
    (he : ∀ Q' A E s, (wpAny (model prog w) A (spliced (backTo pos (starEach es env))) (fun vs s' => Q' ⟨vs, []⟩ s') E s → wpAny (model prog w) A (evalArgs (.builtin id) Bool.true (backTo pos (starEach es env)) []) Q' E s) := by intro _ _ _ _ h; first | exact evalArgs_plain h | exact evalArgs_nil3 h)
    (hplain : (backTo pos (starEach es env)).any (·.1) = Bool.false := by rfl) :
    WE w n env σ (.Call (.Attribute o name apos) es [] pos) Q := by
  intro A s g Mt₀ Mt R E ro S q
  refine wpAny_Call_method hbase hfew hline pa slot hty (h A s g Mt₀ Mt _ E ro S fun v h' tk' d k r1 h2 => ?_)
  have S1 := S.keeps k
  obtain ⟨t1, t2⟩ := h2.1 { s with heap := h', toks := tk' } Mt v r1 S1.now
  refine ⟨t1, t2, ?_⟩
  refine callWith_builtin hplain (he _ _ _ _ ?_)
  refine h2.2 A _ g Mt₀ Mt pos _ E ro S1 fun vs h'' tk'' ds k2 r2 h4 => ?_
  have S2 := S1.keeps k2
  exact h4 A _ Mt (v :: vs) R E ro S2.now S2.bd (.cons (r1.keepD (.of_stays k2)) r2) (Ret.after (s := s) (stays_trans k k2) q)
end
end Mine
end

section
open PySem PySem.W PyProof.Rows PySem.Calls
set_option Elab.async false
set_option linter.unusedVariables false
namespace Mine

theorem dict_ne_hard {o : Obj} {es ep} (h : o.data = .dict es ep) : hard o = false := by unfold hard; rw [h]
theorem cell_ne_hard {o : Obj} {v} (h : o.data = .cell v) : hard o = false := by unfold hard; rw [h]

section
variable {w : World} {n : Nat} {env : Env} {σ : Sto} {g h h' : Heap} {Mt₀ Mt Mt' : Addr → Prop} {fr : List Addr}

/-- what is neither the names' table nor a cell -/
theorem StF.apart (S : StF w g Mt₀ Mt fr env σ h) {a : Addr} {o : Obj} (e : h.get? a = some o) (hd : ∀ es ep, o.data ≠ .dict es ep) (hc : ∀ v, o.data ≠ .cell v) :
    a ≠ env.locals ∧ ∀ x, env.cells.lookup x ≠ some a := by
  refine ⟨fun q => ?_, fun x q => ?_⟩
  · obtain ⟨m, o', es, ep, ho, hdat, _⟩ := S.ns
    rw [← q, e] at ho; cases ho; exact hd _ _ hdat
  · obtain ⟨v, o', ho, hdat⟩ := S.cells x a q
    rw [e] at ho; cases ho; exact hc _ hdat
theorem hard_apart {o : Obj} (hh : hard o = true) : (∀ es ep, o.data ≠ .dict es ep) ∧ ∀ v, o.data ≠ .cell v :=
  ⟨fun es ep q => (by rw [dict_ne_hard q] at hh; cases hh), fun v q => (by rw [cell_ne_hard q] at hh; cases hh)⟩
theorem StF.keepD (S : StF w g Mt₀ Mt fr env σ h) (p : Stp env Mt h Mt' h') : KeepD Mt h h' := fun a o hh hm e => by
  obtain ⟨x, y⟩ := hard_apart hh
  obtain ⟨x', y'⟩ := S.apart e x y
  exact p.fra a o e (hard_not_soft hh) x' y' hm
theorem StF.keepB (S : StF w g Mt₀ Mt fr env σ h) (p : Stp env Mt h Mt' h') : KeepD (fun a => Mt a ∨ Mt' a) h h' := fun a o hh hm e => S.keepD p a o hh (fun x => hm (.inl x)) e
theorem Stp.both (p : Stp env Mt h Mt' h') : ∀ a o, h.get? a = some o → (Mt a ∨ Mt' a) → Mt a := fun a o e m => m.elim id fun m' => (p.mt a m').elim id fun x => by rw [e] at x; cases x
theorem StF.rep (S : StF w g Mt₀ Mt fr env σ h) (p : Stp env Mt h Mt' h') {d : D} {v : Value} (r : Rep h Mt d v) : Rep h' Mt' d v :=
  ((r.less p.both).keepD (S.keepB p)).less fun _ _ _ m => .inr m
theorem StF.repL (S : StF w g Mt₀ Mt fr env σ h) (p : Stp env Mt h Mt' h') {d : List D} {v : List Value} (r : RepL h Mt d v) : RepL h' Mt' d v :=
  ((r.less p.both).keepD (S.keepB p)).less fun _ _ _ m => .inr m

theorem lookup_cons_self {x : Str} {e : Ent} {r : Sto} : List.lookup x ((x, e) :: r) = some e := by simp [List.lookup_cons]
theorem lookup_cons_ne {x y : Str} {e : Ent} {r : Sto} (q : y ≠ x) : List.lookup y ((x, e) :: r) = List.lookup y r := by
  have : (y == x) = false := by simpa using q
  simp only [List.lookup_cons, this]

/-- where a name's value lies: its table or its cell -/
noncomputable def Place (env : Env) (x : Str) (b : Addr) : Prop := (env.kindOf x = some .local ∧ b = env.locals) ∨ (env.kindOf x = some .cell ∧ env.cells.lookup x = some b ∧ env.locals ≤ b)

theorem entAt_change {e : Ent} {v : Value} {as : List Addr} (r : EntAt h Mt e v as) (k : KeepD Mt h h') (l : ∀ a ∈ as, ∀ o, h.get? a = some o → h'.get? a = some o) : EntAt h' Mt e v as := by
  cases e with
  | fz d => exact ⟨r.1.keepD k, r.2⟩
  | own ds => obtain ⟨a, vs, n, e1, e2, o, q⟩ := r; exact ⟨a, vs, n, e1, e2, l a (by rw [e2]; exact List.mem_singleton.mpr rfl) _ o, q.keepD k⟩
  | ba b => obtain ⟨a, e1, e2, o⟩ := r; exact ⟨a, e1, e2, l a (by rw [e2]; exact List.mem_singleton.mpr rfl) _ o⟩
  | ownL f c => obtain ⟨a, b, vs, n, us, kk, e1, e2, o, q, o2, q2⟩ := r; exact ⟨a, b, vs, n, us, kk, e1, e2, l a (by rw [e2]; simp) _ o, q.keepD k, l b (by rw [e2]; simp) _ o2, q2.keepD k⟩
theorem entAt_less {e : Ent} {v : Value} {as : List Addr} (r : EntAt h Mt e v as) (k : ∀ a o, h.get? a = some o → Mt' a → Mt a) : EntAt h Mt' e v as := by
  cases e with
  | fz d => exact ⟨r.1.less k, r.2⟩
  | own ds => obtain ⟨a, vs, n, e1, e2, o, q⟩ := r; exact ⟨a, vs, n, e1, e2, o, q.less k⟩
  | ba b => exact r
  | ownL f c => obtain ⟨a, b, vs, n, us, kk, e1, e2, o, q, o2, q2⟩ := r; exact ⟨a, b, vs, n, us, kk, e1, e2, o, q.less k, o2, q2.less k⟩
/-- an entry's own objects are no tables and no cells -/
theorem entAt_objs {e : Ent} {v : Value} {as : List Addr} (r : EntAt h Mt e v as) : ∀ a ∈ as, ∃ o, h.get? a = some o ∧ (∀ es ep, o.data ≠ .dict es ep) ∧ ∀ v, o.data ≠ .cell v := by
  cases e with
  | fz d => rw [r.2]; intro a ha; cases ha
  | own ds => obtain ⟨a, vs, n, e1, e2, o, q⟩ := r; rw [e2]; intro b hb; rw [List.mem_singleton.mp hb]; exact ⟨_, o, seq_nd, seq_nc⟩
  | ba b => obtain ⟨a, e1, e2, o⟩ := r; rw [e2]; intro b hb; rw [List.mem_singleton.mp hb]; exact ⟨_, o, ba_nd, ba_nc⟩
  | ownL f c =>
    obtain ⟨a, b, vs, n, us, kk, e1, e2, o, q, o2, q2⟩ := r; rw [e2]; intro b' hb
    rcases List.mem_cons.mp hb with rfl | hb
    · exact ⟨_, o, seq_nd, seq_nc⟩
    · rw [List.mem_singleton.mp hb]; exact ⟨_, o2, seq_nd, seq_nc⟩

/-- a name is stored -/
theorem StF.put {x : Str} {b : Addr} {v : Value} {e : Ent} {as : List Addr} {ob : Obj} (S : StF w g Mt₀ Mt as env σ h) (pl : Place env x b) (hs : Heap.SameBut b h h') (hb : h'.get? b = some ob)
    (hv : VarIs h' env x v) (hloc : env.kindOf x = some .local → ∃ m m', h.Ns env.locals m ∧ h'.Ns env.locals m' ∧ ∀ y, y ≠ x → m' y = m y)
    (hcell : env.kindOf x = some .cell → ∃ v', h'.IsCell b v')
    (r : EntAt h Mt e v as) (ha : ∀ a ∈ as, Mt a ∧ g.objs.size ≤ a) (hn : as.Nodup) :
    St w g Mt₀ Mt env ((x, e) :: σ) h' := by
  have hab : g.objs.size ≤ b := by
    rcases pl with ⟨_, rfl⟩ | ⟨_, _, q⟩
    · exact S.above
    · exact Nat.le_trans S.above q
  -- what lies at b is a table or a cell
  have hob : ∀ o, h.get? b = some o → (∃ es ep, o.data = .dict es ep) ∨ ∃ v, o.data = .cell v := by
    intro o ho
    rcases pl with ⟨_, rfl⟩ | ⟨_, q, _⟩
    · obtain ⟨m, o', es, ep, ho', hd, _⟩ := S.ns
      rw [ho'] at ho; cases ho; exact .inl ⟨_, _, hd⟩
    · obtain ⟨v, o', ho', hd⟩ := S.cells _ _ q
      rw [ho'] at ho; cases ho; exact .inr ⟨_, hd⟩
  have keep : ∀ a o, h.get? a = some o → (∀ es ep, o.data ≠ .dict es ep) → (∀ v, o.data ≠ .cell v) → h'.get? a = some o := by
    intro a o ho h1 h2
    have : a ≠ b := by
      rintro rfl
      rcases hob o ho with ⟨es, ep, q⟩ | ⟨v, q⟩
      · exact h1 _ _ q
      · exact h2 _ q
    exact (hs.2 a this).trans ho
  have kd : KeepD Mt h h' := fun a o hh _ ho => keep a o ho (hard_apart hh).1 (hard_apart hh).2
  have cellKeep : ∀ y c, y ≠ x → env.cells.lookup y = some c → ∀ v, h.IsCell c v → h'.IsCell c v := by
    intro y c hy hc v hcv
    obtain ⟨o, ho, hd⟩ := hcv
    have : c ≠ b := by
      rintro rfl
      rcases pl with ⟨_, q⟩ | ⟨_, q, _⟩
      · obtain ⟨m, o', es, ep, ho', hd', _⟩ := S.ns
        rw [← q, ho] at ho'; cases ho'; rw [hd] at hd'; cases hd'
      · exact hy (S.inj _ _ _ hc q)
    exact ⟨o, (hs.2 c this).trans ho, hd⟩
  obtain ⟨μ, hμ, hdis, hfr⟩ := S.vars
  refine ⟨S.gd, S.stays.upd (P := (· = b)) (fun a q => by rw [q]; exact Heap.get?_none_of_le hab) (fun a o e q => (hs.2 a q).trans e), S.kind, S.glob, S.blt, S.above, ?_, ?_, S.inj, ?_, S.sub, ?_⟩
  · rcases pl with ⟨q, rfl⟩ | ⟨q, q2, _⟩
    · obtain ⟨m, m', _, n', _⟩ := hloc q
      exact ⟨m', n'⟩
    · obtain ⟨m, o', es, ep, ho', hd', rest⟩ := S.ns
      have : env.locals ≠ b := by
        intro q3
        obtain ⟨v', o2, ho2, hd2⟩ := S.cells _ _ q2
        rw [← q3, ho'] at ho2; cases ho2; rw [hd'] at hd2; cases hd2
      exact ⟨m, o', es, ep, (hs.2 _ this).trans ho', hd', rest⟩
  · intro y c hc
    by_cases hy : y = x
    · subst hy
      rcases pl with ⟨q, q1⟩ | ⟨q, q2, _⟩
      · obtain ⟨v', o, ho, hd⟩ := S.cells _ _ hc
        have : c ≠ b := by
          rintro rfl
          obtain ⟨m, o', es, ep, ho', hd', _⟩ := S.ns
          rw [← q1, ho] at ho'; cases ho'; rw [hd] at hd'; cases hd'
        exact ⟨v', o, (hs.2 c this).trans ho, hd⟩
      · rw [hc] at q2; cases q2
        exact hcell q
    · obtain ⟨v', hv'⟩ := S.cells _ _ hc
      exact ⟨v', cellKeep y c hy hc _ hv'⟩
  · intro a m
    obtain ⟨o, ho⟩ := S.bd a m
    by_cases q : a = b
    · subst q; exact ⟨ob, hb⟩
    · exact ⟨o, (hs.2 a q).trans ho⟩
  · refine ⟨fun y => if y = x then as else μ y, fun y f hy => ?_, fun y z f f' hy hz hyz a hay haz => ?_, fun _ _ _ _ _ hx => nomatch hx⟩
    · by_cases q : y = x
      · subst q
        rw [lookup_cons_self] at hy; cases hy
        refine ⟨v, hv, ?_⟩
        dsimp only
        rw [if_pos rfl]
        refine ⟨entAt_change r kd fun a haa o ho => ?_, hn, ha⟩
        obtain ⟨o', ho', h1, h2⟩ := entAt_objs r a haa
        rw [ho] at ho'; cases ho'
        exact keep a o ho h1 h2
      · rw [lookup_cons_ne q] at hy
        obtain ⟨u, hu, re, nd, hh⟩ := hμ y f hy
        dsimp only
        rw [if_neg q]
        refine ⟨u, ?_, entAt_change re kd (fun a haa o ho => ?_), nd, hh⟩
        · rcases hu with ⟨k1, m, nn, e1⟩ | ⟨k1, c, hc, hcv⟩
          · rcases pl with ⟨qk, rfl⟩ | ⟨qk, q2, _⟩
            · obtain ⟨m0, m', n0, n', hm0⟩ := hloc qk
              refine .inl ⟨k1, m', n', ?_⟩
              rw [hm0 y q]
              obtain ⟨o1, es1, ep1, g1, d1, _, f1⟩ := nn
              obtain ⟨o2, es2, ep2, g2, d2, _, f2⟩ := n0
              rw [g1] at g2; cases g2; rw [d1] at d2; cases d2
              rw [← f2, f1]; exact e1
            · obtain ⟨o', es, ep, ho', hd', rest⟩ := nn
              have : env.locals ≠ b := by
                intro q3
                obtain ⟨v', o2, ho2, hd2⟩ := S.cells _ _ q2
                rw [← q3, ho'] at ho2; cases ho2; rw [hd'] at hd2; cases hd2
              exact .inl ⟨k1, m, ⟨o', es, ep, (hs.2 _ this).trans ho', hd', rest⟩, e1⟩
          · exact .inr ⟨k1, c, hc, cellKeep y c q hc _ hcv⟩
        · obtain ⟨o', ho', h1, h2⟩ := entAt_objs re a haa
          rw [ho] at ho'; cases ho'
          exact keep a o ho h1 h2
    · dsimp only at hay haz
      by_cases q : y = x
      · subst q
        rw [if_pos rfl] at hay
        have q2 : z ≠ y := fun e => hyz e.symm
        rw [if_neg q2] at haz
        rw [lookup_cons_ne q2] at hz
        exact hfr z f' hz a haz hay
      · rw [if_neg q] at hay
        rw [lookup_cons_ne q] at hy
        by_cases q2 : z = x
        · subst q2
          rw [if_pos rfl] at haz
          exact hfr y f hy a hay haz
        · rw [if_neg q2] at haz
          rw [lookup_cons_ne q2] at hz
          exact hdis y z f f' hy hz hyz a hay haz

/-- a new object that is to be owned -/
theorem StF.own_new (S : StF w g Mt₀ Mt fr env σ h) (o : Obj) (hf : o.isFreed = false) : StF w g Mt₀ (fun b => Mt b ∨ b = h.objs.size) (h.objs.size :: fr) env σ (h.push o) := by
  have hn : h.get? h.objs.size = none := by
    cases hq : h.get? h.objs.size with
    | none => rfl
    | some o => exact absurd (Heap.lt_size hq) (Nat.lt_irrefl _)
  have le : ∀ b o', h.get? b = some o' → (Mt b ∨ b = h.objs.size) → Mt b := fun b o' hb m => m.elim id fun q => by rw [q, hn] at hb; cases hb
  have S' := S.keeps (stays_push h o)
  refine ⟨S'.gd, S'.stays, S'.kind, S'.glob, S'.blt, S'.above, S'.ns, S'.cells, S'.inj, ?_, fun a m => ⟨.inl (S.sub a m).1, (S.sub a m).2⟩, ?_⟩
  · rintro a (m | rfl)
    · exact S'.bd a m
    · exact ⟨o, Heap.get?_push_size _ hf⟩
  · obtain ⟨μ, hμ, hdis, hfr⟩ := S.vars
    refine ⟨μ, fun x e he => ?_, hdis, fun x e he a ha hq => ?_⟩
    · obtain ⟨v, V, r, nd, hh⟩ := hμ x e he
      exact ⟨v, V.keeps (stays_push h o), (entAt_less r le).keeps (stays_push h o), nd, fun a ha => ⟨.inl (hh a ha).1, (hh a ha).2⟩⟩
    · obtain ⟨v, V, r, nd, hh⟩ := hμ x e he
      rcases List.mem_cons.mp hq with rfl | hq
      · obtain ⟨o', e'⟩ := S.bd _ (hh _ ha).1
        rw [hn] at e'; cases e'
      · exact hfr x e he a ha hq
end
end Mine
end

section
open PySem PySem.W PyProof.Rows PySem.Calls
set_option Elab.async false
set_option linter.unusedVariables false
namespace Mine

noncomputable def StoreOk (env : Env) (x : Str) : Prop := env.kindOf x = some .local ∨ (env.kindOf x = some .cell ∧ ∃ c, env.cells.lookup x = some c ∧ env.locals ≤ c)

section
variable {w : World} {n : Nat} {env : Env} {σ : Sto} {g h h' : Heap} {Mt₀ Mt Mt' : Addr → Prop}

theorem store_ent {A : Around} {E : Value → Shared → Prop} {s : Shared} {x : Str} {v : Value} {e : Ent} {as : List Addr} {R : Unit → Shared → Prop} (S : StF w g Mt₀ Mt as env σ s.heap) (hx : StoreOk env x)
    (r : EntAt s.heap Mt e v as) (ha : ∀ a ∈ as, Mt a ∧ g.objs.size ≤ a) (hn : as.Nodup)
    (h : ∀ h' tk' b, St w g Mt₀ Mt env ((x, e) :: σ) h' → Place env x b → Heap.SameBut b s.heap h' → (∃ o, h'.get? b = some o) → R () { s with heap := h', toks := tk' }) : wpAny (model prog w) A (storeName env x v) R E s := by
  rcases hx with hk | ⟨hk, c, hc, hl⟩
  · obtain ⟨m, hm0⟩ := S.ns
    refine wpAny_storeName_local hk hm0 (fun h' hn' hs => ?_) (by rw [S.kind]; rfl)
    obtain ⟨ob, es, ep, hob, rest⟩ := id hn'
    refine h h' _ env.locals ?_ (.inl ⟨hk, rfl⟩) hs ⟨ob, hob⟩
    exact S.put (.inl ⟨hk, rfl⟩) hs hob (.inl ⟨hk, _, hn', by rw [if_pos rfl]⟩) (fun _ => ⟨m, _, hm0, hn', fun y hy => by rw [if_neg hy]⟩) (fun q => by rw [hk] at q; cases q) r ha hn
  · obtain ⟨v0, hv0⟩ := S.cells _ _ hc
    refine wpAny_storeName_cell S.kind hk hc hv0 (fun h' hc' hs => ?_)
    obtain ⟨ob, hob, hd⟩ := id hc'
    refine h h' s.toks c ?_ (.inr ⟨hk, hc, hl⟩) hs ⟨ob, hob⟩
    exact S.put (.inr ⟨hk, hc, hl⟩) hs hob (.inr ⟨hk, c, hc, hc'⟩) (fun q => by rw [hk] at q; cases q) (fun _ => ⟨_, hc'⟩) r ha hn

theorem Stp.of_place {x : Str} {b : Addr} (pl : Place env x b) (hs : Heap.SameBut b h h') (hb : ∃ o, h'.get? b = some o) (hm : ∀ a, Mt' a → Mt a ∨ h.get? a = none) : Stp env Mt h Mt' h' := by
  refine ⟨fun a o e _ l c m => ?_, hm, fun a o e => ?_⟩
  · have : a ≠ b := by
      rintro rfl
      rcases pl with ⟨_, q⟩ | ⟨_, q, _⟩
      · exact l q
      · exact c _ q
    exact (hs.2 a this).trans e
  · by_cases q : a = b
    · subst q; exact hb
    · exact ⟨o, (hs.2 a q).trans e⟩

noncomputable abbrev Nil : Addr → Prop := fun _ => False
theorem Stp.up (p : Stp env Nil h Nil h') : Stp env Mt h Mt h' := ⟨fun a o e s l c _ => p.fra a o e s l c id, fun _ m => .inl m, p.alive⟩
theorem store_fz {A : Around} {E : Value → Shared → Prop} {s : Shared} {x : Str} {v : Value} {d : D} {R : Unit → Shared → Prop} (S : St w g Mt₀ Mt env σ s.heap) (hx : StoreOk env x) (r : Rep s.heap Mt d v)
    (h : ∀ h' tk', St w g Mt₀ Mt env ((x, .fz d) :: σ) h' → Stp env Nil s.heap Nil h' → R () { s with heap := h', toks := tk' }) : wpAny (model prog w) A (storeName env x v) R E s :=
  store_ent (as := []) (e := .fz d) S hx ⟨r, rfl⟩ (fun a ha => nomatch ha) List.nodup_nil fun h' tk' b S' pl hs hb => h h' tk' S' (.of_place pl hs hb fun _ m => .inl m)

theorem size_le (S : StF w g Mt₀ Mt as env σ h) : g.objs.size ≤ h.objs.size := by
  obtain ⟨m, hm⟩ := S.ns
  exact Nat.le_of_lt (Nat.lt_of_le_of_lt S.above hm.lt)
theorem get_size_none (h : Heap) : h.get? h.objs.size = none := by
  cases hq : h.get? h.objs.size with
  | none => rfl
  | some o => exact absurd (Heap.lt_size hq) (Nat.lt_irrefl _)
theorem Stp.of_new (o : Obj) : Stp env Mt h (fun b => Mt b ∨ b = h.objs.size) (h.push o) :=
  ⟨fun a o' e _ _ _ _ => Heap.get?_push_of_some o e, fun a m => m.imp id fun q => by rw [q]; exact get_size_none h, fun a o' e => ⟨o', Heap.get?_push_of_some o e⟩⟩

theorem VarIs.uniq {x : Str} {v v' : Value} (a : VarIs h env x v) (b : VarIs h env x v') : v = v' := by
  rcases a with ⟨k, m, ⟨o1, es1, ep1, g1, d1, _, f1⟩, e⟩ | ⟨k, c, l, o, ho, hd⟩
  · rcases b with ⟨k', m', ⟨o2, es2, ep2, g2, d2, _, f2⟩, e'⟩ | ⟨k', _⟩
    · rw [g1] at g2; cases g2; rw [d1] at d2; cases d2
      rw [← f1] at e; rw [← f2, e] at e'; cases e'; rfl
    · rw [k] at k'; cases k'
  · rcases b with ⟨k', _⟩ | ⟨k', c', l', o', ho', hd'⟩
    · rw [k] at k'; cases k'
    · rw [l] at l'; cases l'; rw [ho] at ho'; cases ho'; rw [hd] at hd'; cases hd'; rfl

/-- an owned thing changes in its place -/
theorem StF.get {x : Str} {e : Ent} (S : St w g Mt₀ Mt env σ h) (hx : σ.lookup x = some e) :
    ∃ v as, VarIs h env x v ∧ EntAt h Mt e v as ∧ as.Nodup ∧ (∀ a ∈ as, Mt a ∧ g.objs.size ≤ a) ∧
      ∀ h' e', (∀ b, b ∉ as → h'.get? b = h.get? b) → (∀ a ∈ as, ∃ o, h'.get? a = some o) → EntAt h' Mt e' v as → St w g Mt₀ Mt env ((x, e') :: σ) h' ∧ Stp env Mt h Mt h' := by
  obtain ⟨μ, hμ, hdis, hfr⟩ := S.vars
  obtain ⟨v, V, r, nd, hh⟩ := hμ x e hx
  refine ⟨v, μ x, V, r, nd, hh, fun h' e' hs hal r' => ?_⟩
  have ap : ∀ a ∈ μ x, a ≠ env.locals ∧ ∀ y, env.cells.lookup y ≠ some a := fun a ha => by
    obtain ⟨o, ho, h1, h2⟩ := entAt_objs r a ha
    exact S.apart ho h1 h2
  have sm : ∀ b, b ∉ μ x → ∀ o, h.get? b = some o → h'.get? b = some o := fun b hb o e => (hs b hb).trans e
  have nsk : ∀ m, h.Ns env.locals m → h'.Ns env.locals m := fun m ⟨o, es, ep, ho, rest⟩ => ⟨o, es, ep, sm _ (fun q => (ap _ q).1 rfl) o ho, rest⟩
  have clk : ∀ y c v, env.cells.lookup y = some c → h.IsCell c v → h'.IsCell c v := fun y c v hc ⟨o, ho, hd⟩ => ⟨o, sm _ (fun q => (ap _ q).2 y hc) o ho, hd⟩
  have vk : ∀ y u, VarIs h env y u → VarIs h' env y u := fun y u hu => by
    rcases hu with ⟨k1, m, nn, e1⟩ | ⟨k1, c, hc, hcv⟩
    · exact .inl ⟨k1, m, nsk m nn, e1⟩
    · exact .inr ⟨k1, c, hc, clk y c _ hc hcv⟩
  have kd : KeepD Mt h h' := fun a o _ hm e => sm a (fun q => hm (hh a q).1) o e
  refine ⟨⟨S.gd, S.stays.upd (P := (· ∈ μ x)) (fun a q => Heap.get?_none_of_le (hh a q).2) (fun a o e q => sm a q o e), S.kind, S.glob, S.blt, S.above, ?_, ?_, S.inj, ?_, S.sub, ?_⟩, ?_⟩
  · obtain ⟨m, hm⟩ := S.ns; exact ⟨m, nsk m hm⟩
  · intro y c hc; obtain ⟨u, hu⟩ := S.cells y c hc; exact ⟨u, clk y c u hc hu⟩
  · intro a m
    obtain ⟨o, ho⟩ := S.bd a m
    by_cases q : a ∈ μ x
    · exact hal a q
    · exact ⟨o, sm a q o ho⟩
  · refine ⟨μ, fun y f hy => ?_, fun y z f f' hy hz hyz => ?_, fun _ _ _ _ _ hx => nomatch hx⟩
    · by_cases q : y = x
      · subst q
        rw [lookup_cons_self] at hy; cases hy
        exact ⟨v, vk _ _ V, r', nd, hh⟩
      · rw [lookup_cons_ne q] at hy
        obtain ⟨u, hu, re, nd', hh'⟩ := hμ y f hy
        exact ⟨u, vk _ _ hu, entAt_change re kd (fun a haa o ho => sm a (hdis y x f e hy hx q a haa) o ho), nd', hh'⟩
    · have lk : ∀ y f, List.lookup y ((x, e') :: σ) = some f → ∃ f', σ.lookup y = some f' := fun y f hy => by
        by_cases q : y = x
        · subst q; exact ⟨e, hx⟩
        · rw [lookup_cons_ne q] at hy; exact ⟨f, hy⟩
      obtain ⟨f1, hy1⟩ := lk y f hy
      obtain ⟨f2, hz1⟩ := lk z f' hz
      exact hdis y z f1 f2 hy1 hz1 hyz
  · refine ⟨fun a o e _ l c m => sm a (fun q => m (hh a q).1) o e, fun _ m => .inl m, fun a o e => ?_⟩
    by_cases q : a ∈ μ x
    · exact hal a q
    · exact ⟨o, sm a q o e⟩

/-- an owned list is owned no more -/
theorem StF.freeze {x : Str} {ds : List D} (S : St w g Mt₀ Mt env σ h) (hx : σ.lookup x = some (.own ds)) : ∃ Mt', St w g Mt₀ Mt' env ((x, .fz (.list ds)) :: σ) h ∧ Stp env Mt h Mt' h := by
  obtain ⟨μ, hμ, hdis, hfr⟩ := S.vars
  obtain ⟨v, V, r, nd, hh⟩ := hμ x _ hx
  obtain ⟨a, vs, k, e1, e2, ho, q⟩ := r
  have le : ∀ b o, h.get? b = some o → (Mt b ∧ b ≠ a) → Mt b := fun b o _ m => m.1
  refine ⟨fun b => Mt b ∧ b ≠ a, ⟨S.gd, S.stays, S.kind, S.glob, S.blt, S.above, S.ns, S.cells, S.inj, fun b m => S.bd b m.1, fun b m => ⟨⟨(S.sub b m).1, ?_⟩, (S.sub b m).2⟩, ?_⟩, ⟨fun b o e _ _ _ _ => e, fun b m => .inl m.1, fun b o e => ⟨o, e⟩⟩⟩
  · rintro rfl
    exact Nat.lt_irrefl _ (Nat.lt_of_lt_of_le (S.sub _ m).2 (hh _ (by rw [e2]; exact List.mem_singleton.mpr rfl)).2)
  · refine ⟨fun y => if y = x then [] else μ y, fun y f hy => ?_, fun y z f f' hy hz hyz b hby hbz => ?_, fun _ _ _ _ _ hx => nomatch hx⟩
    · dsimp only
      by_cases qy : y = x
      · subst qy
        rw [lookup_cons_self] at hy; cases hy
        rw [if_pos rfl]
        refine ⟨v, V, ⟨?_, rfl⟩, List.nodup_nil, fun b hb => nomatch hb⟩
        simp only [Rep]
        exact ⟨a, vs, k, e1, fun m => m.2 rfl, ho, q.less le⟩
      · rw [lookup_cons_ne qy] at hy
        obtain ⟨u, hu, re, nd', hh'⟩ := hμ y f hy
        rw [if_neg qy]
        refine ⟨u, hu, entAt_less re le, nd', fun b hb => ⟨⟨(hh' b hb).1, ?_⟩, (hh' b hb).2⟩⟩
        rintro rfl
        exact hdis y x f _ hy hx qy b hb (by rw [e2]; exact List.mem_singleton.mpr rfl)
    · dsimp only at hby hbz
      by_cases qy : y = x
      · rw [if_pos qy] at hby; cases hby
      · rw [if_neg qy] at hby
        by_cases qz : z = x
        · rw [if_pos qz] at hbz; cases hbz
        · rw [if_neg qz] at hbz
          rw [lookup_cons_ne qy] at hy
          rw [lookup_cons_ne qz] at hz
          exact hdis y z f f' hy hz hyz b hby hbz

/-- names are forgotten -/
theorem StF.forget {σ' : Sto} (S : St w g Mt₀ Mt env σ h) (hσ : ∀ x e, σ'.lookup x = some e → σ.lookup x = some e) : St w g Mt₀ Mt env σ' h := by
  obtain ⟨μ, hμ, hdis, hfr⟩ := S.vars
  exact ⟨S.gd, S.stays, S.kind, S.glob, S.blt, S.above, S.ns, S.cells, S.inj, S.bd, S.sub, μ, fun x e he => hμ x e (hσ x e he), fun x y e f hx hy => hdis x y e f (hσ x e hx) (hσ y f hy), fun _ _ _ _ _ hx => nomatch hx⟩

/-! statements -/
variable {P : FlowD → Sto → Prop}

theorem WS.nil (hq : P .next σ) : WS w n env σ [] P := fun A s g Mt₀ Mt R E ro S q => wpAny_execs_nil (q .next s.heap s.toks .next σ Mt S (.of_stays (stays_refl _)) trivial hq)
theorem RetS.after {s : Shared} {h' : Heap} {tk : Nat} {R : Flow → Shared → Prop} (p : Stp env Mt s.heap Mt' h') (q : RetS w g Mt₀ env Mt s P R) : RetS w g Mt₀ env Mt' { s with heap := h', toks := tk } P R :=
  fun f h'' tk' fd σ' Mt'' S st fr hp => q f h'' tk' fd σ' Mt'' S (p.trans st) fr hp
theorem WS.cons {t : Stmt} {ts : List Stmt} (h : WX w n env σ t fun f σ' => match f with | .next => WS w n env σ' ts P | f => P f σ') : WS w n env σ (t :: ts) P := by
  intro A s g Mt₀ Mt R E ro S q
  refine wpAny_execs_cons (h A s g Mt₀ Mt _ E ro S fun f h' tk' fd σ' Mt' S' st fr hp => ?_)
  cases fd with
  | next => cases f <;> first | exact fr.elim | exact hp A _ g Mt₀ Mt' R E ro S' (RetS.after st q)
  | brk => cases f <;> first | exact fr.elim | exact q _ h' tk' .brk σ' Mt' S' st fr hp
  | cont => cases f <;> first | exact fr.elim | exact q _ h' tk' .cont σ' Mt' S' st fr hp
  | ret d => cases f <;> first | exact fr.elim | exact q _ h' tk' (.ret d) σ' Mt' S' st fr hp
theorem WS.freeze {x : Str} {ds : List D} {ts : List Stmt} (hx : σ.lookup x = some (.own ds)) (h : WS w n env ((x, .fz (.list ds)) :: σ) ts P) : WS w n env σ ts P := by
  intro A s g Mt₀ Mt R E ro S q
  obtain ⟨Mt', S', st⟩ := S.freeze hx
  exact h A s g Mt₀ Mt' R E ro S' (RetS.after (s := s) (tk := s.toks) st q)
theorem WX.freeze {x : Str} {ds : List D} {ts : Stmt} (hx : σ.lookup x = some (.own ds)) (h : WX w n env ((x, .fz (.list ds)) :: σ) ts P) : WX w n env σ ts P := by
  intro A s g Mt₀ Mt R E ro S q
  obtain ⟨Mt', S', st⟩ := S.freeze hx
  exact h A s g Mt₀ Mt' R E ro S' (RetS.after (s := s) (tk := s.toks) st q)
theorem WS.forget {σ' : Sto} {ts : List Stmt} (hσ : ∀ x e, σ'.lookup x = some e → σ.lookup x = some e) (h : WS w n env σ' ts P) : WS w n env σ ts P :=
  fun A s g Mt₀ Mt R E ro S q => h A s g Mt₀ Mt R E ro (S.forget hσ) q

theorem WX.ret {e : Expr} {pos : Pos} (h : WE w n env σ e fun d => P (.ret d) σ) : WX w n env σ (.Return (some e) pos) P :=
  fun A s g Mt₀ Mt R E ro S q => wpAny_Return_some (h A s g Mt₀ Mt _ E ro S fun v h' tk' d k r hp => q (.ret v) h' tk' (.ret d) σ Mt (S.keeps k) (.of_stays k) r hp)
theorem WX.brk {pos : Pos} (h : P .brk σ) : WX w n env σ (.Break pos) P :=
  fun A s g Mt₀ Mt R E ro S q => wpAny_Break (q .brk s.heap s.toks .brk σ Mt S (.of_stays (stays_refl _)) trivial h)
theorem WX.ite {t : Expr} {b o : List Stmt} {pos : Pos} (h : WT w n env σ t fun c => (c = Bool.true → WS w n env σ b P) ∧ (c = Bool.false → WS w n env σ o P)) : WX w n env σ (.If t b o pos) P := by
  intro A s g Mt₀ Mt R E ro S q
  refine wpAny_If (h A s g Mt₀ Mt _ E ro S fun c h' tk' k hc => ?_)
  cases c with
  | true => exact hc.1 rfl A _ g Mt₀ Mt R E ro (S.keeps k) (RetS.after (.of_stays k) q)
  | false => exact hc.2 rfl A _ g Mt₀ Mt R E ro (S.keeps k) (RetS.after (.of_stays k) q)
theorem WX.assert {t : Expr} {m : Option Expr} {pos : Pos} (h : WT w n env σ t fun c => c = Bool.true ∧ P .next σ) : WX w n env σ (.Assert t m pos) P :=
  fun A s g Mt₀ Mt R E ro S q => wpAny_Assert_holds (h A s g Mt₀ Mt _ E ro S fun c h' tk' k hc => ⟨hc.1, q .next h' tk' .next σ Mt (S.keeps k) (.of_stays k) trivial hc.2⟩)

theorem WX.assign {x : Str} {px pos : Pos} {e : Expr} (hx : StoreOk env x) (h : WE w n env σ e fun d => P .next ((x, .fz d) :: σ))
    (hs : swapsWith e (some (.Name x px)) pos.line env = pure Bool.false := by rfl) : WX w n env σ (.Assign [.Name x px] e pos) P := by
  intro A s g Mt₀ Mt R E ro S q
  refine wpAny_Assign_Name (h A s g Mt₀ Mt _ E ro S fun v h' tk' d k r hp => ?_) hs
  refine store_fz (S.keeps k) hx r fun h'' tk'' S' st => ?_
  exact q .next h'' tk'' .next _ Mt S' ((Stp.of_stays k).trans st.up) trivial hp

theorem WX.newlist {x : Str} {px lp pos : Pos} (hx : StoreOk env x) (h : P .next ((x, .own []) :: σ)) (hs : swapsWith (.List [] lp) (some (.Name x px)) pos.line env = pure Bool.false := by rfl) :
    WX w n env σ (.Assign [.Name x px] (.List [] lp) pos) P := by
  intro A s g Mt₀ Mt R E ro S q
  refine wpAny_Assign_Name (wpAny_List (spliced_none ⟨by decide, ?_⟩)) hs
  have S1 := S.own_new (listObj [] 0) rfl
  refine store_ent (e := .own []) (as := [s.heap.objs.size]) S1 hx ⟨_, [], 0, rfl, rfl, Heap.get?_push_size _ rfl, .nil⟩ (fun a ha => ?_) (by simp) fun h' tk' b S' pl hs hb => ?_
  · rw [List.mem_singleton.mp ha]; exact ⟨.inr rfl, size_le S⟩
  · exact q .next h' tk' .next _ _ S' ((Stp.of_new (listObj [] 0)).trans (.of_place pl hs hb fun _ m => .inl m)) trivial h

theorem WX.append {x : Str} {px apos cpos pos : Pos} {e : Expr} {ds : List D} (hx : σ.lookup x = some (.own ds)) (h : WE w n env σ e fun d => P .next ((x, .own (ds ++ [d])) :: σ)) (hsz : ds.length ≤ sizeLine)
    (hbase : attributeBase (.Name x px) "append" env (eval (.Name x px) env) = eval (.Name x px) env := by rfl)
    (hfew : ((backTo cpos (starEach [e] env)).all (fun x => !x.1) && (backToKw cpos (keywordEach [] env)).all (fun x => x.1.isSome)
      && decide (([e] : List Expr).length + ([] : List Keyword).length + (if ([] : List Keyword).isEmpty then 0 else 1) < 30)) = Bool.true := by rfl)
    (hline : (apos.endLine == cpos.line) = Bool.true := by rfl) (htrees : backTo cpos (starEach [e] env) = [(Bool.false, eval e env)] := by rfl) (hd : (x == ("__debug__" : Str)) = Bool.false := by decide)
    (hi : interactive env = Bool.false := by rfl) (hs : swapsWith (.Call (.Attribute (.Name x px) "append" apos) [e] [] cpos) Option.none pos.line env = pure Bool.false := by rfl) :
    WX w n env σ (.Expr (.Call (.Attribute (.Name x px) "append" apos) [e] [] cpos) pos) P := by
  intro A s g Mt₀ Mt R E ro S q
  refine wpAny_Expr_any (wpAny_Call_append hbase hfew hline htrees ?_) hi hs
  obtain ⟨v, as, V, r, _, _, _⟩ := S.get hx
  obtain ⟨a, vs, k, rfl, e2, ho, qr⟩ := r
  refine wpAny_Name (load_var S.kind V ?_) hd
  refine ⟨a, vs.toArray, rfl, ⟨_, k, ho, rfl, rfl, rfl⟩, ?_⟩
  refine h A s g Mt₀ Mt _ E ro S fun u h' tk' d kk ru hp => ?_
  have S1 := S.keeps kk
  obtain ⟨v', as', V', r', nd', hh', go⟩ := S1.get hx
  obtain ⟨a', vs', k', rfl, e2', ho', qr'⟩ := r'
  have := V'.uniq (V.keeps kk)
  cases this
  subst e2'
  refine wpAny_list_append_plain (items := vs'.toArray) ⟨k', ho'⟩ (fun h'' hl'' hs'' => ?_) (by rw [List.size_toArray, qr'.length]; exact hsz)
  obtain ⟨k'', ho''⟩ := hl''
  rw [show vs'.toArray.push u = (vs' ++ [u]).toArray by simp] at ho''
  have kd : KeepD Mt h' h'' := KeepD.of_same hs'' (.inl (hh' _ (List.mem_singleton.mpr rfl)).1)
  obtain ⟨S2, st⟩ := go h'' (.own (ds ++ [d])) (fun b hb => hs''.2 b (fun q => hb (by rw [q]; exact List.mem_singleton.mpr rfl))) (fun b hb => by rw [List.mem_singleton.mp hb]; exact ⟨_, ho''⟩)
    ⟨_, vs' ++ [u], k'', rfl, rfl, ho'', (qr'.keepD kd).append (.cons (ru.keepD kd) .nil)⟩
  exact q .next h'' tk' .next _ Mt S2 ((Stp.of_stays kk).trans st) trivial hp
end
end Mine
end

section
open PySem PySem.W PyProof.Rows PySem.Calls
set_option Elab.async false
set_option linter.unusedVariables false
namespace Mine

theorem bindL_other {k : Str → Option NameKind} {x : Str} : ∀ {bs : List (Str × Value)} {m : Str → Option Value}, (∀ y ∈ bs, y.1 ≠ x) → bindL k bs m x = m x
  | [], m, _ => rfl
  | (y, v) :: r, m, h => by
    rw [bindL, bindL_other fun z hz => h z (.tail _ hz)]
    split
    · exact if_neg (Ne.symm (h (y, v) (.head _)))
    · rfl
theorem bindC_other {k : Str → Option NameKind} {x : Str} : ∀ {bs : List (Str × Value)} {m : Str → Option Value}, (∀ y ∈ bs, y.1 ≠ x) → bindC k bs m x = m x
  | [], m, _ => rfl
  | (y, v) :: r, m, h => by
    rw [bindC, bindC_other fun z hz => h z (.tail _ hz)]
    split
    · rfl
    · exact if_neg (Ne.symm (h (y, v) (.head _)))
theorem bindL_val {k : Str → Option NameKind} {x : Str} {v : Value} (hk : k x = some .local) : ∀ {bs : List (Str × Value)} {m : Str → Option Value}, (bs.map (·.1)).Nodup → (x, v) ∈ bs → bindL k bs m x = some v
  | (y, u) :: r, m, nd, h => by
    rw [List.map_cons, List.nodup_cons] at nd
    rcases List.mem_cons.mp h with e | h
    · cases e
      rw [bindL, bindL_other fun z hz e => nd.1 (List.mem_map.mpr ⟨z, hz, e⟩), if_pos hk, if_pos rfl]
    · rw [bindL]; exact bindL_val hk nd.2 h
theorem bindC_val {k : Str → Option NameKind} {x : Str} {v : Value} (hk : k x ≠ some .local) : ∀ {bs : List (Str × Value)} {m : Str → Option Value}, (bs.map (·.1)).Nodup → (x, v) ∈ bs → bindC k bs m x = some v
  | (y, u) :: r, m, nd, h => by
    rw [List.map_cons, List.nodup_cons] at nd
    rcases List.mem_cons.mp h with e | h
    · cases e
      rw [bindC, bindC_other fun z hz e => nd.1 (List.mem_map.mpr ⟨z, hz, e⟩), if_neg hk, if_pos rfl]
    · rw [bindC]; exact bindC_val hk nd.2 h

theorem mem_of_lookup {β : Type} {x : Str} {c : β} : ∀ {l : List (Str × β)}, l.lookup x = some c → (x, c) ∈ l
  | (y, d) :: r, h => by
    by_cases q : x = y
    · subst q; simp [List.lookup_cons] at h; subst h; exact .head _
    · have : (x == y) = false := by simpa using q
      simp only [List.lookup_cons, this] at h
      exact .tail _ (mem_of_lookup h)
theorem inj_of_apart : ∀ {l : List (Str × Addr)}, l.Pairwise (fun x y => x.2 ≠ y.2) → ∀ {x y : Str} {c : Addr}, (x, c) ∈ l → (y, c) ∈ l → x = y
  | a :: r, h, x, y, c, hx, hy => by
    rw [List.pairwise_cons] at h
    rcases List.mem_cons.mp hx with e | hx
    · rcases List.mem_cons.mp hy with e' | hy
      · rw [← e] at e'; cases e'; rfl
      · exact absurd (show a.2 = (y, c).2 by rw [← e]) (h.1 _ hy)
    · rcases List.mem_cons.mp hy with e' | hy
      · exact absurd (show a.2 = (x, c).2 by rw [← e']) (h.1 _ hx)
      · exact inj_of_apart h.2 hx hy

/-- the names' entries at a def's start -/
theorem zip_lookup {h : Heap} {Mt : Addr → Prop} : ∀ {xs : List Str} {ds : List D} {vs : List Value} {x : Str} {e : Ent}, RepL h Mt ds vs → (xs.zip (ds.map Ent.fz)).lookup x = some e → ∃ d v, e = .fz d ∧ (x, v) ∈ xs.zip vs ∧ Rep h Mt d v
  | [], _, _, x, e, r, q => by simp at q
  | _ :: _, [], _, x, e, r, q => by simp at q
  | y :: xs, d :: ds, vs, x, e, r, q => by
    obtain ⟨v, vs', rfl, r1, r2⟩ := r.cons_inv
    simp only [List.map_cons, List.zip_cons_cons] at q ⊢
    by_cases hxy : x = y
    · subst hxy
      rw [lookup_cons_self] at q; cases q
      exact ⟨d, v, rfl, .head _, r1⟩
    · rw [lookup_cons_ne hxy] at q
      obtain ⟨d', v', h1, h2, h3⟩ := zip_lookup r2 q
      exact ⟨d', v', h1, .tail _ h2, h3⟩
theorem zip_names {xs : List Str} {vs : List Value} (h : xs.length = vs.length) : (xs.zip vs).map (·.1) = xs := List.map_fst_zip (Nat.le_of_eq h)
theorem len1 {vs : List Value} (h : vs.length = 1) : ∃ v, vs = [v] := List.length_eq_one_iff.mp h
theorem len2 {vs : List Value} (h : vs.length = 2) : ∃ v u, vs = [v, u] := by
  obtain ⟨v, r, rfl⟩ := List.exists_cons_of_length_eq_add_one h
  obtain ⟨u, rfl⟩ := len1 (Nat.succ.inj h)
  exact ⟨v, u, rfl⟩

theorem Room.deeper {A : Around} {n : Nat} (r : Room A (n + 1)) (env : Env) : Room (A.deeper env) n := by
  have := r.d; have := r.u
  exact ⟨by show A.depth + 1 + n < 1000; omega, by show A.units + 3 + 10 * n < 9900; omega, r.hd⟩
theorem Room.less {A : Around} {n m : Nat} (r : Room A n) (h : m ≤ n) : Room A m := by
  have := r.d; have := r.u
  exact ⟨by omega, by omega, r.hd⟩

section
variable {w : World} {n : Nat} {env : Env} {σ : Sto} {g h h' : Heap} {Mt₀ Mt Mt' : Addr → Prop}

/-- a def by its body -/
theorem WF.of {f : Addr} {fd : FuncData} {body : List Stmt} {ob : Obj} {xs : List Str} {ds : List D} {Q : D → Prop}
    (ho : (KF w).lookup f = some ob) (hdata : ob.data = .func fd) (hbody : fd.body = .stmts body) (hcd : codeIn (KF w) fd.code fd.qualname = true) (hclo : fd.closure = []) (hglob : fd.globals = mainGlobals) (hblt : fd.builtins = builtinsNs)
    (hbind : ∀ vs : List Value, vs.length = xs.length → bindArgs fd ⟨vs, []⟩ = pure (xs.zip vs)) (hlen : ds.length = xs.length) (hnd : xs.Nodup)
    (hkind : ∀ L : Addr, ∀ x ∈ xs, fd.scope.names.lookup x = some .local ∨ (fd.scope.names.lookup x = some .cell ∧ ((cellsFrom (L + 1) fd.scope.names []).lookup x).isSome = true))
    (h : ∀ L, WS w n (callEnvC fd L f) (xs.zip (ds.map Ent.fz)) body fun fl _ => ∃ d, fl = .ret d ∧ Q d)
    (hco : fd.scope.isCoroutine = false := by rfl) (hgen : fd.scope.isGenerator = false := by rfl) (hk : fd.scope.kind = .function := by rfl) : WF w (n + 1) f ds Q := by
  intro A s Mt vs R E ro G bd r q
  have lv : vs.length = xs.length := r.length.trans hlen
  have nm := zip_names lv.symm
  refine wpAny_call (codeAny_call_cells (by have := ro.d; show A.depth < 1000; omega) (G.k _ _ ho) hdata G.nl (codeRec_of G.k hcd) hbody (hbind vs lv) hclo (fun x hx => hkind _ _ (by rw [← nm]; exact List.mem_map.mpr ⟨x, hx, rfl⟩)) (fun s₁ I => ?_) hco hgen hk)
  obtain ⟨h₁, tk₁, e₁⟩ := I.toInCall.same
  subst e₁
  have kp0 := I.toInCall.keep
  have kp : Kp s.heap h₁ := .of kp0
  have S : St w s.heap Mt Mt (callEnvC fd s.heap.objs.size f) (xs.zip (ds.map Ent.fz)) h₁ := by
    refine ⟨G, kp, hk, hglob, hblt, I.toInCall.fresh, ⟨_, I.toInCall.ns⟩, fun x c hc => ⟨_, I.cell x c hc⟩, fun x y c hx hy => inj_of_apart I.apart (mem_of_lookup hx) (mem_of_lookup hy), fun a m => let ⟨o, e⟩ := bd a m; ⟨o, kp0 _ _ e⟩, fun a m => ⟨m, let ⟨o, e⟩ := bd a m; Heap.lt_size e⟩, fun _ => [], fun x e he => ?_, fun _ _ _ _ _ _ _ _ ha => (nomatch ha), fun _ _ _ _ ha => (nomatch ha)⟩
    obtain ⟨d, v, rfl, hm, rv⟩ := zip_lookup r he
    refine ⟨v, ?_, ⟨rv.keepD (.of_stays kp), rfl⟩, List.nodup_nil, fun a ha => (nomatch ha)⟩
    have hxm : x ∈ xs := by rw [← nm]; exact List.mem_map.mpr ⟨_, hm, rfl⟩
    rcases hkind s.heap.objs.size x hxm with hl | ⟨hc, hs⟩
    · exact .inl ⟨hl, _, I.toInCall.ns, bindL_val hl (by rw [nm]; exact hnd) hm⟩
    · obtain ⟨c, hcc⟩ := Option.isSome_iff_exists.mp hs
      refine .inr ⟨hc, c, hcc, ?_⟩
      have := I.cell x c hcc
      rw [bindC_val (show (callEnvC fd s.heap.objs.size f).kindOf x ≠ some .local by intro e; rw [show (callEnvC fd s.heap.objs.size f).kindOf x = _ from hc] at e; cases e) (by rw [nm]; exact hnd) hm] at this
      exact this
  refine h _ _ _ s.heap Mt Mt _ _ (ro.deeper _) S fun fl h' tk' fd' σ' Mt' S' st fr hp => ?_
  obtain ⟨d, rfl, hQ⟩ := hp
  cases fl <;> first | exact fr.elim | skip
  rename_i v
  exact q v h' tk' d S'.stays (Rep.less (fun a o _ m => (S'.sub a m).1) fr) hQ

/-- what is assigned to a target -/
noncomputable def WG (w : World) (n : Nat) (env : Env) (σ : Sto) (t : Expr) (d : D) (K : Sto → Prop) : Prop :=
  ∀ (A : Around) (s : Shared) (g : Heap) (Mt₀ Mt : Addr → Prop) (v : Value) (R : Unit → Shared → Prop) (E : Value → Shared → Prop),
    Room A n → St w g Mt₀ Mt env σ s.heap → Rep s.heap Mt d v → (∀ h' tk' σ', St w g Mt₀ Mt env σ' h' → Stp env Nil s.heap Nil h' → K σ' → R () { s with heap := h', toks := tk' }) → wpAny (model prog w) A (assign t env v) R E s
theorem WG.name {x : Str} {pos : Pos} {d : D} {K : Sto → Prop} (hx : StoreOk env x) (h : K ((x, .fz d) :: σ)) : WG w n env σ (.Name x pos) d K :=
  fun A s g Mt₀ Mt v R E ro S r q => wpAny_assign_Name (store_fz S hx r fun h' tk' S' st => q h' tk' _ S' st h)
theorem WG.pair {x y : Str} {px py pos : Pos} {k : Nat} {a b : D} {K : Sto → Prop} (hx : StoreOk env x) (hy : StoreOk env y) (h : K ((y, .fz b) :: (x, .fz a) :: σ)) : WG w n env σ (.Tuple [.Name x px, .Name y py] k pos) (.tup [a, b]) K := by
  intro A s g Mt₀ Mt v R E ro S r q
  simp only [Rep] at r
  obtain ⟨t, vs, m, rfl, nm, ho, rl⟩ := r
  obtain ⟨u, r1, rfl, ra, rl⟩ := rl.cons_inv
  obtain ⟨u', r2, rfl, rb, rl⟩ := rl.cons_inv
  rw [rl.nil_inv] at ho
  refine wpAny_assign_Tuple (items := #[u, u']) ro.hd ⟨_, ho, rfl, m, rfl⟩ rfl rfl fun h' hx' => ?_
  have kp : Kp s.heap h' := .of fun b o e => hx' b o (Nat.ne_of_lt (Heap.lt_size e)) e
  have S1 := S.keeps kp
  refine wpAny_assignInOrder_more (wpAny_assign_Name (store_fz S1 hx (ra.keepD (.of_stays kp)) fun h1 tk1 S2 st1 => ?_))
  refine wpAny_assignInOrder_more (wpAny_assign_Name (store_fz S2 hy ((S1.rep st1.up (rb.keepD (.of_stays kp)))) fun h2 tk2 S3 st2 => ?_))
  exact wpAny_assignInOrder_none (q h2 tk2 _ S3 (((Stp.of_stays kp).trans st1).trans st2) h)

variable {P : FlowD → Sto → Prop}
theorem WX.assign2 {es : List Expr} {k : Nat} {tp pos : Pos} {e : Expr} (h : WE w n env σ e fun d => WG w n env σ (.Tuple es k tp) d fun σ' => P .next σ')
    (hs : swapsWithSole [.Tuple es k tp] e pos.line env = pure Bool.false := by rfl) (hw : swappedStores [.Tuple es k tp] e env = pure Option.none := by rfl) : WX w n env σ (.Assign [.Tuple es k tp] e pos) P := by
  intro A s g Mt₀ Mt R E ro S q
  refine Assign_Tuple (h A s g Mt₀ Mt _ E ro S fun v h' tk' d kk r hg => ?_) hs hw
  exact hg A _ g Mt₀ Mt v _ E ro (S.keeps kk) r fun h2 tk2 σ' S' st hp => q .next h2 tk2 .next σ' Mt S' ((Stp.of_stays kk).trans st.up) trivial hp

/-- an object besides changes -/
theorem StF.ext {it : Addr} {oi : Obj} (S : St w g Mt₀ Mt env σ h) (hi : h.get? it = some oi) (hh : hard oi = false) (hd : ∀ es ep, oi.data ≠ .dict es ep) (hc : ∀ v, oi.data ≠ .cell v) (hm : ¬ Mt it) (hg : g.get? it = none) (k : Heap.ExtBut it h h') :
    St w g Mt₀ Mt env σ h' := by
  obtain ⟨al, ac⟩ := S.apart hi hd hc
  have kd : KeepD Mt h h' := KeepD.of_ext k (.inr fun o e => by rw [hi] at e; cases e; exact hh)
  have nsk : ∀ m, h.Ns env.locals m → h'.Ns env.locals m := fun m hn => hn.extBut k (Ne.symm al)
  have clk : ∀ y c v, env.cells.lookup y = some c → h.IsCell c v → h'.IsCell c v := fun y c v hc' ⟨o, ho, hd⟩ => ⟨o, k _ _ (fun q => ac y (q ▸ hc')) ho, hd⟩
  obtain ⟨μ, hμ, hdis, hfr⟩ := S.vars
  refine ⟨S.gd, S.stays.upd (P := (· = it)) (fun a q => by rw [q]; exact hg) (fun a o e q => k a o q e), S.kind, S.glob, S.blt, S.above, let ⟨m, hm⟩ := S.ns; ⟨m, nsk m hm⟩, fun y c hc' => let ⟨v, hv⟩ := S.cells y c hc'; ⟨v, clk y c v hc' hv⟩, S.inj, fun a m => let ⟨o, e⟩ := S.bd a m; ⟨o, k a o (fun q => hm (q ▸ m)) e⟩, S.sub, μ, fun x e he => ?_, hdis, hfr⟩
  obtain ⟨v, V, r, nd, hh'⟩ := hμ x e he
  refine ⟨v, ?_, entAt_change r kd (fun a ha o e => k a o (fun q => hm (q ▸ (hh' a ha).1)) e), nd, hh'⟩
  rcases V with ⟨k1, m, nn, e1⟩ | ⟨k1, c, hc', hcv⟩
  · exact .inl ⟨k1, m, nsk m nn, e1⟩
  · exact .inr ⟨k1, c, hc', clk x c _ hc' hcv⟩
theorem Stp.ext {it : Addr} {h0 : Heap} (p : Stp env Mt h0 Mt' h) (hn : h0.get? it = none) (k : Heap.ExtBut it h h') : Stp env Mt h0 Mt' h' := by
  have ne : ∀ a o, h0.get? a = some o → a ≠ it := fun a o e q => by rw [q, hn] at e; cases e
  exact ⟨fun a o e s l c m => k a o (ne a o e) (p.fra a o e s l c m), p.mt, fun a o e => let ⟨o', e'⟩ := p.alive a o e; ⟨o', k a o' (ne a o e) e'⟩⟩
end
end Mine
end

section
open PySem PySem.W PyProof.Rows PySem.Calls
set_option Elab.async false
set_option linter.unusedVariables false
namespace Mine

noncomputable def itemsOf : D → Option (List D)
  | .list l => some l
  | .str x => if x.cps.all (· < 128) = true then some (x.cps.toList.map fun c => .str ⟨#[c]⟩) else none
  | .bytes b => some (b.toList.map fun c => .int (c.toNat : Int))
  | .rng a b c => if Builtin.Range.small a b c = true then some ((List.range (Builtin.Range.rangeSize a b c).toNat).map fun (k : Nat) => .int (a + k * c)) else none
  | _ => none

noncomputable abbrev litObj (l : Addr) (i : Nat) : Obj := { cls := .type "list_iterator", data := .fields #[.ref l, .int i 0] }
noncomputable abbrev ritObj (x left st : Int) : Obj := { cls := .type "range_iterator", data := .fields #[rawInt x, rawInt left, rawInt st] }

/-- an iterator and what it has left -/
noncomputable def ItAt (h : Heap) (Mt : Addr → Prop) (it : Addr) (ds : List D) : Prop :=
  (∃ o l i vs n, h.get? it = some o ∧ o.cls = .type "list_iterator" ∧ o.data = .fields #[.ref l, .int (i : Nat) 0] ∧ ¬ Mt l ∧ h.get? l = some (listObj vs n) ∧ RepL h Mt ds (vs.drop i)) ∨
  (∃ x left st, h.get? it = some (ritObj x left st) ∧ ds = (List.range left.toNat).map fun (k : Nat) => .int (x + k * st)) ∨
  (∃ x t i, h.IsStrIter it "str_ascii_iterator" x t i ∧ ds = (x.cps.toList.drop i).map fun c => .str ⟨#[c]⟩) ∨
  (∃ b t i, KBw.IsBytesIter h it b t i ∧ ds = (b.toList.drop i).map fun c => .int (c.toNat : Int))

section
variable {w : World} {n : Nat} {env : Env} {σ : Sto} {g h h' : Heap} {Mt₀ Mt Mt' : Addr → Prop} {it : Addr} {ds : List D}

theorem ItAt.obj (x : ItAt h Mt it ds) : ∃ o, h.get? it = some o ∧ hard o = false ∧ (∀ es ep, o.data ≠ .dict es ep) ∧ (∀ v, o.data ≠ .cell v) ∧ ¬ Soft o := by
  rcases x with ⟨o, l, i, vs, n, ho, hc, hd, _⟩ | ⟨x, left, st, ho, _⟩ | ⟨x, t, i, ⟨o, ho, hc, hd⟩, _⟩ | ⟨b, t, i, ⟨o, ho, hc, hd⟩, _⟩
  · exact ⟨o, ho, by unfold hard; rw [hd, hc]; rfl, by rw [hd]; exact fields_nd, by rw [hd]; exact fields_nc, not_soft_cls (by rw [hc]; exact no_type)⟩
  · exact ⟨_, ho, rfl, fields_nd, fields_nc, not_soft_cls no_type⟩
  · exact ⟨o, ho, by unfold hard; rw [hd, hc]; rfl, by rw [hd]; exact fields_nd, by rw [hd]; exact fields_nc, not_soft_cls (by rw [hc]; exact no_type)⟩
  · exact ⟨o, ho, by unfold hard; rw [hd, hc]; rfl, by rw [hd]; exact fields_nd, by rw [hd]; exact fields_nc, not_soft_cls (by rw [hc]; exact no_type)⟩
/-- it lives on where its object and the data do -/
theorem ItAt.keep (x : ItAt h Mt it ds) (k : ∀ o, h.get? it = some o → h'.get? it = some o) (kd : KeepD Mt h h') (hm : ∀ a o, h.get? a = some o → Mt' a → Mt a) : ItAt h' Mt' it ds := by
  rcases x with ⟨o, l, i, vs, n, ho, hc, hd, ml, hl, r⟩ | ⟨x, left, st, ho, e⟩ | ⟨x, t, i, ⟨o, ho, hc, hd⟩, e⟩ | ⟨b, t, i, ⟨o, ho, hc, hd⟩, e⟩
  · refine .inl ⟨o, l, i, vs, n, k _ ho, hc, hd, fun m => ml (hm l _ hl m), kd _ _ hard_list ml hl, ?_⟩
    have r1 : RepL h (fun a => Mt a ∨ Mt' a) ds (vs.drop i) := r.less fun a o e m => m.elim id (hm a o e)
    have kd' : KeepD (fun a => Mt a ∨ Mt' a) h h' := fun a o hh m e => kd a o hh (fun q => m (.inl q)) e
    exact (r1.keepD kd').less fun _ _ _ m => .inr m
  · exact .inr (.inl ⟨x, left, st, k _ ho, e⟩)
  · exact .inr (.inr (.inl ⟨x, t, i, ⟨o, k _ ho, hc, hd⟩, e⟩))
  · exact .inr (.inr (.inr ⟨b, t, i, ⟨o, k _ ho, hc, hd⟩, e⟩))

theorem ItAt.make {A : Around} {E : Value → Shared → Prop} {s : Shared} {d : D} {v : Value} {Q : Value → Shared → Prop} (r : Rep s.heap Mt d v) (hi : itemsOf d = some ds)
    (h : ∀ o, ItAt (s.heap.push o) Mt s.heap.objs.size ds → o.isFreed = false → Q (.ref s.heap.objs.size) { s with heap := s.heap.push o }) : wpAny (model prog w) A (pyIter v) Q E s := by
  cases d <;> simp only [itemsOf] at hi <;> try cases hi
  · simp only [Rep] at r
    obtain ⟨t, rfl⟩ := r
    split at hi
    · cases hi
      rename_i hs
      refine wpAny_pyIter_ascii hs (h _ ?_ rfl)
      exact .inr (.inr (.inl ⟨_, t, 0, ⟨_, Heap.get?_push_size _ rfl, rfl, rfl⟩, by rw [List.drop_zero]⟩))
    · cases hi
  · simp only [Rep] at r
    obtain ⟨t, rfl⟩ := r
    refine KBw.pyIter_bytes (h _ ?_ rfl)
    exact .inr (.inr (.inr ⟨_, t, 0, ⟨_, Heap.get?_push_size _ rfl, rfl, rfl⟩, by rw [List.drop_zero]⟩))
  · simp only [Rep] at r
    obtain ⟨a, vs, k, rfl, m, ho, rl⟩ := r
    refine wpAny_pyIter_list ⟨_, ho, rfl, k, rfl⟩ (h _ ?_ rfl)
    exact .inl ⟨_, a, 0, vs, k, Heap.get?_push_size _ rfl, rfl, rfl, m, Heap.get?_push_of_some _ ho, by rw [List.drop_zero]; exact rl.keepD (.of_stays (stays_push _ _))⟩
  · simp only [Rep] at r
    obtain ⟨a, t1, t2, t3, rfl, m, ho⟩ := r
    split at hi
    · cases hi
      rename_i hs
      refine wpAny_pyIter_range ho hs (h _ ?_ rfl)
      exact .inr (.inl ⟨_, _, _, Heap.get?_push_size _ rfl, rfl⟩)
    · cases hi

theorem ItAt.again {A : Around} {E : Value → Shared → Prop} {s : Shared} {Q : Value → Shared → Prop} (x : ItAt s.heap Mt it ds) (h : Q (.ref it) s) : wpAny (model prog w) A (pyIter (.ref it)) Q E s := by
  rcases x with ⟨o, l, i, vs, n, ho, hc, hd, _⟩ | ⟨x, left, st, ho, _⟩ | ⟨x, t, i, hit, _⟩ | ⟨b, t, i, hit, _⟩
  · exact wpAny_pyIter_listiter ⟨o, ho, hc, hd⟩ h
  · exact wpAny_pyIter_rangeiter ho h
  · exact wpAny_pyIter_striter_ascii hit h
  · exact KBw.pyIter_self hit h

theorem ItAt.next {A : Around} {E : Value → Shared → Prop} {s : Shared} {d : D} {Q : Option Value → Shared → Prop} (x : ItAt s.heap Mt it (d :: ds)) (hm : ¬ Mt it)
    (h : ∀ v h' tk', Rep h' Mt d v → ItAt h' Mt it ds → Heap.ExtBut it s.heap h' → Q (some v) { s with heap := h', toks := tk' }) : wpAny (model prog w) A (pyNext (.ref it)) Q E s := by
  rcases id x with ⟨o, l, i, vs, n, ho, hc, hd, ml, hl, r⟩ | ⟨x, left, st, ho, e⟩ | ⟨x, t, i, hit, e⟩ | ⟨b, t, i, hit, e⟩
  · obtain ⟨u, us, e1, ru, rus⟩ := r.cons_inv
    have hx : vs[i]? = some u := by rw [← List.head?_drop, e1]; rfl
    refine wpAny_pyNext_list_item (x := u) ⟨o, ho, hc, hd⟩ ⟨_, hl, rfl, n, rfl⟩ (by simpa using hx) fun h' hit hs => ?_
    have kd : KeepD Mt s.heap h' := KeepD.of_same hs (.inr fun o' e' => by rw [ho] at e'; cases e'; unfold hard; rw [hd, hc]; rfl)
    obtain ⟨o', ho', hc', hd'⟩ := hit
    refine h u h' s.toks (ru.keepD kd) (.inl ⟨o', l, i + 1, vs, n, ho', hc', hd', ml, kd _ _ hard_list ml hl, ?_⟩) hs.extBut
    have : vs.drop (i + 1) = us := by rw [← List.drop_drop, e1]; rfl
    rw [this]; exact rus.keepD kd
  · have hp : 0 < left.toNat := by
      cases hq : left.toNat with
      | zero => rw [hq] at e; cases e
      | succ k => omega
    refine wpAny_pyNext_range_item ho (by omega) fun h' hit hs => ?_
    have e2 : left.toNat = (left - 1).toNat + 1 := by omega
    rw [e2, List.range_succ_eq_map, List.map_cons, List.map_map] at e
    injection e with ea eb
    refine h _ h' _ ?_ (.inr (.inl ⟨_, _, _, hit, ?_⟩)) hs.extBut
    · rw [ea]; simp only [Rep]; exact ⟨_, by simp; rfl⟩
    · rw [eb]; apply List.map_congr_left; intro k _; simp only [Function.comp]; congr 1; simp only [Nat.succ_eq_add_one, Int.natCast_add, Int.add_mul]; omega
  · have hi : i < x.cps.toList.length := by
      refine Nat.lt_of_not_le fun hle => ?_
      rw [List.drop_eq_nil_of_le hle] at e; cases e
    rw [List.drop_eq_getElem_cons hi, List.map_cons] at e
    injection e with ea eb
    have hi' : i < x.cps.size := by simpa using hi
    refine wpAny_pyNext_ascii_item hit (c := x.cps[i]) (by simp [hi']) fun h' hit' hs => ?_
    refine h _ h' _ ?_ (.inr (.inr (.inl ⟨_, _, _, hit', eb⟩))) hs.extBut
    rw [ea]; simp only [Rep]; exact ⟨_, by simp; rfl⟩
  · have hi : i < b.toList.length := by
      refine Nat.lt_of_not_le fun hle => ?_
      rw [List.drop_eq_nil_of_le hle] at e; cases e
    rw [List.drop_eq_getElem_cons hi, List.map_cons] at e
    injection e with ea eb
    have hi' : i < b.size := by simpa using hi
    refine KBw.next_item hit (c := b[i]) (by simp [hi']) fun h' hit' hs => ?_
    refine h _ h' _ ?_ (.inr (.inr (.inr ⟨_, _, _, hit', eb⟩))) hs.extBut
    rw [ea]; simp only [Rep]; exact ⟨_, by simp; rfl⟩
theorem ItAt.done {A : Around} {E : Value → Shared → Prop} {s : Shared} {Q : Option Value → Shared → Prop} (x : ItAt s.heap Mt it []) (hA : A.handled = none)
    (h : ∀ h' tk', Heap.ExtBut it s.heap h' → Q none { s with heap := h', toks := tk' }) : wpAny (model prog w) A (pyNext (.ref it)) Q E s := by
  rcases id x with ⟨o, l, i, vs, n, ho, hc, hd, ml, hl, r⟩ | ⟨x, left, st, ho, e⟩ | ⟨x, t, i, hit, e⟩ | ⟨b, t, i, hit, e⟩
  · refine wpAny_pyNext_list_end hA ⟨o, ho, hc, hd⟩ ⟨_, hl, rfl, n, rfl⟩ ?_ fun h' hx => h h' s.toks hx
    have := r.nil_inv
    rw [List.drop_eq_nil_iff] at this
    simpa using this
  · refine wpAny_pyNext_range_end hA ho ?_ fun h' hx => h h' s.toks hx
    cases hq : left.toNat with
    | zero => omega
    | succ k => rw [hq, List.range_succ_eq_map] at e; cases e
  · have e' := List.drop_eq_nil_iff.mp (List.map_eq_nil_iff.mp e.symm)
    exact wpAny_pyNext_ascii_end hA hit (by simpa using e') fun h' hx => h h' s.toks hx
  · have e' := List.drop_eq_nil_iff.mp (List.map_eq_nil_iff.mp e.symm)
    exact KBw.next_end hA hit (by simpa using e') fun h' hx => h h' s.toks hx
/-- the loop's own tuple: none of an iterator of ours -/
theorem own_kinds (t : Expr) : (∀ it v, letOwnedTupleGo t it v = pure ()) ∨ ∀ it v, letOwnedTupleGo t it v = letOwnedTupleGo (.List [] default) it v := by
  cases t <;> first | exact .inl fun _ _ => rfl | exact .inr fun _ _ => rfl
theorem letOwned_ok {A : Around} {E : Value → Shared → Prop} {s : Shared} {t : Expr} {v : Value} {Q : Unit → Shared → Prop} (x : ItAt s.heap Mt it ds) (h : Q () s) : wpAny (model prog w) A (letOwnedTupleGo t (.ref it) v) Q E s := by
  have kind : ∃ o T vs, s.heap.get? it = some o ∧ o.cls = .type T ∧ o.data = .fields vs ∧ T ∈ ["list_iterator", "range_iterator", "str_ascii_iterator", "bytes_iterator"] := by
    rcases x with ⟨o, l, i, vs, n, ho, hc, hd, _⟩ | ⟨x, left, st, ho, _⟩ | ⟨x, t, i, ⟨o, ho, hc, hd⟩, _⟩ | ⟨b, t, i, ⟨o, ho, hc, hd⟩, _⟩
    · exact ⟨o, _, _, ho, hc, hd, by simp⟩
    · exact ⟨_, _, _, ho, rfl, rfl, by simp⟩
    · exact ⟨o, _, _, ho, hc, hd, by simp⟩
    · exact ⟨o, _, _, ho, hc, hd, by simp⟩
  rcases own_kinds t with e | e <;> rw [e]
  · exact wpAny_pure h
  · obtain ⟨o, T, vs, ho, hc, hd, hT⟩ := kind
    cases v
    case ref a =>
      refine wpAny_bind (m := load it) (wpAny_load ho ?_)
      rw [hc, hd]
      simp only [List.mem_cons, List.not_mem_nil, or_false] at hT
      rcases hT with rfl | rfl | rfl | rfl <;> exact wpAny_pure h
    all_goals exact wpAny_pure h

/-- a loop over items -/
noncomputable def LoopW (w : World) (n : Nat) (env : Env) (t : Expr) (body : List Stmt) : List D → Sto → (FlowD → Sto → Prop) → Prop
  | [], σ, P => P .next σ
  | d :: ds, σ, P => WG w n env σ t d fun σ1 => WS w n env σ1 body fun fl σ2 => match fl with
    | .next => LoopW w n env t body ds σ2 P
    | .cont => LoopW w n env t body ds σ2 P
    | .brk => P .next σ2
    | .ret d => P (.ret d) σ2

variable {P : FlowD → Sto → Prop}
theorem WX.for {t iter : Expr} {body : List Stmt} {pos : Pos} (h : WE w n env σ iter fun d => ∃ ds, itemsOf d = some ds ∧ LoopW w n env t body ds σ P)
    (hs : ∀ x, foldedSetIterable iter env x = pure x := by intro _; rfl) : WX w n env σ (.For t iter body [] pos) P := by
  intro A s g Mt₀ Mt R E ro S q
  refine wpAny_For (h A s g Mt₀ Mt _ E ro S fun v h' tk' d kk r hl => ?_) hs
  obtain ⟨ds, hi, hL⟩ := hl
  have S1 := S.keeps kk
  refine ItAt.make r hi fun o X hf => ?_
  have S2 := S1.keeps (stays_push h' o)
  have hn : h'.get? h'.objs.size = none := get_size_none h'
  have hm : ¬ Mt h'.objs.size := fun m => by obtain ⟨o, e⟩ := S1.bd _ m; rw [hn] at e; cases e
  have hg : g.get? h'.objs.size = none := by
    cases hq : g.get? h'.objs.size with
    | none => rfl
    | some o => obtain ⟨_, this⟩ := S1.stays.alive hq; rw [hn] at this; cases this
  -- the state between two turns
  refine codeAny_forLoop_any (fun k s' => ∃ ds' σ' Mt' h'' tk'', k = List.length ds' ∧ s' = { s with heap := h'', toks := tk'' } ∧ St w g Mt₀ Mt' env σ' h'' ∧ Stp env Mt h' Mt' h'' ∧ ¬ Mt' h'.objs.size ∧ ItAt h'' Mt' h'.objs.size ds' ∧ LoopW w n env t body ds' σ' P) ?_ ds.length
    ⟨ds, σ, Mt, _, _, rfl, rfl, S2, .of_stays (stays_push h' o), hm, X, hL⟩
  rintro k s' ⟨ds', σ', Mt', h'', tk'', rfl, rfl, S', st, hm', X', hL'⟩
  obtain ⟨oi, ho, hh, hd, hc, ns⟩ := X'.obj
  cases ds' with
  | nil =>
    refine X'.done ro.hd fun h3 tk3 hx => ?_
    refine wpAny_execs_nil ?_
    exact q .next h3 tk3 .next σ' Mt' (S'.ext ho hh hd hc hm' hg hx) ((Stp.of_stays kk).trans (st.ext hn hx)) trivial hL'
  | cons d ds' =>
    refine X'.next hm' fun v h3 tk3 rv X3 hx => ?_
    have S3 := S'.ext ho hh hd hc hm' hg hx
    refine letOwned_ok X3 ?_
    refine hL' A _ g Mt₀ Mt' v _ _ ro S3 rv fun h4 tk4 σ4 S4 st4 hb => ?_
    obtain ⟨o3, ho3, hh3, hd3, hc3, ns3⟩ := X3.obj
    obtain ⟨al, ac⟩ := S3.apart ho3 hd3 hc3
    have X4 : ItAt h4 Mt' h'.objs.size ds' := X3.keep (fun o e => st4.fra _ o e (by rw [ho3] at e; cases e; exact ns3) al ac id) (S3.keepD st4.up) fun _ _ _ m => m
    refine hb A _ g Mt₀ Mt' _ _ ro S4 fun f h5 tk5 fd σ5 Mt5 S5 st5 fr hp => ?_
    have stt : Stp env Mt h' Mt5 h5 := ((st.ext hn hx).trans st4.up).trans st5
    have fin : ∀ _ : Unit, LoopW w n env t body ds' σ5 P → ∃ m, m < (d :: ds').length ∧ ∃ ds' σ' Mt' h'' tk'', m = List.length ds' ∧ ({ s with heap := h5, toks := tk5 } : Shared) = { s with heap := h'', toks := tk'' } ∧ St w g Mt₀ Mt' env σ' h'' ∧ Stp env Mt h' Mt' h'' ∧ ¬ Mt' h'.objs.size ∧ ItAt h'' Mt' h'.objs.size ds' ∧ LoopW w n env t body ds' σ' P := by
      intro _ hl
      obtain ⟨o4, ho4, hh4, hd4, hc4, ns4⟩ := X4.obj
      obtain ⟨al4, ac4⟩ := S4.apart ho4 hd4 hc4
      have hm5 : ¬ Mt5 h'.objs.size := fun m => (st5.mt _ m).elim hm' fun e => by rw [ho4] at e; cases e
      refine ⟨ds'.length, Nat.lt_succ_self _, ds', σ5, Mt5, h5, tk5, rfl, rfl, S5, stt, hm5, ?_, hl⟩
      exact X4.keep (fun o e => st5.fra _ o e (by rw [ho4] at e; cases e; exact ns4) al4 ac4 hm') (S4.keepD st5) fun a o e m => (st5.mt a m).elim id fun x => by rw [e] at x; cases x
    cases fd with
    | next => cases f <;> first | exact fr.elim | exact fin () hp
    | cont => cases f <;> first | exact fr.elim | exact fin () hp
    | brk => cases f <;> first | exact fr.elim | exact q .next h5 tk5 .next σ5 Mt5 S5 ((Stp.of_stays kk).trans stt) trivial hp
    | ret d => cases f <;> first | exact fr.elim | exact q _ h5 tk5 (.ret d) σ5 Mt5 S5 ((Stp.of_stays kk).trans stt) fr hp

/-- a while, by the number of its turns -/
noncomputable def WhileW (w : World) (n : Nat) (env : Env) (t : Expr) (body : List Stmt) : Nat → Sto → (FlowD → Sto → Prop) → Prop
  | 0, _, _ => False
  | k + 1, σ, P => WT w n env σ t fun b => (b = true → WS w n env σ body fun fl σ2 => match fl with
    | .next => WhileW w n env t body k σ2 P
    | .cont => WhileW w n env t body k σ2 P
    | .brk => P .next σ2
    | .ret d => P (.ret d) σ2) ∧ (b = false → P .next σ)
theorem WX.while {t : Expr} {body : List Stmt} {pos : Pos} {k : Nat} (h : WhileW w n env t body k σ P) : WX w n env σ (.While t body [] pos) P := by
  intro A s g Mt₀ Mt R E ro S q
  refine wpAny_While ?_
  refine codeAny_whileLoop (fun k s' => ∃ σ' Mt' h'' tk'', s' = { s with heap := h'', toks := tk'' } ∧ St w g Mt₀ Mt' env σ' h'' ∧ Stp env Mt s.heap Mt' h'' ∧ WhileW w n env t body k σ' P) ?_ k ⟨σ, Mt, s.heap, s.toks, rfl, S, .of_stays (stays_refl _), h⟩
  rintro k s' ⟨σ', Mt', h'', tk'', rfl, S', st, hW⟩
  cases k with
  | zero => exact hW.elim
  | succ k =>
    refine hW A _ g Mt₀ Mt' _ _ ro S' fun b h3 tk3 k3 hb => ?_
    cases b with
    | false => exact wpAny_execs_nil (q .next h3 tk3 .next σ' Mt' (S'.keeps k3) (st.trans (.of_stays k3)) trivial (hb.2 rfl))
    | true =>
      refine hb.1 rfl A _ g Mt₀ Mt' _ _ ro (S'.keeps k3) fun f h5 tk5 fd σ5 Mt5 S5 st5 fr hp => ?_
      have stt := (st.trans (.of_stays k3)).trans st5
      cases fd with
      | next => cases f <;> first | exact fr.elim | exact ⟨k, Nat.lt_succ_self _, σ5, Mt5, h5, tk5, rfl, S5, stt, hp⟩
      | cont => cases f <;> first | exact fr.elim | exact ⟨k, Nat.lt_succ_self _, σ5, Mt5, h5, tk5, rfl, S5, stt, hp⟩
      | brk => cases f <;> first | exact fr.elim | exact q .next h5 tk5 .next σ5 Mt5 S5 stt trivial hp
      | ret d => cases f <;> first | exact fr.elim | exact q _ h5 tk5 (.ret d) σ5 Mt5 S5 stt fr hp
end
end Mine
end

section
open PySem PySem.W PyProof.Rows PySem.Calls
set_option Elab.async false
set_option linter.unusedVariables false
namespace Mine

noncomputable def AllFz (σ : Sto) : Prop := ∀ x e, σ.lookup x = some e → ∃ d, e = .fz d
theorem AllFz.cons {σ : Sto} {x : Str} {d : D} (h : AllFz σ) : AllFz ((x, .fz d) :: σ) := fun y e he => by
  by_cases q : y = x
  · subst q; rw [lookup_cons_self] at he; cases he; exact ⟨d, rfl⟩
  · rw [lookup_cons_ne q] at he; exact h y e he
theorem AllFz.nil : AllFz [] := fun _ _ h => by cases h

noncomputable def Sub (σ σ' : Sto) : Prop := ∀ x e, σ.lookup x = some e → σ'.lookup x = some e
theorem Sub.refl (σ : Sto) : Sub σ σ := fun _ _ h => h
theorem Sub.cons {σ σ' : Sto} {x : Str} {e : Ent} (h : Sub σ σ') (hx : σ.lookup x = none) : Sub σ ((x, e) :: σ') := fun y f hy => by
  by_cases q : y = x
  · subst q; rw [hx] at hy; cases hy
  · rw [lookup_cons_ne q]; exact h y f hy

section
variable {w : World} {n : Nat} {env : Env} {σ : Sto} {g h h' : Heap} {Mt₀ Mt Mt' : Addr → Prop}

/-- a list that no name owns changes -/
theorem StF.acc {a : Addr} {oa : Obj} (S : St w g Mt₀ Mt env σ h) (fz : AllFz σ) (hm : Mt a) (hg : g.get? a = none) (ho : h.get? a = some oa) (hd : ∀ es ep, oa.data ≠ .dict es ep) (hc : ∀ v, oa.data ≠ .cell v)
    (hs : Heap.SameBut a h h') (hal : ∃ o, h'.get? a = some o) : St w g Mt₀ Mt env σ h' ∧ Stp env Mt h Mt h' := by
  obtain ⟨al, ac⟩ := S.apart ho hd hc
  have k := hs.extBut
  have kd : KeepD Mt h h' := KeepD.of_same hs (.inl hm)
  have nsk : ∀ m, h.Ns env.locals m → h'.Ns env.locals m := fun m hn => hn.extBut k (Ne.symm al)
  have clk : ∀ y c v, env.cells.lookup y = some c → h.IsCell c v → h'.IsCell c v := fun y c v hc' ⟨o, ho, hd⟩ => ⟨o, k _ _ (fun q => ac y (q ▸ hc')) ho, hd⟩
  obtain ⟨μ, hμ, hdis, hfr⟩ := S.vars
  have alive : ∀ b o, h.get? b = some o → ∃ o', h'.get? b = some o' := fun b o e => by
    by_cases q : b = a
    · rw [q]; exact hal
    · exact ⟨o, k b o q e⟩
  refine ⟨⟨S.gd, S.stays.upd (P := (· = a)) (fun b q => by rw [q]; exact hg) (fun b o e q => k b o q e), S.kind, S.glob, S.blt, S.above, let ⟨m, hm⟩ := S.ns; ⟨m, nsk m hm⟩, fun y c hc' => let ⟨v, hv⟩ := S.cells y c hc'; ⟨v, clk y c v hc' hv⟩, S.inj, fun b m => let ⟨o, e⟩ := S.bd b m; alive b o e, S.sub, μ, fun x e he => ?_, hdis, hfr⟩, ⟨fun b o e _ _ _ m => k b o (fun q => m (q ▸ hm)) e, fun _ m => .inl m, alive⟩⟩
  obtain ⟨v, V, r, nd, hh'⟩ := hμ x e he
  obtain ⟨d, rfl⟩ := fz x e he
  refine ⟨v, ?_, ⟨r.1.keepD kd, r.2⟩, nd, hh'⟩
  rcases V with ⟨k1, m, nn, e1⟩ | ⟨k1, c, hc', hcv⟩
  · exact .inl ⟨k1, m, nsk m nn, e1⟩
  · exact .inr ⟨k1, c, hc', clk x c _ hc' hcv⟩

/-- the tests of a clause -/
noncomputable def TestsW (w : World) (n : Nat) (env : Env) (σ : Sto) : List Expr → (Bool → Prop) → Prop
  | [], K => K true
  | c :: cs, K => WT w n env σ c fun b => (b = true → TestsW w n env σ cs K) ∧ (b = false → K false)
noncomputable abbrev testsTree (env : Env) (cs : List Expr) (ok : Bool) : Sem Bool := forIn cs ok fun c r => if r = true then do let ok ← isTrue c env (eval c env); pure (ForInStep.yield ok) else pure (ForInStep.yield r)
theorem tests_false {A : Around} {E : Value → Shared → Prop} {s : Shared} {R : Bool → Shared → Prop} : ∀ {cs : List Expr}, R false s → wpAny (model prog w) A (testsTree env cs false) R E s
  | [], h => wpAny_pure h
  | c :: cs, h => by
    unfold testsTree
    rw [List.forIn_cons]
    exact wpAny_bind (wpAny_ite_false (by decide) (wpAny_pure (tests_false h)))
theorem tests_ok {A : Around} {E : Value → Shared → Prop} (ro : Room A n) {K : Bool → Prop} : ∀ {cs : List Expr} {s : Shared} {R : Bool → Shared → Prop}, TestsW w n env σ cs K → St w g Mt₀ Mt env σ s.heap → RetB s K R → wpAny (model prog w) A (testsTree env cs true) R E s
  | [], s, R, h, S, q => wpAny_pure (q true s.heap s.toks (stays_refl _) h)
  | c :: cs, s, R, h, S, q => by
    unfold testsTree
    rw [List.forIn_cons]
    refine wpAny_bind (wpAny_ite_true rfl (wpAny_bind (h A s g Mt₀ Mt _ E ro S fun b h' tk' k hb => wpAny_pure ?_)))
    cases b with
    | false => exact tests_false (q false h' tk' k (hb.2 rfl))
    | true => exact tests_ok (s := { s with heap := h', toks := tk' }) ro (hb.1 rfl) (S.keeps k) fun b2 h2 tk2 k2 hb2 => q b2 h2 tk2 (stays_trans k k2) hb2

/-- what a clause's inside does to the list that is filled -/
noncomputable def CSem (w : World) (n : Nat) (env : Env) (a : Addr) (tree : Sem Unit) (σ : Sto) (acc : List D) (Q : List D → Prop) : Prop :=
  ∀ (A : Around) (s : Shared) (g : Heap) (Mt₀ Mt : Addr → Prop) (vs : List Value) (k : Nat) (R : Unit → Shared → Prop) (E : Value → Shared → Prop),
    Room A n → St w g Mt₀ Mt env σ s.heap → AllFz σ → Mt a → g.get? a = none → s.heap.get? a = some (listObj vs k) → RepL s.heap Mt acc vs →
    (∀ h' tk' acc' vs' k', St w g Mt₀ Mt env σ h' → Stp env Mt s.heap Mt h' → h'.get? a = some (listObj vs' k') → RepL h' Mt acc' vs' → Q acc' → R () { s with heap := h', toks := tk' }) → wpAny (model prog w) A tree R E s

noncomputable def Emit (w : World) (n : Nat) (env : Env) (elt : Expr) (σ : Sto) (acc : List D) (Q : List D → Prop) : Prop := acc.length ≤ sizeLine ∧ WE w n env σ elt fun d => Q (acc ++ [d])
theorem Emit.sound {elt : Expr} {acc : List D} {Q : List D → Prop} {a : Addr} (h : Emit w n env elt σ acc Q) : CSem w n env a (do let _ ← call (.builtin "list.append") [.ref a, ← eval elt env]) σ acc Q := by
  intro A s g Mt₀ Mt vs k R E ro S fz hm hg ho r q
  refine wpAny_bind (h.2 A s g Mt₀ Mt _ E ro S fun v h' tk' d kk rv hq => ?_)
  have S1 := S.keeps kk
  have ho1 := kk.h rfl ho
  refine wpAny_bind (wpAny_list_append_plain (items := vs.toArray) ⟨k, ho1⟩ (fun h'' hl'' hs'' => ?_) (by rw [List.size_toArray, r.length]; exact h.1))
  obtain ⟨k'', ho''⟩ := hl''
  rw [show vs.toArray.push v = (vs ++ [v]).toArray by simp] at ho''
  have kd : KeepD Mt h' h'' := KeepD.of_same hs'' (.inl hm)
  obtain ⟨S2, st⟩ := S1.acc fz hm hg ho1 seq_nd seq_nc hs'' ⟨_, ho''⟩
  exact wpAny_pure (q h'' tk' (acc ++ [d]) (vs ++ [v]) k'' S2 ((Stp.of_stays kk).trans st) ho'' (((r.keepD (.of_stays kk)).keepD kd).append (.cons (rv.keepD kd) .nil)) hq)

/-- a clause over its items -/
noncomputable def CompI (w : World) (n : Nat) (env : Env) (t : Expr) (ifs : List Expr) (K : Sto → List D → (List D → Prop) → Prop) : List D → Sto → List D → (List D → Prop) → Prop
  | [], σ, acc, Q => Q acc
  | d :: ds, σ, acc, Q => WG w n env σ t d fun σ1 => (Sub σ σ1 ∧ AllFz σ1) ∧ TestsW w n env σ1 ifs fun b =>
      (b = true → K σ1 acc fun acc' => CompI w n env t ifs K ds σ acc' Q) ∧ (b = false → CompI w n env t ifs K ds σ acc Q)

theorem compLoop_sound {elt : Expr} {gens : List Comprehension} {scope : Scope} {epos p : Pos} {depth : Nat} {t : Expr} {ifs : List Expr} {tree : Sem Unit} {K : Sto → List D → (List D → Prop) → Prop} {a it : Addr} {ds acc : List D} {Q : List D → Prop}
    {A : Around} {s : Shared} {vs : List Value} {k : Nat} {R : Result → Shared → Prop}
    (hturn : compTurn (.ListComp elt gens scope epos) depth (.ref it) (.ref a) env = (do
      standAt p
      match ← pyNext (.ref it) with
      | none => pure (.done .next)
      | some v =>
        letOwnedTupleGo t (.ref it) v
        assign t env v
        let mut ok := true
        for c in ifs do
          if ok then ok ← isTrue c env (eval c env)
        if ok then tree
        again (.compLoop (.ListComp elt gens scope epos) depth (.ref it) (.ref a) env)))
    (hK : ∀ σ acc Q, K σ acc Q → CSem w n env a tree σ acc Q)
    (hI : CompI w n env t ifs K ds σ acc Q) (ro : Room A n) (S : St w g Mt₀ Mt env σ s.heap) (fz : AllFz σ) (hm : Mt a) (hg : g.get? a = none) (ho : s.heap.get? a = some (listObj vs k)) (r : RepL s.heap Mt acc vs)
    (X : ItAt s.heap Mt it ds) (hmi : ¬ Mt it) (hgi : g.get? it = none) {h0 : Heap} (st0 : Stp env Mt h0 Mt s.heap) (hn0 : h0.get? it = none)
    (q : ∀ h' tk' acc' vs' k', St w g Mt₀ Mt env σ h' → Stp env Mt h0 Mt h' → h'.get? a = some (listObj vs' k') → RepL h' Mt acc' vs' → Q acc' → R (.ok .next) { s with heap := h', toks := tk' }) :
    codeAny (model prog w) A (.compLoop (.ListComp elt gens scope epos) depth (.ref it) (.ref a) env) R s := by
  refine codeAny_loop rfl (fun m s' => ∃ ds' acc' vs' k' h'' tk'', m = List.length ds' ∧ s' = { s with heap := h'', toks := tk'' } ∧ St w g Mt₀ Mt env σ h'' ∧ Stp env Mt h0 Mt h'' ∧ h''.get? a = some (listObj vs' k') ∧ RepL h'' Mt acc' vs' ∧
    ItAt h'' Mt it ds' ∧ CompI w n env t ifs K ds' σ acc' Q) ?_ ds.length ⟨ds, acc, vs, k, s.heap, s.toks, rfl, rfl, S, st0, ho, r, X, hI⟩
  rintro m s' ⟨ds', acc', vs', k', h'', tk'', rfl, rfl, S', st, ho', r', X', hI'⟩
  show wpAny _ A ((compTurn (.ListComp elt gens scope epos) depth (.ref it) (.ref a) env).onRaise (fun x => do noteFrame x env; theTreesLotGoes x)) _ _ _
  refine wpAny_noted ?_
  rw [hturn]
  refine wpAny_bind (wpAny_standAt (wpAny_bind ?_))
  obtain ⟨oi, hoi, hh, hd, hc, nsi⟩ := X'.obj
  cases ds' with
  | nil =>
    refine X'.done ro.hd fun h3 tk3 hx => ?_
    have ne : a ≠ it := fun e => hmi (e ▸ hm)
    have kd : KeepD Mt h'' h3 := KeepD.of_ext hx (.inr fun o e => by rw [hoi] at e; cases e; exact hh)
    exact wpAny_pure (q h3 tk3 acc' vs' k' (S'.ext hoi hh hd hc hmi hgi hx) (st.ext hn0 hx) (hx _ _ ne ho') (r'.keepD kd) hI')
  | cons d ds' =>
    refine X'.next hmi fun v h3 tk3 rv X3 hx => ?_
    have S3 := S'.ext hoi hh hd hc hmi hgi hx
    have ne : a ≠ it := fun e => hmi (e ▸ hm)
    have kd3 : KeepD Mt h'' h3 := KeepD.of_ext hx (.inr fun o e => by rw [hoi] at e; cases e; exact hh)
    have ho3 := hx _ _ ne ho'
    have r3 := r'.keepD kd3
    refine wpAny_bind (letOwned_ok X3 (wpAny_bind ?_))
    refine hI' A _ g Mt₀ Mt v _ _ ro S3 rv fun h4 tk4 σ4 S4 st4 hb => ?_
    obtain ⟨⟨sb, fz4⟩, hb⟩ := hb
    obtain ⟨o3, ho3', hh3, hd3, hc3, ns3⟩ := X3.obj
    obtain ⟨al, ac⟩ := S3.apart ho3' hd3 hc3
    obtain ⟨ala, aca⟩ := S3.apart ho3 seq_nd seq_nc
    have X4 : ItAt h4 Mt it ds' := X3.keep (fun o e => st4.fra _ o e (by rw [ho3'] at e; cases e; exact ns3) al ac id) (S3.keepD st4.up) fun _ _ _ m => m
    have ho4 : h4.get? a = some (listObj vs' k') := st4.fra _ _ ho3 (not_soft_cls no_type) ala aca id
    have r4 := S3.repL (st4.up (Mt := Mt)) r3
    have st4' : Stp env Mt h0 Mt h4 := (st.ext hn0 hx).trans st4.up
    refine wpAny_bind (tests_ok ro hb S4 fun b h5 tk5 k5 hb5 => ?_)
    have S5 := S4.keeps k5
    obtain ⟨o4x, ho4x, _, _, _, ns4x⟩ := X4.obj
    have X5 : ItAt h5 Mt it ds' := X4.keep (fun o e => k5.k _ _ e (.inl (by rw [ho4x] at e; cases e; exact ns4x))) (.of_stays k5) fun _ _ _ m => m
    have ho5 := k5.h rfl ho4
    have r5 := r4.keepD (.of_stays k5)
    have st5 := st4'.trans (.of_stays k5)
    cases b with
    | false => exact wpAny_pure ⟨rfl, ds'.length, Nat.lt_succ_self _, ds', acc', vs', k', h5, tk5, rfl, rfl, S5.forget sb, st5, ho5, r5, X5, hb5.2 rfl⟩
    | true =>
      refine wpAny_bind ?_
      refine hK _ _ _ (hb5.1 rfl) A _ g Mt₀ Mt vs' k' _ _ ro S5 fz4 hm hg ho5 r5 fun h6 tk6 acc6 vs6 k6 S6 st6 ho6 r6 hq6 => ?_
      obtain ⟨o5, ho5', hh5, hd5, hc5, ns5⟩ := X5.obj
      obtain ⟨al5, ac5⟩ := S5.apart ho5' hd5 hc5
      have X6 : ItAt h6 Mt it ds' := X5.keep (fun o e => st6.fra _ o e (by rw [ho5'] at e; cases e; exact ns5) al5 ac5 hmi) (S5.keepD st6) fun _ _ _ m => m
      exact wpAny_pure ⟨rfl, ds'.length, Nat.lt_succ_self _, ds', acc6, vs6, k6, h6, tk6, rfl, rfl, S6.forget sb, st5.trans st6, ho6, r6, X6, hq6⟩
end
end Mine
end

section
open PySem PySem.W PyProof.Rows PySem.Calls
set_option Elab.async false
set_option linter.unusedVariables false
namespace Mine

noncomputable def InjC (l : List (Str × Addr)) : Prop := ∀ x y c, l.lookup x = some c → l.lookup y = some c → x = y

theorem cells_facts : ∀ (names : List (Str × NameKind)) (h : Heap) (acc : List (Str × Addr)), (∀ x c, acc.lookup x = some c → ∃ v, h.IsCell c v) → InjC acc →
    (∀ x c, (cellsFrom h.objs.size names acc).lookup x = some c → ∃ v, (pushCells h names).IsCell c v) ∧ InjC (cellsFrom h.objs.size names acc)
  | [], h, acc, h1, h2 => ⟨h1, h2⟩
  | (name, kind) :: r, h, acc, h1, h2 => by
    unfold cellsFrom pushCells
    split
    · have := cells_facts r (h.push { cls := .type "cell", data := .cell none }) ((name, h.objs.size) :: acc) (fun x c hc => ?_) (fun x y c hx hy => ?_)
      · rw [Heap.size_push] at this; exact this
      · by_cases q : x = name
        · subst q
          rw [List.lookup_cons, beq_self_eq_true] at hc
          cases hc
          exact ⟨none, _, Heap.get?_push_size _ rfl, rfl⟩
        · have q' : (x == name) = false := by simpa using q
          rw [List.lookup_cons, q'] at hc
          obtain ⟨v, o, ho, hd⟩ := h1 x c hc
          exact ⟨v, o, Heap.get?_push_of_some _ ho, hd⟩
      · have old : ∀ x c, acc.lookup x = some c → c < h.objs.size := fun x c hc => let ⟨v, o, ho, hd⟩ := h1 x c hc; Heap.lt_size ho
        by_cases q : x = name
        · by_cases q2 : y = name
          · rw [q, q2]
          · have q' : (y == name) = false := by simpa using q2
            rw [List.lookup_cons, q'] at hy
            rw [q, List.lookup_cons, beq_self_eq_true] at hx
            cases hx
            exact absurd (old y _ hy) (Nat.lt_irrefl _)
        · have q' : (x == name) = false := by simpa using q
          rw [List.lookup_cons, q'] at hx
          by_cases q2 : y = name
          · rw [q2, List.lookup_cons, beq_self_eq_true] at hy
            cases hy
            exact absurd (old x _ hx) (Nat.lt_irrefl _)
          · have q2' : (y == name) = false := by simpa using q2
            rw [List.lookup_cons, q2'] at hy
            exact h2 x y c hx hy
    · exact cells_facts r h acc h1 h2

/-- a comprehension's own table -/
noncomputable def compX (scope : Scope) (cl : List (Str × Addr)) (C : Addr) (env : Env) : Env :=
  compEnvC scope (cellsFrom (C + 1) scope.names cl) C env

/-- the names that it takes from outside -/
noncomputable def Cap (env cenv : Env) (σ : Sto) : Sto → Prop
  | [] => True
  | (x, e) :: r => (∃ d, e = .fz d ∧ σ.lookup x = some (.fz d) ∧ env.kindOf x = some .cell ∧ cenv.kindOf x = some .cell ∧ cenv.cells.lookup x = env.cells.lookup x) ∧ Cap env cenv σ r
theorem Cap.get {env cenv : Env} {σ : Sto} : ∀ {τ : Sto} {x : Str} {e : Ent}, Cap env cenv σ τ → τ.lookup x = some e → ∃ d, e = .fz d ∧ σ.lookup x = some (.fz d) ∧ env.kindOf x = some .cell ∧ cenv.kindOf x = some .cell ∧ cenv.cells.lookup x = env.cells.lookup x
  | (y, f) :: r, x, e, h, q => by
    by_cases hxy : x = y
    · subst hxy; rw [lookup_cons_self] at q; cases q; exact h.1
    · rw [lookup_cons_ne hxy] at q; exact Cap.get h.2 q

section
variable {w : World} {n : Nat} {env : Env} {σ : Sto} {g : Heap} {Mt₀ Mt : Addr → Prop}

theorem comp_core {elt t iter : Expr} {ifs : List Expr} {gs : List Comprehension} {scope : Scope} {epos : Pos} {cl : List (Str × Addr)} {τ : Sto} {d : D} {items : List D} {tree : Addr → Addr → Sem Unit} {K : Addr → Sto → List D → (List D → Prop) → Prop} {QL : List D → Prop}
    {A : Around} {E : Value → Shared → Prop} {s : Shared} {x : Value} {RR : Value → Addr → Result → Shared → Prop} {p : Pos}
    (ro : Room A n) (S : St w g Mt₀ Mt env σ s.heap) (r : Rep s.heap Mt d x) (hi : itemsOf d = some items)
    (hkind : scope.kind = .function) (hcl : ∀ y c, cl.lookup y = some c → env.cells.lookup y = some c)
    (hcap : ∀ C, Cap env (compX scope cl C env) σ τ)
    (hturn : ∀ C it a, compTurn (.ListComp elt (⟨t, iter, ifs, 0⟩ :: gs) scope epos) 0 (.ref it) (.ref a) (compX scope cl C env) = (do
      standAt p
      match ← pyNext (.ref it) with
      | none => pure (.done .next)
      | some v =>
        letOwnedTupleGo t (.ref it) v
        assign t (compX scope cl C env) v
        let mut ok := true
        for c in ifs do
          if ok then ok ← isTrue c (compX scope cl C env) (eval c (compX scope cl C env))
        if ok then tree C a
        again (.compLoop (.ListComp elt (⟨t, iter, ifs, 0⟩ :: gs) scope epos) 0 (.ref it) (.ref a) (compX scope cl C env))))
    (hK : ∀ C a σ acc Q, K C σ acc Q → CSem w n (compX scope cl C env) a (tree C a) σ acc Q)
    (hI : ∀ C, CompI w n (compX scope cl C env) t ifs (K C) items τ [] QL)
    (q : ∀ a h' tk' acc C m, Kp s.heap h' → Rep h' Mt (.list acc) (.ref a) → QL acc → h'.Ns C m → s.heap.get? C = none → a ≠ C → RR (.ref a) C (.ok .next) { s with heap := h', toks := tk' }) :
    wpAny (model prog w) A (pyIter x) (fun it s₂ => wpAny (model prog w) A (newList []) (fun acc s₃ =>
      wpAny (model prog w) A (newFunctionEnv scope env.globals cl [] env.qual none .none (some env)) (fun cenv s₄ =>
        codeAny (model prog w) A (.compStart (.ListComp elt (⟨t, iter, ifs, 0⟩ :: gs) scope epos) 0 it acc { cenv with scope := relabel scope env }) (RR acc cenv.locals) s₄) E s₃) E s₂) E s := by
  refine ItAt.make r hi fun o X hf => ?_
  refine wpAny_newList ?_ (by decide)
  simp only [newFunctionEnv, Option.isSome_some, if_true]
  refine wpAny_bind (wpAny_alloc ?_)
  refine wpAny_bind (wpAny_layCells _ (fun name kind cells => by cases hkc : kind == NameKind.cell <;> simp [hkc]) _ _ _ _ ?_)
  refine wpAny_bind (wpAny_pure (wpAny_pure ?_))
  -- the heaps
  generalize hh1 : s.heap.push o = h1 at X ⊢
  have k1 : ∀ b o, s.heap.get? b = some o → h1.get? b = some o := by rw [← hh1]; exact fun _ _ e => Heap.get?_push_of_some _ e
  have n1 : h1.objs.size = s.heap.objs.size + 1 := by rw [← hh1, Heap.size_push]
  have ki1 : ∃ oi, h1.get? s.heap.objs.size = some oi := by rw [← hh1]; exact ⟨o, Heap.get?_push_size _ hf⟩
  generalize hh2 : h1.push { cls := .type "list", data := .seq ([] : List Value).toArray } = h2
  have k2 : ∀ b o, h1.get? b = some o → h2.get? b = some o := by rw [← hh2]; exact fun _ _ e => Heap.get?_push_of_some _ e
  have n2 : h2.objs.size = h1.objs.size + 1 := by rw [← hh2, Heap.size_push]
  have oa2 : h2.get? h1.objs.size = some (listObj [] 0) := by rw [← hh2]; exact Heap.get?_push_size _ rfl
  generalize hh3 : h2.push { cls := .type "dict", data := .dict #[] } = h3
  have k3 : ∀ b o, h2.get? b = some o → h3.get? b = some o := by rw [← hh3]; exact fun _ _ e => Heap.get?_push_of_some _ e
  have n3 : h3.objs.size = h2.objs.size + 1 := by rw [← hh3, Heap.size_push]
  have ns3 : h3.Ns h2.objs.size fun _ => none := by rw [← hh3]; exact Heap.Ns.new h2 _
  have k4 : ∀ b o, h3.get? b = some o → (pushCells h3 scope.names).get? b = some o := fun b o e => pushCells_keeps _ _ b o e
  have sc := cells_facts scope.names h3 cl (fun y c hc => by
    obtain ⟨v, o', ho, hd⟩ := S.cells y c (hcl y c hc)
    exact ⟨v, o', k3 _ _ (k2 _ _ (k1 _ _ ho)), hd⟩) (fun y z c hy hz => S.inj y z c (hcl y c hy) (hcl z c hz))
  dsimp only at sc ⊢
  rw [n3] at sc ⊢
  generalize hh4 : pushCells h3 scope.names = h4 at k4 sc ⊢
  have kraw : ∀ b o, s.heap.get? b = some o → h4.get? b = some o := fun b o e => k4 b o (k3 b o (k2 b o (k1 b o e)))
  have kall : Kp s.heap h4 := .of kraw
  have fresh : ∀ b, s.heap.objs.size ≤ b → s.heap.get? b = none := fun b hb => by
    cases hq : s.heap.get? b with
    | none => rfl
    | some o => exact absurd (Heap.lt_size hq) (Nat.not_lt.mpr hb)
  -- its state
  have S4 : St w s.heap Mt (fun b => Mt b ∨ b = h1.objs.size) (compX scope cl h2.objs.size env) τ h4 := by
    refine ⟨S.now, kall, hkind, S.glob, S.blt, by show s.heap.objs.size ≤ h2.objs.size; omega, ⟨_, ns3.keeps k4⟩, sc.1, sc.2, ?_, fun b m => ⟨.inl m, let ⟨o, e⟩ := S.bd b m; Heap.lt_size e⟩, fun _ => [], fun y e he => ?_, fun _ _ _ _ _ _ _ _ ha => (nomatch ha), fun _ _ _ _ ha => (nomatch ha)⟩
    · rintro b (m | rfl)
      · obtain ⟨o', e⟩ := S.bd b m
        exact ⟨o', kraw _ _ e⟩
      · exact ⟨_, k4 _ _ (k3 _ _ oa2)⟩
    · obtain ⟨d', rfl, hσ, hk1, hk2, hl⟩ := (hcap h2.objs.size).get he
      obtain ⟨μ, hμ, _⟩ := S.vars
      obtain ⟨v, V, re, _⟩ := hμ y _ hσ
      refine ⟨v, ?_, ⟨(re.1.less fun b o' e m => m.elim id fun q => by rw [q, fresh _ (by omega)] at e; cases e).keepD (.of_stays kall), rfl⟩, List.nodup_nil, fun a ha => (nomatch ha)⟩
      rcases V with ⟨kl, _⟩ | ⟨_, c, hc, hcv⟩
      · rw [hk1] at kl; cases kl
      · obtain ⟨o', ho', hd'⟩ := hcv
        exact .inr ⟨hk2, c, hl.trans hc, o', kraw _ _ ho', hd'⟩
  have fzτ : AllFz τ := fun y e he => let ⟨d', h', _⟩ := (hcap h2.objs.size).get he; ⟨d', h'⟩
  have hmi : ¬ (Mt s.heap.objs.size ∨ s.heap.objs.size = h1.objs.size) := by
    rintro (m | e)
    · obtain ⟨o', e⟩ := S.bd _ m
      rw [fresh _ (Nat.le_refl _)] at e; cases e
    · omega
  have X4 : ItAt h4 (fun b => Mt b ∨ b = h1.objs.size) s.heap.objs.size items := by
    refine X.keep (fun o' e => k4 _ _ (k3 _ _ (k2 _ _ e))) (.of_stays (Kp.of fun b o e => k4 b o (k3 b o (k2 b o e)))) fun b o' e m => m.elim id fun q => ?_
    rw [q] at e
    exact absurd (Heap.lt_size e) (Nat.lt_irrefl _)
  have run : ∀ s', s'.heap = h4 → s' = { s with heap := h4, toks := s'.toks } → codeAny (model prog w) A (.compLoop (.ListComp elt (⟨t, iter, ifs, 0⟩ :: gs) scope epos) 0 (.ref s.heap.objs.size) (.ref h1.objs.size) (compX scope cl h2.objs.size env)) (RR (.ref h1.objs.size) h2.objs.size) s' := by
    intro s' e1 e2
    refine compLoop_sound (Mt₀ := Mt) (Mt := fun b => Mt b ∨ b = h1.objs.size) (g := s.heap) (hturn h2.objs.size s.heap.objs.size h1.objs.size) (hK _ _) (hI h2.objs.size) ro (by rw [e1]; exact S4) fzτ (.inr rfl) (fresh _ (by omega)) (by rw [e1]; exact k4 _ _ (k3 _ _ oa2)) .nil (by rw [e1]; exact X4) hmi (fresh _ (Nat.le_refl _)) (h0 := s.heap) (by rw [e1]; exact ⟨fun a o' e _ _ _ _ => kraw a o' e, fun a m => .inl m, fun a o' e => ⟨o', kraw a o' e⟩⟩) (fresh _ (Nat.le_refl _)) fun h' tk' acc' vs' k' S' st' ho' r' hq => ?_
    obtain ⟨m, hm⟩ := S'.ns
    rw [e2]
    refine q h1.objs.size h' tk' acc' h2.objs.size m S'.stays ?_ hq hm (fresh h2.objs.size (by omega)) (show h1.objs.size ≠ h2.objs.size by omega)
    simp only [Rep]
    refine ⟨_, vs', k', rfl, fun m => ?_, ho', r'.less fun b o' e m => .inl m⟩
    obtain ⟨o', e⟩ := S.bd _ m
    rw [fresh _ (by omega)] at e; cases e
  refine codeAny_compStart_list ?_ ?_
  · exact run _ rfl rfl
  · refine X4.again ?_
    exact run _ rfl rfl
end
end Mine
end

section
open PySem PySem.W PyProof.Rows PySem.Calls
set_option Elab.async false
set_option linter.unusedVariables false
namespace Mine

noncomputable def ClOk (env : Env) : List (Str × Addr) → Prop
  | [] => True
  | (x, c) :: r => env.cells.lookup x = some c ∧ ClOk env r
theorem ClOk.get {env : Env} : ∀ {cl : List (Str × Addr)}, ClOk env cl → ∀ y c, cl.lookup y = some c → env.cells.lookup y = some c
  | (x, c') :: r, h, y, c, hy => by
    by_cases q : y = x
    · subst q; rw [List.lookup_cons, beq_self_eq_true] at hy; cases hy; exact h.1
    · have q' : (y == x) = false := by simpa using q
      rw [List.lookup_cons, q'] at hy; exact ClOk.get h.2 y c hy

section
variable {w : World} {n : Nat} {env : Env} {σ : Sto} {g : Heap} {Mt₀ Mt : Addr → Prop} {Q : D → Prop}

noncomputable abbrev tree1 (elt : Expr) (env : Env) (a : Addr) : Sem Unit := do let _ ← call (.builtin "list.append") [.ref a, ← eval elt env]
noncomputable abbrev tree2 (e iter2 : Expr) (env : Env) (a : Addr) : Sem Unit := do
  let x ← eval iter2 env
  standAt iter2.pos
  let x ← foldedSetIterable iter2 env x
  let _ ← runOwn (.compStart e 1 (← holding [x] (pyIter x)) (.ref a) env) env

theorem turn1 (elt t iter : Expr) (ifs : List Expr) (scope : Scope) (pos : Pos) (it : Value) (a : Addr) (env : Env) :
    compTurn (.ListComp elt [⟨t, iter, ifs, 0⟩] scope pos) 0 it (.ref a) env = (do
      standAt iter.pos
      match ← pyNext it with
      | none => pure (.done .next)
      | some v =>
        letOwnedTupleGo t it v
        assign t env v
        let mut ok := true
        for c in ifs do
          if ok then ok ← isTrue c env (eval c env)
        if ok then tree1 elt env a
        again (.compLoop (.ListComp elt [⟨t, iter, ifs, 0⟩] scope pos) 0 it (.ref a) env)) := by rfl
theorem turn20' (elt t iter t2 iter2 : Expr) (ifs ifs2 : List Expr) (scope : Scope) (pos : Pos) (it : Value) (a : Addr) (env : Env) :
    compTurn (.ListComp elt [⟨t, iter, ifs, 0⟩, ⟨t2, iter2, ifs2, 0⟩] scope pos) 0 it (.ref a) env = (do
      standAt iter.pos
      match ← pyNext it with
      | none => pure (.done .next)
      | some v =>
        letOwnedTupleGo t it v
        assign t env v
        let mut ok := true
        for c in ifs do
          if ok then ok ← isTrue c env (eval c env)
        if ok then
          let x ← eval iter2 env
          standAt iter2.pos
          let x ← foldedSetIterable iter2 env x
          let _ ← runOwn (.compStart (.ListComp elt [⟨t, iter, ifs, 0⟩, ⟨t2, iter2, ifs2, 0⟩] scope pos) 1 (← holding [x] (pyIter x)) (.ref a) env) env
        again (.compLoop (.ListComp elt [⟨t, iter, ifs, 0⟩, ⟨t2, iter2, ifs2, 0⟩] scope pos) 0 it (.ref a) env)) := by rfl
theorem turn20 (elt t iter t2 iter2 : Expr) (ifs ifs2 : List Expr) (scope : Scope) (pos : Pos) (it : Value) (a : Addr) (env : Env) :
    compTurn (.ListComp elt [⟨t, iter, ifs, 0⟩, ⟨t2, iter2, ifs2, 0⟩] scope pos) 0 it (.ref a) env = (do
      standAt iter.pos
      match ← pyNext it with
      | none => pure (.done .next)
      | some v =>
        letOwnedTupleGo t it v
        assign t env v
        let mut ok := true
        for c in ifs do
          if ok then ok ← isTrue c env (eval c env)
        if ok then tree2 (.ListComp elt [⟨t, iter, ifs, 0⟩, ⟨t2, iter2, ifs2, 0⟩] scope pos) iter2 env a
        again (.compLoop (.ListComp elt [⟨t, iter, ifs, 0⟩, ⟨t2, iter2, ifs2, 0⟩] scope pos) 0 it (.ref a) env)) := by
  rw [turn20']
  simp only [tree2, bind_assoc, pure_bind]
theorem turn21 (elt t iter t2 iter2 : Expr) (ifs ifs2 : List Expr) (scope : Scope) (pos : Pos) (it : Value) (a : Addr) (env : Env) :
    compTurn (.ListComp elt [⟨t, iter, ifs, 0⟩, ⟨t2, iter2, ifs2, 0⟩] scope pos) 1 it (.ref a) env = (do
      standAt iter2.pos
      match ← pyNext it with
      | none => pure (.done .next)
      | some v =>
        letOwnedTupleGo t2 it v
        assign t2 env v
        let mut ok := true
        for c in ifs2 do
          if ok then ok ← isTrue c env (eval c env)
        if ok then tree1 elt env a
        again (.compLoop (.ListComp elt [⟨t, iter, ifs, 0⟩, ⟨t2, iter2, ifs2, 0⟩] scope pos) 1 it (.ref a) env)) := by rfl

/-- the inner clause's start: its iterator is asked once more, or not, and it is the same one -/
theorem inner_starts {A : Around} {s : Shared} {R : Result → Shared → Prop} {elt t2 iter2 : Expr} {g0 : Comprehension} {ifs2 : List Expr} {scope : Scope} {pos : Pos} {it : Addr} {ds : List D} {acc : Value} (X : ItAt s.heap Mt it ds)
    (run : codeAny (model prog w) A (.compLoop (.ListComp elt [g0, ⟨t2, iter2, ifs2, 0⟩] scope pos) 1 (.ref it) acc env) R s) :
    codeAny (model prog w) A (.compStart (.ListComp elt [g0, ⟨t2, iter2, ifs2, 0⟩] scope pos) 1 (.ref it) acc env) R s := by
  refine codeAny_of_tree (show wpAny _ _ ((compStart (.ListComp elt [g0, ⟨t2, iter2, ifs2, 0⟩] scope pos) 1 (.ref it) acc env).onRaise fun x => do noteFrame x env; standAt theWindowsPlace) _ _ s from wpAny_notedAt ?_)
  have on : ∀ {A' : Around} {E : Value → Shared → Prop}, wpAny (model prog w) A' (again (.compLoop (.ListComp elt [g0, ⟨t2, iter2, ifs2, 0⟩] scope pos) 1 (.ref it) acc env))
      (fun fin s' => match fin with | .done f => R (.ok f) s' | .again c' => c'.quiet = true ∧ codeAny (model prog w) A c' R s') E s := wpAny_pure ⟨rfl, run⟩
  unfold compStart
  refine wpAny_bind (m := ask) (wpAny_askSetting (wpAny_ite ?_))
  split
  · exact on
  · refine wpAny_bind (wpAny_rule ?_)
    show wpAny _ _ (standAt iter2.pos >>= fun _ => pyIter (.ref it) >>= fun v => again (.compLoop _ 1 v acc env)) _ _ s
    exact wpAny_bind (wpAny_standAt (wpAny_bind (X.again on)))

/-- a second clause -/
noncomputable def Inner (w : World) (n : Nat) (env : Env) (elt t2 iter2 : Expr) (ifs2 : List Expr) (σ : Sto) (acc : List D) (Q : List D → Prop) : Prop :=
  WE w n env σ iter2 fun d => ∃ items, itemsOf d = some items ∧ CompI w n env t2 ifs2 (Emit w n env elt) items σ acc Q
theorem Inner.sound {elt t iter t2 iter2 : Expr} {ifs ifs2 : List Expr} {scope : Scope} {pos : Pos} {acc : List D} {Q : List D → Prop} {a : Addr} (h : Inner w n env elt t2 iter2 ifs2 σ acc Q)
    (hs : ∀ x, foldedSetIterable iter2 env x = pure x) :
    CSem w n env a (tree2 (.ListComp elt [⟨t, iter, ifs, 0⟩, ⟨t2, iter2, ifs2, 0⟩] scope pos) iter2 env a) σ acc Q := by
  intro A s g Mt₀ Mt vs k R E ro S fz hm hg ho r q
  refine wpAny_bind (h A s g Mt₀ Mt _ E ro S fun v h' tk' d kk rv hq => ?_)
  obtain ⟨items, hi, hI⟩ := hq
  refine wpAny_bind (wpAny_standAt (wpAny_bind (wpAny_of_eq (hs v) ?_)))
  have S1 := S.keeps kk
  refine wpAny_bind (wpAny_holding (ItAt.make (s := { s with heap := h', toks := tk' }) rv hi fun o X hf => ?_))
  have hn : h'.get? h'.objs.size = none := get_size_none h'
  have kp := stays_push h' o
  have S2 := S1.keeps kp
  have hmi : ¬ Mt h'.objs.size := fun m => by obtain ⟨o', e⟩ := S1.bd _ m; rw [hn] at e; cases e
  have hgi : g.get? h'.objs.size = none := by
    cases hq : g.get? h'.objs.size with
    | none => rfl
    | some o' => obtain ⟨_, this⟩ := S1.stays.alive hq; rw [hn] at this; cases this
  have run : codeAny (model prog w) A (.compLoop (.ListComp elt [⟨t, iter, ifs, 0⟩, ⟨t2, iter2, ifs2, 0⟩] scope pos) 1 (.ref h'.objs.size) (.ref a) env)
      (fun res s' => match res with | .ok f => wpAny (model prog w) A (pure PUnit.unit) R E s' | .error e => cameBackBy (model prog w) A env E e s') { s with heap := h'.push o, toks := tk' } := by
    refine compLoop_sound (Mt₀ := Mt₀) (Mt := Mt) (g := g) (turn21 elt t iter t2 iter2 ifs ifs2 scope pos (.ref h'.objs.size) a env) (fun σ acc Q hE => hE.sound) hI ro S2 fz hm hg (kp.h rfl (kk.h rfl ho)) ((r.keepD (.of_stays kk)).keepD (.of_stays kp)) X hmi hgi (h0 := h') (.of_stays kp) hn
      fun h3 tk3 acc3 vs3 k3 S3 st3 ho3 r3 hq3 => ?_
    exact wpAny_pure (q h3 tk3 acc3 vs3 k3 S3 ((Stp.of_stays kk).trans st3) ho3 r3 hq3)
  refine wpAny_bind (wpAny_runOwn ?_)
  exact inner_starts X run

theorem comp_end {A : Around} {E : Value → Shared → Prop} {s : Shared} {R : Value → Shared → Prop} (S : St w g Mt₀ Mt env σ s.heap) (q : Ret s Mt Q R) {a C : Addr} {h' : Heap} {tk' : Nat} {acc : List D} {m : Str → Option Value}
    (k : Kp s.heap h') (r : Rep h' Mt (.list acc) (.ref a)) (hq : Q (.list acc)) (hn : h'.Ns C m) (hC : s.heap.get? C = none) : compPost (model prog w) A E none R (.ref a) C (.ok .next) { s with heap := h', toks := tk' } := by
  refine ⟨m, hn, fun h'' hs => ?_⟩
  refine q (.ref a) h'' tk' (.list acc) (k.upd (P := (· = C)) (fun b q => by rw [q]; exact hC) (fun b o e q => (hs.2 b q).trans e)) (r.keepD (.of_same hs (.inr fun o e => ?_))) hq
  obtain ⟨o', es, ep, ho', hd, _⟩ := hn
  have : o' = o := by rw [e] at ho'; cases ho'; rfl
  subst this; exact dict_ne_hard hd

theorem WE.comp1 {elt t iter : Expr} {ifs : List Expr} {scope : Scope} {pos : Pos} (cl : List (Str × Addr)) (τ : Sto)
    (h : WE w n env σ iter fun d => ∃ items, itemsOf d = some items ∧ ∀ C, CompI w n (compX scope cl C env) t ifs (Emit w n (compX scope cl C env) elt) items τ [] fun acc => Q (.list acc))
    (hcap : ∀ C, Cap env (compX scope cl C env) σ τ) (hcl : ClOk env cl) (hclos : closureFor scope env = pure cl := by rfl) (hkind : scope.kind = .function := by rfl)
    (hnames : ∀ x ∈ scope.names, x.2 = .local → scope.names.lookup x.1 = some .local := by decide) (hs : ∀ x, foldedSetIterable iter env x = pure x := by intro _; rfl) :
    WE w n env σ (.ListComp elt [⟨t, iter, ifs, 0⟩] scope pos) Q := by
  intro A s g Mt₀ Mt R E ro S q
  rw [eval_ListComp]
  refine wpAny_comprehension_free (use := Option.none) rfl hs hclos hkind hnames (h A s g Mt₀ Mt _ E ro S fun v h' tk' d kk r hi => ?_)
  obtain ⟨items, hi, hI⟩ := hi
  have S1 := S.keeps kk
  exact comp_core (RR := fun acc C => compPost (model prog w) A E Option.none R acc C) (tree := fun C a => tree1 elt (compX scope cl C env) a) (K := fun C => Emit w n (compX scope cl C env) elt) ro S1 r hi hkind hcl.get hcap
    (fun C it a => turn1 _ _ _ _ _ _ _ _ _) (fun C a σ acc Q hE => hE.sound) hI fun a h2 tk2 acc C m k2 r2 hq hn hC _ => comp_end (s := { s with heap := h', toks := tk' }) S1 (Ret.after (s := s) kk q) k2 r2 hq hn hC

theorem WE.comp2 {elt t iter t2 iter2 : Expr} {ifs ifs2 : List Expr} {scope : Scope} {pos : Pos} (cl : List (Str × Addr)) (τ : Sto)
    (h : WE w n env σ iter fun d => ∃ items, itemsOf d = some items ∧ ∀ C, CompI w n (compX scope cl C env) t ifs (Inner w n (compX scope cl C env) elt t2 iter2 ifs2) items τ [] fun acc => Q (.list acc))
    (hcap : ∀ C, Cap env (compX scope cl C env) σ τ) (hcl : ClOk env cl) (hclos : closureFor scope env = pure cl := by rfl) (hkind : scope.kind = .function := by rfl)
    (hnames : ∀ x ∈ scope.names, x.2 = .local → scope.names.lookup x.1 = some .local := by decide) (hs : ∀ x, foldedSetIterable iter env x = pure x := by intro _; rfl)
    (hs2 : ∀ env x, foldedSetIterable iter2 env x = pure x := by intro _ _; rfl) :
    WE w n env σ (.ListComp elt [⟨t, iter, ifs, 0⟩, ⟨t2, iter2, ifs2, 0⟩] scope pos) Q := by
  intro A s g Mt₀ Mt R E ro S q
  rw [eval_ListComp]
  refine wpAny_comprehension_free (use := Option.none) rfl hs hclos hkind hnames (h A s g Mt₀ Mt _ E ro S fun v h' tk' d kk r hi => ?_)
  obtain ⟨items, hi, hI⟩ := hi
  have S1 := S.keeps kk
  exact comp_core (RR := fun acc C => compPost (model prog w) A E Option.none R acc C) (K := fun C => Inner w n (compX scope cl C env) elt t2 iter2 ifs2) ro S1 r hi hkind hcl.get hcap
    (fun C it a => turn20 _ _ _ _ _ _ _ _ _ _ _ _) (fun C a σ acc Q hE => hE.sound (hs2 _)) hI fun a h2 tk2 acc C m k2 r2 hq hn hC _ => comp_end (s := { s with heap := h', toks := tk' }) S1 (Ret.after (s := s) kk q) k2 r2 hq hn hC

variable {P : FlowD → Sto → Prop}
theorem comp_use {A : Around} {E : Value → Shared → Prop} {s : Shared} {R : Flow → Shared → Prop} {y : Str} {py : Pos} (S : St w g Mt₀ Mt env σ s.heap) (hy : StoreOk env y) (q : RetS w g Mt₀ env Mt s P R) {a C : Addr} {h' : Heap} {tk' : Nat} {acc : List D} {m : Str → Option Value}
    (k : Kp s.heap h') (r : Rep h' Mt (.list acc) (.ref a)) (hq : P .next ((y, .fz (.list acc)) :: σ)) (hn : h'.Ns C m) (hC : s.heap.get? C = none) :
    compPost (model prog w) A E (some (assign (.Name y py) env)) (fun _ s' => R .next s') (.ref a) C (.ok .next) { s with heap := h', toks := tk' } := by
  have S1 := S.keeps k
  show wpAny _ A (assign (.Name y py) env (.ref a)) _ _ _
  refine wpAny_assign_Name (store_fz S1 hy r fun h2 tk2 S2 st2 => ?_)
  have hCl : C ≠ env.locals := fun e => by
    obtain ⟨m', o, es, ep, ho, _⟩ := S.ns
    rw [← e, hC] at ho; cases ho
  have hCc : ∀ x, env.cells.lookup x ≠ some C := fun x e => by
    obtain ⟨v, o, ho, _⟩ := S.cells x C e
    rw [hC] at ho; cases ho
  obtain ⟨o, es, ep, ho, hd, rest⟩ := hn
  have ho2 := st2.fra C o ho (not_soft_dict hd) hCl hCc id
  refine ⟨m, ⟨o, es, ep, ho2, hd, rest⟩, fun h3 hs3 => ?_⟩
  have hmC : ¬ Mt C := fun mm => by obtain ⟨o', e⟩ := S.bd _ mm; rw [hC] at e; cases e
  have hgC : g.get? C = none := by
    cases hq : g.get? C with
    | none => rfl
    | some o' => obtain ⟨_, this⟩ := S.stays.alive hq; rw [hC] at this; cases this
  -- its table is no thing of the state's
  have S3 : St w g Mt₀ Mt env ((y, .fz (.list acc)) :: σ) h3 := by
    have kx := hs3.extBut
    have kd : KeepD Mt h2 h3 := KeepD.of_same hs3 (.inr fun o' e => by rw [ho2] at e; cases e; exact dict_ne_hard hd)
    have nsk : ∀ m, h2.Ns env.locals m → h3.Ns env.locals m := fun m hn => hn.extBut kx (Ne.symm hCl)
    have clk : ∀ y c v, env.cells.lookup y = some c → h2.IsCell c v → h3.IsCell c v := fun y c v hc' ⟨o, ho, hd⟩ => ⟨o, kx _ _ (fun q => hCc y (q ▸ hc')) ho, hd⟩
    obtain ⟨μ, hμ, hdis, hfr⟩ := S2.vars
    refine ⟨S2.gd, S2.stays.upd (P := (· = C)) (fun b q => by rw [q]; exact hgC) (fun b o' e q => kx b o' q e), S2.kind, S2.glob, S2.blt, S2.above, let ⟨m, hm⟩ := S2.ns; ⟨m, nsk m hm⟩, fun y c hc' => let ⟨v, hv⟩ := S2.cells y c hc'; ⟨v, clk y c v hc' hv⟩, S2.inj, fun b mm => let ⟨o', e⟩ := S2.bd b mm; ⟨o', kx b o' (fun q => hmC (q ▸ mm)) e⟩, S2.sub, μ, fun x e he => ?_, hdis, hfr⟩
    obtain ⟨v, V, re, nd, hh'⟩ := hμ x e he
    refine ⟨v, ?_, entAt_change re kd (fun b hb o' e => kx b o' (fun q => hmC (q ▸ (hh' b hb).1)) e), nd, hh'⟩
    rcases V with ⟨k1, m, nn, e1⟩ | ⟨k1, c, hc', hcv⟩
    · exact .inl ⟨k1, m, nsk m nn, e1⟩
    · exact .inr ⟨k1, c, hc', clk x c _ hc' hcv⟩
  exact q .next h3 tk2 .next _ Mt S3 (((Stp.of_stays k).trans st2.up).ext hC hs3.extBut) trivial hq

theorem WX.comp1 {elt t iter : Expr} {ifs : List Expr} {scope : Scope} {pos spos py : Pos} {y : Str} (cl : List (Str × Addr)) (τ : Sto) (hy : StoreOk env y)
    (h : WE w n env σ iter fun d => ∃ items, itemsOf d = some items ∧ ∀ C, CompI w n (compX scope cl C env) t ifs (Emit w n (compX scope cl C env) elt) items τ [] fun acc => P .next ((y, .fz (.list acc)) :: σ))
    (hcap : ∀ C, Cap env (compX scope cl C env) σ τ) (hcl : ClOk env cl) (hclos : closureFor scope env = pure cl := by rfl) (hkind : scope.kind = .function := by rfl)
    (hnames : ∀ x ∈ scope.names, x.2 = .local → scope.names.lookup x.1 = some .local := by decide) (hs : ∀ x, foldedSetIterable iter env x = pure x := by intro _; rfl)
    (hsw : swapsWith (.ListComp elt [⟨t, iter, ifs, 0⟩] scope pos) (some (.Name y py)) spos.line env = pure Bool.true := by rfl) :
    WX w n env σ (.Assign [.Name y py] (.ListComp elt [⟨t, iter, ifs, 0⟩] scope pos) spos) P := by
  intro A s g Mt₀ Mt R E ro S q
  rw [exec_Assign_Name_used _ _ _ _ hsw]
  refine wpAny_bind (wpAny_standAt (wpAny_bind ?_))
  show wpAny _ A (do let _ ← comprehension (.ListComp elt [⟨t, iter, ifs, 0⟩] scope pos) scope env _ (newList []) Bool.false (eval iter env) (some (PySem.assign (.Name y py) env))) _ _ s
  refine wpAny_bind (wpAny_mono (wpAny_comprehension_free (use := some (PySem.assign (.Name y py) env)) (Q := fun _ s' => R .next s') rfl hs hclos hkind hnames (h A s g Mt₀ Mt _ E ro S fun v h' tk' d kk r hi => ?_)) (fun _ _ hx => wpAny_pure (wpAny_pure hx)) fun _ _ hx => hx)
  obtain ⟨items, hi, hI⟩ := hi
  have S1 := S.keeps kk
  exact comp_core (RR := fun acc C => compPost (model prog w) A E (some (PySem.assign (.Name y py) env)) (fun _ s' => R .next s') acc C) (tree := fun C a => tree1 elt (compX scope cl C env) a) (K := fun C => Emit w n (compX scope cl C env) elt) ro S1 r hi hkind hcl.get hcap
    (fun C it a => turn1 _ _ _ _ _ _ _ _ _) (fun C a σ acc Q hE => hE.sound) hI fun a h2 tk2 acc C m k2 r2 hq hn hC _ => comp_use (s := { s with heap := h', toks := tk' }) S1 hy (RetS.after (.of_stays kk) q) k2 r2 hq hn hC
theorem WX.comp2 {elt t iter t2 iter2 : Expr} {ifs ifs2 : List Expr} {scope : Scope} {pos spos py : Pos} {y : Str} (cl : List (Str × Addr)) (τ : Sto) (hy : StoreOk env y)
    (h : WE w n env σ iter fun d => ∃ items, itemsOf d = some items ∧ ∀ C, CompI w n (compX scope cl C env) t ifs (Inner w n (compX scope cl C env) elt t2 iter2 ifs2) items τ [] fun acc => P .next ((y, .fz (.list acc)) :: σ))
    (hcap : ∀ C, Cap env (compX scope cl C env) σ τ) (hcl : ClOk env cl) (hclos : closureFor scope env = pure cl := by rfl) (hkind : scope.kind = .function := by rfl)
    (hnames : ∀ x ∈ scope.names, x.2 = .local → scope.names.lookup x.1 = some .local := by decide) (hs : ∀ x, foldedSetIterable iter env x = pure x := by intro _; rfl)
    (hs2 : ∀ env x, foldedSetIterable iter2 env x = pure x := by intro _ _; rfl)
    (hsw : swapsWith (.ListComp elt [⟨t, iter, ifs, 0⟩, ⟨t2, iter2, ifs2, 0⟩] scope pos) (some (.Name y py)) spos.line env = pure Bool.true := by rfl) :
    WX w n env σ (.Assign [.Name y py] (.ListComp elt [⟨t, iter, ifs, 0⟩, ⟨t2, iter2, ifs2, 0⟩] scope pos) spos) P := by
  intro A s g Mt₀ Mt R E ro S q
  rw [exec_Assign_Name_used _ _ _ _ hsw]
  refine wpAny_bind (wpAny_standAt (wpAny_bind ?_))
  show wpAny _ A (do let _ ← comprehension (.ListComp elt [⟨t, iter, ifs, 0⟩, ⟨t2, iter2, ifs2, 0⟩] scope pos) scope env _ (newList []) Bool.false (eval iter env) (some (PySem.assign (.Name y py) env))) _ _ s
  refine wpAny_bind (wpAny_mono (wpAny_comprehension_free (use := some (PySem.assign (.Name y py) env)) (Q := fun _ s' => R .next s') rfl hs hclos hkind hnames (h A s g Mt₀ Mt _ E ro S fun v h' tk' d kk r hi => ?_)) (fun _ _ hx => wpAny_pure (wpAny_pure hx)) fun _ _ hx => hx)
  obtain ⟨items, hi, hI⟩ := hi
  have S1 := S.keeps kk
  exact comp_core (RR := fun acc C => compPost (model prog w) A E (some (PySem.assign (.Name y py) env)) (fun _ s' => R .next s') acc C) (K := fun C => Inner w n (compX scope cl C env) elt t2 iter2 ifs2) ro S1 r hi hkind hcl.get hcap
    (fun C it a => turn20 _ _ _ _ _ _ _ _ _ _ _ _) (fun C a σ acc Q hE => hE.sound (hs2 _)) hI fun a h2 tk2 acc C m k2 r2 hq hn hC _ => comp_use (s := { s with heap := h', toks := tk' }) S1 hy (RetS.after (.of_stays kk) q) k2 r2 hq hn hC
end
end Mine
end

section
open PySem PySem.W PyProof.Rows PySem.Calls
set_option Elab.async false
set_option linter.unusedVariables false
namespace Mine

section
variable {w : World} {n : Nat} {env : Env} {σ : Sto} {Q : D → Prop} {B : Bool → Prop}

theorem WO.one {d : D} {op : Value → Sem Value} (h : ∀ (A : Around) (s : Shared) (Mt : Addr → Prop) (v : Value) (R : Value → Shared → Prop) (E : Value → Shared → Prop),
    Room A n → Gd w s.heap → (∀ a, Mt a → ∃ o, s.heap.get? a = some o) → Rep s.heap Mt d v → Ret s Mt Q R → wpAny (model prog w) A (op v) R E s) {f : List Value → Sem Value} (hf : ∀ v, f [v] = op v) : WO w n [d] f Q := by
  intro A s Mt vs R E ro G bd r q
  obtain ⟨v, r1, rfl, ra, rl⟩ := r.cons_inv
  rw [rl.nil_inv, hf]
  exact h A s Mt v R E ro G bd ra q
theorem WO.two {d e : D} {op : Value → Value → Sem Value} (h : ∀ (A : Around) (s : Shared) (Mt : Addr → Prop) (v u : Value) (R : Value → Shared → Prop) (E : Value → Shared → Prop),
    Room A n → Gd w s.heap → (∀ a, Mt a → ∃ o, s.heap.get? a = some o) → Rep s.heap Mt d v → Rep s.heap Mt e u → Ret s Mt Q R → wpAny (model prog w) A (op v u) R E s) {f : List Value → Sem Value} (hf : ∀ v u, f [v, u] = op v u) : WO w n [d, e] f Q := by
  intro A s Mt vs R E ro G bd r q
  obtain ⟨v, r1, rfl, ra, rl⟩ := r.cons_inv
  obtain ⟨u, r2, rfl, rb, rl⟩ := rl.cons_inv
  rw [rl.nil_inv, hf]
  exact h A s Mt v u R E ro G bd ra rb q

theorem Rep.str' {h : Heap} {Mt : Addr → Prop} {x : Str} {v : Value} (r : Rep h Mt (.str x) v) : ∃ t, v = .str x t := by simpa only [Rep] using r
theorem Rep.int' {h : Heap} {Mt : Addr → Prop} {x : Int} {v : Value} (r : Rep h Mt (.int x) v) : ∃ t, v = .int x t := by simpa only [Rep] using r
theorem Rep.str_ {h : Heap} {Mt : Addr → Prop} {x : Str} {t : Tok} : Rep h Mt (.str x) (.str x t) := by simp only [Rep]; exact ⟨_, rfl⟩
theorem Rep.int_ {h : Heap} {Mt : Addr → Prop} {x : Int} {t : Tok} : Rep h Mt (.int x) (.int x t) := by simp only [Rep]; exact ⟨_, rfl⟩
theorem Rep.bool_ {h : Heap} {Mt : Addr → Prop} {b : Bool} : Rep h Mt (.bool b) (.bool b) := by simp only [Rep]
theorem Ret.here {s : Shared} {Mt : Addr → Prop} {R : Value → Shared → Prop} (q : Ret s Mt Q R) {d : D} {v : Value} (r : ∀ h, Rep h Mt d v) (h : Q d) (tk : Nat) : R v { s with toks := tk } :=
  q v s.heap tk d (stays_refl _) (r _) h

theorem op_add_str {x y : Str} (hsz : x.length + y.length ≤ sizeLine) (h : Q (.str (x ++ y))) : WO w n [.str x, .str y] (fun vs => binaryOp .Add (vs.getD 0 .none) (vs.getD 1 .none)) Q :=
  .two (op := binaryOp .Add) (fun A s Mt v u R E ro G bd ra rb q => by
    obtain ⟨t, rfl⟩ := ra.str'; obtain ⟨t', rfl⟩ := rb.str'
    exact PyProof.Rows.add_str (fun t' tk => q.here (fun _ => Rep.str_) h tk) hsz) fun _ _ => rfl
theorem op_add_int {x y : Int} (h : Q (.int (x + y))) : WO w n [.int x, .int y] (fun vs => binaryOp .Add (vs.getD 0 .none) (vs.getD 1 .none)) Q :=
  .two (op := binaryOp .Add) (fun A s Mt v u R E ro G bd ra rb q => by
    obtain ⟨t, rfl⟩ := ra.int'; obtain ⟨t', rfl⟩ := rb.int'
    exact PyProof.Rows.add_int (q.here (fun _ => Rep.int_) h _)) fun _ _ => rfl
theorem op_sub_int {x y : Int} (h : Q (.int (x - y))) : WO w n [.int x, .int y] (fun vs => binaryOp .Sub (vs.getD 0 .none) (vs.getD 1 .none)) Q :=
  .two (op := binaryOp .Sub) (fun A s Mt v u R E ro G bd ra rb q => by
    obtain ⟨t, rfl⟩ := ra.int'; obtain ⟨t', rfl⟩ := rb.int'
    exact PyProof.Rows.sub_int (q.here (fun _ => Rep.int_) h _)) fun _ _ => rfl
theorem op_mod_int {x y : Int} (hy : y ≠ 0) (h : Q (.int (x.fmod y))) : WO w n [.int x, .int y] (fun vs => binaryOp .Mod (vs.getD 0 .none) (vs.getD 1 .none)) Q :=
  .two (op := binaryOp .Mod) (fun A s Mt v u R E ro G bd ra rb q => by
    obtain ⟨t, rfl⟩ := ra.int'; obtain ⟨t', rfl⟩ := rb.int'
    exact PyProof.Rows.mod_int' hy (q.here (fun _ => Rep.int_) h _)) fun _ _ => rfl
theorem op_div_int {x y : Int} (hy : y ≠ 0) (hp : Builtin.divisionGoesByPylong x y = false) (h : Q (.int (x.fdiv y))) : WO w n [.int x, .int y] (fun vs => binaryOp .FloorDiv (vs.getD 0 .none) (vs.getD 1 .none)) Q :=
  .two (op := binaryOp .FloorDiv) (fun A s Mt v u R E ro G bd ra rb q => by
    obtain ⟨t, rfl⟩ := ra.int'; obtain ⟨t', rfl⟩ := rb.int'
    exact PyProof.Rows.floordiv_int hy (q.here (fun _ => Rep.int_) h _) (.inl hp)) fun _ _ => rfl
theorem op_eq_str {x y : Str} (h : Q (.bool (x == y))) : WO w n [.str x, .str y] (fun vs => compareOp .Eq (vs.getD 0 .none) (vs.getD 1 .none)) Q :=
  .two (op := compareOp .Eq) (fun A s Mt v u R E ro G bd ra rb q => by
    obtain ⟨t, rfl⟩ := ra.str'; obtain ⟨t', rfl⟩ := rb.str'
    exact PyProof.Rows.eq_str (q.here (fun _ => Rep.bool_) h _)) fun _ _ => rfl
theorem op_ne_str {x y : Str} (h : Q (.bool (x != y))) : WO w n [.str x, .str y] (fun vs => compareOp .NotEq (vs.getD 0 .none) (vs.getD 1 .none)) Q :=
  .two (op := compareOp .NotEq) (fun A s Mt v u R E ro G bd ra rb q => by
    obtain ⟨t, rfl⟩ := ra.str'; obtain ⟨t', rfl⟩ := rb.str'
    exact PyProof.Rows.ne_str (q.here (fun _ => Rep.bool_) h _)) fun _ _ => rfl
theorem op_eq_int {x y : Int} (h : Q (.bool (x == y))) : WO w n [.int x, .int y] (fun vs => compareOp .Eq (vs.getD 0 .none) (vs.getD 1 .none)) Q :=
  .two (op := compareOp .Eq) (fun A s Mt v u R E ro G bd ra rb q => by
    obtain ⟨t, rfl⟩ := ra.int'; obtain ⟨t', rfl⟩ := rb.int'
    exact PyProof.Rows.eq_int (q.here (fun _ => Rep.bool_) h _)) fun _ _ => rfl
theorem op_lt_int {x y : Int} (h : Q (.bool (decide (x < y)))) : WO w n [.int x, .int y] (fun vs => compareOp .Lt (vs.getD 0 .none) (vs.getD 1 .none)) Q :=
  .two (op := compareOp .Lt) (fun A s Mt v u R E ro G bd ra rb q => by
    obtain ⟨t, rfl⟩ := ra.int'; obtain ⟨t', rfl⟩ := rb.int'
    exact PyProof.Rows.lt_int (q.here (fun _ => Rep.bool_) h _)) fun _ _ => rfl
theorem op_gt_int {x y : Int} (h : Q (.bool (decide (y < x)))) : WO w n [.int x, .int y] (fun vs => compareOp .Gt (vs.getD 0 .none) (vs.getD 1 .none)) Q :=
  .two (op := compareOp .Gt) (fun A s Mt v u R E ro G bd ra rb q => by
    obtain ⟨t, rfl⟩ := ra.int'; obtain ⟨t', rfl⟩ := rb.int'
    exact PyProof.Rows.gt_int (q.here (fun _ => Rep.bool_) h _)) fun _ _ => rfl
theorem op_le_int {x y : Int} (h : Q (.bool (decide (x ≤ y)))) : WO w n [.int x, .int y] (fun vs => compareOp .LtE (vs.getD 0 .none) (vs.getD 1 .none)) Q :=
  .two (op := compareOp .LtE) (fun A s Mt v u R E ro G bd ra rb q => by
    obtain ⟨t, rfl⟩ := ra.int'; obtain ⟨t', rfl⟩ := rb.int'
    exact PyProof.Rows.le_int (q.here (fun _ => Rep.bool_) h _)) fun _ _ => rfl
theorem op_ge_int {x y : Int} (h : Q (.bool (decide (y ≤ x)))) : WO w n [.int x, .int y] (fun vs => compareOp .GtE (vs.getD 0 .none) (vs.getD 1 .none)) Q :=
  .two (op := compareOp .GtE) (fun A s Mt v u R E ro G bd ra rb q => by
    obtain ⟨t, rfl⟩ := ra.int'; obtain ⟨t', rfl⟩ := rb.int'
    exact PyProof.Rows.ge_int (q.here (fun _ => Rep.bool_) h _)) fun _ _ => rfl
theorem op_in_str {x y : Str} (h : Q (.bool !(Builtin.Str.occurrences x y 0 x.length 1).isEmpty)) : WO w n [.str y, .str x] (fun vs => compareOp .In (vs.getD 0 .none) (vs.getD 1 .none)) Q :=
  .two (op := compareOp .In) (fun A s Mt v u R E ro G bd ra rb q => by
    obtain ⟨t, rfl⟩ := ra.str'; obtain ⟨t', rfl⟩ := rb.str'
    exact PyProof.Rows.in_str (q.here (fun _ => Rep.bool_) h _)) fun _ _ => rfl

theorem m_startswith {x y : Str} (h : Q (.bool (Txt.startswith x y))) : WO w n [.str x, .str y] (fun vs => call (.builtin "str.startswith") vs) Q :=
  .two (op := fun a b => call (.builtin "str.startswith") [a, b]) (fun A s Mt v u R E ro G bd ra rb q => by
    obtain ⟨t, rfl⟩ := ra.str'; obtain ⟨t', rfl⟩ := rb.str'
    exact SC.startswith (q.here (fun _ => Rep.bool_) h _)) fun _ _ => rfl
theorem m_endswith {x y : Str} (h : Q (.bool (Txt.endswith x y))) : WO w n [.str x, .str y] (fun vs => call (.builtin "str.endswith") vs) Q :=
  .two (op := fun a b => call (.builtin "str.endswith") [a, b]) (fun A s Mt v u R E ro G bd ra rb q => by
    obtain ⟨t, rfl⟩ := ra.str'; obtain ⟨t', rfl⟩ := rb.str'
    exact SC.endswith (q.here (fun _ => Rep.bool_) h _)) fun _ _ => rfl
theorem m_lstrip {x : Str} (hsz : x.length ≤ sizeLine) (h : Q (.str (Txt.lstrip x))) : WO w n [.str x] (fun vs => call (.builtin "str.lstrip") vs) Q :=
  .one (op := fun a => call (.builtin "str.lstrip") [a]) (fun A s Mt v R E ro G bd ra q => by
    obtain ⟨t, rfl⟩ := ra.str'
    exact SC.lstrip (fun t' k => q.here (fun _ => Rep.str_) h _) hsz) fun _ => rfl
theorem m_rstrip {x : Str} (hsz : x.length ≤ sizeLine) (h : Q (.str (Txt.rstrip x))) : WO w n [.str x] (fun vs => call (.builtin "str.rstrip") vs) Q :=
  .one (op := fun a => call (.builtin "str.rstrip") [a]) (fun A s Mt v R E ro G bd ra q => by
    obtain ⟨t, rfl⟩ := ra.str'
    exact SC.rstrip (fun t' k => q.here (fun _ => Rep.str_) h _) hsz) fun _ => rfl

theorem WE.neg {x : Expr} {pos : Pos} (h : WE w n env σ x fun d => ∃ i, d = .int i ∧ Q (.int (-i))) : WE w n env σ (.UnaryOp .USub x pos) Q := by
  intro A s g Mt₀ Mt R E ro S q
  refine wpAny_UnaryOp (h A s g Mt₀ Mt _ E ro S fun v h' tk' d k r hq => ?_)
  obtain ⟨i, rfl, hq⟩ := hq
  obtain ⟨t, rfl⟩ := r.int'
  exact PyProof.Rows.neg_int (q _ h' _ (.int (-i)) k Rep.int_ hq)

theorem kept_stays (h₀ : Heap) : KeptH fun h => Kp h₀ h := fun h ob k => stays_trans k (stays_push h ob)

theorem WE.str_to {value hi : Expr} {p pos : Pos} (h : WE w n env σ value fun d => ∃ x, d = .str x ∧ x.length ≤ sizeLine ∧ WE w n env σ hi fun e => ∃ j, e = .int j ∧ Q (.str (Txt.slice x Option.none (some j)))) :
    WE w n env σ (.Subscript value (.Slice Option.none (some hi) Option.none p) pos) Q := by
  intro A s g Mt₀ Mt R E ro S q
  refine Subscript_ (h A s g Mt₀ Mt _ E ro S fun v h' tk' d k r hq => ?_)
  obtain ⟨x, rfl, hx, hq⟩ := hq
  obtain ⟨t, rfl⟩ := r.str'
  refine wpAny_Slice (wpAny_evalPart_none (wpAny_evalPart_some (hq A _ g Mt₀ Mt _ E ro (S.keeps k) fun v2 h2 tk2 d2 k2 r2 hq2 => wpAny_evalPart_none ?_)))
  obtain ⟨j, rfl, hq2⟩ := hq2
  obtain ⟨t2, rfl⟩ := r2.int'
  obtain ⟨T, id, hl, hT, hg⟩ := SBH.sliceItem_ns (prog := prog) (w := w) (A := A) (E := E) (x := x) (t := t) (j := j) (uj := t2) (s := { s with heap := h2, toks := tk2 }) (P := fun h => Kp s.heap h) (kept_stays _) (stays_trans k k2) (fun h3 t3 k3 hp => q (.str _ t3) h3 k3 (.str _) hp Rep.str_ hq2) hx
  exact tail_any hT hl hg (by with_unfolding_all rfl)
theorem WE.str_from {value lo : Expr} {p pos : Pos} (h : WE w n env σ value fun d => ∃ x, d = .str x ∧ x.length ≤ sizeLine ∧ WE w n env σ lo fun e => ∃ j, e = .int j ∧ Q (.str (Txt.slice x (some j) Option.none))) :
    WE w n env σ (.Subscript value (.Slice (some lo) Option.none Option.none p) pos) Q := by
  intro A s g Mt₀ Mt R E ro S q
  refine Subscript_ (h A s g Mt₀ Mt _ E ro S fun v h' tk' d k r hq => ?_)
  obtain ⟨x, rfl, hx, hq⟩ := hq
  obtain ⟨t, rfl⟩ := r.str'
  refine wpAny_Slice (wpAny_evalPart_some (hq A _ g Mt₀ Mt _ E ro (S.keeps k) fun v2 h2 tk2 d2 k2 r2 hq2 => wpAny_evalPart_none (wpAny_evalPart_none ?_)))
  obtain ⟨j, rfl, hq2⟩ := hq2
  obtain ⟨t2, rfl⟩ := r2.int'
  obtain ⟨T, id, hl, hT, hg⟩ := SBH.sliceItem_sn (prog := prog) (w := w) (A := A) (E := E) (x := x) (t := t) (i := j) (ui := t2) (s := { s with heap := h2, toks := tk2 }) (P := fun h => Kp s.heap h) (kept_stays _) (stays_trans k k2) (fun h3 t3 k3 hp => q (.str _ t3) h3 k3 (.str _) hp Rep.str_ hq2) hx
  exact tail_any hT hl hg (by with_unfolding_all rfl)
end
end Mine
end

section
open PySem PySem.W PyProof.Rows PySem.Calls
set_option Elab.async false
set_option linter.unusedVariables false
namespace Mine

section
variable {w : World} {n : Nat} {env : Env} {σ : Sto} {Q : D → Prop} {B : Bool → Prop}

theorem Rep.list' {h : Heap} {Mt : Addr → Prop} {l : List D} {v : Value} (r : Rep h Mt (.list l) v) : ∃ a vs n, v = .ref a ∧ ¬ Mt a ∧ h.get? a = some (listObj vs n) ∧ RepL h Mt l vs := by simpa only [Rep] using r
theorem Rep.tup' {h : Heap} {Mt : Addr → Prop} {l : List D} {v : Value} (r : Rep h Mt (.tup l) v) : ∃ a vs n, v = .ref a ∧ ¬ Mt a ∧ h.get? a = some (tupObj vs n) ∧ RepL h Mt l vs := by simpa only [Rep] using r

theorem Room.cl {A : Around} (r : Room A n) : A.units < cLine := by have := r.u; show A.units < 9900; omega

/-- a new list -/
theorem Ret.newList {s : Shared} {Mt : Addr → Prop} {R : Value → Shared → Prop} (q : Ret s Mt Q R) {ds : List D} {vs : List Value} {k : Nat} (bd : ∀ a, Mt a → ∃ o, s.heap.get? a = some o) (r : RepL s.heap Mt ds vs) (h : Q (.list ds)) (tk : Nat) :
    R (.ref s.heap.objs.size) { s with heap := s.heap.push { cls := .type "list", data := .seq vs.toArray k }, toks := tk } := by
  refine q _ _ _ (.list ds) (stays_push _ _) ?_ h
  simp only [Rep]
  refine ⟨_, vs, k, rfl, fun m => ?_, Heap.get?_push_size _ rfl, r.keepD (.of_stays (stays_push _ _))⟩
  obtain ⟨o, e⟩ := bd _ m
  exact Nat.lt_irrefl _ (Heap.lt_size e)

theorem op_add_list {x y : List D} (hsz : x.length + y.length ≤ sizeLine) (h : Q (.list (x ++ y))) : WO w n [.list x, .list y] (fun vs => binaryOp .Add (vs.getD 0 .none) (vs.getD 1 .none)) Q :=
  .two (op := binaryOp .Add) (fun A s Mt v u R E ro G bd ra rb q => by
    obtain ⟨a, vs, k, rfl, m, o, rl⟩ := ra.list'
    obtain ⟨b, us, k', rfl, m', o', rl'⟩ := rb.list'
    refine PySem.P.add_list o o' ?_ (by simp only [List.size_toArray, rl.length, rl'.length]; exact hsz)
    rw [show vs.toArray ++ us.toArray = (vs ++ us).toArray by simp]
    exact q.newList bd (rl.append rl') h s.toks) fun _ _ => rfl

theorem op_eq_nil {x : List D} (h : Q (.bool x.isEmpty)) : WO w n [.list x, .list []] (fun vs => compareOp .Eq (vs.getD 0 .none) (vs.getD 1 .none)) Q :=
  .two (op := compareOp .Eq) (fun A s Mt v u R E ro G bd ra rb q => by
    obtain ⟨a, vs, k, rfl, m, o, rl⟩ := ra.list'
    obtain ⟨b, us, k', rfl, m', o', rl'⟩ := rb.list'
    rw [rl'.nil_inv] at o'
    have hlen := rl.length
    cases x with
    | nil =>
      rw [rl.nil_inv] at o
      exact SeqAt.eq_listAt (items := #[]) (items2 := #[]) (e := fun _ => true) ⟨_, o, rfl, _, rfl⟩ ⟨_, o', rfl, _, rfl⟩ rfl ro.cl (fun j h1 _ => absurd h1 (Nat.not_lt_zero _)) (q.here (fun _ => Rep.bool_) h s.toks)
    | cons d ds =>
      exact SeqAt.eq_list_lengthsAt (items := vs.toArray) (items2 := #[]) ⟨_, o, rfl, _, rfl⟩ ⟨_, o', rfl, _, rfl⟩ (by simp only [List.size_toArray, hlen]; rfl) ro.cl (q.here (fun _ => Rep.bool_) h s.toks)) fun _ _ => rfl
theorem op_ne_nil {x : List D} (h : Q (.bool (!x.isEmpty))) : WO w n [.list x, .list []] (fun vs => compareOp .NotEq (vs.getD 0 .none) (vs.getD 1 .none)) Q :=
  .two (op := compareOp .NotEq) (fun A s Mt v u R E ro G bd ra rb q => by
    obtain ⟨a, vs, k, rfl, m, o, rl⟩ := ra.list'
    obtain ⟨b, us, k', rfl, m', o', rl'⟩ := rb.list'
    rw [rl'.nil_inv] at o'
    have hlen := rl.length
    cases x with
    | nil =>
      rw [rl.nil_inv] at o
      exact EqBoolInt.of_rcne (SeqAt.RcNeAt.lists (items := #[]) (items2 := #[]) (e := fun _ => true) ⟨_, o, rfl, _, rfl⟩ ⟨_, o', rfl, _, rfl⟩ rfl ro.cl (fun j h1 _ => absurd h1 (Nat.not_lt_zero _))) (q.here (fun _ => Rep.bool_) h s.toks)
    | cons d ds =>
      exact EqBoolInt.of_rcne (SeqAt.RcNeAt.lists_lengths (items := vs.toArray) (items2 := #[]) ⟨_, o, rfl, _, rfl⟩ ⟨_, o', rfl, _, rfl⟩ (by simp only [List.size_toArray, hlen]; rfl) ro.cl) (q.here (fun _ => Rep.bool_) h s.toks)) fun _ _ => rfl

theorem repL_ints {h : Heap} {Mt : Addr → Prop} : ∀ {ns : List Int} {vs : List Value}, RepL h Mt (ns.map D.int) vs → IntsAre vs ns
  | [], vs, r => by rw [RepL.nil_inv r]; exact .nil
  | x :: ns, vs, r => by
    obtain ⟨v, q, rfl, r1, r2⟩ := RepL.cons_inv r
    obtain ⟨t, rfl⟩ := r1.int'
    exact .cons _ _ (repL_ints r2)
theorem repL_strs {h : Heap} {Mt : Addr → Prop} : ∀ {ns : List Str} {vs : List Value}, RepL h Mt (ns.map D.str) vs → StrsAre vs ns
  | [], vs, r => by rw [RepL.nil_inv r]; exact .nil
  | x :: ns, vs, r => by
    obtain ⟨v, q, rfl, r1, r2⟩ := RepL.cons_inv r
    obtain ⟨t, rfl⟩ := r1.str'
    exact .cons _ _ (repL_strs r2)
theorem op_notin_ints {k : Int} {ns : List Int} (h : Q (.bool (!ns.any (· == k)))) : WO w n [.int k, .list (ns.map D.int)] (fun vs => compareOp .NotIn (vs.getD 0 .none) (vs.getD 1 .none)) Q :=
  .two (op := compareOp .NotIn) (fun A s Mt v u R E ro G bd ra rb q => by
    obtain ⟨t, rfl⟩ := ra.int'
    obtain ⟨b, us, k', rfl, m', o', rl'⟩ := rb.list'
    exact notin_list_ints ⟨_, o', rfl, _, rfl⟩ (repL_ints rl') (q.here (fun _ => Rep.bool_) h s.toks)) fun _ _ => rfl
theorem op_notin_strs {k : Str} {ns : List Str} (h : Q (.bool (!ns.any (· == k)))) : WO w n [.str k, .list (ns.map D.str)] (fun vs => compareOp .NotIn (vs.getD 0 .none) (vs.getD 1 .none)) Q :=
  .two (op := compareOp .NotIn) (fun A s Mt v u R E ro G bd ra rb q => by
    obtain ⟨t, rfl⟩ := ra.str'
    obtain ⟨b, us, k', rfl, m', o', rl'⟩ := rb.list'
    exact notin_list_strs ⟨_, o', rfl, _, rfl⟩ (repL_strs rl') (q.here (fun _ => Rep.bool_) h s.toks)) fun _ _ => rfl
theorem op_isnot_none {x : Str} (h : Q (.bool true)) : WO w n [.str x, .none] (fun vs => compareOp .IsNot (vs.getD 0 .none) (vs.getD 1 .none)) Q :=
  .two (op := compareOp .IsNot) (fun A s Mt v u R E ro G bd ra rb q => by
    obtain ⟨t, rfl⟩ := ra.str'
    simp only [Rep] at rb; subst rb
    exact isNot_none (q.here (fun _ => Rep.bool_) h s.toks)) fun _ _ => rfl

theorem Tru.str {x : Str} (hsz : x.length ≤ sizeLine) (h : B (x.length != 0)) : Tru w n (.str x) B := by
  intro A s Mt v R E ro G r q
  obtain ⟨t, rfl⟩ := r.str'
  refine PySem.P.truthy_str (by have : sizeLine = 16777216 := rfl; omega) ?_
  have : ((x.length : Int) != 0) = (x.length != 0) := by cases hx : x.length <;> simp <;> omega
  rw [this]
  exact q _ s.heap _ (stays_refl _) h
theorem Tru.list {l : List D} (hsz : l.length ≤ sizeLine) (h : B (!l.isEmpty)) : Tru w n (.list l) B := by
  intro A s Mt v R E ro G r q
  obtain ⟨a, vs, k, rfl, m, o, rl⟩ := r.list'
  have hl := rl.length
  refine wpAny_truthy_list (items := vs.toArray) ⟨_, o, rfl, _, rfl⟩ (by have : sizeLine = 16777216 := rfl; simp only [List.size_toArray]; omega) ?_
  have : (!vs.toArray.isEmpty) = !l.isEmpty := by cases l <;> cases vs <;> simp_all
  rw [this]
  exact q _ s.heap _ (stays_refl _) h

theorem b_len_list {l : List D} (hsz : l.length ≤ sizeLine) (h : Q (.int l.length)) : WO w n [.list l] (fun vs => call (.builtin "len") vs) Q :=
  .one (op := fun a => call (.builtin "len") [a]) (fun A s Mt v R E ro G bd ra q => by
    obtain ⟨a, vs, k, rfl, m, o, rl⟩ := ra.list'
    have hl := rl.length
    refine PyProof.Rows.len_list (items := vs.toArray) ⟨_, o, rfl, _, rfl⟩ (by have : sizeLine = 16777216 := rfl; simp only [List.size_toArray]; omega) ?_
    rw [List.size_toArray, hl]
    exact q.here (fun _ => Rep.int_) h _) fun _ => rfl
theorem b_len_str {x : Str} (hsz : x.length ≤ sizeLine) (h : Q (.int x.length)) : WO w n [.str x] (fun vs => call (.builtin "len") vs) Q :=
  .one (op := fun a => call (.builtin "len") [a]) (fun A s Mt v R E ro G bd ra q => by
    obtain ⟨t, rfl⟩ := ra.str'
    exact PyProof.Rows.len_str (by have : sizeLine = 16777216 := rfl; omega) (q.here (fun _ => Rep.int_) h _)) fun _ => rfl

/-- an item by an int -/
theorem WE.item {value i : Expr} {pos : Pos} (h : WE w n env σ value fun d => WE w n env σ i fun e => (∃ l k x, d = .list l ∧ e = .int k ∧ 0 ≤ k ∧ k < 2 ^ 63 ∧ l[k.toNat]? = some x ∧ Q x) ∨ (∃ l k x, d = .tup l ∧ e = .int k ∧ 0 ≤ k ∧ k < 2 ^ 63 ∧ l[k.toNat]? = some x ∧ Q x))
    (hs : ∀ a k u, subscripted i Bool.false (.ref a) (.int k u) = operate [.ref a, .int k u] (getItem (.ref a) (.int k u)) := by intro _ _ _; with_unfolding_all rfl) :
    WE w n env σ (.Subscript value i pos) Q := by
  intro A s g Mt₀ Mt R E ro S q
  refine Subscript_ (h A s g Mt₀ Mt _ E ro S fun v h' tk' d k r hq => ?_)
  refine hq A _ g Mt₀ Mt _ E ro (S.keeps k) fun v2 h2 tk2 d2 k2 r2 hq2 => ?_
  rcases hq2 with ⟨l, j, x, rfl, rfl, h0, hj, hx, hQ⟩ | ⟨l, j, x, rfl, rfl, h0, hj, hx, hQ⟩
  · obtain ⟨t2, rfl⟩ := r2.int'
    obtain ⟨a, vs, kk, rfl, m, o, rl⟩ := (r.keepD (.of_stays k2)).list'
    obtain ⟨u, hu, ru⟩ := rl.get hx
    exact tail_any (T := "list") ⟨_, o, rfl⟩ slot_list_getitem.lookup (wpAny_getItem_list (items := vs.toArray) ⟨_, o, rfl, _, rfl⟩ h0 hj (by simpa using hu) (q u h2 tk2 x (stays_trans k k2) ru hQ)) (hs _ _ _)
  · obtain ⟨t2, rfl⟩ := r2.int'
    obtain ⟨a, vs, kk, rfl, m, o, rl⟩ := (r.keepD (.of_stays k2)).tup'
    obtain ⟨u, hu, ru⟩ := rl.get hx
    have hl : j.toNat < vs.length := (List.getElem?_eq_some_iff.mp hu).1
    refine item_tupleT (l := vs) (j := j.toNat) ⟨_, o, rfl, _, rfl⟩ (by omega) hj ?_ hu (q u h2 tk2 x (stays_trans k k2) ru hQ) (hs _ _ _)
    unfold seqIndex?
    have hj0 : ¬ j < 0 := by omega
    simp only [if_neg hj0]
    have : (decide (0 ≤ j) && decide (j < (vs.length : Int))) = Bool.true := by simp; omega
    rw [if_pos this]

theorem WE.list_to {value hi : Expr} {p pos : Pos} (h : WE w n env σ value fun d => ∃ l, d = .list l ∧ l.length ≤ sizeLine ∧ WE w n env σ hi fun e => ∃ j : Nat, e = .int j ∧ Q (.list (l.take j))) :
    WE w n env σ (.Subscript value (.Slice Option.none (some hi) Option.none p) pos) Q := by
  intro A s g Mt₀ Mt R E ro S q
  refine Subscript_ (h A s g Mt₀ Mt _ E ro S fun v h' tk' d k r hq => ?_)
  obtain ⟨l, rfl, hx, hq⟩ := hq
  refine wpAny_Slice (wpAny_evalPart_none (wpAny_evalPart_some (hq A _ g Mt₀ Mt _ E ro (S.keeps k) fun v2 h2 tk2 d2 k2 r2 hq2 => wpAny_evalPart_none ?_)))
  obtain ⟨j, rfl, hq2⟩ := hq2
  obtain ⟨t2, rfl⟩ := r2.int'
  have S2 := (S.keeps k).keeps k2
  obtain ⟨a, vs, kk, rfl, m, o, rl⟩ := (r.keepD (.of_stays k2)).list'
  have kp := stays_push h2 { cls := .type "slice", data := .fields #[.none, .int j t2, .none] }
  refine tail_any (T := "list") ⟨_, kp.h rfl o, rfl⟩ slot_list_getitem.lookup (wpAny_getItem_list_slice (items := vs.toArray) (lo := Option.none) (hi := some (j : Int)) (st := Option.none) ⟨_, kp.h rfl o, rfl, _, rfl⟩ (Heap.IsSliceOf.new h2 .none (.int j t2) .none) .none (.int _ _) .none nofun ?_ (by rw [List.size_toArray, rl.length]; exact hx)) (by with_unfolding_all rfl)
  rw [slicePick_upto']
  have := Ret.newList (s := { s with heap := h2.push { cls := .type "slice", data := .fields #[.none, .int j t2, .none] }, toks := tk2 }) (k := 0) (Ret.after (s := s) (stays_trans (stays_trans k k2) kp) q) (fun b mm => (S2.keeps kp).bd b mm) ((rl.take j).keepD (.of_stays kp)) hq2 tk2
  exact this
theorem WE.list_from {value lo : Expr} {p pos : Pos} (h : WE w n env σ value fun d => ∃ l, d = .list l ∧ l.length ≤ sizeLine ∧ WE w n env σ lo fun e => ∃ j : Nat, e = .int j ∧ Q (.list (l.drop j))) :
    WE w n env σ (.Subscript value (.Slice (some lo) Option.none Option.none p) pos) Q := by
  intro A s g Mt₀ Mt R E ro S q
  refine Subscript_ (h A s g Mt₀ Mt _ E ro S fun v h' tk' d k r hq => ?_)
  obtain ⟨l, rfl, hx, hq⟩ := hq
  refine wpAny_Slice (wpAny_evalPart_some (hq A _ g Mt₀ Mt _ E ro (S.keeps k) fun v2 h2 tk2 d2 k2 r2 hq2 => wpAny_evalPart_none (wpAny_evalPart_none ?_)))
  obtain ⟨j, rfl, hq2⟩ := hq2
  obtain ⟨t2, rfl⟩ := r2.int'
  have S2 := (S.keeps k).keeps k2
  obtain ⟨a, vs, kk, rfl, m, o, rl⟩ := (r.keepD (.of_stays k2)).list'
  have kp := stays_push h2 { cls := .type "slice", data := .fields #[.int j t2, .none, .none] }
  refine tail_any (T := "list") ⟨_, kp.h rfl o, rfl⟩ slot_list_getitem.lookup (wpAny_getItem_list_slice (items := vs.toArray) (lo := some (j : Int)) (hi := Option.none) (st := Option.none) ⟨_, kp.h rfl o, rfl, _, rfl⟩ (Heap.IsSliceOf.new h2 (.int j t2) .none .none) (.int _ _) .none .none nofun ?_ (by rw [List.size_toArray, rl.length]; exact hx)) (by with_unfolding_all rfl)
  rw [slicePick_from']
  have := Ret.newList (s := { s with heap := h2.push { cls := .type "slice", data := .fields #[.int j t2, .none, .none] }, toks := tk2 }) (k := 0) (Ret.after (s := s) (stays_trans (stays_trans k k2) kp) q) (fun b mm => (S2.keeps kp).bd b mm) ((rl.drop j).keepD (.of_stays kp)) hq2 tk2
  exact this
end
end Mine
end

section
open PySem PySem.W PyProof.Rows PySem.Calls
set_option Elab.async false
set_option linter.unusedVariables false
namespace Mine
section
variable {w : World} {n : Nat} {env : Env} {σ : Sto} {Q : D → Prop} {B : Bool → Prop}
theorem fmt_quote (t u : Tok) : ∀ z : PySem.Str, z.length ≤ 1000000 → Meets (Builtin.«str.__mod__» ⟨[.str (Str.mk #[34, 37, 115, 34]) t, .str z u], []⟩) (fun _ R s => ∀ t' k, R (.ok (.ret (.str (Str.mk #[34] ++ z ++ Str.mk #[34]) t'))) { s with toks := k }) := by
  kpc_run_s
theorem quote_str : (Str.ofString "\"%s\"") = Str.mk #[34, 37, 115, 34] := by decide +kernel

theorem op_fmt_quote {y : Str} (hy : y.length ≤ 1000000) (h : Q (.str (Str.mk #[34] ++ y ++ Str.mk #[34]))) : WO w n [.str "\"%s\"", .str y] (fun vs => binaryOp .Mod (vs.getD 0 .none) (vs.getD 1 .none)) Q :=
  .two (op := binaryOp .Mod) (fun A s Mt v u R E ro G bd ra rb q => by
    obtain ⟨t, rfl⟩ := ra.str'; obtain ⟨t', rfl⟩ := rb.str'
    exact KPc.mod_str (T := fun z => Str.mk #[34] ++ z ++ Str.mk #[34]) quote_str hy (fmt_quote t t') fun t2 k => q.here (fun _ => Rep.str_) h k) fun _ _ => rfl
theorem strs_values {vs : List Value} {ys : List Str} (h : StrsAre vs ys) : ∃ l : List (Str × Tok), strValues l = vs ∧ l.map (·.1) = ys := by
  induction h with
  | nil => exact ⟨[], rfl, rfl⟩
  | cons y t _ ih => obtain ⟨l, h1, h2⟩ := ih; exact ⟨(y, t) :: l, by simp only [strValues, List.map_cons] at h1 ⊢; rw [h1], by simp only [List.map_cons, h2]⟩
theorem m_join {x : Str} {ys : List Str} (hok : JoinOk x ys = true) (h : Q (.str (Txt.join x ys))) : WO w n [.str x, .list (ys.map D.str)] (fun vs => call (.builtin "str.join") vs) Q :=
  .two (op := fun a b => call (.builtin "str.join") [a, b]) (fun A s Mt v u R E ro G bd ra rb q => by
    obtain ⟨t, rfl⟩ := ra.str'
    obtain ⟨b, us, k', rfl, m', o', rl'⟩ := rb.list'
    obtain ⟨l, h1, h2⟩ := strs_values (repL_strs rl')
    subst h1
    exact SC.join (l := l) ⟨_, o', rfl, _, rfl⟩ h2 hok fun t' k => q.here (fun _ => Rep.str_) h k) fun _ _ => rfl

theorem b_ord {c : Nat} (h : Q (.int c)) : WO w n [.str ⟨#[c]⟩] (fun vs => call (.builtin "ord") vs) Q :=
  .one (op := fun a => call (.builtin "ord") [a]) (fun A s Mt v R E ro G bd ra q => by
    obtain ⟨t, rfl⟩ := ra.str'
    exact PySem.P.ord_of_char (q.here (fun _ => Rep.int_) h _)) fun _ => rfl
theorem b_chr {i : Int} (h0 : 0 ≤ i) (h1 : i ≤ 1114111) (h : Q (.str ⟨#[i.toNat]⟩)) : WO w n [.int i] (fun vs => call (.builtin "chr") vs) Q :=
  .one (op := fun a => call (.builtin "chr") [a]) (fun A s Mt v R E ro G bd ra q => by
    obtain ⟨t, rfl⟩ := ra.int'
    exact chr_of_range h0 h1 (q.here (fun _ => Rep.str_) h _)) fun _ => rfl
theorem b_max {a b : Int} (h : Q (.int (if b > a then b else a))) : WO w n [.int a, .int b] (fun vs => call (.builtin "max") vs) Q :=
  .two (op := fun a b => call (.builtin "max") [a, b]) (fun A s Mt v u R E ro G bd ra rb q => by
    obtain ⟨t, rfl⟩ := ra.int'; obtain ⟨t', rfl⟩ := rb.int'
    refine max_two_ints ro.hd fun h' tk k => ?_
    by_cases hb : b > a
    · rw [if_pos hb] at h ⊢; exact q _ h' tk (.int b) (.of k) Rep.int_ h
    · rw [if_neg hb] at h ⊢; exact q _ h' tk (.int a) (.of k) Rep.int_ h) fun _ _ => rfl
theorem newObj_ret {s : Shared} {Mt : Addr → Prop} {R : Value → Shared → Prop} (q : Ret s Mt Q R) {d : D} {o : Obj} (bd : ∀ a, Mt a → ∃ o, s.heap.get? a = some o) (r : ¬ Mt s.heap.objs.size → Rep (s.heap.push o) Mt d (.ref s.heap.objs.size)) (h : Q d) (tk : Nat) :
    R (.ref s.heap.objs.size) { s with heap := s.heap.push o, toks := tk } := by
  refine q _ _ _ d (stays_push _ _) (r fun m => ?_) h
  obtain ⟨o, e⟩ := bd _ m
  exact Nat.lt_irrefl _ (Heap.lt_size e)
theorem b_range1 {a : Int} (h : Q (.rng 0 a 1)) : WO w n [.int a] (fun vs => call (.type "range") vs) Q :=
  .one (op := fun a => call (.type "range") [a]) (fun A s Mt v R E ro G bd ra q => by
    obtain ⟨t, rfl⟩ := ra.int'
    exact call_range_1 (newObj_ret q bd (fun hm => by simp only [Rep]; exact ⟨_, _, _, _, rfl, hm, Heap.get?_push_size _ rfl⟩) h _)) fun _ => rfl
theorem WO.three {d e f : D} {op : Value → Value → Value → Sem Value} (h : ∀ (A : Around) (s : Shared) (Mt : Addr → Prop) (v u x : Value) (R : Value → Shared → Prop) (E : Value → Shared → Prop),
    Room A n → Gd w s.heap → (∀ a, Mt a → ∃ o, s.heap.get? a = some o) → Rep s.heap Mt d v → Rep s.heap Mt e u → Rep s.heap Mt f x → Ret s Mt Q R → wpAny (model prog w) A (op v u x) R E s) {g : List Value → Sem Value} (hf : ∀ v u x, g [v, u, x] = op v u x) : WO w n [d, e, f] g Q := by
  intro A s Mt vs R E ro G bd r q
  obtain ⟨v, r1, rfl, ra, rl⟩ := r.cons_inv
  obtain ⟨u, r2, rfl, rb, rl⟩ := rl.cons_inv
  obtain ⟨x, r3, rfl, rc, rl⟩ := rl.cons_inv
  rw [rl.nil_inv, hf]
  exact h A s Mt v u x R E ro G bd ra rb rc q
theorem b_range3 {a b c : Int} (hc : c ≠ 0) (hp : Builtin.divisionGoesByPylong (b - a) c = false) (h : Q (.rng a b c)) : WO w n [.int a, .int b, .int c] (fun vs => call (.type "range") vs) Q :=
  .three (op := fun a b c => call (.type "range") [a, b, c]) (fun A s Mt v u x R E ro G bd ra rb rc q => by
    obtain ⟨t, rfl⟩ := ra.int'; obtain ⟨t', rfl⟩ := rb.int'; obtain ⟨t2, rfl⟩ := rc.int'
    exact call_range_3 hc (newObj_ret q bd (fun hm => by simp only [Rep]; exact ⟨_, _, _, _, rfl, hm, Heap.get?_push_size _ rfl⟩) h _) (.inl hp)) fun _ _ _ => rfl

variable {P : FlowD → Sto → Prop}
theorem WX.aug_add {x : Str} {px pos : Pos} {e : Expr} {i : Int} (hσ : σ.lookup x = some (.fz (.int i))) (hx : StoreOk env x) (h : WE w n env σ e fun d => ∃ j, d = .int j ∧ P .next ((x, .fz (.int (i + j))) :: σ)) :
    WX w n env σ (.AugAssign (.Name x px) .Add e pos) P := by
  intro A s g Mt₀ Mt R E ro S q
  obtain ⟨μ, p, _⟩ := S.vars
  obtain ⟨v, V, ⟨T, _⟩, _⟩ := p _ _ hσ
  obtain ⟨t, rfl⟩ := T.int'
  refine wpAny_AugAssign_Name (load_var S.kind V (h A s g Mt₀ Mt _ E ro S fun u h' tk' d k r hq => ?_))
  obtain ⟨j, rfl, hp⟩ := hq
  obtain ⟨t', rfl⟩ := r.int'
  refine wpAny_iadd_int ?_
  refine store_fz (S.keeps k) hx Rep.int_ fun h'' tk'' S' st => ?_
  exact q .next h'' tk'' .next _ Mt S' ((Stp.of_stays k).trans st.up) trivial hp
end
end Mine
end

section
open PySem PySem.W PyProof.Rows PySem.Calls
set_option Elab.async false
set_option linter.unusedVariables false
set_option maxRecDepth 100000
namespace Mine.RF
theorem plainAttrs_pat : PlainAttrs "re.Pattern" :=
  ⟨⟨"object.__getattribute__", by rw [typeLookup_type, builtinLookup_eq_fast]; kernel_rfl, by decide +kernel⟩, by rw [typeLookup_type, builtinLookup_eq_fast]; kernel_rfl⟩
theorem plainAttrs_mat : PlainAttrs "re.Match" :=
  ⟨⟨"object.__getattribute__", by rw [typeLookup_type, builtinLookup_eq_fast]; kernel_rfl, by decide +kernel⟩, by rw [typeLookup_type, builtinLookup_eq_fast]; kernel_rfl⟩
theorem nobool_mat : typeLookup (.type "re.Match") "__bool__" = pure none := by rw [typeLookup_type, builtinLookup_eq_fast]; kernel_rfl
theorem nolen_mat : typeLookup (.type "re.Match") "__len__" = pure none := by rw [typeLookup_type, builtinLookup_eq_fast]; kernel_rfl
theorem slot_search : Slot "re.Pattern" "search" "re.Pattern.search" :=
  .of (owner := "re.Pattern") (n := "search") (by rw [typeLookup_type, builtinLookup_eq_fast]; kernel_rfl) (by decide +kernel) (by decide +kernel) (by decide +kernel)
    (by first | exact .inl (by decide +kernel) | exact .inr (by decide +kernel)) (by rw [isSubtype_type]; kernel_rfl)
theorem type_search : typeOf (.builtin "re.Pattern.search") = pure (.type "method_descriptor") := by show builtinType _ = _; rw [builtinType_eq_fast]; kernel_rfl
theorem entry_search : entryFor table "re.Pattern.search" = some Builtin.«re.Pattern.search» := entryFor_of_tree (by kernel_rfl)
theorem args_search (a b : Value) : argsOk "re.Pattern.search" ⟨[a, b], []⟩ := by rfl
theorem slot_fullmatch : Slot "re.Pattern" "fullmatch" "re.Pattern.fullmatch" :=
  .of (owner := "re.Pattern") (n := "fullmatch") (by rw [typeLookup_type, builtinLookup_eq_fast]; kernel_rfl) (by decide +kernel) (by decide +kernel) (by decide +kernel)
    (by first | exact .inl (by decide +kernel) | exact .inr (by decide +kernel)) (by rw [isSubtype_type]; kernel_rfl)
theorem type_fullmatch : typeOf (.builtin "re.Pattern.fullmatch") = pure (.type "method_descriptor") := by show builtinType _ = _; rw [builtinType_eq_fast]; kernel_rfl
theorem entry_fullmatch : entryFor table "re.Pattern.fullmatch" = some Builtin.«re.Pattern.fullmatch» := entryFor_of_tree (by kernel_rfl)
theorem args_fullmatch (a b : Value) : argsOk "re.Pattern.fullmatch" ⟨[a, b], []⟩ := by rfl
theorem slot_sub : Slot "re.Pattern" "sub" "re.Pattern.sub" :=
  .of (owner := "re.Pattern") (n := "sub") (by rw [typeLookup_type, builtinLookup_eq_fast]; kernel_rfl) (by decide +kernel) (by decide +kernel) (by decide +kernel)
    (by first | exact .inl (by decide +kernel) | exact .inr (by decide +kernel)) (by rw [isSubtype_type]; kernel_rfl)
theorem type_sub : typeOf (.builtin "re.Pattern.sub") = pure (.type "method_descriptor") := by show builtinType _ = _; rw [builtinType_eq_fast]; kernel_rfl
theorem entry_sub : entryFor table "re.Pattern.sub" = some Builtin.«re.Pattern.sub» := entryFor_of_tree (by kernel_rfl)
theorem args_sub (a b c : Value) : argsOk "re.Pattern.sub" ⟨[a, b, c], []⟩ := by rfl
theorem slot_subn : Slot "re.Pattern" "subn" "re.Pattern.subn" :=
  .of (owner := "re.Pattern") (n := "subn") (by rw [typeLookup_type, builtinLookup_eq_fast]; kernel_rfl) (by decide +kernel) (by decide +kernel) (by decide +kernel)
    (by first | exact .inl (by decide +kernel) | exact .inr (by decide +kernel)) (by rw [isSubtype_type]; kernel_rfl)
theorem type_subn : typeOf (.builtin "re.Pattern.subn") = pure (.type "method_descriptor") := by show builtinType _ = _; rw [builtinType_eq_fast]; kernel_rfl
theorem entry_subn : entryFor table "re.Pattern.subn" = some Builtin.«re.Pattern.subn» := entryFor_of_tree (by kernel_rfl)
theorem args_subn (a b c : Value) : argsOk "re.Pattern.subn" ⟨[a, b, c], []⟩ := by rfl
theorem slot_group : Slot "re.Match" "group" "re.Match.group" :=
  .of (owner := "re.Match") (n := "group") (by rw [typeLookup_type, builtinLookup_eq_fast]; kernel_rfl) (by decide +kernel) (by decide +kernel) (by decide +kernel)
    (by first | exact .inl (by decide +kernel) | exact .inr (by decide +kernel)) (by rw [isSubtype_type]; kernel_rfl)
theorem type_group : typeOf (.builtin "re.Match.group") = pure (.type "method_descriptor") := by show builtinType _ = _; rw [builtinType_eq_fast]; kernel_rfl
theorem entry_group : entryFor table "re.Match.group" = some Builtin.«re.Match.group» := entryFor_of_tree (by kernel_rfl)
theorem args_group (a b : Value) : argsOk "re.Match.group" ⟨[a, b], []⟩ := by rfl
theorem slot_span : Slot "re.Match" "span" "re.Match.span" :=
  .of (owner := "re.Match") (n := "span") (by rw [typeLookup_type, builtinLookup_eq_fast]; kernel_rfl) (by decide +kernel) (by decide +kernel) (by decide +kernel)
    (by first | exact .inl (by decide +kernel) | exact .inr (by decide +kernel)) (by rw [isSubtype_type]; kernel_rfl)
theorem type_span : typeOf (.builtin "re.Match.span") = pure (.type "method_descriptor") := by show builtinType _ = _; rw [builtinType_eq_fast]; kernel_rfl
theorem entry_span : entryFor table "re.Match.span" = some Builtin.«re.Match.span» := entryFor_of_tree (by kernel_rfl)
theorem args_span (a b : Value) : argsOk "re.Match.span" ⟨[a, b], []⟩ := by rfl
end Mine.RF
end

section
open PySem PySem.W PyProof.Rows PySem.Calls
set_option Elab.async false
set_option linter.unusedVariables false
namespace Mine
open PySem.Sre

theorem runFor_stable {m : M} (h : m.outcome.isSome = true) : ∀ n, M.runFor n m = m
  | 0 => rfl
  | n + 1 => by show (if m.outcome.isSome = true then m else _) = m; rw [if_pos h]
theorem runFor_add : ∀ (a b : Nat) (m : M), M.runFor (a + b) m = M.runFor b (M.runFor a m)
  | 0, b, m => by rw [Nat.zero_add]; rfl
  | a + 1, b, m => by
    rw [show a + 1 + b = (a + b) + 1 by omega]
    show (if m.outcome.isSome = true then m else M.runFor (a + b) m.step) = M.runFor b (if m.outcome.isSome = true then m else M.runFor a m.step)
    by_cases h : m.outcome.isSome = true
    · rw [if_pos h, if_pos h, runFor_stable h]
    · rw [if_neg h, if_neg h, runFor_add a b]

/-- the machine comes, within B steps, to an end with P -/
noncomputable def Goes (B : Nat) (m : M) (P : M → Prop) : Prop := ∃ k, k ≤ B ∧ (M.runFor k m).outcome.isSome = true ∧ P (M.runFor k m)
theorem Goes.done {B : Nat} {m : M} {P : M → Prop} (h : m.outcome.isSome = true) (hp : P m) : Goes B m P := ⟨0, Nat.zero_le _, h, hp⟩
theorem Goes.step {B : Nat} {m : M} {P : M → Prop} (h : m.outcome = none) (g : Goes B m.step P) : Goes (B + 1) m P := by
  obtain ⟨k, hk, ho, hp⟩ := g
  have e : M.runFor (k + 1) m = M.runFor k m.step := by
    show (if m.outcome.isSome = true then m else M.runFor k m.step) = _
    rw [h]; rfl
  exact ⟨k + 1, Nat.succ_le_succ hk, by rw [e]; exact ho, by rw [e]; exact hp⟩
theorem Goes.ex {B : Nat} {m : M} {P : M → Prop} {f : Sre.Seen → M} (h : m.outcome = none) (e : ∃ se, m.step = f se) (g : ∀ se, Goes B (f se) P) : Goes (B + 1) m P := by
  obtain ⟨se, e⟩ := e
  exact .step h (by rw [e]; exact g se)
theorem Goes.mono {B B' : Nat} {m : M} {P : M → Prop} (g : Goes B m P) (h : B ≤ B') : Goes B' m P := let ⟨k, hk, r⟩ := g; ⟨k, Nat.le_trans hk h, r⟩

/-- the drive -/
theorem wp_drive {Mo : Model} {A : Around} {E : Value → Shared → Prop} {s : Shared} {Q : M → Shared → Prop} {P : M → Prop} : ∀ (turns : Nat) (m : M) (B : Nat), Goes B m P → B ≤ 4 * turns → 0 < turns → (∀ m', P m' → m'.outcome.isSome = true → Q m' s) →
    wpAny Mo A (Builtin.Re.reDrive turns m) Q E s
  | 0, m, B, g, h, h0, q => absurd h0 (Nat.lt_irrefl _)
  | turns + 1, m, B, g, h, h0, q => by
    obtain ⟨k, hk, ho, hp⟩ := g
    unfold Builtin.Re.reDrive
    show wpAny Mo A (if (M.runFor 4 m).outcome.isSome = true then pure (M.runFor 4 m) else _) Q E s
    by_cases hx : (M.runFor 4 m).outcome.isSome = true
    · rw [if_pos hx]
      have : M.runFor k m = M.runFor 4 m := by
        by_cases hk4 : k ≤ 4
        · rw [show (4 : Nat) = k + (4 - k) from (Nat.add_sub_cancel' hk4).symm, runFor_add, runFor_stable ho]
        · rw [show k = 4 + (k - 4) from (Nat.add_sub_cancel' (Nat.le_of_not_le hk4)).symm, runFor_add, runFor_stable hx]
      exact wpAny_pure (q _ (this ▸ hp) hx)
    · rw [if_neg hx]
      have hk4 : 4 < k := by
        refine Nat.lt_of_not_le fun hk4 => hx ?_
        rw [show (4 : Nat) = k + (4 - k) from (Nat.add_sub_cancel' hk4).symm, runFor_add, runFor_stable ho]; exact ho
      have e : M.runFor k m = M.runFor (k - 4) (M.runFor 4 m) := by rw [← runFor_add, Nat.add_sub_cancel' (Nat.le_of_lt hk4)]
      exact wpAny_bind (wpAny_rule (wp_drive turns (M.runFor 4 m) (B - 4) ⟨k - 4, Nat.sub_le_sub_right hk 4, by rw [← e]; exact ho, by rw [← e]; exact hp⟩ (Nat.sub_le_of_le_add h) (by clear e q; omega) q))

/-- is a sign taken by the item at i -/
noncomputable def acc (code : Array Nat) (i c : Nat) : Option Bool := match accepts code i c {} with | .ok (b, _) => some b | .error _ => none

theorem err_no {α : Type} {x : α} {e : String} {p : Prop} (h : (Except.error e : Except String α) = .ok x) : p := by cases h
theorem ok_seen {b b' : Bool} {s1 s1' s2 : Sre.Seen} (h : (Except.ok (b', s1) : Except String (Bool × Sre.Seen)) = .ok (b, s1')) : ∃ s2', (Except.ok (b', s2) : Except String (Bool × Sre.Seen)) = .ok (b, s2') := by
  cases h; exact ⟨_, rfl⟩
theorem if_seen {p : Prop} [Decidable p] {b y : Bool} {s1 s1' s2 : Sre.Seen} {r1 r2 : Except String (Bool × Sre.Seen)} (h : (if p then .ok (y, s1) else r1) = .ok (b, s1')) (k : r1 = .ok (b, s1') → ∃ s2', r2 = .ok (b, s2')) : ∃ s2', (if p then .ok (y, s2) else r2) = .ok (b, s2') := by
  by_cases q : p
  · rw [if_pos q] at h ⊢; exact ok_seen h
  · rw [if_neg q] at h ⊢; exact k h
theorem inSet_seen (code : Array Nat) (c : Nat) : ∀ (fuel i : Nat) (yes : Bool) (s1 s2 : Sre.Seen) (b : Bool) (s1' : Sre.Seen), inSet code c fuel i yes s1 = .ok (b, s1') → ∃ s2', inSet code c fuel i yes s2 = .ok (b, s2')
  | 0, i, yes, s1, s2, b, s1', h => err_no h
  | fuel + 1, i, yes, s1, s2, b, s1', h => by
    unfold inSet at h ⊢
    dsimp only at h ⊢
    cases ho : ops[code.getD (i + 0) 0]? with
    | none => rw [ho] at h; exact err_no h
    | some op =>
      rw [ho] at h
      cases op
      case FAILURE => exact ok_seen h
      case NEGATE => exact inSet_seen code c fuel _ _ _ _ b _ h
      case LITERAL | RANGE | RANGE_UNI_IGNORE | CHARSET | BIGCHARSET => exact if_seen h fun h => inSet_seen code c fuel _ _ _ _ b _ h
      case CATEGORY =>
        dsimp only at h ⊢
        cases hcat : category (code.getD (i + 1) 0) c with
        | error e => rw [hcat] at h; cases h
        | ok v =>
          rw [hcat] at h
          cases v with
          | true =>
            have h' : (Except.ok (yes, (s1.add (code.getD (i + 0) 0)).add (55 + code.getD (i + 1) 0)) : Except String (Bool × Sre.Seen)) = .ok (b, s1') := h
            injection h' with h'; injection h' with h1 h2
            exact ⟨_, by rw [← h1]; rfl⟩
          | false => exact inSet_seen code c fuel _ _ _ _ b _ h
      all_goals exact err_no h
theorem accepts_seen {code : Array Nat} {i c : Nat} {b : Bool} (h : acc code i c = some b) (s : Sre.Seen) : ∃ s', accepts code i c s = .ok (b, s') := by
  unfold acc at h
  cases ha : accepts code i c {} with
  | error e => rw [ha] at h; cases h
  | ok p =>
    obtain ⟨b', s0⟩ := p
    rw [ha] at h
    injection h with h
    subst h
    unfold accepts at ha ⊢
    dsimp only at ha ⊢
    cases ho : ops[code.getD i 0]? with
    | none => rw [ho] at ha; exact err_no ha
    | some op =>
      rw [ho] at ha
      cases op <;> first
        | exact ok_seen ha
        | exact inSet_seen _ _ _ _ _ _ s _ _ ha
        | exact err_no ha

/-- how many signs from p on are taken -/
noncomputable def cnt (code text : Array Nat) (i : Nat) : Nat → Nat → Nat
  | 0, _ => 0
  | n + 1, p => if acc code i (text.getD p 0) = some true then cnt code text i n (p + 1) + 1 else 0
theorem run_spec {code text : Array Nat} {i : Nat} : ∀ (n p found : Nat) (s : Sre.Seen), (∀ k, k < n → (acc code i (text.getD (p + k) 0)).isSome = true) → ∃ s', Sre.run code text i n p found s = .ok (found + cnt code text i n p, s')
  | 0, p, found, s, h => ⟨s, rfl⟩
  | n + 1, p, found, s, h => by
    unfold Sre.run
    have h0 := h 0 (Nat.succ_pos _)
    rw [Nat.add_zero] at h0
    obtain ⟨b, hb⟩ := Option.isSome_iff_exists.mp h0
    obtain ⟨s1, hs1⟩ := accepts_seen hb s
    show ∃ s', (Except.bind (accepts code i (text.getD p 0) s) _) = _
    rw [hs1]
    unfold cnt
    cases b with
    | false => exact ⟨s1, by rw [hb]; rfl⟩
    | true =>
      obtain ⟨s2, hs2⟩ := run_spec n (p + 1) (found + 1) s1 fun k hk => by have := h (k + 1) (Nat.succ_lt_succ hk); rwa [show p + (k + 1) = p + 1 + k from (Nat.add_right_comm p k 1)] at this
      refine ⟨s2, ?_⟩
      rw [hb, if_pos rfl]
      show Sre.run code text i n (p + 1) (found + 1) s1 = _
      rw [hs2, Nat.add_assoc, Nat.add_comm 1]
end Mine
end

section
open PySem PySem.W PyProof.Rows PySem.Calls
set_option Elab.async false
set_option linter.unusedVariables false
namespace Mine
open PySem.Sre

structure Kf where
  c : Array Nat
  t : Array Nat
  lim : Nat
  la : Nat
  wh : Bool
  mu : Bool

noncomputable def ms (K : Kf) (st pc pos hd : Nat) (out : Bool) (mk : Array (Option Nat)) (lm li : Int) (lo : Array Loop) (inn : Option Nat) (fr : List Sre.Frame) (wt : Nat) (ans : Option Bool) (se : Sre.Seen) : M :=
  { code := K.c, text := K.t, lim := K.lim, start := st, lastStart := K.la, wholeText := K.wh, mustAdvance := K.mu, pc := pc, pos := pos, handed := hd, outermost := out, marks := mk, lastmark := lm, lastindex := li, loops := lo, inner := inn,
    frames := fr, weight := wt, answer := ans, seen := se, outcome := none }

section
variable {K : Kf} {st pc pos hd : Nat} {out : Bool} {mk : Array (Option Nat)} {lm li : Int} {lo : Array Loop} {inn : Option Nat} {fr : List Sre.Frame} {wt : Nat} {se : Sre.Seen}

theorem s_exec (hpc : pc < K.c.size) : (ms K st pc pos hd out mk lm li lo inn fr wt none se).step = (ms K st pc pos hd out mk lm li lo inn fr wt none se).exec := by
  unfold M.step
  show (if (none : Option Sre.Outcome).isSome = true then _ else if pc < K.c.size then _ else _) = _
  rw [if_neg (by decide), if_pos hpc]

theorem s_at (hpc : pc < K.c.size) (hop : ops[K.c.getD (pc + 0) 0]? = some .AT) (h1 : K.c.getD (pc + 1) 0 = 0) (hp : pos = 0) :
    ∃ se', (ms K st pc pos hd out mk lm li lo inn fr wt none se).step = ms K st (pc + 2) pos hd out mk lm li lo inn fr wt none se' := by
  rw [s_exec hpc]
  refine ⟨(se.add (K.c.getD (pc + 0) 0)).add (43 + K.c.getD (pc + 1) 0), ?_⟩
  unfold M.exec
  simp only [M.word, ms, hop]
  simp only [h1, M.isAt, hp]
  rfl
theorem s_at_no (hpc : pc < K.c.size) (hop : ops[K.c.getD (pc + 0) 0]? = some .AT) (h1 : K.c.getD (pc + 1) 0 = 0) (hp : pos ≠ 0) :
    ∃ se', (ms K st pc pos hd out mk lm li lo inn fr wt none se).step = ms K st pc pos hd out mk lm li lo inn fr wt (some false) se' := by
  rw [s_exec hpc]
  refine ⟨(se.add (K.c.getD (pc + 0) 0)).add (43 + K.c.getD (pc + 1) 0), ?_⟩
  unfold M.exec
  simp only [M.word, ms, hop]
  simp only [h1, M.isAt, beq_false_of_ne hp]
  rfl
theorem s_lit (hpc : pc < K.c.size) (hop : ops[K.c.getD (pc + 0) 0]? = some .LITERAL) (hl : pos < K.lim) (h1 : K.t.getD pos 0 = K.c.getD (pc + 1) 0) :
    ∃ se', (ms K st pc pos hd out mk lm li lo inn fr wt none se).step = ms K st (pc + 2) (pos + 1) hd out mk lm li lo inn fr wt none se' := by
  rw [s_exec hpc]
  refine ⟨se.add (K.c.getD (pc + 0) 0), ?_⟩
  have hc : (pos ≥ K.lim) = False := eq_false (Nat.not_le.mpr hl)
  have hop' : ops[K.c.getD pc 0]? = some .LITERAL := hop
  have ha : accepts K.c pc (K.t.getD pos 0) (se.add (K.c.getD (pc + 0) 0)) = .ok (true, se.add (K.c.getD (pc + 0) 0)) := by
    unfold accepts; simp only [hop', h1, beq_self_eq_true]
  have hw : itemWidth K.c pc = 2 := by unfold itemWidth; simp only [hop']
  unfold M.exec
  simp only [M.word, ms, hop, hc, if_false, ha, hw]
theorem s_lit_no (hpc : pc < K.c.size) (hop : ops[K.c.getD (pc + 0) 0]? = some .LITERAL) (h1 : ¬ pos < K.lim ∨ K.t.getD pos 0 ≠ K.c.getD (pc + 1) 0) :
    ∃ se', (ms K st pc pos hd out mk lm li lo inn fr wt none se).step = ms K st pc pos hd out mk lm li lo inn fr wt (some false) se' := by
  rw [s_exec hpc]
  refine ⟨se.add (K.c.getD (pc + 0) 0), ?_⟩
  have hop' : ops[K.c.getD pc 0]? = some .LITERAL := hop
  unfold M.exec
  by_cases hl : pos < K.lim
  · have hc : (pos ≥ K.lim) = False := eq_false (Nat.not_le.mpr hl)
    have h1 := h1.resolve_left (fun h => h hl)
    have ha : accepts K.c pc (K.t.getD pos 0) (se.add (K.c.getD (pc + 0) 0)) = .ok (false, se.add (K.c.getD (pc + 0) 0)) := by
      unfold accepts; simp only [hop', beq_false_of_ne h1]
    simp only [M.word, ms, hop, hc, if_false, ha, M.say]
  · have hc : (pos ≥ K.lim) = True := eq_true (by omega)
    simp only [M.word, ms, hop, hc, if_true, M.say]
theorem s_success (hpc : pc < K.c.size) (hop : ops[K.c.getD (pc + 0) 0]? = some .SUCCESS) (hw : (out && ((K.wh && pos != K.lim) || (K.mu && pos == st))) = false) :
    ∃ se', (ms K st pc pos hd out mk lm li lo inn fr wt none se).step = ms K st pc pos pos out mk lm li lo inn fr wt (some true) se' := by
  rw [s_exec hpc]
  refine ⟨se.add (K.c.getD (pc + 0) 0), ?_⟩
  unfold M.exec
  simp only [M.word, ms, hop, hw]
  rfl
theorem s_mark0 (hpc : pc < K.c.size) (hop : ops[K.c.getD (pc + 0) 0]? = some .MARK) (h1 : K.c.getD (pc + 1) 0 = 0) (hm : -1 ≤ lm) :
    ∃ se', (ms K st pc pos hd out mk lm li lo inn fr wt none se).step = ms K st (pc + 2) pos hd out (mk.setIfInBounds 0 (some pos)) (max lm 0) li lo inn fr wt none se' := by
  rw [s_exec hpc]
  refine ⟨se.add (K.c.getD (pc + 0) 0), ?_⟩
  unfold M.exec
  simp only [M.word, ms, hop, h1, M.mark]
  have hc : (((0 : Nat) : Int) ≤ lm + 1) = True := eq_true (by omega)
  simp only [hc, if_true]
  rfl
theorem s_mark1 (hpc : pc < K.c.size) (hop : ops[K.c.getD (pc + 0) 0]? = some .MARK) (h1 : K.c.getD (pc + 1) 0 = 1) (hm : 0 ≤ lm) :
    ∃ se', (ms K st pc pos hd out mk lm li lo inn fr wt none se).step = ms K st (pc + 2) pos hd out (mk.setIfInBounds 1 (some pos)) (max lm 1) 1 lo inn fr wt none se' := by
  rw [s_exec hpc]
  refine ⟨se.add (K.c.getD (pc + 0) 0), ?_⟩
  unfold M.exec
  simp only [M.word, ms, hop, h1, M.mark]
  have hc : (((1 : Nat) : Int) ≤ lm + 1) = True := eq_true (by omega)
  simp only [hc, if_true]
  rfl

noncomputable def gbFrame (pc pos : Nat) (out : Bool) (count : Int) (lm li : Int) : Sre.Frame := { wait := .giveBack, pc := pc, pos := pos, outermost := out, count := count, kept := { lastmark := lm, lastindex := li, whole := false, marks := #[] } }
theorem min_lim {lim pos : Nat} (h : lim ≤ 16777216) : min 4294967295 ((lim : Int) - pos).toNat = lim - pos := by
  rw [Int.toNat_sub]
  exact Nat.min_eq_right (Nat.le_trans (Nat.sub_le ..) (Nat.le_trans h (by decide)))
theorem s_run {n : Nat} (hpc : pc < K.c.size) (hop : ops[K.c.getD (pc + 0) 0]? = some .REPEAT_ONE) (hinn : inn = none) (hmax : K.c.getD (pc + 3) 0 = 4294967295) (hlim : K.lim ≤ 16777216) (hple : pos ≤ K.lim) (hwt : wt < 16777216)
    (hok : ∀ k, k < K.lim - pos → (acc K.c (pc + 4) (K.t.getD (pos + k) 0)).isSome = true) (hn : n = cnt K.c K.t (pc + 4) (K.lim - pos) pos) (hle : K.c.getD (pc + 2) 0 ≤ n) (hnl : n ≤ K.lim - pos) :
    ∃ se', (ms K st pc pos hd out mk lm li lo inn fr wt none se).step = ms K st (pc + 1 + K.c.getD (pc + 1) 0) (pos + n) (pos + n) out mk lm li lo inn (gbFrame pc (pos + n) out n lm li :: fr) (wt + 1) none se' := by
  rw [s_exec hpc]
  obtain ⟨s', hs'⟩ := run_spec (code := K.c) (text := K.t) (i := pc + 4) (K.lim - pos) pos 0 ((se.add (K.c.getD (pc + 0) 0)).add (K.c.getD (pc + 4) 0)) hok
  refine ⟨s', ?_⟩
  rw [Nat.zero_add, ← hn] at hs'
  have hc : (((K.c.getD (pc + 2) 0 : Nat) : Int) > (K.lim : Int) - pos) = False := eq_false (Int.not_lt.mpr (by rw [← Int.ofNat_sub hple]; exact Int.ofNat_le.mpr (Nat.le_trans hle hnl)))
  have hmin : min (K.c.getD (pc + 3) 0) ((K.lim : Int) - pos).toNat = K.lim - pos := by rw [hmax]; exact min_lim hlim
  have hc2 : (n < K.c.getD (pc + 2) 0) = False := eq_false (Nat.not_lt.mpr hle)
  have hc3 : (wt + 1 + 0 > 16777216) = False := eq_false (Nat.not_lt.mpr hwt)
  unfold M.exec
  simp only [M.word, ms, hop, hc, if_false, Bool.false_eq_true, hmin, hs', hc2, M.afterRun, M.attempt, M.keep, M.frame, hinn, Option.isSome_none, Array.size_empty, hc3, gbFrame]
theorem s_run_no {n : Nat} (hpc : pc < K.c.size) (hop : ops[K.c.getD (pc + 0) 0]? = some .REPEAT_ONE) (hmax : K.c.getD (pc + 3) 0 = 4294967295) (hlim : K.lim ≤ 16777216) (hple : pos ≤ K.lim)
    (hok : ∀ k, k < K.lim - pos → (acc K.c (pc + 4) (K.t.getD (pos + k) 0)).isSome = true) (hn : n = cnt K.c K.t (pc + 4) (K.lim - pos) pos) (hle : n < K.c.getD (pc + 2) 0) :
    ∃ se', (ms K st pc pos hd out mk lm li lo inn fr wt none se).step = ms K st pc pos hd out mk lm li lo inn fr wt (some false) se' := by
  rw [s_exec hpc]
  obtain ⟨s', hs'⟩ := run_spec (code := K.c) (text := K.t) (i := pc + 4) (K.lim - pos) pos 0 ((se.add (K.c.getD (pc + 0) 0)).add (K.c.getD (pc + 4) 0)) hok
  rw [Nat.zero_add, ← hn] at hs'
  unfold M.exec
  by_cases hroom : ((K.c.getD (pc + 2) 0 : Nat) : Int) > (K.lim : Int) - pos
  · have hc := eq_true hroom
    exact ⟨se.add (K.c.getD (pc + 0) 0), by simp only [M.word, ms, hop, hc, if_true, M.say]⟩
  · have hc := eq_false hroom
    have hmin : min (K.c.getD (pc + 3) 0) ((K.lim : Int) - pos).toNat = K.lim - pos := by rw [hmax]; exact min_lim hlim
    have hc2 := eq_true hle
    exact ⟨s', by simp only [M.word, ms, hop, hc, if_false, Bool.false_eq_true, hmin, hs', hc2, if_true, M.say]⟩

/-! the frames -/
theorem s_pop {f : Sre.Frame} {b : Bool} : (ms K st pc pos hd out mk lm li lo inn (f :: fr) wt (some b) se).step = M.resume (ms K st f.pc f.pos hd f.outermost mk lm li lo inn fr (wt - (1 + f.kept.marks.size)) none se) f b := by
  unfold M.step; rfl
theorem s_gb_yes {fpc fpos : Nat} {fo : Bool} {fc flm fli : Int} (hwt : 0 < wt) :
    ∃ se', (ms K st pc pos hd out mk lm li lo inn (gbFrame fpc fpos fo fc flm fli :: fr) wt (some true) se).step = ms K st fpc fpos hd fo mk lm li lo inn fr (wt - 1) (some true) se' := ⟨se, rfl⟩
theorem s_gb_no0 {fpc fpos : Nat} {fo : Bool} {fc flm fli : Int} (h : fc - 1 < (K.c.getD (fpc + 2) 0 : Nat)) :
    ∃ se', (ms K st pc pos hd out mk lm li lo inn (gbFrame fpc fpos fo fc flm fli :: fr) wt (some false) se).step = ms K st fpc fpos hd fo mk flm fli lo inn fr (wt - 1) (some false) se' := by
  refine ⟨se, ?_⟩
  rw [s_pop]
  unfold M.resume
  have hc := eq_true h
  simp only [gbFrame, M.word, ms, Bool.false_eq_true, if_false, hc, if_true, M.putBack, M.say]
  rfl
theorem s_gb_no {fpc fpos : Nat} {fo : Bool} {fc flm fli : Int} (h : ¬ fc - 1 < (K.c.getD (fpc + 2) 0 : Nat)) (hwt : wt < 16777216) (h0 : 0 < wt) :
    ∃ se', (ms K st pc pos hd out mk lm li lo inn (gbFrame fpc fpos fo fc flm fli :: fr) wt (some false) se).step = ms K st (fpc + 1 + K.c.getD (fpc + 1) 0) (fpos - 1) (fpos - 1) fo mk flm fli lo inn (gbFrame fpc (fpos - 1) fo (fc - 1) flm fli :: fr) wt none se' := by
  refine ⟨se, ?_⟩
  rw [s_pop]
  unfold M.resume
  have hc := eq_false h
  have h0 : 1 ≤ wt := h0
  have hc4 : (wt > 16777216) = False := eq_false (Nat.not_lt.mpr (Nat.le_of_lt hwt))
  simp only [gbFrame, M.word, ms, Bool.false_eq_true, if_false, hc, M.putBack, M.afterRun, M.attempt, M.frame, Array.size_empty, Nat.add_zero, Nat.sub_add_cancel h0, hc4]

noncomputable def nsFrame (pc pos : Nat) (out : Bool) : Sre.Frame := { wait := .nextStart, pc := pc, pos := pos, outermost := out }
theorem s_ns_yes {fpc fpos : Nat} {fo : Bool} :
    ∃ se', (ms K st pc pos hd out mk lm li lo inn (nsFrame fpc fpos fo :: fr) wt (some true) se).step = ms K st fpc fpos hd fo mk lm li lo inn fr (wt - 1) (some true) se' := ⟨se, rfl⟩
theorem s_ns_end {fpc fpos : Nat} {fo : Bool} (h : ¬ fpos < K.la) :
    ∃ se', (ms K st pc pos hd out mk lm li lo inn (nsFrame fpc fpos fo :: fr) wt (some false) se).step = ms K st fpc fpos hd fo mk lm li lo inn fr (wt - 1) (some false) se' := by
  refine ⟨se, ?_⟩
  rw [s_pop]
  unfold M.resume
  have hc := eq_false h
  simp only [nsFrame, ms, Bool.false_eq_true, if_false, hc, M.say]
  rfl
end
end Mine
end

section
open PySem PySem.W PyProof.Rows PySem.Calls
set_option Elab.async false
set_option linter.unusedVariables false
namespace Mine
open PySem.Sre

section
variable {K : Kf} {st pc pos hd : Nat} {out : Bool} {mk : Array (Option Nat)} {lm li : Int} {lo : Array Loop} {inn : Option Nat} {fr : List Sre.Frame} {wt : Nat} {se : Sre.Seen}

theorem s_fin {b : Bool} : (ms K st pc pos hd out mk lm li lo inn [] wt (some b) se).step = { ms K st pc pos hd out mk lm li lo inn [] wt (some b) se with outcome := some (if b then .matched else .failed) } := by
  unfold M.step; rfl
theorem s_ns_next {fpc fpos : Nat} {fo : Bool} (h : fpos < K.la) (hmu : K.mu = false) (hfs : K.c.getD 2 0 ≠ 4) (hwt : wt < 16777216) (h0 : 1 ≤ wt) :
    ∃ se', (ms K st pc pos hd out mk lm li lo inn (nsFrame fpc fpos fo :: fr) wt (some false) se).step = ms K (fpos + 1) fpc (fpos + 1) (fpos + 1) false mk (-1) (-1) lo inn (nsFrame fpc (fpos + 1) false :: fr) wt none se' := by
  refine ⟨se, ?_⟩
  rw [s_pop]
  unfold M.resume
  have hc := eq_true h
  have hc4 : (wt > 16777216) = False := eq_false (Nat.not_lt.mpr (Nat.le_of_lt hwt))
  have hf : M.hasFirstSet (ms { K with mu := false } st fpc fpos hd fo mk lm li lo inn fr (wt - 1) none se) = false := by
    unfold M.hasFirstSet; show (_ && (K.c.getD 2 0 == 4)) = false; rw [beq_false_of_ne hfs, Bool.and_false]
  have hf' : M.hasFirstSet { code := K.c, text := K.t, lim := K.lim, start := st, lastStart := K.la, wholeText := K.wh, mustAdvance := false, pc := fpc, pos := fpos, handed := hd, outermost := fo, marks := mk, lastmark := lm, lastindex := li, loops := lo, inner := inn, frames := fr, weight := wt - 1, answer := none, seen := se, outcome := none } = false := hf
  simp only [nsFrame, ms, Bool.false_eq_true, if_false, hc, if_true, M.attemptFrom, Array.size_empty, Nat.add_zero, hf', Bool.not_false, M.attemptAt, M.attempt, Nat.sub_add_cancel h0, hc4, hmu]
theorem anchored_fail (hpc : 5 < K.c.size) (hop : ops[K.c.getD (5 + 0) 0]? = some .AT) (h1 : K.c.getD (5 + 1) 0 = 0) (hmu : K.mu = false) (hfs : K.c.getD 2 0 ≠ 4) (hwt : wt < 16777216) (h0 : 1 ≤ wt) :
    ∀ (d p : Nat) (st pc pos hd : Nat) (out fo : Bool) (lm li : Int) (se : Sre.Seen), K.la - p = d → p ≤ K.la → Goes (2 * d + 2) (ms K st pc pos hd out mk lm li lo inn [nsFrame 5 p fo] wt (some false) se) fun m => m.outcome = some .failed
  | 0, p, st, pc, pos, hd, out, fo, lm, li, se, hd', hp => by
    refine Goes.ex rfl (s_ns_end (Nat.not_lt.mpr (Nat.le_of_sub_eq_zero hd'))) fun se' => Goes.step rfl ?_
    rw [s_fin]
    exact .done rfl rfl
  | d + 1, p, st, pc, pos, hd, out, fo, lm, li, se, hd', hp => by
    have hlt : p < K.la := Nat.sub_pos_iff_lt.mp (hd' ▸ Nat.succ_pos d)
    exact Goes.mono (Goes.ex rfl (s_ns_next hlt hmu hfs hwt h0) fun se' => Goes.ex rfl (s_at_no hpc hop h1 (Nat.succ_ne_zero p)) fun se'' => anchored_fail hpc hop h1 hmu hfs hwt h0 d (p + 1) _ _ _ _ _ _ _ _ _ (by rw [Nat.sub_add_eq, hd', Nat.add_sub_cancel]) hlt) (Nat.le_refl (2 * d + 2 + 2))
end

/-- the signs of a list -/
theorem getD_list {l : List Nat} {p : Nat} : l.toArray.getD p 0 = l.getD p 0 := by simp [Array.getD_eq_getD_getElem?, List.getD_eq_getElem?_getD]
theorem cnt_eq {c : Array Nat} {i : Nat} {l : List Nat} : ∀ (n p : Nat), n = l.length - p → cnt c l.toArray i n p = ((l.drop p).takeWhile fun ch => acc c i ch == some true).length
  | 0, p, h => by rw [List.drop_eq_nil_of_le (Nat.le_of_sub_eq_zero h.symm)]; rfl
  | n + 1, p, h => by
    have hp : p < l.length := Nat.sub_pos_iff_lt.mp (h ▸ Nat.succ_pos n)
    unfold cnt
    rw [getD_list, List.drop_eq_getElem_cons hp, List.takeWhile_cons]
    have e : l.getD p 0 = l[p] := by rw [List.getD_eq_getElem?_getD, List.getElem?_eq_getElem hp]; rfl
    rw [e]
    by_cases ha : acc c i l[p] = some true
    · rw [if_pos ha, ha]
      simp only [beq_self_eq_true, if_true, List.length_cons]
      rw [cnt_eq n (p + 1) (by rw [Nat.sub_add_eq, ← h, Nat.add_sub_cancel])]
    · rw [if_neg ha]
      have : (acc c i l[p] == some true) = false := by simpa using ha
      rw [this]; rfl
theorem ok_list {c : Array Nat} {i : Nat} {l : List Nat} (h : ∀ ch, ch < 128 → (acc c i ch).isSome = true) (hl : ∀ ch ∈ l, ch < 128) : ∀ p k, k < l.length - p → (acc c i (l.toArray.getD (p + k) 0)).isSome = true := by
  intro p k hk
  rw [getD_list, List.getD_eq_getElem?_getD, List.getElem?_eq_getElem (Nat.lt_of_lt_of_le (Nat.add_lt_of_lt_sub' hk) (Nat.le_refl _))]
  exact h _ (hl _ (List.getElem_mem _))
/-- all of a, and then an end -/
theorem run_len {c : Array Nat} {i : Nat} {l a b : List Nat} {p : Nat} (hl : l.drop p = a ++ b) (ha : ∀ ch ∈ a, acc c i ch = some true) (hb : ∀ ch r, b = ch :: r → acc c i ch ≠ some true) : cnt c l.toArray i (l.length - p) p = a.length := by
  rw [cnt_eq _ _ rfl, hl]
  clear hl
  induction a with
  | nil =>
    cases b with
    | nil => rfl
    | cons ch r =>
      have := hb ch r rfl
      have h2 : (acc c i ch == some true) = false := by simpa using this
      simp only [List.nil_append, List.takeWhile_cons, h2]; rfl
  | cons x a ih =>
    simp only [List.cons_append, List.takeWhile_cons, ha x (.head _), beq_self_eq_true, if_true, List.length_cons]
    exact congrArg (· + 1) (ih fun ch h => ha ch (.tail _ h))

/-- a search begins -/
theorem forSearch_eq {c t : Array Nat} {g lim least : Nat} (hh : header c = (least, 5)) (hl : least ≤ lim) (hf : c.getD 2 0 = 0) :
    ∃ se, Sre.forSearch c t g 0 lim false = ms ⟨c, t, lim, if least > 1 then max 0 (lim - (least - 1)) else lim, false, false⟩ 0 5 0 0 true (Array.replicate (2 * g) none) (-1) (-1) #[] none [nsFrame 5 0 true] 1 none se := by
  refine ⟨({} : Sre.Seen).add 14, ?_⟩
  have hc : (decide (0 > lim) || decide (lim - 0 < least)) = false := by rw [show decide (0 > lim) = false from decide_eq_false (Nat.not_lt_zero _), show decide (lim - 0 < least) = false from decide_eq_false (Nat.not_lt.mpr hl)]; rfl
  have hfs : ∀ m : M, m.code = c → m.hasFirstSet = false := fun m e => by unfold M.hasFirstSet; rw [e, hf]; exact Bool.and_false _
  unfold Sre.forSearch
  simp only [hh, hc, Bool.false_eq_true, if_false]
  unfold M.attemptFrom
  rw [hfs _ rfl]
  simp only [Bool.not_false, if_true, M.attemptAt, M.attempt]
  show (if (0 : Nat) + 1 + 0 > 16777216 then _ else _) = _
  rw [if_neg (by decide)]
  unfold ms nsFrame
  congr 1
  · simp [hf]
  · show (header c).2 = 5; rw [hh]
  · show [({ wait := .nextStart, pc := (header c).2, pos := 0, outermost := true } : Sre.Frame)] = _; rw [hh]
  · show (if ((header c).2 == 0) = true then ({} : Sre.Seen) else ({} : Sre.Seen).add 14) = _; rw [hh]; rfl
/-! the codes -/
noncomputable def tokC : Array Nat := #[14, 4, 0, 1, 4294967295, 6, 0, 24, 9, 0, 4294967295, 13, 4, 8, 12, 0, 1, 17, 0, 24, 19, 1, 4294967295, 13, 14, 21, 9, 0, 671092736, 0, 0, 0, 0, 0, 0, 8, 12, 0, 1, 17, 1, 1]
noncomputable def sp (ch : Nat) : Bool := acc tokC 11 ch == some true
noncomputable def tk (ch : Nat) : Bool := acc tokC 23 ch == some true
theorem sp_of {ch : Nat} (h : acc tokC 11 ch = some true) : sp ch = true := by unfold sp; rw [h]; rfl
theorem tk_of {ch : Nat} (h : acc tokC 23 ch = some true) : tk ch = true := by unfold tk; rw [h]; rfl
theorem sp_ok : ∀ ch, ch < 128 → (acc tokC 11 ch).isSome = true := by decide +kernel
theorem tk_ok : ∀ ch, ch < 128 → (acc tokC 23 ch).isSome = true := by decide +kernel
theorem sp_tk : ∀ ch, ch < 128 → sp ch = true → tk ch = false := by decide +kernel

/-- what the search of a token does -/
theorem tok_yes {l ws key rest : List Nat} (hl : l = ws ++ key ++ rest) (h128 : ∀ ch ∈ l, ch < 128) (hlen : l.length ≤ 1000000) (hws : ∀ ch ∈ ws, sp ch = true) (hk0 : key ≠ []) (hk : ∀ ch ∈ key, tk ch = true) (hr : ∀ ch r, rest = ch :: r → tk ch = false) :
    Goes 20 (Sre.forSearch tokC l.toArray 1 0 l.length false) fun m => m.outcome = some .matched ∧ m.start = 0 ∧ m.handed = ws.length + key.length ∧ m.marks = #[some ws.length, some (ws.length + key.length)] ∧ m.lastmark = 1 := by
  have hlen2 : l.length = ws.length + key.length + rest.length := by rw [hl]; simp only [List.length_append]
  have hk1 : 0 < key.length := List.length_pos_iff.mpr hk0
  obtain ⟨se, e⟩ := forSearch_eq (c := tokC) (t := l.toArray) (g := 1) (lim := l.length) (least := 1) rfl (Nat.le_trans hk1 (by rw [hlen2]; exact Nat.le_trans (Nat.le_add_left ..) (Nat.le_add_right ..))) rfl
  rw [e]
  have h128' : ∀ ch ∈ l, ch < 128 := h128
  let K : Kf := ⟨tokC, l.toArray, l.length, l.length, false, false⟩
  show Goes 20 (ms K 0 5 0 0 true #[none, none] (-1) (-1) #[] none [nsFrame 5 0 true] 1 none se) _
  refine Goes.ex (B := 19) rfl (s_at (show 5 < tokC.size by decide) rfl rfl rfl) fun se => ?_
  refine Goes.ex (B := 18) rfl (s_run (n := ws.length) (show 7 < tokC.size by decide) rfl rfl rfl (Nat.le_trans hlen (by decide)) (Nat.zero_le _) (by decide) (fun k hk => ok_list sp_ok h128 0 k hk) ?_ (by show 0 ≤ ws.length; omega) (by show ws.length ≤ l.length - 0; omega)) fun se => ?_
  · exact (run_len (p := 0) (a := ws) (b := key ++ rest) (by rw [List.drop_zero, hl, List.append_assoc]) (fun ch h => eq_of_beq (hws ch h)) (fun ch r hb => by
      cases key with
      | nil => exact absurd rfl hk0
      | cons k0 key =>
        simp only [List.cons_append] at hb
        injection hb with hb1 hb2
        subst hb1
        intro hsp
        have := sp_tk k0 (h128 k0 (by rw [hl]; simp)) (sp_of hsp)
        rw [hk k0 (.head _)] at this; cases this)).symm
  rw [Nat.zero_add]
  refine Goes.ex (B := 17) rfl (s_mark0 (show 17 < tokC.size by decide) rfl rfl (by decide)) fun se => ?_
  refine Goes.ex (B := 16) rfl (s_run (n := key.length) (show 19 < tokC.size by decide) rfl rfl rfl (Nat.le_trans hlen (by decide)) (by show ws.length ≤ l.length; omega) (by decide) (fun k hk => ok_list tk_ok h128 _ k hk) ?_ (by show 1 ≤ key.length; omega) (by show key.length ≤ l.length - ws.length; omega)) fun se => ?_
  · exact (run_len (p := ws.length) (a := key) (b := rest) (by rw [hl, List.append_assoc, List.drop_left]) (fun ch h => eq_of_beq (hk ch h)) (fun ch r hb e => by have := hr ch r hb; rw [tk_of e] at this; cases this)).symm
  refine Goes.ex (B := 15) rfl (s_mark1 (show 39 < tokC.size by decide) rfl rfl (by decide)) fun se => ?_
  refine Goes.ex (B := 14) rfl (s_success (show 41 < tokC.size by decide) rfl rfl) fun se => ?_
  refine Goes.ex (B := 13) rfl (s_gb_yes (by decide)) fun se => ?_
  refine Goes.ex (B := 12) rfl (s_gb_yes (by decide)) fun se => ?_
  refine Goes.ex (B := 11) rfl s_ns_yes fun se => ?_
  refine Goes.step (B := 10) rfl ?_
  rw [s_fin]
  refine .done rfl ⟨rfl, rfl, rfl, ?_, rfl⟩
  rfl
end Mine
end

section
open PySem PySem.W PyProof.Rows PySem.Calls
set_option Elab.async false
set_option linter.unusedVariables false
namespace Mine
open PySem.Sre

theorem tok_back {l ws rest : List Nat} {mk : Array (Option Nat)} (hl : l = ws ++ rest) (h128 : ∀ ch ∈ l, ch < 128) (hlen : l.length ≤ 1000000) (hws : ∀ ch ∈ ws, sp ch = true) :
    ∀ (j : Nat) (pc pos hd : Nat) (out : Bool) (mk : Array (Option Nat)) (lm li : Int) (se : Sre.Seen), j ≤ ws.length →
      Goes (3 * j + 2 * l.length + 3) (ms ⟨tokC, l.toArray, l.length, l.length, false, false⟩ 0 pc pos hd out mk lm li #[] none [gbFrame 7 j true j (-1) (-1), nsFrame 5 0 true] 2 (some false) se) fun m => m.outcome = some .failed
  | 0, pc, pos, hd, out, mk, lm, li, se, h => by
    refine Goes.mono (Goes.ex (B := 2 * l.length + 2) rfl (s_gb_no0 (by show ((0 : Nat) : Int) - 1 < ((tokC.getD (7 + 2) 0 : Nat) : Int); decide)) fun se => ?_) (by omega)
    exact anchored_fail (show 5 < tokC.size by decide) rfl rfl rfl (by show tokC.getD 2 0 ≠ 4; decide) (by decide) (by decide) l.length 0 _ _ _ _ _ _ _ _ _ rfl (Nat.zero_le _)
  | j + 1, pc, pos, hd, out, mk, lm, li, se, h => by
    refine Goes.mono (Goes.ex (B := 3 * j + 2 * l.length + 3 + 2) rfl (s_gb_no (by show ¬ (((j + 1 : Nat) : Int) - 1 < ((tokC.getD (7 + 2) 0 : Nat) : Int)); rw [show tokC.getD (7 + 2) 0 = 0 from rfl]; omega) (by decide) (by decide)) fun se => ?_) (by omega)
    refine Goes.ex (B := 3 * j + 2 * l.length + 3 + 1) rfl (s_mark0 (show 17 < tokC.size by decide) rfl rfl (by decide)) fun se => ?_
    have hj : j < l.length := by rw [hl, List.length_append]; omega
    refine Goes.ex (B := 3 * j + 2 * l.length + 3) rfl (s_run_no (n := 0) (show 19 < tokC.size by decide) rfl rfl (Nat.le_trans hlen (by decide)) (by show j + 1 - 1 ≤ l.length; omega) (fun k hk => ok_list tk_ok h128 _ k hk) ?_ (show (0 : Nat) < 1 by decide)) fun se => ?_
    · refine (run_len (p := j + 1 - 1) (a := []) (b := l.drop j) rfl (fun ch h => nomatch h) fun ch r hb e => ?_).symm
      have hc : l[j] = ch := by have := List.drop_eq_getElem_cons hj; rw [hb] at this; injection this with h1 h2; exact h1.symm
      have hm : ch ∈ ws := by
        rw [← hc]
        have : l[j] = ws[j] := by simp only [hl]; exact List.getElem_append_left (by omega)
        rw [this]; exact List.getElem_mem _
      have := sp_tk ch (h128 ch (by rw [hl]; exact List.mem_append_left _ hm)) (hws ch hm)
      rw [tk_of e] at this; cases this
    · have e1 : (((j + 1 : Nat) : Int) - 1) = ((j : Nat) : Int) := by omega
      have e2 : j + 1 - 1 = j := rfl
      rw [e1, e2]
      exact tok_back (mk := mk) hl h128 hlen hws j _ _ _ _ _ _ _ _ (by omega)
theorem tok_no {l ws rest : List Nat} (hl : l = ws ++ rest) (hl0 : l ≠ []) (h128 : ∀ ch ∈ l, ch < 128) (hlen : l.length ≤ 1000000) (hws : ∀ ch ∈ ws, sp ch = true) (hr : ∀ ch r, rest = ch :: r → tk ch = false ∧ sp ch = false) :
    Goes (5 * l.length + 10) (Sre.forSearch tokC l.toArray 1 0 l.length false) fun m => m.outcome = some .failed := by
  have hlen2 : l.length = ws.length + rest.length := by rw [hl]; simp only [List.length_append]
  have hpos : 0 < l.length := List.length_pos_iff.mpr hl0
  obtain ⟨se, e⟩ := forSearch_eq (c := tokC) (t := l.toArray) (g := 1) (lim := l.length) (least := 1) rfl (by omega) rfl
  rw [e]
  let K : Kf := ⟨tokC, l.toArray, l.length, l.length, false, false⟩
  show Goes _ (ms K 0 5 0 0 true #[none, none] (-1) (-1) #[] none [nsFrame 5 0 true] 1 none se) _
  refine Goes.mono (Goes.ex (B := 3 * ws.length + 2 * l.length + 3 + 3) rfl (s_at (show 5 < tokC.size by decide) rfl rfl rfl) fun se => ?_) (by omega)
  refine Goes.ex (B := 3 * ws.length + 2 * l.length + 3 + 2) rfl (s_run (n := ws.length) (show 7 < tokC.size by decide) rfl rfl rfl (Nat.le_trans hlen (by decide)) (Nat.zero_le _) (by decide) (fun k hk => ok_list sp_ok h128 0 k hk) ?_ (by show 0 ≤ ws.length; omega) (by show ws.length ≤ l.length - 0; omega)) fun se => ?_
  · exact (run_len (p := 0) (a := ws) (b := rest) (by rw [List.drop_zero, hl]) (fun ch h => eq_of_beq (hws ch h)) (fun ch r hb e => by have := (hr ch r hb).2; rw [sp_of e] at this; cases this)).symm
  rw [Nat.zero_add]
  refine Goes.ex (B := 3 * ws.length + 2 * l.length + 3 + 1) rfl (s_mark0 (show 17 < tokC.size by decide) rfl rfl (by decide)) fun se => ?_
  refine Goes.ex (B := 3 * ws.length + 2 * l.length + 3) rfl (s_run_no (n := 0) (show 19 < tokC.size by decide) rfl rfl (Nat.le_trans hlen (by decide)) (by show ws.length ≤ l.length; omega) (fun k hk => ok_list tk_ok h128 _ k hk) ?_ (show (0 : Nat) < 1 by decide)) fun se => ?_
  · exact (run_len (p := ws.length) (a := []) (b := rest) (by rw [hl, List.drop_left]; rfl) (fun ch h => nomatch h) fun ch r hb e => by have := (hr ch r hb).1; rw [tk_of e] at this; cases this).symm
  exact tok_back (mk := #[]) hl h128 hlen hws ws.length _ _ _ _ _ _ _ _ (Nat.le_refl _)

/-! the plain value -/
noncomputable def valC : Array Nat := #[14, 4, 0, 1, 4294967295, 6, 0, 24, 9, 0, 4294967295, 13, 4, 8, 12, 0, 1, 16, 61, 24, 9, 0, 4294967295, 13, 4, 8, 12, 0, 1, 17, 0, 24, 14, 0, 4294967295, 13, 9, 21, 8, 12, 16, 59, 16, 44, 0, 1, 17, 1, 1]
noncomputable def vl (ch : Nat) : Bool := acc valC 35 ch == some true
theorem vl_of {ch : Nat} (h : acc valC 35 ch = some true) : vl ch = true := by unfold vl; rw [h]; rfl
theorem vsp1_ok : ∀ ch, ch < 128 → (acc valC 11 ch).isSome = true := by decide +kernel
theorem vsp2_ok : ∀ ch, ch < 128 → (acc valC 23 ch).isSome = true := by decide +kernel
theorem vl_ok : ∀ ch, ch < 128 → (acc valC 35 ch).isSome = true := by decide +kernel
theorem vl_nsp : ∀ ch, ch < 128 → vl ch = true → acc valC 23 ch ≠ some true := by decide +kernel
theorem eq_nsp : acc valC 11 61 ≠ some true := by decide +kernel
theorem val_yes {l v rest : List Nat} (hl : l = 61 :: (v ++ rest)) (h128 : ∀ ch ∈ l, ch < 128) (hlen : l.length ≤ 1000000) (hv0 : v ≠ []) (hv : ∀ ch ∈ v, vl ch = true) (hr : ∀ ch r, rest = ch :: r → vl ch = false) :
    Goes 30 (Sre.forSearch valC l.toArray 1 0 l.length false) fun m => m.outcome = some .matched ∧ m.start = 0 ∧ m.handed = 1 + v.length ∧ m.marks = #[some 1, some (1 + v.length)] ∧ m.lastmark = 1 := by
  have hlen2 : l.length = 1 + v.length + rest.length := by rw [hl]; simp only [List.length_cons, List.length_append]; omega
  have hd0 : l.toArray.getD 0 0 = 61 := by rw [getD_list, hl]; rfl
  obtain ⟨se, e⟩ := forSearch_eq (c := valC) (t := l.toArray) (g := 1) (lim := l.length) (least := 1) rfl (by omega) rfl
  rw [e]
  let K : Kf := ⟨valC, l.toArray, l.length, l.length, false, false⟩
  show Goes 30 (ms K 0 5 0 0 true #[none, none] (-1) (-1) #[] none [nsFrame 5 0 true] 1 none se) _
  refine Goes.ex (B := 29) rfl (s_at (show 5 < valC.size by decide) rfl rfl rfl) fun se => ?_
  refine Goes.ex (B := 28) rfl (s_run (n := 0) (show 7 < valC.size by decide) rfl rfl rfl (Nat.le_trans hlen (by decide)) (Nat.zero_le _) (by decide) (fun k hk => ok_list vsp1_ok h128 0 k hk) ?_ (show (0 : Nat) ≤ 0 by decide) (Nat.zero_le _)) fun se => ?_
  · exact (run_len (p := 0) (a := []) (b := l) rfl (fun ch h => nomatch h) (fun ch r hb e => by rw [hl] at hb; injection hb with h1 _; rw [← h1] at e; exact eq_nsp e)).symm
  refine Goes.ex (B := 27) rfl (s_lit (show 17 < valC.size by decide) rfl (by show 0 + 0 < l.length; omega) hd0) fun se => ?_
  refine Goes.ex (B := 26) rfl (s_run (n := 0) (show 19 < valC.size by decide) rfl rfl rfl (Nat.le_trans hlen (by decide)) (by show 1 ≤ l.length; omega) (by decide) (fun k hk => ok_list vsp2_ok h128 1 k hk) ?_ (show (0 : Nat) ≤ 0 by decide) (Nat.zero_le _)) fun se => ?_
  · exact (run_len (p := 1) (a := []) (b := v ++ rest) (by rw [hl]; rfl) (fun ch h => nomatch h) (fun ch r hb e => by
      cases v with
      | nil => exact hv0 rfl
      | cons v0 v =>
        injection hb with h1 _
        rw [← h1] at e
        exact vl_nsp v0 (h128 v0 (by rw [hl]; simp)) (hv v0 (.head _)) e)).symm
  refine Goes.ex (B := 25) rfl (s_mark0 (show 29 < valC.size by decide) rfl rfl (by decide)) fun se => ?_
  refine Goes.ex (B := 24) rfl (s_run (n := v.length) (show 31 < valC.size by decide) rfl rfl rfl (Nat.le_trans hlen (by decide)) (by show 1 ≤ l.length; omega) (by decide) (fun k hk => ok_list vl_ok h128 1 k hk) ?_ (Nat.zero_le _) (by show v.length ≤ l.length - 1; omega)) fun se => ?_
  · exact (run_len (p := 1) (a := v) (b := rest) (by rw [hl]; rfl) (fun ch h => eq_of_beq (hv ch h)) (fun ch r hb e => by have := hr ch r hb; rw [vl_of e] at this; cases this)).symm
  refine Goes.ex (B := 23) rfl (s_mark1 (show 46 < valC.size by decide) rfl rfl (by decide)) fun se => ?_
  refine Goes.ex (B := 22) rfl (s_success (show 48 < valC.size by decide) rfl rfl) fun se => ?_
  refine Goes.ex (B := 21) rfl (s_gb_yes (by decide)) fun se => ?_
  refine Goes.ex (B := 20) rfl (s_gb_yes (by decide)) fun se => ?_
  refine Goes.ex (B := 19) rfl (s_gb_yes (by decide)) fun se => ?_
  refine Goes.ex (B := 18) rfl s_ns_yes fun se => ?_
  refine Goes.step (B := 17) rfl ?_
  rw [s_fin]
  exact .done rfl ⟨rfl, rfl, rfl, rfl, rfl⟩
end Mine
end

section
open PySem PySem.W PyProof.Rows PySem.Calls
set_option Elab.async false
set_option linter.unusedVariables false
namespace Mine
open PySem.Sre

noncomputable def quoC : Array Nat := #[14, 4, 0, 3, 4294967295, 6, 0, 24, 9, 0, 4294967295, 13, 4, 8, 12, 0, 1, 16, 61, 24, 9, 0, 4294967295, 13, 4, 8, 12, 0, 1, 16, 34, 17, 0, 24, 12, 0, 4294967295, 13, 7, 21, 16, 34, 16, 92, 0, 1, 23, 19, 0, 4294967295, 16, 92, 2, 24, 12, 0, 4294967295, 13, 7, 21, 16, 34, 16, 92, 0, 1, 18, 17, 1, 16, 34, 1]
noncomputable def nq (ch : Nat) : Bool := acc quoC 37 ch == some true
theorem nq_of {ch : Nat} (h : acc quoC 37 ch = some true) : nq ch = true := by unfold nq; rw [h]; rfl
theorem qsp1_ok : ∀ ch, ch < 128 → (acc quoC 11 ch).isSome = true := by decide +kernel
theorem qsp2_ok : ∀ ch, ch < 128 → (acc quoC 23 ch).isSome = true := by decide +kernel
theorem nq_ok : ∀ ch, ch < 128 → (acc quoC 37 ch).isSome = true := by decide +kernel
theorem q_nsp1 : acc quoC 11 61 ≠ some true := by decide +kernel
theorem q_nsp2 : acc quoC 23 34 ≠ some true := by decide +kernel
theorem q_nnq : acc quoC 37 34 ≠ some true := by decide +kernel
noncomputable def qsp (ch : Nat) : Bool := acc quoC 23 ch == some true

noncomputable def clFrame (pc pos : Nat) (out : Bool) : Sre.Frame := { wait := .closeLoop, pc := pc, pos := pos, outermost := out, loop := 0 }
noncomputable def mmFrame (pc pos : Nat) (out : Bool) (k : Sre.Kept) : Sre.Frame := { wait := .maxMore, pc := pc, pos := pos, outermost := out, loop := 0, count := 0, kept := k, began := none }
noncomputable def mtFrame (pc pos : Nat) (out : Bool) (k : Sre.Kept) : Sre.Frame := { wait := .maxTail, pc := pc, pos := pos, outermost := out, loop := 0, count := 0, kept := k }

section
variable {K : Kf} {st pos hd : Nat} {out : Bool} {li : Int} {fr : List Sre.Frame} {se : Sre.Seen} {a b : Option Nat}
theorem q_repeat (hK : K.c = quoC) : ∃ se', (ms K st 46 pos hd out #[a, b] 0 li #[] none fr 4 none se).step = ms K st 66 pos pos out #[a, b] 0 li #[{ pc := 46, outer := none }] (some 0) (clFrame 46 pos out :: fr) 5 none se' := by
  obtain ⟨c, t, lim, la, wh, mu⟩ := K
  cases hK
  rw [s_exec (show 46 < quoC.size by decide)]
  exact ⟨se.add 23, by kernel_rfl⟩
theorem q_until (hK : K.c = quoC) : ∃ se', (ms K st 66 pos hd out #[a, b] 0 li #[{ pc := 46, outer := none }] (some 0) fr 5 none se).step =
    ms K st 50 pos pos out #[a, b] 0 li #[{ pc := 46, count := 0, began := some pos, outer := none }] (some 0) (mmFrame 67 pos out { lastmark := 0, lastindex := li, whole := true, marks := #[a] } :: fr) 7 none se' := by
  obtain ⟨c, t, lim, la, wh, mu⟩ := K
  cases hK
  rw [s_exec (show 66 < quoC.size by decide)]
  exact ⟨se.add 18, by kernel_rfl⟩
theorem q_more_no (hK : K.c = quoC) {pc' pos' : Nat} {lm' li' : Int} : ∃ se', (ms K st pc' pos' hd out #[a, b] lm' li' #[{ pc := 46, count := 0, began := some pos, outer := none }] (some 0) (mmFrame 67 pos out { lastmark := 0, lastindex := li, whole := true, marks := #[a] } :: fr) 7 (some false) se).step =
    ms K st 67 pos pos out #[a, b] 0 li #[{ pc := 46, count := -1, began := none, outer := none }] none (mtFrame 67 pos out { lastmark := 0, lastindex := li, whole := false, marks := #[] } :: fr) 6 none se' := by
  obtain ⟨c, t, lim, la, wh, mu⟩ := K
  cases hK
  rw [s_pop]
  exact ⟨se, rfl⟩
theorem q_tail_yes {pc' pos' : Nat} {mk : Array (Option Nat)} {lm li' : Int} {lo : Array Loop} {k : Sre.Kept} (hk : k.marks = #[]) : ∃ se', (ms K st pc' pos' hd out mk lm li' lo none (mtFrame 67 pos out k :: fr) 6 (some true) se).step = ms K st 67 pos hd out mk lm li' lo (some 0) fr 5 (some true) se' := by
  obtain ⟨k1, k2, k3, k4⟩ := k
  cases hk
  rw [s_pop]
  exact ⟨se, rfl⟩
theorem q_close_yes {pc' pos' : Nat} {mk : Array (Option Nat)} {lm li' : Int} : ∃ se', (ms K st pc' pos' hd out mk lm li' #[{ pc := 46, count := -1, began := none, outer := none }] (some 0) (clFrame 46 pos out :: fr) 5 (some true) se).step = ms K st 46 pos hd out mk lm li' #[] none fr 4 (some true) se' := by
  rw [s_pop]
  exact ⟨se, rfl⟩
end

theorem quo_yes {l body rest : List Nat} (hl : l = 61 :: 34 :: (body ++ 34 :: rest)) (h128 : ∀ ch ∈ l, ch < 128) (hlen : l.length ≤ 1000000) (hv : ∀ ch ∈ body, nq ch = true) :
    Goes 40 (Sre.forSearch quoC l.toArray 1 0 l.length false) fun m => m.outcome = some .matched ∧ m.start = 0 ∧ m.handed = 2 + body.length + 1 ∧ m.marks = #[some 2, some (2 + body.length)] ∧ m.lastmark = 1 := by
  have hlen2 : l.length = 3 + body.length + rest.length := by rw [hl]; simp only [List.length_cons, List.length_append]; omega
  have hd0 : l.toArray.getD 0 0 = 61 := by rw [getD_list, hl]; rfl
  have hd1 : l.toArray.getD 1 0 = 34 := by rw [getD_list, hl]; rfl
  have hd2 : l.toArray.getD (2 + body.length) 0 = 34 := by
    rw [getD_list, hl, List.getD_eq_getElem?_getD]
    rw [show 2 + body.length = body.length + 1 + 1 by omega, List.getElem?_cons_succ, List.getElem?_cons_succ, List.getElem?_append_right (Nat.le_refl _), Nat.sub_self]; rfl
  obtain ⟨se, e⟩ := forSearch_eq (c := quoC) (t := l.toArray) (g := 1) (lim := l.length) (least := 3) rfl (by omega) rfl
  rw [e]
  let K : Kf := ⟨quoC, l.toArray, l.length, max 0 (l.length - 2), false, false⟩
  show Goes 40 (ms K 0 5 0 0 true #[none, none] (-1) (-1) #[] none [nsFrame 5 0 true] 1 none se) _
  refine Goes.ex (B := 39) rfl (s_at (show 5 < quoC.size by decide) rfl rfl rfl) fun se => ?_
  refine Goes.ex (B := 38) rfl (s_run (n := 0) (show 7 < quoC.size by decide) rfl rfl rfl (Nat.le_trans hlen (by decide)) (Nat.zero_le _) (by decide) (fun k hk => ok_list qsp1_ok h128 0 k hk) ?_ (show (0 : Nat) ≤ 0 by decide) (Nat.zero_le _)) fun se => ?_
  · exact (run_len (p := 0) (a := []) (b := l) rfl (fun ch h => nomatch h) (fun ch r hb e => by rw [hl] at hb; injection hb with h1 _; rw [← h1] at e; exact q_nsp1 e)).symm
  refine Goes.ex (B := 37) rfl (s_lit (show 17 < quoC.size by decide) rfl (by show 0 + 0 < l.length; omega) hd0) fun se => ?_
  refine Goes.ex (B := 36) rfl (s_run (n := 0) (show 19 < quoC.size by decide) rfl rfl rfl (Nat.le_trans hlen (by decide)) (by show 1 ≤ l.length; omega) (by decide) (fun k hk => ok_list qsp2_ok h128 1 k hk) ?_ (show (0 : Nat) ≤ 0 by decide) (Nat.zero_le _)) fun se => ?_
  · exact (run_len (p := 1) (a := []) (b := 34 :: (body ++ 34 :: rest)) (by rw [hl]; rfl) (fun ch h => nomatch h) (fun ch r hb e => by injection hb with h1 _; rw [← h1] at e; exact q_nsp2 e)).symm
  refine Goes.ex (B := 35) rfl (s_lit (show 29 < quoC.size by decide) rfl (by show 1 < l.length; omega) hd1) fun se => ?_
  refine Goes.ex (B := 34) rfl (s_mark0 (show 31 < quoC.size by decide) rfl rfl (by decide)) fun se => ?_
  refine Goes.ex (B := 33) rfl (s_run (n := body.length) (show 33 < quoC.size by decide) rfl rfl rfl (Nat.le_trans hlen (by decide)) (by show 2 ≤ l.length; omega) (by decide) (fun k hk => ok_list nq_ok h128 2 k hk) ?_ (Nat.zero_le _) (by show body.length ≤ l.length - 2; omega)) fun se => ?_
  · exact (run_len (p := 2) (a := body) (b := 34 :: rest) (by rw [hl]; rfl) (fun ch h => eq_of_beq (hv ch h)) (fun ch r hb e => by injection hb with h1 _; rw [← h1] at e; exact q_nnq e)).symm
  refine Goes.ex (B := 32) rfl (q_repeat (K := K) (a := some 2) (b := none) rfl) fun se => ?_
  refine Goes.ex (B := 31) rfl (q_until (K := K) rfl) fun se => ?_
  refine Goes.ex (B := 30) rfl (s_lit_no (K := K) (show 50 < quoC.size by decide) rfl (.inr (by show l.toArray.getD (2 + body.length) 0 ≠ 92; rw [hd2]; decide))) fun se => ?_
  refine Goes.ex (B := 29) rfl (q_more_no (K := K) rfl) fun se => ?_
  refine Goes.ex (B := 28) rfl (s_mark1 (show 67 < quoC.size by decide) rfl rfl (by decide)) fun se => ?_
  refine Goes.ex (B := 27) rfl (s_lit (show 69 < quoC.size by decide) rfl (by show 2 + body.length < l.length; omega) hd2) fun se => ?_
  refine Goes.ex (B := 26) rfl (s_success (show 71 < quoC.size by decide) rfl rfl) fun se => ?_
  refine Goes.ex (B := 25) rfl (q_tail_yes rfl) fun se => ?_
  refine Goes.ex (B := 24) rfl q_close_yes fun se => ?_
  refine Goes.ex (B := 23) rfl (s_gb_yes (by decide)) fun se => ?_
  refine Goes.ex (B := 22) rfl (s_gb_yes (by decide)) fun se => ?_
  refine Goes.ex (B := 21) rfl (s_gb_yes (by decide)) fun se => ?_
  refine Goes.ex (B := 20) rfl s_ns_yes fun se => ?_
  refine Goes.step (B := 19) rfl ?_
  rw [s_fin]
  exact .done rfl ⟨rfl, rfl, rfl, rfl, rfl⟩

/-- too short a text -/
theorem forSearch_short {c t : Array Nat} {g lim least body : Nat} (hh : header c = (least, body)) (hl : lim < least) : Goes 1 (Sre.forSearch c t g 0 lim false) fun m => m.outcome = some .failed := by
  have hc : (decide (0 > lim) || decide (lim - 0 < least)) = true := by rw [show decide (lim - 0 < least) = true from decide_eq_true hl, Bool.or_true]
  unfold Sre.forSearch
  simp only [hh, hc, if_true]
  refine Goes.step rfl ?_
  exact .done rfl rfl

theorem q_bound (a : Nat) : 2 * (a - 2) + 2 + 6 + 1 ≤ 2 * a + 20 :=
  Nat.le_trans (Nat.add_le_add_right (Nat.mul_le_mul_left 2 (Nat.sub_le a 2)) 9) (Nat.add_le_add_left (by decide) _)
theorem quo_no {l rest : List Nat} {ch : Nat} (hl : l = 61 :: ch :: rest) (h128 : ∀ ch ∈ l, ch < 128) (hlen : l.length ≤ 1000000) (hch : ch ≠ 34) (hsp : qsp ch = false) :
    Goes (2 * l.length + 20) (Sre.forSearch quoC l.toArray 1 0 l.length false) fun m => m.outcome = some .failed := by
  have hlen2 : l.length = 2 + rest.length := by rw [hl]; simp only [List.length_cons]; omega
  by_cases h3 : l.length < 3
  · exact (forSearch_short (c := quoC) (body := 5) rfl h3).mono (by omega)
  have hd0 : l.toArray.getD 0 0 = 61 := by rw [getD_list, hl]; rfl
  have hd1 : l.toArray.getD 1 0 = ch := by rw [getD_list, hl]; rfl
  obtain ⟨se, e⟩ := forSearch_eq (c := quoC) (t := l.toArray) (g := 1) (lim := l.length) (least := 3) rfl (by omega) rfl
  rw [e]
  let K : Kf := ⟨quoC, l.toArray, l.length, max 0 (l.length - 2), false, false⟩
  show Goes _ (ms K 0 5 0 0 true #[none, none] (-1) (-1) #[] none [nsFrame 5 0 true] 1 none se) _
  refine Goes.mono (Goes.ex (B := 2 * (l.length - 2) + 2 + 6) rfl (s_at (show 5 < quoC.size by decide) rfl rfl rfl) fun se => ?_) (q_bound l.length)
  refine Goes.ex (B := 2 * (l.length - 2) + 2 + 5) rfl (s_run (n := 0) (show 7 < quoC.size by decide) rfl rfl rfl (Nat.le_trans hlen (by decide)) (Nat.zero_le _) (by decide) (fun k hk => ok_list qsp1_ok h128 0 k hk) ?_ (show (0 : Nat) ≤ 0 by decide) (Nat.zero_le _)) fun se => ?_
  · exact (run_len (p := 0) (a := []) (b := l) rfl (fun ch h => nomatch h) (fun ch r hb e => by rw [hl] at hb; injection hb with h1 _; rw [← h1] at e; exact q_nsp1 e)).symm
  refine Goes.ex (B := 2 * (l.length - 2) + 2 + 4) rfl (s_lit (show 17 < quoC.size by decide) rfl (by show 0 + 0 < l.length; omega) hd0) fun se => ?_
  refine Goes.ex (B := 2 * (l.length - 2) + 2 + 3) rfl (s_run (n := 0) (show 19 < quoC.size by decide) rfl rfl rfl (Nat.le_trans hlen (by decide)) (by show 1 ≤ l.length; omega) (by decide) (fun k hk => ok_list qsp2_ok h128 1 k hk) ?_ (show (0 : Nat) ≤ 0 by decide) (Nat.zero_le _)) fun se => ?_
  · exact (run_len (p := 1) (a := []) (b := ch :: rest) (by rw [hl]; rfl) (fun ch h => nomatch h) (fun ch' r hb e => by injection hb with h1 _; rw [← h1] at e; unfold qsp at hsp; rw [show acc quoC 23 ch = some true from e] at hsp; cases hsp)).symm
  refine Goes.ex (B := 2 * (l.length - 2) + 2 + 2) rfl (s_lit_no (K := K) (show 29 < quoC.size by decide) rfl (.inr (by show l.toArray.getD 1 0 ≠ 34; rw [hd1]; exact hch))) fun se => ?_
  refine Goes.ex (B := 2 * (l.length - 2) + 2 + 1) rfl (s_gb_no0 (by show ((0 : Nat) : Int) - 1 < ((quoC.getD (19 + 2) 0 : Nat) : Int); decide)) fun se => ?_
  refine Goes.ex (B := 2 * (l.length - 2) + 2) rfl (s_gb_no0 (by show ((0 : Nat) : Int) - 1 < ((quoC.getD (7 + 2) 0 : Nat) : Int); decide)) fun se => ?_
  exact anchored_fail (show 5 < quoC.size by decide) rfl rfl rfl (by show quoC.getD 2 0 ≠ 4; decide) (by decide) (by decide) (l.length - 2) 0 _ _ _ _ _ _ _ _ _ (by show max 0 (l.length - 2) - 0 = l.length - 2; rw [Nat.zero_max, Nat.sub_zero]) (Nat.zero_le _)
end Mine
end

section
open PySem PySem.W PyProof.Rows PySem.Calls
set_option Elab.async false
set_option linter.unusedVariables false
namespace Mine
open PySem.Sre

/-! the junk -/
noncomputable def junC : Array Nat := #[14, 4, 0, 0, 4294967295, 6, 0, 24, 13, 0, 4294967295, 13, 8, 16, 61, 8, 12, 16, 59, 0, 1, 1]
noncomputable def jk (ch : Nat) : Bool := acc junC 11 ch == some true
theorem jk_of {ch : Nat} (h : acc junC 11 ch = some true) : jk ch = true := by unfold jk; rw [h]; rfl
theorem jk_ok : ∀ ch, ch < 128 → (acc junC 11 ch).isSome = true := by decide +kernel
theorem jun_yes {l j rest : List Nat} (hl : l = j ++ rest) (h128 : ∀ ch ∈ l, ch < 128) (hlen : l.length ≤ 1000000) (hj : ∀ ch ∈ j, jk ch = true) (hr : ∀ ch r, rest = ch :: r → jk ch = false) :
    Goes 10 (Sre.forSearch junC l.toArray 0 0 l.length false) fun m => m.outcome = some .matched ∧ m.start = 0 ∧ m.handed = j.length := by
  have hlen2 : l.length = j.length + rest.length := by rw [hl]; simp only [List.length_append]
  obtain ⟨se, e⟩ := forSearch_eq (c := junC) (t := l.toArray) (g := 0) (lim := l.length) (least := 0) rfl (by omega) rfl
  rw [e]
  let K : Kf := ⟨junC, l.toArray, l.length, l.length, false, false⟩
  show Goes 10 (ms K 0 5 0 0 true #[] (-1) (-1) #[] none [nsFrame 5 0 true] 1 none se) _
  refine Goes.ex (B := 9) rfl (s_at (show 5 < junC.size by decide) rfl rfl rfl) fun se => ?_
  refine Goes.ex (B := 8) rfl (s_run (n := j.length) (show 7 < junC.size by decide) rfl rfl rfl (Nat.le_trans hlen (by decide)) (Nat.zero_le _) (by decide) (fun k hk => ok_list jk_ok h128 0 k hk) ?_ (Nat.zero_le _) (by show j.length ≤ l.length - 0; omega)) fun se => ?_
  · exact (run_len (p := 0) (a := j) (b := rest) (by rw [List.drop_zero, hl]) (fun ch h => eq_of_beq (hj ch h)) (fun ch r hb e => by have := hr ch r hb; rw [jk_of e] at this; cases this)).symm
  rw [Nat.zero_add]
  refine Goes.ex (B := 7) rfl (s_success (show 21 < junC.size by decide) rfl rfl) fun se => ?_
  refine Goes.ex (B := 6) rfl (s_gb_yes (by decide)) fun se => ?_
  refine Goes.ex (B := 5) rfl s_ns_yes fun se => ?_
  refine Goes.step (B := 4) rfl ?_
  rw [s_fin]
  exact .done rfl ⟨rfl, rfl, rfl⟩

theorem forSearch_eqp {c t : Array Nat} {g lim least body p : Nat} (hh : header c = (least, body)) (hp : p ≤ lim) (hl : least ≤ lim - p) (hf : c.getD 2 0 ≠ 4) (hla : (decide (least > 1) && !(body != 0 && c.getD 2 0 &&& 5 != 0)) = false) (hb : (body == 0) = false) :
    ∃ se, Sre.forSearch c t g p lim false = ms ⟨c, t, lim, lim, false, false⟩ p body p p true (Array.replicate (2 * g) none) (-1) (-1) #[] none [nsFrame body p true] 1 none se := by
  refine ⟨({} : Sre.Seen).add 14, ?_⟩
  have hc : (decide (p > lim) || decide (lim - p < least)) = false := by rw [decide_eq_false (Nat.not_lt.mpr hp), decide_eq_false (Nat.not_lt.mpr hl)]; rfl
  have hfs : ∀ m : M, m.code = c → m.hasFirstSet = false := fun m e => by unfold M.hasFirstSet; rw [e, beq_false_of_ne hf]; exact Bool.and_false _
  unfold Sre.forSearch
  simp only [hh, hc, hla, Bool.false_eq_true, if_false]
  unfold M.attemptFrom
  rw [hfs _ rfl]
  simp only [Bool.not_false, if_true, M.attemptAt, M.attempt]
  show (if (0 : Nat) + 1 + 0 > 16777216 then _ else _) = _
  rw [if_neg (by decide)]
  unfold ms nsFrame
  congr 1
  · show (header c).2 = body; rw [hh]
  · show [({ wait := .nextStart, pc := (header c).2, pos := p, outermost := true } : Sre.Frame)] = _; rw [hh]
  · show (if ((header c).2 == 0) = true then ({} : Sre.Seen) else ({} : Sre.Seen).add 14) = _; rw [hh]; simp only [hb]; rfl
theorem jun_later {l : List Nat} {p : Nat} (hp : p ≤ l.length) (h0 : 0 < p) : Goes (2 * l.length + 10) (Sre.forSearch junC l.toArray 0 p l.length false) fun m => m.outcome = some .failed := by
  obtain ⟨se, e⟩ := forSearch_eqp (c := junC) (t := l.toArray) (g := 0) (lim := l.length) (least := 0) (body := 5) (p := p) rfl hp (Nat.zero_le _) (by decide) rfl rfl
  rw [e]
  refine Goes.mono (Goes.ex (B := 2 * (l.length - p) + 2) rfl (s_at_no (show 5 < junC.size by decide) rfl rfl (Nat.ne_of_gt h0)) fun se => ?_) (Nat.le_trans (Nat.add_le_add_right (Nat.mul_le_mul_left 2 (Nat.sub_le ..)) 3) (Nat.add_le_add_left (by decide) _))
  exact anchored_fail (show 5 < junC.size by decide) rfl rfl rfl (by show junC.getD 2 0 ≠ 4; decide) (by decide) (by decide) (l.length - p) p _ _ _ _ _ _ _ _ _ rfl hp

/-! the escapes that a value has none of -/
noncomputable def escC : Array Nat := #[14, 8, 1, 2, 2, 1, 1, 92, 0, 16, 92, 17, 0, 2, 17, 1, 1]
theorem esc_fail {l : List Nat} (hno : ∀ ch ∈ l, ch ≠ 92) : ∀ (d p : Nat) (st pc pos hd : Nat) (out fo : Bool) (mk : Array (Option Nat)) (lm li : Int) (se : Sre.Seen), l.length - p = d → p ≤ l.length →
    Goes (2 * d + 2) (ms ⟨escC, l.toArray, l.length, l.length, false, false⟩ st pc pos hd out mk lm li #[] none [nsFrame 9 p fo] 1 (some false) se) fun m => m.outcome = some .failed
  | 0, p, st, pc, pos, hd, out, fo, mk, lm, li, se, hd', hp => by
    refine Goes.ex rfl (s_ns_end (Nat.not_lt.mpr (Nat.le_of_sub_eq_zero hd'))) fun se' => Goes.step rfl ?_
    rw [s_fin]
    exact .done rfl rfl
  | d + 1, p, st, pc, pos, hd, out, fo, mk, lm, li, se, hd', hp => by
    refine Goes.mono (Goes.ex (B := 2 * d + 2 + 1) rfl (s_ns_next (Nat.sub_pos_iff_lt.mp (hd' ▸ Nat.succ_pos d)) rfl (by show escC.getD 2 0 ≠ 4; decide) (by decide) (by decide)) fun se' => Goes.ex (B := 2 * d + 2) rfl (s_lit_no (show 9 < escC.size by decide) rfl ?_) fun se'' => esc_fail hno d (p + 1) _ _ _ _ _ _ _ _ _ _ (by rw [Nat.sub_add_eq, hd', Nat.add_sub_cancel]) (Nat.sub_pos_iff_lt.mp (hd' ▸ Nat.succ_pos d))) (Nat.le_refl (2 * d + 2 + 2))
    by_cases hx : p + 1 < l.length
    · refine .inr ?_
      show l.toArray.getD (p + 1) 0 ≠ 92
      rw [getD_list, List.getD_eq_getElem?_getD, List.getElem?_eq_getElem hx]
      exact hno _ (List.getElem_mem _)
    · exact .inl hx
theorem esc_no {l : List Nat} (hno : ∀ ch ∈ l, ch ≠ 92) : Goes (2 * l.length + 10) (Sre.forSearch escC l.toArray 1 0 l.length false) fun m => m.outcome = some .failed := by
  by_cases h2 : l.length < 2
  · exact (forSearch_short (c := escC) (body := 9) rfl h2).mono (by omega)
  obtain ⟨se, e⟩ := forSearch_eqp (c := escC) (t := l.toArray) (g := 1) (lim := l.length) (least := 2) (body := 9) (p := 0) rfl (Nat.zero_le _) (by omega) (by decide) rfl rfl
  rw [e]
  refine Goes.mono (Goes.ex (B := 2 * l.length + 2) rfl (s_lit_no (show 9 < escC.size by decide) rfl (.inr ?_)) fun se => ?_) (by omega)
  · show l.toArray.getD 0 0 ≠ 92
    rw [getD_list, List.getD_eq_getElem?_getD, List.getElem?_eq_getElem (by omega)]
    exact hno _ (List.getElem_mem _)
  · exact esc_fail hno l.length 0 _ _ _ _ _ _ _ _ _ _ rfl (Nat.zero_le _)

/-! whole tokens -/
noncomputable def jtC : Array Nat := #[14, 4, 0, 1, 4294967295, 24, 16, 1, 4294967295, 13, 11, 9, 0, 67071226, 3355443198, 1476395007, 0, 0, 0, 0, 0, 1, 1]
noncomputable def jt (ch : Nat) : Bool := acc jtC 9 ch == some true
theorem jt_of {ch : Nat} (h : acc jtC 9 ch = some true) : jt ch = true := by unfold jt; rw [h]; rfl
theorem jt_ok : ∀ ch, ch < 128 → (acc jtC 9 ch).isSome = true := by decide +kernel
theorem forMatch_eq {t : Array Nat} {lim : Nat} (hl : 1 ≤ lim) :
    ∃ se, Sre.forMatch jtC t 0 0 lim true false = ms ⟨jtC, t, lim, 0, true, false⟩ 0 5 0 0 true #[] (-1) (-1) #[] none [] 0 none se := by
  refine ⟨({} : Sre.Seen).add 14, ?_⟩
  have hc : ((header jtC).1 != 0 && decide (0 ≤ lim) && decide (lim - 0 < (header jtC).1)) = false := by
    rw [show header jtC = (1, 5) from rfl]; simp; omega
  unfold Sre.forMatch
  simp only [hc, Bool.false_eq_true, if_false]
  rfl
theorem jt_yes {l : List Nat} (h0 : l ≠ []) (h128 : ∀ ch ∈ l, ch < 128) (hlen : l.length ≤ 1000000) (hl : ∀ ch ∈ l, jt ch = true) :
    Goes 10 (Sre.forMatch jtC l.toArray 0 0 l.length true false) fun m => m.outcome = some .matched ∧ m.start = 0 ∧ m.handed = l.length := by
  have hpos : 0 < l.length := List.length_pos_iff.mpr h0
  obtain ⟨se, e⟩ := forMatch_eq (t := l.toArray) (lim := l.length) hpos
  rw [e]
  let K : Kf := ⟨jtC, l.toArray, l.length, 0, true, false⟩
  show Goes 10 (ms K 0 5 0 0 true #[] (-1) (-1) #[] none [] 0 none se) _
  refine Goes.ex (B := 9) rfl (s_run (n := l.length) (show 5 < jtC.size by decide) rfl rfl rfl (Nat.le_trans hlen (by decide)) (Nat.zero_le _) (by decide) (fun k hk => ok_list jt_ok h128 0 k hk) ?_ (by show 1 ≤ l.length; omega) (by show l.length ≤ l.length - 0; omega)) fun se => ?_
  · exact (run_len (p := 0) (a := l) (b := []) (by rw [List.drop_zero, List.append_nil]) (fun ch h => eq_of_beq (hl ch h)) (fun ch r hb e => nomatch hb)).symm
  rw [Nat.zero_add]
  refine Goes.ex (B := 8) rfl (s_success (show 22 < jtC.size by decide) rfl (by show (true && ((true && l.length != l.length) || (false && l.length == 0))) = false; simp)) fun se => ?_
  refine Goes.ex (B := 7) rfl (s_gb_yes (by decide)) fun se => ?_
  refine Goes.step (B := 6) rfl ?_
  rw [s_fin]
  exact .done rfl ⟨rfl, rfl, rfl⟩
theorem s_success_no {K : Kf} {st pc pos hd : Nat} {out : Bool} {mk : Array (Option Nat)} {lm li : Int} {lo : Array Loop} {inn : Option Nat} {fr : List Sre.Frame} {wt : Nat} {se : Sre.Seen} (hpc : pc < K.c.size) (hop : ops[K.c.getD (pc + 0) 0]? = some .SUCCESS) (hw : (out && ((K.wh && pos != K.lim) || (K.mu && pos == st))) = true) :
    ∃ se', (ms K st pc pos hd out mk lm li lo inn fr wt none se).step = ms K st pc pos hd out mk lm li lo inn fr wt (some false) se' := by
  rw [s_exec hpc]
  refine ⟨se.add (K.c.getD (pc + 0) 0), ?_⟩
  unfold M.exec
  simp only [M.word, ms, hop, hw]
  rfl
/-- at most one sign ahead of one that is none -/
theorem jt_no {l a r : List Nat} {ch : Nat} (hl : l = a ++ ch :: r) (ha1 : a.length ≤ 1) (h128 : ∀ ch ∈ l, ch < 128) (hlen : l.length ≤ 1000000) (ha : ∀ ch ∈ a, jt ch = true) (hch : jt ch = false) :
    Goes 10 (Sre.forMatch jtC l.toArray 0 0 l.length true false) fun m => m.outcome = some .failed := by
  have hlen2 : l.length = a.length + 1 + r.length := by rw [hl]; simp only [List.length_append, List.length_cons]; omega
  obtain ⟨se, e⟩ := forMatch_eq (t := l.toArray) (lim := l.length) (by omega)
  rw [e]
  let K : Kf := ⟨jtC, l.toArray, l.length, 0, true, false⟩
  show Goes 10 (ms K 0 5 0 0 true #[] (-1) (-1) #[] none [] 0 none se) _
  have hcnt : a.length = cnt K.c K.t (5 + 4) (K.lim - 0) 0 := (run_len (p := 0) (a := a) (b := ch :: r) (by rw [List.drop_zero, hl]) (fun ch h => eq_of_beq (ha ch h)) (fun ch' r' hb e => by injection hb with h1 _; rw [← h1] at e; rw [jt_of e] at hch; cases hch)).symm
  by_cases h0 : a.length = 0
  · refine Goes.ex (B := 9) rfl (s_run_no (n := a.length) (show 5 < jtC.size by decide) rfl rfl (Nat.le_trans hlen (by decide)) (Nat.zero_le _) (fun k hk => ok_list jt_ok h128 0 k hk) hcnt (by show a.length < 1; omega)) fun se => ?_
    refine Goes.step (B := 8) rfl ?_
    rw [s_fin]
    exact .done rfl rfl
  · refine Goes.ex (B := 9) rfl (s_run (n := a.length) (show 5 < jtC.size by decide) rfl rfl rfl (Nat.le_trans hlen (by decide)) (Nat.zero_le _) (by decide) (fun k hk => ok_list jt_ok h128 0 k hk) hcnt (by show 1 ≤ a.length; omega) (by show a.length ≤ l.length - 0; omega)) fun se => ?_
    rw [Nat.zero_add]
    refine Goes.ex (B := 8) rfl (s_success_no (show 22 < jtC.size by decide) rfl (by show (true && ((true && a.length != l.length) || (false && a.length == 0))) = true; simp; omega)) fun se => ?_
    refine Goes.ex (B := 7) rfl (s_gb_no0 (by show (a.length : Int) - 1 < ((jtC.getD (5 + 2) 0 : Nat) : Int); rw [show jtC.getD (5 + 2) 0 = 1 from rfl]; omega)) fun se => ?_
    refine Goes.step (B := 6) rfl ?_
    rw [s_fin]
    exact .done rfl rfl

/-! marks and backslashes that a value has none of -/
noncomputable def jeC : Array Nat := #[14, 9, 4, 1, 1, 16, 34, 16, 92, 0, 17, 0, 13, 6, 16, 34, 16, 92, 0, 17, 1, 1]
noncomputable def je (ch : Nat) : Option Bool := match inSet jeC ch jeC.size 5 true {} with | .ok (b, _) => some b | .error _ => none
theorem je_no : ∀ ch, ch < 128 → ch ≠ 34 → ch ≠ 92 → je ch = some false := by decide +kernel
theorem admitted_none {l : List Nat} (hno : ∀ ch ∈ l, ch < 128 ∧ ch ≠ 34 ∧ ch ≠ 92) (m : M) (hc : m.code = jeC) (ht : m.text = l.toArray) (hl : m.lim = l.length) : ∀ (fuel s : Nat) (se : Sre.Seen), ∃ se', M.admitted m fuel s se = .ok (none, se')
  | 0, s, se => ⟨se, rfl⟩
  | fuel + 1, s, se => by
    unfold M.admitted
    by_cases h : s ≥ m.lim
    · exact ⟨se, by rw [if_pos h]⟩
    · rw [if_neg h]
      have hs : s < l.length := by omega
      have hch : m.text.getD s 0 = l[s] := by rw [ht, getD_list, List.getD_eq_getElem?_getD, List.getElem?_eq_getElem hs]; rfl
      obtain ⟨h1, h2, h3⟩ := hno l[s] (List.getElem_mem _)
      have hje := je_no l[s] h1 h2 h3
      unfold je at hje
      cases hi : inSet jeC l[s] jeC.size 5 true {} with
      | error e => rw [hi] at hje; cases hje
      | ok p =>
        obtain ⟨b, s0⟩ := p
        rw [hi] at hje
        injection hje with hje
        subst hje
        obtain ⟨s1, hs1⟩ := inSet_seen jeC l[s] jeC.size 5 true {} se _ _ hi
        rw [hc, hch, hs1]
        exact admitted_none hno m hc ht hl fuel (s + 1) s1
theorem attemptFrom_none {m : M} {s : Nat} {first : Bool} {se : Sre.Seen} (hfs : m.hasFirstSet = true) (he : M.admitted m (m.lim + 1 - s) s m.seen = .ok (none, se)) : m.attemptFrom s first = { m with seen := se }.say false := by
  unfold M.attemptFrom
  rw [hfs, he]
  rfl
theorem je_none {l : List Nat} (hno : ∀ ch ∈ l, ch < 128 ∧ ch ≠ 34 ∧ ch ≠ 92) : Goes 2 (Sre.forSearch jeC l.toArray 1 0 l.length false) fun m => m.outcome = some .failed := by
  by_cases h1 : l.length < 1
  · exact (forSearch_short (c := jeC) (body := 10) rfl h1).mono (by omega)
  have hc : (decide (0 > l.length) || decide (l.length - 0 < 1)) = false := by rw [Bool.or_eq_false_iff]; exact ⟨decide_eq_false (by omega), decide_eq_false (by omega)⟩
  unfold Sre.forSearch
  simp only [show header jeC = (1, 10) from rfl, hc, Bool.false_eq_true, if_false]
  generalize hm : ({ (_ : M) with lastStart := _ } : M) = m0
  have k1 : m0.code = jeC := by rw [← hm]; rfl
  have k2 : m0.text = l.toArray := by rw [← hm]; rfl
  have k3 : m0.lim = l.length := by rw [← hm]; rfl
  have k4 : m0.outcome = none := by rw [← hm]; rfl
  have k5 : m0.frames = [] := by rw [← hm]; rfl
  obtain ⟨se, he⟩ := admitted_none hno m0 k1 k2 k3 (m0.lim + 1 - 0) 0 m0.seen
  rw [attemptFrom_none (by unfold M.hasFirstSet; rw [k1]; rfl) he]
  refine Goes.step (by show m0.outcome = none; exact k4) ?_
  refine .done ?_ ?_
  · unfold M.step M.say; simp [k4, k5]
  · unfold M.step M.say; simp [k4, k5]
end Mine
end

section
open PySem PySem.W PyProof.Rows PySem.Calls
set_option Elab.async false
set_option linter.unusedVariables false
set_option maxRecDepth 100000
namespace Mine
open PySem.Sre PySem.Builtin.Re

noncomputable abbrev rawC (c : Array Nat) : Array Value := c.map fun (x : Nat) => rawInt (x : Int)
/-- a pattern of the top -/
structure PatAt (w : World) (p : Addr) (c : Array Nat) (g : Nat) : Prop where
  obj : ∃ pt fl a, (KF w).lookup p = some { cls := .type "re.Pattern", data := .fields #[pt, fl, rawInt g, .none, .none, .ref a, rawInt 0] } ∧ ∃ k, (KF w).lookup a = some { cls := .type "tuple", data := .seq (rawC c) k }

theorem raw_code (c : Array Nat) : ((rawC c).map reRawOf).map Int.toNat = c := by
  rw [Array.map_map, Array.map_map]
  conv => rhs; rw [← Array.map_id c]
  apply Array.map_congr_left
  intro x _
  rfl

section
variable {w : World} {n : Nat} {Q : D → Prop} {A : Around} {E : Value → Shared → Prop} {s : Shared}

theorem wp_rawItems {a : Addr} {k : Nat} {c : Array Nat} {R : Array Int → Shared → Prop} (ha : s.heap.get? a = some { cls := .type "tuple", data := .seq (rawC c) k }) (h : R ((rawC c).map reRawOf) s) : wpAny (model prog w) A (reRawItems (.ref a)) R E s := by
  unfold reRawItems
  exact wpAny_bind (wpAny_seqItems ha rfl (wpAny_pure h))

theorem wp_target {id f : String} {p : Addr} {c : Array Nat} {g : Nat} {x : Str} {t : Tok} {R : ReTarget → Shared → Prop} (P : PatAt w p c g) (G : Gd w s.heap) (hx : (x.length : Int) < 2 ^ 63 - 1)
    (h : R { pattern := .ref p, string := .str x t, code := c, text := x.cps, kind := 0, groups := g, pos := 0, lim := x.length } s) : wpAny (model prog w) A (reTarget id f ⟨[.ref p, .str x t], []⟩) R E s := by
  obtain ⟨pt, fl, a, ho, k, ha⟩ := P.obj
  unfold reTarget
  refine wpAny_bind (wpAny_of_eq (show reNamed id f ["string", "pos", "endpos"] 1 [.str x t] [] = pure [some (.str x t), none, none] from rfl) ?_)
  refine wpAny_bind (wpAny_pure (wpAny_bind (wpAny_pure ?_)))
  refine wpAny_bind (wpAny_fieldsOf (G.k _ _ ho) rfl ?_)
  refine wpAny_bind (wpAny_of_eq (show reTextOf (.str x t) = pure (x.cps, 0) from rfl) ?_)
  refine wpAny_bind (wpAny_of_eq (show reNoCollectionInside (.str x t) 0 = pure () from rfl) ?_)
  refine wpAny_bind (wp_rawItems (G.k _ _ ha) (wpAny_pure ?_))
  rw [raw_code]
  have e1 : min (0 : Int).toNat x.cps.size = 0 := Nat.zero_min _
  have e2 : min ((2 : Int) ^ 63 - 1).toNat x.cps.size = x.length := by
    show min _ x.length = x.length
    omega
  show R { pattern := .ref p, string := .str x t, code := c, text := x.cps, kind := 0, groups := reRawNat (rawInt g), pos := min (0 : Int).toNat x.cps.size, lim := min ((2 : Int) ^ 63 - 1).toNat x.cps.size } s
  rw [e1, e2]
  exact h

theorem wp_rules {m : M} : ∀ (l : List Nat) {R : PUnit → Shared → Prop}, R ⟨⟩ s → wpAny (model prog w) A (forIn l PUnit.unit fun i _ => if m.seen.has i = true then do rule (Sre.names.getD i ""); pure (ForInStep.yield PUnit.unit) else pure (ForInStep.yield PUnit.unit)) R E s
  | [], R, h => by rw [List.forIn_nil]; exact wpAny_pure h
  | i :: l, R, h => by
    rw [List.forIn_cons]
    refine wpAny_bind (wpAny_ite ?_)
    split
    · exact wpAny_bind (wpAny_rule (wpAny_pure (wp_rules l h)))
    · exact wpAny_pure (wp_rules l h)

theorem wp_end {m : M} {B : Nat} {P : M → Prop} {R : Option M → Shared → Prop} (g : Goes B m P) (hB : B ≤ 4 * 2 ^ 64) (hy : ∀ m', P m' → m'.outcome = some .matched → R (some m') s) (hn : ∀ m', P m' → m'.outcome = some .failed → R none s) (hp : ∀ m', P m' → m'.outcome = some .matched ∨ m'.outcome = some .failed) :
    wpAny (model prog w) A (reRunToEnd m) R E s := by
  unfold reRunToEnd
  refine wpAny_bind (wp_drive _ m B g hB (Nat.two_pow_pos 64) fun m' hP ho => ?_)
  refine wpAny_bind (wp_rules _ ?_)
  rcases hp m' hP with h | h
  · rw [h]; exact wpAny_pure (hy m' hP h)
  · rw [h]; exact wpAny_pure (hn m' hP h)

theorem Ret.newMat {Mt : Addr → Prop} {R : Value → Shared → Prop} (q : Ret s Mt Q R) {x : Str} {t : Tok} {sp : List Int} (bd : ∀ a, Mt a → ∃ o, s.heap.get? a = some o) {pat p1 p2 p3 : Value} (h : Q (.mat x sp)) :
    R (.ref (s.heap.objs.size + 1)) { s with heap := (s.heap.push { cls := .type "tuple", data := .seq (sp.map rawInt).toArray }).push { cls := .type "re.Match", data := .fields #[.str x t, pat, p1, p2, p3, .ref s.heap.objs.size] } } := by
  have k1 := stays_push s.heap { cls := .type "tuple", data := .seq (sp.map rawInt).toArray }
  have k2 := stays_push (s.heap.push { cls := .type "tuple", data := .seq (sp.map rawInt).toArray }) { cls := .type "re.Match", data := .fields #[.str x t, pat, p1, p2, p3, .ref s.heap.objs.size] }
  have e : (s.heap.push { cls := .type "tuple", data := .seq (sp.map rawInt).toArray }).objs.size = s.heap.objs.size + 1 := Heap.size_push _ _
  refine q _ _ s.toks (.mat x sp) (stays_trans k1 k2) ?_ h
  simp only [Rep]
  refine ⟨s.heap.objs.size + 1, s.heap.objs.size, t, pat, p1, p2, p3, 0, rfl, fun m => ?_, fun m => ?_, ?_, k2.h rfl (Heap.get?_push_size _ rfl)⟩
  · obtain ⟨o, e'⟩ := bd _ m
    have := Heap.lt_size e'
    exact absurd this (Nat.not_lt.mpr (Nat.le_succ _))
  · obtain ⟨o, e'⟩ := bd _ m
    exact absurd (Heap.lt_size e') (Nat.lt_irrefl _)
  · rw [← e]; exact Heap.get?_push_size _ rfl

/-- a new match, with one group or none -/
theorem wp_newMatch1 {Mt : Addr → Prop} {R : Value → Shared → Prop} {x : Str} {t : Tok} {p : Value} {p0 lim a b i j : Nat} {m : M} (q : Ret s Mt Q R) (bd : ∀ a, Mt a → ∃ o, s.heap.get? a = some o) (h1 : m.start = a) (h2 : m.handed = b) (h3 : m.marks = #[some i, some j]) (h4 : m.lastmark = 1) (hij : i ≤ j)
    (h : Q (.mat x [a, b, i, j])) : wpAny (model prog w) A (reNewMatch p (.str x t) 1 p0 lim m) R E s := by
  obtain ⟨f1, f2, f3, f4, f5, f6, f7, f8, f9, f10, f11, f12, f13, f14, f15, f16, f17, f18, f19, f20, f21⟩ := m
  cases h1; cases h2; cases h3; cases h4
  unfold reNewMatch
  refine wpAny_ite ?_
  split
  · rename_i hc
    have hc' : ((decide ((1 : Int) ≤ 1) && decide (j < i)) || false) = true := hc
    simp at hc'
    omega
  · refine wpAny_bind ?_
    show wpAny _ _ (newTuple ([((f4 : Nat) : Int), ((f10 : Nat) : Int), ((i : Nat) : Int), ((j : Nat) : Int)].map rawInt)) _ _ _
    refine wpAny_newTuple ?_ (by show 4 ≤ sizeLine; decide)
    refine wpAny_newObj_type ?_ (by show (6 : Nat) ≤ sizeLine + 2; decide)
    have := Ret.newMat q (t := t) (pat := p) (p1 := rawInt p0) (p2 := rawInt lim) (p3 := rawInt f14) bd h
    rw [Heap.size_push]
    exact this
/-- without a group -/
theorem wp_newMatch0 {Mt : Addr → Prop} {R : Value → Shared → Prop} {x : Str} {t : Tok} {p : Value} {p0 lim a b : Nat} {m : M} (q : Ret s Mt Q R) (bd : ∀ a, Mt a → ∃ o, s.heap.get? a = some o) (h1 : m.start = a) (h2 : m.handed = b)
    (h : Q (.mat x [a, b])) : wpAny (model prog w) A (reNewMatch p (.str x t) 0 p0 lim m) R E s := by
  obtain ⟨f1, f2, f3, f4, f5, f6, f7, f8, f9, f10, f11, f12, f13, f14, f15, f16, f17, f18, f19, f20, f21⟩ := m
  cases h1; cases h2
  unfold reNewMatch
  refine wpAny_ite ?_
  split
  · rename_i hc
    have hc' : false = true := hc
    cases hc'
  · refine wpAny_bind ?_
    show wpAny _ _ (newTuple ([((f4 : Nat) : Int), ((f10 : Nat) : Int)].map rawInt)) _ _ _
    refine wpAny_newTuple ?_ (by show 2 ≤ sizeLine; decide)
    refine wpAny_newObj_type ?_ (by show (6 : Nat) ≤ sizeLine + 2; decide)
    have := Ret.newMat q (t := t) (pat := p) (p1 := rawInt p0) (p2 := rawInt lim) (p3 := rawInt f14) bd h
    rw [Heap.size_push]
    exact this

theorem pat_type {p : Addr} {c : Array Nat} {g : Nat} (P : PatAt w p c g) (G : Gd w s.heap) : s.TypeIs (.ref p) "re.Pattern" := by
  obtain ⟨pt, fl, a, ho, _⟩ := P.obj
  exact ⟨_, G.k _ _ ho, rfl⟩
theorem IsT.pat {p : Addr} {c : Array Nat} {g : Nat} (P : PatAt w p c g) : IsT w (.val (.ref p)) "re.Pattern" := by
  intro s Mt v r G
  simp only [Rep] at r; subst r
  refine ⟨pat_type P G, fun a e => ?_⟩
  cases e
  obtain ⟨pt, fl, a, ho, _⟩ := P.obj
  exact ⟨_, G.k _ _ ho, rfl⟩

theorem m_search_yes {p : Addr} {c : Array Nat} {x : Str} {B a b i j : Nat} (P : PatAt w p c 1) (hx : x.length ≤ 1000000) (g : Goes B (Sre.forSearch c x.cps 1 0 x.length false) fun m => m.outcome = some .matched ∧ m.start = a ∧ m.handed = b ∧ m.marks = #[some i, some j] ∧ m.lastmark = 1) (hij : i ≤ j) (hB : B ≤ 100000000)
    (h : Q (.mat x [a, b, i, j])) : WO w n [.val (.ref p), .str x] (fun vs => call (.builtin "re.Pattern.search") vs) Q :=
  .two (op := fun a b => call (.builtin "re.Pattern.search") [a, b]) (fun A s Mt v u R E ro G bd ra rb q => by
    simp only [Rep] at ra; subst ra
    obtain ⟨t, rfl⟩ := rb.str'
    refine wpAny_call_entry RF.slot_search (pat_type P G) RF.entry_search ?_ (RF.args_search _ _)
    unfold Builtin.«re.Pattern.search»
    refine wpAny_bind (wp_target P G (by omega) ?_)
    unfold reAnswer
    refine wpAny_bind (wp_end g (Nat.le_trans hB (by decide)) (fun m' hP _ => ?_) (fun m' hP hf => by rw [hP.1] at hf; cases hf) (fun m' hP => .inl hP.1))
    refine wpAny_bind (wp_newMatch1 (R := fun v s' => wpAny _ _ (ret v) _ _ s') (fun v h' tk' d k r hq => wpAny_pure ⟨v, rfl, q v h' tk' d k r hq⟩) bd hP.2.1 hP.2.2.1 hP.2.2.2.1 hP.2.2.2.2 hij h)) fun _ _ => rfl
theorem m_search_no {p : Addr} {c : Array Nat} {gr : Nat} {x : Str} {B : Nat} (P : PatAt w p c gr) (hx : x.length ≤ 1000000) (g : Goes B (Sre.forSearch c x.cps gr 0 x.length false) fun m => m.outcome = some .failed) (hB : B ≤ 100000000)
    (h : Q .none) : WO w n [.val (.ref p), .str x] (fun vs => call (.builtin "re.Pattern.search") vs) Q :=
  .two (op := fun a b => call (.builtin "re.Pattern.search") [a, b]) (fun A s Mt v u R E ro G bd ra rb q => by
    simp only [Rep] at ra; subst ra
    obtain ⟨t, rfl⟩ := rb.str'
    refine wpAny_call_entry RF.slot_search (pat_type P G) RF.entry_search ?_ (RF.args_search _ _)
    unfold Builtin.«re.Pattern.search»
    refine wpAny_bind (wp_target P G (by omega) ?_)
    unfold reAnswer
    refine wpAny_bind (wp_end g (Nat.le_trans hB (by decide)) (fun m' hP hf => by rw [hP] at hf; cases hf) (fun m' hP _ => wpAny_pure ⟨.none, rfl, q .none s.heap s.toks .none (stays_refl _) (by simp only [Rep]) h⟩) (fun m' hP => .inr hP))) fun _ _ => rfl
theorem m_fullmatch_yes {p : Addr} {x : Str} {B b : Nat} (P : PatAt w p jtC 0) (hx : x.length ≤ 1000000) (g : Goes B (Sre.forMatch jtC x.cps 0 0 x.length true false) fun m => m.outcome = some .matched ∧ m.start = 0 ∧ m.handed = b) (hB : B ≤ 100000000)
    (h : Q (.mat x [0, b])) : WO w n [.val (.ref p), .str x] (fun vs => call (.builtin "re.Pattern.fullmatch") vs) Q :=
  .two (op := fun a b => call (.builtin "re.Pattern.fullmatch") [a, b]) (fun A s Mt v u R E ro G bd ra rb q => by
    simp only [Rep] at ra; subst ra
    obtain ⟨t, rfl⟩ := rb.str'
    refine wpAny_call_entry RF.slot_fullmatch (pat_type P G) RF.entry_fullmatch ?_ (RF.args_fullmatch _ _)
    unfold Builtin.«re.Pattern.fullmatch»
    refine wpAny_bind (wp_target P G (by omega) ?_)
    unfold reAnswer
    refine wpAny_bind (wp_end g (Nat.le_trans hB (by decide)) (fun m' hP _ => ?_) (fun m' hP hf => by rw [hP.1] at hf; cases hf) (fun m' hP => .inl hP.1))
    refine wpAny_bind (wp_newMatch0 (R := fun v s' => wpAny _ _ (ret v) _ _ s') (fun v h' tk' d k r hq => wpAny_pure ⟨v, rfl, q v h' tk' d k r hq⟩) bd hP.2.1 hP.2.2 h)) fun _ _ => rfl
theorem m_fullmatch_no {p : Addr} {x : Str} {B : Nat} (P : PatAt w p jtC 0) (hx : x.length ≤ 1000000) (g : Goes B (Sre.forMatch jtC x.cps 0 0 x.length true false) fun m => m.outcome = some .failed) (hB : B ≤ 100000000)
    (h : Q .none) : WO w n [.val (.ref p), .str x] (fun vs => call (.builtin "re.Pattern.fullmatch") vs) Q :=
  .two (op := fun a b => call (.builtin "re.Pattern.fullmatch") [a, b]) (fun A s Mt v u R E ro G bd ra rb q => by
    simp only [Rep] at ra; subst ra
    obtain ⟨t, rfl⟩ := rb.str'
    refine wpAny_call_entry RF.slot_fullmatch (pat_type P G) RF.entry_fullmatch ?_ (RF.args_fullmatch _ _)
    unfold Builtin.«re.Pattern.fullmatch»
    refine wpAny_bind (wp_target P G (by omega) ?_)
    unfold reAnswer
    refine wpAny_bind (wp_end g (Nat.le_trans hB (by decide)) (fun m' hP hf => by rw [hP] at hf; cases hf) (fun m' hP _ => wpAny_pure ⟨.none, rfl, q .none s.heap s.toks .none (stays_refl _) (by simp only [Rep]) h⟩) (fun m' hP => .inr hP))) fun _ _ => rfl
end
end Mine
end

section
open PySem PySem.W PyProof.Rows PySem.Calls
set_option Elab.async false
set_option linter.unusedVariables false
set_option maxRecDepth 100000
namespace Mine
open PySem.Sre PySem.Builtin.Re

theorem fn_call : typeLookup (.type "function") "__call__" = pure (some (.builtin "function.__call__")) := by rw [typeLookup_type, builtinLookup_eq_fast]; kernel_rfl
theorem str_nocall : typeLookup (.type "str") "__call__" = pure none := by rw [typeLookup_type, builtinLookup_eq_fast]; kernel_rfl
theorem sub_str_ba : isSubtype (.type "str") (.type "bytearray") = pure false := by rw [isSubtype_type]; kernel_rfl
theorem entry_loop : entryFor table "re.Pattern.sub.loop" = some Builtin.«re.Pattern.sub.loop» := entryFor_of_tree (by kernel_rfl)

theorem patTok {w : World} : PatAt w 48 tokC 1 := ⟨⟨_, _, _, rfl, 0, by kernel_rfl⟩⟩
theorem patQuo {w : World} : PatAt w 53 quoC 1 := ⟨⟨_, _, _, rfl, 0, by kernel_rfl⟩⟩
theorem patVal {w : World} : PatAt w 58 valC 1 := ⟨⟨_, _, _, rfl, 0, by kernel_rfl⟩⟩
theorem patEsc {w : World} : PatAt w 63 escC 1 := ⟨⟨_, _, _, rfl, 0, by kernel_rfl⟩⟩
theorem patJt {w : World} : PatAt w 75 jtC 0 := ⟨⟨_, _, _, rfl, 0, by kernel_rfl⟩⟩
theorem patJe {w : World} : PatAt w 80 jeC 1 := ⟨⟨_, _, _, rfl, 0, by kernel_rfl⟩⟩
theorem patJun {w : World} : PatAt w 36 junC 0 := ⟨⟨_, _, _, rfl, 0, by kernel_rfl⟩⟩

section
variable {w : World} {n : Nat} {Q : D → Prop} {B : Bool → Prop} {A : Around} {E : Value → Shared → Prop} {s : Shared}
theorem wp_whole {p : Addr} {c : Array Nat} {g : Nat} {x : Str} {t : Tok} {R : ReTarget → Shared → Prop} (P : PatAt w p c g) (G : Gd w s.heap)
    (h : R { pattern := .ref p, string := .str x t, code := c, text := x.cps, kind := 0, groups := g, pos := 0, lim := x.length } s) : wpAny (model prog w) A (reWholeTarget (.ref p) (.str x t)) R E s := by
  obtain ⟨pt, fl, a, ho, k, ha⟩ := P.obj
  unfold reWholeTarget
  refine wpAny_bind (wpAny_fieldsOf (G.k _ _ ho) rfl ?_)
  refine wpAny_bind (wpAny_of_eq (show reTextOf (.str x t) = pure (x.cps, 0) from rfl) ?_)
  refine wpAny_bind (wpAny_of_eq (show reNoCollectionInside (.str x t) 0 = pure () from rfl) ?_)
  refine wpAny_bind (wp_rawItems (G.k _ _ ha) (wpAny_pure ?_))
  rw [raw_code]
  exact h

theorem Tru.mat {t : Str} {sp : List Int} (h : B true) : Tru w n (.mat t sp) B := by
  intro A s Mt v R E ro G r q
  obtain ⟨ht, _⟩ := IsT.mat (w := w) s Mt v r G
  simp only [Rep] at r
  obtain ⟨a, b, tk, pat, p, q', li, k, rfl, m1, m2, o1, o2⟩ := r
  unfold truthy
  refine wpAny_bind (wpAny_bind (wpAny_specialOf ht RF.nobool_mat (wpAny_pure ?_)))
  exact wpAny_bind (wpAny_specialOf ht RF.nolen_mat (wpAny_pure (q true s.heap s.toks (stays_refl _) h)))
end
end Mine
end

section
open PySem PySem.W PyProof.Rows PySem.Calls
set_option Elab.async false
set_option linter.unusedVariables false
set_option maxRecDepth 100000
namespace Mine
open PySem.Sre PySem.Builtin.Re

section
variable {w : World} {n : Nat} {Q : D → Prop} {B : Bool → Prop} {A : Around} {E : Value → Shared → Prop} {s : Shared}

theorem slice_all (x : Str) : (⟨x.cps.extract 0 x.length⟩ : Str) = x := by
  obtain ⟨c⟩ := x
  show Str.mk (c.extract 0 c.size) = _
  rw [Array.extract_size]

noncomputable abbrev joined (ps : List (Str × Tok)) (x : Str) (done : Nat) : Str := Txt.join ⟨x.cps.extract 0 0⟩ (ps.map (·.1) ++ (if done < x.length then [⟨x.cps.extract done x.length⟩] else []))

/-- the loop's end, where nothing is found any more -/
theorem sub_end {p : Addr} {c : Array Nat} {gr : Nat} {x : Str} {t : Tok} {rep : Value} {way k done start : Nat} {l : Addr} {must wc : Bool} {ps : List (Str × Tok)} {ep B : Nat} {R : Result → Shared → Prop} (P : PatAt w p c gr) (G : Gd w s.heap)
    (hway : way = 1 ∨ (way = 0 ∧ ∃ y u, rep = .str y u)) (g : Goes B (Sre.forSearch c x.cps gr start x.length must) fun m => m.outcome = some .failed) (hB : B ≤ 100000000)
    (hl : s.heap.get? l = some (listObj (strValues ps) ep)) (hx : x.length ≤ 1000000) (hne : ps ≠ [] ∨ done < x.length) (hps : ps.length ≤ 1) (hok : JoinOk ⟨x.cps.extract 0 0⟩ (ps.map (·.1) ++ (if done < x.length then [⟨x.cps.extract done x.length⟩] else [])) = true)
    (h0 : wc = false → ∀ (h' : Heap) (tk' : Nat) (t' : Tok), Heap.SameBut l s.heap h' → R (.ok (.ret (.str (joined ps x done) t'))) { s with heap := h', toks := tk' })
    (h1 : wc = true → ∀ (h' : Heap) (tk' : Nat) (t' u : Tok), Heap.SameBut l s.heap h' → R (.ok (.ret (.ref h'.objs.size))) { s with heap := h'.push { cls := .type "tuple", data := .seq #[.str (joined ps x done) t', .int k u] }, toks := tk' }) :
    codeAny (model prog w) A (.builtin "re.Pattern.sub.loop" ⟨[.ref p, .str x t, rep, rawInt way, rawInt 0, rawInt k, rawInt done, rawInt start, .bool must, .ref l, .bool wc], []⟩) R s := by
  refine codeAny_builtin entry_loop ?_
  rw [Around.under_plainId (by decide +kernel)]
  unfold Builtin.«re.Pattern.sub.loop»
  refine wpAny_bind (wp_whole P G ?_)
  have after : wpAny (model prog w) A.in1 (if ((0 : Int) != 0 && decide ((k : Int) ≥ 0)) = true then pure none else reNextFound { pattern := .ref p, string := .str x t, code := c, text := x.cps, kind := 0, groups := gr, pos := 0, lim := x.length } (start : Int).toNat must)
      (fun r s' => r = none ∧ s' = s) (fun _ _ => False) s := by
    refine wpAny_ite_false (by simp) ?_
    exact wp_end g (Nat.le_trans hB (by decide)) (fun m' hP hf => by rw [hP] at hf; cases hf) (fun m' hP _ => ⟨rfl, rfl⟩) fun m' hP => .inr hP
  have hsz : (strValues ps).length ≤ 1 := by unfold strValues; rw [List.length_map]; exact hps
  -- behind the pieces
  have fin : ∀ (s1 : Shared) (ps1 : List (Str × Tok)) (ep1 : Nat), Heap.SameBut l s.heap s1.heap → s1 = { s with heap := s1.heap, toks := s1.toks } → s1.heap.get? l = some (listObj (strValues ps1) ep1) → ps1 ≠ [] → ps1.map (·.1) = ps.map (·.1) ++ (if done < x.length then [⟨x.cps.extract done x.length⟩] else []) →
      wpAny (model prog w) A.in1 (do
        let joiner ← reSlice x.cps 0 0 0
        let text ← if ((← seqItems? (.ref l)).getD #[]).isEmpty then pure joiner else call (.builtin (if (0 : Nat) == 0 then "str.join" else "bytes.join")) [joiner, .ref l]
        if wc then ret (← holding [text] do newTuple [text, ← mkInt k]) else ret text) (fun fin s' => match fin with | .done f => R (.ok f) s' | .again c' => c'.quiet = true ∧ codeAny (model prog w) A c' R s') (fun e s' => R (.error e) s') s1 := by
    intro s1 ps1 ep1 hsb es1 hl1 hne1 hmap
    have hj : wpAny (model prog w) A.in1 (reSlice x.cps 0 0 0) (fun v s' => v = .str ⟨x.cps.extract 0 0⟩ s1.toks ∧ s' = { s1 with toks := s1.toks + 1 }) (fun e s' => R (.error e) s') s1 := by
      unfold reSlice
      refine wpAny_ite_true (show ((0 : Nat) == 0) = true from rfl) (wpAny_mkStr ⟨rfl, rfl⟩ ?_)
      show (x.cps.extract 0 0).size ≤ sizeLine
      rw [Array.size_extract]; exact Nat.le_trans (Nat.sub_le _ _) (by rw [Nat.zero_min]; exact Nat.zero_le _)
    refine wpAny_bind (wpAny_mono hj (fun v s' hv => ?_) fun _ _ e => e)
    obtain ⟨rfl, rfl⟩ := hv
    refine wpAny_bind (wpAny_seqItems (o := listObj (strValues ps1) ep1) hl1 rfl ?_)
    refine wpAny_ite ?_
    rw [if_neg (show ¬ ((some (strValues ps1).toArray).getD #[]).isEmpty = true by cases ps1 with
      | nil => exact absurd rfl hne1
      | cons a r => simp [strValues])]
    refine wpAny_bind (SC.join (l := ps1) ⟨_, hl1, rfl, _, rfl⟩ hmap hok fun t' k' => ?_)
    cases wc with
    | false =>
      refine wpAny_ite_false (by decide) (wpAny_pure ?_)
      have := h0 rfl s1.heap k' t' hsb
      rw [es1]
      exact this
    | true =>
      refine wpAny_ite_true rfl (wpAny_bind (wpAny_holding (wpAny_bind (wpAny_mkInt (wpAny_newTuple (wpAny_pure ?_) (by show 2 ≤ sizeLine; decide))))))
      have := h1 rfl s1.heap (k' + 1) t' k' hsb
      rw [es1]
      exact this
  have push : ∀ Q', (∀ (s1 : Shared), Heap.SameBut l s.heap s1.heap → s1 = { s with heap := s1.heap, toks := s1.toks } → s1.heap.get? l = some (listObj (strValues (ps ++ [(⟨x.cps.extract done x.length⟩, s.toks)])) (ep + 1)) → Q' () s1) →
      wpAny (model prog w) A.in1 (reSlice x.cps 0 (done : Int).toNat x.length) (fun v s' => wpAny (model prog w) A.in1 (updateSeq l (·.push v)) Q' (fun e s' => R (.error e) s') s') (fun e s' => R (.error e) s') s := by
    intro Q' hq
    have hj : wpAny (model prog w) A.in1 (reSlice x.cps 0 (done : Int).toNat x.length) (fun v s' => v = .str ⟨x.cps.extract done x.length⟩ s.toks ∧ s' = { s with toks := s.toks + 1 }) (fun e s' => R (.error e) s') s := by
      unfold reSlice
      refine wpAny_ite_true (show ((0 : Nat) == 0) = true from rfl) (wpAny_mkStr ⟨rfl, rfl⟩ ?_)
      show (x.cps.extract _ x.length).size ≤ sizeLine
      have : sizeLine = 16777216 := rfl
      rw [Array.size_extract]
      have : min x.length x.cps.size ≤ x.length := Nat.min_le_left _ _
      omega
    refine wpAny_mono hj (fun v s' hv => ?_) fun _ _ e => e
    obtain ⟨rfl, rfl⟩ := hv
    refine wpAny_updateSeq (o := listObj (strValues ps) ep) (xs := (strValues ps).toArray) hl rfl (hq _ (Heap.SameBut.update _ _ _) rfl ?_) (by rw [List.size_toArray]; exact Nat.le_trans hsz (by decide)) (by rw [Array.size_push, List.size_toArray]; exact Nat.le_trans (Nat.succ_le_succ hsz) (by decide))
    show (s.heap.update l _).get? l = _
    rw [Heap.get?_update_self _ hl rfl]
    simp only [Obj.mapSeq, strValues, List.map_append, List.map_cons, List.map_nil]
    simp
  rcases hway with rfl | ⟨rfl, y, u, rfl⟩
  · refine wpAny_ite_false (by decide) ?_
    refine wpAny_bind (wpAny_mono after (fun r s' hr => ?_) fun _ _ hf => hf.elim)
    obtain ⟨rfl, rfl⟩ := hr
    refine wpAny_ite ?_
    split
    · rename_i hd
      have hd' : done < x.length := by simpa using hd
      refine wpAny_bind (wpAny_mono (push _ fun s1 hsb es1 hl1 => fin s1 _ _ hsb es1 hl1 (by simp) (by rw [if_pos hd']; simp)) (fun v s2 hx => wpAny_bind hx) fun _ _ e => e)
    · rename_i hd
      have hd' : ¬ done < x.length := by simpa using hd
      exact fin _ ps ep (.refl _ _) rfl hl (hne.resolve_right hd') (by rw [if_neg hd']; simp)
  · refine wpAny_ite_true (show (((0 : Nat) : Int) == 0) = true by decide) (wpAny_bind (wpAny_of_eq (show reLiteralCannotBeTurned (.str y u) = pure () from rfl) ?_))
    refine wpAny_bind (wpAny_mono after (fun r s' hr => ?_) fun _ _ hf => hf.elim)
    obtain ⟨rfl, rfl⟩ := hr
    refine wpAny_ite ?_
    split
    · rename_i hd
      have hd' : done < x.length := by simpa using hd
      refine wpAny_bind (wpAny_mono (push _ fun s1 hsb es1 hl1 => fin s1 _ _ hsb es1 hl1 (by simp) (by rw [if_pos hd']; simp)) (fun v s2 hx => wpAny_bind hx) fun _ _ e => e)
    · rename_i hd
      have hd' : ¬ done < x.length := by simpa using hd
      exact fin _ ps ep (.refl _ _) rfl hl (hne.resolve_right hd') (by rw [if_neg hd']; simp)
end
end Mine
end

section
open PySem PySem.W PyProof.Rows PySem.Calls
set_option Elab.async false
set_option linter.unusedVariables false
set_option maxRecDepth 100000
namespace Mine
open PySem.Sre PySem.Builtin.Re

section
variable {w : World} {n : Nat} {Q : D → Prop} {B : Bool → Prop} {A : Around} {E : Value → Shared → Prop} {s : Shared}

theorem joinOk_small {sep : Str} {ys : List Str} (h : ys.toArray.foldl (fun a y => a + y.length + sep.length) 0 ≤ 16777216) : JoinOk sep ys = true := by
  unfold JoinOk Builtin.Str.tooLong
  have : sizeLine = 16777216 := rfl
  simp only [Bool.not_eq_true', decide_eq_false_iff_not]
  omega
theorem nil_str (x : Str) : (⟨x.cps.extract 0 0⟩ : Str) = Str.mk #[] := by
  congr 1
  exact Array.extract_zero
theorem m_sub_none {p : Addr} {c : Array Nat} {gr : Nat} {x : Str} {B : Nat} (P : PatAt w p c gr) (hx : x.length ≤ 1000000) (hx0 : 0 < x.length) (g : Goes B (Sre.forSearch c x.cps gr 0 x.length false) fun m => m.outcome = some .failed) (hB : B ≤ 100000000)
    (h : Q (.str (Txt.join (Str.mk #[]) [x]))) : WO w n [.val (.ref p), .lam, .str x] (fun vs => call (.builtin "re.Pattern.sub") vs) Q :=
  .three (op := fun a b c => call (.builtin "re.Pattern.sub") [a, b, c]) (fun A s Mt v u z R E ro G bd ra rb rc q => by
    simp only [Rep] at ra; subst ra
    obtain ⟨t, rfl⟩ := rc.str'
    simp only [Rep] at rb
    obtain ⟨fa, fo, ff, rfl, fm, fho, fcls, fdat⟩ := rb
    refine wpAny_call (codeAny_call_builtin RF.slot_sub.plain RF.entry_sub (RF.slot_sub.check _ _ _ _ _ _ _ _ (pat_type P G) (RF.args_sub _ _ _) ?_))
    show wpAny _ _ (reSubstitute "re.Pattern.sub" "sub" false _) _ _ _
    unfold reSubstitute
    refine wpAny_bind (wpAny_of_eq (show reNamed "re.Pattern.sub" "sub" ["repl", "string", "count"] 2 [.ref fa, .str x t] [] = pure [some (.ref fa), some (.str x t), none] from rfl) ?_)
    refine wpAny_bind (wpAny_pure ?_)
    refine wpAny_bind (wpAny_specialOf (T := "function") ⟨fo, fho, fcls⟩ fn_call ?_)
    refine wpAny_ite_true rfl (wpAny_bind (wpAny_pure ?_))
    refine wpAny_ite_true rfl (wpAny_bind (wpAny_pure ?_))
    refine wpAny_bind (wpAny_holding (wp_whole P G ?_))
    refine wpAny_ite_true rfl (wpAny_bind ?_)
    unfold reNotHeld
    refine wpAny_bind (wpAny_isInstance (T := "str") (b := false) rfl sub_str_ba ?_)
    refine wpAny_ite_false rfl (wpAny_pure ?_)
    refine wpAny_bind (wpAny_newList (wpAny_pure ⟨plainId_quiet (by decide +kernel) _, ?_⟩) (by decide))
    have kp := stays_push s.heap (listObj [] 0)
    have e0 : (if (0 : Nat) < x.length then [(⟨x.cps.extract 0 x.length⟩ : Str)] else []) = [x] := by rw [if_pos hx0, slice_all]
    refine sub_end (s := { s with heap := s.heap.push (listObj [] 0) }) (ps := []) (ep := 0) (k := 0) (done := 0) (start := 0) (way := 1) (wc := false) P (G.keeps kp) (.inl rfl) g hB (Heap.get?_push_size _ rfl) hx (.inr hx0) (by decide) ?_ (fun _ h' tk' t' hs => ?_) (fun e => by cases e)
    · rw [e0, nil_str]
      refine joinOk_small ?_
      show 0 + x.length + 0 ≤ _
      omega
    · have e1 : joined [] x 0 = Txt.join (Str.mk #[]) [x] := by unfold joined; rw [e0, nil_str]; rfl
      rw [e1]
      refine q _ h' tk' (.str _) (Kp.of fun b o e => (hs.2 b (Nat.ne_of_lt (Heap.lt_size e))).trans (Heap.get?_push_of_some _ e)) Rep.str_ h) fun _ _ _ => rfl
end
end Mine
end

section
open PySem PySem.W PyProof.Rows PySem.Calls
set_option Elab.async false
set_option linter.unusedVariables false
set_option maxRecDepth 100000
namespace Mine.RF
theorem slot_mat_ga : Slot "re.Match" "__getattribute__" "object.__getattribute__" :=
  .of (owner := "object") (n := "__getattribute__") (by rw [typeLookup_type, builtinLookup_eq_fast]; kernel_rfl) (by decide +kernel) (by decide +kernel) (by decide +kernel)
    (by first | exact .inl (by decide +kernel) | exact .inr (by decide +kernel)) (by rw [isSubtype_type]; kernel_rfl)
theorem lk_mat_string : typeLookup (.type "re.Match") "string" = pure (some (.builtin "re.Match.string")) := by rw [typeLookup_type, builtinLookup_eq_fast]; kernel_rfl
theorem typeOf_mat_string : typeOf (.builtin "re.Match.string") = pure (.type "member_descriptor") := by show builtinType _ = _; rw [builtinType_eq_fast]; kernel_rfl
theorem entry_mat_ga : entryFor table "object.__getattribute__" = some Builtin.«object.__getattribute__» := entryFor_of_tree (by kernel_rfl)
theorem args_mat_ga (a b : Value) : argsOk "object.__getattribute__" ⟨[a, b], []⟩ := by unfold argsOk; kernel_rfl
theorem entry_mat_string : entryFor table "re.Match.string" = some Builtin.«re.Match.string» := entryFor_of_tree (by kernel_rfl)
theorem sub_mat_owner : isSubtype (.type "re.Match") (.type (".".intercalate ("re.Match.string".cutAt '.').dropLast)) = pure true := by
  have e0 : "re.Match.string".cutAt '.' = ["re", "Match", "string"] := by first | rfl | decide +kernel
  have e1 : (".".intercalate ("re.Match.string".cutAt '.').dropLast) = "re.Match" := by rw [e0]; decide +kernel
  rw [e1, isSubtype_type]; kernel_rfl
end Mine.RF
namespace Mine
section
variable {prog : Program} {w : World} {A : Around} {E : Value → Shared → Prop} {h : Heap} {g : Array GenState} {d : Drawn} {t : Nat} {os : OsState} {a : Addr} {o : Obj}
theorem string_get {R : Result → Shared → Prop} {v : Value} {vs : Array Value} (hx : h.get? a = some o) (hc : o.cls = .type "re.Match") (hd : o.data = .fields vs) (hv : vs[0]? = some v) (hq : R (.ok (.ret v)) ⟨h, g, d, t, os⟩) :
    codeAny (model prog w) A (.call (.builtin "member_descriptor.__get__") ⟨[.builtin "re.Match.string", .ref a, .type "re.Match"], []⟩) R ⟨h, g, d, t, os⟩ := by
  have hT : (⟨h, g, d, t, os⟩ : Shared).TypeIs (.ref a) "re.Match" := ⟨_, hx, hc⟩
  have hT5 : (⟨h, g, d, t, os⟩ : Shared).TypeIs (.builtin "re.Match.string") "member_descriptor" := RF.typeOf_mat_string
  have f8 := RF.sub_mat_owner
  refine codeAny_call_builtin PySem.W.KF.slot_mem.plain PySem.W.KF.entry_mem (PySem.W.KF.slot_mem.check _ _ _ _ _ _ _ _ hT5 (PySem.W.KF.args_mem _ _ _) ?_)
  repeat (any_goals (first | assumption | wp_step))
  refine ⟨Code.quiet_builtin _ (by decide +kernel), codeAny_builtin RF.entry_mat_string ?_⟩
  unfold Builtin.«re.Match.string»
  refine wpAny_bind ?_
  unfold field
  refine wpAny_bind (wpAny_fieldsOf hx hd ?_)
  rw [hv]
  exact wpAny_pure (wpAny_pure hq)

theorem string_entry {tk : Tok} {Q : Fin → Shared → Prop} {v : Value} {vs : Array Value} (hx : h.get? a = some o) (hc : o.cls = .type "re.Match") (hd : o.data = .fields vs) (hv : vs[0]? = some v) (hq : Q (.done (.ret v)) ⟨h, g, d, t, os⟩) :
    wpAny (model prog w) A (Builtin.«object.__getattribute__» ⟨[.ref a, .str "string" tk], []⟩) Q E ⟨h, g, d, t, os⟩ := by
  have hT : (⟨h, g, d, t, os⟩ : Shared).TypeIs (.ref a) "re.Match" := ⟨_, hx, hc⟩
  have hT5 : (⟨h, g, d, t, os⟩ : Shared).TypeIs (.builtin "re.Match.string") "member_descriptor" := RF.typeOf_mat_string
  have f4 := RF.lk_mat_string
  have f5 := RF.typeOf_mat_string
  have f6 := PySem.W.KF.slot_mem.lookup
  have f7 := PySem.W.KF.slot_mset.lookup
  repeat (any_goals (first | assumption | wp_step))
  refine string_get hx hc hd hv ?_
  repeat (any_goals (first | assumption | wp_step))

theorem string_call {tk : Tok} {R : Result → Shared → Prop} {v : Value} {vs : Array Value} (hx : h.get? a = some o) (hc : o.cls = .type "re.Match") (hd : o.data = .fields vs) (hv : vs[0]? = some v) (hq : R (.ok (.ret v)) ⟨h, g, d, t, os⟩) :
    codeAny (model prog w) A (.call (.builtin "object.__getattribute__") ⟨[.ref a, .str "string" tk], []⟩) R ⟨h, g, d, t, os⟩ :=
  codeAny_call_builtin RF.slot_mat_ga.plain RF.entry_mat_ga (RF.slot_mat_ga.check _ _ _ _ _ _ _ _ (show (⟨h, g, d, t, os⟩ : Shared).TypeIs (.ref a) "re.Match" from ⟨_, hx, hc⟩) (RF.args_mat_ga _ _) (string_entry hx hc hd hv hq))

theorem string_attr {Q : Value → Shared → Prop} {v : Value} {vs : Array Value} (hx : h.get? a = some o) (hc : o.cls = .type "re.Match") (hd : o.data = .fields vs) (hv : vs[0]? = some v) (hh : handedOut v = pure v) (hq : ∀ t', Q v ⟨h, g, d, t', os⟩) : wpAny (model prog w) A (getAttr (.ref a) "string" true) Q E ⟨h, g, d, t, os⟩ := by
  have hT : (⟨h, g, d, t, os⟩ : Shared).TypeIs (.ref a) "re.Match" := ⟨_, hx, hc⟩
  have f2 := RF.slot_mat_ga.lookup
  have f3 := RF.slot_mat_ga.bind (.ref a)
  have hs := fun (tk : Tok) (R : Result → Shared → Prop) hq => string_call (prog := prog) (w := w) (A := A) (g := g) (d := d) (t := t + 1) (os := os) (tk := tk) (R := R) hx hc hd hv hq
  obtain ⟨cls, dict, data, slots⟩ := o
  dsimp only at hc hd
  subst hc
  subst hd
  unfold getAttr
  repeat (any_goals (first | assumption | wp_step))
  refine hs _ _ ?_
  repeat (any_goals (first | assumption | exact hq _ | wp_step))
end
end Mine
end

section
open PySem PySem.W PyProof.Rows PySem.Calls
set_option Elab.async false
set_option linter.unusedVariables false
set_option maxRecDepth 100000
namespace Mine
open PySem.Sre PySem.Builtin.Re

section
variable {w : World} {n : Nat} {env : Env} {σ : Sto} {Q : D → Prop} {B : Bool → Prop} {A : Around} {E : Value → Shared → Prop} {s : Shared}

theorem Rep.mat' {h : Heap} {Mt : Addr → Prop} {t : Str} {sp : List Int} {v : Value} (r : Rep h Mt (.mat t sp) v) : ∃ a b tk pat p q li n, v = .ref a ∧ ¬ Mt a ∧ ¬ Mt b ∧ h.get? a = some { cls := .type "re.Match", data := .fields #[.str t tk, pat, p, q, li, .ref b] } ∧
      h.get? b = some (tupObj (sp.map rawInt) n) := by simpa only [Rep] using r

theorem wp_found {a b : Addr} {x : Str} {tk : Tok} {pat p q li : Value} {sp : List Int} {k : Nat} {R : ReFound → Shared → Prop} (ha : s.heap.get? a = some { cls := .type "re.Match", data := .fields #[.str x tk, pat, p, q, li, .ref b] }) (hb : s.heap.get? b = some (tupObj (sp.map rawInt) k))
    (h : R { fields := #[.str x tk, pat, p, q, li, .ref b], spans := sp.toArray } s) : wpAny (model prog w) A (reFound (.ref a)) R E s := by
  unfold reFound
  refine wpAny_bind (wpAny_fieldsOf ha rfl ?_)
  refine wpAny_bind ?_
  show wpAny _ _ (reRawItems (.ref b)) _ _ _
  unfold reRawItems
  refine wpAny_bind (wpAny_seqItems hb rfl (wpAny_pure (wpAny_pure ?_)))
  have e : ((some (sp.map rawInt).toArray).getD #[]).map reRawOf = sp.toArray := by
    simp only [Option.getD_some, List.map_toArray, List.map_map]
    congr 1
    conv => rhs; rw [← List.map_id sp]
    apply List.map_congr_left
    intro x _
    rfl
  rw [e]; exact h

theorem wp_slice {x : Str} {i j : Nat} {R : Value → Shared → Prop} (hx : x.length ≤ 1000000) (h : ∀ t' tk', R (.str ⟨x.cps.extract i j⟩ t') { s with toks := tk' }) : wpAny (model prog w) A (reSlice x.cps 0 i j) R E s := by
  unfold reSlice
  refine wpAny_ite_true (show ((0 : Nat) == 0) = true from rfl) (wpAny_mkStr (h _ _) ?_)
  show (x.cps.extract i j).size ≤ sizeLine
  have : sizeLine = 16777216 := rfl
  have : x.cps.size ≤ 1000000 := hx
  rw [Array.size_extract]
  have : min j x.cps.size ≤ x.cps.size := Nat.min_le_right _ _
  omega

theorem m_group1 {x : Str} {a b : Int} {i j : Nat} (hx : x.length ≤ 1000000) (h : Q (.str ⟨x.cps.extract i j⟩)) : WO w n [.mat x [a, b, i, j], .int 1] (fun vs => call (.builtin "re.Match.group") vs) Q :=
  .two (op := fun a b => call (.builtin "re.Match.group") [a, b]) (fun A s Mt v u R E ro G bd ra rb q => by
    obtain ⟨t, rfl⟩ := rb.int'
    have ht := (IsT.mat (w := w) s Mt v ra G).1
    obtain ⟨ad, bd', tk, pat, p, q', li, k, rfl, m1, m2, o1, o2⟩ := ra.mat'
    refine wpAny_call_entry RF.slot_group ht RF.entry_group ?_ (RF.args_group _ _)
    unfold Builtin.«re.Match.group»
    refine wpAny_bind (wpAny_of_eq (show noKeywords "Match.group" ⟨[.ref ad, .int 1 t], []⟩ = pure () from rfl) ?_)
    refine wpAny_bind (wp_found o1 o2 ?_)
    refine wpAny_bind ?_
    unfold reGroupNumber
    refine wpAny_bind (wpAny_of_eq (show asInt? (.int 1 t) = pure (some 1) from rfl) ?_)
    refine wpAny_ite_true rfl (wpAny_bind (wpAny_of_eq (show asIndex (.int 1 t) = pure 1 from rfl) ?_))
    refine wpAny_ite_false rfl (wpAny_bind (wpAny_pure ?_))
    refine wpAny_pure ?_
    refine wpAny_bind ?_
    unfold reGroupText
    refine wpAny_ite_false ?_ ?_
    · refine decide_eq_false ?_
      show ¬ (decide (((i : Nat) : Int) < 0) || decide (((j : Nat) : Int) < 0)) = true
      simp
    · refine wpAny_bind (wpAny_of_eq (show reTextOf (.str x tk) = pure (x.cps, 0) from rfl) ?_)
      show wpAny _ _ (reSlice x.cps 0 ((i : Nat) : Int).toNat ((j : Nat) : Int).toNat) _ _ _
      rw [Int.toNat_natCast, Int.toNat_natCast]
      refine wp_slice hx fun t' tk' => ?_
      exact wpAny_pure ⟨_, rfl, q.here (fun _ => Rep.str_) h tk'⟩) fun _ _ => rfl

theorem m_span0 {x : Str} {a b : Int} {sp : List Int} (h : Q (.tup [.int a, .int b])) : WO w n [.mat x (a :: b :: sp), .int 0] (fun vs => call (.builtin "re.Match.span") vs) Q :=
  .two (op := fun a b => call (.builtin "re.Match.span") [a, b]) (fun A s Mt v u R E ro G bd ra rb q => by
    obtain ⟨t, rfl⟩ := rb.int'
    have ht := (IsT.mat (w := w) s Mt v ra G).1
    obtain ⟨ad, bd', tk, pat, p, q', li, k, rfl, m1, m2, o1, o2⟩ := ra.mat'
    refine wpAny_call_entry RF.slot_span ht RF.entry_span ?_ (RF.args_span _ _)
    unfold Builtin.«re.Match.span»
    refine wpAny_bind ?_
    unfold reOneGroup
    refine wpAny_bind (wpAny_of_eq (show selfAndSome "Match.span" "span" 0 1 ⟨[.ref ad, .int 0 t], []⟩ = pure (.ref ad, [.int 0 t]) from rfl) ?_)
    refine wpAny_bind (wp_found o1 o2 ?_)
    refine wpAny_bind ?_
    show wpAny _ _ (reGroupNumber _ (.int 0 t)) _ _ _
    unfold reGroupNumber
    refine wpAny_bind (wpAny_of_eq (show asInt? (.int 0 t) = pure (some 0) from rfl) ?_)
    refine wpAny_ite_true rfl (wpAny_bind (wpAny_of_eq (show asIndex (.int 0 t) = pure 0 from rfl) ?_))
    refine wpAny_ite_false (by simp; omega) (wpAny_bind (wpAny_pure ?_))
    refine wpAny_pure (wpAny_pure ?_)
    refine wpAny_bind (wpAny_mkInt (wpAny_bind (wpAny_mkInt (wpAny_bind (wpAny_newTuple (wpAny_pure ?_) (by show 2 ≤ sizeLine; decide))))))
    refine ⟨_, rfl, q _ _ _ (.tup [.int a, .int b]) (stays_push _ _) ?_ h⟩
    simp only [Rep]
    refine ⟨_, [.int a _, .int b _], 0, rfl, fun m => ?_, Heap.get?_push_size _ rfl, .cons Rep.int_ (.cons Rep.int_ .nil)⟩
    obtain ⟨o, e⟩ := bd _ m
    exact Nat.lt_irrefl _ (Heap.lt_size e)) fun _ _ => rfl

theorem WE.mat_string {e : Expr} {pos : Pos} (h : WE w n env σ e fun d => ∃ x sp, d = .mat x sp ∧ Q (.str x))
    (he : eval (.Attribute e "string" pos) env = (do
      let o ← eval e env
      standAt pos.atName
      let r ← holding [o] (getAttr o "string" true)
      letTemporaryGo e o r
      pure r) := by with_unfolding_all rfl) : WE w n env σ (.Attribute e "string" pos) Q := by
  intro A s g Mt₀ Mt R E ro S q
  refine Attribute_any_ (h A s g Mt₀ Mt _ E ro S fun v h' tk' d k r hq => ?_) he
  obtain ⟨x, sp, rfl, hq⟩ := hq
  obtain ⟨ad, bd', tk, pat, p, q', li, kk, rfl, m1, m2, o1, o2⟩ := r.mat'
  exact string_attr o1 rfl rfl rfl rfl fun t' => q _ h' t' (.str x) k Rep.str_ hq
end
end Mine
end

section
open PySem PySem.W PyProof.Rows PySem.Calls
set_option Elab.async false
set_option linter.unusedVariables false
set_option maxRecDepth 100000
namespace Mine
open PySem.Sre PySem.Builtin.Re

theorem hd65 {w : World} : codeHdIn (KF w) 69 65 = true := by kernel_rfl
theorem hd82 {w : World} : codeHdIn (KF w) 86 82 = true := by kernel_rfl
/-- the lambdas' places -/
noncomputable def LamAt (w : World) (c P l k : Nat) : Prop := (c = 69 ∧ P = 65 ∧ l = 26 ∧ k = 49) ∨ (c = 86 ∧ P = 82 ∧ l = 57 ∧ k = 50)

section
variable {w : World} {n : Nat} {env : Env} {σ : Sto} {Q : D → Prop} {B : Bool → Prop} {A : Around} {E : Value → Shared → Prop} {s : Shared}

theorem TabAt.kp {h h' : Heap} {P l c : Nat} {v : Value} (t : TG h) (hP : (P = 65 ∧ l = 26 ∧ c = 49) ∨ (P = 82 ∧ l = 57 ∧ c = 50)) (he : h.get? P = some (tabObj #[])) (x : Heap.ExtBut P h h') (e : h'.get? P = some (tabObj (#[] ++ #[rawInt l, rawInt c, v]))) : Kp h h' := by
  refine ⟨fun a o ea nt => x a o (fun q => ?_) ea, fun a ps ea => ?_, fun _ => ?_⟩
  · rcases nt with nt | nt
    · rw [q, he] at ea; injection ea with ea; exact nt ⟨_, ea.symm⟩
    · rcases hP with ⟨rfl, _⟩ | ⟨rfl, _⟩
      · exact nt.1 q
      · exact nt.2 q
  · by_cases q : a = P
    · rw [q, he] at ea
      injection ea with ea
      injection ea with _ _ ea
      injection ea with ea
      subst ea
      rw [q]
      exact ⟨_, e⟩
    · exact ⟨#[], by rw [Array.append_empty]; exact x a _ q ea⟩
  · rcases hP with ⟨rfl, rfl, rfl⟩ | ⟨rfl, rfl, rfl⟩
    · exact ⟨.inr ⟨v, e⟩, t.2.keep fun o eo => x _ _ (by decide) eo⟩
    · exact ⟨t.1.keep fun o eo => x _ _ (by decide) eo, .inr ⟨v, e⟩⟩

theorem WE.lam {args : Arguments} {body : Expr} {scope : Scope} {pos : Pos} {c P : Nat} (hc : env.code = .ref c) (hP : (c = 69 ∧ P = 65 ∧ pos.line = 26 ∧ pos.col = 49) ∨ (c = 86 ∧ P = 82 ∧ pos.line = 57 ∧ pos.col = 50))
    (hcl : closureFor scope env = pure [] := by rfl)
    (he : eval (.Lambda args body scope pos) env = makeFunction "<lambda>" (env.qual ++ "<lambda>") args (.expr body) scope env [] [] [] pos pos.line := by rfl) (h : Q .lam) : WE w n env σ (.Lambda args body scope pos) Q := by
  intro A s g Mt₀ Mt R E ro S q
  rw [he]
  have G := S.now
  obtain ⟨mg, bm, ob, g1, g2, g3, g4, g5, g6, g7⟩ := G.bm
  have C : CodeHd s.heap c P := by
    rcases hP with ⟨rfl, rfl, _⟩ | ⟨rfl, rfl, _⟩
    · exact codeHd_of_K G.k hd65
    · exact codeHd_of_K G.k hd82
  have hT : TabAt s.heap P pos.line pos.col := by
    rcases hP with ⟨rfl, rfl, e1, e2⟩ | ⟨rfl, rfl, e1, e2⟩
    · rw [e1, e2]; exact G.tg.1
    · rw [e1, e2]; exact G.tg.2
  have hPp : ∃ ps, s.heap.get? P = some (tabObj ps) := hT.elim (fun e => ⟨_, e⟩) fun ⟨_, e⟩ => ⟨_, e⟩
  have hgP : mainGlobals ≠ P := fun q => by
    obtain ⟨o, es, ep, e, hd, _⟩ := g1
    obtain ⟨ps, ep⟩ := hPp
    rw [q, ep] at e; cases e; cases hd
  have hbP : bm ≠ P := fun q => by
    obtain ⟨ps, ep⟩ := hPp
    rw [q, ep] at g4; cases g4; cases g5
  have hbG : bm ≠ mainGlobals := fun q => by
    obtain ⟨o, es, ep, e, hd, _⟩ := g1
    rw [q, e] at g4; cases g4; rw [hd] at g7; cases g7
  have hB : s.heap.BuiltinsAt mg P := ⟨bm, ob, g2, g3, hbG, hbP, g4, g5, g6, g7⟩
  have nm : ∀ a, s.heap.objs.size ≤ a → ¬ Mt a := fun a ha m => by
    obtain ⟨o, e⟩ := S.bd a m
    exact absurd (Heap.lt_size e) (Nat.not_lt.mpr ha)
  rcases hT with e0 | ⟨v, e1⟩
  · refine kla_makeFunction hcl S.glob g1 hc C e0 trivial rfl hgP hB fun c' ctv h' tk hx hge hlt hrec htb => ?_
    have kp : Kp s.heap h' := TabAt.kp (v := .ref c') (l := pos.line) (c := pos.col) G.tg (by rcases hP with ⟨_, a, b, c⟩ | ⟨_, a, b, c⟩ <;> simp [a, b, c]) e0 hx htb
    refine q _ _ tk .lam (kp.trans (stays_push _ _)) ?_ h
    simp only [Rep]
    exact ⟨_, _, _, rfl, nm _ (by omega), Heap.get?_push_size _ rfl, rfl, rfl⟩
  · refine kla_makeFunctionHit (cv := v) hcl S.glob g1 hc C e1 trivial ?_ hB fun ctv h' tk hx hge => ?_
    · show codeAmong pos [rawInt pos.line, rawInt pos.col, v] = some v
      simp [codeAmong, rawInt]
    · refine q _ _ tk .lam ((Kp.of hx).trans (stays_push _ _)) ?_ h
      simp only [Rep]
      exact ⟨_, _, _, rfl, nm _ hge, Heap.get?_push_size _ rfl, rfl, rfl⟩
end
end Mine
end

section
open PySem PySem.W PyProof.Rows PySem.Calls
set_option Elab.async false
set_option linter.unusedVariables false
set_option maxRecDepth 100000
namespace Mine
open PySem.Sre PySem.Builtin.Re

noncomputable abbrev S (l : List Nat) : Str := ⟨l.toArray⟩
theorem S_append (a b : List Nat) : S a ++ S b = S (a ++ b) := by
  show Str.mk (a.toArray ++ b.toArray) = Str.mk (a ++ b).toArray
  simp
theorem S_length (l : List Nat) : (S l).length = l.length := by show l.toArray.size = _; simp
theorem S_extract (l : List Nat) (i j : Nat) : (⟨(S l).cps.extract i j⟩ : Str) = S ((l.drop i).take (j - i)) := by
  show Str.mk (l.toArray.extract i j) = _
  simp [S, List.extract_eq_take_drop]
section
variable {w : World} {n : Nat} {Q : D → Prop} {B : Bool → Prop} {A : Around} {E : Value → Shared → Prop} {s : Shared}

theorem subn_rest {j rest : List Nat} : joined [(S [], 0)] (S (j ++ rest)) j.length = S rest := by
  unfold joined
  rw [show (⟨(S (j ++ rest)).cps.extract 0 0⟩ : Str) = S [] from nil_str _]
  cases rest with
  | nil =>
    rw [if_neg (by rw [S_length]; simp)]
    rfl
  | cons x r =>
    rw [if_pos (by rw [S_length]; simp), S_extract, S_length]
    have : ((j ++ x :: r).drop j.length).take ((j ++ x :: r).length - j.length) = x :: r := by
      rw [List.drop_left, List.length_append, Nat.add_sub_cancel_left, List.take_length]
    rw [this]
    show S [] ++ S [] ++ S (x :: r) = _
    rw [S_append, S_append]; rfl
theorem joined_tok {x : Str} {k : Nat} (t t' : Tok) : joined [(S [], t)] x k = joined [(S [], t')] x k := rfl

/-- the loop's turn where a match begins at once -/
theorem sub_turn {p : Addr} {c : Array Nat} {gr : Nat} {x : Str} {t : Tok} {y : Str} {u : Tok} {k done start e : Nat} {l : Addr} {must wc : Bool} {ps : List (Str × Tok)} {ep B : Nat} {R : Result → Shared → Prop} (P : PatAt w p c gr) (G : Gd w s.heap)
    (g : Goes B (Sre.forSearch c x.cps gr start x.length must) fun m => m.outcome = some .matched ∧ m.start = done ∧ m.handed = e) (hB : B ≤ 100000000)
    (hl : s.heap.get? l = some (listObj (strValues ps) ep)) (hps : ps.length ≤ 1) (hne : e ≠ done)
    (next : ∀ h', Heap.SameBut l s.heap h' → h'.get? l = some (listObj (strValues (ps ++ [(y, u)])) (ep + 1)) →
      codeAny (model prog w) A (.builtin "re.Pattern.sub.loop" ⟨[.ref p, .str x t, .str y u, rawInt (0 : Nat), rawInt 0, rawInt ((k + 1 : Nat) : Int), rawInt e, rawInt e, .bool false, .ref l, .bool wc], []⟩) R { s with heap := h' }) :
    codeAny (model prog w) A (.builtin "re.Pattern.sub.loop" ⟨[.ref p, .str x t, .str y u, rawInt (0 : Nat), rawInt 0, rawInt k, rawInt done, rawInt start, .bool must, .ref l, .bool wc], []⟩) R s := by
  refine codeAny_builtin entry_loop ?_
  rw [Around.under_plainId (by decide +kernel)]
  unfold Builtin.«re.Pattern.sub.loop»
  refine wpAny_bind (wp_whole P G ?_)
  have after : wpAny (model prog w) A.in1 (if ((0 : Int) != 0 && decide ((k : Int) ≥ 0)) = true then pure none else reNextFound { pattern := .ref p, string := .str x t, code := c, text := x.cps, kind := 0, groups := gr, pos := 0, lim := x.length } (start : Int).toNat must)
      (fun r s' => ∃ m, r = some m ∧ m.start = done ∧ m.handed = e ∧ s' = s) (fun _ _ => False) s := by
    refine wpAny_ite_false (by simp) ?_
    exact wp_end g (Nat.le_trans hB (by decide)) (fun m' hP hf => ⟨m', rfl, hP.2.1, hP.2.2, rfl⟩) (fun m' hP hf => by rw [hP.1] at hf; cases hf) fun m' hP => .inl hP.1
  have hsz : (strValues ps).length ≤ 1 := by unfold strValues; rw [List.length_map]; exact hps
  refine wpAny_ite_true (show (((0 : Nat) : Int) == 0) = true by decide) (wpAny_bind (wpAny_of_eq (show reLiteralCannotBeTurned (.str y u) = pure () from rfl) ?_))
  refine wpAny_bind (wpAny_mono after (fun r s' hr => ?_) fun _ _ hf => hf.elim)
  obtain ⟨m, rfl, hst, hha, rfl⟩ := hr
  dsimp only
  refine wpAny_ite_false (by rw [hst]; simp) ?_
  refine wpAny_ite_true (show (((0 : Nat) : Int) == 0) = true by decide) (wpAny_bind (wpAny_pure ?_))
  refine wpAny_ite_true (by simp) (wpAny_bind ?_)
  refine wpAny_updateSeq (o := listObj (strValues ps) ep) (xs := (strValues ps).toArray) hl rfl ?_ (by rw [List.size_toArray]; exact Nat.le_trans hsz (by decide)) (by rw [Array.size_push, List.size_toArray]; exact Nat.le_trans (Nat.succ_le_succ hsz) (by decide))
  rw [hha, hst, beq_false_of_ne hne]
  refine wpAny_pure ⟨plainId_quiet (by decide +kernel) _, ?_⟩
  refine next _ (Heap.SameBut.update _ _ _) ?_
  rw [Heap.get?_update_self _ hl rfl]
  simp only [Obj.mapSeq, strValues, List.map_append, List.map_cons, List.map_nil]
  simp

theorem m_subn_jun {j rest : List Nat} (hj0 : j ≠ []) (h128 : ∀ ch ∈ j ++ rest, ch < 128) (hlen : (j ++ rest).length ≤ 100000) (hj : ∀ ch ∈ j, jk ch = true) (hr : ∀ ch r, rest = ch :: r → jk ch = false)
    (h : Q (.tup [.str (S rest), .int 1])) : WO w n [.val (.ref 36), .str (S []), .str (S (j ++ rest))] (fun vs => call (.builtin "re.Pattern.subn") vs) Q :=
  .three (op := fun a b c => call (.builtin "re.Pattern.subn") [a, b, c]) (fun A s Mt v u z R E ro G bd ra rb rc q => by
    have P : PatAt w 36 junC 0 := patJun
    have hjl : 0 < j.length := List.length_pos_iff.mpr hj0
    simp only [Rep] at ra; subst ra
    obtain ⟨t, rfl⟩ := rc.str'
    obtain ⟨tr, rfl⟩ := rb.str'
    refine wpAny_call (codeAny_call_builtin RF.slot_subn.plain RF.entry_subn (RF.slot_subn.check _ _ _ _ _ _ _ _ (pat_type P G) (RF.args_subn _ _ _) ?_))
    show wpAny _ _ (reSubstitute "re.Pattern.subn" "subn" true _) _ _ _
    unfold reSubstitute
    refine wpAny_bind (wpAny_of_eq (show reNamed "re.Pattern.subn" "subn" ["repl", "string", "count"] 2 [.str (S []) tr, .str (S (j ++ rest)) t] [] = pure [some (.str (S []) tr), some (.str (S (j ++ rest)) t), none] from rfl) ?_)
    refine wpAny_bind (wpAny_pure ?_)
    refine wpAny_bind (wpAny_specialOf (T := "str") rfl str_nocall ?_)
    refine wpAny_ite_false rfl (wpAny_bind (wpAny_of_eq (show asStr? (.str (S []) tr) = pure (some (S [])) from rfl) ?_))
    refine wpAny_bind (wpAny_pure ?_)
    refine wpAny_ite_false rfl (wpAny_ite_true (by decide +kernel) (wpAny_bind (wpAny_pure ?_)))
    refine wpAny_bind (wpAny_holding (wp_whole P G ?_))
    refine wpAny_ite_false (by decide) (wpAny_bind (wpAny_newList (wpAny_pure ⟨plainId_quiet (by decide +kernel) _, ?_⟩) (by decide)))
    have kp := stays_push s.heap (listObj [] 0)
    have G1 := G.keeps kp
    have hl0 : (s.heap.push (listObj [] 0)).get? s.heap.objs.size = some (listObj [] 0) := Heap.get?_push_size _ rfl
    have g1 : Goes 10 (Sre.forSearch junC (S (j ++ rest)).cps 0 0 (S (j ++ rest)).length false) fun m => m.outcome = some .matched ∧ m.start = 0 ∧ m.handed = j.length := by
      rw [S_length]
      exact jun_yes rfl h128 (by omega) hj hr
    refine sub_turn (s := { s with heap := s.heap.push (listObj [] 0) }) (ps := []) (ep := 0) (k := 0) (done := 0) (start := 0) (wc := true) P G1 g1 (by decide) hl0 (by decide) (by omega) fun h1 hs1 hl1 => ?_
    have kp1 : Kp s.heap h1 := .of fun b o e => (hs1.2 b (Nat.ne_of_lt (Heap.lt_size e))).trans (Heap.get?_push_of_some _ e)
    have g2 : Goes (2 * (j ++ rest).length + 10) (Sre.forSearch junC (S (j ++ rest)).cps 0 j.length (S (j ++ rest)).length false) fun m => m.outcome = some .failed := by
      rw [S_length]
      exact jun_later (by simp) hjl
    have ht1 : Txt.join (S []) ([(S []), (S rest)]) = S rest := by
      show S [] ++ S [] ++ S rest = _
      rw [S_append, S_append]; rfl
    refine sub_end (s := { s with heap := h1 }) (ps := [(S [], tr)]) (ep := 1) (k := 1) (done := j.length) (start := j.length) (way := 0) (wc := true) P (G.keeps kp1) (.inr ⟨rfl, _, _, rfl⟩) g2 (by omega) hl1 (by rw [S_length]; omega) (.inl nofun) (Nat.le_refl 1) ?_ (fun e => by cases e) (fun _ h' tk' t' u' hs => ?_)
    · rw [nil_str]
      have hz : ∀ i j', Str.length (⟨(S (j ++ rest)).cps.extract i j'⟩ : Str) ≤ 100000 := fun i j' => by
        rw [S_extract, S_length, List.length_take, List.length_drop]; omega
      by_cases hd : j.length < (S (j ++ rest)).length
      · rw [if_pos hd]
        refine joinOk_small ?_
        have := hz j.length (S (j ++ rest)).length
        show 0 + 0 + 0 + Str.length (⟨(S (j ++ rest)).cps.extract j.length (S (j ++ rest)).length⟩ : Str) + 0 ≤ _
        omega
      · rw [if_neg hd]
        refine joinOk_small ?_
        show 0 + 0 + 0 ≤ _
        omega
    · have e1 : joined [(S [], tr)] (S (j ++ rest)) j.length = S rest := by rw [joined_tok tr 0]; exact subn_rest
      rw [e1]
      have kp2 : Kp s.heap h' := .of fun b o e => (hs.2 b (Nat.ne_of_lt (Heap.lt_size e))).trans ((hs1.2 b (Nat.ne_of_lt (Heap.lt_size e))).trans (Heap.get?_push_of_some _ e))
      refine q _ _ tk' (.tup [.str (S rest), .int 1]) (kp2.trans (stays_push _ _)) ?_ h
      simp only [Rep]
      refine ⟨_, [.str (S rest) t', .int 1 u'], 0, rfl, fun m => ?_, Heap.get?_push_size _ rfl, .cons Rep.str_ (.cons Rep.int_ .nil)⟩
      obtain ⟨o, e⟩ := bd _ m
      obtain ⟨o', e'⟩ := kp2.alive e
      exact Nat.lt_irrefl _ (Heap.lt_size e')) fun _ _ _ => rfl
end
end Mine
end

section
open PySem PySem.W PyProof.Rows PySem.Calls
set_option Elab.async false
set_option linter.unusedVariables false
set_option maxRecDepth 100000
namespace Mine

section
variable {α β : Type} {M : Model} {A : Around} {E : Value → Shared → Prop} {s : Shared}
theorem wpC.of {t : Sem α} {Q : α → Shared → Prop} (h : wpAny M A t Q E s) : wpC M A t Q E s := fun Γ p hΓ _ => h Γ p hΓ
theorem codeC.of {c : Code} {R : Result → Shared → Prop} (h : codeAny M A c R s) : codeC M A c R s := fun Γ p hc hΓ _ => h Γ p hc hΓ
theorem wpC.pure {a : α} {Q : α → Shared → Prop} (h : Q a s) : wpC M A (pure a) Q E s := fun _ _ _ _ => h
theorem wpC.mono {t : Sem α} {Q Q' : α → Shared → Prop} {E' : Value → Shared → Prop} (h : wpC M A t Q E s) (hQ : ∀ a s, Q a s → Q' a s) (hE : ∀ e s, E e s → E' e s) : wpC M A t Q' E' s :=
  fun Γ p hΓ o => Sem.wp_mono M Γ t (fun a _ s => hQ a s) (fun e _ s => hE e s) p s (h Γ p hΓ o)
theorem wpC.bind {m : Sem α} {f : α → Sem β} {Q : β → Shared → Prop} (h : wpC M A m (fun a s' => wpC M A (f a) Q E s') E s) : wpC M A (m >>= f) Q E s := fun Γ p hΓ o => by
  rw [Sem.wp_bind']
  exact Sem.wp_mono M Γ m (fun a p' s' h' => h' Γ p' hΓ o) (fun _ _ _ h' => h') p s (h Γ p hΓ o)
/-- a plain step, and on -/
theorem wpC.step {m : Sem α} {f : α → Sem β} {Q : β → Shared → Prop} (h : wpAny M A m (fun a s' => wpC M A (f a) Q E s') E s) : wpC M A (m >>= f) Q E s := .bind (.of h)
theorem wpC.eq {t t' : Sem α} {Q : α → Shared → Prop} (e : t = t') (h : wpC M A t' Q E s) : wpC M A t Q E s := by rw [e]; exact h
theorem wpC.onRaise {m : Sem α} {k : Value → Sem Unit} {Q : α → Shared → Prop} (h : wpC M A m Q (fun e s' => wpAny M A (k e) (fun _ s'' => E e s'') E s') s) : wpC M A (m.onRaise k) Q E s := fun Γ p hΓ o => by
  rw [Sem.wp_onRaise]
  exact Sem.wp_mono M Γ m (fun _ _ _ h' => h') (fun e p' s' h' => h' Γ p' hΓ) p s (h Γ p hΓ o)
theorem wpC.holding {vs : List Value} {m : Sem α} {Q : α → Shared → Prop} (h : wpC M A m Q E s) : wpC M A (PySem.holding vs m) Q E s := fun Γ p hΓ o => by rw [Sem.wp_holding]; exact h Γ p hΓ o
theorem wpC.at {pos : Pos} {f : Unit → Sem β} {Q : β → Shared → Prop} (h : wpC M A (f ()) Q E s) : wpC M A (standAt pos >>= f) Q E s := .step (wpAny_standAt h)

theorem Ok.enter {Γ : Ctx} (o : Ok Γ) {c : Code} {h : Option Value} {p : Pos} (hc : okCode c = true) : Ok (Γ.enter c h p) :=
  ⟨hc, fun x hx => by
    rcases List.mem_cons.mp hx with rfl | hx
    · exact o.1
    · exact o.2 x hx⟩
theorem wpC.run {c : Code} {h : Option Value} {Q : Flow → Shared → Prop} (hc : codeC M (A.mark h) c (fun r s' => match r with | .ok f => Q f s' | .error e => E e s') s) (ok : okCode c = true) (hnb : h ≠ some byPass := by intro x; cases x) :
    wpC M A (PySem.run c h) Q E s := fun Γ p hΓ o => by rw [Sem.wp_run]; exact hc _ p rfl (hΓ.enter c h p hnb) (o.enter ok)
theorem wpC.call {f : Value} {pos : List Value} {kw : List (Str × Value)} {Q : Value → Shared → Prop}
    (hc : codeC M A (.call f ⟨pos, kw⟩) (fun r s' => match r with | .ok (.ret v) => Q v s' | .ok _ => False | .error e => E e s') s) : wpC M A (PySem.call f pos kw) Q E s := fun Γ p hΓ o => by
  show Sem.wp M Γ (runValue _) _ _ p s
  rw [Sem.wp_runValue]; exact hc _ p rfl (hΓ.enter _ none p (by intro x; cases x)) (o.enter rfl)
theorem codeC.tree {c : Code} {R : Result → Shared → Prop}
    (h : wpC M (A.under c) (M.den c) (fun fin s' => match fin with | .done f => R (.ok f) s' | .again c' => c'.quiet = true ∧ okCode c' = true ∧ codeC M A c' R s') (fun e s' => R (.error e) s') s) : codeC M A c R s := fun Γ p hc hΓ o => by
  rw [wpCode_iff_wp, hc]
  refine Sem.wp_mono M Γ _ (fun fin p' s' h' => ?_) (fun _ _ _ h' => h') p s (h Γ p (hc ▸ hΓ.in) o)
  cases fin with
  | done f => exact h'
  | again c' => exact ⟨h'.1, h'.2.2 (Γ.goto c') p' rfl (hΓ.goto c') ⟨h'.2.1, o.2⟩⟩
theorem codeC.loop {c : Code} {R : Result → Shared → Prop} (hq : c.quiet = true) (ok : okCode c = true) (I : Nat → Shared → Prop)
    (turn : ∀ n s, I n s → wpC M (A.under c) (M.den c)
      (fun fin s' => match fin with
        | .done f => R (.ok f) s'
        | .again c' => (c' = c ∧ ∃ m, m < n ∧ I m s') ∨ (c'.quiet = true ∧ okCode c' = true ∧ codeC M A c' R s')) (fun e s' => R (.error e) s') s)
    (n : Nat) (h : I n s) : codeC M A c R s := by
  induction n using Nat.strongRecOn generalizing s with
  | ind n ih =>
    refine codeC.tree ((turn n s h).mono (fun fin s' hf => ?_) fun _ _ h' => h')
    cases fin with
    | done f => exact hf
    | again c' =>
      rcases hf with ⟨rfl, m, hm, hI⟩ | hf
      · exact ⟨hq, ok, ih m hm hI⟩
      · exact hf
end

section
variable {w : World} {A : Around} {E : Value → Shared → Prop} {s : Shared} {env : Env} {R : Result → Shared → Prop}
theorem wpC.execs_cons {st : Stmt} {rest : List Stmt} {Q : Flow → Shared → Prop}
    (h : wpC (model prog w) A (exec st env) (fun f s' => match f with | .next => wpC (model prog w) A (execs rest env) Q E s' | f => Q f s') E s) : wpC (model prog w) A (execs (st :: rest) env) Q E s := by
  rw [PySem.execs_cons]
  refine wpC.bind (h.mono (fun f s' h' => ?_) fun _ _ e => e)
  cases f <;> first | exact h' | exact .pure h'

/-- what a def gives back when its body comes to the flow `f` -/
noncomputable def backOf : Flow → Value
  | .ret v => v
  | _ => .none
/-- the code of a def's body, when its frame stands -/
theorem codeC.func {body : List Stmt}
    (h : wpC (model prog w) (A.deeper env) (execs body env) (fun f t => R (.ok (.ret (backOf f))) t) (fun e t => wpAny (model prog w) (A.deeper env) (leaving env e) (fun _ u => R (.error e) u) (fun e' u => R (.error e') u) t) s) :
    codeC (model prog w) A (.func body env) R s := by
  have give : ∀ (f : Flow) (t : Shared), R (.ok (.ret (backOf f))) t → wpC (model prog w) (A.deeper env) (match f with | .ret v => ret v | _ => ret .none)
      (fun fin u => match fin with | .done f => R (.ok f) u | .again c' => c'.quiet = true ∧ okCode c' = true ∧ codeC (model prog w) A c' R u) (fun e u => R (.error e) u) t := by
    rintro (_ | _ | _ | v) t r <;> exact wpC.pure r
  refine codeC.tree (show wpC _ (A.deeper env) (point >>= fun _ => (execs body env).onRaise (leaving env) >>= fun f => match f with | .ret v => ret v | _ => ret .none) _ _ s from ?_)
  exact wpC.step (wpAny_point (wpC.bind (wpC.onRaise (h.mono give fun _ _ e => e))))
/-- a call of a def without a closure: its names are bound, its frame is entered, and its code runs -/
theorem codeC.called {a : Addr} {o : Obj} {fd : FuncData} {body : List Stmt} {vals : List Value} {binds : List (Str × Value)}
    (ho : s.heap.get? a = some o) (hdata : o.data = .func fd) (hbody : fd.body = .stmts body) (room : A.depth < recursionLimit) (hlim : s.heap.NoLimit) (hcd : s.heap.CodeRec fd.code fd.qualname)
    (hbind : bindArgs fd ⟨vals, []⟩ = pure binds) (hclo : fd.closure = []) (hco : fd.scope.isCoroutine = false) (hgen : fd.scope.isGenerator = false) (hk : fd.scope.kind = .function)
    (hkind : ∀ x ∈ binds, fd.scope.names.lookup x.1 = some .local ∨ (fd.scope.names.lookup x.1 = some .cell ∧ ((cellsFrom (s.heap.objs.size + 1) fd.scope.names []).lookup x.1).isSome = true))
    (h : ∀ t, InCallC s (callEnvC fd s.heap.objs.size a).locals (bindL (callEnvC fd s.heap.objs.size a).kindOf binds fun _ => none) (callEnvC fd s.heap.objs.size a).cells (bindC (callEnvC fd s.heap.objs.size a).kindOf binds fun _ => none) t →
      codeC (model prog w) A (.func body (callEnvC fd s.heap.objs.size a)) R t) : codeC (model prog w) A (.call (.ref a) ⟨vals, []⟩) R s := by
  obtain ⟨c, oc, ws, tq, ec, eo, ed, ew⟩ := hcd
  have name : ∀ {Q : Value → Shared → Prop} {E : Value → Shared → Prop}, Q (.str fd.qualname tq) s → wpAny (model prog w) A.in1 (field (.ref c) 1) Q E s := fun q => wpAny_field eo ed ew q
  refine codeC.tree (show wpC _ A.in1 (callAny (.ref a) ⟨vals, []⟩) _ _ s from ?_)
  unfold callAny
  refine wpC.step (wpAny_load ho ?_)
  simp only [hdata]
  unfold callFunction
  simp only [ec, hbind, hclo, hbody, hgen, hco]
  refine wpC.step (name (wpC.step (wpAny_pure (wpC.step (wpAny_pure (wpC.step (wpAny_newFunctionEnv_cells hk hkind fun env same t inn => ?_)))))))
  cases (same.trans (by rw [← ec]; rfl) : env = callEnvC fd s.heap.objs.size a)
  exact wpC.step (wpAny_enterFrame (hlim.keeps inn.toInCall.keep) room (wpC.pure ⟨rfl, rfl, h t inn⟩))
end
end Mine
end

section
open PySem PySem.W PyProof.Rows PySem.Calls
set_option Elab.async false
set_option linter.unusedVariables false
set_option maxRecDepth 100000
namespace Mine

noncomputable def WEc (w : World) (n : Nat) (env : Env) (σ : Sto) (e : Expr) (Q : D → Prop) : Prop :=
  ∀ (A : Around) (s : Shared) (g : Heap) (Mt₀ Mt : Addr → Prop) (R : Value → Shared → Prop) (E : Value → Shared → Prop),
    Room A n → St w g Mt₀ Mt env σ s.heap → Ret s Mt Q R → wpC (model prog w) A (eval e env) R E s
noncomputable def WXc (w : World) (n : Nat) (env : Env) (σ : Sto) (t : Stmt) (Q : FlowD → Sto → Prop) : Prop :=
  ∀ (A : Around) (s : Shared) (g : Heap) (Mt₀ Mt : Addr → Prop) (R : Flow → Shared → Prop) (E : Value → Shared → Prop),
    Room A n → St w g Mt₀ Mt env σ s.heap → RetS w g Mt₀ env Mt s Q R → wpC (model prog w) A (exec t env) R E s
noncomputable def WSc (w : World) (n : Nat) (env : Env) (σ : Sto) (ts : List Stmt) (Q : FlowD → Sto → Prop) : Prop :=
  ∀ (A : Around) (s : Shared) (g : Heap) (Mt₀ Mt : Addr → Prop) (R : Flow → Shared → Prop) (E : Value → Shared → Prop),
    Room A n → St w g Mt₀ Mt env σ s.heap → RetS w g Mt₀ env Mt s Q R → wpC (model prog w) A (execs ts env) R E s
noncomputable def WOc (w : World) (n : Nat) (ds : List D) (op : List Value → Sem Value) (Q : D → Prop) : Prop :=
  ∀ (A : Around) (s : Shared) (Mt : Addr → Prop) (vs : List Value) (R : Value → Shared → Prop) (E : Value → Shared → Prop),
    Room A n → Gd w s.heap → (∀ a, Mt a → ∃ o, s.heap.get? a = some o) → RepL s.heap Mt ds vs → Ret s Mt Q R → wpC (model prog w) A (op vs) R E s
noncomputable def WFc (w : World) (n : Nat) (f : Addr) (ds : List D) (Q : D → Prop) : Prop := WOc w n ds (fun vs => call (.ref f) vs) Q
/-- arguments -/
noncomputable def WAc (w : World) (n : Nat) (env : Env) (σ : Sto) (es : List Expr) (Q : List D → Prop) : Prop :=
  ∀ (A : Around) (s : Shared) (g : Heap) (Mt₀ Mt : Addr → Prop) (pos : Pos) (R : List Value → Shared → Prop) (E : Value → Shared → Prop),
    Room A n → St w g Mt₀ Mt env σ s.heap → (∀ vs h' tk' ds, Kp s.heap h' → RepL h' Mt ds vs → Q ds → R vs { s with heap := h', toks := tk' }) → wpC (model prog w) A (spliced (backTo pos (starEach es env))) R E s

section
variable {w : World} {n : Nat} {env : Env} {σ : Sto} {Q : D → Prop} {P : FlowD → Sto → Prop}
theorem WEc.of {e : Expr} (h : WE w n env σ e Q) : WEc w n env σ e Q := fun A s g Mt₀ Mt R E ro S q => .of (h A s g Mt₀ Mt R E ro S q)
theorem WXc.of {t : Stmt} (h : WX w n env σ t P) : WXc w n env σ t P := fun A s g Mt₀ Mt R E ro S q => .of (h A s g Mt₀ Mt R E ro S q)
theorem WSc.of {t : List Stmt} (h : WS w n env σ t P) : WSc w n env σ t P := fun A s g Mt₀ Mt R E ro S q => .of (h A s g Mt₀ Mt R E ro S q)
theorem WAc.of {es : List Expr} {Q : List D → Prop} (h : WA w n env σ es Q) : WAc w n env σ es Q := fun A s g Mt₀ Mt pos R E ro S q => .of (h A s g Mt₀ Mt pos R E ro S q)
theorem WOc.of {ds : List D} {op : List Value → Sem Value} (h : WO w n ds op Q) : WOc w n ds op Q := fun A s Mt vs R E ro G bd r q => .of (h A s Mt vs R E ro G bd r q)

theorem WSc.nil (hq : P .next σ) : WSc w n env σ [] P := .of (WS.nil hq)
theorem WSc.cons {t : Stmt} {ts : List Stmt} (h : WXc w n env σ t fun f σ' => match f with | .next => WSc w n env σ' ts P | f => P f σ') : WSc w n env σ (t :: ts) P := by
  intro A s g Mt₀ Mt R E ro S q
  refine wpC.execs_cons (h A s g Mt₀ Mt _ E ro S fun f h' tk' fd σ' Mt' S' st fr hp => ?_)
  cases fd with
  | next => cases f <;> first | exact fr.elim | exact hp A _ g Mt₀ Mt' R E ro S' (RetS.after st q)
  | brk => cases f <;> first | exact fr.elim | exact q _ h' tk' .brk σ' Mt' S' st fr hp
  | cont => cases f <;> first | exact fr.elim | exact q _ h' tk' .cont σ' Mt' S' st fr hp
  | ret d => cases f <;> first | exact fr.elim | exact q _ h' tk' (.ret d) σ' Mt' S' st fr hp
theorem WXc.mono {e : Stmt} {P P' : FlowD → Sto → Prop} (h : WXc w n env σ e P) (k : ∀ f s, P f s → P' f s) : WXc w n env σ e P' :=
  fun A s g Mt₀ Mt R E r S q => h A s g Mt₀ Mt R E r S fun f h' tk' fd σ' Mt' a p b c => q f h' tk' fd σ' Mt' a p b (k _ _ c)

theorem WXc.assign {x : Str} {px pos : Pos} {e : Expr} (hx : StoreOk env x) (h : WEc w n env σ e fun d => P .next ((x, .fz d) :: σ))
    (hs : swapsWith e (some (.Name x px)) pos.line env = pure Bool.false := by rfl) : WXc w n env σ (.Assign [.Name x px] e pos) P := by
  intro A s g Mt₀ Mt R E ro S q
  rw [exec_Assign_Name env x px e pos hs]
  refine wpC.at (wpC.bind (h A s g Mt₀ Mt _ E ro S fun v h' tk' d k r hp => ?_))
  exact wpC.of (wpAny_bind (wpAny_standAt (wpAny_bind (wpAny_bindName
    (store_fz (S.keeps k) hx r fun h'' tk'' S' st => wpAny_pure (q .next h'' tk'' .next _ Mt S' ((Stp.of_stays k).trans st.up) trivial hp))))))

/-- a call of a def of the text by its name -/
theorem callWith_C {A : Around} {E : Value → Shared → Prop} {s : Shared} {f : Value} {pos : Pos} {e : Expr} {r : List Expr} {R : Value → Shared → Prop} (hk : keepIn (KF w) f = Bool.true)
    (h : wpAny (model prog w) A (spliced (backTo pos (starEach (e :: r) env))) (fun vs s₁ => (KF w).In s₁.heap ∧ wpC (model prog w) A (PySem.call f vs) R E s₁) E s)
    (he : starEach (e :: r) env = (Bool.false, eval e env) :: starEach r env) (hplain : (backTo pos (starEach r env)).any (·.1) = Bool.false) :
    wpC (model prog w) A (callWith pos f [] (backTo pos (starEach (e :: r) env)) []) R E s := by
  rw [he] at h ⊢
  have hp : (List.any (backTo pos ((Bool.false, eval e env) :: starEach r env)) (·.1) || List.any ([] : List (Option Str × Sem Value)) (·.1.isNone)) = Bool.false := by
    show ((Bool.false || (backTo pos (starEach r env)).any (·.1)) || Bool.false) = Bool.false
    rw [hplain]; rfl
  unfold callWith
  refine wpC.step (wpAny_holding (evalArgs_plain (wpAny_mono h (fun vs s₁ h₁ => ?_) fun _ _ x => x)))
  refine wpC.at ?_
  obtain ⟨k, hk', L⟩ := keeps_K (M := model prog w) hk _ h₁.1
  simp only [hp]
  refine wpC.step (L.here ?_)
  have tail : ∀ {t : Sem Value}, wpC (model prog w) A t R E s₁ → wpC (model prog w) A (t >>= fun r => holding [r] point >>= fun _ => pure r) R E s₁ :=
    fun ht => wpC.bind (ht.mono (fun r s₂ hr => wpC.of (wpAny_bind (wpAny_holding (wpAny_point (wpAny_pure hr))))) fun _ _ x => x)
  have marked (mk : Value) : wpC (model prog w) A (callMarked mk f ([] ++ vs) []) R E s₁ := by
    unfold callMarked
    exact fun Γ p hΓ o => by rw [Sem.wp_keep]; exact h₁.2 Γ p hΓ o
  rcases hk' with rfl | rfl | rfl <;> dsimp only <;> first | exact tail h₁.2 | (split <;> first | exact tail h₁.2 | exact tail (marked _))
theorem WEc.call {x : Str} {p pos : Pos} {e : Expr} {r : List Expr} {f : Value}
    (hf : WE w n env σ (.Name x p) fun d => d = .val f ∧ WA w n env σ (e :: r) fun ds => WOc w n ds (fun vs => PySem.call f vs) Q)
    (hk : keepIn (KF w) f = Bool.true)
    (he : starEach (e :: r) env = (Bool.false, eval e env) :: starEach r env := by rfl) (hplain : (backTo pos (starEach r env)).any (·.1) = Bool.false := by rfl) :
    WEc w n env σ (.Call (.Name x p) (e :: r) [] pos) Q := by
  intro A s g Mt₀ Mt R E ro S q
  show wpC (model prog w) A (do callWith pos (← eval (.Name x p) env) [] (backTo pos (starEach (e :: r) env)) (backToKw pos (keywordEach [] env))) R E s
  refine wpC.step (hf A s g Mt₀ Mt _ E ro S fun v h' tk' d k r1 h2 => ?_)
  obtain ⟨rfl, h3⟩ := h2
  simp only [Rep] at r1
  subst r1
  have S1 := S.keeps k
  refine callWith_C hk (h3 A _ g Mt₀ Mt pos _ E ro S1 fun vs h'' tk'' ds k2 r2 h4 => ?_) he hplain
  have S2 := S1.keeps k2
  refine ⟨S2.now.k, ?_⟩
  exact h4 A _ Mt vs R E ro S2.now S2.bd r2 (Ret.after (s := s) (stays_trans k k2) q)

/-- a def by its body -/
theorem WFc.body {f : Addr} {fd : FuncData} {body : List Stmt} {ob : Obj} {xs : List Str} {ds : List D} {Q : D → Prop}
    (ho : (KF w).lookup f = some ob) (hdata : ob.data = .func fd) (hbody : fd.body = .stmts body) (hcd : codeIn (KF w) fd.code fd.qualname = true) (hclo : fd.closure = []) (hglob : fd.globals = mainGlobals) (hblt : fd.builtins = builtinsNs)
    (hbind : ∀ vs : List Value, vs.length = xs.length → bindArgs fd ⟨vs, []⟩ = pure (xs.zip vs)) (hlen : ds.length = xs.length) (hnd : xs.Nodup)
    (hkind : ∀ L : Addr, ∀ x ∈ xs, fd.scope.names.lookup x = some .local ∨ (fd.scope.names.lookup x = some .cell ∧ ((cellsFrom (L + 1) fd.scope.names []).lookup x).isSome = true))
    (h : ∀ L, WSc w n (callEnvC fd L f) (xs.zip (ds.map Ent.fz)) body fun fl _ => ∃ d, fl = .ret d ∧ Q d)
    (hco : fd.scope.isCoroutine = false := by rfl) (hgen : fd.scope.isGenerator = false := by rfl) (hk : fd.scope.kind = .function := by rfl) : WFc w (n + 1) f ds Q := by
  intro A s Mt vs R E ro G bd r q
  have lv : vs.length = xs.length := r.length.trans hlen
  have nm := zip_names lv.symm
  refine wpC.call (codeC.called (G.k _ _ ho) hdata hbody (by have := ro.d; show A.depth < 1000; omega) G.nl (codeRec_of G.k hcd) (hbind vs lv) hclo hco hgen hk (fun x hx => hkind _ _ (by rw [← nm]; exact List.mem_map.mpr ⟨x, hx, rfl⟩)) fun s₁ I => codeC.func ?_)
  obtain ⟨h₁, tk₁, e₁⟩ := I.toInCall.same
  subst e₁
  have kp0 := I.toInCall.keep
  have kp : Kp s.heap h₁ := .of kp0
  have S : St w s.heap Mt Mt (callEnvC fd s.heap.objs.size f) (xs.zip (ds.map Ent.fz)) h₁ := by
    refine ⟨G, kp, hk, hglob, hblt, I.toInCall.fresh, ⟨_, I.toInCall.ns⟩, fun x c hc => ⟨_, I.cell x c hc⟩, fun x y c hx hy => inj_of_apart I.apart (mem_of_lookup hx) (mem_of_lookup hy), fun a m => let ⟨o, e⟩ := bd a m; ⟨o, kp0 _ _ e⟩, fun a m => ⟨m, let ⟨o, e⟩ := bd a m; Heap.lt_size e⟩, fun _ => [], fun x e he => ?_, fun _ _ _ _ _ _ _ _ ha => (nomatch ha), fun _ _ _ _ ha => (nomatch ha)⟩
    obtain ⟨d, v, rfl, hm, rv⟩ := zip_lookup r he
    refine ⟨v, ?_, ⟨rv.keepD (.of_stays kp), rfl⟩, List.nodup_nil, fun a ha => (nomatch ha)⟩
    have hxm : x ∈ xs := by rw [← nm]; exact List.mem_map.mpr ⟨_, hm, rfl⟩
    rcases hkind s.heap.objs.size x hxm with hl | ⟨hc, hs⟩
    · exact .inl ⟨hl, _, I.toInCall.ns, bindL_val hl (by rw [nm]; exact hnd) hm⟩
    · obtain ⟨c, hcc⟩ := Option.isSome_iff_exists.mp hs
      refine .inr ⟨hc, c, hcc, ?_⟩
      have := I.cell x c hcc
      rw [bindC_val (show (callEnvC fd s.heap.objs.size f).kindOf x ≠ some .local by intro e; rw [show (callEnvC fd s.heap.objs.size f).kindOf x = _ from hc] at e; cases e) (by rw [nm]; exact hnd) hm] at this
      exact this
  refine h _ _ _ s.heap Mt Mt _ _ (ro.deeper _) S fun fl h' tk' fd' σ' Mt' S' st fr hp => ?_
  obtain ⟨d, rfl, hQ⟩ := hp
  cases fl <;> first | exact fr.elim | skip
  rename_i v
  exact q v h' tk' d S'.stays (Rep.less (fun a o _ m => (S'.sub a m).1) fr) hQ
end
end Mine
end

section
open PySem PySem.W PyProof.Rows PySem.Calls
set_option Elab.async false
set_option linter.unusedVariables false
set_option maxRecDepth 100000
namespace Mine
section
variable {w : World} {n : Nat} {env : Env} {σ : Sto} {Q : D → Prop} {P : FlowD → Sto → Prop}

theorem wpC.noted {α : Type} {M : Model} {A : Around} {E : Value → Shared → Prop} {s : Shared} {env : Env} {m : Sem α} {Q : α → Shared → Prop} (h : wpC M A m Q (notedBy M A env E) s) : wpC M A (m.onRaise fun x => do noteFrame x env; theTreesLotGoes x) Q E s :=
  wpC.onRaise (h.mono (fun _ _ q => q) fun _ _ hx => wpAny_bind (wpAny_mono hx (fun _ _ e => wpAny_theTreesLotGoes e) fun _ _ e => e))
theorem wpC.runOwn {M : Model} {A : Around} {E : Value → Shared → Prop} {s : Shared} {env : Env} {c : Code} {Q : Flow → Shared → Prop}
    (hc : codeC M (A.mark none) c (fun r s' => match r with | .ok f => Q f s' | .error e => cameBackBy M A env E e s') s) (ok : okCode c = true) : wpC M A (PySem.runOwn c env none) Q E s := by
  unfold PySem.runOwn
  exact wpC.onRaise (wpC.run hc ok)

/-- a loop over items -/
noncomputable def LoopWc (w : World) (n : Nat) (env : Env) (t : Expr) (body : List Stmt) : List D → Sto → (FlowD → Sto → Prop) → Prop
  | [], σ, P => P .next σ
  | d :: ds, σ, P => WG w n env σ t d fun σ1 => WSc w n env σ1 body fun fl σ2 => match fl with
    | .next => LoopWc w n env t body ds σ2 P
    | .cont => LoopWc w n env t body ds σ2 P
    | .brk => P .next σ2
    | .ret d => P (.ret d) σ2

theorem WXc.for {t iter : Expr} {body : List Stmt} {pos : Pos} (h : WE w n env σ iter fun d => ∃ ds, itemsOf d = some ds ∧ LoopWc w n env t body ds σ P)
    (hs : ∀ x, foldedSetIterable iter env x = pure x := by intro _; rfl) : WXc w n env σ (.For t iter body [] pos) P := by
  intro A s g Mt₀ Mt R E ro S q
  rw [exec_For]
  refine wpC.at (wpC.step (h A s g Mt₀ Mt _ E ro S fun v h' tk' d kk r hl => ?_))
  obtain ⟨ds, hi, hL⟩ := hl
  have S1 := S.keeps kk
  refine wpC.step (wpAny_of_eq (hs v) (wpC.at ?_))
  refine wpC.step (wpAny_holding (ItAt.make (s := { s with heap := h', toks := tk' }) r hi fun o X hf => ?_))
  have S2 := S1.keeps (stays_push h' o)
  have hn : h'.get? h'.objs.size = none := get_size_none h'
  have hm : ¬ Mt h'.objs.size := fun m => by obtain ⟨o, e⟩ := S1.bd _ m; rw [hn] at e; cases e
  have hg : g.get? h'.objs.size = none := by
    cases hq : g.get? h'.objs.size with
    | none => rfl
    | some o => obtain ⟨_, this⟩ := S1.stays.alive hq; rw [hn] at this; cases this
  refine wpC.runOwn ?_ rfl
  refine codeC.loop rfl rfl (fun k s' => ∃ ds' σ' Mt' h'' tk'', k = List.length ds' ∧ s' = { s with heap := h'', toks := tk'' } ∧ St w g Mt₀ Mt' env σ' h'' ∧ Stp env Mt h' Mt' h'' ∧ ¬ Mt' h'.objs.size ∧ ItAt h'' Mt' h'.objs.size ds' ∧ LoopWc w n env t body ds' σ' P) ?_ ds.length
    ⟨ds, σ, Mt, _, _, rfl, rfl, S2, .of_stays (stays_push h' o), hm, X, hL⟩
  rintro k s' ⟨ds', σ', Mt', h'', tk'', rfl, rfl, S', st, hm', X', hL'⟩
  obtain ⟨oi, ho, hh, hd, hc, ns⟩ := X'.obj
  -- one turn: the next item is asked for
  refine wpC.noted (m := forTurn t (.ref h'.objs.size) body [] env) ?_
  unfold forTurn
  refine wpC.at (wpC.step (wpAny_onRaise ?_))
  cases ds' with
  | nil =>
    refine X'.done ro.hd fun h3 tk3 hx => ?_
    refine wpC.pure (.inr ⟨rfl, rfl, .of (codeAny_block (wpAny_execs_nil ?_))⟩)
    exact q .next h3 tk3 .next σ' Mt' (S'.ext ho hh hd hc hm' hg hx) ((Stp.of_stays kk).trans (st.ext hn hx)) trivial hL'
  | cons d ds' =>
    refine X'.next hm' fun v h3 tk3 rv X3 hx => ?_
    have S3 := S'.ext ho hh hd hc hm' hg hx
    refine wpC.step (letOwned_ok X3 (wpC.step (hL' A _ g Mt₀ Mt' v _ _ ro S3 rv fun h4 tk4 σ4 S4 st4 hb => ?_)))
    obtain ⟨o3, ho3, hh3, hd3, hc3, ns3⟩ := X3.obj
    obtain ⟨al, ac⟩ := S3.apart ho3 hd3 hc3
    have X4 : ItAt h4 Mt' h'.objs.size ds' := X3.keep (fun o e => st4.fra _ o e (by rw [ho3] at e; cases e; exact ns3) al ac id) (S3.keepD st4.up) fun _ _ _ m => m
    refine wpC.bind (hb A _ g Mt₀ Mt' _ _ ro S4 fun f h5 tk5 fd σ5 Mt5 S5 st5 fr hp => ?_)
    have stt : Stp env Mt h' Mt5 h5 := ((st.ext hn hx).trans st4.up).trans st5
    have fin : ∀ _ : Unit, LoopWc w n env t body ds' σ5 P → ∃ m, m < (d :: ds').length ∧ ∃ ds' σ' Mt' h'' tk'', m = List.length ds' ∧ ({ s with heap := h5, toks := tk5 } : Shared) = { s with heap := h'', toks := tk'' } ∧ St w g Mt₀ Mt' env σ' h'' ∧ Stp env Mt h' Mt' h'' ∧ ¬ Mt' h'.objs.size ∧ ItAt h'' Mt' h'.objs.size ds' ∧ LoopWc w n env t body ds' σ' P := by
      intro _ hl
      obtain ⟨o4, ho4, hh4, hd4, hc4, ns4⟩ := X4.obj
      obtain ⟨al4, ac4⟩ := S4.apart ho4 hd4 hc4
      have hm5 : ¬ Mt5 h'.objs.size := fun m => (st5.mt _ m).elim hm' fun e => by rw [ho4] at e; cases e
      refine ⟨ds'.length, Nat.lt_succ_self _, ds', σ5, Mt5, h5, tk5, rfl, rfl, S5, stt, hm5, ?_, hl⟩
      exact X4.keep (fun o e => st5.fra _ o e (by rw [ho4] at e; cases e; exact ns4) al4 ac4 hm') (S4.keepD st5) fun a o e m => (st5.mt a m).elim id fun x => by rw [e] at x; cases x
    cases fd with
    | next => cases f <;> first | exact fr.elim | exact wpC.pure (.inl ⟨rfl, fin () hp⟩)
    | cont => cases f <;> first | exact fr.elim | exact wpC.pure (.inl ⟨rfl, fin () hp⟩)
    | brk => cases f <;> first | exact fr.elim | exact wpC.pure (q .next h5 tk5 .next σ5 Mt5 S5 ((Stp.of_stays kk).trans stt) trivial hp)
    | ret d => cases f <;> first | exact fr.elim | exact wpC.pure (q _ h5 tk5 (.ret d) σ5 Mt5 S5 ((Stp.of_stays kk).trans stt) fr hp)

/-! arguments, a method, a comprehension's first items -/
theorem wpC.spliced {A : Around} {E : Value → Shared → Prop} {s : Shared} {x : Sem Value} {rest : List (Bool × Sem Value)} {R : List Value → Shared → Prop}
    (h : wpC (model prog w) A x (fun v s₁ => wpAny (model prog w) A (PySem.spliced rest) (fun vs s₂ => R (v :: vs) s₂) E s₁) E s) : wpC (model prog w) A (PySem.spliced ((Bool.false, x) :: rest)) R E s := by
  rw [PySem.spliced]
  refine wpC.bind (h.mono (fun v s₁ h₁ => wpC.of ?_) fun _ _ x => x)
  simp only [Bool.false_eq_true, if_false]
  exact wpAny_bind (wpAny_pure (wpAny_bind (wpAny_holding (wpAny_mono h₁ (fun vs s₂ h₂ => wpAny_pure h₂) fun _ _ x => x))))
theorem wpC.evalArgs {A : Around} {E : Value → Shared → Prop} {s : Shared} {f : Value} {x : Sem Value} {rest : List (Bool × Sem Value)} {R : Args → Shared → Prop}
    (h : wpC (model prog w) A (PySem.spliced ((Bool.false, x) :: rest)) (fun vs s' => R ⟨vs, []⟩ s') E s) : wpC (model prog w) A (PySem.evalArgs f Bool.true ((Bool.false, x) :: rest) []) R E s := by
  unfold PySem.evalArgs
  show wpC (model prog w) A (PySem.spliced ((Bool.false, x) :: rest) >>= _) R E s
  refine wpC.bind (h.mono (fun vs s' h' => wpC.of ?_) fun _ _ x => x)
  refine wpAny_holding ?_
  exact wpAny_bind (wpAny_pure (wpAny_bind (wpAny_pure (wpAny_pure h'))))
theorem wpC.callBuiltin {A : Around} {E : Value → Shared → Prop} {s : Shared} {pos : Pos} {id : String} {first : List Value} {args : List (Bool × Sem Value)} {R : Value → Shared → Prop} (hplain : args.any (·.1) = Bool.false)
    (h : wpC (model prog w) A (PySem.evalArgs (.builtin id) Bool.true args []) (fun a s₁ => wpAny (model prog w) A (PySem.call (.builtin id) (first ++ a.pos) a.kw) R E s₁) E s) :
    wpC (model prog w) A (callWith pos (.builtin id) first args []) R E s := by
  unfold callWith
  refine wpC.bind (wpC.holding (h.mono (fun a s₁ h₁ => wpC.at (wpC.of ?_)) fun _ _ x => x))
  simp only [hplain, List.any_nil, Bool.or_false]
  refine wpAny_bind (wpAny_pure ?_)
  exact wpAny_bind (wpAny_mono h₁ (fun r s₂ hr => wpAny_bind (wpAny_holding (wpAny_point (wpAny_pure hr)))) fun _ _ x => x)

/-- a method with one argument -/
theorem WEc.meth {o : Expr} {name : Str} {apos pos : Pos} {e : Expr} {T id : String}
    (pa : PlainAttrs T) (slot : Slot T name id) (hty : typeOf (.builtin id) = pure (.type "method_descriptor"))
    (h : WE w n env σ o fun d => IsT w d T ∧ WEc w n env σ e fun a => WO w n [d, a] (fun vs => PySem.call (.builtin id) vs) Q)
    (hbase : attributeBase o name env (eval o env) = eval o env := by rfl)
    (hfew : ((backTo pos (starEach [e] env)).all (fun x => !x.1) && (backToKw pos (keywordEach [] env)).all (fun x => x.1.isSome)
      && decide (([e] : List Expr).length + ([] : List Keyword).length + (if ([] : List Keyword).isEmpty then 0 else 1) < 30)) = Bool.true := by rfl)
    (hline : (apos.endLine == pos.line) = Bool.true := by rfl)
    (he : backTo pos (starEach [e] env) = [(Bool.false, eval e env)] := by rfl) :
    WEc w n env σ (.Call (.Attribute o name apos) [e] [] pos) Q := by
  intro A s g Mt₀ Mt R E ro S q
  rw [arm_eval_Call, hbase]
  refine wpC.step (h A s g Mt₀ Mt _ E ro S fun v h' tk' d k r1 h2 => ?_)
  have S1 := S.keeps k
  obtain ⟨t1, t2⟩ := h2.1 { s with heap := h', toks := tk' } Mt v r1 S1.now
  refine wpC.at ?_
  have hform : methodCallForm (([e] : List Expr).length + ([] : List Keyword).length) (backTo pos (starEach [e] env)) (backToKw pos (keywordEach [] env)) = Bool.true := hfew
  have hpos : methodCallPos Bool.true o env apos pos = pure pos := by unfold methodCallPos; simp [hline]
  unfold methodCall
  rw [hform]
  refine wpC.step (wpAny_holding (getMethod_builtin t1 pa slot hty t2 ?_))
  refine wpC.step (wpAny_of_eq hpos ?_)
  refine wpC.callBuiltin (by rw [he]; rfl) ?_
  rw [he]
  refine wpC.evalArgs (wpC.spliced (h2.2 A _ g Mt₀ Mt _ E ro S1 fun u h'' tk'' a k2 r2 h4 => ?_))
  have S2 := S1.keeps k2
  refine wpAny_pure ?_
  exact h4 A _ Mt [v, u] R E ro S2.now S2.bd (.cons (r1.keepD (.of_stays k2)) (.cons r2 .nil)) (Ret.after (s := s) (stays_trans k k2) q)

theorem WEc.comp1 {elt t iter : Expr} {ifs : List Expr} {scope : Scope} {pos : Pos} (cl : List (Str × Addr)) (τ : Sto)
    (h : WEc w n env σ iter fun d => ∃ items, itemsOf d = some items ∧ ∀ C, CompI w n (compX scope cl C env) t ifs (Emit w n (compX scope cl C env) elt) items τ [] fun acc => Q (.list acc))
    (hcap : ∀ C, Cap env (compX scope cl C env) σ τ) (hcl : ClOk env cl) (hclos : closureFor scope env = pure cl := by rfl) (hkind : scope.kind = .function := by rfl)
    (hnames : ∀ x ∈ scope.names, x.2 = .local → scope.names.lookup x.1 = some .local := by decide) (hs : ∀ x, foldedSetIterable iter env x = pure x := by intro _; rfl) :
    WEc w n env σ (.ListComp elt [⟨t, iter, ifs, 0⟩] scope pos) Q := by
  intro A s g Mt₀ Mt R E ro S q
  rw [eval_ListComp]
  have split : ∀ (p : Pos) (na : Sem Value) (first : Sem Value), comprehension (.ListComp elt [⟨t, iter, ifs, 0⟩] scope pos) scope env p na Bool.false first Option.none = (first >>= fun x => comprehension (.ListComp elt [⟨t, iter, ifs, 0⟩] scope pos) scope env p na Bool.false (pure x) Option.none) := fun p na first => rfl
  refine wpC.eq (split _ _ _) (wpC.bind (h A s g Mt₀ Mt _ E ro S fun v h' tk' d kk r hi => wpC.of ?_))
  obtain ⟨items, hi, hI⟩ := hi
  have S1 := S.keeps kk
  refine wpAny_comprehension_free (use := Option.none) rfl hs hclos hkind hnames (wpAny_pure ?_)
  exact comp_core (RR := fun acc C => compPost (model prog w) A E Option.none R acc C) (tree := fun C a => tree1 elt (compX scope cl C env) a) (K := fun C => Emit w n (compX scope cl C env) elt) ro S1 r hi hkind hcl.get hcap
    (fun C it a => turn1 _ _ _ _ _ _ _ _ _) (fun C a σ acc Q hE => hE.sound) hI fun a h2 tk2 acc C m k2 r2 hq hn hC _ => comp_end (s := { s with heap := h', toks := tk' }) S1 (Ret.after (s := s) kk q) k2 r2 hq hn hC
end
end Mine
end

section
open PySem PySem.W PyProof.Rows PySem.Calls
set_option Elab.async false
set_option linter.unusedVariables false
set_option maxRecDepth 100000
namespace Mine.RF
theorem ba_mro : mroOf (.type "bytearray") = pure [.type "bytearray", .type "object"] := by rw [mroOf_type]; kernel_rfl
theorem ba_lookup_new : typeLookup (.type "bytearray") "__new__" = pure (some (.builtin "bytearray.__new__")) := by rw [typeLookup_type, builtinLookup_eq_fast]; kernel_rfl
theorem ba_slot_init : Slot "bytearray" "__init__" "bytearray.__init__" :=
  .of (owner := "bytearray") (n := "__init__") (by rw [typeLookup_type, builtinLookup_eq_fast]; kernel_rfl) (by decide +kernel) (by decide +kernel) (by decide +kernel)
    (by first | exact .inl (by decide +kernel) | exact .inr (by decide +kernel)) (by rw [isSubtype_type]; kernel_rfl)
theorem ba_called : TypeCalled "bytearray" "bytearray.__new__" "bytearray.__init__" :=
  ⟨by decide +kernel, by decide +kernel, ⟨_, _, ba_mro⟩, madeBy_type ba_mro ba_lookup_new (by decide +kernel), by decide +kernel, by rw [isSubtype_type]; kernel_rfl, ba_slot_init⟩
theorem ba_typeCall (a : Value) : checkTypeCall "bytearray" ⟨[a], []⟩ = pure () := by kernel_rfl
theorem ba_newCall (a : Value) : checkBuiltinCall "bytearray.__new__" ⟨[.type "bytearray", a], []⟩ = pure () := by kernel_rfl
theorem ba_entry_new : entryFor table "bytearray.__new__" = some Builtin.«list.__new__» :=
  entryFor_alias (id' := "list.__new__") (by kernel_rfl) (by first | rfl | decide +kernel) (by decide +kernel) (by kernel_rfl)
theorem ba_entry_init : entryFor table "bytearray.__init__" = some Builtin.«bytearray.__init__» := entryFor_of_tree (by kernel_rfl)
theorem ba_args_init (a b : Value) : argsOk "bytearray.__init__" ⟨[a, b], []⟩ := by unfold argsOk; kernel_rfl
theorem ba_plain_new : plainId "bytearray.__new__" = true := by decide +kernel
theorem ba_plain_init : plainId "bytearray.__init__" = true := by decide +kernel
theorem ba_sub : isSubtype (.type "bytearray") (.type "bytearray") = pure true := by rw [isSubtype_type]; kernel_rfl
theorem ba_release : typeLookup (.type "bytearray") "__release_buffer__" = pure (some (.builtin "bytearray.__release_buffer__")) := by rw [typeLookup_type, builtinLookup_eq_fast]; kernel_rfl
theorem ba_bind (v : Value) : Builtin.Bytes.bindOptional "bytearray.__init__" "bytearray" ["source", "encoding", "errors"] [v] [] = pure [some v, none, none] := by kernel_rfl
set_option maxRecDepth 1000000 in
set_option maxHeartbeats 4000000 in
theorem ba_owner : ("bytearray.__new__".splitOn ".__new__").headD "" = "bytearray" := by simp +decide [String.splitOn, String.splitOnAux]
theorem int_index : typeLookup (.type "int") "__index__" = pure (some (.builtin "int.__index__")) := by rw [typeLookup_type, builtinLookup_eq_fast]; kernel_rfl
end Mine.RF
namespace Mine
noncomputable abbrev baObj (b : Array UInt8) : Obj := { cls := .type "bytearray", data := .bytearray b 0 }
section
variable {w : World} {A : Around} {E : Value → Shared → Prop} {s : Shared}
theorem code_ba_new (a : Value) {Q₁ : Value → Shared → Prop} (h : Q₁ (.ref s.heap.objs.size) { s with heap := s.heap.push (baObj #[]) }) :
    codeAny (model prog w) A (.call (.builtin "bytearray.__new__") ⟨[.type "bytearray", a], []⟩) (wants Q₁ E) s := by
  refine codeAny_of_tree ?_
  show wpAny _ A.in1 (do checkBuiltinCall "bytearray.__new__" ⟨[.type "bytearray", a], []⟩; again (.builtin "bytearray.__new__" ⟨[.type "bytearray", a], []⟩)) _ _ s
  refine wpAny_bind (wpAny_of_eq (RF.ba_newCall a) (wpAny_pure ⟨plainId_quiet RF.ba_plain_new _, codeAny_builtin_stack RF.ba_entry_new rfl fun p st => ?_⟩))
  rw [Around.under_plainId RF.ba_plain_new _]
  have hsub := RF.ba_sub
  have hown := RF.ba_owner
  obtain ⟨hp, g, d, tk, os⟩ := s
  simp only [hown]
  wp_walk
  exact h

theorem exported_no {a : Addr} {Q : Bool → Shared → Prop} (h : Q false s) : wpC (model prog w) A (Builtin.Bytes.exported (.ref a)) Q E s := by
  intro Γ p hΓ o
  unfold Builtin.Bytes.exported
  rw [Sem.wp_bind']
  unfold stack
  rw [Sem.wp_stack, Sem.wp_pure, Sem.wp_pure']
  have key : ∀ l : List (Code × Pos), (∀ x ∈ l, okCode x.1 = true) → ∀ f : Code × Pos → Bool, (∀ c p, okCode c = true → f (c, p) = false) → l.any f = false := fun l hl f hf => by
    rw [List.any_eq_false]
    intro x hx
    rw [hf x.1 x.2 (hl x hx)]
    decide
  rw [key _ (fun x hx => ?_) _ (fun c p hc => ?_)]
  · exact h
  · rcases List.mem_cons.mp hx with rfl | hx
    · exact o.1
    · exact o.2 x hx
  · cases c with
    | builtin id args =>
      obtain ⟨pos, kw⟩ := args
      simp only [okCode, List.contains_cons, List.contains_nil, Bool.or_false, Bool.or_eq_true, beq_iff_eq] at hc
      rcases hc with rfl | rfl | rfl | rfl <;> cases pos <;> first | rfl | exact (congrArg (_ && ·) (show Builtin.Bytes.decodersThatHold.contains _ = false by decide +kernel)).trans (Bool.and_false _)
    | _ => rfl
theorem wp_ownRelease {a : Addr} {b : Array UInt8} {Q : Bool → Shared → Prop} (ho : s.heap.get? a = some (baObj b)) (h : Q false s) : wpAny (model prog w) A (Builtin.Bytes.ownRelease (.ref a)) Q E s := by
  have hT : s.TypeIs (.ref a) "bytearray" := ⟨_, ho, rfl⟩
  unfold Builtin.Bytes.ownRelease Builtin.Bytes.slotIsOwn
  refine wpAny_bind (wpAny_bind (wpAny_specialOf hT RF.ba_release ?_))
  have e1 : ("bytearray.__release_buffer__".endsWith ("." ++ "__release_buffer__")) = true := by decide +kernel
  have e2 : "bytearray.__release_buffer__".dropRight ("__release_buffer__".length + 1) = "bytearray" := by decide +kernel
  simp only [e1, e2, Bool.not_true, Bool.false_eq_true, if_false, pure_bind]
  exact wpAny_isInstance hT RF.ba_sub (wpAny_pure h)

theorem wp_baWrite {a : Addr} {b : Array UInt8} {f : Array UInt8 → Array UInt8} {Q : Unit → Shared → Prop} (ho : s.heap.get? a = some (baObj b)) (hz : (f b).size ≤ sizeLine)
    (h : ∀ h', Heap.SameBut a s.heap h' → h'.get? a = some (baObj (f b)) → Q () { s with heap := h' }) : wpAny (model prog w) A (Builtin.Bytes.write (.ref a) f) Q E s := by
  unfold Builtin.Bytes.write updateBytearray
  refine wpAny_bind (wpAny_load ho ?_)
  refine wpAny_bind (wpAny_update ho ?_)
  have e : (s.heap.update a (Obj.mapBytearray f)).get? a = some (baObj (f b)) := Heap.get?_update_self (Obj.mapBytearray f) ho rfl
  refine wpAny_lookBehind e ?_ (h _ (Heap.SameBut.update _ _ _) e)
  show (if (f b).size > sizeLine then some "bytearray:memory" else none) = none
  rw [if_neg (Nat.not_lt.mpr hz)]

theorem asStr_int (i : Int) (t : Tok) : asStr? (.int i t) = pure none := rfl
theorem asIndex_int (i : Int) (t : Tok) : asIndex (.int i t) = pure i := rfl
theorem ba_init {a : Addr} {n : Nat} {t : Tok} {Q : Fin → Shared → Prop} (hn : n ≤ 100000) (ho : s.heap.get? a = some (baObj #[]))
    (h : ∀ h' tk, Heap.SameBut a s.heap h' → h'.get? a = some (baObj (Array.replicate n 0)) → Q (.done (.ret .none)) { s with heap := h', toks := tk }) :
    wpC (model prog w) A (Builtin.«bytearray.__init__» ⟨[.ref a, .int (n : Int) t], []⟩) Q E s := by
  unfold Builtin.«bytearray.__init__»
  refine wpC.step (wp_ownRelease ho ?_)
  refine wpC.eq (if_neg (by decide)) ?_
  refine wpC.step (wpAny_of_eq (RF.ba_bind _) ?_)
  refine wpC.step (wpAny_of_eq (a := ()) rfl ?_)
  refine wpC.step (wpAny_of_eq (a := ()) rfl ?_)
  refine wpC.bind ?_
  unfold orM
  refine wpC.bind (exported_no ?_)
  show wpC _ _ (Builtin.Bytes.exportsOf (.ref a) >>= fun x => pure (decide (x > 0))) _ _ _
  refine wpC.step ?_
  unfold Builtin.Bytes.exportsOf
  refine wpAny_bind (wpAny_load ho (wpAny_pure (wpC.pure ?_)))
  refine wpC.eq (if_neg (by decide)) (wpC.of ?_)
  show wpAny _ _ (Builtin.Bytes.write (.ref a) (fun _ => #[]) >>= _) _ _ _
  refine wpAny_bind ?_
  refine wp_baWrite ho (by simp) fun h1 hs1 ho1 => ?_
  show wpAny _ _ (asStr? (.int (n : Int) t) >>= _) _ _ _
  refine wpAny_bind ?_
  rw [asStr_int]
  refine wpAny_pure ?_
  dsimp only
  simp only [Option.isSome_none, Bool.false_eq_true, if_false, pure_bind]
  have e0 : specialOf (.int (n : Int) t) "__index__" = pure (some (.builtin "int.__index__")) := by
    unfold specialOf
    show (typeOf (.int (n:Int) t) >>= _) = _
    rw [show typeOf (.int (n:Int) t) = pure (.type "int") from rfl, pure_bind]
    exact RF.int_index
  have e1 : Builtin.Bytes.fitsIndex (n : Int) = true := by simp [Builtin.Bytes.fitsIndex]; omega
  have e2 : ¬ ((n : Int) < 0) := by omega
  have e3 : ((n : Int) == 2 ^ 63 - 1) = false := by simp; omega
  have e4 : Builtin.Bytes.tooLong (n : Int).toNat = false := by have : sizeLine = 16777216 := rfl; simp [Builtin.Bytes.tooLong]; omega
  have e5 : (pure (n : Int) : Sem Int).attempt = pure (.ok (n : Int)) := rfl
  simp only [e0, pure_bind, Option.isSome_some, if_true, asIndex_int, e5, e1, e3, e4, if_neg e2, Bool.not_true, Bool.false_eq_true, if_false]
  refine wpAny_bind (wpAny_rule ?_)
  by_cases h0 : n = 0
  · subst h0
    rw [if_neg (by decide)]
    exact wpAny_pure (h h1 s.toks hs1 ho1)
  · rw [if_pos (by omega)]
    refine wpAny_bind (wp_baWrite (s := { s with heap := h1 }) ho1 (by have : sizeLine = 16777216 := rfl; simp; omega) fun h2 hs2 ho2 => wpAny_pure ?_)
    rw [Int.toNat_natCast] at ho2
    exact h h2 s.toks (hs1.trans hs2) ho2

theorem codeC.builtin {id : String} {args : Args} {b : Builtin} {R : Result → Shared → Prop} (hb : entryFor table id = some b)
    (h : wpC (model prog w) (A.under (.builtin id args)) (b args)
      (fun fin s' => match fin with | .done f => R (.ok f) s' | .again c' => c'.quiet = true ∧ okCode c' = true ∧ codeC (model prog w) A c' R s') (fun e s' => R (.error e) s') s) :
    codeC (model prog w) A (.builtin id args) R s := by
  refine codeC.tree ?_
  show wpC _ _ (match entryFor table id with | some b => b args | none => unsupported ((withoutEnding? id "#data").getD id)) _ _ s
  rw [hb]; exact h

theorem code_ba_init {a : Addr} {n : Nat} {t : Tok} {R : Result → Shared → Prop} (hn : n ≤ 100000) (ho : s.heap.get? a = some (baObj #[]))
    (h : ∀ h' tk, Heap.SameBut a s.heap h' → h'.get? a = some (baObj (Array.replicate n 0)) → R (.ok (.ret .none)) { s with heap := h', toks := tk }) :
    codeC (model prog w) A (.call (.builtin "bytearray.__init__") ⟨[.ref a, .int (n : Int) t], []⟩) R s := by
  refine codeC.tree ?_
  show wpC _ A.in1 (do checkBuiltinCall "bytearray.__init__" ⟨[.ref a, .int (n : Int) t], []⟩; again (.builtin "bytearray.__init__" ⟨[.ref a, .int (n : Int) t], []⟩)) _ _ s
  refine wpC.step (RF.ba_slot_init.check _ _ _ _ _ _ _ _ ⟨_, ho, rfl⟩ (RF.ba_args_init _ _) (wpC.pure ⟨plainId_quiet RF.ba_plain_init _, rfl, ?_⟩))
  refine codeC.builtin RF.ba_entry_init ?_
  rw [Around.under_plainId RF.ba_plain_init _]
  exact ba_init hn ho fun h' tk hs e => h h' tk hs e

theorem call_bytearray {n : Nat} {t : Tok} {Q : Value → Shared → Prop} (hn : n ≤ 100000)
    (h : ∀ h' tk, Heap.SameBut s.heap.objs.size (s.heap.push (baObj #[])) h' → h'.get? s.heap.objs.size = some (baObj (Array.replicate n 0)) → Q (.ref s.heap.objs.size) { s with heap := h', toks := tk }) :
    wpC (model prog w) A (call (.type "bytearray") [.int (n : Int) t]) Q E s := by
  refine wpC.call (codeC.tree ?_)
  show wpC _ _ (callAny (.type "bytearray") _) _ _ _
  refine wpC.pure ⟨Code.quiet_builtin _ (by decide +kernel), rfl, codeC.builtin F.entry_type_call ?_⟩
  rw [Around.under_plain (weight_type_call_type "bytearray" _ []) rfl]
  obtain ⟨c, tl, hmro⟩ := RF.ba_called.mro
  have hmade := RF.ba_called.made
  have h1 := RF.ba_called.notType
  have h2 := RF.ba_called.canCreate
  have h3 := RF.ba_typeCall (.int (n : Int) t)
  show wpC _ _ (Builtin.«type.__call__» ⟨[.type "bytearray", .int (n : Int) t], []⟩) _ _ s
  unfold Builtin.«type.__call__»
  dsimp only
  simp only [h1, Bool.false_eq_true, if_false, h2, h3, hmro, hmade, pure_bind, List.isEmpty_cons]
  refine wpC.step (wpAny_holding (wpAny_call (codeAny_mono (code_ba_new (E := fun _ _ => False) _ (Q₁ := fun v s' => v = .ref s.heap.objs.size ∧ s' = { s with heap := s.heap.push (baObj #[]) }) ⟨rfl, rfl⟩) fun r s' hr => ?_)))
  match r, hr with
  | .ok (.ret v), hr =>
    obtain ⟨rfl, rfl⟩ := hr
    have ho : (s.heap.push (baObj #[])).get? s.heap.objs.size = some (baObj #[]) := Heap.get?_push_size _ rfl
    have hT : ({ s with heap := s.heap.push (baObj #[]) } : Shared).TypeIs (.ref s.heap.objs.size) "bytearray" := ⟨_, ho, rfl⟩
    refine wpC.step (wpAny_isInstance hT RF.ba_sub ?_)
    simp only [Bool.not_true, Bool.false_eq_true, if_false]
    refine wpC.bind (wpC.holding ?_)
    unfold callSpecial?
    refine wpC.step (wpAny_specialOf hT RF.ba_slot_init.lookup ?_)
    refine wpC.holding ?_
    rw [RF.ba_slot_init.bind]
    refine wpC.step (wpAny_pure ?_)
    refine wpC.bind (wpC.call (code_ba_init hn ho fun h' tk hs e => ?_))
    refine wpC.pure (wpC.eq (if_neg (by decide)) (wpC.pure ?_))
    exact h h' tk hs e
end
end Mine
end

section
open PySem PySem.W PyProof.Rows PySem.Calls
set_option Elab.async false
set_option linter.unusedVariables false
set_option maxRecDepth 100000
namespace Mine.RF
theorem ba_slot_setitem : Slot "bytearray" "__setitem__" "bytearray.__setitem__" :=
  .of (owner := "bytearray") (n := "__setitem__") (by rw [typeLookup_type, builtinLookup_eq_fast]; kernel_rfl) (by decide +kernel) (by decide +kernel) (by decide +kernel)
    (by first | exact .inl (by decide +kernel) | exact .inr (by decide +kernel)) (by rw [isSubtype_type]; kernel_rfl)
theorem ba_entry_setitem : entryFor table "bytearray.__setitem__" = some Builtin.«bytearray.__setitem__» := entryFor_of_tree (by kernel_rfl)
theorem ba_args_setitem (a b c : Value) : argsOk "bytearray.__setitem__" ⟨[a, b, c], []⟩ := by unfold argsOk; kernel_rfl
theorem ba_no_bytes : typeLookup (.type "bytearray") "__bytes__" = pure none := by rw [typeLookup_type, builtinLookup_eq_fast]; kernel_rfl
theorem ba_no_index : typeLookup (.type "bytearray") "__index__" = pure none := by rw [typeLookup_type, builtinLookup_eq_fast]; kernel_rfl
theorem ba_buffer : typeLookup (.type "bytearray") "__buffer__" = pure (some (.builtin "bytearray.__buffer__")) := by rw [typeLookup_type, builtinLookup_eq_fast]; kernel_rfl
theorem index_int (i : Int) (t : Tok) : specialOf (.int i t) "__index__" = pure (some (.builtin "int.__index__")) := by
  unfold specialOf
  show (typeOf (.int i t) >>= _) = _
  rw [show typeOf (.int i t) = pure (.type "int") from rfl, pure_bind]
  exact int_index
end Mine.RF
namespace Mine
section
variable {w : World} {n : Nat} {env : Env} {σ : Sto} {g h h' : Heap} {Mt₀ Mt : Addr → Prop} {fr : List Addr} {Q : D → Prop} {P : FlowD → Sto → Prop}

theorem StF.own_at {a : Addr} {o : Obj} (S : StF w g Mt₀ Mt fr env σ h) (k : Kp h h') (ha : h.get? a = none) (ho : h'.get? a = some o) : StF w g Mt₀ (fun b => Mt b ∨ b = a) (a :: fr) env σ h' := by
  have le : ∀ b o', h.get? b = some o' → (Mt b ∨ b = a) → Mt b := fun b o' hb m => m.elim id fun q => by rw [q, ha] at hb; cases hb
  have S' := S.keeps k
  refine ⟨S'.gd, S'.stays, S'.kind, S'.glob, S'.blt, S'.above, S'.ns, S'.cells, S'.inj, ?_, fun a m => ⟨.inl (S.sub a m).1, (S.sub a m).2⟩, ?_⟩
  · rintro b (m | rfl)
    · exact S'.bd b m
    · exact ⟨o, ho⟩
  · obtain ⟨μ, hμ, hdis, hfr⟩ := S.vars
    refine ⟨μ, fun x e he => ?_, hdis, fun x e he b hb hq => ?_⟩
    · obtain ⟨v, V, r, nd, hh⟩ := hμ x e he
      exact ⟨v, V.keeps k, (entAt_less r le).keeps k, nd, fun b hb => ⟨.inl (hh b hb).1, (hh b hb).2⟩⟩
    · obtain ⟨v, V, r, nd, hh⟩ := hμ x e he
      rcases List.mem_cons.mp hq with rfl | hq
      · obtain ⟨o', e'⟩ := S.bd _ (hh _ hb).1
        rw [ha] at e'; cases e'
      · exact hfr x e he b hb hq
theorem Stp.own_at {a : Addr} (k : Kp h h') (ha : h.get? a = none) : Stp env Mt h (fun b => Mt b ∨ b = a) h' :=
  ⟨fun b o e s _ _ _ => k.k b o e (.inl s), fun b m => m.imp id fun q => by rw [q]; exact ha, fun b o e => k.alive e⟩

theorem callWith_Ct {env : Env} {A : Around} {E : Value → Shared → Prop} {s : Shared} {T : String} {pos : Pos} {e : Expr} {r : List Expr} {R : Value → Shared → Prop}
    (h : wpAny (model prog w) A (spliced (backTo pos (starEach (e :: r) env))) (fun vs s₁ => wpC (model prog w) A (PySem.call (.type T) vs) R E s₁) E s)
    (he : starEach (e :: r) env = (Bool.false, eval e env) :: starEach r env) (hplain : (backTo pos (starEach r env)).any (·.1) = Bool.false) :
    wpC (model prog w) A (callWith pos (.type T) [] (backTo pos (starEach (e :: r) env)) []) R E s := by
  rw [he] at h ⊢
  have hp : (List.any (backTo pos ((Bool.false, eval e env) :: starEach r env)) (·.1) || List.any ([] : List (Option Str × Sem Value)) (·.1.isNone)) = Bool.false := by
    show ((Bool.false || (backTo pos (starEach r env)).any (·.1)) || Bool.false) = Bool.false
    rw [hplain]; rfl
  unfold callWith
  refine wpC.step (wpAny_holding (evalArgs_plain (wpAny_mono h (fun vs s₁ h₁ => ?_) fun _ _ x => x)))
  refine wpC.at ?_
  simp only [hp]
  refine wpC.step (wpAny_pure ?_)
  dsimp only
  exact wpC.bind (h₁.mono (fun r s₂ hr => wpC.of (wpAny_bind (wpAny_holding (wpAny_point (wpAny_pure hr))))) fun _ _ x => x)
theorem WXc.newba {x y : Str} {px cp pos yp : Pos} {e : Expr} (hx : StoreOk env x) (hy : WE w n env σ (.Name y yp) fun d => d = .val (.type "bytearray"))
    (h : WE w n env σ e fun d => ∃ k : Nat, d = .int k ∧ k ≤ 100000 ∧ P .next ((x, .ba (Array.replicate k 0)) :: σ))
    (he : starEach [e] env = [(Bool.false, eval e env)] := by rfl)
    (hs : swapsWith (.Call (.Name y yp) [e] [] cp) (some (.Name x px)) pos.line env = pure Bool.false := by rfl) : WXc w n env σ (.Assign [.Name x px] (.Call (.Name y yp) [e] [] cp) pos) P := by
  intro A s g Mt₀ Mt R E ro S q
  rw [exec_Assign_Name env x px _ pos hs]
  refine wpC.at (wpC.bind ?_)
  show wpC (model prog w) A (do callWith cp (← eval (.Name y yp) env) [] (backTo cp (starEach [e] env)) (backToKw cp (keywordEach [] env))) _ E s
  refine wpC.step (hy A s g Mt₀ Mt _ E ro S fun v h' tk' d k r1 h2 => ?_)
  subst h2
  simp only [Rep] at r1
  subst r1
  have S1 := S.keeps k
  refine callWith_Ct ?_ he rfl
  rw [he]
  refine spliced_cons (h A _ g Mt₀ Mt _ E ro S1 fun u h2 tk2 d2 k2 r2 hq => ?_)
  show wpAny _ _ (pure []) _ _ _
  refine wpAny_pure ?_
  obtain ⟨m, rfl, hm, hp⟩ := hq
  obtain ⟨t, rfl⟩ := r2.int'
  have S2 := S1.keeps k2
  refine call_bytearray hm fun h3 tk3 hs3 ho3 => wpC.of ?_
  have k3 : Kp h2 h3 := .of fun b o e => (hs3.2 b (Nat.ne_of_lt (Heap.lt_size e))).trans (Heap.get?_push_of_some _ e)
  have hn : h2.get? h2.objs.size = none := get_size_none h2
  have S3 := S2.own_at k3 hn ho3
  refine wpAny_bind (wpAny_standAt (wpAny_bind (wpAny_bindName (store_ent (e := .ba (Array.replicate m 0)) (as := [h2.objs.size]) S3 hx ⟨_, rfl, rfl, ho3⟩ (fun a ha => ?_) (by simp) fun h4 tk4 b S4 pl hs4 hb4 => wpAny_pure ?_))))
  · rw [List.mem_singleton.mp ha]; exact ⟨.inr rfl, size_le S2⟩
  · exact q .next h4 tk4 .next _ _ S4 ((((Stp.of_stays k).trans (.of_stays k2)).trans (.own_at k3 hn)).trans (.of_place pl hs4 hb4 fun _ m => .inl m)) trivial hp

theorem wp_setItem_ba {A : Around} {E : Value → Shared → Prop} {s : Shared} {a : Addr} {b : Array UInt8} {k v : Nat} {t u : Tok} {R : Unit → Shared → Prop} (ho : s.heap.get? a = some (baObj b)) (hk : k < b.size) (hz : b.size ≤ 100000) (hv : v < 256)
    (hq : ∀ h', Heap.SameBut a s.heap h' → h'.get? a = some (baObj (b.setIfInBounds k v.toUInt8)) → R () { s with heap := h' }) : wpAny (model prog w) A (setItem (.ref a) (.int (k : Int) t) (.int (v : Int) u)) R E s := by
  have hT : s.TypeIs (.ref a) "bytearray" := ⟨_, ho, rfl⟩
  unfold setItem
  try with_reducible refine wpAny_holding ?_
  first | refine wpAny_bind (wpAny_pure ?_) | skip
  refine wpAny_bind (wpAny_sequenceKey hT (by decide) ?_)
  refine wpAny_bind (wpAny_callSpecial?_slot (name := Str.ofString "__setitem__") hT RF.ba_slot_setitem
    (wpAny_call_entry RF.ba_slot_setitem hT RF.ba_entry_setitem ?_ (RF.ba_args_setitem _ _ _)))
  show wpAny _ _ (Builtin.Bytes.subscript? (.int (k : Int) t) >>= _) _ _ s
  refine wpAny_bind ?_
  have e1 : Builtin.Bytes.subscript? (.int (k : Int) t) = pure (some (k : Int)) := by
    have f1 : Builtin.Bytes.fitsIndex (k : Int) = true := by simp [Builtin.Bytes.fitsIndex]; omega
    unfold Builtin.Bytes.subscript?
    simp only [RF.index_int, pure_bind, Option.isNone_some, Bool.false_eq_true, if_false, asIndex_int, f1, Bool.not_true]
  have e2 : Builtin.Bytes.byteValue (.int (v : Int) u) = pure v.toUInt8 := by
    unfold Builtin.Bytes.byteValue
    have f1 : ¬ (decide ((v : Int) < 0) || decide ((v : Int) ≥ 256)) = true := by simp; omega
    simp only [asIndex_int, pure_bind, if_neg f1, Int.toNat_natCast]
  rw [e1]
  refine wpAny_pure ?_
  show wpAny _ _ (Builtin.Bytes.byteValue (.int (v : Int) u) >>= _) _ _ s
  rw [e2]
  refine wpAny_bind (wpAny_pure ?_)
  show wpAny _ _ (Builtin.Bytes.payload (.ref a) >>= _) _ _ s
  refine wpAny_bind ?_
  unfold Builtin.Bytes.payload Builtin.Bytes.payload?
  refine wpAny_bind (wpAny_bind (wpAny_load ho (wpAny_pure (wpAny_pure ?_))))
  have e3 : seqIndex? (k : Int) b.size = some k := by
    have hn : ¬ (k : Int) < 0 := by omega
    simp [seqIndex?, hn, hk]
  rw [e3]
  show wpAny _ _ (Builtin.Bytes.write (.ref a) (·.setIfInBounds k v.toUInt8) >>= _) _ _ s
  refine wpAny_bind (wp_baWrite ho (by have : sizeLine = 16777216 := rfl; simp; omega) fun h' hs e => ?_)
  first
    | exact wpAny_bind (wpAny_pure (wpAny_pure ⟨.none, rfl, wpAny_pure (hq _ hs e)⟩))
    | exact wpAny_pure ⟨.none, rfl, wpAny_pure (hq _ hs e)⟩

theorem WX.setba {x : Str} {px sp pos : Pos} {i e : Expr} {b : Array UInt8} (hx : σ.lookup x = some (.ba b)) (hz : b.size ≤ 100000)
    (h : WE w n env σ e fun d => ∃ v : Nat, d = .int v ∧ v < 256 ∧ WE w n env σ i fun d2 => ∃ k : Nat, d2 = .int k ∧ k < b.size ∧ P .next ((x, .ba (b.setIfInBounds k v.toUInt8)) :: σ))
    (hd : (x == ("__debug__" : Str)) = Bool.false := by decide)
    (hs : swapsWith e (some (.Subscript (.Name x px) i sp)) pos.line env = pure Bool.false := by rfl) : WX w n env σ (.Assign [.Subscript (.Name x px) i sp] e pos) P := by
  intro A s g Mt₀ Mt R E ro S q
  refine wpAny_Assign_Subscript (h A s g Mt₀ Mt _ E ro S fun v h1 tk1 d k1 r1 h2 => ?_) hs
  obtain ⟨vn, rfl, hv, h2⟩ := h2
  obtain ⟨tv, rfl⟩ := r1.int'
  have S1 := S.keeps k1
  obtain ⟨vx, as, V, r, _, _, _⟩ := S1.get hx
  obtain ⟨a, rfl, e2, ho⟩ := r
  refine wpAny_Name (load_var S1.kind V ?_) hd
  refine h2 A { s with heap := h1, toks := tk1 } g Mt₀ Mt _ E ro S1 fun u h3 tk3 d3 k3 r3 h4 => ?_
  obtain ⟨kn, rfl, hkn, hp⟩ := h4
  obtain ⟨tk, rfl⟩ := r3.int'
  have S3 := S1.keeps k3
  obtain ⟨v', as', V', r', nd', hh', go⟩ := S3.get hx
  obtain ⟨a', rfl, e2', ho'⟩ := r'
  have := V'.uniq (V.keeps k3)
  cases this
  subst e2'
  refine wp_setItem_ba (s := { s with heap := h3, toks := tk3 }) ho' hkn hz hv fun h5 hs5 ho5 => ?_
  obtain ⟨S5, st⟩ := go h5 (.ba (b.setIfInBounds kn vn.toUInt8)) (fun c hc => hs5.2 c (fun q => hc (by rw [q]; exact List.mem_singleton.mpr rfl))) (fun c hc => by rw [List.mem_singleton.mp hc]; exact ⟨_, ho5⟩) ⟨_, rfl, rfl, ho5⟩
  exact q .next h5 tk3 .next _ Mt S5 (((Stp.of_stays k1).trans (.of_stays k3)).trans st) trivial hp

/-- an item of bytes -/
theorem WE.bitem {value i : Expr} {pos : Pos} (h : WE w n env σ value fun d => ∃ b : Array UInt8, d = .bytes b ∧ b.size ≤ 100000 ∧ WE w n env σ i fun e => ∃ k : Nat, e = .int k ∧ k < b.size ∧ Q (.int ((b.toList.getD k 0).toNat : Int)))
    (hs : ∀ b t k u, subscripted i Bool.false (.bytes b t) (.int k u) = operate [.bytes b t, .int k u] (getItem (.bytes b t) (.int k u)) := by intro _ _ _ _; with_unfolding_all rfl) :
    WE w n env σ (.Subscript value i pos) Q := by
  intro A s g Mt₀ Mt R E ro S q
  refine Subscript_ (h A s g Mt₀ Mt _ E ro S fun v h' tk' d k r hq => ?_)
  obtain ⟨b, rfl, hz, hq⟩ := hq
  simp only [Rep] at r
  obtain ⟨t, rfl⟩ := r
  refine hq A _ g Mt₀ Mt _ E ro (S.keeps k) fun v2 h2 tk2 d2 k2 r2 hq2 => ?_
  obtain ⟨kn, rfl, hk, hQ⟩ := hq2
  obtain ⟨t2, rfl⟩ := r2.int'
  have hb : b = b.toList.toArray := by simp
  refine tail_any (T := "bytes") (typeIs_bytes _ _ _) FB.slot_bytes_getitem.lookup ?_ (hs _ _ _ _)
  rw [hb]
  refine getItem_bytes (by simp; omega) (by omega) (by simp; omega) ?_
  rw [Int.toNat_natCast]
  exact q _ h2 (tk2 + 1) (.int _) (stays_trans k k2) Rep.int_ (by simpa using hQ)
end
end Mine
end

section
open PySem PySem.W PyProof.Rows PySem.Calls
set_option Elab.async false
set_option linter.unusedVariables false
set_option maxRecDepth 100000
namespace Mine
section
variable {w : World} {n : Nat} {env : Env} {σ : Sto} {Q : D → Prop} {P : FlowD → Sto → Prop} {A : Around} {E : Value → Shared → Prop} {s : Shared}

theorem asStr_ba {a : Addr} {b : Array UInt8} {R : Option Str → Shared → Prop} (ho : s.heap.get? a = some (baObj b)) (h : R none s) : wpAny (model prog w) A (asStr? (.ref a)) R E s := by
  show wpAny _ _ (load a >>= _) _ _ s
  exact wpAny_bind (wpAny_load ho (wpAny_pure h))
theorem wp_payload {a : Addr} {b : Array UInt8} {R : Array UInt8 → Shared → Prop} (ho : s.heap.get? a = some (baObj b)) (h : R b s) : wpAny (model prog w) A (Builtin.Bytes.payload (.ref a)) R E s := by
  unfold Builtin.Bytes.payload Builtin.Bytes.payload?
  exact wpAny_bind (wpAny_bind (wpAny_load ho (wpAny_pure (wpAny_pure h))))
theorem wp_slotIsOwn_buffer {a : Addr} {b : Array UInt8} {R : Bool → Shared → Prop} (ho : s.heap.get? a = some (baObj b)) (h : R true s) : wpAny (model prog w) A (Builtin.Bytes.slotIsOwn (.ref a) "__buffer__") R E s := by
  have hT : s.TypeIs (.ref a) "bytearray" := ⟨_, ho, rfl⟩
  unfold Builtin.Bytes.slotIsOwn
  refine wpAny_bind (wpAny_specialOf hT RF.ba_buffer ?_)
  have e1 : ("bytearray.__buffer__".endsWith ("." ++ "__buffer__")) = true := by decide +kernel
  have e2 : "bytearray.__buffer__".dropRight ("__buffer__".length + 1) = "bytearray" := by decide +kernel
  simp only [e1, e2, Bool.not_true, Bool.false_eq_true, if_false]
  exact wpAny_isInstance hT RF.ba_sub h
theorem wp_buffer {a : Addr} {b : Array UInt8} {id : String} {full : Bool} {R : Option (Array UInt8) → Shared → Prop} (ho : s.heap.get? a = some (baObj b)) (h : R (some b) s) : wpAny (model prog w) A (Builtin.Bytes.buffer? id (.ref a) full) R E s := by
  have hT : s.TypeIs (.ref a) "bytearray" := ⟨_, ho, rfl⟩
  unfold Builtin.Bytes.buffer?
  refine wpAny_bind (wpAny_specialOf hT RF.ba_buffer ?_)
  refine wpAny_bind (wp_slotIsOwn_buffer ho ?_)
  refine wpAny_ite_false rfl (wpAny_bind (wpAny_specialOf hT RF.ba_buffer ?_))
  refine wpAny_bind (wp_ownRelease ho ?_)
  exact wpAny_ite_false rfl (wpAny_bind (wp_payload ho (wpAny_pure h)))

theorem bytes_new_ba {a : Addr} {b : Array UInt8} {R : Value → Shared → Prop} (ho : s.heap.get? a = some (baObj b)) (hz : b.size ≤ sizeLine) (h : ∀ t tk, R (.bytes b t) { s with toks := tk }) :
    codeAny (model prog w) A (.call (.builtin "bytes.__new__") ⟨[.type "bytes", .ref a], []⟩) (wants R E) s := by
  have hT : s.TypeIs (.ref a) "bytearray" := ⟨_, ho, rfl⟩
  refine codeAny_of_tree ?_
  show wpAny _ A.in1 (do checkBuiltinCall "bytes.__new__" ⟨[.type "bytes", .ref a], []⟩; again (.builtin "bytes.__new__" ⟨[.type "bytes", .ref a], []⟩)) _ _ s
  refine wpAny_bind (wpAny_of_eq (F.bm_newCall _) (wpAny_pure ⟨plainId_quiet F.bm_plain _, codeAny_builtin F.bm_entry ?_⟩))
  rw [Around.under_plainId F.bm_plain _]
  unfold Builtin.«bytes.__new__»
  refine wpAny_bind (wpAny_of_eq (a := true) rfl ?_)
  refine wpAny_ite_false rfl ?_
  refine wpAny_bind (wpAny_of_eq F.bm_sub ?_)
  refine wpAny_ite_false rfl ?_
  refine wpAny_bind (wpAny_of_eq (F.bm_bind _) ?_)
  refine wpAny_bind (wpAny_of_eq (a := ()) rfl ?_)
  refine wpAny_bind (wpAny_of_eq (a := ()) rfl ?_)
  refine wpAny_ite_false rfl ?_
  refine wpAny_bind (wpAny_specialOf hT RF.ba_no_bytes ?_)
  refine wpAny_bind (wpAny_bind (asStr_ba ho (wpAny_pure ?_)))
  refine wpAny_ite_false rfl ?_
  refine wpAny_bind (wpAny_specialOf hT RF.ba_no_index ?_)
  refine wpAny_ite_true rfl ?_
  show wpAny _ _ (Builtin.Bytes.buffer? "bytes.__new__" (.ref a) true >>= _) _ _ _
  refine wpAny_bind (wp_buffer ho ?_)
  refine wpAny_bind (wpAny_rule ?_)
  refine wpAny_bind ?_
  unfold mkBytes
  rw [if_neg (Nat.not_lt.mpr hz)]
  refine wpAny_bind (wpAny_fresh (wpAny_pure ?_))
  exact wpAny_pure (h _ _)

theorem call_bytes_ba {a : Addr} {b : Array UInt8} {R : Value → Shared → Prop} (ho : s.heap.get? a = some (baObj b)) (hz : b.size ≤ sizeLine) (h : ∀ t tk, R (.bytes b t) { s with toks := tk }) :
    wpAny (model prog w) A (call (.type "bytes") [.ref a]) R E s := by
  refine callType_codes (Q₁ := fun obj s₁ => s₁.TypeIs obj "bytes" ∧ R obj s₁) F.bm_called (F.bm_typeCall _) F.entry_object_init
    (bytes_new_ba ho hz fun t k => ⟨PySem.W.typeIs_bytes _ _ _, h t k⟩) fun obj s₁ h₁ => ?_
  exact ⟨h₁.1, F.args_object_init_2 obj _, object_init_meets F.bm_called.init.lookup F.bm_called.made (by decide) prog w A.in1 _ s₁ ⟨h₁.1, rfl, h₁.2⟩⟩

/-- bytes(x) of an owned bytearray -/
theorem WE.bytes_ba {x y : Str} {px yp pos : Pos} {b : Array UInt8} (hx : σ.lookup x = some (.ba b)) (hz : b.size ≤ 100000) (hy : WE w n env σ (.Name y yp) fun d => d = .val (.type "bytes")) (h : Q (.bytes b))
    (he : starEach [.Name x px] env = (Bool.false, eval (.Name x px) env) :: starEach [] env := by rfl) (hd : (x == ("__debug__" : Str)) = Bool.false := by decide) :
    WE w n env σ (.Call (.Name y yp) [.Name x px] [] pos) Q := by
  intro A s g Mt₀ Mt R E ro S q
  refine wpAny_Call_NameR (hy A s g Mt₀ Mt _ E ro S fun v h' tk' d k r1 h2 => ?_)
  subst h2
  simp only [Rep] at r1
  subst r1
  have S1 := S.keeps k
  refine callWith_type1 ?_ he rfl
  obtain ⟨vx, as, V, r, _, _, _⟩ := S1.get hx
  obtain ⟨a, rfl, e2, ho⟩ := r
  refine spliced_more (wpAny_Name (load_var S1.kind V ?_) hd) he
  show wpAny _ _ (pure []) _ _ _
  refine wpAny_pure ?_
  refine call_bytes_ba (s := { s with heap := h', toks := tk' }) ho (by have : sizeLine = 16777216 := rfl; omega) fun t tk => ?_
  exact q _ h' tk (.bytes b) k (by simp only [Rep]; exact ⟨_, rfl⟩) h

theorem b_bytes_ints {ns : List Int} (hr : ∀ n ∈ ns, 0 ≤ n ∧ n < 256) (hz : ns.length ≤ 100000) (h : Q (.bytes (byteArr ns))) : WO w n [.list (ns.map D.int)] (fun vs => call (.type "bytes") vs) Q :=
  .one (op := fun a => call (.type "bytes") [a]) (fun A s Mt v R E ro G bd ra q => by
    obtain ⟨a, vs, k, rfl, m, o, rl⟩ := ra.list'
    have hl := rl.length
    rw [List.length_map] at hl
    exact call_bytes_ints (vs := vs) ⟨_, o, rfl, _, rfl⟩ (repL_ints rl) hr (by have : sizeLine = 16777216 := rfl; omega) ro.hd fun h' t k hk => q _ h' k (.bytes _) (.of hk) (by simp only [Rep]; exact ⟨_, rfl⟩) h) fun _ => rfl

theorem b_isinstance_list_str {l : List D} (h : Q (.bool false)) : WO w n [.list l, .val (.type "str")] (fun vs => call (.builtin "isinstance") vs) Q :=
  .two (op := fun a b => call (.builtin "isinstance") [a, b]) (fun A s Mt v u R E ro G bd ra rb q => by
    obtain ⟨a, vs, k, rfl, m, o, rl⟩ := ra.list'
    simp only [Rep] at rb; subst rb
    exact IsiPair.list_str o rfl (q.here (fun _ => Rep.bool_) h _)) fun _ _ => rfl

theorem WE.str_between {value lo hi : Expr} {p pos : Pos} (h : WE w n env σ value fun d => ∃ x, d = .str x ∧ x.length ≤ sizeLine ∧ WE w n env σ lo fun e => ∃ i, e = .int i ∧ WE w n env σ hi fun e => ∃ j, e = .int j ∧ Q (.str (Txt.slice x (some i) (some j)))) :
    WE w n env σ (.Subscript value (.Slice (some lo) (some hi) Option.none p) pos) Q := by
  intro A s g Mt₀ Mt R E ro S q
  refine Subscript_ (h A s g Mt₀ Mt _ E ro S fun v h' tk' d k r hq => ?_)
  obtain ⟨x, rfl, hx, hq⟩ := hq
  obtain ⟨t, rfl⟩ := r.str'
  refine wpAny_Slice (wpAny_evalPart_some (hq A _ g Mt₀ Mt _ E ro (S.keeps k) fun v2 h2 tk2 d2 k2 r2 hq2 => ?_))
  obtain ⟨i, rfl, hq2⟩ := hq2
  obtain ⟨t2, rfl⟩ := r2.int'
  refine wpAny_evalPart_some (hq2 A { s with heap := h2, toks := tk2 } g Mt₀ Mt _ E ro ((S.keeps k).keeps k2) fun v3 h3 tk3 d3 k3 r3 hq3 => wpAny_evalPart_none ?_)
  obtain ⟨j, rfl, hq3⟩ := hq3
  obtain ⟨t3, rfl⟩ := r3.int'
  obtain ⟨T, id, hl, hT, hg⟩ := SBH.sliceItem_ss (prog := prog) (w := w) (A := A) (E := E) (x := x) (t := t) (i := i) (ui := t2) (j := j) (uj := t3) (s := { s with heap := h3, toks := tk3 }) (P := fun h => Kp s.heap h) (kept_stays _) (stays_trans k (stays_trans k2 k3)) (fun h4 t4 k4 hp => q (.str _ t4) h4 k4 (.str _) hp Rep.str_ hq3) hx
  exact tail_any hT hl hg (by with_unfolding_all rfl)
end
end Mine
end

section
open PySem PySem.W PyProof.Rows PySem.Calls
set_option Elab.async false
set_option linter.unusedVariables false
set_option maxRecDepth 100000
namespace Mine
section
variable {w : World} {n : Nat} {env : Env} {σ : Sto} {Q : D → Prop} {P : FlowD → Sto → Prop} {g h h' : Heap} {Mt₀ Mt : Addr → Prop}

/-- x, y = ([], e) -/
theorem WX.pairnew {x y : Str} {px py lp tp vp pos : Pos} {k k' : Nat} {e : Expr} (hx : StoreOk env x) (hy : StoreOk env y) (h : WE w n env σ e fun d => ∃ i, d = .int i ∧ P .next ((y, .fz (.int i)) :: (x, .own []) :: σ))
    (he : starEach [.List [] lp, e] env = (Bool.false, eval (.List [] lp) env) :: starEach [e] env := by rfl) (he2 : starEach [e] env = (Bool.false, eval e env) :: starEach [] env := by rfl)
    (hs : swapsWithSole [.Tuple [.Name x px, .Name y py] k tp] (.Tuple [.List [] lp, e] k' vp) pos.line env = pure Bool.false := by rfl)
    (hw : swappedStores [.Tuple [.Name x px, .Name y py] k tp] (.Tuple [.List [] lp, e] k' vp) env = pure Option.none := by rfl) :
    WX w n env σ (.Assign [.Tuple [.Name x px, .Name y py] k tp] (.Tuple [.List [] lp, e] k' vp) pos) P := by
  intro A s g Mt₀ Mt R E ro S q
  have hn0 : s.heap.get? s.heap.objs.size = none := get_size_none s.heap
  have kp1 := stays_push s.heap (listObj [] 0)
  have S0 := S.keeps kp1
  refine Assign_Tuple (wpAny_Tuple ?_) hs hw
  refine spliced_more (wpAny_List (spliced_none ⟨by decide, ?_⟩)) he
  refine spliced_more (h A { s with heap := s.heap.push (listObj [] 0) } g Mt₀ Mt _ E ro S0 fun v h2 tk2 d k2 r2 hp => ?_) he2
  obtain ⟨i, rfl, hp⟩ := hp
  obtain ⟨ti, rfl⟩ := r2.int'
  show wpAny _ _ (pure []) _ _ _
  refine wpAny_pure ⟨by show 2 ≤ sizeLine; decide, ?_⟩
  have k3 := stays_push h2 (tupObj [.ref s.heap.objs.size, .int i ti] 0)
  have ho3 : (h2.push (tupObj [.ref s.heap.objs.size, .int i ti] 0)).get? h2.objs.size = some (tupObj [.ref s.heap.objs.size, .int i ti] 0) := Heap.get?_push_size _ rfl
  refine wpAny_assign_Tuple (items := #[.ref s.heap.objs.size, .int i ti]) ro.hd ⟨_, ho3, rfl, 0, rfl⟩ rfl rfl fun h4 hx4 => ?_
  have k4 : Kp (h2.push (tupObj [.ref s.heap.objs.size, .int i ti] 0)) h4 := .of fun b o e => hx4 b o (Nat.ne_of_lt (Heap.lt_size e)) e
  have kall : Kp s.heap h4 := ((kp1.trans k2).trans k3).trans k4
  have ho4 : h4.get? s.heap.objs.size = some (listObj [] 0) := k4.h rfl (k3.h rfl (k2.h rfl (Heap.get?_push_size _ rfl)))
  have S4 := S.own_at kall hn0 ho4
  refine wpAny_assignInOrder_more (wpAny_assign_Name (store_ent (s := { s with heap := h4, toks := tk2 }) (e := .own []) (as := [s.heap.objs.size]) S4 hx ⟨_, [], 0, rfl, rfl, ho4, .nil⟩ (fun a ha => ?_) (by simp) fun h5 tk5 b S5 pl hs5 hb5 => ?_))
  · rw [List.mem_singleton.mp ha]; exact ⟨.inr rfl, size_le S⟩
  have st5 : Stp env (fun b => Mt b ∨ b = s.heap.objs.size) h4 (fun b => Mt b ∨ b = s.heap.objs.size) h5 := .of_place pl hs5 hb5 fun _ m => .inl m
  have r5 : Rep h5 (fun b => Mt b ∨ b = s.heap.objs.size) (.int i) (.int i ti) := Rep.int_
  refine wpAny_assignInOrder_more (wpAny_assign_Name (store_fz (s := { s with heap := h5, toks := tk5 }) S5 hy r5 fun h6 tk6 S6 st6 => ?_))
  refine wpAny_assignInOrder_none (q .next h6 tk6 .next _ _ S6 ((((Stp.own_at kall hn0).trans st5)).trans st6.up) trivial hp)

/-! a list whose last item is a list that is filled -/
theorem WX.newlistL {x : Str} {px lp lp2 pos : Pos} (hx : StoreOk env x) (h : P .next ((x, .ownL [] []) :: σ)) (hs : swapsWith (.List [.List [] lp2] lp) (some (.Name x px)) pos.line env = pure Bool.false := by rfl)
    (he : starEach [.List [] lp2] env = (Bool.false, eval (.List [] lp2) env) :: starEach [] env := by rfl) :
    WX w n env σ (.Assign [.Name x px] (.List [.List [] lp2] lp) pos) P := by
  intro A s g Mt₀ Mt R E ro S q
  have hn0 : s.heap.get? s.heap.objs.size = none := get_size_none s.heap
  have kp1 := stays_push s.heap (listObj [] 0)
  refine wpAny_Assign_Name (wpAny_List ?_) hs
  refine spliced_more (wpAny_List (spliced_none ⟨by decide, ?_⟩)) he
  show wpAny _ _ (pure []) _ _ _
  refine wpAny_pure ⟨by show 1 ≤ sizeLine; decide, ?_⟩
  have hb0 : (s.heap.push (listObj [] 0)).get? s.heap.objs.size = some (listObj [] 0) := Heap.get?_push_size _ rfl
  have hsz : (s.heap.push (listObj [] 0)).objs.size = s.heap.objs.size + 1 := Heap.size_push _ _
  have hn1 : (s.heap.push (listObj [] 0)).get? (s.heap.push (listObj [] 0)).objs.size = none := get_size_none _
  have kp2 := stays_push (s.heap.push (listObj [] 0)) (listObj [Value.ref s.heap.objs.size] 0)
  have hb1 : ((s.heap.push (listObj [] 0)).push (listObj [Value.ref s.heap.objs.size] 0)).get? s.heap.objs.size = some (listObj [] 0) := Heap.get?_push_of_some _ hb0
  have ha1 : ((s.heap.push (listObj [] 0)).push (listObj [Value.ref s.heap.objs.size] 0)).get? (s.heap.push (listObj [] 0)).objs.size = some (listObj [Value.ref s.heap.objs.size] 0) := Heap.get?_push_size _ rfl
  have S1 := S.own_at kp1 hn0 hb0
  have S2 := S1.own_at kp2 hn1 ha1
  have hne : (s.heap.push (listObj [] 0)).objs.size ≠ s.heap.objs.size := by omega
  refine store_ent (s := { s with heap := (s.heap.push (listObj [] 0)).push (listObj [Value.ref s.heap.objs.size] 0) }) (e := .ownL [] []) (as := [(s.heap.push (listObj [] 0)).objs.size, s.heap.objs.size]) S2 hx
    ⟨_, _, [], 0, [], 0, rfl, rfl, ha1, .nil, hb1, .nil⟩ (fun a ha => ?_) (by simp [hne]) fun h5 tk5 b S5 pl hs5 hb5 => ?_
  · have := size_le S
    rcases List.mem_cons.mp ha with rfl | ha
    · exact ⟨.inr rfl, by omega⟩
    · rw [List.mem_singleton.mp ha]; exact ⟨.inl (.inr rfl), this⟩
  · exact q .next h5 tk5 .next _ _ S5 (((Stp.own_at kp1 hn0).trans (.own_at kp2 hn1)).trans (.of_place pl hs5 hb5 fun _ m => .inl m)) trivial h

/-- x[-1].append(e) -/
theorem WX.appendL {x : Str} {px ip up sp apos cpos pos : Pos} {kk : Nat} {e : Expr} {front last : List D} (hx : σ.lookup x = some (.ownL front last)) (h : WE w n env σ e fun d => P .next ((x, .ownL front (last ++ [d])) :: σ)) (hsz : last.length ≤ sizeLine) (hsf : front.length ≤ 100000)
    (hbase : attributeBase (.Subscript (.Name x px) (.UnaryOp .USub (.Constant (.int 1) kk ip) up) sp) "append" env (eval (.Subscript (.Name x px) (.UnaryOp .USub (.Constant (.int 1) kk ip) up) sp) env) = eval (.Subscript (.Name x px) (.UnaryOp .USub (.Constant (.int 1) kk ip) up) sp) env := by rfl)
    (hfew : ((backTo cpos (starEach [e] env)).all (fun x => !x.1) && (backToKw cpos (keywordEach [] env)).all (fun x => x.1.isSome)
      && decide (([e] : List Expr).length + ([] : List Keyword).length + (if ([] : List Keyword).isEmpty then 0 else 1) < 30)) = Bool.true := by rfl)
    (hline : (apos.endLine == cpos.line) = Bool.true := by rfl) (htrees : backTo cpos (starEach [e] env) = [(Bool.false, eval e env)] := by rfl) (hd : (x == ("__debug__" : Str)) = Bool.false := by decide)
    (hsub : ∀ a k u, subscripted (.UnaryOp .USub (.Constant (.int 1) kk ip) up) Bool.false (.ref a) (.int k u) = operate [.ref a, .int k u] (getItem (.ref a) (.int k u)) := by intro _ _ _; with_unfolding_all rfl)
    (hi : interactive env = Bool.false := by rfl) (hs : swapsWith (.Call (.Attribute (.Subscript (.Name x px) (.UnaryOp .USub (.Constant (.int 1) kk ip) up) sp) "append" apos) [e] [] cpos) Option.none pos.line env = pure Bool.false := by rfl) :
    WX w n env σ (.Expr (.Call (.Attribute (.Subscript (.Name x px) (.UnaryOp .USub (.Constant (.int 1) kk ip) up) sp) "append" apos) [e] [] cpos) pos) P := by
  intro A s g Mt₀ Mt R E ro S q
  refine wpAny_Expr_any (wpAny_Call_append hbase hfew hline htrees ?_) hi hs
  obtain ⟨v, as, V, r, _, _, _⟩ := S.get hx
  obtain ⟨a, b, vs, m, us, k, rfl, e2, ho, qr, ho2, qr2⟩ := r
  have hl := qr.length
  refine Subscript_ (wpAny_Name (load_var S.kind V ?_) hd)
  refine wpAny_UnaryOp (wpAny_Constant_int ?_)
  refine PyProof.Rows.neg_int ?_
  refine tail_any (T := "list") ⟨_, ho, rfl⟩ slot_list_getitem.lookup (wpAny_getItem_list_neg (items := (vs ++ [Value.ref b]).toArray) (x := .ref b) ⟨_, ho, rfl, m, rfl⟩ (by decide) (by simp; omega) (by decide) ?_ ?_) (hsub _ _ _)
  · have : ((-1 : Int) + ((vs ++ [Value.ref b]).toArray.size : Nat)).toNat = vs.length := by simp; omega
    rw [this]; simp
  refine ⟨b, us.toArray, rfl, ⟨_, k, ho2, rfl, rfl, rfl⟩, ?_⟩
  refine h A _ g Mt₀ Mt _ E ro S fun u h' tk' d kk ru hp => ?_
  have S1 := S.keeps kk
  obtain ⟨v', as', V', r', nd', hh', go⟩ := S1.get hx
  obtain ⟨a', b', vs', m', us', k', rfl, e2', ho', qr', ho2', qr2'⟩ := r'
  have ea := V'.uniq (V.keeps kk)
  cases ea
  subst e2'
  have eb : b' = b ∧ vs' = vs := by
    have := kk.h (o := listObj (vs ++ [Value.ref b]) m) rfl ho
    rw [ho'] at this
    injection this with this
    injection this with _ _ this
    injection this with this
    have := congrArg Array.toList this
    simp only [List.toList_toArray] at this
    have h1 := List.append_inj' this rfl
    refine ⟨?_, h1.1⟩
    have := h1.2
    injection this with this
    injection this
  obtain ⟨rfl, rfl⟩ := eb
  have hab : a ≠ b' := by
    intro q
    rw [q] at nd'
    simp at nd'
  refine wpAny_list_append_plain (items := us'.toArray) ⟨k', ho2'⟩ (fun h'' hl'' hs'' => ?_) (by rw [List.size_toArray, qr2'.length]; exact hsz)
  obtain ⟨k'', ho''⟩ := hl''
  rw [show us'.toArray.push u = (us' ++ [u]).toArray by simp] at ho''
  have kd : KeepD Mt h' h'' := KeepD.of_same hs'' (.inl (hh' _ (.tail _ (.head _))).1)
  obtain ⟨S2, st⟩ := go h'' (.ownL front (last ++ [d])) (fun c hc => hs''.2 c (fun q => hc (by rw [q]; exact .tail _ (.head _)))) (fun c hc => by
      rcases List.mem_cons.mp hc with rfl | hc
      · exact ⟨_, (hs''.2 _ hab).trans ho'⟩
      · rw [List.mem_singleton.mp hc]; exact ⟨_, ho''⟩)
    ⟨a, b', vs', m', us' ++ [u], k'', rfl, rfl, (hs''.2 _ hab).trans ho', qr'.keepD kd, ho'', (qr2'.keepD kd).append (.cons (ru.keepD kd) .nil)⟩
  exact q .next h'' tk' .next _ Mt S2 ((Stp.of_stays kk).trans st) trivial hp

/-- the last list is full -/
theorem StF.roll {x : Str} {front last : List D} {c : Addr} {kc : Nat} (S : StF w g Mt₀ Mt [c] env σ h) (hc : Mt c ∧ g.objs.size ≤ c) (hoc : h.get? c = some (listObj [] kc)) (hx : σ.lookup x = some (.ownL front last)) :
    ∃ a b vs m, VarIs h env x (.ref a) ∧ h.get? a = some (listObj (vs ++ [Value.ref b]) m) ∧ vs.length = front.length ∧ a ≠ c ∧
      ∀ h' m', Heap.SameBut a h h' → h'.get? a = some (listObj (vs ++ [Value.ref b] ++ [Value.ref c]) m') → ∃ Mt', St w g Mt₀ Mt' env ((x, .ownL (front ++ [.list last]) []) :: σ) h' ∧ Stp env Mt h Mt' h' := by
  obtain ⟨μ, hμ, hdis, hfr⟩ := S.vars
  obtain ⟨v, V, r, nd, hh⟩ := hμ x _ hx
  obtain ⟨a, b, vs, m, us, k, rfl, e2, ho, qr, ho2, qr2⟩ := r
  have ha : a ∈ μ x := by rw [e2]; exact .head _
  have hb : b ∈ μ x := by rw [e2]; exact .tail _ (.head _)
  have hac : a ≠ c := fun q => hfr x _ hx a ha (by rw [q]; exact .head _)
  have hbc : b ≠ c := fun q => hfr x _ hx b hb (by rw [q]; exact .head _)
  have hab : a ≠ b := by rw [e2] at nd; intro q; rw [q] at nd; simp at nd
  refine ⟨a, b, vs, m, V, ho, qr.length, hac, fun h' m' hs ho' => ?_⟩
  obtain ⟨al, ac⟩ := S.apart ho seq_nd seq_nc
  have sm : ∀ d, d ≠ a → ∀ o, h.get? d = some o → h'.get? d = some o := fun d hd o e => (hs.2 d hd).trans e
  have nsk : ∀ m, h.Ns env.locals m → h'.Ns env.locals m := fun m ⟨o, es, ep, ho, rest⟩ => ⟨o, es, ep, sm _ (Ne.symm al) o ho, rest⟩
  have clk : ∀ y c v, env.cells.lookup y = some c → h.IsCell c v → h'.IsCell c v := fun y c v hc ⟨o, ho, hd⟩ => ⟨o, sm _ (fun q => ac y (q ▸ hc)) o ho, hd⟩
  have vk : ∀ y u, VarIs h env y u → VarIs h' env y u := fun y u hu => by
    rcases hu with ⟨k1, m, nn, e1⟩ | ⟨k1, c, hc, hcv⟩
    · exact .inl ⟨k1, m, nsk m nn, e1⟩
    · exact .inr ⟨k1, c, hc, clk y c _ hc hcv⟩
  have kd : KeepD Mt h h' := fun d o _ hm e => sm d (fun q => hm (q ▸ (hh a ha).1)) o e
  have le : ∀ d o, h'.get? d = some o → (Mt d ∧ d ≠ b) → Mt d := fun d o _ m => m.1
  refine ⟨fun d => Mt d ∧ d ≠ b, ⟨S.gd, S.stays.upd (P := (· = a)) (fun d q => by rw [q]; exact Heap.get?_none_of_le (hh a ha).2) (fun d o e q => sm d q o e), S.kind, S.glob, S.blt, S.above, ?_, ?_, S.inj, ?_, fun d m => ⟨⟨(S.sub d m).1, ?_⟩, (S.sub d m).2⟩, ?_⟩, ?_⟩
  · obtain ⟨m, hm⟩ := S.ns; exact ⟨m, nsk m hm⟩
  · intro y c hc; obtain ⟨u, hu⟩ := S.cells y c hc; exact ⟨u, clk y c u hc hu⟩
  · intro d m
    obtain ⟨o, e⟩ := S.bd d m.1
    by_cases q : d = a
    · rw [q]; exact ⟨_, ho'⟩
    · exact ⟨o, sm d q o e⟩
  · rintro rfl
    exact Nat.lt_irrefl _ (Nat.lt_of_lt_of_le (S.sub _ m).2 (hh _ hb).2)
  · refine ⟨fun y => if y = x then [a, c] else μ y, fun y f hy => ?_, fun y z f f' hy hz hyz d hdy hdz => ?_, fun _ _ _ _ _ hx => nomatch hx⟩
    · dsimp only
      by_cases qy : y = x
      · subst qy
        rw [lookup_cons_self] at hy; cases hy
        rw [if_pos rfl]
        refine ⟨_, vk _ _ V, ⟨a, c, vs ++ [.ref b], m', [], kc, rfl, rfl, ho', ((qr.keepD kd).less le).append (.cons ?_ .nil), sm c (Ne.symm hac) _ hoc, .nil⟩, by simp [hac], fun d hd => ?_⟩
        · simp only [Rep]
          exact ⟨b, us, k, rfl, fun m => m.2 rfl, sm b (Ne.symm hab) _ ho2, (qr2.keepD kd).less le⟩
        · rcases List.mem_cons.mp hd with rfl | hd
          · exact ⟨⟨(hh _ ha).1, hab⟩, (hh _ ha).2⟩
          · rw [List.mem_singleton.mp hd]; exact ⟨⟨hc.1, Ne.symm hbc⟩, hc.2⟩
      · rw [lookup_cons_ne qy] at hy
        obtain ⟨u, hu, re, nd', hh'⟩ := hμ y f hy
        rw [if_neg qy]
        refine ⟨u, vk _ _ hu, entAt_less (entAt_change re kd (fun d hd o e => sm d (fun q => hdis y x f _ hy hx qy d hd (q ▸ ha)) o e)) le, nd', fun d hd => ⟨⟨(hh' d hd).1, ?_⟩, (hh' d hd).2⟩⟩
        rintro rfl
        exact hdis y x f _ hy hx qy _ hd hb
    · dsimp only at hdy hdz
      by_cases qy : y = x
      · rw [if_pos qy] at hdy
        have qz : z ≠ x := fun e => hyz (qy.trans e.symm)
        rw [if_neg qz] at hdz
        rw [lookup_cons_ne qz] at hz
        rcases List.mem_cons.mp hdy with rfl | hdy
        · exact hdis z x f' _ hz hx qz _ hdz ha
        · rw [List.mem_singleton.mp hdy] at hdz
          exact hfr z f' hz c hdz (.head _)
      · rw [if_neg qy] at hdy
        rw [lookup_cons_ne qy] at hy
        by_cases qz : z = x
        · rw [if_pos qz] at hdz
          rcases List.mem_cons.mp hdz with rfl | hdz
          · exact hdis y x f _ hy hx qy _ hdy ha
          · rw [List.mem_singleton.mp hdz] at hdy
            exact hfr y f hy c hdy (.head _)
        · rw [if_neg qz] at hdz
          rw [lookup_cons_ne qz] at hz
          exact hdis y z f f' hy hz hyz d hdy hdz
  · refine ⟨fun d o e _ l c m => sm d (fun q => m (q ▸ (hh a ha).1)) o e, fun d m => .inl m.1, fun d o e => ?_⟩
    by_cases q : d = a
    · rw [q]; exact ⟨_, ho'⟩
    · exact ⟨o, sm d q o e⟩

/-- x.append([]) -/
theorem WX.appendNew {x : Str} {px lp apos cpos pos : Pos} {front last : List D} (hx : σ.lookup x = some (.ownL front last)) (h : P .next ((x, .ownL (front ++ [.list last]) []) :: σ)) (hsf : front.length ≤ 100000)
    (hbase : attributeBase (.Name x px) "append" env (eval (.Name x px) env) = eval (.Name x px) env := by rfl)
    (hfew : ((backTo cpos (starEach [.List [] lp] env)).all (fun x => !x.1) && (backToKw cpos (keywordEach [] env)).all (fun x => x.1.isSome)
      && decide (([.List [] lp] : List Expr).length + ([] : List Keyword).length + (if ([] : List Keyword).isEmpty then 0 else 1) < 30)) = Bool.true := by rfl)
    (hline : (apos.endLine == cpos.line) = Bool.true := by rfl) (htrees : backTo cpos (starEach [.List [] lp] env) = [(Bool.false, eval (.List [] lp) env)] := by rfl) (hd : (x == ("__debug__" : Str)) = Bool.false := by decide)
    (hi : interactive env = Bool.false := by rfl) (hs : swapsWith (.Call (.Attribute (.Name x px) "append" apos) [.List [] lp] [] cpos) Option.none pos.line env = pure Bool.false := by rfl) :
    WX w n env σ (.Expr (.Call (.Attribute (.Name x px) "append" apos) [.List [] lp] [] cpos) pos) P := by
  intro A s g Mt₀ Mt R E ro S q
  refine wpAny_Expr_any (wpAny_Call_append hbase hfew hline htrees ?_) hi hs
  have hn0 : s.heap.get? s.heap.objs.size = none := get_size_none s.heap
  have kp1 := stays_push s.heap (listObj [] 0)
  have hc0 : (s.heap.push (listObj [] 0)).get? s.heap.objs.size = some (listObj [] 0) := Heap.get?_push_size _ rfl
  have S1 := S.own_at kp1 hn0 hc0
  obtain ⟨a, b, vs, m, V, ho, hlen, hac, go⟩ := S1.roll ⟨.inr rfl, size_le S⟩ hc0 hx
  have V0 : VarIs s.heap env x (.ref a) := by
    obtain ⟨v, as, V', r, _⟩ := S.get hx
    have := V.uniq (V'.keeps kp1)
    rw [this]; exact V'
  have ho0 : s.heap.get? a = some (listObj (vs ++ [Value.ref b]) m) := by
    have := S.get hx
    obtain ⟨v, as, V', r, _⟩ := this
    have e := V'.uniq V0
    obtain ⟨a', b', vs', m', us', k', e1, e2', ho', _⟩ := r
    rw [e] at e1
    injection e1 with e1
    subst e1
    have := kp1.h (o := listObj (vs' ++ [Value.ref b']) m') rfl ho'
    rw [ho] at this
    rw [this]
    exact ho'
  refine wpAny_Name (load_var S.kind V0 ?_) hd
  refine ⟨a, (vs ++ [Value.ref b]).toArray, rfl, ⟨_, m, ho0, rfl, rfl, rfl⟩, ?_⟩
  refine wpAny_List (spliced_none ⟨by decide, ?_⟩)
  refine wpAny_list_append_plain (s := { s with heap := s.heap.push (listObj [] 0) }) (items := (vs ++ [Value.ref b]).toArray) ⟨m, ho⟩ (fun h'' hl'' hs'' => ?_) (by simp; have : sizeLine = 16777216 := rfl; omega)
  obtain ⟨k'', ho''⟩ := hl''
  rw [show (vs ++ [Value.ref b]).toArray.push (.ref s.heap.objs.size) = (vs ++ [Value.ref b] ++ [Value.ref s.heap.objs.size]).toArray by simp] at ho''
  obtain ⟨Mt', S2, st⟩ := go h'' k'' hs'' ho''
  exact q .next h'' s.toks .next _ Mt' S2 ((Stp.own_at kp1 hn0).trans st) trivial h

/-- it is filled no more -/
theorem StF.freezeL {x : Str} {front last : List D} (S : St w g Mt₀ Mt env σ h) (hx : σ.lookup x = some (.ownL front last)) : ∃ Mt', St w g Mt₀ Mt' env ((x, .fz (.list (front ++ [.list last]))) :: σ) h ∧ Stp env Mt h Mt' h := by
  obtain ⟨μ, hμ, hdis, hfr⟩ := S.vars
  obtain ⟨v, V, r, nd, hh⟩ := hμ x _ hx
  obtain ⟨a, b, vs, m, us, k, e1, e2, ho, qr, ho2, qr2⟩ := r
  have ha : a ∈ μ x := by rw [e2]; exact .head _
  have hb : b ∈ μ x := by rw [e2]; exact .tail _ (.head _)
  have le : ∀ c o, h.get? c = some o → (Mt c ∧ c ≠ a ∧ c ≠ b) → Mt c := fun c o _ m => m.1
  refine ⟨fun c => Mt c ∧ c ≠ a ∧ c ≠ b, ⟨S.gd, S.stays, S.kind, S.glob, S.blt, S.above, S.ns, S.cells, S.inj, fun c m => S.bd c m.1, fun c m => ⟨⟨(S.sub c m).1, ?_, ?_⟩, (S.sub c m).2⟩, ?_⟩, ⟨fun b o e _ _ _ _ => e, fun b m => .inl m.1, fun b o e => ⟨o, e⟩⟩⟩
  · rintro rfl
    exact Nat.lt_irrefl _ (Nat.lt_of_lt_of_le (S.sub _ m).2 (hh _ ha).2)
  · rintro rfl
    exact Nat.lt_irrefl _ (Nat.lt_of_lt_of_le (S.sub _ m).2 (hh _ hb).2)
  · refine ⟨fun y => if y = x then [] else μ y, fun y f hy => ?_, fun y z f f' hy hz hyz c hcy hcz => ?_, fun _ _ _ _ _ hx => nomatch hx⟩
    · dsimp only
      by_cases qy : y = x
      · subst qy
        rw [lookup_cons_self] at hy; cases hy
        rw [if_pos rfl]
        refine ⟨v, V, ⟨?_, rfl⟩, List.nodup_nil, fun b hb => nomatch hb⟩
        simp only [Rep]
        refine ⟨a, vs ++ [.ref b], m, e1, fun m => m.2.1 rfl, ho, (qr.less le).append (.cons ?_ .nil)⟩
        simp only [Rep]
        exact ⟨b, us, k, rfl, fun m => m.2.2 rfl, ho2, qr2.less le⟩
      · rw [lookup_cons_ne qy] at hy
        obtain ⟨u, hu, re, nd', hh'⟩ := hμ y f hy
        rw [if_neg qy]
        refine ⟨u, hu, entAt_less re le, nd', fun c hc => ⟨⟨(hh' c hc).1, ?_, ?_⟩, (hh' c hc).2⟩⟩
        · rintro rfl; exact hdis y x f _ hy hx qy _ hc ha
        · rintro rfl; exact hdis y x f _ hy hx qy _ hc hb
    · dsimp only at hcy hcz
      by_cases qy : y = x
      · rw [if_pos qy] at hcy; cases hcy
      · rw [if_neg qy] at hcy
        by_cases qz : z = x
        · rw [if_pos qz] at hcz; cases hcz
        · rw [if_neg qz] at hcz
          rw [lookup_cons_ne qy] at hy
          rw [lookup_cons_ne qz] at hz
          exact hdis y z f f' hy hz hyz c hcy hcz
theorem WS.freezeL {x : Str} {front last : List D} {ts : List Stmt} (hx : σ.lookup x = some (.ownL front last)) (h : WS w n env ((x, .fz (.list (front ++ [.list last]))) :: σ) ts P) : WS w n env σ ts P := by
  intro A s g Mt₀ Mt R E ro S q
  obtain ⟨Mt', S', st⟩ := S.freezeL hx
  exact h A s g Mt₀ Mt' R E ro S' (RetS.after (s := s) (tk := s.toks) st q)
end
end Mine
end

section
open PySem PySem.W PyProof.Rows PySem.Calls
set_option Elab.async false
set_option linter.unusedVariables false
set_option maxRecDepth 100000
namespace Mine

theorem S_toList (l : List Nat) : (S l).cps.toList = l := rfl
theorem S_inj {a b : List Nat} (h : S a = S b) : a = b := by
  have := congrArg (fun x : Str => x.cps.toList) h
  exact this
theorem S_beq (a b : List Nat) : (S a == S b) = (a == b) := by
  by_cases h : a = b
  · subst h; rw [beq_self_eq_true, beq_self_eq_true]
  · rw [beq_false_of_ne h, beq_false_of_ne (fun e => h (S_inj e))]
theorem S_all {l : List Nat} {p : Nat → Bool} : (S l).cps.all p = l.all p := by
  show l.toArray.all p = _
  simp
theorem S_slice_to {l : List Nat} {j : Nat} (h : j ≤ l.length) : Txt.slice (S l) none (some (j : Int)) = S (l.take j) := by
  have := eq_of_beq (slice_closes_toL (x := S l) (j := (j : Int)) (Int.natCast_nonneg j) (by rw [S_length]; exact Int.ofNat_le.mpr h))
  rw [this, S_toList]
  simp
theorem S_slice_from {l : List Nat} {i : Nat} (h : i ≤ l.length) : Txt.slice (S l) (some (i : Int)) none = S (l.drop i) := by
  have := eq_of_beq (slice_closes_fromL (x := S l) (i := (i : Int)) (b := (l.length : Int)) (Int.natCast_nonneg i) (by rw [S_length]; exact Int.ofNat_le.mpr h) (by rw [S_length]))
  rw [this, S_toList]
  rw [Int.toNat_sub, Int.toNat_natCast, List.take_of_length_le (Nat.le_of_eq List.length_drop)]
theorem S_slice_mid {l : List Nat} {i j : Nat} (h : i ≤ j) (h2 : j ≤ l.length) : Txt.slice (S l) (some (i : Int)) (some (j : Int)) = S ((l.drop i).take (j - i)) := by
  have := eq_of_beq (slice_closesL (x := S l) (i := (i : Int)) (j := (j : Int)) (Int.natCast_nonneg i) (Int.ofNat_le.mpr h) (by rw [S_length]; exact Int.ofNat_le.mpr h2))
  rw [this, S_toList]
  rw [Int.toNat_sub, Int.toNat_natCast]
theorem S_slice_neg1 {l : List Nat} (h : l ≠ []) : Txt.slice (S l) none (some (-1)) = S l.dropLast := by
  have hl : 0 < l.length := List.length_pos_iff.mpr h
  have := slice_closes_to_neg (x := S l) (j := -1) (k := (l.length : Int) - 1) (by decide) (by rw [S_length]; clear h; omega) (by rw [S_length, Int.sub_eq_add_neg, Int.add_comm])
  have := eq_of_beq this
  rw [this, S_toList]
  rw [List.dropLast_eq_take]
  simp
theorem S_startswith {l : List Nat} {c : Nat} : Txt.startswith (S l) (S [c]) = (l.head? == some c) := by
  unfold Txt.startswith Builtin.Str.subAt
  rw [S_length, S_length]
  cases l with
  | nil => rfl
  | cons a l =>
    show (decide (0 + 1 ≤ l.length + 1) && ((a :: l).toArray.extract 0 (0 + 1) == #[c])) = _
    have : (a :: l).toArray.extract 0 (0 + 1) = #[a] := by simp
    rw [this]
    have e : (decide (0 + 1 ≤ l.length + 1)) = true := by simp
    rw [e, Bool.true_and]
    show (#[a] == #[c]) = (some a == some c)
    by_cases hac : a = c
    · subst hac; simp
    · have h1 : (#[a] == #[c]) = false := by simpa using hac
      have h2 : (some a == some c) = false := by simpa using hac
      rw [h1, h2]
theorem S_endswith {l : List Nat} {c : Nat} : Txt.endswith (S l) (S [c]) = (l.getLast? == some c) := by
  unfold Txt.endswith Builtin.Str.subAt
  rw [S_length, S_length]
  rcases List.eq_nil_or_concat l with rfl | ⟨l, a, rfl⟩
  · rfl
  · rw [List.concat_eq_append]
    have hlen : (l ++ [a]).length = l.length + 1 := by simp
    have e0 : (l ++ [a]).length - [c].length = l.length := by simp
    have e : decide (0 + [c].length ≤ (l ++ [a]).length) = true := by simp
    rw [e, Bool.true_and, e0]
    have : (S (l ++ [a])).cps.extract l.length (l.length + [c].length) = #[a] := by
      show (l ++ [a]).toArray.extract l.length (l.length + 1) = #[a]
      simp [List.extract_eq_take_drop]
    rw [this]
    show (#[a] == #[c]) = _
    rw [List.getLast?_append]
    show _ = (some a == some c)
    by_cases hac : a = c
    · subst hac; simp
    · have h1 : (#[a] == #[c]) = false := by simpa using hac
      have h2 : (some a == some c) = false := by simpa using hac
      rw [h1, h2]
theorem drop_takeWhile (p : Nat → Bool) : ∀ l : List Nat, l.drop (l.takeWhile p).length = l.dropWhile p
  | [] => rfl
  | a :: l => by
    rw [List.takeWhile_cons, List.dropWhile_cons]
    cases h : p a with
    | true => simp [drop_takeWhile p l]
    | false => simp
theorem S_lstrip {l : List Nat} : Txt.lstrip (S l) = S (l.dropWhile Unicode.isSpace) := by
  have hlo : stripLo Unicode.isSpace true (S l) = (l.takeWhile Unicode.isSpace).length := rfl
  have hhi : ∀ k, stripHi Unicode.isSpace false (S l) k = l.length := fun k => S_length l
  unfold Txt.lstrip Txt.stripBy stripSame PySem.stripped
  rw [hlo, hhi, S_length]
  have key : Builtin.Str.strSub (S l) (l.takeWhile Unicode.isSpace).length l.length = S (l.dropWhile Unicode.isSpace) := by
    show (⟨(S l).cps.extract _ _⟩ : Str) = _
    rw [S_extract, ← drop_takeWhile, List.take_of_length_le]
    rw [List.length_drop]; omega
  split
  · rename_i h
    simp only [beq_self_eq_true, Bool.and_true, beq_iff_eq] at h
    rw [← drop_takeWhile, h, List.drop_zero]
  · exact key
theorem S_rstrip {l : List Nat} (h : ∀ c, l.getLast? = some c → Unicode.isSpace c = false) : Txt.rstrip (S l) = S l := by
  have hlo : stripLo Unicode.isSpace false (S l) = 0 := rfl
  have hhi : stripHi Unicode.isSpace true (S l) 0 = l.length := by
    show (S l).length - ((l.drop 0).reverse.takeWhile Unicode.isSpace).length = _
    rw [S_length, List.drop_zero]
    have : l.reverse.takeWhile Unicode.isSpace = [] := by
      rcases List.eq_nil_or_concat l with rfl | ⟨l, a, rfl⟩
      · rfl
      · rw [List.concat_eq_append] at h ⊢
        rw [List.reverse_append]
        have ha := h a (by simp)
        show List.takeWhile _ (a :: l.reverse) = []
        rw [List.takeWhile_cons, ha]; rfl
    rw [this]; rfl
  unfold Txt.rstrip Txt.stripBy stripSame
  rw [hlo, hhi, S_length]
  simp
theorem S_join' (sep : List Nat) : ∀ ys : List (List Nat), Str.join (S sep) (ys.map S) = S (List.intercalate sep ys)
  | [] => rfl
  | [y] => by
    show S y = _
    simp [List.intercalate]
  | y :: z :: r => by
    have := S_join' sep (z :: r)
    rw [List.map_cons, List.map_cons]
    show S y ++ S sep ++ Str.join (S sep) (S z :: r.map S) = _
    rw [List.map_cons] at this
    rw [this, S_append, S_append]
    congr 1
    simp [List.intercalate]
theorem S_join (sep : List Nat) (ys : List (List Nat)) : Txt.join (S sep) (ys.map S) = S (List.intercalate sep ys) := by
  unfold Txt.join
  rw [StrLaws.glued_eq_join]
  exact S_join' sep ys

/-! the names -/
noncomputable def kS : Nat → List Nat
  | 0 => [97]
  | 1 => [98, 55]
  | _ => [47, 99]
noncomputable def vS : Nat → List Nat
  | 0 => [120]
  | 1 => [121, 58]
  | _ => [122, 33]
noncomputable def quo (l : List Nat) : List Nat := 34 :: (l ++ [34])
noncomputable def mark (l : List Nat) : List Nat := if l.contains 47 || l.contains 58 then quo l else l
noncomputable def names : List (List Nat) := [[97], [98, 55], [47, 99], [120], [121, 58], [122, 33], [55, 98], [99, 47], [58, 121], [33, 122]]
theorem kS_mem (i : Nat) : kS i ∈ names := by unfold kS; split <;> decide
theorem vS_mem (i : Nat) : vS i ∈ names := by unfold vS; split <;> decide
theorem kR_mem (i : Nat) : (kS i).reverse ∈ names := by unfold kS; split <;> decide
theorem vR_mem (i : Nat) : (vS i).reverse ∈ names := by unfold vS; split <;> decide
theorem names_slash : ∀ l ∈ names, (Builtin.Str.occurrences (S l) (S [47]) 0 (S l).length 1).isEmpty = !l.contains 47 := by decide +kernel
theorem names_colon : ∀ l ∈ names, (Builtin.Str.occurrences (S l) (S [58]) 0 (S l).length 1).isEmpty = !l.contains 58 := by decide +kernel
theorem names_len : ∀ l ∈ names, l.length ≤ 2 ∧ l ≠ [] := by decide
end Mine
end

section
open PySem PySem.W PyProof.Rows PySem.Calls
set_option Elab.async false
set_option linter.unusedVariables false
set_option maxRecDepth 100000
namespace Mine
section
variable {w : World} {n : Nat} {Q : D → Prop}

theorem lit_of {x : Str} {l : List Nat} (h : x = S l) {Q : D → Prop} (q : Q (.str (S l))) : Q (.str x) := by rw [h]; exact q
theorem S_small {l : List Nat} (h : l.length ≤ 1000) : (S l).length ≤ sizeLine := by rw [S_length]; have : sizeLine = 16777216 := rfl; omega

theorem unmatched_spec {l : List Nat} {k : Nat} {sp : List Int} (hl : l.length ≤ 1000) (hk : k ≤ l.length) (h : Q (.str (S (l.drop k)))) : WF w (n + 1) 43 [.mat (S l) (0 :: (k : Int) :: sp)] Q := by
  refine WF.of (xs := ["match"]) rfl rfl rfl rfl rfl rfl rfl ?_ rfl ?_ ?_ fun L => ?_
  · intro vs hv
    obtain ⟨v, rfl⟩ := len1 hv
    rfl
  · decide
  · intro L x hx; simp at hx; subst hx; exact .inl rfl
  refine WS.cons (WX.assign2 (WE.meth RF.plainAttrs_mat RF.slot_span RF.type_span (WE.var rfl ⟨IsT.mat, WA.cons (WE.int (WA.nil (m_span0 (WG.pair (.inl rfl) (.inl rfl) ?_))))⟩)))
  refine WS.cons (WX.ret (WE.binop (WE.str_to (WE.mat_string (WE.var rfl ⟨_, _, rfl, ⟨_, rfl, S_small hl, WE.var rfl ⟨_, rfl, ?_⟩⟩⟩)))))
  rw [show (0 : Int) = ((0 : Nat) : Int) from rfl, S_slice_to (Nat.zero_le _)]
  refine WE.str_from (WE.mat_string (WE.var rfl ⟨_, _, rfl, ⟨_, rfl, S_small hl, WE.var rfl ⟨_, rfl, ?_⟩⟩⟩))
  rw [S_slice_from hk]
  refine op_add_str (by rw [S_length, S_length, List.length_drop]; have : sizeLine = 16777216 := rfl; simp; omega) ⟨_, rfl, ?_⟩
  rw [S_append]
  exact h

noncomputable abbrev At (σ : Sto) (x : Str) (d : D) : Prop := σ.lookup x = some (.fz d)
/-- a statement whose ways meet again -/
theorem WS.join {env : Env} {σ : Sto} {P : FlowD → Sto → Prop} {t : Stmt} {ts : List Stmt} (I : Sto → Prop) (h1 : WX w n env σ t fun f σ' => f = .next ∧ I σ') (h2 : ∀ σ', I σ' → WS w n env σ' ts P) : WS w n env σ (t :: ts) P :=
  WS.cons (h1.mono fun f σ' ⟨hf, hi⟩ => by subst hf; exact h2 σ' hi)

noncomputable def strip34 (l : List Nat) : List Nat :=
  let y := if l.head? == some 34 then l.drop 1 else l
  if y.getLast? == some 34 then y.dropLast else y
theorem strip_spec {l : List Nat} (hl : l.length ≤ 1000) (h : Q (.str (S (strip34 l)))) : WF w (n + 1) 94 [.str (S l)] Q := by
  refine WF.of (xs := ["text"]) rfl rfl rfl rfl rfl rfl rfl ?_ rfl ?_ ?_ fun L => ?_
  · intro vs hv
    obtain ⟨v, rfl⟩ := len1 hv
    rfl
  · decide
  · intro L x hx; simp at hx; subst hx; exact .inl rfl
  have q34 : ("\"" : Str) = S [34] := by decide +kernel
  let y := if l.head? == some 34 then l.drop 1 else l
  have hy : y.length ≤ 1000 := by
    show (if l.head? == some 34 then l.drop 1 else l).length ≤ 1000
    split
    · rw [List.length_drop]; omega
    · exact hl
  refine WS.join (fun σ => At σ "text" (.str (S y))) (WX.ite (WT.val (WE.meth F.plainAttrs_str F.slot_str_startswith F.type_str_startswith (WE.var rfl ⟨IsT.str, WA.cons (WE.str (WA.nil (m_startswith (Tru.bool ?_))))⟩)))) fun σ hσ => ?_
  · rw [q34, S_startswith]
    refine ⟨fun hb => WS.cons (WX.assign (.inl rfl) (WE.str_from (WE.var rfl ⟨_, rfl, S_small hl, WE.int ⟨_, rfl, ?_⟩⟩))), fun hb => WS.nil ⟨rfl, ?_⟩⟩
    · have h1 : 1 ≤ l.length := by
        cases l with
        | nil => cases hb
        | cons a l => simp
      rw [show (1 : Int) = ((1 : Nat) : Int) from rfl, S_slice_from h1]
      refine WS.nil ⟨rfl, ?_⟩
      show some (Ent.fz (.str (S (l.drop 1)))) = some (Ent.fz (.str (S (if l.head? == some 34 then l.drop 1 else l))))
      rw [if_pos hb]
    · show some (Ent.fz (.str (S l))) = some (Ent.fz (.str (S (if l.head? == some 34 then l.drop 1 else l))))
      rw [if_neg (by rw [hb]; decide)]
  have hs : strip34 l = if y.getLast? == some 34 then y.dropLast else y := rfl
  refine WS.join (fun σ => At σ "text" (.str (S (strip34 l)))) (WX.ite (WT.val (WE.meth F.plainAttrs_str F.slot_str_endswith F.type_str_endswith (WE.var hσ ⟨IsT.str, WA.cons (WE.str (WA.nil (m_endswith (Tru.bool ?_))))⟩)))) fun σ hσ => ?_
  · rw [q34, S_endswith]
    refine ⟨fun hb => WS.cons (WX.assign (.inl rfl) (WE.str_to (WE.var hσ ⟨_, rfl, S_small hy, WE.neg (WE.int ⟨_, rfl, ⟨_, rfl, ?_⟩⟩)⟩))), fun hb => WS.nil ⟨rfl, ?_⟩⟩
    · have h1 : y ≠ [] := by
        intro e
        rw [e] at hb; cases hb
      rw [S_slice_neg1 h1]
      refine WS.nil ⟨rfl, ?_⟩
      show some (Ent.fz (.str (S y.dropLast))) = _
      rw [hs, if_pos hb]
    · show At _ _ _
      rw [hs, if_neg (by rw [hb]; decide)]
      exact hσ
  exact WS.cons (WX.ret (WE.var hσ ⟨_, rfl, h⟩))
end
end Mine
end

section
open PySem PySem.W PyProof.Rows PySem.Calls
set_option Elab.async false
set_option linter.unusedVariables false
set_option maxRecDepth 100000
namespace Mine
section
variable {w : World} {n : Nat} {Q : D → Prop}

theorem fmod_nat (m k : Nat) : ((m : Int)).fmod (k : Int) = ((m % k : Nat) : Int) := by
  rw [Int.fmod_eq_emod_of_nonneg _ (by omega)]; rfl
theorem fdiv_nat (m k : Nat) : ((m : Int)).fdiv (k : Int) = ((m / k : Nat) : Int) := by
  rw [Int.fdiv_eq_ediv_of_nonneg _ (by omega)]; rfl
theorem pyl (x : Int) {y : Int} (h : y = 2 ∨ y = 3 ∨ y = 9 ∨ y = 18 ∨ y = 36) : Builtin.divisionGoesByPylong x y = false := by
  rcases h with rfl | rfl | rfl | rfl | rfl <;> rfl
theorem size2 : 2 ≤ sizeLine := by decide
theorem size3 : 3 ≤ sizeLine := by decide

theorem names_spec {m : Nat} (hm : m < 144) (h : Q (.tup [.str (S (kS (m % 3))), .str (S (vS (m / 3 % 3)))])) : WF w (n + 1) 118 [.int m] Q := by
  refine WF.of (xs := ["draw"]) rfl rfl rfl rfl rfl rfl rfl ?_ rfl ?_ ?_ fun L => ?_
  · intro vs hv
    obtain ⟨v, rfl⟩ := len1 hv
    rfl
  · decide
  · intro L x hx; simp at hx; subst hx; exact .inl rfl
  refine WS.cons (WX.ret (WE.tuple (WA.cons ?_)))
  refine WE.item (WE.list (WA.cons (WE.str (WA.cons (WE.str (WA.cons (WE.str (WA.nil ⟨size3, ?_⟩))))))))
  refine WE.binop (WE.var rfl (WE.int (op_mod_int (by decide) (.inl ⟨_, _, .str (S (kS (m % 3))), rfl, rfl, ?_, ?_, ?_, ?_⟩))))
  · rw [show (3 : Int) = ((3 : Nat) : Int) from rfl, fmod_nat]; omega
  · rw [show (3 : Int) = ((3 : Nat) : Int) from rfl, fmod_nat]; omega
  · rw [show (3 : Int) = ((3 : Nat) : Int) from rfl, fmod_nat, Int.toNat_natCast]
    have h3 : m % 3 = 0 ∨ m % 3 = 1 ∨ m % 3 = 2 := by omega
    rcases h3 with e | e | e <;> rw [e] <;> first | rfl | decide +kernel
  refine WA.cons (WE.item (WE.list (WA.cons (WE.str (WA.cons (WE.str (WA.cons (WE.str (WA.nil ⟨size3, ?_⟩)))))))))
  refine WE.binop (WE.binop (WE.var rfl (WE.int (op_div_int (by decide) (pyl _ (by decide)) (WE.int (op_mod_int (by decide) (.inl ⟨_, _, .str (S (vS (m / 3 % 3))), rfl, rfl, ?_, ?_, ?_, WA.nil ⟨size2, _, rfl, h⟩⟩)))))))
  · rw [show (3 : Int) = ((3 : Nat) : Int) from rfl, fdiv_nat, fmod_nat]; omega
  · rw [show (3 : Int) = ((3 : Nat) : Int) from rfl, fdiv_nat, fmod_nat]; omega
  · rw [show (3 : Int) = ((3 : Nat) : Int) from rfl, fdiv_nat, fmod_nat, Int.toNat_natCast]
    have h3 : m / 3 % 3 = 0 ∨ m / 3 % 3 = 1 ∨ m / 3 % 3 = 2 := by omega
    rcases h3 with e | e | e <;> rw [e] <;> first | rfl | decide +kernel

noncomputable def sepL : Nat → List Nat
  | 0 => [59, 32]
  | 1 => [32, 44, 32]
  | 2 => [10]
  | _ => [59, 32, 61, 32, 59]
noncomputable def drawnL (m : Nat) : List Nat :=
  (if m / 9 % 2 = 1 then quo (kS (m % 3)) else kS (m % 3)) ++ [61] ++ (if m / 18 % 2 = 1 then quo (vS (m / 3 % 3)) else vS (m / 3 % 3)) ++ sepL (m / 36)
theorem fits {a : Nat} (h : a ≤ 100000) : a ≤ sizeLine := by have : sizeLine = 16777216 := rfl; omega
theorem kS_len (i : Nat) : (kS i).length ≤ 2 := (names_len _ (kS_mem i)).1
theorem vS_len (i : Nat) : (vS i).length ≤ 2 := (names_len _ (vS_mem i)).1
theorem quo_len (l : List Nat) : (quo l).length = l.length + 2 := by simp [quo]
theorem q34 : ("\"" : Str) = S [34] := by decide +kernel
theorem q61 : ("=" : Str) = S [61] := by decide +kernel

/-- '"' + x + '"' -/
theorem quo_expr {env : Env} {σ : Sto} {x : Str} {xp p1 p2 bp1 bp2 : Pos} {k1 k2 : Nat} {l : List Nat} (hx : At σ x (.str (S l))) (hl : l.length ≤ 1000) (h : Q (.str (S (quo l)))) (hd : (x == ("__debug__" : Str)) = Bool.false := by decide) :
    WE w n env σ (.BinOp (.BinOp (.Constant (.str "\"") k1 p1) .Add (.Name x xp) bp1) .Add (.Constant (.str "\"") k2 p2) bp2) Q := by
  refine WE.binop (WE.binop (WE.str (WE.var hx (op_add_str ?_ (WE.str (op_add_str ?_ ?_))) hd)))
  · rw [q34, S_length, S_length]; exact fits (by simp; omega)
  · rw [q34, S_append, S_length, S_length]; exact fits (by simp; omega)
  · rw [q34, S_append, S_append]; exact h

theorem drawn_spec {m : Nat} (hm : m < 144) (h : Q (.str (S (drawnL m)))) : WF w (n + 2) 125 [.int m] Q := by
  refine WF.of (xs := ["draw"]) rfl rfl rfl rfl rfl rfl rfl ?_ rfl ?_ ?_ fun L => ?_
  · intro vs hv
    obtain ⟨v, rfl⟩ := len1 hv
    rfl
  · decide
  · intro L x hx; simp at hx; subst hx; exact .inl rfl
  refine WS.cons (WX.assign2 (WE.call (f := .ref 118) (WE.glob rfl (by kernel_rfl) ⟨rfl, WA.cons (WE.var rfl (WA.nil (names_spec hm (WG.pair (.inl rfl) (.inl rfl) ?_))))⟩) (by kernel_rfl)))
  have hk := kS_len (m % 3)
  have hv := vS_len (m / 3 % 3)
  let K := if m / 9 % 2 = 1 then quo (kS (m % 3)) else kS (m % 3)
  let V := if m / 18 % 2 = 1 then quo (vS (m / 3 % 3)) else vS (m / 3 % 3)
  have hK : K.length ≤ 4 := by
    show (if m / 9 % 2 = 1 then quo (kS (m % 3)) else kS (m % 3)).length ≤ 4
    split
    · rw [quo_len]; omega
    · omega
  have hV : V.length ≤ 4 := by
    show (if m / 18 % 2 = 1 then quo (vS (m / 3 % 3)) else vS (m / 3 % 3)).length ≤ 4
    split
    · rw [quo_len]; omega
    · omega
  have e2 : (2 : Int) = ((2 : Nat) : Int) := rfl
  have e9 : (9 : Int) = ((9 : Nat) : Int) := rfl
  have e18 : (18 : Int) = ((18 : Nat) : Int) := rfl
  have e36 : (36 : Int) = ((36 : Nat) : Int) := rfl
  refine WS.join (fun σ => At σ "key" (.str (S K)) ∧ At σ "value" (.str (S (vS (m / 3 % 3)))) ∧ At σ "draw" (.int m)) (WX.assign (.inl rfl) (WE.ifexp (WT.cmp (WE.binop (WE.binop (WE.var rfl (WE.int (op_div_int (by decide) (pyl _ (by decide)) (WE.int (op_mod_int (by decide) (WE.int (op_eq_int (Tru.bool ⟨fun hb => ?_, fun hb => ?_⟩))))))))))))) fun σ hσ => ?_
  · refine quo_expr rfl (by omega) ⟨rfl, ?_, rfl, rfl⟩
    rw [e9, fdiv_nat, e2, fmod_nat] at hb
    have hb' : m / 9 % 2 = 1 := by have := eq_of_beq hb; omega
    show some (Ent.fz (.str (S (quo (kS (m % 3)))))) = some (Ent.fz (.str (S (if m / 9 % 2 = 1 then quo (kS (m % 3)) else kS (m % 3)))))
    rw [if_pos hb']
  · refine WE.var rfl ⟨rfl, ?_, rfl, rfl⟩
    rw [e9, fdiv_nat, e2, fmod_nat] at hb
    have hb' : ¬ m / 9 % 2 = 1 := by intro q; rw [q] at hb; cases hb
    show some (Ent.fz (.str (S (kS (m % 3))))) = some (Ent.fz (.str (S (if m / 9 % 2 = 1 then quo (kS (m % 3)) else kS (m % 3)))))
    rw [if_neg hb']
  obtain ⟨h1, h2, h3⟩ := hσ
  refine WS.join (fun σ => At σ "key" (.str (S K)) ∧ At σ "value" (.str (S V)) ∧ At σ "draw" (.int m)) (WX.assign (.inl rfl) (WE.ifexp (WT.cmp (WE.binop (WE.binop (WE.var h3 (WE.int (op_div_int (by decide) (pyl _ (by decide)) (WE.int (op_mod_int (by decide) (WE.int (op_eq_int (Tru.bool ⟨fun hb => ?_, fun hb => ?_⟩))))))))))))) fun σ hσ => ?_
  · refine quo_expr h2 (by omega) ⟨rfl, (lookup_cons_ne (by decide)).trans h1, ?_, (lookup_cons_ne (by decide)).trans h3⟩
    rw [e18, fdiv_nat, e2, fmod_nat] at hb
    have hb' : m / 18 % 2 = 1 := by have := eq_of_beq hb; omega
    show some (Ent.fz (.str (S (quo (vS (m / 3 % 3)))))) = some (Ent.fz (.str (S (if m / 18 % 2 = 1 then quo (vS (m / 3 % 3)) else vS (m / 3 % 3)))))
    rw [if_pos hb']
  · refine WE.var h2 ⟨rfl, (lookup_cons_ne (by decide)).trans h1, ?_, (lookup_cons_ne (by decide)).trans h3⟩
    rw [e18, fdiv_nat, e2, fmod_nat] at hb
    have hb' : ¬ m / 18 % 2 = 1 := by intro q; rw [q] at hb; cases hb
    show some (Ent.fz (.str (S (vS (m / 3 % 3))))) = some (Ent.fz (.str (S (if m / 18 % 2 = 1 then quo (vS (m / 3 % 3)) else vS (m / 3 % 3)))))
    rw [if_neg hb']
  obtain ⟨h1, h2, h3⟩ := hσ
  refine WS.cons (WX.ret (WE.binop (WE.binop (WE.binop (WE.var h1 (WE.str (op_add_str ?_ (WE.var h2 (op_add_str ?_ ?_)))))))))
  · rw [q61, S_length, S_length]; exact fits (by simp; omega)
  · rw [q61, S_append, S_length, S_length]; exact fits (by simp; omega)
  refine WE.item (WE.list (WA.cons (WE.str (WA.cons (WE.str (WA.cons (WE.str (WA.cons (WE.str (WA.nil ⟨fits (by simp), ?_⟩))))))))))
  refine WE.binop (WE.var h3 (WE.int (op_div_int (by decide) (pyl _ (by decide)) (.inl ⟨_, _, .str (S (sepL (m / 36))), rfl, rfl, ?_, ?_, ?_, op_add_str ?_ ⟨_, rfl, ?_⟩⟩))))
  · rw [e36, fdiv_nat]; omega
  · rw [e36, fdiv_nat]; omega
  · rw [e36, fdiv_nat, Int.toNat_natCast]
    have h3 : m / 36 = 0 ∨ m / 36 = 1 ∨ m / 36 = 2 ∨ m / 36 = 3 := by omega
    rcases h3 with e | e | e | e <;> rw [e] <;> first | rfl | decide +kernel
  · rw [q61, S_append, S_append, S_length, S_length]
    have : (sepL (m / 36)).length ≤ 5 := by unfold sepL; split <;> decide
    exact fits (by simp; omega)
  · rw [q61, S_append, S_append, S_append]; exact h
end
end Mine
end

section
open PySem PySem.W PyProof.Rows PySem.Calls
set_option Elab.async false
set_option linter.unusedVariables false
set_option maxRecDepth 100000
namespace Mine
section
variable {w : World} {n : Nat} {Q : D → Prop}
theorem q47 : ("/" : Str) = S [47] := by decide +kernel
theorem q58 : (":" : Str) = S [58] := by decide +kernel
theorem marked_spec {l : List Nat} (hl : l ∈ names) (h : Q (.str (S (mark l)))) : WF w (n + 1) 132 [.str (S l)] Q := by
  refine WF.of (xs := ["name"]) rfl rfl rfl rfl rfl rfl rfl ?_ rfl ?_ ?_ fun L => ?_
  · intro vs hv
    obtain ⟨v, rfl⟩ := len1 hv
    rfl
  · decide
  · intro L x hx; simp at hx; subst hx; exact .inl rfl
  have hlen := (names_len l hl).1
  refine WS.cons (WX.ret (WE.ifexp (WT.boolop (WAll.or (WT.cmp (WE.str (WE.var rfl (op_in_str (Tru.bool ⟨fun hb => ⟨fun _ => ?_, (by intro h; cases h)⟩, fun hb => WAll.or (WT.cmp (WE.str (WE.var rfl (op_in_str (Tru.bool ⟨fun hc => ⟨fun _ => ?_, (by intro h; cases h)⟩, fun hc => WAll.or_nil ⟨(by intro h; cases h), fun _ => ?_⟩⟩)))))⟩)))))))))
  · rw [q47, names_slash l hl] at hb
    refine quo_expr rfl (by omega) ⟨_, rfl, ?_⟩
    have : mark l = quo l := by unfold mark; rw [if_pos]; simp at hb; simp [hb]
    rw [← this]; exact h
  · rw [q58, names_colon l hl] at hc
    refine quo_expr rfl (by omega) ⟨_, rfl, ?_⟩
    have : mark l = quo l := by unfold mark; rw [if_pos]; simp at hc; simp [hc]
    rw [← this]; exact h
  · rw [q47, names_slash l hl] at hb
    rw [q58, names_colon l hl] at hc
    refine WE.var rfl ⟨_, rfl, ?_⟩
    have : mark l = l := by unfold mark; rw [if_neg]; simp at hb hc; simp [hb, hc]
    rw [this] at h; exact h

/-- words, and lists of words -/
noncomputable abbrev wordD (p : List Nat × List Nat) : D := .tup [.str (S p.1), .str (S p.2)]
noncomputable abbrev wordsD (ws : List (List Nat × List Nat)) : D := .list (ws.map wordD)
noncomputable abbrev listsD (ls : List (List (List Nat × List Nat))) : D := .list (ls.map wordsD)
noncomputable def wordL (p : List Nat × List Nat) : List Nat := p.1 ++ [61] ++ mark p.2
noncomputable def sepW : List Nat := [59, 32]
noncomputable def sepC : List Nat := [44, 32]
noncomputable def toldL (ls : List (List (List Nat × List Nat))) : List Nat := List.intercalate sepC ((ls.filter (!·.isEmpty)).map fun ws => List.intercalate sepW (ws.map wordL))

theorem mark_len {l : List Nat} (h : l ∈ names) : (mark l).length ≤ 4 := by
  have := (names_len l h).1
  unfold mark; split
  · rw [quo_len]; omega
  · omega
theorem inter_len (sep : List Nat) : ∀ ys : List (List Nat), (List.intercalate sep ys).length ≤ (ys.map (·.length)).sum + sep.length * ys.length
  | [] => by simp [List.intercalate]
  | [y] => by simp [List.intercalate]
  | y :: z :: r => by
    have := inter_len sep (z :: r)
    have e : List.intercalate sep (y :: z :: r) = y ++ sep ++ List.intercalate sep (z :: r) := by simp [List.intercalate]
    rw [e]
    simp only [List.length_append, List.map_cons, List.sum_cons, List.length_cons] at this ⊢
    simp only [Nat.mul_add, Nat.mul_one] at this ⊢
    omega
end
end Mine
end

section
open PySem PySem.W PyProof.Rows PySem.Calls
set_option Elab.async false
set_option linter.unusedVariables false
set_option maxRecDepth 100000
namespace Mine
section
variable {w : World} {n : Nat} {Q : D → Prop} {env : Env} {τ : Sto} {t elt c : Expr} {α : Type}
theorem WG.mono {d : D} {K K' : Sto → Prop} (h : WG w n env τ t d K) (k : ∀ σ, K σ → K' σ) : WG w n env τ t d K' :=
  fun A s g Mt₀ Mt v R E ro S r q => h A s g Mt₀ Mt v R E ro S r fun h' tk' σ' a b c => q h' tk' σ' a b (k _ c)
theorem CompI.map {g f : α → D} : ∀ (xs : List α) (acc : List D) {Q : List D → Prop}, acc.length + xs.length ≤ sizeLine →
    (∀ x ∈ xs, WG w n env τ t (g x) fun σ1 => (Sub τ σ1 ∧ AllFz σ1) ∧ WE w n env σ1 elt fun y => y = f x) → Q (acc ++ xs.map f) → CompI w n env t [] (Emit w n env elt) (xs.map g) τ acc Q
  | [], acc, Q, _, _, q => by
    rw [List.map_nil, List.append_nil] at q
    exact q
  | x :: xs, acc, Q, hz, h, q => by
    rw [List.length_cons] at hz
    refine (h x (List.mem_cons_self ..)).mono fun σ1 ⟨a, b⟩ => ⟨a, fun _ => ⟨by omega, b.mono fun y e => ?_⟩, (by intro h; cases h)⟩
    subst e
    refine CompI.map xs _ (by rw [List.length_append, List.length_singleton]; omega) (fun x hx => h x (List.mem_cons_of_mem _ hx)) ?_
    rw [List.append_assoc]; exact q
theorem CompI.filt {g f : α → D} {p : α → Bool} : ∀ (xs : List α) (acc : List D) {Q : List D → Prop}, acc.length + xs.length ≤ sizeLine →
    (∀ x ∈ xs, WG w n env τ t (g x) fun σ1 => (Sub τ σ1 ∧ AllFz σ1) ∧ WT w n env σ1 c fun b => b = p x ∧ (p x = true → WE w n env σ1 elt fun y => y = f x)) → Q (acc ++ (xs.filter p).map f) → CompI w n env t [c] (Emit w n env elt) (xs.map g) τ acc Q
  | [], acc, Q, _, _, q => by
    rw [List.filter_nil, List.map_nil, List.append_nil] at q
    exact q
  | x :: xs, acc, Q, hz, h, q => by
    rw [List.length_cons] at hz
    refine (h x (List.mem_cons_self ..)).mono fun σ1 ⟨a, b⟩ => ⟨a, b.mono fun bb ⟨e, b⟩ => ⟨fun hb => ⟨fun _ => ⟨by omega, (b (e ▸ hb)).mono fun y e' => ?_⟩, (by intro h; cases h)⟩, fun hb => ⟨(by intro h; cases h), fun _ => ?_⟩⟩⟩
    · subst e'
      refine CompI.filt xs _ (by rw [List.length_append, List.length_singleton]; omega) (fun x hx => h x (List.mem_cons_of_mem _ hx)) ?_
      rw [List.filter_cons, ← e, hb] at q
      rw [List.append_assoc]; exact q
    · refine CompI.filt xs _ (by omega) (fun x hx => h x (List.mem_cons_of_mem _ hx)) ?_
      rw [List.filter_cons, ← e, hb] at q
      exact q
/-- two clauses -/
theorem CompI.bind {g : α → D} {F : α → List D} {t2 iter2 : Expr} {ifs2 : List Expr} {B : Nat} : ∀ (xs : List α) (acc : List D) {Q : List D → Prop}, acc.length + (xs.map fun x => (F x).length).sum ≤ B →
    (∀ x ∈ xs, WG w n env τ t (g x) fun σ1 => (Sub τ σ1 ∧ AllFz σ1) ∧ ∀ acc (Q' : List D → Prop), acc.length + (F x).length ≤ B → Q' (acc ++ F x) → Inner w n env elt t2 iter2 ifs2 σ1 acc Q') → Q (acc ++ xs.flatMap F) → CompI w n env t [] (Inner w n env elt t2 iter2 ifs2) (xs.map g) τ acc Q
  | [], acc, Q, _, _, q => by
    rw [List.flatMap_nil, List.append_nil] at q
    exact q
  | x :: xs, acc, Q, hz, h, q => by
    rw [List.map_cons, List.sum_cons] at hz
    refine (h x (List.mem_cons_self ..)).mono fun σ1 ⟨a, b⟩ => ⟨a, fun _ => b _ _ (by omega) ?_, (by intro h; cases h)⟩
    refine CompI.bind xs _ (by rw [List.length_append]; omega) (fun x hx => h x (List.mem_cons_of_mem _ hx)) ?_
    rw [List.append_assoc, ← List.flatMap_cons]; exact q
theorem CompI.bindF {g : α → D} {F : α → List D} {p : α → Bool} {t2 iter2 : Expr} {ifs2 : List Expr} {B : Nat} : ∀ (xs : List α) (acc : List D) {Q : List D → Prop}, acc.length + (xs.map fun x => (F x).length).sum ≤ B →
    (∀ x ∈ xs, WG w n env τ t (g x) fun σ1 => (Sub τ σ1 ∧ AllFz σ1) ∧ WT w n env σ1 c fun b => b = p x ∧ ∀ acc (Q' : List D → Prop), acc.length + (F x).length ≤ B → Q' (acc ++ F x) → Inner w n env elt t2 iter2 ifs2 σ1 acc Q') → Q (acc ++ (xs.filter p).flatMap F) → CompI w n env t [c] (Inner w n env elt t2 iter2 ifs2) (xs.map g) τ acc Q
  | [], acc, Q, _, _, q => by
    rw [List.filter_nil, List.flatMap_nil, List.append_nil] at q
    exact q
  | x :: xs, acc, Q, hz, h, q => by
    rw [List.map_cons, List.sum_cons] at hz
    refine (h x (List.mem_cons_self ..)).mono fun σ1 ⟨a, b⟩ => ⟨a, b.mono fun bb ⟨e, b⟩ => ⟨fun hb => ⟨fun _ => b _ _ (by omega) ?_, (by intro h; cases h)⟩, fun hb => ⟨(by intro h; cases h), fun _ => ?_⟩⟩⟩
    · refine CompI.bindF xs _ (by rw [List.length_append]; omega) (fun x hx => h x (List.mem_cons_of_mem _ hx)) ?_
      rw [List.filter_cons, ← e, hb, if_pos rfl, List.flatMap_cons] at q
      rw [List.append_assoc]; exact q
    · refine CompI.bindF xs _ (by omega) (fun x hx => h x (List.mem_cons_of_mem _ hx)) ?_
      rw [List.filter_cons, ← e, hb] at q
      exact q
theorem sub_one {x : Str} {d : D} : Sub [] [(x, .fz d)] ∧ AllFz [(x, .fz d)] := ⟨fun _ _ h => (nomatch h), AllFz.nil.cons⟩

theorem q592 : ("; " : Str) = S sepW := by decide +kernel
theorem q442 : (", " : Str) = S sepC := by decide +kernel
theorem map_S {α : Type} (f : α → List Nat) (l : List α) : (l.map fun x => D.str (S (f x))) = ((l.map f).map S).map D.str := by
  rw [List.map_map, List.map_map]; rfl
theorem joinL {sep : List Nat} {ys : List (List Nat)} (hs : sep.length ≤ 100) (hy : ys.length ≤ 1000) (hl : ∀ y ∈ ys, y.length ≤ 1000) (h : Q (.str (S (List.intercalate sep ys)))) : WO w n [.str (S sep), .list ((ys.map S).map D.str)] (fun vs => call (.builtin "str.join") vs) Q := by
  refine m_join ?_ (by rw [S_join]; exact h)
  unfold JoinOk Builtin.Str.tooLong
  have key : ∀ (l : List (List Nat)) (a : Nat), (∀ y ∈ l, y.length ≤ 1000) → (l.map S).foldl (fun a (x : Str) => a + x.length + (S sep).length) a ≤ a + l.length * 1100 := by
    intro l
    induction l with
    | nil => intro a _; exact Nat.le_refl _
    | cons y l ih =>
      intro a hl
      rw [List.map_cons, List.foldl_cons]
      have := ih (a + (S y).length + (S sep).length) fun y hy => hl y (List.mem_cons_of_mem _ hy)
      have hy := hl y (List.mem_cons_self ..)
      rw [S_length] at this ⊢
      rw [S_length] at this ⊢
      rw [List.length_cons, Nat.succ_mul]
      omega
  have := key ys 0 hl
  rw [← Array.foldl_toList] 
  have e : sizeLine = 16777216 := rfl
  simp only [e, Bool.not_eq_true', decide_eq_false_iff_not]
  show ¬ (ys.map S).foldl _ 0 > _
  omega

noncomputable abbrev WordsOk (ls : List (List (List Nat × List Nat))) : Prop := ls.length ≤ 20 ∧ ∀ ws ∈ ls, ws.length ≤ 20 ∧ ∀ p ∈ ws, p.1.length ≤ 20 ∧ p.2 ∈ names
set_option maxHeartbeats 2000000 in
theorem written_spec {ls : List (List (List Nat × List Nat))} (ok : WordsOk ls) (h : Q (.str (S (toldL ls)))) : WF w (n + 2) 137 [listsD ls] Q := by
  refine WF.of (xs := ["lists"]) rfl rfl rfl rfl rfl rfl rfl ?_ rfl ?_ ?_ fun L => ?_
  · intro vs hv
    obtain ⟨v, rfl⟩ := len1 hv
    rfl
  · decide
  · intro L x hx; simp at hx; subst hx; exact .inl rfl
  refine WS.cons (WX.ret (WE.meth F.plainAttrs_str F.slot_str_join F.type_str_join (WE.str ⟨IsT.str, WA.cons (WE.comp1 [] [] (WE.var rfl ⟨_, rfl, fun C => ?_⟩) (fun C => trivial) trivial)⟩)))
  refine CompI.filt (f := fun ws => .str (S (List.intercalate sepW (ws.map wordL)))) (p := fun ws => !ws.isEmpty) ls [] ?_ (fun ws hw => ?_) (WA.nil ?_)
  · have := ok.1; exact fits (by simp; omega)
  · obtain ⟨h1, h2⟩ := ok.2 ws hw
    refine WG.name (.inl rfl) ⟨sub_one, WT.cmp (WE.var rfl (WE.list (WA.nil ⟨by decide, op_ne_nil (Tru.bool ⟨by simp, fun _ => ?_⟩)⟩)))⟩

    refine WE.meth F.plainAttrs_str F.slot_str_join F.type_str_join ?_ ?_ ?_ ?_
    case refine_2 => rfl
    case refine_3 => rfl
    case refine_4 => rfl
    refine WE.str ⟨IsT.str, WA.cons ?_⟩
    refine WE.comp1 [] [] (WE.var rfl ⟨_, rfl, fun C => ?_⟩) (fun C => trivial) trivial ?_ ?_ ?_ ?_
    case refine_2 => rfl
    case refine_3 => rfl
    case refine_4 => decide
    case refine_5 => intro _; rfl
    refine CompI.map (f := fun p => .str (S (wordL p))) ws [] (fits (by simp; omega)) (fun p hp => ?_) (WA.nil ?_)
    · obtain ⟨hk, hv⟩ := h2 p hp
      refine WG.pair (.inl rfl) (.inl rfl) ⟨⟨fun _ _ h => (nomatch h), AllFz.nil.cons.cons⟩, ?_⟩
      refine WE.binop (WE.binop (WE.var rfl (WE.str (op_add_str ?_ (WE.call (f := .ref 132) (WE.glob rfl (by kernel_rfl) ⟨rfl, WA.cons (WE.var rfl (WA.nil (marked_spec hv (op_add_str ?_ ?_))))⟩) (by kernel_rfl))))))
      · rw [q61, S_length, S_length]; exact fits (by simp; omega)
      · have := mark_len hv
        rw [q61, S_append, S_length, S_length]; exact fits (by simp; omega)
      · rw [q61, S_append, S_append]; rfl
    · rw [List.nil_append, map_S, q592]
      refine joinL (by decide) (by simp; omega) (fun y hy => ?_) rfl
      obtain ⟨p, hp, rfl⟩ := List.mem_map.mp hy
      obtain ⟨hk, hv⟩ := h2 p hp
      have := mark_len hv
      simp [wordL]; omega
  · rw [List.nil_append, map_S, q442]
    refine joinL (by decide) ?_ (fun y hy => ?_) ⟨_, rfl, h⟩
    · have := ok.1
      have := List.length_filter_le (fun ws : List (List Nat × List Nat) => !ws.isEmpty) ls
      rw [List.length_map]; omega
    · obtain ⟨ws, hw, rfl⟩ := List.mem_map.mp hy
      obtain ⟨h1, h2⟩ := ok.2 ws (List.mem_filter.mp hw).1
      refine Nat.le_trans (inter_len _ _) ?_
      have : ((ws.map wordL).map (·.length)).sum ≤ ws.length * 25 := by
        clear hw hy h1
        induction ws with
        | nil => exact Nat.le_refl _
        | cons p ws ih =>
          have := ih fun p hp => h2 p (List.mem_cons_of_mem _ hp)
          obtain ⟨hk, hv⟩ := h2 p (List.mem_cons_self ..)
          have hm := mark_len hv
          simp only [List.map_cons, List.sum_cons, List.length_cons, Nat.succ_mul]
          have : (wordL p).length ≤ 25 := by simp [wordL]; omega
          omega
      rw [List.length_map]
      have : sepW.length = 2 := rfl
      rw [this]
      omega
end
end Mine
end

section
open PySem PySem.W PyProof.Rows PySem.Calls
set_option Elab.async false
set_option linter.unusedVariables false
set_option maxRecDepth 100000
namespace Mine
section
variable {w : World} {n : Nat} {Q : D → Prop} {env : Env} {σ : Sto} {t elt c : Expr} {body : List Stmt} {P : FlowD → Sto → Prop}
theorem b_len_bytes {b : Array UInt8} (hz : b.size ≤ sizeLine) (h : Q (.int b.size)) : WO w n [.bytes b] (fun vs => call (.builtin "len") vs) Q :=
  .one (op := fun a => call (.builtin "len") [a]) (fun A s Mt v R E ro G bd ra q => by
    simp only [Rep] at ra
    obtain ⟨t, rfl⟩ := ra
    exact len_bytes (by have : sizeLine = 16777216 := rfl; omega) (q.here (fun _ => Rep.int_) h _)) fun _ => rfl
theorem WE.callB {x : Str} {p pos : Pos} {e : Expr} {r : List Expr} {id : String}
    (hf : WE w n env σ (.Name x p) fun d => d = .val (.builtin id) ∧ WA w n env σ (e :: r) fun ds => WO w n ds (fun vs => PySem.call (.builtin id) vs) Q)
    (he : starEach (e :: r) env = (Bool.false, eval e env) :: starEach r env := by rfl) (hplain : (backTo pos (starEach r env)).any (·.1) = Bool.false := by rfl) :
    WE w n env σ (.Call (.Name x p) (e :: r) [] pos) Q := by
  intro A s g Mt₀ Mt R E ro S q
  refine wpAny_Call_NameR (hf A s g Mt₀ Mt _ E ro S fun v h' tk' d k r1 h2 => ?_)
  obtain ⟨rfl, h3⟩ := h2
  simp only [Rep] at r1
  subst r1
  have S1 := S.keeps k
  have := h3 A { s with heap := h', toks := tk' } g Mt₀ Mt pos (fun vs s₁ => wpAny (model prog w) A (PySem.call (.builtin id) vs) R E s₁) E ro S1 fun vs h'' tk'' ds k2 r2 h4 => h4 A _ Mt vs R E ro (S1.keeps k2).now (S1.keeps k2).bd r2 (Ret.after (s := s) (stays_trans k k2) q)
  rw [he] at this ⊢
  exact Calls.callWith_builtin (by show (Bool.false || (backTo pos (starEach r env)).any (·.1)) = Bool.false; rw [hplain]; rfl) (Calls.evalArgs_plain this)
theorem WE.callT {x : Str} {p pos : Pos} {e : Expr} {r : List Expr} {T : String}
    (hf : WE w n env σ (.Name x p) fun d => d = .val (.type T) ∧ WA w n env σ (e :: r) fun ds => WO w n ds (fun vs => PySem.call (.type T) vs) Q)
    (he : starEach (e :: r) env = (Bool.false, eval e env) :: starEach r env := by rfl) (hplain : (backTo pos (starEach r env)).any (·.1) = Bool.false := by rfl) :
    WE w n env σ (.Call (.Name x p) (e :: r) [] pos) Q := by
  intro A s g Mt₀ Mt R E ro S q
  refine wpAny_Call_NameR (hf A s g Mt₀ Mt _ E ro S fun v h' tk' d k r1 h2 => ?_)
  obtain ⟨rfl, h3⟩ := h2
  simp only [Rep] at r1
  subst r1
  have S1 := S.keeps k
  exact callWith_type1 (h3 A _ g Mt₀ Mt pos _ E ro S1 fun vs h'' tk'' ds k2 r2 h4 => h4 A _ Mt vs R E ro (S1.keeps k2).now (S1.keeps k2).bd r2 (Ret.after (s := s) (stays_trans k k2) q)) he hplain
noncomputable abbrev Turn (I : Sto → Prop) (P : FlowD → Sto → Prop) : FlowD → Sto → Prop := fun fl σ2 => match fl with
  | .next => I σ2
  | .cont => I σ2
  | .brk => P .next σ2
  | .ret d => P (.ret d) σ2
theorem WSc.mono {e : List Stmt} {P P' : FlowD → Sto → Prop} (h : WSc w n env σ e P) (k : ∀ f s, P f s → P' f s) : WSc w n env σ e P' :=
  fun A s g Mt₀ Mt R E r S q => h A s g Mt₀ Mt R E r S fun f h' tk' fd σ' Mt' a p b c => q f h' tk' fd σ' Mt' a p b (k _ _ c)
theorem LoopW.inv {α : Type} {g : α → D} (I : List α → Sto → Prop) : ∀ (xs : List α) {σ : Sto}, (∀ x r σ, I (x :: r) σ → WG w n env σ t (g x) fun σ1 => WS w n env σ1 body (Turn (I r) P)) → (∀ σ, I [] σ → P .next σ) → I xs σ → LoopW w n env t body (xs.map g) σ P
  | [], σ, _, h2, h => h2 σ h
  | x :: xs, σ, h1, h2, h => by
    refine (h1 x xs σ h).mono fun σ1 h3 => h3.mono fun fl σ2 h4 => ?_
    cases fl with
    | next => exact LoopW.inv I xs h1 h2 h4
    | cont => exact LoopW.inv I xs h1 h2 h4
    | brk => exact h4
    | ret d => exact h4
theorem LoopWc.inv {α : Type} {g : α → D} (I : List α → Sto → Prop) : ∀ (xs : List α) {σ : Sto}, (∀ x r σ, I (x :: r) σ → WG w n env σ t (g x) fun σ1 => WSc w n env σ1 body (Turn (I r) P)) → (∀ σ, I [] σ → P .next σ) → I xs σ → LoopWc w n env t body (xs.map g) σ P
  | [], σ, _, h2, h => h2 σ h
  | x :: xs, σ, h1, h2, h => by
    refine (h1 x xs σ h).mono fun σ1 h3 => h3.mono fun fl σ2 h4 => ?_
    cases fl with
    | next => exact LoopWc.inv I xs h1 h2 h4
    | cont => exact LoopWc.inv I xs h1 h2 h4
    | brk => exact h4
    | ret d => exact h4
/-- over 0 .. m-1 -/
theorem range_suffix {m : Nat} {I : Nat → Sto → Prop} {g : Nat → D} (h1 : ∀ j σ, j < m → I j σ → WG w n env σ t (g j) fun σ1 => WS w n env σ1 body (Turn (I (j + 1)) P)) (h2 : ∀ σ, I m σ → P .next σ) (h : I 0 σ) : LoopW w n env t body ((List.range m).map g) σ P := by
  refine LoopW.inv (fun r σ => ∃ j, j + r.length = m ∧ r = List.range' j r.length ∧ I j σ) _ (fun x r σ ⟨j, e1, e2, hi⟩ => ?_) (fun σ ⟨j, e1, _, hi⟩ => h2 σ (by simp at e1; exact e1 ▸ hi)) ⟨0, by simp, by rw [List.range_eq_range']; simp, h⟩
  rw [List.length_cons, List.range'_succ] at e2
  rw [List.length_cons] at e1
  injection e2 with e2 e3
  subst e2
  refine (h1 _ σ (by omega) hi).mono fun σ1 h3 => h3.mono fun fl σ2 h4 => ?_
  cases fl with
  | next => exact ⟨x + 1, by omega, e3, h4⟩
  | cont => exact ⟨x + 1, by omega, e3, h4⟩
  | brk => exact h4
  | ret d => exact h4
theorem range_suffixC {m : Nat} {I : Nat → Sto → Prop} {g : Nat → D} (h1 : ∀ j σ, j < m → I j σ → WG w n env σ t (g j) fun σ1 => WSc w n env σ1 body (Turn (I (j + 1)) P)) (h2 : ∀ σ, I m σ → P .next σ) (h : I 0 σ) : LoopWc w n env t body ((List.range m).map g) σ P := by
  refine LoopWc.inv (fun r σ => ∃ j, j + r.length = m ∧ r = List.range' j r.length ∧ I j σ) _ (fun x r σ ⟨j, e1, e2, hi⟩ => ?_) (fun σ ⟨j, e1, _, hi⟩ => h2 σ (by simp at e1; exact e1 ▸ hi)) ⟨0, by simp, by rw [List.range_eq_range']; simp, h⟩
  rw [List.length_cons, List.range'_succ] at e2
  rw [List.length_cons] at e1
  injection e2 with e2 e3
  subst e2
  refine (h1 _ σ (by omega) hi).mono fun σ1 h3 => h3.mono fun fl σ2 h4 => ?_
  cases fl with
  | next => exact ⟨x + 1, by omega, e3, h4⟩
  | cont => exact ⟨x + 1, by omega, e3, h4⟩
  | brk => exact h4
  | ret d => exact h4
theorem items_of {a b c : Int} {m : Nat} (hs : Builtin.Range.small a b c = true) (hm : Builtin.Range.rangeSize a b c = (m : Int)) : itemsOf (.rng a b c) = some ((List.range m).map fun (k : Nat) => D.int (a + k * c)) := by
  show (if Builtin.Range.small a b c = true then some ((List.range (Builtin.Range.rangeSize a b c).toNat).map fun (k : Nat) => D.int (a + k * c)) else none) = _
  rw [if_pos hs, hm, Int.toNat_natCast]
theorem items_range1 {m : Nat} (hm : m ≤ 100000) : itemsOf (.rng 0 (m : Int) 1) = some ((List.range m).map fun (k : Nat) => D.int (0 + (k : Int) * 1)) := 
  items_of (small_one (by decide) (by omega) (by omega) (by omega)) (by rw [rangeSize_nat]; omega)

theorem ba_step {pre post : List UInt8} {m : Nat} {v : UInt8} : ((pre ++ List.replicate (m + 1) 0 ++ post).toArray).setIfInBounds (pre.length + m) v = (pre ++ List.replicate m 0 ++ v :: post).toArray := by
  rw [List.setIfInBounds_toArray]
  congr 1
  rw [List.append_assoc, List.append_assoc, List.set_append_right _ _ (by omega), Nat.add_sub_cancel_left]
  congr 1
  rw [List.replicate_succ', List.append_assoc, List.set_append_right _ _ (by simp)]
  simp

theorem two_div {k : Nat} (h : 1 ≤ k) : (2 * k - 1) / k = 1 := by rw [Nat.two_mul, Nat.sub_add_comm h, Nat.add_div_right _ h, Nat.div_eq_of_lt (Nat.sub_lt h Nat.one_pos)]
theorem items_two {k : Nat} (h : 1 ≤ k) (hk : k ≤ 1000) : itemsOf (.rng 0 ((2 * k : Nat) : Int) (k : Int)) = some ((List.range 2).map fun (j : Nat) => D.int (0 + (j : Int) * (k : Int))) := by
  have hz : Builtin.Range.rangeSize 0 ((2 * k : Nat) : Int) (k : Int) = 2 := by
    unfold Builtin.Range.rangeSize
    rw [if_pos (by omega), if_pos (by omega)]
    have : (((2 * k : Nat) : Int) - 0 - 1) / (k : Int) = 1 := by
      have : (((2 * k : Nat) : Int) - 0 - 1) = (((2 * k - 1) : Nat) : Int) := by omega
      rw [this]
      have : (2 * k - 1) / k = 1 := two_div h
      show (((2 * k - 1) / k : Nat) : Int) = 1
      rw [this]; rfl
    rw [this]; rfl
  refine items_of ?_ hz
  unfold Builtin.Range.small
  rw [hz]
  simp [Builtin.Range.rangeFitsLong]
  split <;> omega
theorem items_zero : itemsOf (.rng 0 0 1) = some [] := items_of (m := 0) (by decide +kernel) (by decide +kernel)

theorem get_mid {pre chunk post : List UInt8} {j : Nat} (h : j < chunk.length) : (pre ++ chunk ++ post).getD (pre.length + j) 0 = chunk[j] := by
  rw [List.getD_eq_getElem?_getD, List.append_assoc, List.getElem?_append_right (by omega), Nat.add_sub_cancel_left, List.getElem?_append_left h, List.getElem?_eq_getElem h]
  rfl

noncomputable abbrev swapEnd (p q : List UInt8) : Array UInt8 := (p.reverse ++ q.reverse).toArray
/-- state of the tape after j turns of a chunk -/
noncomputable abbrev tapeAt (pre chunk post : List UInt8) (j : Nat) : Array UInt8 := (pre ++ List.replicate (chunk.length - j) 0 ++ ((chunk.take j).reverse ++ post)).toArray
theorem tape_zero {pre chunk post : List UInt8} : tapeAt pre chunk post 0 = (pre ++ List.replicate chunk.length 0 ++ post).toArray := by simp [tapeAt]
theorem tape_end {pre chunk post : List UInt8} : tapeAt pre chunk post chunk.length = (pre ++ (chunk.reverse ++ post)).toArray := by simp [tapeAt]
theorem tape_size {pre chunk post : List UInt8} {j : Nat} (h : j ≤ chunk.length) : (tapeAt pre chunk post j).size = pre.length + chunk.length + post.length := by
  show (pre ++ List.replicate (chunk.length - j) 0 ++ ((chunk.take j).reverse ++ post)).length = _
  rw [List.length_append, List.length_append, List.length_append, List.length_replicate, List.length_reverse, List.length_take, Nat.min_eq_left h, Nat.add_assoc, Nat.add_assoc, ← Nat.add_assoc _ j, Nat.sub_add_cancel h]
theorem tape_step {pre chunk post : List UInt8} {j : Nat} (h : j < chunk.length) : (tapeAt pre chunk post j).setIfInBounds (pre.length + (chunk.length - 1 - j)) chunk[j] = tapeAt pre chunk post (j + 1) := by
  unfold tapeAt
  have e : chunk.length - j = (chunk.length - 1 - j) + 1 := by rw [Nat.sub_right_comm, Nat.sub_add_cancel (Nat.sub_pos_of_lt h)]
  rw [e, ba_step, ← List.take_append_getElem h, List.reverse_append]
  have e2 : chunk.length - (j + 1) = chunk.length - 1 - j := by rw [Nat.sub_right_comm, Nat.sub_sub]
  rw [e2]
  simp

noncomputable abbrev BaOk (σ : Sto) (data : List UInt8) (k : Nat) (b : Array UInt8) : Prop := σ.lookup ("swapped_data" : Str) = some (.ba b) ∧ At σ "data" (.bytes data.toArray) ∧ At σ "width" (.int k)

theorem byteswap_zero (h : Q (.bytes #[])) : WFc w (n + 1) 101 [.bytes #[], .int 1] Q := by
  refine WFc.body (xs := ["data", "width"]) rfl rfl rfl rfl rfl rfl rfl ?_ rfl ?_ ?_ fun L => ?_
  · intro vs hv
    obtain ⟨v, u, rfl⟩ := len2 hv
    rfl
  · decide
  · intro L x hx; simp at hx; rcases hx with rfl | rfl <;> exact .inl rfl
  refine WSc.cons (WXc.newba (.inl rfl) (WE.blt rfl (by kernel_rfl) rfl rfl) (WE.callB (id := "len") (WE.blt rfl (by kernel_rfl) rfl ⟨rfl, WA.cons (WE.var rfl (WA.nil (b_len_bytes (by decide) ⟨0, rfl, by decide, ?_⟩)))⟩)))
  refine WSc.of (WS.cons (WX.for (WE.callT (T := "range") (WE.blt rfl (by kernel_rfl) rfl ⟨rfl, WA.cons (WE.int (WA.cons (WE.callB (id := "len") (WE.blt rfl (by kernel_rfl) rfl ⟨rfl, WA.cons (WE.var rfl (WA.nil (b_len_bytes (by decide) (WA.cons (WE.var rfl (WA.nil (b_range3 (by decide) (by decide) ⟨_, items_zero, ?_⟩)))))))⟩))))⟩))))
  refine WS.cons (WX.ret (WE.bytes_ba (b := #[]) rfl (by decide) (WE.blt rfl (by kernel_rfl) rfl rfl) ⟨_, rfl, h⟩))

theorem idx_int {m k j : Nat} (h : j < k) : ((m : Int) + (k : Int) - 1 - (0 + (j : Int) * 1)) = ((m + (k - 1 - j) : Nat) : Int) := by omega
theorem byteswap_spec {p q : List UInt8} {k : Nat} (hp : p.length = k) (hq : q.length = k) (hk : 1 ≤ k) (hk2 : k ≤ 1000) (h : Q (.bytes (swapEnd p q))) : WFc w (n + 1) 101 [.bytes (p ++ q).toArray, .int k] Q := by
  refine WFc.body (xs := ["data", "width"]) rfl rfl rfl rfl rfl rfl rfl ?_ rfl ?_ ?_ fun L => ?_
  · intro vs hv
    obtain ⟨v, u, rfl⟩ := len2 hv
    rfl
  · decide
  · intro L x hx; simp at hx; rcases hx with rfl | rfl <;> exact .inl rfl
  have hsz : (p ++ q).toArray.size = 2 * k := by show (p ++ q).length = _; rw [List.length_append, hp, hq, Nat.two_mul]
  have hk3 : 2 * k ≤ 2000 := Nat.mul_le_mul_left 2 hk2
  refine WSc.cons (WXc.newba (.inl rfl) (WE.blt rfl (by kernel_rfl) rfl rfl) (WE.callB (id := "len") (WE.blt rfl (by kernel_rfl) rfl ⟨rfl, WA.cons (WE.var rfl (WA.nil (b_len_bytes (fits (hsz ▸ Nat.le_trans hk3 (by decide))) ⟨2 * k, by rw [hsz], Nat.le_trans hk3 (by decide), ?_⟩)))⟩)))
  let stt : Nat → Array UInt8 := fun i => if i = 0 then Array.replicate (2 * k) 0 else if i = 1 then (p.reverse ++ List.replicate k 0).toArray else swapEnd p q
  refine WSc.of (WS.cons (WX.for (WE.callT (T := "range") (WE.blt rfl (by kernel_rfl) rfl ⟨rfl, WA.cons (WE.int (WA.cons (WE.callB (id := "len") (WE.blt rfl (by kernel_rfl) rfl ⟨rfl, WA.cons (WE.var rfl (WA.nil (b_len_bytes (fits (hsz ▸ Nat.le_trans hk3 (by decide))) (WA.cons (WE.var rfl (WA.nil (b_range3 (by omega) ?_ ⟨_, by rw [hsz]; exact items_two hk hk2, ?_⟩)))))))⟩))))⟩))))
  · have : ∀ x : Int, Builtin.divisionGoesByPylong x (k : Int) = false := fun x => by
      unfold Builtin.divisionGoesByPylong
      have : ((k : Int).natAbs.log2 / 30 + 1) ≤ 2 := by
        have : (k : Int).natAbs.log2 < 30 := by
          rw [Int.natAbs_natCast, Nat.log2_lt (by omega)]; omega
        omega
      simp only [Bool.and_eq_false_imp, decide_eq_true_eq]
      intro h3
      split at h3 <;> omega
    exact this _
  refine range_suffix (I := fun i σ => BaOk σ (p ++ q) k (stt i)) ?_ ?_ ⟨rfl, rfl, rfl⟩
  · intro i σ hi ⟨h1, h2, h3⟩
    obtain ⟨pre, chunk, post, c0, c2, e1, e2, e3, e4, e5, e6, e7⟩ : ∃ pre chunk post c0 c2 : List UInt8, stt i = tapeAt pre chunk post 0 ∧ stt (i + 1) = tapeAt pre chunk post k ∧ p ++ q = c0 ++ chunk ++ c2 ∧ pre.length = i * k ∧ c0.length = i * k ∧ chunk.length = k ∧ pre.length + chunk.length + post.length = 2 * k := by
      have hi' : i = 0 ∨ i = 1 := by omega
      rcases hi' with rfl | rfl
      · refine ⟨[], p, List.replicate k 0, [], q, ?_, ?_, by simp, by simp, by simp, hp, by simp [hp]; omega⟩
        · rw [tape_zero]
          show Array.replicate (2 * k) 0 = _
          rw [hp, List.nil_append, ← List.toArray_replicate]
          congr 1
          rw [List.replicate_append_replicate]; congr 1; omega
        · rw [← hp, tape_end]; show (p.reverse ++ List.replicate k 0).toArray = _; rw [hp]; rfl
      · refine ⟨p.reverse, q, [], p, [], ?_, ?_, by simp, by simp [hp], by simp [hp], hq, by rw [List.length_reverse, hp, hq, Nat.two_mul]; rfl⟩
        · rw [tape_zero, hq, List.append_nil]; rfl
        · rw [← hq, tape_end, List.append_nil]; rfl
    rw [e1] at h1
    refine WG.name (.inl rfl) (WS.join (fun σ => BaOk σ (p ++ q) k (tapeAt pre chunk post k)) (WX.for (WE.callT (T := "range") (WE.blt rfl (by kernel_rfl) rfl ⟨rfl, WA.cons (WE.var ((lookup_cons_ne (by decide)).trans h3) (WA.nil (b_range1 ⟨_, items_range1 (Nat.le_trans hk2 (by decide)), ?_⟩)))⟩))) fun σ hσ => WS.nil ?_)
    · refine range_suffix (I := fun j σ => BaOk σ (p ++ q) k (tapeAt pre chunk post j) ∧ At σ "i" (.int ((i * k : Nat) : Int))) ?_ (fun σ hσ => ⟨rfl, hσ.1⟩) ⟨⟨(lookup_cons_ne (by decide)).trans h1, (lookup_cons_ne (by decide)).trans h2, (lookup_cons_ne (by decide)).trans h3⟩, ?_⟩
      · intro j σ hj ⟨⟨h1, h2, h3⟩, h4⟩
        have hik : i * k ≤ k := Nat.le_trans (Nat.mul_le_mul_right k (Nat.le_of_lt_succ hi)) (Nat.le_of_eq (Nat.one_mul k))
        have sz := tape_size (pre := pre) (post := post) (chunk := chunk) (j := j) (e6 ▸ Nat.le_of_lt hj)
        refine WG.name (.inl rfl) (WS.cons (WX.setba ((lookup_cons_ne (by decide)).trans h1) (by rw [sz, e7]; exact Nat.le_trans hk3 (by decide)) (WE.bitem (WE.var ((lookup_cons_ne (by decide)).trans h2) ⟨_, rfl, hsz ▸ Nat.le_trans hk3 (by decide), WE.binop (WE.var ((lookup_cons_ne (by decide)).trans h4) (WE.var lookup_cons_self (op_add_int ⟨i * k + j, by simp, ?_, ?_⟩)))⟩))))
        · rw [hsz, Nat.two_mul]
          exact Nat.add_lt_add_of_le_of_lt hik hj
        · refine ⟨_, rfl, UInt8.toNat_lt _, WE.binop (WE.binop (WE.binop (WE.var ((lookup_cons_ne (by decide)).trans h4) (WE.var ((lookup_cons_ne (by decide)).trans h3) (op_add_int (WE.int (op_sub_int (WE.var lookup_cons_self (op_sub_int ⟨i * k + (k - 1 - j), congrArg D.int (idx_int hj), by rw [sz, e7, Nat.two_mul]; exact Nat.add_lt_add_of_le_of_lt hik (Nat.lt_of_le_of_lt (Nat.sub_le ..) (Nat.sub_lt hk Nat.one_pos)), WS.nil ?_⟩)))))))))⟩
          refine ⟨⟨?_, (lookup_cons_ne (by decide)).trans ((lookup_cons_ne (by decide)).trans h2), (lookup_cons_ne (by decide)).trans ((lookup_cons_ne (by decide)).trans h3)⟩, (lookup_cons_ne (by decide)).trans ((lookup_cons_ne (by decide)).trans h4)⟩
          rw [lookup_cons_self]
          congr 2
          have hg : (p ++ q).getD (i * k + j) 0 = chunk[j]'(e6 ▸ hj) := by
            rw [e3, ← e5, get_mid]
          show (tapeAt pre chunk post j).setIfInBounds (i * k + (k - 1 - j)) (((p ++ q).getD (i * k + j) 0).toNat.toUInt8) = _
          rw [hg, ← e4, ← tape_step (e6 ▸ hj)]
          congr 1
          · rw [e6]
          · simp
      · show some _ = some _
        simp
    · obtain ⟨a, b, c⟩ := hσ
      exact ⟨e2 ▸ a, b, c⟩
  · intro σ ⟨h1, h2, h3⟩
    refine WS.cons (WX.ret (WE.bytes_ba h1 (by show (p.reverse ++ q.reverse).length ≤ _; rw [List.length_append, List.length_reverse, List.length_reverse, hp, hq, ← Nat.two_mul]; exact Nat.le_trans hk3 (by decide)) (WE.blt rfl (by kernel_rfl) rfl rfl) ⟨_, rfl, h⟩))
end
end Mine
end

section
open PySem PySem.W PyProof.Rows PySem.Calls
set_option Elab.async false
set_option linter.unusedVariables false
set_option maxRecDepth 100000
namespace Mine
section
variable {w : World} {n : Nat} {Q : D → Prop}
noncomputable abbrev u8 (l : List Nat) : List UInt8 := l.map Nat.toUInt8
theorem max_one {k : Nat} (h : k ≠ 0) : (if (k : Int) > 1 then (k : Int) else 1) = (k : Int) := by
  split
  · rfl
  · omega
theorem swap_at {p q : List Nat} {k : Nat} (hp : p.length = k) (hq : q.length = k) (hk : k ≤ 1000) (h : Q (.bytes (u8 (p.reverse ++ q.reverse)).toArray)) : WFc w (n + 1) 101 [.bytes (byteArr ((p ++ q).map Int.ofNat)), .int (if (k : Int) > 1 then (k : Int) else 1)] Q := by
  have e : byteArr ((p ++ q).map Int.ofNat) = (u8 p ++ u8 q).toArray := by
    unfold byteArr
    rw [List.map_map, ← List.map_append]
    congr 1
  by_cases h0 : k = 0
  · subst h0
    have := List.length_eq_zero_iff.mp hp
    subst this
    have := List.length_eq_zero_iff.mp hq
    subst this
    exact byteswap_zero h
  · have : (if (k : Int) > 1 then (k : Int) else 1) = (k : Int) := max_one h0
    rw [this, e]
    refine byteswap_spec (by simp [hp]) (by simp [hq]) (by omega) hk ?_
    unfold swapEnd
    rw [← List.map_reverse, ← List.map_reverse, ← List.map_append]
    exact h
theorem items_ascii {l : List Nat} (h : ∀ c ∈ l, c < 128) : itemsOf (.str (S l)) = some (l.map fun c => .str ⟨#[c]⟩) := by
  show (if (S l).cps.all (· < 128) = true then some ((S l).cps.toList.map fun c => D.str ⟨#[c]⟩) else none) = _
  rw [if_pos (by rw [S_all, List.all_eq_true]; exact fun c hc => by simpa using h c hc)]
theorem inter_single (sep : List Nat) : ∀ l : List Nat, List.intercalate ([] : List Nat) (l.map fun c => [c]) = l
  | [] => rfl
  | [c] => by simp [List.intercalate]
  | c :: d :: r => by
    have := inter_single sep (d :: r)
    have e : List.intercalate ([] : List Nat) ((c :: d :: r).map fun c => [c]) = [c] ++ [] ++ List.intercalate ([] : List Nat) ((d :: r).map fun c => [c]) := by simp [List.intercalate]
    rw [e, this]; rfl
theorem half_lo {n x : Nat} (h : n / 2 = x) : x + x ≤ n := by omega
theorem half_hi {n x : Nat} (h : n / 2 = x) : n ≤ 1 + x + x := by omega
theorem u8_of {c : Nat} (h : c < 128) : c.toUInt8.toNat = c := by simp; omega
theorem len_le1 {m : List Nat} (h : m.length ≤ 1) : m.reverse = m := by
  cases m with
  | nil => rfl
  | cons a r => rw [List.length_eq_zero_iff.mp (Nat.le_zero.mp (Nat.le_of_succ_le_succ h))]; rfl
theorem qe : ("" : Str) = S [] := by decide +kernel
set_option maxHeartbeats 2000000 in
theorem image_spec {l : List Nat} (ha : ∀ c ∈ l, c < 128) (hl : l.length ≤ 1000) (h : Q (.str (S l.reverse))) : WFc w (n + 2) 106 [.str (S l)] Q := by
  refine WFc.body (xs := ["text"]) rfl rfl rfl rfl rfl rfl rfl ?_ rfl ?_ ?_ fun L => ?_
  · intro vs hv
    obtain ⟨v, rfl⟩ := len1 hv
    rfl
  · decide
  · intro L x hx; simp at hx; subst hx; exact .inl rfl
  obtain ⟨hf, ehf⟩ : ∃ x, l.length / 2 = x := ⟨_, rfl⟩
  have h2 : hf + hf ≤ l.length := half_lo ehf
  have hmid : l.length - hf - hf ≤ 1 := Nat.sub_le_of_le_add (Nat.sub_le_of_le_add (half_hi ehf))
  have hh : hf ≤ l.length := Nat.le_trans (Nat.le_add_left ..) h2
  have hh2 : hf ≤ l.length - hf := Nat.le_sub_of_add_le h2
  have hb : hf ≤ 1000 := Nat.le_trans hh hl
  let p := l.take hf
  let q := l.drop (l.length - hf)
  have hp : p.length = hf := List.length_take_of_le hh
  have hq : q.length = hf := by show (l.drop _).length = hf; rw [List.length_drop, Nat.sub_sub_self hh]
  have hpq : (p ++ q).length ≤ 1000 := by rw [List.length_append, hp, hq]; exact Nat.le_trans h2 hl
  have hpa : ∀ c ∈ p ++ q, c < 128 := fun c hc => (List.mem_append.mp hc).elim (fun m => ha c (List.mem_of_mem_take m)) fun m => ha c (List.mem_of_mem_drop m)
  refine WSc.cons (.of (WX.assign (.inl rfl) (WE.binop (WE.callB (id := "len") (WE.blt rfl (by kernel_rfl) rfl ⟨rfl, WA.cons (WE.var rfl (WA.nil (b_len_str (S_small hl) (WE.int (op_div_int (by decide) (pyl _ (by decide)) ?_)))))⟩)))))
  have ed : ((S l).length : Int).fdiv 2 = (hf : Int) := by
    rw [S_length, ← ehf]; exact fdiv_nat _ _
  rw [ed]
  refine WSc.cons (.of (WX.assign (.inl rfl) (WE.callT (T := "bytes") (WE.blt rfl (by kernel_rfl) rfl ⟨rfl, WA.cons (WE.comp1 [] [] (WE.binop (WE.str_to (WE.var rfl ⟨_, rfl, S_small hl, WE.var rfl ⟨_, rfl, ?_⟩⟩))) (fun C => trivial) trivial)⟩))))
  rw [S_slice_to hh]
  refine WE.str_from (WE.var rfl ⟨_, rfl, S_small hl, WE.binop (WE.callB (id := "len") (WE.blt rfl (by kernel_rfl) rfl ⟨rfl, WA.cons (WE.var rfl (WA.nil (b_len_str (S_small hl) (WE.var rfl (op_sub_int ⟨((l.length - hf : Nat) : Int), ?_, ?_⟩)))))⟩))⟩)
  · rw [S_length]; rw [Int.ofNat_sub hh]
  rw [S_slice_from (Nat.sub_le ..)]
  refine op_add_str (by rw [S_length, S_length]; exact fits (Nat.le_trans (Nat.le_of_eq List.length_append.symm) (Nat.le_trans hpq (by decide)))) ⟨_, by rw [S_append]; exact items_ascii hpa, fun C => ?_⟩
  refine CompI.map (f := fun c => .int (c : Nat)) _ [] (fits (by rw [List.length_nil, Nat.zero_add]; exact Nat.le_trans hpq (by decide))) (fun c hc => WG.name (.inl rfl) ⟨sub_one, WE.callB (id := "ord") (WE.blt rfl (by kernel_rfl) rfl ⟨rfl, WA.cons (WE.var rfl (WA.nil (b_ord rfl)))⟩)⟩) (WA.nil ?_)
  have em : ([] : List D) ++ (l.take hf ++ l.drop (l.length - hf)).map (fun c => D.int (c : Nat)) = ((p ++ q).map Int.ofNat).map D.int := by
    rw [List.nil_append, List.map_map]; rfl
  rw [em]
  refine b_bytes_ints (fun i hi => ?_) (by rw [List.length_map]; exact Nat.le_trans hpq (by decide)) ?_
  · obtain ⟨c, hc, rfl⟩ := List.mem_map.mp hi
    exact ⟨Int.natCast_nonneg c, Int.ofNat_lt.mpr (Nat.lt_trans (hpa c hc) (by decide))⟩
  refine WSc.cons (WXc.assign (.inl rfl) (WEc.meth F.plainAttrs_str F.slot_str_join F.type_str_join (WE.str ⟨IsT.str, WEc.comp1 [] [] (WEc.call (f := .ref 101) (WE.glob rfl (by kernel_rfl) ⟨rfl, WA.cons (WE.var rfl (WA.cons (WE.callB (id := "max") (WE.blt rfl (by kernel_rfl) rfl ⟨rfl, WA.cons (WE.int (WA.cons (WE.var rfl (WA.nil (b_max (WA.nil (swap_at hp hq hb ⟨_, rfl, fun C => ?_⟩)))))))⟩))))⟩) (by kernel_rfl)) (fun C => trivial) trivial⟩)))
  have hrev : (p.reverse ++ q.reverse).length = (p ++ q).length := by simp only [List.length_append, List.length_reverse]
  have et : ((u8 (p.reverse ++ q.reverse)).toArray.toList.map fun c => D.int (c.toNat : Int)) = (p.reverse ++ q.reverse).map fun (c : Nat) => D.int (c : Int) := by
    rw [List.map_map]
    apply List.map_congr_left
    intro c hc
    have : c < 128 := hpa c (by simp at hc ⊢; exact hc)
    show D.int ((c.toUInt8.toNat : Nat) : Int) = _
    rw [u8_of this]
  rw [et]
  refine CompI.map (f := fun c => .str (S [c])) _ [] (fits (by rw [List.length_nil, Nat.zero_add]; exact hrev ▸ Nat.le_trans hpq (by decide))) (fun c hc => WG.name (.inl rfl) ⟨sub_one, WE.callB (id := "chr") (WE.blt rfl (by kernel_rfl) rfl ⟨rfl, WA.cons (WE.var rfl (WA.nil (b_chr (Int.natCast_nonneg c) ?_ rfl)))⟩)⟩) ?_
  · have : c < 128 := hpa c (by simp at hc ⊢; exact hc)
    exact Int.ofNat_le.mpr (Nat.le_trans (Nat.le_of_lt this) (by decide))
  rw [List.nil_append, map_S, qe]
  refine joinL (by decide) (by rw [List.length_map]; exact hrev ▸ Nat.le_trans hpq (by decide)) (fun y hy => ?_) ?_
  · obtain ⟨c, hc, rfl⟩ := List.mem_map.mp hy
    simp
  rw [inter_single []]
  let t := p.reverse ++ q.reverse
  have ht : t.length = hf + hf := by show (p.reverse ++ q.reverse).length = _; rw [hrev, List.length_append, hp, hq]
  have ht1 : hf ≤ t.length := ht ▸ Nat.le_add_left hf hf
  have ht2 : t.length ≤ 1000 := ht ▸ Nat.le_trans h2 hl
  have htd : (t.drop hf).length ≤ 1000 := by rw [List.length_drop]; exact Nat.le_trans (Nat.sub_le ..) ht2
  have hm1 : ((l.drop hf).take (l.length - hf - hf)).length ≤ 1 := Nat.le_trans (List.length_take_le ..) hmid
  refine WSc.of (WS.cons (WX.ret (WE.binop (WE.binop (WE.str_from (WE.var rfl ⟨_, rfl, S_small (l := t) ht2, WE.var rfl ⟨_, rfl, ?_⟩⟩))))))
  rw [S_slice_from (l := t) ht1]
  refine WE.str_between (WE.var rfl ⟨_, rfl, S_small hl, WE.var rfl ⟨_, rfl, WE.binop (WE.callB (id := "len") (WE.blt rfl (by kernel_rfl) rfl ⟨rfl, WA.cons (WE.var rfl (WA.nil (b_len_str (S_small hl) (WE.var rfl (op_sub_int ⟨((l.length - hf : Nat) : Int), ?_, ?_⟩)))))⟩))⟩⟩)
  · rw [S_length]; rw [Int.ofNat_sub hh]
  rw [S_slice_mid hh2 (Nat.sub_le ..)]
  refine op_add_str ?_ (WE.str_to (WE.var rfl ⟨_, rfl, S_small (l := t) ht2, WE.var rfl ⟨_, rfl, ?_⟩⟩))
  · rw [S_length, S_length]; exact fits (Nat.le_trans (Nat.add_le_add htd hm1) (by decide))
  rw [S_slice_to (l := t) ht1]
  refine op_add_str ?_ ⟨_, rfl, ?_⟩
  · rw [S_append, S_length, S_length, List.length_append]; exact fits (Nat.le_trans (Nat.add_le_add (Nat.add_le_add htd hm1) (Nat.le_trans (List.length_take_le ..) hb)) (by decide))
  rw [S_append, S_append]
  have e1 : t.drop hf = q.reverse := by simp [t, hp]
  have e2 : t.take hf = p.reverse := by simp [t, hp]
  have e3 : q.reverse ++ (l.drop hf).take (l.length - hf - hf) ++ p.reverse = l.reverse := by
    have : l = p ++ ((l.drop hf).take (l.length - hf - hf) ++ q) := by
      have h1 : q = (l.drop hf).drop (l.length - hf - hf) := by
        show l.drop _ = _
        rw [List.drop_drop, Nat.add_sub_cancel' hh2]
      rw [h1, List.take_append_drop, List.take_append_drop]
    have hr : ((l.drop hf).take (l.length - hf - hf)).reverse = (l.drop hf).take (l.length - hf - hf) := len_le1 hm1
    conv => rhs; rw [this]
    rw [List.reverse_append, List.reverse_append, hr]
  rw [e1, e2, e3]
  exact h
end
end Mine
end

section
open PySem PySem.W PyProof.Rows PySem.Calls
set_option Elab.async false
set_option linter.unusedVariables false
set_option maxRecDepth 100000
namespace Mine
section
variable {w : World} {n : Nat} {Q : D → Prop}
theorem names_jt : ∀ l ∈ names, (mark l = l ∧ ∀ ch ∈ l, jt ch = true) ∨ (mark l = quo l ∧ ∃ a ch r, l = a ++ ch :: r ∧ a.length ≤ 1 ∧ (∀ ch ∈ a, jt ch = true) ∧ jt ch = false) := by
  intro l h
  simp only [names, List.mem_cons, List.not_mem_nil, or_false] at h
  rcases h with rfl | rfl | rfl | rfl | rfl | rfl | rfl | rfl | rfl | rfl <;> first
    | exact .inl (by decide +kernel)
    | exact .inr ⟨by decide +kernel, [], _, _, rfl, by decide, by decide, by decide +kernel⟩
    | exact .inr ⟨by decide +kernel, [_], _, _, rfl, by decide, by decide +kernel, by decide +kernel⟩
theorem names_ch : ∀ l ∈ names, ∀ ch ∈ l, ch < 128 ∧ ch ≠ 34 ∧ ch ≠ 92 := by decide
noncomputable abbrev strsD (l : List (List Nat)) : List D := l.map fun x => .str (S x)
theorem strsD_snoc (l : List (List Nat)) (x : List Nat) : strsD l ++ [.str (S x)] = strsD (l ++ [x]) := by simp [strsD]

theorem WE.fv {env : Env} {σ : Sto} {value : Expr} {pos : Pos} (h : WE w n env σ value fun d => ∃ x, d = .str x ∧ x.length ≤ sizeLine ∧ Q (.str x)) : WE w n env σ (.FormattedValue value 115 Option.none pos) Q := by
  intro A s g Mt₀ Mt R E ro S q
  refine wpAny_FormattedValue_s (h A s g Mt₀ Mt _ E ro S fun v h' tk' d k r hq => ?_)
  obtain ⟨x, rfl, hz, hq⟩ := hq
  obtain ⟨t, rfl⟩ := r.str'
  show wpAny _ _ (habitSame "fstring-hands-on-the-str" (.str x t)) _ _ _
  refine habitSame_str (fun t2 tk2 => formatField_str (fun t3 tk3 => q _ h' tk3 (.str x) k Rep.str_ hq) hz) hz
theorem WE.fmt3 {env : Env} {σ : Sto} {e1 e2 e3 : Expr} {pos : Pos} (h : WE w n env σ e1 fun d1 => ∃ x1, d1 = .str x1 ∧ x1.length ≤ 1000 ∧ WE w n env σ e2 fun d2 => ∃ x2, d2 = .str x2 ∧ x2.length ≤ 1000 ∧ WE w n env σ e3 fun d3 => ∃ x3, d3 = .str x3 ∧ x3.length ≤ 1000 ∧ Q (.str (x1 ++ x2 ++ x3))) : WE w n env σ (.JoinedStr [e1, e2, e3] pos) Q := by
  intro A s g Mt₀ Mt R E ro S q
  have z : sizeLine = 16777216 := rfl
  have em : ∀ x : Str, Str.empty ++ x = x := fun x => by
    show (⟨#[] ++ x.cps⟩ : Str) = x
    simp
  refine JoinedStr_many (joinParts_cons (h A s g Mt₀ Mt _ E ro S fun v1 h1 tk1 d1 k1 r1 hq => ?_))
  obtain ⟨x1, rfl, z1, hq⟩ := hq
  obtain ⟨t1, rfl⟩ := r1.str'
  refine ⟨by rw [em]; omega, joinParts_cons (hq A _ g Mt₀ Mt _ E ro (S.keeps k1) fun v2 h2 tk2 d2 k2 r2 hq => ?_)⟩
  obtain ⟨x2, rfl, z2, hq⟩ := hq
  obtain ⟨t2, rfl⟩ := r2.str'
  refine ⟨by rw [em, strLen_append]; omega, joinParts_cons (hq A _ g Mt₀ Mt _ E ro ((S.keeps k1).keeps k2) fun v3 h3 tk3 d3 k3 r3 hq => ?_)⟩
  obtain ⟨x3, rfl, z3, hq⟩ := hq
  obtain ⟨t3, rfl⟩ := r3.str'
  refine ⟨by rw [em, strLen_append, strLen_append]; omega, joinParts_nil ?_ (by rw [em, strLen_append, strLen_append]; omega)⟩
  rw [em]
  exact q _ h3 _ (.str _) (k1.trans (k2.trans k3)) Rep.str_ hq

set_option maxHeartbeats 4000000 in
theorem join_spec {ls : List (List (List Nat × List Nat))} (ok : WordsOk ls) (h : Q (.str (S (toldL ls)))) : WF w (n + 2) 87 [listsD ls] Q := by
  refine WF.of (xs := ["lists"]) rfl rfl rfl rfl rfl rfl rfl ?_ rfl ?_ ?_ fun L => ?_
  · intro vs hv
    obtain ⟨v, rfl⟩ := len1 hv
    rfl
  · decide
  · intro L x hx; simp at hx; subst hx; exact .inl rfl
  have wlen : ∀ ws ∈ ls, (List.intercalate sepW (ws.map wordL)).length ≤ 1000 := by
    intro ws hw
    obtain ⟨h1, h2⟩ := ok.2 ws hw
    refine Nat.le_trans (inter_len _ _) ?_
    have : ((ws.map wordL).map (·.length)).sum ≤ ws.length * 25 := by
      clear hw h1
      induction ws with
      | nil => exact Nat.le_refl _
      | cons p ws ih =>
        have := ih fun p hp => h2 p (List.mem_cons_of_mem _ hp)
        obtain ⟨hk, hv⟩ := h2 p (List.mem_cons_self ..)
        have hm := mark_len hv
        simp only [List.map_cons, List.sum_cons, List.length_cons, Nat.succ_mul]
        have : (wordL p).length ≤ 25 := by simp [wordL]; omega
        omega
    rw [List.length_map]
    have : sepW.length = 2 := rfl
    rw [this]
    omega
  let FF : List (List (List Nat × List Nat)) → List (List Nat) := fun r => (r.filter (!·.isEmpty)).map fun ws => List.intercalate sepW (ws.map wordL)
  refine WS.cons (WX.newlist (.inl rfl) ?_)
  refine WS.join (fun σ => σ.lookup ("headers" : Str) = some (.own (strsD (FF ls)))) (WX.for (WE.var rfl ⟨_, rfl, ?_⟩)) fun σ hσ => ?_
  · refine LoopW.inv (fun r σ => ∃ pre, ls = pre ++ r ∧ σ.lookup ("headers" : Str) = some (.own (strsD (FF pre)))) ls ?_ (fun σ ⟨pre, e, hh⟩ => ⟨rfl, by rw [e, List.append_nil]; exact hh⟩) ⟨[], rfl, rfl⟩
    intro ws r σ ⟨pre, e, hh⟩
    have hw : ws ∈ ls := by rw [e]; simp
    have hpl : pre.length + 1 ≤ 20 := by have := ok.1; rw [e] at this; simp at this; omega
    obtain ⟨h1, h2⟩ := ok.2 ws hw
    refine WG.name (.inl rfl) (WS.cons (WX.newlist (.inl rfl) ?_))
    refine WS.join (fun σ => σ.lookup ("headers" : Str) = some (.own (strsD (FF pre))) ∧ σ.lookup ("attr" : Str) = some (.own (strsD (ws.map wordL)))) (WX.for (WE.var rfl ⟨_, rfl, ?_⟩)) fun σ hσ => ?_
    · refine LoopW.inv (fun r σ => ∃ pr, ws = pr ++ r ∧ σ.lookup ("headers" : Str) = some (.own (strsD (FF pre))) ∧ σ.lookup ("attr" : Str) = some (.own (strsD (pr.map wordL)))) ws ?_ (fun σ ⟨pr, e, a, b⟩ => ⟨rfl, a, by rw [e, List.append_nil]; exact b⟩) ⟨[], rfl, (lookup_cons_ne (by decide)).trans ((lookup_cons_ne (by decide)).trans hh), rfl⟩
      intro p r2 σ ⟨pr, e2, g1, g2⟩
      have hp : p ∈ ws := by rw [e2]; simp
      have hprl : pr.length + 1 ≤ 20 := by rw [e2] at h1; simp at h1; omega
      obtain ⟨hk, hv⟩ := h2 p hp
      have hvl := (names_len _ hv).1
      have hml := mark_len hv
      refine WG.pair (.inl rfl) (.inl rfl) ?_
      refine WS.join (fun σ => σ.lookup ("headers" : Str) = some (.own (strsD (FF pre))) ∧ σ.lookup ("attr" : Str) = some (.own (strsD (pr.map wordL))) ∧ At σ "k" (.str (S (wordL p)))) (WX.ite (WT.cmp (WE.var rfl (WE.none (op_isnot_none (Tru.bool ⟨fun _ => ?_, nofun⟩)))))) fun σ ⟨a, b, c⟩ => ?_
      · refine WS.join (fun σ => σ.lookup ("headers" : Str) = some (.own (strsD (FF pre))) ∧ σ.lookup ("attr" : Str) = some (.own (strsD (pr.map wordL))) ∧ At σ "k" (.str (S p.1)) ∧ At σ "v" (.str (S (mark p.2)))) (WX.ite (WT.not (WT.val (WE.meth RF.plainAttrs_pat RF.slot_fullmatch RF.type_fullmatch (WE.glob rfl (by kernel_rfl) ⟨IsT.pat patJt, WA.cons (WE.var rfl (WA.nil ?_))⟩))))) fun σ ⟨a, b, c, d⟩ => ?_
        · rcases names_jt _ hv with ⟨hm, hj⟩ | ⟨hm, a, ch, r, e1, e2, e3, e4⟩
          · refine m_fullmatch_yes patJt (by rw [S_length]; omega) (by rw [S_length]; exact jt_yes (names_len _ hv).2 (fun ch hc => (names_ch _ hv ch hc).1) (by omega) hj) (by decide) (Tru.mat ⟨nofun, fun _ => WS.nil ⟨rfl, (lookup_cons_ne (by decide)).trans ((lookup_cons_ne (by decide)).trans g1), (lookup_cons_ne (by decide)).trans ((lookup_cons_ne (by decide)).trans g2), rfl, by rw [hm]; rfl⟩⟩)
          · refine m_fullmatch_no patJt (by rw [S_length]; omega) (by rw [S_length]; exact jt_no e1 e2 (fun ch hc => (names_ch _ hv ch hc).1) (by omega) e3 e4) (by decide) (Tru.none ⟨fun _ => ?_, nofun⟩)
            refine WS.cons (WX.assign (.inl rfl) (WE.meth RF.plainAttrs_pat RF.slot_sub RF.type_sub (WE.glob rfl (by kernel_rfl) ⟨IsT.pat patJe, WA.cons (WE.lam (h := WA.cons (WE.var rfl (WA.nil ?_))) rfl (.inr ⟨rfl, rfl, rfl, rfl⟩))⟩)))
            refine m_sub_none patJe (by rw [S_length]; omega) (by rw [S_length]; exact List.length_pos_iff.mpr (names_len _ hv).2) (by rw [S_length]; exact je_none (names_ch _ hv)) (by decide) ?_
            have ej : Txt.join (Str.mk #[]) [S p.2] = S p.2 := by
              have := S_join [] [p.2]
              simpa [List.intercalate] using this
            rw [ej]
            refine WS.cons (WX.assign (.inl rfl) (WE.binop (WE.str (WE.var rfl (op_fmt_quote (by rw [S_length]; omega) ?_)))))
            refine WS.nil ⟨rfl, (lookup_cons_ne (by decide)).trans ((lookup_cons_ne (by decide)).trans ((lookup_cons_ne (by decide)).trans ((lookup_cons_ne (by decide)).trans g1))), (lookup_cons_ne (by decide)).trans ((lookup_cons_ne (by decide)).trans ((lookup_cons_ne (by decide)).trans ((lookup_cons_ne (by decide)).trans g2))), rfl, ?_⟩
            rw [hm]
            show some (Ent.fz (.str (S [34] ++ S p.2 ++ S [34]))) = _
            rw [S_append, S_append]
            rfl
        · refine WS.cons (WX.assign (.inl rfl) (WE.fmt3 (WE.fv (WE.var c ⟨_, rfl, S_small (by omega), _, rfl, by rw [S_length]; omega, WE.str ⟨_, rfl, by rw [q61]; decide, WE.fv (WE.var d ⟨_, rfl, S_small (by omega), _, rfl, by rw [S_length]; omega, ?_⟩)⟩⟩))))
          refine WS.nil ⟨rfl, (lookup_cons_ne (by decide)).trans a, (lookup_cons_ne (by decide)).trans b, ?_⟩
          rw [q61, S_append, S_append]
          rfl
      · refine WS.cons (WX.append b (WE.var c (WS.nil ⟨pr ++ [p], by rw [e2]; simp, (lookup_cons_ne (by decide)).trans a, ?_⟩)) (fits (by simp; omega)))
        rw [lookup_cons_self, strsD_snoc]; simp
    · obtain ⟨a, b⟩ := hσ
      refine WS.freeze b (WS.cons (WX.ite (WT.val (WE.var rfl (Tru.list (fits (by simp; omega)) ⟨fun hb => ?_, fun hb => WS.nil (WS.nil ⟨pre ++ [ws], by rw [e]; simp, (lookup_cons_ne (by decide)).trans ?_⟩)⟩)))))
      · refine WS.cons (WX.append ((lookup_cons_ne (by decide)).trans a) (WE.meth F.plainAttrs_str F.slot_str_join F.type_str_join (WE.str ⟨IsT.str, WA.cons (WE.var rfl (WA.nil ?_))⟩)) (fits ?_))
        · rw [show strsD (ws.map wordL) = ((ws.map wordL).map S).map D.str by simp [strsD], q592]
          refine joinL (by decide) (by simp; omega) (fun y hy => ?_) ?_
          · obtain ⟨p, hp, rfl⟩ := List.mem_map.mp hy
            obtain ⟨hk, hv⟩ := h2 p hp
            have := mark_len hv
            simp [wordL]; omega
          · refine WS.nil (WS.nil ⟨pre ++ [ws], by rw [e]; simp, ?_⟩)
            rw [lookup_cons_self, strsD_snoc]
            have : FF (pre ++ [ws]) = FF pre ++ [List.intercalate sepW (ws.map wordL)] := by
              have he : ws.isEmpty = false := by
                cases ws with
                | nil => cases hb
                | cons a b => rfl
              simp [FF, he]
            rw [this]
        · have : (FF pre).length ≤ pre.length := by
            simp only [FF, List.length_map]
            exact List.length_filter_le _ _
          simp [strsD]; omega
      · have : FF (pre ++ [ws]) = FF pre := by
          have he : ws.isEmpty = true := by
            cases ws with
            | nil => rfl
            | cons a b => cases hb
          simp [FF, he]
        rw [this]; exact a
  · have hF : (FF ls).length ≤ ls.length := by
      simp only [FF, List.length_map]
      exact List.length_filter_le _ _
    have := ok.1
    refine WS.freeze hσ (WS.cons (WX.ret (WE.meth F.plainAttrs_str F.slot_str_join F.type_str_join (WE.str ⟨IsT.str, WA.cons (WE.var rfl (WA.nil ?_))⟩))))
    rw [show strsD (FF ls) = ((FF ls).map S).map D.str by simp [strsD], q442]
    refine joinL (by decide) (by omega) (fun y hy => ?_) ⟨_, rfl, h⟩
    obtain ⟨ws, hw, rfl⟩ := List.mem_map.mp hy
    exact wlen ws (List.mem_filter.mp hw).1
end
end Mine
end

section
open PySem PySem.W PyProof.Rows PySem.Calls
set_option Elab.async false
set_option linter.unusedVariables false
set_option maxRecDepth 100000
namespace Mine
theorem lk {x y : Str} {e : Ent} {r : Sto} {v : Option Ent} (h : r.lookup y = v) (q : y ≠ x := by decide) : List.lookup y ((x, e) :: r) = v := (lookup_cons_ne q).trans h

structure Blk where
  rk : List Nat
  v : List Nat
  qv : Bool
  sp : List Nat
noncomputable def Blk.val (b : Blk) : List Nat := if b.qv then quo b.v else b.v
noncomputable def Blk.txt (b : Blk) : List Nat := b.rk ++ (61 :: (b.val ++ b.sp))
noncomputable def cat : List Blk → List Nat
  | [] => []
  | b :: r => b.txt ++ cat r
noncomputable def rawNames : List (List Nat) := names ++ names.map quo
noncomputable def seps : List (List Nat) := [[59, 32], [32, 44, 32], [10], [59, 32, 61, 32, 59], [32, 59], [32, 44]]
noncomputable def OkB : List Blk → Prop
  | [] => True
  | b :: r => b.rk ∈ rawNames ∧ b.v ∈ names ∧ (b.sp ∈ seps ∨ (b.sp = [] ∧ r = [])) ∧ OkB r
noncomputable abbrev Words := List (List Nat × List Nat)
noncomputable def parse : List Blk → List Words → Words → List Words × Words
  | [], res, ps => (res, ps)
  | b :: r, res, ps => if b.sp.contains 44 then parse r (res ++ [ps ++ [(b.rk, b.v)]]) [] else parse r res (ps ++ [(b.rk, b.v)])
noncomputable def splitL (bs : List Blk) : List Words := let x := parse bs [] []; if x.2.isEmpty then x.1 else x.1 ++ [x.2]

theorem raw_ch : ∀ k ∈ rawNames, (k ≠ [] ∧ k.length ≤ 4) ∧ ∀ ch ∈ k, ch < 128 ∧ tk ch = true ∧ jk ch = false ∧ sp ch = false ∧ Unicode.isSpace ch = false ∧ ch ≠ 44 := by decide +kernel
theorem name_ch : ∀ v ∈ names, ∀ ch ∈ v, vl ch = true ∧ nq ch = true ∧ qsp ch = false ∧ Unicode.isSpace ch = false := by decide +kernel
theorem seps_ch : ∀ s ∈ seps, s ≠ [] ∧ s.length ≤ 5 ∧ (∀ ch ∈ s, ch < 128) ∧ vl (s.headD 0) = false := by decide +kernel
theorem cat_ch : ∀ {bs : List Blk}, OkB bs → ∀ ch ∈ cat bs, ch < 128
  | [], _, ch, h => nomatch h
  | b :: r, ⟨h1, h2, h3, h4⟩, ch, h => by
    have c1 := (raw_ch _ h1).2
    have c2 := names_ch _ h2
    have c3 : ∀ ch ∈ b.sp, ch < 128 := fun ch hc => h3.elim (fun m => ((seps_ch _ m).2.2.1 ch hc)) fun m => by rw [m.1] at hc; cases hc
    have c4 := cat_ch h4
    have cv : ∀ ch ∈ b.val, ch < 128 := by
      intro ch hc
      unfold Blk.val at hc
      split at hc
      · simp only [quo, List.mem_cons, List.mem_append, List.not_mem_nil, or_false] at hc
        rcases hc with rfl | hc | rfl
        · omega
        · exact (c2 ch hc).1
        · omega
      · exact (c2 ch hc).1
    simp only [cat, Blk.txt, List.mem_append, List.mem_cons] at h
    rcases h with (h | rfl | h | h) | h
    · exact (c1 ch h).1
    · omega
    · exact cv ch h
    · exact c3 ch h
    · exact c4 ch h
/-- what a text of blocks begins with -/
theorem cat_head {bs : List Blk} (ok : OkB bs) : ∀ ch r, cat bs = ch :: r → tk ch = true ∧ jk ch = false ∧ sp ch = false ∧ Unicode.isSpace ch = false ∧ ch ≠ 44 := by
  intro ch r e
  cases bs with
  | nil => cases e
  | cons b bs =>
    obtain ⟨h1, _⟩ := ok
    have c := raw_ch _ h1
    cases hk : b.rk with
    | nil => exact absurd hk c.1.1
    | cons a l =>
      simp only [cat, Blk.txt, hk, List.cons_append] at e
      injection e with e1 e2
      subst e1
      exact (c.2 a (by rw [hk]; exact List.mem_cons_self ..)).2
theorem cat_nil {bs : List Blk} (e : cat bs = []) : bs = [] := by
  cases bs with
  | nil => rfl
  | cons b bs => simp [cat, Blk.txt] at e
section
variable {w : World} {n : Nat} {Q : D → Prop} {env : Env} {t : Expr} {body : List Stmt} {P : FlowD → Sto → Prop}
noncomputable abbrev St0 (txt : List Nat) (pairs : Words) (res : List Words) (σ : Sto) : Prop :=
  At σ "text" (.str (S txt)) ∧ σ.lookup ("pairs" : Str) = some (.own (pairs.map wordD)) ∧ σ.lookup ("result" : Str) = some (.own (res.map wordsD))
theorem split_walk
    (T0 : ∀ txt pairs res σ, txt.length ≤ 1000 → St0 txt pairs res σ → WT w n env σ t fun b => b = !txt.isEmpty)
    (T1 : ∀ ws b r pairs res σ, ws ∈ [[], [32], [10]] → OkB (b :: r) → (ws ++ cat (b :: r)).length ≤ 1000 → pairs.length ≤ 100 → St0 (ws ++ cat (b :: r)) pairs res σ → WS w n env σ body fun fl σ2 => fl = .next ∧ St0 (b.sp ++ cat r) (pairs ++ [(b.rk, b.v)]) res σ2)
    (T2 : ∀ z pairs res σ, pairs ≠ [] → (∀ ch ∈ z, ch < 128) → z.length ≤ 1000 → pairs.length ≤ 100 → res.length ≤ 100 → St0 (32 :: 44 :: z) pairs res σ → WS w n env σ body fun fl σ2 => fl = .next ∧ St0 z [] (res ++ [pairs]) σ2)
    (T3 : ∀ j more pairs res σ, (j ∈ [[59, 32], [59, 32, 61, 32, 59], [32, 59]] ∨ (j ∈ [[32], [10]] ∧ more = [])) → (∀ ch ∈ more, ch < 128) → (∀ ch r, more = ch :: r → tk ch = true ∧ jk ch = false ∧ sp ch = false ∧ Unicode.isSpace ch = false ∧ ch ≠ 44) → more.length ≤ 1000 → St0 (j ++ more) pairs res σ → WS w n env σ body fun fl σ2 => fl = .next ∧ St0 more pairs res σ2) :
    ∀ (bs : List Blk) (ws : List Nat) (K : Nat) (pairs : Words) (res : List Words) (σ : Sto), 2 * bs.length + 2 ≤ K → ws ∈ [[], [32], [10]] → OkB bs → (ws ++ cat bs).length ≤ 1000 → pairs.length + bs.length ≤ 100 → res.length + bs.length ≤ 100 → St0 (ws ++ cat bs) pairs res σ →
      (∀ σ, St0 [] (parse bs res pairs).2 (parse bs res pairs).1 σ → P .next σ) → WhileW w n env t body K σ P
  | [], ws, K, pairs, res, σ, hK, hws, ok, hl, hp, hr, h, k => by
    obtain ⟨K, rfl⟩ : ∃ K', K = K' + 2 := ⟨K - 2, by simp at hK; omega⟩
    refine (T0 _ _ _ _ hl h).mono fun b hb => ⟨fun e => ?_, fun e => ?_⟩
    · have hne : ws ≠ [] := by rintro rfl; rw [hb] at e; cases e
      refine (T3 ws [] pairs res σ (.inr ⟨?_, rfl⟩) nofun nofun (by simp) h).mono fun fl σ2 ⟨e, h⟩ => ?_
      · simp only [List.mem_cons, List.not_mem_nil, or_false] at hws ⊢
        rcases hws with rfl | h | h
        · exact absurd rfl hne
        · exact .inl h
        · exact .inr h
      subst e
      refine (T0 _ _ _ _ (by simp) h).mono fun b hb => ⟨fun e => ?_, fun _ => k _ h⟩
      rw [hb] at e; cases e
    · have : ws = [] := by
        rw [e] at hb
        cases ws with
        | nil => rfl
        | cons a b => cases hb
      subst this
      exact k _ h
  | b :: r, ws, K, pairs, res, σ, hK, hws, ok, hl, hp, hr, h, k => by
    obtain ⟨K, rfl⟩ : ∃ K', K = K' + 2 := ⟨K - 2, by simp at hK; omega⟩
    have hlen : (cat (b :: r)).length = b.rk.length + 1 + b.val.length + b.sp.length + (cat r).length := by simp [cat, Blk.txt]; omega
    have hl2 : b.sp.length + (cat r).length ≤ 1000 := by rw [List.length_append, hlen] at hl; omega
    refine (T0 _ _ _ _ hl h).mono fun bb hb => ⟨fun _ => ?_, fun e => ?_⟩
    · refine (T1 ws b r pairs res σ hws ok hl (by omega) h).mono fun fl σ2 ⟨e, h2⟩ => ?_
      subst e
      show WhileW w n env t body (K + 1) σ2 P
      simp only [List.length_cons] at hK hp hr
      obtain ⟨o1, o2, o3, o4⟩ := ok
      have rest (ws' : List Nat) (hw : ws' ∈ [[], [32], [10]]) (hz : (ws' ++ cat r).length ≤ 1000) (nc : b.sp.contains 44 = false) {σ : Sto} {K : Nat} (hK : 2 * r.length + 2 ≤ K) (h : St0 (ws' ++ cat r) (pairs ++ [(b.rk, b.v)]) res σ) : WhileW w n env t body K σ P := by
        refine split_walk T0 T1 T2 T3 r ws' K _ res σ hK hw o4 hz (by simp; omega) (by omega) h fun σ h => k σ ?_
        rw [parse, if_neg (by rw [nc]; decide)]
        exact h
      have junk (hs : b.sp ∈ [[59, 32], [59, 32, 61, 32, 59], [32, 59]]) (nc : b.sp.contains 44 = false) : WhileW w n env t body (K + 1) σ2 P := by
        refine (T0 _ _ _ _ (by rw [List.length_append]; omega) h2).mono fun bb hb => ⟨fun _ => ?_, fun e => ?_⟩
        · refine (T3 b.sp (cat r) _ res σ2 (.inl hs) (cat_ch o4) (cat_head o4) (by omega) h2).mono fun fl σ3 ⟨e, h3⟩ => ?_
          subst e
          exact rest [] (by simp) (by simp; omega) nc (by omega) h3
        · rw [e] at hb
          have : (b.sp ++ cat r).isEmpty = true := by revert hb; cases (b.sp ++ cat r).isEmpty <;> simp
          have := List.append_eq_nil_iff.mp (List.isEmpty_iff.mp this)
          rw [this.1] at hs
          exact absurd hs (by decide)
      have comma (z : List Nat) (hz : z ∈ [[], [32]]) (hs : b.sp = 32 :: 44 :: z) : WhileW w n env t body (K + 1) σ2 P := by
        have nc : b.sp.contains 44 = true := by rw [hs]; rfl
        rw [hs] at h2 hl2
        have hzl : z.length ≤ 1 := by
          simp only [List.mem_cons, List.not_mem_nil, or_false] at hz
          rcases hz with rfl | rfl <;> simp
        have hzc : ∀ ch ∈ z, ch < 128 := by
          simp only [List.mem_cons, List.not_mem_nil, or_false] at hz
          rcases hz with rfl | rfl
          · nofun
          · intro ch hc; simp at hc; omega
        simp only [List.length_cons] at hl2
        refine (T0 _ _ _ _ (by simp; omega) h2).mono fun bb hb => ⟨fun _ => ?_, fun e => ?_⟩
        · refine (T2 (z ++ cat r) _ res σ2 (by simp) ?_ (by simp; omega) (by simp; omega) (by omega) h2).mono fun fl σ3 ⟨e, h3⟩ => ?_
          · intro ch hc
            rcases List.mem_append.mp hc with hc | hc
            · exact hzc ch hc
            · exact cat_ch o4 ch hc
          subst e
          refine split_walk T0 T1 T2 T3 r z K [] _ σ3 (by omega) ?_ o4 (by simp; omega) (by simp; omega) (by simp; omega) h3 fun σ h => k σ ?_
          · simp only [List.mem_cons, List.not_mem_nil, or_false] at hz ⊢
            rcases hz with h | h
            · exact .inl h
            · exact .inr (.inl h)
          · rw [parse, if_pos nc]
            exact h
        · rw [e] at hb; cases hb
      rcases o3 with o3 | ⟨o3, rfl⟩
      · simp only [seps, List.mem_cons, List.not_mem_nil, or_false] at o3
        rcases o3 with e | e | e | e | e | e
        · exact junk (by rw [e]; decide) (by rw [e]; decide)
        · exact comma [32] (by decide) e
        · rw [e] at h2 hl2
          exact rest [10] (by decide) (by simp at hl2 ⊢; omega) (by rw [e]; decide) (by omega) h2
        · exact junk (by rw [e]; decide) (by rw [e]; decide)
        · exact junk (by rw [e]; decide) (by rw [e]; decide)
        · exact comma [] (by decide) e
      · rw [o3] at h2
        exact rest [] (by simp) (by simp [cat]) (by rw [o3]; rfl) (by simp; omega) h2
    · rw [e] at hb
      have : (ws ++ cat (b :: r)).isEmpty = true := by revert hb; cases (ws ++ cat (b :: r)).isEmpty <;> simp
      have := List.append_eq_nil_iff.mp (List.isEmpty_iff.mp this)
      exact absurd (cat_nil this.2) (by simp)
end
end Mine
end

section
open PySem PySem.W PyProof.Rows PySem.Calls
set_option Elab.async false
set_option linter.unusedVariables false
set_option maxRecDepth 100000
namespace Mine
theorem ws_sp : ∀ ws ∈ [[], [32], [10]], ws.length ≤ 1 ∧ ∀ ch ∈ ws, sp ch = true ∧ ch < 128 := by decide +kernel
theorem tk61 : tk 61 = false := by decide +kernel
theorem no44 : tk 44 = false ∧ sp 44 = false := by decide +kernel
theorem q44 : ("," : Str) = S [44] := by decide +kernel
theorem junk_facts : ∀ j ∈ [[59, 32], [59, 32, 61, 32, 59], [32, 59], [32], [10]], j ≠ [] ∧ j.length ≤ 5 ∧ ∀ ch ∈ j, jk ch = true ∧ ch < 128 := by decide +kernel
theorem no59 : tk 59 = false ∧ sp 59 = false ∧ Unicode.isSpace 59 = false := by decide +kernel
theorem sp3210 : sp 32 = true ∧ sp 10 = true ∧ Unicode.isSpace 32 = true ∧ Unicode.isSpace 10 = true := by decide +kernel
/-- junk is no word and no comma -/
theorem junk_split {j more : List Nat} (h : j ∈ [[59, 32], [59, 32, 61, 32, 59], [32, 59]] ∨ (j ∈ [[32], [10]] ∧ more = [])) :
    (∃ a b, j ++ more = a ++ b ∧ (∀ ch ∈ a, sp ch = true) ∧ (∀ ch r, b = ch :: r → tk ch = false ∧ sp ch = false)) ∧ (((j ++ more).dropWhile Unicode.isSpace).head? == some 44) = false := by
  have hb : ∀ (z : List Nat) ch r, 59 :: z = ch :: r → tk ch = false ∧ sp ch = false := fun z ch r e => by
    injection e with e _; subst e; exact ⟨no59.1, no59.2.1⟩
  have hd : ∀ z : List Nat, ((59 :: z).dropWhile Unicode.isSpace).head? = some 59 := fun z => by
    rw [List.dropWhile_cons, no59.2.2]; rfl
  rcases h with h | ⟨h, rfl⟩
  · simp only [List.mem_cons, List.not_mem_nil, or_false] at h
    rcases h with rfl | rfl | rfl
    · exact ⟨⟨[], _, rfl, nofun, hb _⟩, by show (((59 :: _ : List Nat).dropWhile Unicode.isSpace).head? == some 44) = false; rw [hd]; decide⟩
    · exact ⟨⟨[], _, rfl, nofun, hb _⟩, by show (((59 :: _ : List Nat).dropWhile Unicode.isSpace).head? == some 44) = false; rw [hd]; decide⟩
    · refine ⟨⟨[32], 59 :: more, rfl, fun ch hc => by rw [List.mem_singleton.mp hc]; exact sp3210.1, hb _⟩, ?_⟩
      show (((32 :: 59 :: more : List Nat).dropWhile Unicode.isSpace).head? == some 44) = false
      rw [List.dropWhile_cons, sp3210.2.2.1, if_pos rfl, hd]; decide
  · simp only [List.mem_cons, List.not_mem_nil, or_false] at h
    rcases h with rfl | rfl
    · exact ⟨⟨[32], [], rfl, fun ch hc => by rw [List.mem_singleton.mp hc]; exact sp3210.1, nofun⟩, by decide +kernel⟩
    · exact ⟨⟨[10], [], rfl, fun ch hc => by rw [List.mem_singleton.mp hc]; exact sp3210.2.1, nofun⟩, by decide +kernel⟩
section
variable {w : World} {n : Nat} {Q : D → Prop} {B : Bool → Prop}
/-- a method without arguments -/
theorem WE.meth0 {env : Env} {σ : Sto} {o : Expr} {name : Str} {apos pos : Pos} {T id : String}
    (pa : PlainAttrs T) (slot : Slot T name id) (hty : typeOf (.builtin id) = pure (.type "method_descriptor"))
    (h : WE w n env σ o fun d => IsT w d T ∧ WO w n [d] (fun vs => PySem.call (.builtin id) vs) Q)
    (hbase : attributeBase o name env (eval o env) = eval o env := by rfl)
    (hfew : ((backTo pos (starEach [] env)).all (fun x => !x.1) && (backToKw pos (keywordEach [] env)).all (fun x => x.1.isSome)
      && decide (([] : List Expr).length + ([] : List Keyword).length + (if ([] : List Keyword).isEmpty then 0 else 1) < 30)) = Bool.true := by rfl)
    (hline : (apos.endLine == pos.line) = Bool.true := by rfl) :
    WE w n env σ (.Call (.Attribute o name apos) [] [] pos) Q := by
  intro A s g Mt₀ Mt R E ro S q
  refine wpAny_Call_method hbase hfew hline pa slot hty (h A s g Mt₀ Mt _ E ro S fun v h' tk' d k r1 h2 => ?_)
  have S1 := S.keeps k
  obtain ⟨t1, t2⟩ := h2.1 { s with heap := h', toks := tk' } Mt v r1 S1.now
  refine ⟨t1, t2, ?_⟩
  refine callWith_method0 ?_
  exact h2.2 A { s with heap := h', toks := tk' } Mt [v] R E ro S1.now S1.bd (.cons r1 .nil) (Ret.after (s := s) k q)
set_option maxHeartbeats 8000000 in
theorem split_spec {bs : List Blk} (ok : OkB bs) (hl : (cat bs).length ≤ 1000) (hn : bs.length ≤ 50) (h : Q (listsD (splitL bs))) : WF w (n + 2) 70 [.list [.str (S (cat bs))]] Q := by
  refine WF.of (xs := ["header_values"]) rfl rfl rfl rfl rfl rfl rfl ?_ rfl ?_ ?_ fun L => ?_
  · intro vs hv
    obtain ⟨v, rfl⟩ := len1 hv
    rfl
  · decide
  · intro L x hx; simp at hx; subst hx; exact .inl rfl
  refine WS.cons (WX.assert (WT.not (WT.val (WE.callB (id := "isinstance") (WE.blt rfl (by kernel_rfl) rfl ⟨rfl, WA.cons (WE.var rfl (WA.cons (WE.blt rfl (by kernel_rfl) rfl (WA.nil (b_isinstance_list_str (Tru.bool ⟨rfl, ?_⟩))))))⟩)))))
  refine WS.cons (WX.newlist (.inl rfl) ?_)
  refine WS.join (fun σ => σ.lookup ("result" : Str) = some (.own ((splitL bs).map wordsD))) (WX.for (WE.var rfl ⟨_, rfl, ?_⟩)) fun σ hσ => WS.freeze hσ (WS.cons (WX.ret (WE.var rfl ⟨_, rfl, h⟩)))
  refine WG.name (.inl rfl) (WS.cons (WX.assign (.inl rfl) (WE.var rfl (WS.cons (WX.newlist (.inl rfl) ?_)))))
  refine WS.join (fun σ => St0 [] (parse bs [] []).2 (parse bs [] []).1 σ) (WX.while (k := 2 * bs.length + 2) (split_walk ?T0 ?T1 ?T2 ?T3 bs [] _ [] [] _ (Nat.le_refl _) (by simp) ok hl (by simp; omega) (by simp; omega) ⟨rfl, rfl, rfl⟩ fun σ h => ⟨rfl, h⟩)) fun σ hσ => ?fin
  case T0 =>
    intro txt pairs res σ hz ⟨h1, h2, h3⟩
    refine WT.val (WE.var h1 (Tru.str (S_small hz) ?_))
    rw [S_length]
    cases txt <;> simp
  case T1 =>
    intro ws b r pairs res σ hws ok hz hp ⟨h1, h2, h3⟩
    obtain ⟨o1, o2, o3, o4⟩ := ok
    have wf := ws_sp ws hws
    have rf := raw_ch _ o1
    have nf := name_ch _ o2
    have nf2 := names_ch _ o2
    have hv0 := (names_len _ o2).2
    have hvl := (names_len _ o2).1
    have ca := cat_ch (bs := b :: r) ⟨o1, o2, o3, o4⟩
    have htxt : ws ++ cat (b :: r) = ws ++ b.rk ++ (61 :: (b.val ++ (b.sp ++ cat r))) := by simp [cat, Blk.txt]
    have h128 : ∀ ch ∈ ws ++ cat (b :: r), ch < 128 := fun ch hc => (List.mem_append.mp hc).elim (fun m => (wf.2 ch m).2) (ca ch)
    have hT : ∀ ch r', b.sp ++ cat r = ch :: r' → vl ch = false := by
      intro ch r' e
      rcases o3 with o3 | ⟨o3, rfl⟩
      · have f := seps_ch _ o3
        cases hs : b.sp with
        | nil => exact absurd hs f.1
        | cons a l =>
          rw [hs] at e f
          injection e with e _
          subst e
          exact f.2.2.2
      · rw [o3] at e; cases e
    generalize hTx : b.sp ++ cat r = T at hT htxt
    have hlen : ws.length + b.rk.length + (1 + (b.val.length + T.length)) ≤ 1000 := by
      have := hz
      rw [htxt] at this
      simp only [List.length_append, List.length_cons] at this
      omega
    have a2 : ∀ ch ∈ 61 :: (b.val ++ T), ch < 128 := fun ch hc => h128 ch (by rw [htxt]; exact List.mem_append_right _ hc)
    refine WS.cons (WX.assign (.inl rfl) (WE.meth RF.plainAttrs_pat RF.slot_search RF.type_search (WE.glob rfl (by kernel_rfl) ⟨IsT.pat patTok, WA.cons (WE.var h1 (WA.nil ?_))⟩)))
    rw [htxt] at h1 h128 hz ⊢
    refine m_search_yes patTok (by rw [S_length]; omega) (by rw [S_length]; exact tok_yes rfl h128 (by omega) (fun ch hc => (wf.2 ch hc).1) rf.1.1 (fun ch hc => (rf.2 ch hc).2.1) (fun ch r' e => by injection e with e _; subst e; exact tk61)) (by omega) (by decide) ?_
    refine WS.join (fun σ => St0 T (pairs ++ [(b.rk, b.v)]) res σ) (WX.ite (WT.val (WE.var rfl (Tru.mat ⟨fun _ => ?_, (by intro h; cases h)⟩)))) fun σ h => WS.nil ⟨rfl, h⟩
    refine WS.cons (WX.assign (.inl rfl) (WE.call (f := .ref 43) (WE.glob rfl (by kernel_rfl) ⟨rfl, WA.cons (WE.var rfl (WA.nil (unmatched_spec (k := ws.length + b.rk.length) (by omega) (by simp) ?_)))⟩) (by kernel_rfl)))
    have e1 : (ws ++ b.rk ++ 61 :: (b.val ++ T)).drop (ws.length + b.rk.length) = 61 :: (b.val ++ T) := List.drop_left' (by simp)
    have e2 : ((ws ++ b.rk ++ 61 :: (b.val ++ T)).drop ws.length).take (ws.length + b.rk.length - ws.length) = b.rk := by
      rw [List.append_assoc, List.drop_left' rfl, Nat.add_sub_cancel_left, List.take_left' rfl]
    rw [e1]
    refine WS.cons (WX.assign (.inl rfl) (WE.meth RF.plainAttrs_mat RF.slot_group RF.type_group (WE.var rfl ⟨IsT.mat, WA.cons (WE.int (WA.nil (m_group1 (by rw [S_length]; omega) ?_)))⟩)))
    rw [S_extract, e2]
    refine WS.cons (WX.assign (.inl rfl) (WE.meth RF.plainAttrs_pat RF.slot_search RF.type_search (WE.glob rfl (by kernel_rfl) ⟨IsT.pat patQuo, WA.cons (WE.var rfl (WA.nil ?_))⟩)))
    have hl2 : (61 :: (b.val ++ T)).length ≤ 1000 := by simp; omega
    have hl2' := hl2
    have tail (σ : Sto) (g1 : At σ "text" (.str (S T))) (g2 : At σ "name" (.str (S b.rk))) (g3 : At σ "value" (.str (S b.v))) (g4 : σ.lookup ("pairs" : Str) = some (.own (pairs.map wordD))) (g5 : σ.lookup ("result" : Str) = some (.own (res.map wordsD))) :
        St0 T (pairs ++ [(b.rk, b.v)]) res (("pairs", .own (pairs.map wordD ++ [.tup [.str (S b.rk), .str (S b.v)]])) :: σ) :=
      ⟨lk g1, by rw [lookup_cons_self]; simp, lk g5⟩
    have hpl : (pairs.map wordD).length ≤ sizeLine := fits (by simp; omega)
    cases hq : b.qv with
    | true =>
      have ev : (61 :: (b.val ++ T) : List Nat) = 61 :: 34 :: (b.v ++ 34 :: T) := by
        unfold Blk.val; rw [hq]; simp [quo]
      rw [ev] at a2 hl2 ⊢
      refine m_search_yes patQuo (by rw [S_length]; omega) (by rw [S_length]; exact quo_yes rfl a2 (by omega) (fun ch hc => (nf ch hc).2.1)) (by omega) (by decide) ?_
      refine WS.join (fun σ => At σ "text" (.str (S T)) ∧ At σ "name" (.str (S b.rk)) ∧ At σ "value" (.str (S b.v)) ∧ σ.lookup ("pairs" : Str) = some (.own (pairs.map wordD)) ∧ σ.lookup ("result" : Str) = some (.own (res.map wordsD))) (WX.ite (WT.val (WE.var rfl (Tru.mat ⟨fun _ => ?_, (by intro h; cases h)⟩)))) fun σ ⟨g1, g2, g3, g4, g5⟩ => WS.cons (WX.append g4 (WE.tuple (WA.cons (WE.var g2 (WA.cons (WE.var g3 (WA.nil ⟨size2, WS.nil ⟨rfl, tail σ g1 g2 g3 g4 g5⟩⟩)))))) hpl)
      refine WS.cons (WX.assign (.inl rfl) (WE.call (f := .ref 43) (WE.glob rfl (by kernel_rfl) ⟨rfl, WA.cons (WE.var rfl (WA.nil (unmatched_spec (k := 2 + b.v.length + 1) (by omega) (by simp; omega) ?_)))⟩) (by kernel_rfl)))
      have e3 : (61 :: 34 :: (b.v ++ 34 :: T) : List Nat).drop (2 + b.v.length + 1) = T := by
        rw [show (61 :: 34 :: (b.v ++ 34 :: T) : List Nat) = (61 :: 34 :: (b.v ++ [34])) ++ T by simp]
        exact List.drop_left' (by simp; omega)
      have e4 : ((61 :: 34 :: (b.v ++ 34 :: T) : List Nat).drop 2).take (2 + b.v.length - 2) = b.v := by
        rw [Nat.add_sub_cancel_left]
        exact List.take_left' rfl
      rw [e3]
      refine WS.cons (WX.assign (.inl rfl) (WE.meth RF.plainAttrs_mat RF.slot_group RF.type_group (WE.var rfl ⟨IsT.mat, WA.cons (WE.int (WA.nil (m_group1 (by rw [S_length]; omega) ?_)))⟩)))
      rw [S_extract, e4]
      refine WS.cons (WX.assign (.inl rfl) (WE.meth RF.plainAttrs_pat RF.slot_sub RF.type_sub (WE.glob rfl (by kernel_rfl) ⟨IsT.pat patEsc, WA.cons (WE.lam (h := WA.cons (WE.var rfl (WA.nil ?_))) rfl (.inl ⟨rfl, rfl, rfl, rfl⟩))⟩)))
      refine m_sub_none patEsc (by rw [S_length]; omega) (by rw [S_length]; exact List.length_pos_iff.mpr hv0) (by rw [S_length]; exact esc_no (fun ch hc => (nf2 ch hc).2.2)) (by omega) ?_
      have ej : Txt.join (Str.mk #[]) [S b.v] = S b.v := by
        have := S_join [] [b.v]
        simpa [List.intercalate] using this
      rw [ej]
      exact WS.nil ⟨rfl, rfl, rfl, rfl, lk (lk (lk (lk (lk (lk (lk h2)))))), lk (lk (lk (lk (lk (lk (lk h3))))))⟩
    | false =>
      have ev : (61 :: (b.val ++ T) : List Nat) = 61 :: (b.v ++ T) := by
        unfold Blk.val; rw [hq]; simp
      rw [ev] at a2 hl2 ⊢
      obtain ⟨c0, vr, hc0⟩ : ∃ c0 vr, b.v = c0 :: vr := by
        cases hx : b.v with
        | nil => exact absurd hx hv0
        | cons a l => exact ⟨a, l, rfl⟩
      have hc1 : c0 ∈ b.v := by rw [hc0]; exact List.mem_cons_self ..
      refine m_search_no patQuo (by rw [S_length]; omega) (by rw [S_length]; exact quo_no (ch := c0) (rest := vr ++ T) (by rw [hc0]; rfl) a2 (by omega) (nf2 _ hc1).2.1 (nf _ hc1).2.2.1) (by omega) ?_
      refine WS.join (fun σ => At σ "text" (.str (S T)) ∧ At σ "name" (.str (S b.rk)) ∧ At σ "value" (.str (S b.v)) ∧ σ.lookup ("pairs" : Str) = some (.own (pairs.map wordD)) ∧ σ.lookup ("result" : Str) = some (.own (res.map wordsD))) (WX.ite (WT.val (WE.var rfl (Tru.none ⟨(by intro h; cases h), fun _ => ?_⟩)))) fun σ ⟨g1, g2, g3, g4, g5⟩ => WS.cons (WX.append g4 (WE.tuple (WA.cons (WE.var g2 (WA.cons (WE.var g3 (WA.nil ⟨size2, WS.nil ⟨rfl, tail σ g1 g2 g3 g4 g5⟩⟩)))))) hpl)
      refine WS.cons (WX.assign (.inl rfl) (WE.meth RF.plainAttrs_pat RF.slot_search RF.type_search (WE.glob rfl (by kernel_rfl) ⟨IsT.pat patVal, WA.cons (WE.var rfl (WA.nil ?_))⟩)))
      refine m_search_yes patVal (by rw [S_length]; omega) (by rw [S_length]; exact val_yes rfl a2 (by omega) hv0 (fun ch hc => (nf ch hc).1) hT) (by omega) (by decide) ?_
      refine WS.cons (WX.ite (WT.val (WE.var rfl (Tru.mat ⟨fun _ => ?_, (by intro h; cases h)⟩))))
      refine WS.cons (WX.assign (.inl rfl) (WE.call (f := .ref 43) (WE.glob rfl (by kernel_rfl) ⟨rfl, WA.cons (WE.var rfl (WA.nil (unmatched_spec (k := 1 + b.v.length) (by omega) (by simp; omega) ?_)))⟩) (by kernel_rfl)))
      have e3 : (61 :: (b.v ++ T) : List Nat).drop (1 + b.v.length) = T := by
        rw [show (61 :: (b.v ++ T) : List Nat) = (61 :: b.v) ++ T by simp]
        exact List.drop_left' (by simp; omega)
      have e4 : ((61 :: (b.v ++ T) : List Nat).drop 1).take (1 + b.v.length - 1) = b.v := by
        rw [Nat.add_sub_cancel_left]
        exact List.take_left' rfl
      rw [e3]
      refine WS.cons (WX.assign (.inl rfl) (WE.meth RF.plainAttrs_mat RF.slot_group RF.type_group (WE.var rfl ⟨IsT.mat, WA.cons (WE.int (WA.nil (m_group1 (by rw [S_length]; omega) ?_)))⟩)))
      rw [S_extract, e4]
      refine WS.cons (WX.assign (.inl rfl) (WE.meth0 F.plainAttrs_str F.slot_str_rstrip F.type_str_rstrip (WE.var rfl ⟨IsT.str, m_rstrip (by rw [S_length]; exact fits (by omega)) ?_⟩)))
      rw [S_rstrip (fun c hc => (nf c (List.mem_of_getLast? hc)).2.2.2)]
      exact WS.nil (WS.nil ⟨rfl, rfl, rfl, rfl, lk (lk (lk (lk (lk (lk (lk (lk h2))))))), lk (lk (lk (lk (lk (lk (lk (lk h3)))))))⟩)
  case T2 =>
    intro z pairs res σ hp0 hz1 hz hp hr ⟨h1, h2, h3⟩
    have h128 : ∀ ch ∈ 32 :: 44 :: z, ch < 128 := by
      intro ch hc
      simp only [List.mem_cons] at hc
      rcases hc with rfl | rfl | hc
      · omega
      · omega
      · exact hz1 ch hc
    have hlen : (32 :: 44 :: z).length ≤ 1002 := by simp; omega
    refine WS.cons (WX.assign (.inl rfl) (WE.meth RF.plainAttrs_pat RF.slot_search RF.type_search (WE.glob rfl (by kernel_rfl) ⟨IsT.pat patTok, WA.cons (WE.var h1 (WA.nil ?_))⟩)))
    refine m_search_no patTok (by rw [S_length]; omega) (by rw [S_length]; exact tok_no (ws := [32]) (rest := 44 :: z) rfl (by simp) h128 (by omega) (fun ch hc => by rw [List.mem_singleton.mp hc]; exact sp3210.1) (fun ch r e => by injection e with e _; subst e; exact no44)) (by omega) ?_
    have e0 : (32 :: 44 :: z : List Nat).dropWhile Unicode.isSpace = 44 :: z := by
      rw [List.dropWhile_cons, sp3210.2.2.1, if_pos rfl, List.dropWhile_cons]
      rfl
    have z0 : (S (32 :: 44 :: z)).length ≤ sizeLine := by rw [S_length]; exact fits (by omega)
    refine WS.join (fun σ => St0 z [] (res ++ [pairs]) σ) (WX.ite (WT.val (WE.var rfl (Tru.none ⟨(by intro h; cases h), fun _ => ?_⟩)))) fun σ h => WS.nil ⟨rfl, h⟩
    refine WS.cons (WX.ite (WT.val (WE.meth F.plainAttrs_str F.slot_str_startswith F.type_str_startswith (WE.meth0 F.plainAttrs_str F.slot_str_lstrip F.type_str_lstrip (WE.var (lk h1) ⟨IsT.str, (m_lstrip z0 ⟨IsT.str, WA.cons (WE.str (WA.nil (m_startswith (Tru.bool ?_))))⟩)⟩)))))
    rw [q44, S_lstrip, e0, S_startswith]
    refine ⟨fun _ => ?_, (by intro h; cases h)⟩
    refine WS.cons (WX.assign (.inl rfl) (WE.str_from (WE.meth0 F.plainAttrs_str F.slot_str_lstrip F.type_str_lstrip (WE.var (lk h1) ⟨IsT.str, (m_lstrip z0 ⟨_, rfl, ?_, WE.int ⟨_, rfl, ?_⟩⟩)⟩))))
    · rw [S_lstrip, e0, S_length]; exact fits (by simp; omega)
    rw [S_lstrip, e0, show (1 : Int) = ((1 : Nat) : Int) from rfl, S_slice_from (by simp)]
    refine WS.freeze (lk (lk h2)) (WS.join (fun σ => At σ "text" (.str (S z)) ∧ σ.lookup ("result" : Str) = some (.own ((res ++ [pairs]).map wordsD))) (WX.ite (WT.val (WE.var rfl (Tru.list (fits (by simp; omega)) ⟨fun _ => ?_, fun hb => ?_⟩)))) fun σ ⟨g1, g2⟩ => ?_)
    · refine WS.cons (WX.append (lk (lk (lk h3))) (WE.var rfl (WS.nil ⟨rfl, rfl, ?_⟩)) (fits (by simp; omega)))
      rw [lookup_cons_self]; simp
    · cases pairs with
      | nil => exact absurd rfl hp0
      | cons a b => cases hb
    · exact WS.cons (WX.newlist (.inl rfl) (WS.nil (WS.nil ⟨rfl, lk g1, rfl, lk g2⟩)))
  case T3 =>
    intro j more pairs res σ hj hm1 hm2 hz ⟨h1, h2, h3⟩
    obtain ⟨⟨a, bb, e1, e2, e3⟩, e4⟩ := junk_split hj
    have hj' : j ∈ [[59, 32], [59, 32, 61, 32, 59], [32, 59], [32], [10]] := by
      rcases hj with h | ⟨h, _⟩
      · simp only [List.mem_cons, List.not_mem_nil, or_false] at h ⊢
        rcases h with rfl | rfl | rfl <;> simp
      · simp only [List.mem_cons, List.not_mem_nil, or_false] at h ⊢
        rcases h with rfl | rfl <;> simp
    obtain ⟨j0, j1, j2⟩ := junk_facts j hj'
    have h128 : ∀ ch ∈ j ++ more, ch < 128 := fun ch hc => (List.mem_append.mp hc).elim (fun m => (j2 ch m).2) (hm1 ch)
    have hlen : (j ++ more).length ≤ 1005 := by rw [List.length_append]; omega
    have z0 : (S (j ++ more)).length ≤ sizeLine := by rw [S_length]; exact fits (by omega)
    refine WS.cons (WX.assign (.inl rfl) (WE.meth RF.plainAttrs_pat RF.slot_search RF.type_search (WE.glob rfl (by kernel_rfl) ⟨IsT.pat patTok, WA.cons (WE.var h1 (WA.nil ?_))⟩)))
    refine m_search_no patTok (by rw [S_length]; omega) (by rw [S_length]; exact tok_no e1 (by simp [j0]) h128 (by omega) e2 e3) (by omega) ?_
    refine WS.join (fun σ => St0 more pairs res σ) (WX.ite (WT.val (WE.var rfl (Tru.none ⟨(by intro h; cases h), fun _ => ?_⟩)))) fun σ h => WS.nil ⟨rfl, h⟩
    refine WS.cons (WX.ite (WT.val (WE.meth F.plainAttrs_str F.slot_str_startswith F.type_str_startswith (WE.meth0 F.plainAttrs_str F.slot_str_lstrip F.type_str_lstrip (WE.var (lk h1) ⟨IsT.str, (m_lstrip z0 ⟨IsT.str, WA.cons (WE.str (WA.nil (m_startswith (Tru.bool ?_))))⟩)⟩)))))
    rw [q44, S_lstrip, S_startswith, e4]
    refine ⟨(by intro h; cases h), fun _ => ?_⟩
    refine WS.cons (WX.assign2 (WE.meth RF.plainAttrs_pat RF.slot_subn RF.type_subn (WE.glob rfl (by kernel_rfl) ⟨IsT.pat patJun, WA.cons (WE.str (WA.cons (WE.var (lk h1) (WA.nil ?_))))⟩)))
    rw [qe]
    refine m_subn_jun j0 h128 (by omega) (fun ch hc => (j2 ch hc).1) (fun ch r e => (hm2 ch r e).2.1) (WG.pair (.inl rfl) (.inl rfl) ?_)
    refine WS.cons (WX.assert (WT.cmp (WE.var rfl (WE.int (op_gt_int (Tru.bool ⟨rfl, ?_⟩))))))
    exact WS.cons (WX.assign (.inl rfl) (WE.var rfl (WS.nil (WS.nil ⟨rfl, rfl, lk (lk (lk (lk h2))), lk (lk (lk (lk h3)))⟩))))
  case fin =>
    obtain ⟨h1, h2, h3⟩ := hσ
    have hsz : ∀ (bs : List Blk) res ps, (parse bs res ps).1.length ≤ res.length + bs.length ∧ (parse bs res ps).2.length ≤ ps.length + bs.length := by
      intro bs
      induction bs with
      | nil => intro res ps; exact ⟨Nat.le_refl _, Nat.le_refl _⟩
      | cons b r ih =>
        intro res ps
        rw [parse]
        split
        · have := ih (res ++ [ps ++ [(b.rk, b.v)]]) []
          simp at this ⊢; omega
        · have := ih res (ps ++ [(b.rk, b.v)])
          simp at this ⊢; omega
    have hs := hsz bs [] []
    simp only [List.length_nil, Nat.zero_add] at hs
    refine WS.freeze h2 (WS.cons (WX.ite (WT.val (WE.var rfl (Tru.list (fits (by simp; omega)) ⟨fun hb => ?_, fun hb => WS.nil (WS.nil ⟨rfl, ?_⟩)⟩)))))
    · refine WS.cons (WX.append (lk h3) (WE.var rfl (WS.nil (WS.nil ⟨rfl, ?_⟩))) (fits (by simp; omega)))
      have e : (parse bs [] []).2.isEmpty = false := by
        cases hx : (parse bs [] []).2 with
        | nil => rw [hx] at hb; cases hb
        | cons a b => rfl
      rw [lookup_cons_self]
      unfold splitL
      rw [if_neg (by rw [e]; decide)]
      simp
    · have e : (parse bs [] []).2.isEmpty = true := by
        cases hx : (parse bs [] []).2 with
        | nil => rfl
        | cons a b => rw [hx] at hb; cases hb
      refine (lk h3).trans ?_
      unfold splitL
      rw [if_pos e]
end
end Mine
end

section
open PySem PySem.W PyProof.Rows PySem.Calls
set_option Elab.async false
set_option linter.unusedVariables false
set_option maxRecDepth 100000
namespace Mine
section
variable {w : World} {n : Nat} {Q : D → Prop}
noncomputable def p0 : List Nat × List Nat := ([], [])
noncomputable def rowOf (ls : List Words) : Words := ls.flatten.map fun p => (strip34 p.1, p.2)
noncomputable def firstOf (row : Words) : List Nat := (List.range row.length).filter fun i => !((row.take i).map (·.1)).any (· == (row.getD i p0).1)
noncomputable def goneOf (row : Words) : List Nat := (List.range row.length).filter fun i => !((firstOf row).filter fun o => decide (i < o) && ((row.getD o p0).2 == (row.getD i p0).2)).isEmpty
noncomputable def leftGo (gone : List Nat) : Nat → List Words → List Words
  | _, [] => []
  | a, ws :: r => ((List.range ws.length).filter fun k => !gone.any (· == a + k)).map (fun k => ws.getD k p0) :: leftGo gone (a + ws.length) r
noncomputable def leftOf (ls : List Words) : List Words := leftGo (goneOf (rowOf ls)) 0 ls
noncomputable abbrev Row1 (ls : List Words) : Prop := ls.length ≤ 20 ∧ ls.flatten.length ≤ 20 ∧ ∀ ws ∈ ls, ws.length ≤ 20 ∧ ∀ p ∈ ws, p.1.length ≤ 20 ∧ p.2.length ≤ 20
theorem flat_len (ls : List Words) : (ls.map fun ws => (ws.map fun p : List Nat × List Nat => D.tup [.str (S (strip34 p.1)), .str (S p.2)]).length).sum = ls.flatten.length := by
  rw [List.length_flatten]; congr 1; apply List.map_congr_left; intro ws _; simp
theorem sub1 {τ : Sto} {x : Str} {d : D} (hx : τ.lookup x = none) (hτ : AllFz τ) : Sub τ ((x, .fz d) :: τ) ∧ AllFz ((x, .fz d) :: τ) := ⟨Sub.cons (Sub.refl _) hx, hτ.cons⟩
theorem sub2 {τ : Sto} {x y : Str} {d e : D} (hx : τ.lookup x = none) (hy : τ.lookup y = none) (hτ : AllFz τ) : Sub τ ((y, .fz e) :: (x, .fz d) :: τ) ∧ AllFz ((y, .fz e) :: (x, .fz d) :: τ) := ⟨Sub.cons (Sub.cons (Sub.refl _) hx) hy, hτ.cons.cons⟩
theorem items_nat {m : Nat} (hm : m ≤ 100000) : itemsOf (.rng 0 (m : Int) 1) = some ((List.range m).map fun (k : Nat) => D.int (k : Int)) := by
  rw [items_range1 hm]; congr 1; apply List.map_congr_left; intro k _; congr 1; omega
noncomputable abbrev natsD (l : List Nat) : List D := l.map fun (i : Nat) => .int (i : Int)
theorem natsD_eq (l : List Nat) : natsD l = (l.map Int.ofNat).map D.int := by rw [List.map_map]; rfl
theorem getD_map {row : Words} {i : Nat} (h : i < row.length) : (row.map wordD)[((i : Int)).toNat]? = some (wordD (row.getD i p0)) := by
  rw [Int.toNat_natCast, List.getElem?_map, List.getElem?_eq_getElem h, List.getD_eq_getElem?_getD, List.getElem?_eq_getElem h]; rfl
variable {env : Env} {σ : Sto}
theorem WE.word {x y : Str} {p1 p2 p3 : Pos} {row : Words} {i : Nat} (hr : At σ y (.list (row.map wordD))) (hp : At σ x (.int (i : Int))) (hi : i < row.length) (hl : row.length ≤ 1000) (h : Q (wordD (row.getD i p0)))
    (hd : (x == ("__debug__" : Str)) = Bool.false := by decide) (hd2 : (y == ("__debug__" : Str)) = Bool.false := by decide)
    (hs : ∀ a k u, subscripted (.Name x p2) Bool.false (.ref a) (.int k u) = operate [.ref a, .int k u] (getItem (.ref a) (.int k u)) := by intro _ _ _; with_unfolding_all rfl) : WE w n env σ (.Subscript (.Name y p1) (.Name x p2) p3) Q :=
  WE.item (WE.var hr (WE.var hp (.inl ⟨_, _, _, rfl, rfl, by omega, by omega, getD_map hi, h⟩) hd) hd2) hs
theorem WE.word0 {x y : Str} {p1 p2 p3 p4 p5 : Pos} {k : Nat} {row : Words} {i : Nat} (hr : At σ y (.list (row.map wordD))) (hp : At σ x (.int (i : Int))) (hi : i < row.length) (hl : row.length ≤ 1000) (h : Q (.str (S (row.getD i p0).1)))
    (hd : (x == ("__debug__" : Str)) = Bool.false := by decide) (hd2 : (y == ("__debug__" : Str)) = Bool.false := by decide)
    (hs : ∀ a k u, subscripted (.Name x p2) Bool.false (.ref a) (.int k u) = operate [.ref a, .int k u] (getItem (.ref a) (.int k u)) := by intro _ _ _; with_unfolding_all rfl) : WE w n env σ (.Subscript (.Subscript (.Name y p1) (.Name x p2) p3) (.Constant (.int 0) k p4) p5) Q :=
  WE.item (WE.word hr hp hi hl (WE.int (.inr ⟨_, _, _, rfl, rfl, by decide, by decide, rfl, h⟩)) hd hd2 hs)
theorem WE.word1 {x y : Str} {p1 p2 p3 p4 p5 : Pos} {k : Nat} {row : Words} {i : Nat} (hr : At σ y (.list (row.map wordD))) (hp : At σ x (.int (i : Int))) (hi : i < row.length) (hl : row.length ≤ 1000) (h : Q (.str (S (row.getD i p0).2)))
    (hd : (x == ("__debug__" : Str)) = Bool.false := by decide) (hd2 : (y == ("__debug__" : Str)) = Bool.false := by decide)
    (hs : ∀ a k u, subscripted (.Name x p2) Bool.false (.ref a) (.int k u) = operate [.ref a, .int k u] (getItem (.ref a) (.int k u)) := by intro _ _ _; with_unfolding_all rfl) : WE w n env σ (.Subscript (.Subscript (.Name y p1) (.Name x p2) p3) (.Constant (.int 1) k p4) p5) Q :=
  WE.item (WE.word hr hp hi hl (WE.int (.inr ⟨_, _, _, rfl, rfl, by decide, by decide, rfl, h⟩)) hd hd2 hs)
theorem WE.range_len {x : Str} {p1 p2 p3 p4 p5 : Pos} {l : List D} (hx : At σ x (.list l)) (hz : l.length ≤ 100000) (h : Q (.rng 0 (l.length : Int) 1))
    (k1 : env.kindOf "range" = some .globalImplicit := by rfl) (k2 : env.kindOf "len" = some .globalImplicit := by rfl) (hd : (x == ("__debug__" : Str)) = Bool.false := by decide) :
    WE w n env σ (.Call (.Name "range" p1) [.Call (.Name "len" p2) [.Name x p3] [] p4] [] p5) Q :=
  WE.callT (T := "range") (WE.blt k1 (by kernel_rfl) rfl ⟨rfl, WA.cons (WE.callB (id := "len") (WE.blt k2 (by kernel_rfl) rfl ⟨rfl, WA.cons (WE.var hx (WA.nil (b_len_list (fits hz) (WA.nil (b_range1 h)))) hd)⟩))⟩)
set_option maxHeartbeats 8000000 in
theorem left_spec {ls : List Words} (ok : Row1 ls) (h : Q (listsD (leftOf ls))) : WF w (n + 2) 111 [listsD ls] Q := by
  refine WF.of (xs := ["lists"]) rfl rfl rfl rfl rfl rfl rfl ?_ rfl ?_ ?_ fun L => ?_
  · intro vs hv
    obtain ⟨v, rfl⟩ := len1 hv
    rfl
  · decide
  · intro L x hx; simp at hx; subst hx; exact .inl rfl
  obtain ⟨k1, k2, k3⟩ := ok
  have hrl : (rowOf ls).length ≤ 20 := by rw [rowOf, List.length_map]; exact k2
  refine WS.cons (WX.assign (.inr ⟨rfl, _, rfl, Nat.le_add_right L 2⟩) (WE.comp2 [] [] (WE.var rfl ⟨_, rfl, fun C => ?_⟩) (fun C => trivial) trivial))
  refine CompI.bind (B := 20) (F := fun ws => ws.map fun p : List Nat × List Nat => D.tup [.str (S (strip34 p.1)), .str (S p.2)]) ls [] ?_ (fun ws hw => WG.name (.inl rfl) ⟨sub_one, fun acc Q' ha hq => WE.var rfl ⟨_, rfl, ?_⟩⟩) ?_
  · rw [flat_len, List.length_nil, Nat.zero_add]; exact k2
  · refine CompI.map (f := fun p => D.tup [.str (S (strip34 p.1)), .str (S p.2)]) ws acc (fits (by simp at ha; omega)) (fun p hp => WG.pair (.inl rfl) (.inl rfl) ⟨sub2 rfl rfl AllFz.nil.cons, ?_⟩) hq
    obtain ⟨b1, b2⟩ := (k3 ws hw).2 p hp
    exact WE.tuple (WA.cons (WE.call (f := .ref 94) (WE.glob rfl (by kernel_rfl) ⟨rfl, WA.cons (WE.var rfl (WA.nil (strip_spec (by omega) (WA.cons (WE.var rfl (WA.nil ⟨size2, rfl⟩))))))⟩) (by kernel_rfl)))
  have er : ([] : List D) ++ ls.flatMap (fun ws => ws.map fun p : List Nat × List Nat => D.tup [.str (S (strip34 p.1)), .str (S p.2)]) = (rowOf ls).map wordD := by
    rw [List.nil_append, rowOf, List.map_map, List.flatMap_def, List.map_flatten]; rfl
  rw [er]
  have hlo : leftOf ls = leftGo (goneOf (rowOf ls)) 0 ls := rfl
  rw [hlo] at h
  generalize hR : rowOf ls = row at *
  refine WS.cons (WX.assign (.inr ⟨rfl, _, rfl, Nat.le_add_right L 3⟩) (WE.comp1 [("row", L + 2)] [("row", .fz (.list (row.map wordD)))] (WE.range_len rfl (by simp; omega) ⟨_, by rw [List.length_map]; exact items_nat (by omega), fun C => ?_⟩) (fun C => ⟨⟨_, rfl, rfl, rfl, rfl, rfl⟩, trivial⟩) ⟨rfl, trivial⟩))
  refine CompI.filt (f := fun i : Nat => D.int (i : Int)) (p := fun i => !((row.take i).map (·.1)).any (· == (row.getD i p0).1)) _ [] (fits (by simp; omega)) (fun i hi => WG.name (.inl rfl) ⟨sub1 rfl AllFz.nil.cons, ?_⟩) ?_
  · have hi := List.mem_range.mp hi
    refine WT.cmp (WE.word0 rfl rfl hi (by omega) (WE.comp1 [] [] (WE.list_to (WE.var rfl ⟨_, rfl, fits (by simp; omega), WE.var rfl ⟨i, rfl, ⟨(row.take i).map wordD, by rw [← List.map_take]; rfl, fun C => ?_⟩⟩⟩)) (fun C => trivial) trivial))
    refine CompI.map (f := fun p : List Nat × List Nat => D.str (S p.1)) _ [] (fits (by simp; omega)) (fun p hp => WG.pair (.inl rfl) (.inl rfl) ⟨sub2 rfl rfl AllFz.nil, WE.var rfl rfl⟩) ?_
    rw [List.nil_append, map_S]
    refine op_notin_strs (Tru.bool ⟨?_, fun _ => WE.var rfl rfl⟩)
    rw [List.any_map]
    congr 2
    funext y
    exact S_beq _ _
  rw [List.nil_append]
  have hfl : ∀ o ∈ firstOf row, o < row.length := fun o ho => List.mem_range.mp (List.mem_filter.mp ho).1
  have hfn : (firstOf row).length ≤ 20 := by
    have := List.length_filter_le (fun i => !((row.take i).map (·.1)).any (· == (row.getD i p0).1)) (List.range row.length)
    rw [List.length_range] at this
    unfold firstOf; omega
  refine WS.cons (WX.assign (.inr ⟨rfl, _, rfl, Nat.le_add_right L 4⟩) (WE.comp1 [("row", L + 2), ("first", L + 3)] [("row", .fz (.list (row.map wordD))), ("first", .fz (.list (natsD (firstOf row))))] (WE.range_len rfl (by simp; omega) ⟨_, by rw [List.length_map]; exact items_nat (by omega), fun C => ?_⟩) (fun C => ⟨⟨_, rfl, rfl, rfl, rfl, rfl⟩, ⟨_, rfl, rfl, rfl, rfl, rfl⟩, trivial⟩) ⟨rfl, rfl, trivial⟩))
  refine CompI.filt (f := fun i : Nat => D.int (i : Int)) (p := fun i => !((firstOf row).filter fun o => decide (i < o) && ((row.getD o p0).2 == (row.getD i p0).2)).isEmpty) _ [] (fits (by simp; omega)) (fun i hi => WG.name (.inr ⟨rfl, _, rfl, Nat.le_add_right C 1⟩) ⟨sub1 rfl AllFz.nil.cons.cons, ?_⟩) ?_
  · have hi := List.mem_range.mp hi
    refine WT.cmp (WE.comp1 [("row", L + 2), ("place", C + 1)] [("row", .fz (.list (row.map wordD))), ("place", .fz (.int (i : Int)))] (WE.var rfl ⟨_, rfl, fun C2 => ?_⟩) (fun C2 => ⟨⟨_, rfl, rfl, rfl, rfl, rfl⟩, ⟨_, rfl, rfl, rfl, rfl, rfl⟩, trivial⟩) ⟨rfl, rfl, trivial⟩)
    refine CompI.filt (f := fun i : Nat => D.int (i : Int)) (p := fun o => decide (i < o) && ((row.getD o p0).2 == (row.getD i p0).2)) _ [] (fits (by simp; omega)) (fun o ho => WG.name (.inl rfl) ⟨sub1 rfl AllFz.nil.cons.cons, ?_⟩) ?_
    · have ho := hfl o ho
      refine WT.boolop (WAll.and (WT.cmp (WE.var rfl (WE.var rfl (op_gt_int (Tru.bool ⟨fun hb => ?_, fun hb => ?_⟩))))))
      · refine WAll.and (WT.cmp (WE.word1 rfl rfl ho (by omega) (WE.word1 rfl rfl hi (by omega) (op_eq_str (Tru.bool ⟨fun hc => WAll.and_nil ?_, fun hc => ?_⟩)))))
        · rw [S_beq] at hc
          have : decide (i < o) = true := by simpa using hb
          exact ⟨by rw [this, hc]; rfl, fun _ => WE.var rfl rfl⟩
        · rw [S_beq] at hc
          exact ⟨by rw [hc, Bool.and_false], fun e => by rw [hc, Bool.and_false] at e; cases e⟩
      · have : decide (i < o) = false := by simpa using hb
        exact ⟨by rw [this]; rfl, fun e => by rw [this] at e; cases e⟩
    · refine WE.list (WA.nil ⟨by decide, op_ne_nil (Tru.bool ⟨by simp, fun _ => WE.var rfl rfl⟩)⟩)
  rw [List.nil_append]
  have hgo : (List.range row.length).filter (fun i => !((firstOf row).filter fun o => decide (i < o) && ((row.getD o p0).2 == (row.getD i p0).2)).isEmpty) = goneOf row := rfl
  rw [hgo]
  generalize goneOf row = gone at *
  refine WS.cons (WX.pairnew (.inl rfl) (.inr ⟨rfl, _, rfl, Nat.le_add_right L 5⟩) (WE.int ⟨_, rfl, ?_⟩))
  refine WS.join (fun σ => σ.lookup ("left" : Str) = some (.own ((leftGo gone 0 ls).map wordsD))) (WX.for (WE.var rfl ⟨_, rfl, ?_⟩)) fun σ hσ => WS.freeze hσ (WS.cons (WX.ret (WE.var rfl ⟨_, rfl, h⟩)))
  refine LoopW.inv (fun r σ => ∃ (done : List Words) (a : Nat), done ++ leftGo gone a r = leftGo gone 0 ls ∧ done.length + r.length = ls.length ∧ a + r.flatten.length ≤ 20 ∧ σ.lookup ("left" : Str) = some (.own (done.map wordsD)) ∧ At σ "ahead" (.int (a : Int)) ∧ At σ "gone" (.list (natsD gone))) ls ?_ (fun σ ⟨done, a, e, _, _, g, _⟩ => ⟨rfl, by rw [leftGo, List.append_nil] at e; rw [← e]; exact g⟩) ⟨[], 0, rfl, by simp, by simpa using k2, rfl, rfl, rfl⟩
  intro ws r σ ⟨done, a, e1, e2, e3, g1, g2, g3⟩
  simp only [List.length_cons, List.flatten_cons, List.length_append] at e2 e3
  refine WG.name (.inr ⟨rfl, _, rfl, Nat.le_add_right L 1⟩) (WS.cons (WX.append (lk g1) (WE.comp1 [("words", L + 1), ("gone", L + 4), ("ahead", L + 5)] [("words", .fz (wordsD ws)), ("gone", .fz (.list (natsD gone))), ("ahead", .fz (.int (a : Int)))] (WE.range_len lookup_cons_self (by simp; omega) ⟨_, by rw [List.length_map]; exact items_nat (by omega), fun C => ?_⟩) (fun C => ⟨⟨_, rfl, lookup_cons_self, rfl, rfl, rfl⟩, ⟨_, rfl, lk g3, rfl, rfl, rfl⟩, ⟨_, rfl, lk g2, rfl, rfl, rfl⟩, trivial⟩) ⟨rfl, rfl, rfl, trivial⟩) (fits (by simp; omega))))
  refine CompI.filt (f := fun k => wordD (ws.getD k p0)) (p := fun k => !gone.any (· == a + k)) _ [] (fits (by simp; omega)) (fun k hk => WG.name (.inl rfl) ⟨sub1 rfl AllFz.nil.cons.cons.cons, ?_⟩) ?_
  · have hk := List.mem_range.mp hk
    refine WT.cmp (WE.binop (WE.var rfl (WE.var rfl (op_add_int (WE.var rfl ?_)))))
    rw [natsD_eq]
    refine op_notin_ints (Tru.bool ⟨?_, fun _ => WE.word rfl rfl hk (by omega) rfl⟩)
    rw [List.any_map]
    congr 2
    funext y
    show ((y : Int) == ((a : Int) + (k : Int))) = (y == a + k)
    by_cases q : y = a + k
    · subst q; simp
    · have : ((y : Int) == ((a : Int) + (k : Int))) = false := by
        rw [beq_eq_false_iff_ne]; intro q2; exact q (by omega)
      rw [this, beq_false_of_ne q]
  rw [List.nil_append]
  refine WS.cons (WX.aug_add (lk (lk g2)) (.inr ⟨rfl, _, rfl, Nat.le_add_right L 5⟩) (WE.callB (id := "len") (WE.blt rfl (by kernel_rfl) rfl ⟨rfl, WA.cons (WE.var (lk lookup_cons_self) (WA.nil (b_len_list (fits (by simp; omega)) ⟨_, rfl, WS.nil ?_⟩)))⟩)))
  refine ⟨done ++ [((List.range ws.length).filter fun k => !gone.any (· == a + k)).map fun k => ws.getD k p0], a + ws.length, ?_, by simp; omega, by omega, ?_, ?_, lk (lk (lk g3))⟩
  · rw [leftGo] at e1
    rw [← e1, List.append_assoc]; rfl
  · rw [lk lookup_cons_self]
    simp
  · show some (Ent.fz (D.int _)) = some (Ent.fz (D.int _))
    simp
end
end Mine
end

section
open PySem PySem.W PyProof.Rows PySem.Calls
set_option Elab.async false
set_option linter.unusedVariables false
set_option maxRecDepth 100000
namespace Mine
section
variable {w : World} {n : Nat} {Q : D → Prop}
noncomputable def heldP (row : Words) (i k : Nat) : Bool := ((row.getD k p0).1 == (row.getD i p0).1 && decide (k < i)) || ((row.getD k p0).2 == (row.getD i p0).2 && decide (i < k))
noncomputable def stableOf (row : Words) (ch : List Nat) : Bool := (List.range row.length).all fun i => ch.any (· == i) || !(ch.filter (heldP row i)).isEmpty
theorem any_int (ch : List Nat) (i : Nat) : (ch.map Int.ofNat).any (· == (i : Int)) = ch.any (· == i) := by
  rw [List.any_map]
  congr 1
  funext y
  show ((y : Int) == (i : Int)) = (y == i)
  by_cases q : y = i
  · subst q; simp
  · have : ((y : Int) == (i : Int)) = false := by
      rw [beq_eq_false_iff_ne]; intro q2; exact q (by omega)
    rw [this, beq_false_of_ne q]
theorem op_notin_nats {i : Nat} {ch : List Nat} (h : Q (.bool (!ch.any (· == i)))) : WO w n [.int (i : Int), .list (natsD ch)] (fun vs => compareOp .NotIn (vs.getD 0 .none) (vs.getD 1 .none)) Q := by
  rw [natsD_eq]; exact op_notin_ints (by rw [any_int]; exact h)
set_option maxHeartbeats 8000000 in
theorem stable_spec {row : Words} {ch : List Nat} (hr : row.length ≤ 20) (hc : ch.length ≤ 20) (hb : ∀ k ∈ ch, k < row.length) (h : Q (.bool (stableOf row ch))) : WF w (n + 1) 147 [.list (row.map wordD), .list (natsD ch)] Q := by
  refine WF.of (xs := ["row", "choice"]) rfl rfl rfl rfl rfl rfl rfl ?_ rfl ?_ ?_ fun L => ?_
  · intro vs hv
    obtain ⟨v, u, rfl⟩ := len2 hv
    rfl
  · decide
  · intro L x hx; simp at hx; rcases hx with rfl | rfl
    · exact .inr ⟨rfl, rfl⟩
    · exact .inl rfl
  refine WS.cons (WX.for (WE.range_len rfl (by simp; omega) ⟨_, by rw [List.length_map]; exact items_nat (by omega), ?_⟩))
  refine LoopW.inv (fun r σ => (∃ a, a + r.length = row.length ∧ r = List.range' a r.length ∧ (stableOf row ch = r.all fun i => ch.any (· == i) || !(ch.filter (heldP row i)).isEmpty)) ∧ At σ "row" (.list (row.map wordD)) ∧ At σ "choice" (.list (natsD ch))) _ ?_ ?_ ⟨⟨0, by simp, by rw [List.range_eq_range']; simp, rfl⟩, rfl, rfl⟩
  · intro i r σ ⟨⟨a, e1, e2, e3⟩, g1, g2⟩
    rw [List.length_cons, List.range'_succ] at e2
    rw [List.length_cons] at e1
    injection e2 with e2 e2'
    subst e2
    have hi : i < row.length := by omega
    refine WG.name (.inr ⟨rfl, _, rfl, Nat.le_add_right L 2⟩) (WS.cons (WX.comp1 [("row", L + 1), ("place", L + 2)] [("row", .fz (.list (row.map wordD))), ("place", .fz (.int (i : Int)))] (.inl rfl) (WE.var (lk g2) ⟨_, rfl, fun C => ?_⟩) (fun C => ⟨⟨_, rfl, lk g1, rfl, rfl, rfl⟩, ⟨_, rfl, lookup_cons_self, rfl, rfl, rfl⟩, trivial⟩) ⟨rfl, rfl, trivial⟩))
    refine CompI.filt (f := fun i : Nat => D.int (i : Int)) (p := heldP row i) _ [] (fits (by simp; omega)) (fun k hk => WG.name (.inl rfl) ⟨sub1 rfl AllFz.nil.cons.cons, ?_⟩) ?_
    · have hk := hb k hk
      refine WT.boolop (WAll.or (WT.mono (B := fun b => b = ((row.getD k p0).1 == (row.getD i p0).1 && decide (k < i))) (WT.boolop ?_) fun b hb => ⟨fun e => ?_, fun e => WAll.or (WT.mono (B := fun b => b = ((row.getD k p0).2 == (row.getD i p0).2 && decide (i < k))) (WT.boolop ?_) fun c hc => ⟨fun e2 => ?_, fun e2 => WAll.or_nil ?_⟩)⟩))
      · refine WAll.and (WT.cmp (WE.word0 rfl rfl hk (by omega) (WE.word0 rfl rfl hi (by omega) (op_eq_str (Tru.bool ⟨fun hc => ?_, fun hc => ?_⟩)))))
        · rw [S_beq] at hc
          refine WAll.and (WT.cmp (WE.var rfl (WE.var rfl (op_lt_int (Tru.bool ⟨fun hd => WAll.and_nil ?_, fun hd => ?_⟩)))))
          · rw [hc]; have : decide (k < i) = true := by simpa using hd
            rw [this]; rfl
          · rw [hc]; have : decide (k < i) = false := by simpa using hd
            rw [this]; rfl
        · rw [S_beq] at hc
          rw [hc]; rfl
      · subst e; exact ⟨by rw [heldP, ← hb]; rfl, fun _ => WE.var rfl rfl⟩
      · refine WAll.and (WT.cmp (WE.word1 rfl rfl hk (by omega) (WE.word1 rfl rfl hi (by omega) (op_eq_str (Tru.bool ⟨fun hc => ?_, fun hc => ?_⟩)))))
        · rw [S_beq] at hc
          refine WAll.and (WT.cmp (WE.var rfl (WE.var rfl (op_gt_int (Tru.bool ⟨fun hd => WAll.and_nil ?_, fun hd => ?_⟩)))))
          · rw [hc]; have : decide (i < k) = true := by simpa using hd
            rw [this]; rfl
          · rw [hc]; have : decide (i < k) = false := by simpa using hd
            rw [this]; rfl
        · rw [S_beq] at hc
          rw [hc]; rfl
      · subst e2; exact ⟨by rw [heldP, ← hc, Bool.or_true], fun _ => WE.var rfl rfl⟩
      · subst e e2
        have : heldP row i k = false := by rw [heldP, ← hb, ← hc]; rfl
        exact ⟨this.symm, fun e => by rw [this] at e; cases e⟩
    rw [List.nil_append]
    have hfin : (ch.any (· == i) || !(ch.filter (heldP row i)).isEmpty) = true → ∃ a, a + r.length = row.length ∧ r = List.range' a r.length ∧ (stableOf row ch = r.all fun i => ch.any (· == i) || !(ch.filter (heldP row i)).isEmpty) := fun q =>
      ⟨i + 1, by omega, e2', by rw [e3, List.all_cons, q, Bool.true_and]⟩
    have hbad : (ch.any (· == i) || !(ch.filter (heldP row i)).isEmpty) = false → stableOf row ch = false := fun q => by rw [e3, List.all_cons, q, Bool.false_and]
    refine WS.cons (WX.ite (WT.boolop (WAll.and (WT.cmp (WE.var (lk lookup_cons_self) (WE.var (lk (lk g2)) ?_))))))
    refine op_notin_nats (Tru.bool ⟨fun hc => ?_, fun hc => ⟨(by intro h; cases h), fun _ => WS.nil (WS.nil ⟨hfin ?_, lk (lk g1), lk (lk g2)⟩)⟩⟩)
    · refine WAll.and (WT.cmp (WE.var lookup_cons_self (WE.list (WA.nil ⟨by decide, op_eq_nil (Tru.bool ⟨fun hd => WAll.and_nil ⟨fun _ => ?_, (by intro h; cases h)⟩, fun hd => ⟨(by intro h; cases h), fun _ => WS.nil (WS.nil ⟨hfin ?_, lk (lk g1), lk (lk g2)⟩)⟩⟩)⟩))))
      · refine WS.cons (WX.ret (WE.bool ?_))
        have : stableOf row ch = false := hbad (by
          have h1 : ch.any (· == i) = false := by simpa using hc
          have h2 : (ch.filter (heldP row i)).isEmpty = true := by simpa using hd
          rw [h1, h2]; rfl)
        rw [this] at h
        exact ⟨_, rfl, h⟩
      · have h2 : (ch.filter (heldP row i)).isEmpty = false := by simpa using hd
        rw [h2, Bool.not_false, Bool.or_true]
    · have h1 : ch.any (· == i) = true := by simpa using hc
      rw [h1, Bool.true_or]
  · intro σ ⟨⟨a, e1, e2, e3⟩, g1, g2⟩
    refine WS.cons (WX.ret (WE.bool ⟨_, rfl, ?_⟩))
    rw [e3] at h
    exact h
end
end Mine
end

section
open PySem PySem.W PyProof.Rows PySem.Calls
set_option Elab.async false
set_option linter.unusedVariables false
set_option maxRecDepth 100000
namespace Mine
section
variable {w : World} {n : Nat} {Q : D → Prop}
noncomputable def placesOf (row : Words) (nm : List Nat) : List Nat := (List.range row.length).filter fun i => (row.getD i p0).1 == nm
noncomputable def moreOne (row : Words) (nm : List Nat) (one : List Nat) : List (List Nat) := ((placesOf row nm).filter fun p => !(one.map fun k => (row.getD k p0).2).any (· == (row.getD p p0).2)).map fun p => one ++ [p]
noncomputable def stepC (row : Words) (cs : List (List Nat)) (nm : List Nat) : List (List Nat) := cs ++ cs.flatMap (moreOne row nm)
noncomputable def keyNames : List (List Nat) := [[97], [98, 55], [47, 99]]
noncomputable def choicesOf (row : Words) : List (List Nat) := keyNames.foldl (stepC row) [[]]
noncomputable abbrev choiceD (cs : List (List Nat)) : D := .list (cs.map fun one => .list (natsD one))
theorem qa : ("a" : Str) = S [97] := by decide +kernel
theorem qb : ("b7" : Str) = S [98, 55] := by decide +kernel
theorem qc : ("/c" : Str) = S [47, 99] := by decide +kernel
noncomputable abbrev CsOk (row : Words) (cs : List (List Nat)) (r : Nat) : Prop := cs.length * 8 ^ r ≤ 512 ∧ ∀ one ∈ cs, one.length + r ≤ 3 ∧ ∀ k ∈ one, k < row.length
theorem placesOf_lt {row : Words} {nm : List Nat} {k : Nat} (h : k ∈ placesOf row nm) : k < row.length := List.mem_range.mp (List.mem_filter.mp h).1
theorem placesOf_len (row : Words) (nm : List Nat) : (placesOf row nm).length ≤ row.length := by
  have := List.length_filter_le (fun i => (row.getD i p0).1 == nm) (List.range row.length)
  rw [List.length_range] at this
  exact this
theorem moreOne_len (row : Words) (nm one : List Nat) : (moreOne row nm one).length ≤ row.length := by
  unfold moreOne
  rw [List.length_map]
  exact Nat.le_trans (List.length_filter_le _ _) (placesOf_len _ _)
theorem more_len (row : Words) (nm : List Nat) : ∀ cs : List (List Nat), (cs.map fun one => (moreOne row nm one).length).sum ≤ cs.length * row.length
  | [] => Nat.zero_le _
  | a :: r => by
    have := more_len row nm r
    have := moreOne_len row nm a
    rw [List.map_cons, List.sum_cons, List.length_cons, Nat.succ_mul]; omega
theorem CsOk.step {row : Words} {cs : List (List Nat)} {r : Nat} {nm : List Nat} (hr : row.length ≤ 7) (h : CsOk row cs (r + 1)) : CsOk row (stepC row cs nm) r := by
  refine ⟨?_, fun one ho => ?_⟩
  · have h1 : (stepC row cs nm).length ≤ cs.length * 8 := by
      unfold stepC
      rw [List.length_append, List.length_flatMap]
      have := more_len row nm cs
      have : cs.length * row.length ≤ cs.length * 7 := Nat.mul_le_mul_left _ hr
      omega
    calc (stepC row cs nm).length * 8 ^ r ≤ cs.length * 8 * 8 ^ r := Nat.mul_le_mul_right _ h1
      _ = cs.length * 8 ^ (r + 1) := by rw [Nat.pow_succ, Nat.mul_assoc, Nat.mul_comm 8]
      _ ≤ 512 := h.1
  · unfold stepC at ho
    rcases List.mem_append.mp ho with ho | ho
    · have := h.2 one ho; exact ⟨by omega, this.2⟩
    · obtain ⟨o, h1, h2⟩ := List.mem_flatMap.mp ho
      obtain ⟨p, h3, rfl⟩ := List.mem_map.mp h2
      have := h.2 o h1
      refine ⟨by simp; omega, fun k hk => ?_⟩
      rcases List.mem_append.mp hk with hk | hk
      · exact this.2 k hk
      · rw [List.mem_singleton.mp hk]; exact placesOf_lt (List.mem_filter.mp h3).1
theorem choicesOf_ok {row : Words} (hr : row.length ≤ 7) : CsOk row (choicesOf row) 0 := by
  have h0 : CsOk row [[]] 3 := ⟨by decide, fun one ho => by rw [List.mem_singleton.mp ho]; exact ⟨by decide, nofun⟩⟩
  exact ((h0.step hr).step hr).step hr
set_option maxHeartbeats 8000000 in
theorem choices_spec {row : Words} (hr : row.length ≤ 7) (h : Q (choiceD (choicesOf row))) : WF w (n + 1) 142 [.list (row.map wordD)] Q := by
  refine WF.of (xs := ["row"]) rfl rfl rfl rfl rfl rfl rfl ?_ rfl ?_ ?_ fun L => ?_
  · intro vs hv
    obtain ⟨v, rfl⟩ := len1 hv
    rfl
  · decide
  · intro L x hx; simp at hx; subst hx; exact .inr ⟨rfl, rfl⟩
  refine WS.cons (WX.assign (.inl rfl) (WE.list (WA.cons (WE.list (WA.nil ⟨by decide, WA.nil ⟨by decide, ?_⟩⟩)))))
  refine WS.join (fun σ => At σ "choices" (choiceD (choicesOf row))) (WX.for (WE.list (WA.cons (WE.str (WA.cons (WE.str (WA.cons (WE.str (WA.nil ⟨size3, _, rfl, ?_⟩)))))))))
    fun σ hσ => WS.cons (WX.ret (WE.var hσ ⟨_, rfl, h⟩))
  rw [qa, qb, qc, show [D.str (S [97]), D.str (S [98, 55]), D.str (S [47, 99])] = keyNames.map fun l => .str (S l) from rfl]
  refine LoopW.inv (fun r σ => ∃ cs, r.foldl (stepC row) cs = choicesOf row ∧ At σ "choices" (choiceD cs) ∧ At σ "row" (.list (row.map wordD)) ∧ CsOk row cs r.length) _ ?_ (fun σ ⟨cs, e, g, _⟩ => ⟨rfl, by rw [← e]; exact g⟩) ⟨[[]], rfl, rfl, rfl, by decide, fun one ho => by rw [List.mem_singleton.mp ho]; exact ⟨by decide, nofun⟩⟩
  intro nm r σ ⟨cs, e1, g1, g2, ok⟩
  rw [List.foldl_cons] at e1
  have hcl : cs.length ≤ 512 := by
    have h1 := ok.1
    have : 1 ≤ 8 ^ (nm :: r).length := Nat.pow_pos (by decide)
    calc cs.length = cs.length * 1 := (Nat.mul_one _).symm
      _ ≤ cs.length * 8 ^ (nm :: r).length := Nat.mul_le_mul_left _ this
      _ ≤ 512 := h1
  refine WG.name (.inr ⟨rfl, _, rfl, Nat.le_add_right L 2⟩) (WS.cons (WX.assign (.inr ⟨rfl, _, rfl, Nat.le_add_right L 3⟩) (WE.comp1 [("row", L + 1), ("name", L + 2)] [("row", .fz (.list (row.map wordD))), ("name", .fz (.str (S nm)))] (WE.range_len (lk g2) (by simp; omega) ⟨_, by rw [List.length_map]; exact items_nat (by omega), fun C => ?_⟩) (fun C => ⟨⟨_, rfl, lk g2, rfl, rfl, rfl⟩, ⟨_, rfl, lookup_cons_self, rfl, rfl, rfl⟩, trivial⟩) ⟨rfl, rfl, trivial⟩)))
  refine CompI.filt (f := fun i : Nat => D.int (i : Int)) (p := fun i => (row.getD i p0).1 == nm) _ [] (fits (by simp; omega)) (fun i hi => WG.name (.inl rfl) ⟨sub1 rfl AllFz.nil.cons.cons, ?_⟩) ?_
  · have hi := List.mem_range.mp hi
    exact WT.cmp (WE.word0 rfl rfl hi (by omega) (WE.var rfl (op_eq_str (Tru.bool ⟨S_beq _ _, fun _ => WE.var rfl rfl⟩))))
  rw [List.nil_append]
  have hpl := placesOf_len row nm
  refine WS.cons (WX.comp2 [("row", L + 1), ("places", L + 3)] [("row", .fz (.list (row.map wordD))), ("places", .fz (.list (natsD (placesOf row nm))))] (.inl rfl) (WE.var (lk (lk g1)) ⟨_, rfl, fun C => ?_⟩) (fun C => ⟨⟨_, rfl, lk (lk g2), rfl, rfl, rfl⟩, ⟨_, rfl, lookup_cons_self, rfl, rfl, rfl⟩, trivial⟩) ⟨rfl, rfl, trivial⟩)
  refine CompI.bind (B := 99000) (F := fun one => (moreOne row nm one).map fun one => D.list (natsD one)) cs [] ?_ (fun one ho => WG.name (.inl rfl) ⟨sub1 rfl AllFz.nil.cons.cons, fun acc Q' ha hq => WE.var rfl ⟨_, rfl, ?_⟩⟩) ?_
  · have := more_len row nm cs
    have : cs.length * row.length ≤ 512 * 7 := Nat.mul_le_mul hcl hr
    simp only [List.length_map, List.length_nil]
    omega
  · have hone := ok.2 one ho
    simp only [List.length_map] at ha
    refine CompI.filt (f := fun p : Nat => D.list (natsD (one ++ [p]))) (p := fun p => !(one.map fun k => (row.getD k p0).2).any (· == (row.getD p p0).2)) _ acc (fits (by omega)) (fun p hp => WG.name (.inl rfl) ⟨sub1 rfl AllFz.nil.cons.cons.cons, ?_⟩) (by rw [moreOne, List.map_map] at hq; exact hq)
    have hp := placesOf_lt hp
    refine WT.cmp (WE.word1 rfl rfl hp (by omega) (WE.comp1 [("row", L + 1)] [("row", .fz (.list (row.map wordD)))] (WE.var rfl ⟨_, rfl, fun C2 => ?_⟩) (fun C2 => ⟨⟨_, rfl, rfl, rfl, rfl, rfl⟩, trivial⟩) ⟨rfl, trivial⟩))
    refine CompI.map (f := fun k => D.str (S (row.getD k p0).2)) one [] (fits (by simp; omega)) (fun k hk => WG.name (.inl rfl) ⟨sub1 rfl AllFz.nil.cons, WE.word1 rfl rfl (hone.2 k hk) (by omega) rfl⟩) ?_
    rw [List.nil_append, map_S]
    refine op_notin_strs (Tru.bool ⟨?_, fun _ => WE.binop (WE.var rfl (WE.list (WA.cons (WE.var rfl (WA.nil ⟨fits (by simp), op_add_list (fits (by simp; omega)) ?_⟩)))))⟩)
    · rw [List.any_map]
      congr 2
      funext y
      exact S_beq _ _
    · simp
  rw [List.nil_append]
  have em : cs.flatMap (fun one => (moreOne row nm one).map fun one => D.list (natsD one)) = (cs.flatMap (moreOne row nm)).map fun one => D.list (natsD one) := by
    rw [List.map_flatMap]
  rw [em]
  refine WS.cons (WX.assign (.inl rfl) (WE.binop (WE.var (lk (lk (lk g1))) (WE.var lookup_cons_self (op_add_list (fits ?_) (WS.nil ⟨stepC row cs nm, e1, ?_, lk (lk (lk (lk g2))), ok.step hr⟩))))))
  · have := more_len row nm cs
    have : cs.length * row.length ≤ 512 * 7 := Nat.mul_le_mul hcl hr
    simp only [List.length_map, List.length_flatMap]
    omega
  · show some _ = some _
    simp [stepC, choiceD]
end
end Mine
end

section
open PySem PySem.W PyProof.Rows PySem.Calls
set_option Elab.async false
set_option linter.unusedVariables false
set_option maxRecDepth 100000
namespace Mine
noncomputable def swapw (p : List Nat × List Nat) : List Nat × List Nat := ((mark p.2).reverse, (strip34 p.1).reverse)
noncomputable def blkOf (p : List Nat × List Nat) (sp : List Nat) : Blk := ⟨(mark p.2).reverse, (strip34 p.1).reverse, p.1.head? == some 34, sp⟩
noncomputable abbrev WordOk (p : List Nat × List Nat) : Prop := p.1 ∈ rawNames ∧ p.2 ∈ names
theorem raw_facts : ∀ k ∈ rawNames, k.reverse = (if (k.head? == some 34) = true then quo (strip34 k).reverse else (strip34 k).reverse) ∧ (strip34 k).reverse ∈ names ∧ k.length ≤ 4 ∧ strip34 k ∈ names := by decide +kernel
theorem mark_rev : ∀ v ∈ names, (mark v).reverse ∈ rawNames := by decide +kernel
theorem blk_txt {p : List Nat × List Nat} {sp : List Nat} (h : WordOk p) : (blkOf p sp).txt = (wordL p).reverse ++ sp := by
  have := (raw_facts _ h.1).1
  unfold Blk.txt Blk.val blkOf wordL
  simp only [List.reverse_append, List.reverse_cons, List.reverse_nil, List.nil_append, List.append_assoc, List.singleton_append, List.cons_append]
  rw [this]
theorem cat_append : ∀ a b : List Blk, cat (a ++ b) = cat a ++ cat b
  | [], b => rfl
  | x :: a, b => by rw [List.cons_append, cat, cat, cat_append a b, List.append_assoc]
noncomputable def rowB : Words → List Nat → List Blk
  | [], _ => []
  | [p], last => [blkOf p last]
  | p :: q :: r, last => blkOf p [32, 59] :: rowB (q :: r) last
noncomputable def listB : List Words → List Blk
  | [] => []
  | [ws] => rowB ws []
  | ws :: x :: r => rowB ws [32, 44] ++ listB (x :: r)
theorem inter_cons (sep a b : List Nat) (r : List (List Nat)) : List.intercalate sep (a :: b :: r) = a ++ sep ++ List.intercalate sep (b :: r) := by simp [List.intercalate]
theorem inter_cons2 (sep a : List Nat) {r : List (List Nat)} (h : r ≠ []) : List.intercalate sep (a :: r) = a ++ sep ++ List.intercalate sep r := by
  cases r with
  | nil => exact absurd rfl h
  | cons b r => exact inter_cons sep a b r
theorem inter_one (sep a : List Nat) : List.intercalate sep [a] = a := by simp [List.intercalate]
theorem cat_rowB {last : List Nat} : ∀ ws : Words, ws ≠ [] → (∀ p ∈ ws, WordOk p) → cat (rowB ws last) = List.intercalate [32, 59] (ws.map fun p => (wordL p).reverse) ++ last
  | [], h, _ => absurd rfl h
  | [p], _, h => by rw [rowB, cat, cat, blk_txt (h p (List.mem_singleton.mpr rfl)), List.map_singleton, inter_one, List.append_nil]
  | p :: q :: r, _, h => by
    have e : List.intercalate [32, 59] ((p :: q :: r).map fun p => (wordL p).reverse) = (wordL p).reverse ++ [32, 59] ++ List.intercalate [32, 59] ((q :: r).map fun p => (wordL p).reverse) := inter_cons _ _ _ _
    rw [rowB, cat, blk_txt (h p (List.mem_cons_self ..)), cat_rowB (q :: r) (by simp) (fun x hx => h x (List.mem_cons_of_mem _ hx)), e, List.append_assoc ((wordL p).reverse ++ [32, 59])]
theorem cat_listB : ∀ X : List Words, (∀ ws ∈ X, ws ≠ [] ∧ ∀ p ∈ ws, WordOk p) → cat (listB X) = List.intercalate [32, 44] (X.map fun ws => List.intercalate [32, 59] (ws.map fun p => (wordL p).reverse))
  | [], _ => rfl
  | [ws], h => by
    obtain ⟨h1, h2⟩ := h ws (List.mem_singleton.mpr rfl)
    rw [listB, cat_rowB ws h1 h2, List.map_singleton, inter_one, List.append_nil]
  | ws :: x :: r, h => by
    obtain ⟨h1, h2⟩ := h ws (List.mem_cons_self ..)
    have e : List.intercalate [32, 44] ((ws :: x :: r).map fun ws => List.intercalate [32, 59] (ws.map fun p => (wordL p).reverse)) = List.intercalate [32, 59] (ws.map fun p => (wordL p).reverse) ++ [32, 44] ++ List.intercalate [32, 44] ((x :: r).map fun ws => List.intercalate [32, 59] (ws.map fun p => (wordL p).reverse)) := inter_cons _ _ _ _
    rw [listB, cat_append, cat_rowB ws h1 h2, cat_listB (x :: r) (fun y hy => h y (List.mem_cons_of_mem _ hy)), e]
theorem inter_snoc (sep a : List Nat) : ∀ ys : List (List Nat), ys ≠ [] → List.intercalate sep (ys ++ [a]) = List.intercalate sep ys ++ sep ++ a
  | [], h => absurd rfl h
  | [b], _ => by rw [List.singleton_append, inter_cons, inter_one, inter_one]
  | b :: c :: r, _ => by
    have := inter_snoc sep a (c :: r) (by simp)
    rw [List.cons_append, List.cons_append, inter_cons, ← List.cons_append, this, inter_cons]
    simp [List.append_assoc]
theorem inter_rev (sep : List Nat) : ∀ ys : List (List Nat), (List.intercalate sep ys).reverse = List.intercalate sep.reverse (ys.reverse.map List.reverse)
  | [] => by simp [List.intercalate]
  | [a] => by simp [List.intercalate]
  | a :: b :: r => by
    have := inter_rev sep (b :: r)
    rw [inter_cons, List.reverse_append, List.reverse_append, this, List.reverse_cons (a := a), List.map_append, List.map_singleton, inter_snoc _ _ _ (by simp), List.append_assoc]
noncomputable def ne (ws : Words) : Bool := !ws.isEmpty
noncomputable def revL (ls : List Words) : List Words := (ls.filter (!·.isEmpty)).reverse.map List.reverse
noncomputable def nextB (ls : List Words) : List Blk := listB (revL ls)
theorem revL_ok {ls : List Words} (h : ∀ ws ∈ ls, ∀ p ∈ ws, WordOk p) : ∀ ws ∈ revL ls, ws ≠ [] ∧ ∀ p ∈ ws, WordOk p := by
  intro ws hw
  obtain ⟨x, hx, rfl⟩ := List.mem_map.mp hw
  have hx := List.mem_filter.mp (List.mem_reverse.mp hx)
  refine ⟨fun e => ?_, fun p hp => h x hx.1 p (List.mem_reverse.mp hp)⟩
  have : x = [] := by simpa using e
  rw [this] at hx
  exact absurd hx.2 (by decide)
theorem cat_nextB {ls : List Words} (h : ∀ ws ∈ ls, ∀ p ∈ ws, WordOk p) : cat (nextB ls) = (toldL ls).reverse := by
  unfold nextB
  rw [cat_listB _ (revL_ok h)]
  unfold toldL
  rw [inter_rev]
  unfold revL
  have e1 : sepC.reverse = [32, 44] := rfl
  rw [e1, List.map_map, ← List.map_reverse, List.map_map]
  congr 1
  apply List.map_congr_left
  intro ws hw
  show List.intercalate [32, 59] (ws.reverse.map fun p => (wordL p).reverse) = (List.intercalate sepW (ws.map wordL)).reverse
  rw [inter_rev]
  have e2 : sepW.reverse = [32, 59] := rfl
  rw [e2, ← List.map_reverse, List.map_map]
  rfl
theorem OkB_append : ∀ {a b : List Blk}, (∀ x ∈ a, x.rk ∈ rawNames ∧ x.v ∈ names ∧ x.sp ∈ seps) → OkB b → OkB (a ++ b)
  | [], b, _, h => h
  | x :: a, b, h, hb => by
    obtain ⟨h1, h2, h3⟩ := h x (List.mem_cons_self ..)
    exact ⟨h1, h2, .inl h3, OkB_append (fun y hy => h y (List.mem_cons_of_mem _ hy)) hb⟩
theorem blkOf_ok {p : List Nat × List Nat} {sp : List Nat} (h : WordOk p) : (blkOf p sp).rk ∈ rawNames ∧ (blkOf p sp).v ∈ names := ⟨mark_rev _ h.2, (raw_facts _ h.1).2.1⟩
theorem rowB_sep {last : List Nat} (hl : last ∈ seps) : ∀ ws : Words, (∀ p ∈ ws, WordOk p) → ∀ x ∈ rowB ws last, x.rk ∈ rawNames ∧ x.v ∈ names ∧ x.sp ∈ seps
  | [], _, x, hx => nomatch hx
  | [p], h, x, hx => by
    rw [rowB] at hx
    rw [List.mem_singleton.mp hx]
    have := blkOf_ok (sp := last) (h p (List.mem_singleton.mpr rfl))
    exact ⟨this.1, this.2, hl⟩
  | p :: q :: r, h, x, hx => by
    rw [rowB] at hx
    rcases List.mem_cons.mp hx with rfl | hx
    · have := blkOf_ok (sp := [32, 59]) (h p (List.mem_cons_self ..))
      exact ⟨this.1, this.2, show [32, 59] ∈ seps by decide⟩
    · exact rowB_sep hl (q :: r) (fun y hy => h y (List.mem_cons_of_mem _ hy)) x hx
theorem rowB_last : ∀ ws : Words, (∀ p ∈ ws, WordOk p) → OkB (rowB ws [])
  | [], _ => trivial
  | [p], h => by
    have := blkOf_ok (sp := []) (h p (List.mem_singleton.mpr rfl))
    exact ⟨this.1, this.2, .inr ⟨rfl, rfl⟩, trivial⟩
  | p :: q :: r, h => by
    have := blkOf_ok (sp := [32, 59]) (h p (List.mem_cons_self ..))
    exact ⟨this.1, this.2, .inl (show [32, 59] ∈ seps by decide), rowB_last (q :: r) fun y hy => h y (List.mem_cons_of_mem _ hy)⟩
theorem listB_ok : ∀ X : List Words, (∀ ws ∈ X, ∀ p ∈ ws, WordOk p) → OkB (listB X)
  | [], _ => trivial
  | [ws], h => rowB_last ws (h ws (List.mem_singleton.mpr rfl))
  | ws :: x :: r, h => OkB_append (rowB_sep (by decide) ws (h ws (List.mem_cons_self ..))) (listB_ok (x :: r) fun y hy => h y (List.mem_cons_of_mem _ hy))
theorem rowB_len {last : List Nat} : ∀ ws : Words, (rowB ws last).length = ws.length
  | [] => rfl
  | [p] => rfl
  | p :: q :: r => by rw [rowB, List.length_cons, rowB_len (q :: r)]; rfl
theorem listB_len : ∀ X : List Words, (listB X).length = X.flatten.length
  | [] => rfl
  | [ws] => by rw [listB, rowB_len]; simp
  | ws :: x :: r => by rw [listB, List.length_append, rowB_len, listB_len (x :: r)]; simp
theorem parse_append : ∀ (a b : List Blk) (res : List Words) (ps : Words), parse (a ++ b) res ps = parse b (parse a res ps).1 (parse a res ps).2
  | [], b, res, ps => rfl
  | x :: a, b, res, ps => by
    rw [List.cons_append, parse, parse]
    split <;> exact parse_append a b _ _
theorem parse_rowB {last : List Nat} : ∀ (ws : Words) (res : List Words) (ps : Words), ws ≠ [] → parse (rowB ws last) res ps = if last.contains 44 then (res ++ [ps ++ ws.map swapw], []) else (res, ps ++ ws.map swapw)
  | [], _, _, h => absurd rfl h
  | [p], res, ps, _ => by
    rw [rowB, parse]
    show (if last.contains 44 then _ else _) = _
    split <;> rfl
  | p :: q :: r, res, ps, _ => by
    rw [rowB, parse]
    show (if [32, 59].contains 44 then _ else _) = _
    rw [if_neg (by decide), parse_rowB (q :: r) _ _ (by simp)]
    simp [blkOf, swapw]
theorem parse_listB : ∀ (X : List Words) (res : List Words), X ≠ [] → (∀ ws ∈ X, ws ≠ []) → ∃ a b, parse (listB X) res [] = (res ++ a, b) ∧ b ≠ [] ∧ a ++ [b] = X.map (List.map swapw)
  | [], _, h, _ => absurd rfl h
  | [ws], res, _, h => by
    have h1 := h ws (List.mem_singleton.mpr rfl)
    rw [listB, parse_rowB ws _ _ h1, if_neg (by decide)]
    exact ⟨[], ws.map swapw, by simp, by simpa using h1, rfl⟩
  | ws :: x :: r, res, _, h => by
    have h1 := h ws (List.mem_cons_self ..)
    rw [listB, parse_append, parse_rowB ws _ _ h1, if_pos (by decide)]
    obtain ⟨a, b, e1, e2, e3⟩ := parse_listB (x :: r) (res ++ [[] ++ ws.map swapw]) (by simp) fun y hy => h y (List.mem_cons_of_mem _ hy)
    refine ⟨ws.map swapw :: a, b, ?_, e2, by rw [List.cons_append, e3]; rfl⟩
    show parse (listB (x :: r)) (res ++ [[] ++ ws.map swapw]) [] = _
    rw [e1]; simp
theorem split_nextB {ls : List Words} (h : ∀ ws ∈ ls, ∀ p ∈ ws, WordOk p) : splitL (nextB ls) = (revL ls).map (List.map swapw) := by
  unfold nextB
  have hr := revL_ok h
  generalize revL ls = X at *
  by_cases hX : X = []
  · subst hX; rfl
  · obtain ⟨a, b, e1, e2, e3⟩ := parse_listB X [] hX fun ws hw => (hr ws hw).1
    unfold splitL
    rw [e1]
    have : b.isEmpty = false := by
      cases b with
      | nil => exact absurd rfl e2
      | cons x y => rfl
    show (if b.isEmpty then _ else _) = _
    rw [this, if_neg (by decide), List.nil_append, e3]
end Mine
end

section
open PySem PySem.W PyProof.Rows PySem.Calls
set_option Elab.async false
set_option linter.unusedVariables false
set_option maxRecDepth 100000
namespace Mine
noncomputable abbrev LsOk (ls : List Words) : Prop := ls.length ≤ 8 ∧ ls.flatten.length ≤ 7 ∧ ∀ ws ∈ ls, ∀ p ∈ ws, WordOk p
theorem parse_ok : ∀ (bs : List Blk) (res : List Words) (ps : Words), OkB bs → (∀ ws ∈ res, ∀ p ∈ ws, WordOk p) → (∀ p ∈ ps, WordOk p) →
    (parse bs res ps).1.length ≤ res.length + bs.length ∧ (parse bs res ps).1.flatten.length + (parse bs res ps).2.length = res.flatten.length + ps.length + bs.length ∧ (∀ ws ∈ (parse bs res ps).1, ∀ p ∈ ws, WordOk p) ∧ ∀ p ∈ (parse bs res ps).2, WordOk p
  | [], res, ps, _, h1, h2 => ⟨Nat.le_refl _, by simp [parse], h1, h2⟩
  | b :: r, res, ps, ⟨o1, o2, _, o4⟩, h1, h2 => by
    have hw : ∀ p ∈ ps ++ [(b.rk, b.v)], WordOk p := fun p hp => by
      rcases List.mem_append.mp hp with hp | hp
      · exact h2 p hp
      · rw [List.mem_singleton.mp hp]; exact ⟨o1, o2⟩
    rw [parse]
    split
    · obtain ⟨a1, a2, a3, a4⟩ := parse_ok r (res ++ [ps ++ [(b.rk, b.v)]]) [] o4 (fun ws hws => by
        rcases List.mem_append.mp hws with hws | hws
        · exact h1 ws hws
        · rw [List.mem_singleton.mp hws]; exact hw) nofun
      refine ⟨?_, ?_, a3, a4⟩
      · simp only [List.length_append, List.length_cons, List.length_nil] at a1 ⊢; omega
      · rw [a2]; simp; omega
    · obtain ⟨a1, a2, a3, a4⟩ := parse_ok r res (ps ++ [(b.rk, b.v)]) o4 h1 hw
      refine ⟨?_, ?_, a3, a4⟩
      · simp only [List.length_cons]; omega
      · rw [a2]; simp; omega
theorem split_ok {bs : List Blk} (ok : OkB bs) (hl : bs.length ≤ 7) : LsOk (splitL bs) := by
  obtain ⟨a1, a2, a3, a4⟩ := parse_ok bs [] [] ok nofun nofun
  simp only [List.length_nil, List.flatten_nil, Nat.zero_add] at a1 a2
  unfold splitL
  dsimp only
  split
  · exact ⟨by omega, by omega, a3⟩
  · refine ⟨by simp; omega, ?_, fun ws hw => ?_⟩
    · rw [List.flatten_append, List.length_append]; simp only [List.flatten_cons, List.flatten_nil, List.append_nil]; omega
    · rcases List.mem_append.mp hw with hw | hw
      · exact a3 ws hw
      · rw [List.mem_singleton.mp hw]; exact a4
theorem leftGo_len (gone : List Nat) : ∀ (ls : List Words) (a : Nat), (leftGo gone a ls).length = ls.length ∧ (leftGo gone a ls).flatten.length ≤ ls.flatten.length ∧ ∀ ws ∈ leftGo gone a ls, ∀ p ∈ ws, ∃ x ∈ ls, p ∈ x
  | [], a => ⟨rfl, Nat.le_refl _, nofun⟩
  | ws :: r, a => by
    obtain ⟨h1, h2, h3⟩ := leftGo_len gone r (a + ws.length)
    rw [leftGo]
    refine ⟨by simp [h1], ?_, fun x hx p hp => ?_⟩
    · have := List.length_filter_le (fun k => !gone.any (· == a + k)) (List.range ws.length)
      rw [List.length_range] at this
      rw [List.flatten_cons, List.flatten_cons, List.length_append, List.length_append, List.length_map]
      omega
    · rcases List.mem_cons.mp hx with rfl | hx
      · obtain ⟨k, hk, rfl⟩ := List.mem_map.mp hp
        have hk := List.mem_range.mp (List.mem_filter.mp hk).1
        refine ⟨ws, List.mem_cons_self .., ?_⟩
        rw [List.getD_eq_getElem?_getD, List.getElem?_eq_getElem hk]
        exact List.getElem_mem _
      · obtain ⟨y, hy, hpy⟩ := h3 x hx p hp
        exact ⟨y, List.mem_cons_of_mem _ hy, hpy⟩
theorem left_ok {ls : List Words} (h : LsOk ls) : LsOk (leftOf ls) := by
  obtain ⟨h1, h2, h3⟩ := leftGo_len (goneOf (rowOf ls)) ls 0
  exact ⟨by rw [leftOf, h1]; exact h.1, Nat.le_trans h2 h.2.1, fun ws hw p hp => let ⟨x, hx, hpx⟩ := h3 ws hw p hp; h.2.2 x hx p hpx⟩
theorem ws_len {ls : List Words} (h : LsOk ls) {ws : Words} (hw : ws ∈ ls) : ws.length ≤ 7 := by
  have : ws.length ≤ ls.flatten.length := (List.sublist_flatten_of_mem hw).length_le
  have := h.2.1; omega
theorem ls_row1 {ls : List Words} (h : LsOk ls) : Row1 ls := ⟨by have := h.1; omega, by have := h.2.1; omega, fun ws hw => ⟨by have := ws_len h hw; omega, fun p hp => by
  obtain ⟨a, b⟩ := h.2.2 ws hw p hp
  have := (raw_facts _ a).2.2.1
  have := (names_len _ b).1
  omega⟩⟩
theorem ls_words {ls : List Words} (h : LsOk ls) : WordsOk ls := ⟨by have := h.1; omega, fun ws hw => ⟨by have := ws_len h hw; omega, fun p hp => by
  obtain ⟨a, b⟩ := h.2.2 ws hw p hp
  have := (raw_facts _ a).2.2.1
  exact ⟨by omega, b⟩⟩⟩
theorem cat_len : ∀ {bs : List Blk}, OkB bs → (cat bs).length ≤ 14 * bs.length
  | [], _ => Nat.le_refl _
  | b :: r, ⟨o1, o2, o3, o4⟩ => by
    have := cat_len o4
    have h1 := (raw_facts _ o1).2.2.1
    have h2 := (names_len _ o2).1
    have h3 : b.sp.length ≤ 5 := o3.elim (fun m => (seps_ch _ m).2.1) fun m => by rw [m.1]; decide
    have h4 : b.val.length ≤ 4 := by
      unfold Blk.val
      split
      · rw [quo_len]; omega
      · omega
    simp only [cat, Blk.txt, List.length_append, List.length_cons]
    omega
noncomputable def sideB (bs : List Blk) : List Blk := nextB (leftOf (splitL bs))
theorem sideB_ok {bs : List Blk} (ok : OkB bs) (hl : bs.length ≤ 7) : OkB (sideB bs) ∧ (sideB bs).length ≤ 7 ∧ cat (sideB bs) = (toldL (leftOf (splitL bs))).reverse := by
  have L := left_ok (split_ok ok hl)
  refine ⟨?_, ?_, cat_nextB L.2.2⟩
  · exact listB_ok _ fun ws hw => (revL_ok L.2.2 ws hw).2
  · show (listB _).length ≤ 7
    rw [listB_len]
    have : (revL (leftOf (splitL bs))).flatten.length ≤ (leftOf (splitL bs)).flatten.length := by
      unfold revL
      rw [List.length_flatten, List.length_flatten, List.map_map]
      have e : ((leftOf (splitL bs)).filter (!·.isEmpty)).reverse.map (List.length ∘ List.reverse) = (((leftOf (splitL bs)).filter (!·.isEmpty)).map List.length).reverse := by
        rw [← List.map_reverse]; apply List.map_congr_left; intro x _; simp
      rw [e, List.sum_reverse]
      generalize leftOf (splitL bs) = X
      induction X with
      | nil => exact Nat.le_refl _
      | cons a r ih =>
        rw [List.filter_cons]
        split
        · simp only [List.map_cons, List.sum_cons]; omega
        · simp only [List.map_cons, List.sum_cons]; omega
    have := L.2.1
    omega
theorem told_facts {bs : List Blk} (ok : OkB bs) (hl : bs.length ≤ 7) : (∀ c ∈ toldL (leftOf (splitL bs)), c < 128) ∧ (toldL (leftOf (splitL bs))).length ≤ 1000 := by
  obtain ⟨h1, h2, h3⟩ := sideB_ok ok hl
  refine ⟨fun c hc => cat_ch h1 c (by rw [h3]; exact List.mem_reverse.mpr hc), ?_⟩
  have := cat_len h1
  rw [h3, List.length_reverse] at this
  omega
noncomputable def loopB : Nat → List Blk → List Blk
  | 0, bs => bs
  | k + 1, bs => if cat (sideB (sideB bs)) == cat bs then sideB (sideB bs) else loopB k (sideB (sideB bs))
noncomputable def drawBlk (m : Nat) : Blk := ⟨if m / 9 % 2 = 1 then quo (kS (m % 3)) else kS (m % 3), vS (m / 3 % 3), decide (m / 18 % 2 = 1), sepL (m / 36)⟩
theorem drawBlk_txt (m : Nat) : (drawBlk m).txt = drawnL m := by
  unfold Blk.txt Blk.val drawBlk drawnL
  simp only [decide_eq_true_eq, List.append_assoc, List.singleton_append]
  rfl
theorem quo_raw {k : List Nat} (h : k ∈ names) : quo k ∈ rawNames := List.mem_append_right _ (List.mem_map.mpr ⟨k, h, rfl⟩)
theorem drawBlks_ok : ∀ ds : List Nat, (∀ m ∈ ds, m < 144) → OkB (ds.map drawBlk)
  | [], _ => trivial
  | m :: r, h => by
    have hm := h m (List.mem_cons_self ..)
    refine ⟨?_, vS_mem _, .inl ?_, drawBlks_ok r fun x hx => h x (List.mem_cons_of_mem _ hx)⟩
    · show (if m / 9 % 2 = 1 then quo (kS (m % 3)) else kS (m % 3)) ∈ rawNames
      split
      · exact quo_raw (kS_mem _)
      · exact List.mem_append_left _ (kS_mem _)
    · show sepL (m / 36) ∈ seps
      unfold sepL
      split <;> decide
theorem cat_draws : ∀ ds : List Nat, cat (ds.map drawBlk) = (ds.map drawnL).flatten
  | [] => rfl
  | m :: r => by rw [List.map_cons, cat, drawBlk_txt, cat_draws r]; rfl
/-- the draws of a script -/
noncomputable def drawsOf (l : List Int) : List Nat := ((l.take 60).take 7).map (fun x => (x.fmod 144).toNat) ++ [47, 18, 76, 136, 57, 87].drop (l.take 60).length
theorem drawsOf_lt {l : List Int} : ∀ m ∈ drawsOf l, m < 144 := by
  intro m hm
  rcases List.mem_append.mp hm with hm | hm
  · obtain ⟨x, _, rfl⟩ := List.mem_map.mp hm
    rw [Int.fmod_eq_emod_of_nonneg _ (by decide)]
    omega
  · have := List.mem_of_mem_drop hm
    simp at this; omega
theorem drawsOf_len {l : List Int} : (drawsOf l).length ≤ 7 ∧ 6 ≤ (drawsOf l).length := by
  simp [drawsOf]; omega
noncomputable def kv (m : Nat) : List Nat × List Nat := (kS (m % 3), vS (m / 3 % 3))
noncomputable def goodOf (row : Words) : List Nat := ((choicesOf row).filter (stableOf row)).flatten
noncomputable def keptOf (row : Words) (good : List Nat) (i : Nat) : Bool := !(good.filter fun k => (row.getD k p0).2 == (row.getD i p0).2 && decide (k ≤ i)).isEmpty && !(good.filter fun k => (row.getD k p0).1 == (row.getD i p0).1 && decide (i ≤ k)).isEmpty
noncomputable def wordS (p : List Nat × List Nat) : List Nat := mark p.1 ++ [61] ++ mark p.2
/-- lists of places, kept ones only -/
noncomputable def walkS (cm K : Nat → Bool) : List Nat → List (List Nat) → List Nat → List (List Nat)
  | [], front, last => front ++ [last]
  | p :: r, front, last => if cm p then walkS cm K r (front ++ [if K p then last ++ [p] else last]) [] else walkS cm K r front (if K p then last ++ [p] else last)
noncomputable def cmOf (ds : List Nat) (i : Nat) : Bool := ds.getD i 0 / 36 == 1
noncomputable def expL (row : Words) (segs : List (List Nat)) : List Nat := List.intercalate [32, 44] ((segs.filter (!·.isEmpty)).map fun seg => List.intercalate [32, 59] (seg.map fun i => wordS (row.getD i p0)))
noncomputable def wantL (ds : List Nat) : List Nat :=
  let row := ds.map kv
  expL row (walkS (cmOf ds) (keptOf row (goodOf row)) (List.range row.length) [] [])
end Mine
end

section
open PySem PySem.W PyProof.Rows PySem.Calls
set_option Elab.async false
set_option linter.unusedVariables false
set_option maxRecDepth 100000
namespace Mine
section
variable {w : World} {n : Nat} {Q : D → Prop}
theorem WSc.join {env : Env} {σ : Sto} {P : FlowD → Sto → Prop} {t : Stmt} {ts : List Stmt} (I : Sto → Prop) (h1 : WXc w n env σ t fun f σ' => f = .next ∧ I σ') (h2 : ∀ σ', I σ' → WSc w n env σ' ts P) : WSc w n env σ (t :: ts) P :=
  WSc.cons (h1.mono fun f σ' ⟨hf, hi⟩ => by subst hf; exact h2 σ' hi)
theorem drawn_len {m : Nat} (hm : m < 144) : (drawnL m).length ≤ 14 := by
  have h := cat_len (drawBlks_ok [m] fun x hx => by rw [List.mem_singleton.mp hx]; exact hm)
  simp only [List.map_cons, List.map_nil, cat, List.append_nil, drawBlk_txt, List.length_cons, List.length_nil] at h
  omega
theorem inter_nil : ∀ ys : List (List Nat), List.intercalate ([] : List Nat) ys = ys.flatten
  | [] => rfl
  | [a] => by simp [List.intercalate]
  | a :: b :: r => by rw [inter_cons, inter_nil (b :: r)]; simp
theorem kv_names (m : Nat) : (kv m).1 ∈ names ∧ (kv m).2 ∈ names := ⟨kS_mem _, vS_mem _⟩
noncomputable def itB (bs : List Blk) : Nat → List Blk
  | 0 => bs
  | s + 1 => sideB (itB bs s)
theorem itB_ok {bs : List Blk} (ok : OkB bs) (hl : bs.length ≤ 7) : ∀ s, OkB (itB bs s) ∧ (itB bs s).length ≤ 7
  | 0 => ⟨ok, hl⟩
  | s + 1 => let ⟨a, b⟩ := itB_ok ok hl s; ⟨(sideB_ok a b).1, (sideB_ok a b).2.1⟩
theorem twelve {j : Nat} (h : j < 12) : 12 - j = (12 - (j + 1)) + 1 := by rw [Nat.sub_add_eq, Nat.sub_add_cancel (Nat.sub_pos_of_lt h)]
set_option maxHeartbeats 8000000 in
theorem law_spec {l : List Int} (hl : l.length ≤ 63) (h : Q (.bool (cat (loopB 12 ((drawsOf l).map drawBlk)) == wantL (drawsOf l)))) : WFc w (n + 3) 152 [.list (l.map D.int)] Q := by
  refine WFc.body (xs := ["script"]) rfl rfl rfl rfl rfl rfl rfl ?_ rfl ?_ ?_ fun L => ?_
  · intro vs hv
    obtain ⟨v, rfl⟩ := len1 hv
    rfl
  · decide
  · intro L x hx; simp at hx; subst hx; exact .inl rfl
  refine WSc.cons (.of (WX.assign (.inl rfl) (WE.list_to (WE.var rfl ⟨_, rfl, fits (by rw [List.length_map]; exact Nat.le_trans hl (by decide)), WE.int ⟨60, rfl, ?_⟩⟩))))
  have hdl := drawsOf_len (l := l)
  have hdm := drawsOf_lt (l := l)
  refine WSc.cons (.of (WX.assign (.inl rfl) (WE.binop (WE.comp1 [] [] (WE.list_to (WE.var rfl ⟨_, rfl, fits (Nat.le_trans (List.length_take_le ..) (by decide)), WE.int ⟨7, rfl, ⟨((l.take 60).take 7).map D.int, by rw [← List.map_take, ← List.map_take]; rfl, fun C => ?_⟩⟩⟩)) (fun C => trivial) trivial))))
  refine CompI.map (f := fun x : Int => D.int (((x.fmod 144).toNat : Nat) : Int)) _ [] (fits (by rw [List.length_nil, Nat.zero_add]; exact Nat.le_trans (List.length_take_le ..) (by decide))) (fun x hx => WG.name (.inl rfl) ⟨sub_one, WE.binop (WE.var rfl (WE.int (op_mod_int (by decide) ?_)))⟩) ?_
  · rw [Int.fmod_eq_emod_of_nonneg _ (by decide), Int.toNat_of_nonneg (Int.emod_nonneg _ (by decide))]
  refine WE.list_from (WE.list (WA.cons (WE.int (WA.cons (WE.int (WA.cons (WE.int (WA.cons (WE.int (WA.cons (WE.int (WA.cons (WE.int (WA.nil ⟨by decide, _, rfl, by decide, WE.callB (id := "len") (WE.blt rfl (by kernel_rfl) rfl ⟨rfl, WA.cons (WE.var rfl (WA.nil (b_len_list (fits (Nat.le_trans (List.length_take_le ..) (by decide))) ⟨_, rfl, op_add_list (fits (Nat.le_trans (Nat.add_le_add (b := 7) (d := 6) (by rw [List.nil_append, List.length_map]; exact List.length_take_le ..) (by rw [List.length_drop]; exact Nat.sub_le 6 _)) (by decide))) ?_⟩)))⟩)⟩))))))))))))))
  have ed : ([] : List D) ++ ((l.take 60).take 7).map (fun x : Int => D.int (((x.fmod 144).toNat : Nat) : Int)) ++ [D.int 47, D.int 18, D.int 76, D.int 136, D.int 57, D.int 87].drop ((l.map D.int).take 60).length = natsD (drawsOf l) := by
    rw [List.nil_append, drawsOf, natsD, List.map_append, List.map_map, List.map_drop]
    congr 2
    simp
  rw [ed]
  clear ed
  generalize drawsOf l = ds at *
  refine WSc.cons (.of (WX.assign (.inl rfl) (WE.meth F.plainAttrs_str F.slot_str_join F.type_str_join (WE.str ⟨IsT.str, WA.cons (WE.comp1 [] [] (WE.var rfl ⟨_, rfl, fun C => ?_⟩) (fun C => trivial) trivial)⟩))))
  refine CompI.map (f := fun m => .str (S (drawnL m))) ds [] (fits (by rw [List.length_nil, Nat.zero_add]; exact Nat.le_trans hdl.1 (by decide))) (fun m hm => WG.name (.inl rfl) ⟨sub_one, WE.call (f := .ref 125) (WE.glob rfl (by kernel_rfl) ⟨rfl, WA.cons (WE.var rfl (WA.nil (drawn_spec (hdm m hm) rfl)))⟩) (by kernel_rfl)⟩) (WA.nil ?_)
  rw [List.nil_append, map_S, qe]
  refine joinL (by decide) (by rw [List.length_map]; exact Nat.le_trans hdl.1 (by decide)) (fun y hy => ?_) ?_
  · obtain ⟨m, hm, rfl⟩ := List.mem_map.mp hy
    exact Nat.le_trans (drawn_len (hdm m hm)) (by decide)
  rw [inter_nil, ← cat_draws]
  have ok0 := drawBlks_ok ds hdm
  have hb0 : (ds.map drawBlk).length ≤ 7 := by rw [List.length_map]; exact hdl.1
  generalize hbs : ds.map drawBlk = bs0 at *
  refine WSc.join (fun σ => At σ "text" (.str (S (cat (loopB 12 bs0)))) ∧ At σ "draws" (.list (natsD ds))) (WXc.for (WE.callT (T := "range") (WE.blt rfl (by kernel_rfl) rfl ⟨rfl, WA.cons (WE.int (WA.nil (b_range1 ⟨_, items_nat (m := 12) (by decide), ?_⟩)))⟩))) fun σ ⟨g1, g2⟩ => WSc.of ?_
  · refine range_suffixC (I := fun j σ => ∃ bs, OkB bs ∧ bs.length ≤ 7 ∧ At σ "text" (.str (S (cat bs))) ∧ At σ "draws" (.list (natsD ds)) ∧ loopB (12 - j) bs = loopB 12 bs0) ?_ (fun σ ⟨bs, _, _, g1, g2, e⟩ => ⟨rfl, by rw [← e]; exact g1, g2⟩) ⟨bs0, ok0, hb0, rfl, rfl, rfl⟩
    intro j σ hj hI
    obtain ⟨bs, ok, hb, g1, g2, e⟩ := hI
    have hs2 := itB_ok ok hb 2
    have z1 : ∀ s, (cat (itB bs s)).length ≤ 98 := fun s => by
      exact Nat.le_trans (cat_len (itB_ok ok hb s).1) (Nat.mul_le_mul_left 14 (itB_ok ok hb s).2)
    refine WG.name (.inl rfl) (WSc.cons (.of (WX.assign (.inl rfl) (WE.var (lk g1) ?_))))
    refine WSc.join (fun σ => At σ "text" (.str (S (cat (itB bs 2)))) ∧ At σ "draws" (.list (natsD ds)) ∧ At σ "old" (.str (S (cat bs)))) (WXc.for (WE.callT (T := "range") (WE.blt rfl (by kernel_rfl) rfl ⟨rfl, WA.cons (WE.int (WA.nil (b_range1 ⟨_, items_nat (m := 2) (by decide), ?_⟩)))⟩))) fun σ ⟨g1, g2, g3⟩ => WSc.of ?_
    · refine range_suffixC (I := fun s σ => At σ "text" (.str (S (cat (itB bs s)))) ∧ At σ "draws" (.list (natsD ds)) ∧ At σ "old" (.str (S (cat bs)))) ?_ (fun σ g => ⟨rfl, g⟩) ⟨lk (lk g1), lk (lk g2), rfl⟩
      intro s σ hs ⟨g1, g2, g3⟩
      obtain ⟨oks, hbs⟩ := itB_ok ok hb s
      have hz := z1 s
      have hx := (sideB_ok oks hbs).2.2
      have ht := told_facts oks hbs
      have L := left_ok (split_ok oks hbs)
      refine WG.name (.inl rfl) (WSc.cons (.of (WX.assign (.inl rfl) (WE.call (f := .ref 111) (WE.glob rfl (by kernel_rfl) ⟨rfl, WA.cons (WE.call (f := .ref 70) (WE.glob rfl (by kernel_rfl) ⟨rfl, WA.cons (WE.list (WA.cons (WE.var (lk g1) (WA.nil ⟨fits (by simp), WA.nil (split_spec oks (Nat.le_trans hz (by decide)) (Nat.le_trans hbs (by decide)) (WA.nil (left_spec (ls_row1 (split_ok oks hbs)) ?_)))⟩))))⟩) (by kernel_rfl))⟩) (by kernel_rfl)))))
      refine WSc.cons (.of (WX.assign (.inl rfl) (WE.call (f := .ref 87) (WE.glob rfl (by kernel_rfl) ⟨rfl, WA.cons (WE.var rfl (WA.nil (join_spec (ls_words L) ?_)))⟩) (by kernel_rfl))))
      refine WSc.cons (.of (WX.ite (WT.cmp (WE.var rfl (WE.call (f := .ref 137) (WE.glob rfl (by kernel_rfl) ⟨rfl, WA.cons (WE.var rfl (WA.nil (written_spec (ls_words L) (op_ne_str (Tru.bool ⟨fun hc => ?_, fun _ => WS.nil ?_⟩)))))⟩) (by kernel_rfl))))))
      · simp at hc
      refine WSc.cons (WXc.assign (.inl rfl) (WEc.call (f := .ref 106) (WE.glob rfl (by kernel_rfl) ⟨rfl, WA.cons (WE.var rfl (WA.nil (image_spec ht.1 ht.2 (WSc.nil ?_))))⟩) (by kernel_rfl)))
      refine ⟨?_, lk (lk (lk (lk g2))), lk (lk (lk (lk g3)))⟩
      rw [← hx]
      rfl
    · refine WS.cons (WX.ite (WT.cmp (WE.var g1 (WE.var g3 (op_eq_str (Tru.bool ⟨fun hc => WS.cons (WX.brk ⟨rfl, ?_, g2⟩), fun hc => WS.nil (WS.nil ⟨itB bs 2, hs2.1, hs2.2, g1, g2, ?_⟩)⟩))))))
      · rw [S_beq] at hc
        rw [← e, twelve hj, loopB, if_pos (show (cat (sideB (sideB bs)) == cat bs) = true from hc)]
        exact g1
      · rw [S_beq] at hc
        rw [← e, twelve hj, loopB, if_neg (by rw [show sideB (sideB bs) = itB bs 2 from rfl, hc]; decide)]
        rfl
  · have hr : (ds.map kv).length ≤ 7 := by rw [List.length_map]; exact hdl.1
    refine WS.cons (WX.assign (.inr ⟨rfl, _, rfl, Nat.le_add_right L 1⟩) (WE.comp1 [] [] (WE.var g2 ⟨_, rfl, fun C => ?_⟩) (fun C => trivial) trivial))
    refine CompI.map (f := fun m => wordD (kv m)) ds [] (fits (by rw [List.length_nil, Nat.zero_add]; exact Nat.le_trans hdl.1 (by decide))) (fun m hm => WG.name (.inl rfl) ⟨sub_one, WE.call (f := .ref 118) (WE.glob rfl (by kernel_rfl) ⟨rfl, WA.cons (WE.var rfl (WA.nil (names_spec (hdm m hm) rfl)))⟩) (by kernel_rfl)⟩) ?_
    have er : ([] : List D) ++ ds.map (fun m => wordD (kv m)) = (ds.map kv).map wordD := by rw [List.nil_append, List.map_map]; rfl
    rw [er]
    have hdr : ∀ i, i < (ds.map kv).length → ds[i]? = some (ds.getD i 0) := fun i hi => by
      rw [List.length_map] at hi
      rw [List.getD_eq_getElem?_getD, List.getElem?_eq_getElem hi]; rfl
    have hrn : ∀ i, i < (ds.map kv).length → ((ds.map kv).getD i p0).1 ∈ names ∧ ((ds.map kv).getD i p0).2 ∈ names := fun i hi => by
      rw [List.getD_eq_getElem?_getD, List.getElem?_eq_getElem hi, Option.getD_some, List.getElem_map]
      exact kv_names _
    have hwant : wantL ds = expL (ds.map kv) (walkS (cmOf ds) (keptOf (ds.map kv) (goodOf (ds.map kv))) (List.range (ds.map kv).length) [] []) := rfl
    rw [hwant] at h
    clear hwant er
    generalize ds.map kv = row at *
    have hc := choicesOf_ok hr
    have hcl : (choicesOf row).length ≤ 512 := by have := hc.1; simpa using this
    refine WS.cons (WX.comp2 [("row", L + 1)] [("row", .fz (.list (row.map wordD)))] (.inl rfl) (WE.call (f := .ref 142) (WE.glob rfl (by kernel_rfl) ⟨rfl, WA.cons (WE.var lookup_cons_self (WA.nil (choices_spec hr ⟨_, rfl, fun C => ?_⟩)))⟩) (by kernel_rfl)) (fun C => ⟨⟨_, rfl, lookup_cons_self, rfl, rfl, rfl⟩, trivial⟩) ⟨rfl, trivial⟩)
    have hgl : ∀ cs : List (List Nat), (∀ one ∈ cs, one.length ≤ 3) → (cs.map List.length).sum ≤ cs.length * 3 := by
      intro cs
      induction cs with
      | nil => intro _; exact Nat.le_refl _
      | cons a r ih =>
        intro hh
        have h1 := ih fun o ho => hh o (List.mem_cons_of_mem _ ho)
        have h2 := hh a (List.mem_cons_self ..)
        simp only [List.map_cons, List.sum_cons, List.length_cons, Nat.succ_mul]
        rw [Nat.add_comm]; exact Nat.add_le_add h1 h2
    have hge : ∀ cs : List (List Nat), (cs.map fun one => (natsD one).length) = cs.map List.length := fun cs => by
      apply List.map_congr_left; intro x _; exact List.length_map _
    refine CompI.bindF (B := 99000) (F := fun one => natsD one) (p := stableOf row) (choicesOf row) [] ?_ (fun one ho => WG.name (.inl rfl) ⟨sub1 rfl AllFz.nil.cons, ?_⟩) ?_
    · have := hgl _ fun o ho => (hc.2 o ho).1
      rw [hge, List.length_nil, Nat.zero_add]; exact Nat.le_trans this (Nat.le_trans (Nat.mul_le_mul_right 3 hcl) (by decide))
    · have hone := hc.2 one ho
      refine WT.val (WE.call (f := .ref 147) (WE.glob rfl (by kernel_rfl) ⟨rfl, WA.cons (WE.var rfl (WA.cons (WE.var rfl (WA.nil (stable_spec (Nat.le_trans hr (by decide)) (Nat.le_trans hone.1 (by decide)) hone.2 (Tru.bool ⟨rfl, fun acc Q' ha hq => WE.var rfl ⟨_, rfl, ?_⟩⟩))))))⟩) (by kernel_rfl))
      exact CompI.map (f := fun i : Nat => D.int (i : Int)) one acc (fits (by simp at ha; exact Nat.le_trans ha (by decide))) (fun k hk => WG.name (.inl rfl) ⟨sub1 rfl AllFz.nil.cons.cons, WE.var rfl rfl⟩) hq
    have eg : ([] : List D) ++ ((choicesOf row).filter (stableOf row)).flatMap (fun one => natsD one) = natsD (goodOf row) := by
      rw [List.nil_append, goodOf, natsD, List.map_flatten, List.flatMap_def]
    rw [eg]
    clear eg
    have hgk : ∀ k ∈ goodOf row, k < row.length := fun k hk => by
      obtain ⟨one, h1, h2⟩ := List.mem_flatten.mp hk
      exact (hc.2 one (List.mem_filter.mp h1).1).2 k h2
    have hgn : (goodOf row).length ≤ 1536 := by
      have h1 := hgl ((choicesOf row).filter (stableOf row)) fun o ho => (hc.2 o (List.mem_filter.mp ho).1).1
      have h2 := List.length_filter_le (stableOf row) (choicesOf row)
      unfold goodOf
      rw [List.length_flatten]
      exact Nat.le_trans h1 (Nat.mul_le_mul_right 3 (Nat.le_trans h2 hcl))
    generalize goodOf row = good at *
    refine WS.cons (WX.newlistL (.inl rfl) ?_)
    let strD : Nat → D := fun i => D.str (S (wordS (row.getD i p0)))
    let segD : List Nat → D := fun seg => D.list (seg.map strD)
    refine WS.join (fun σ => At σ "text" (.str (S (cat (loopB 12 bs0)))) ∧ ∃ front last, walkS (cmOf ds) (keptOf row good) (List.range row.length) [] [] = front ++ [last] ∧ σ.lookup ("lists" : Str) = some (.ownL (front.map segD) (last.map strD)) ∧ front.length ≤ 7 ∧ ∀ seg ∈ front ++ [last], seg.length ≤ 7 ∧ ∀ i ∈ seg, i < row.length) (WX.for (WE.range_len (lk (lk lookup_cons_self)) (by rw [List.length_map]; exact Nat.le_trans hr (by decide)) ⟨_, by rw [List.length_map]; exact items_nat (Nat.le_trans hr (by decide)), ?_⟩)) fun σ hI => ?_
    · refine LoopW.inv (fun r σ => ∃ a front last, a + r.length = row.length ∧ r = List.range' a r.length ∧ walkS (cmOf ds) (keptOf row good) (List.range row.length) [] [] = walkS (cmOf ds) (keptOf row good) r front last ∧ At σ "text" (.str (S (cat (loopB 12 bs0)))) ∧ At σ "draws" (.list (natsD ds)) ∧ At σ "row" (.list (row.map wordD)) ∧ At σ "good" (.list (natsD good)) ∧ σ.lookup ("lists" : Str) = some (.ownL (front.map segD) (last.map strD)) ∧ front.length ≤ a ∧ ∀ seg ∈ front ++ [last], seg.length ≤ a ∧ ∀ i ∈ seg, i < row.length) _ ?_ ?_ ⟨0, [], [], by simp, by rw [List.range_eq_range']; simp, rfl, lk (lk (lk g1)), lk (lk (lk g2)), rfl, rfl, rfl, Nat.le_refl _, fun seg hs => by rw [List.mem_singleton.mp hs]; exact ⟨Nat.le_refl _, nofun⟩⟩
      · intro i r σ hI
        obtain ⟨a, front, last, e1, e2, e3, g1, g2, g3, g4, g5, hf, hs⟩ := hI
        rw [List.length_cons, List.range'_succ] at e2
        rw [List.length_cons] at e1
        injection e2 with e2 e2'
        subst e2
        have hi : i < row.length := e1 ▸ Nat.lt_add_of_pos_right (Nat.succ_pos _)
        have hi7 : i ≤ 7 := Nat.le_trans (Nat.le_of_lt hi) hr
        have hfb := Nat.le_trans hf hi7
        obtain ⟨hn1, hn2⟩ := hrn i hi
        refine WG.name (.inr ⟨rfl, _, rfl, Nat.le_add_right L 2⟩) (WS.cons (WX.assign2 (WE.word (lk g3) lookup_cons_self hi (Nat.le_trans hr (by decide)) (WG.pair (.inr ⟨rfl, _, rfl, Nat.le_add_right L 3⟩) (.inr ⟨rfl, _, rfl, Nat.le_add_right L 4⟩) ?_))))
        refine WS.cons (WX.comp1 [("value", L + 4), ("row", L + 1), ("place", L + 2)] [("value", .fz (.str (S (row.getD i p0).2))), ("row", .fz (.list (row.map wordD))), ("place", .fz (.int (i : Int)))] (.inl rfl) (WE.var (lk (lk (lk g4))) ⟨_, rfl, fun C => ?_⟩) (fun C => ⟨⟨_, rfl, rfl, rfl, rfl, rfl⟩, ⟨_, rfl, lk (lk (lk g3)), rfl, rfl, rfl⟩, ⟨_, rfl, rfl, rfl, rfl, rfl⟩, trivial⟩) ⟨rfl, rfl, rfl, trivial⟩)
        refine CompI.filt (f := fun k : Nat => D.int (k : Int)) (p := fun k => (row.getD k p0).2 == (row.getD i p0).2 && decide (k ≤ i)) good [] (fits (by rw [List.length_nil, Nat.zero_add]; exact Nat.le_trans hgn (by decide))) (fun k hk => WG.name (.inl rfl) ⟨sub1 rfl AllFz.nil.cons.cons.cons, ?_⟩) ?_
        · refine WT.boolop (WAll.and (WT.cmp (WE.word1 rfl rfl (hgk k hk) (Nat.le_trans hr (by decide)) (WE.var rfl (op_eq_str (Tru.bool ⟨fun hc => WAll.and (WT.cmp (WE.var rfl (WE.var rfl (op_le_int (Tru.bool ⟨fun hd => WAll.and_nil ⟨?_, fun _ => WE.var rfl rfl⟩, fun hd => ⟨?_, fun ht => ?_⟩⟩))))), fun hc => ⟨?_, fun ht => ?_⟩⟩))))))
          · rw [S_beq] at hc
            have : decide (k ≤ i) = true := by simpa using hd
            rw [hc, this]; rfl
          · have : decide (k ≤ i) = false := by simpa using hd
            rw [this, Bool.and_false]
          · have : decide (k ≤ i) = false := by simpa using hd
            rw [this, Bool.and_false] at ht; cases ht
          · rw [S_beq] at hc; rw [hc]; rfl
          · rw [S_beq] at hc; rw [hc] at ht; cases ht
        rw [List.nil_append]
        refine WS.cons (WX.comp1 [("row", L + 1), ("place", L + 2), ("key", L + 3)] [("row", .fz (.list (row.map wordD))), ("place", .fz (.int (i : Int))), ("key", .fz (.str (S (row.getD i p0).1)))] (.inl rfl) (WE.var (lk (lk (lk (lk g4)))) ⟨_, rfl, fun C => ?_⟩) (fun C => ⟨⟨_, rfl, lk (lk (lk (lk g3))), rfl, rfl, rfl⟩, ⟨_, rfl, rfl, rfl, rfl, rfl⟩, ⟨_, rfl, rfl, rfl, rfl, rfl⟩, trivial⟩) ⟨rfl, rfl, rfl, trivial⟩)
        refine CompI.filt (f := fun k : Nat => D.int (k : Int)) (p := fun k => (row.getD k p0).1 == (row.getD i p0).1 && decide (i ≤ k)) good [] (fits (by rw [List.length_nil, Nat.zero_add]; exact Nat.le_trans hgn (by decide))) (fun k hk => WG.name (.inl rfl) ⟨sub1 rfl AllFz.nil.cons.cons.cons, ?_⟩) ?_
        · refine WT.boolop (WAll.and (WT.cmp (WE.word0 rfl rfl (hgk k hk) (Nat.le_trans hr (by decide)) (WE.var rfl (op_eq_str (Tru.bool ⟨fun hc => WAll.and (WT.cmp (WE.var rfl (WE.var rfl (op_ge_int (Tru.bool ⟨fun hd => WAll.and_nil ⟨?_, fun _ => WE.var rfl rfl⟩, fun hd => ⟨?_, fun ht => ?_⟩⟩))))), fun hc => ⟨?_, fun ht => ?_⟩⟩))))))
          · rw [S_beq] at hc
            have : decide (i ≤ k) = true := by simpa using hd
            rw [hc, this]; rfl
          · have : decide (i ≤ k) = false := by simpa using hd
            rw [this, Bool.and_false]
          · have : decide (i ≤ k) = false := by simpa using hd
            rw [this, Bool.and_false] at ht; cases ht
          · rw [S_beq] at hc; rw [hc]; rfl
          · rw [S_beq] at hc; rw [hc] at ht; cases ht
        rw [List.nil_append]
        have hlast := hs last (List.mem_append_right _ (List.mem_singleton.mpr rfl))
        have hK : keptOf row good i = (!(good.filter fun k => (row.getD k p0).2 == (row.getD i p0).2 && decide (k ≤ i)).isEmpty && !(good.filter fun k => (row.getD k p0).1 == (row.getD i p0).1 && decide (i ≤ k)).isEmpty) := rfl
        refine WS.join (fun σ => (At σ "text" (.str (S (cat (loopB 12 bs0)))) ∧ At σ "draws" (.list (natsD ds)) ∧ At σ "row" (.list (row.map wordD)) ∧ At σ "good" (.list (natsD good))) ∧ At σ "place" (.int (i : Int)) ∧ σ.lookup ("lists" : Str) = some (.ownL (front.map segD) ((if keptOf row good i then last ++ [i] else last).map strD))) (WX.ite (WT.boolop (WAll.and (WT.cmp (WE.var rfl (WE.list (WA.nil ⟨by decide, op_ne_nil (Tru.bool ⟨fun ha => WAll.and (WT.cmp (WE.var rfl (WE.list (WA.nil ⟨by decide, op_ne_nil (Tru.bool ⟨fun hb => WAll.and_nil ⟨fun _ => ?_, (by intro h; cases h)⟩, fun hb => ⟨(by intro h; cases h), fun _ => ?_⟩⟩)⟩)))), fun ha => ⟨(by intro h; cases h), fun _ => ?_⟩⟩)⟩))))))) fun σ hI => ?_
        · have hKt : keptOf row good i = true := by
            rw [hK]; simp at ha hb ⊢; exact ⟨ha, hb⟩
          have hm1 := mark_len hn1
          have hm2 := mark_len hn2
          refine WS.cons (WX.appendL (lk (lk (lk (lk (lk g5))))) (WE.binop (WE.binop (WE.call (f := .ref 132) (WE.glob rfl (by kernel_rfl) ⟨rfl, WA.cons (WE.var rfl (WA.nil (marked_spec hn1 (WE.str (op_add_str ?_ (WE.call (f := .ref 132) (WE.glob rfl (by kernel_rfl) ⟨rfl, WA.cons (WE.var rfl (WA.nil (marked_spec hn2 (op_add_str ?_ (WS.nil ⟨rfl, ⟨lk (lk (lk (lk (lk (lk g1))))), lk (lk (lk (lk (lk (lk g2))))), lk (lk (lk (lk (lk (lk g3))))), lk (lk (lk (lk (lk (lk g4)))))⟩, rfl, ?_⟩)))))⟩) (by kernel_rfl)))))))⟩) (by kernel_rfl)))) (fits (by simp; exact Nat.le_trans (Nat.le_trans hlast.1 hi7) (by decide))) (by simp; exact Nat.le_trans hfb (by decide)))
          · rw [q61, S_length, S_length]; exact fits (Nat.le_trans (Nat.add_le_add_right hm1 _) (by decide))
          · rw [q61, S_append, S_length, S_length]; exact fits (by rw [List.length_append]; exact Nat.le_trans (Nat.add_le_add (Nat.add_le_add_right hm1 _) hm2) (by decide))
          · rw [q61, S_append, S_append, hKt, if_pos rfl, List.map_append]
            rfl
        · have hKt : keptOf row good i = false := by
            rw [hK]
            have : (good.filter fun k => (row.getD k p0).1 == (row.getD i p0).1 && decide (i ≤ k)).isEmpty = true := by simpa using hb
            rw [this, Bool.not_true, Bool.and_false]
          refine WS.nil ⟨rfl, ⟨lk (lk (lk (lk (lk g1)))), lk (lk (lk (lk (lk g2)))), lk (lk (lk (lk (lk g3)))), lk (lk (lk (lk (lk g4))))⟩, rfl, ?_⟩
          rw [hKt]
          exact lk (lk (lk (lk (lk g5))))
        · have hKt : keptOf row good i = false := by
            rw [hK]
            have : (good.filter fun k => (row.getD k p0).2 == (row.getD i p0).2 && decide (k ≤ i)).isEmpty = true := by simpa using ha
            rw [this]; rfl
          refine WS.nil ⟨rfl, ⟨lk (lk (lk (lk (lk g1)))), lk (lk (lk (lk (lk g2)))), lk (lk (lk (lk (lk g3)))), lk (lk (lk (lk (lk g4))))⟩, rfl, ?_⟩
          rw [hKt]
          exact lk (lk (lk (lk (lk g5))))
        · obtain ⟨⟨g1, g2, g3, g4⟩, g6, g5⟩ := hI
          have hl' : ∀ i' ∈ (if keptOf row good i then last ++ [i] else last), i' < row.length := by
            intro x hx
            split at hx
            · rcases List.mem_append.mp hx with hx | hx
              · exact hlast.2 x hx
              · rw [List.mem_singleton.mp hx]; exact hi
            · exact hlast.2 x hx
          have hll : (if keptOf row good i then last ++ [i] else last).length ≤ i + 1 := by
            split
            · simp; exact hlast.1
            · exact Nat.le_succ_of_le hlast.1
          have hcm : cmOf ds i = (ds.getD i 0 / 36 == 1) := rfl
          rw [walkS] at e3
          generalize (if keptOf row good i then last ++ [i] else last) = last' at *
          refine WS.cons (WX.ite (WT.cmp (WE.binop (WE.item (WE.var g2 (WE.var g6 (.inl ⟨_, _, D.int (ds.getD i 0 : Nat), rfl, rfl, Int.natCast_nonneg i, Int.lt_of_le_of_lt (Int.ofNat_le.mpr hi7) (by decide), by rw [Int.toNat_natCast, List.getElem?_map, hdr i hi]; rfl, WE.int (op_div_int (by decide) (pyl _ (by decide)) (WE.int (op_eq_int (Tru.bool ⟨fun hb => ?_, fun hb => ?_⟩))))⟩)))))))
          · have hc : cmOf ds i = true := by
              rw [hcm]
              rw [show (36 : Int) = ((36 : Nat) : Int) from rfl, fdiv_nat] at hb
              have := eq_of_beq hb
              rw [beq_iff_eq]; exact Int.ofNat.inj this
            rw [hc, if_pos rfl] at e3
            refine WS.cons (WX.appendNew g5 (WS.nil (WS.nil ⟨i + 1, front ++ [last'], [], (Nat.add_right_comm i 1 r.length).trans e1, e2', e3, lk g1, lk g2, lk g3, lk g4, ?_, by rw [List.length_append]; exact Nat.succ_le_succ hf, fun seg hseg => ?_⟩)) (by simp; exact Nat.le_trans hfb (by decide)))
            · rw [lookup_cons_self, List.map_append]; rfl
            · rw [List.append_assoc] at hseg
              rcases List.mem_append.mp hseg with hseg | hseg
              · have := hs seg (List.mem_append_left _ hseg); exact ⟨Nat.le_succ_of_le this.1, this.2⟩
              · simp only [List.cons_append, List.nil_append, List.mem_cons, List.not_mem_nil, or_false] at hseg
                rcases hseg with rfl | rfl
                · exact ⟨hll, hl'⟩
                · exact ⟨Nat.zero_le _, nofun⟩
          · have hc : cmOf ds i = false := by
              rw [hcm]
              rw [show (36 : Int) = ((36 : Nat) : Int) from rfl, fdiv_nat] at hb
              rw [beq_eq_false_iff_ne] at hb ⊢
              intro q; exact hb (by rw [q]; rfl)
            rw [hc, if_neg (by decide)] at e3
            refine WS.nil (WS.nil ⟨i + 1, front, last', (Nat.add_right_comm i 1 r.length).trans e1, e2', e3, g1, g2, g3, g4, g5, Nat.le_succ_of_le hf, fun seg hseg => ?_⟩)
            rcases List.mem_append.mp hseg with hseg | hseg
            · have := hs seg (List.mem_append_left _ hseg); exact ⟨Nat.le_succ_of_le this.1, this.2⟩
            · rw [List.mem_singleton.mp hseg]; exact ⟨hll, hl'⟩
      · intro σ hI
        obtain ⟨a, front, last, e1, e2, e3, g1, g2, g3, g4, g5, hf, hs⟩ := hI
        have ha : a ≤ 7 := Nat.le_trans (Nat.le_trans (Nat.le_add_right ..) (Nat.le_of_eq e1)) hr
        refine ⟨rfl, g1, front, last, e3, g5, Nat.le_trans hf ha, fun seg hseg => ?_⟩
        have := hs seg hseg
        exact ⟨Nat.le_trans this.1 ha, this.2⟩
    · obtain ⟨g1, front, last, e, g3, hfl, hsg⟩ := hI
      refine WS.freezeL g3 (WS.cons (WX.ret (WE.cmp (WE.var (lk g1) (WE.meth F.plainAttrs_str F.slot_str_join F.type_str_join (WE.str ⟨IsT.str, WA.cons (WE.comp1 [] [] (WE.var lookup_cons_self ⟨_, rfl, fun C => ?_⟩) (fun C => trivial) trivial)⟩))))))
      have ef : front.map segD ++ [D.list (last.map strD)] = (front ++ [last]).map segD := by rw [List.map_append]; rfl
      rw [ef]
      rw [e] at h
      have hsl : (front ++ [last]).length ≤ 8 := by rw [List.length_append]; exact Nat.succ_le_succ hfl
      generalize front ++ [last] = segs at *
      have q592' : (" ;" : Str) = S [32, 59] := by decide +kernel
      have q442' : (" ," : Str) = S [32, 44] := by decide +kernel
      have wl : ∀ seg ∈ segs, ∀ i ∈ seg, (wordS (row.getD i p0)).length ≤ 9 := fun seg hseg i hi => by
        obtain ⟨a, b⟩ := hrn i ((hsg seg hseg).2 i hi)
        have ha := mark_len a
        have hb := mark_len b
        simp only [wordS, List.length_append]; exact Nat.add_le_add (Nat.add_le_add_right ha 1) hb
      refine CompI.filt (g := segD) (f := fun seg => .str (S (List.intercalate [32, 59] (seg.map fun i => wordS (row.getD i p0))))) (p := fun seg => !seg.isEmpty) segs [] (fits (by rw [List.length_nil, Nat.zero_add]; exact Nat.le_trans hsl (by decide))) (fun seg hseg => WG.name (.inl rfl) ⟨sub_one, ?_⟩) (WA.nil ?_)
      · refine WT.cmp (WE.var rfl (WE.list (WA.nil ⟨by decide, op_ne_nil (Tru.bool ⟨by simp, fun _ => ?_⟩)⟩)))
        refine WE.meth F.plainAttrs_str F.slot_str_join F.type_str_join (WE.str ⟨IsT.str, WA.cons (WE.var rfl (WA.nil ?_))⟩)
        rw [show segD seg = D.list (((seg.map fun i => wordS (row.getD i p0)).map S).map D.str) from congrArg D.list (map_S _ _), q592']
        refine joinL (by decide) (by rw [List.length_map]; exact Nat.le_trans (hsg seg hseg).1 (by decide)) (fun y hy => ?_) rfl
        obtain ⟨i, hi, rfl⟩ := List.mem_map.mp hy
        exact Nat.le_trans (wl seg hseg i hi) (by decide)
      · rw [List.nil_append, map_S, q442']
        refine joinL (by decide) ?_ (fun y hy => ?_) (op_eq_str ⟨_, rfl, ?_⟩)
        · have := List.length_filter_le (fun seg : List Nat => !seg.isEmpty) segs
          rw [List.length_map]; exact Nat.le_trans this (Nat.le_trans hsl (by decide))
        · obtain ⟨seg, hseg, rfl⟩ := List.mem_map.mp hy
          have hseg := (List.mem_filter.mp hseg).1
          refine Nat.le_trans (inter_len _ _) ?_
          have h7 := (hsg seg hseg).1
          have gen : ∀ sg : List Nat, (∀ i ∈ sg, (wordS (row.getD i p0)).length ≤ 9) → ((sg.map fun i => wordS (row.getD i p0)).map (·.length)).sum ≤ sg.length * 9 := by
            intro sg
            induction sg with
            | nil => intro _; exact Nat.le_refl _
            | cons p ws ih =>
              intro hw
              have h1 := ih fun p hp => hw p (List.mem_cons_of_mem _ hp)
              have h2 := hw p (List.mem_cons_self ..)
              simp only [List.map_cons, List.sum_cons, List.length_cons, Nat.succ_mul]
              rw [Nat.add_comm]; exact Nat.add_le_add h1 h2
          have := gen seg (wl seg hseg)
          rw [List.length_map]
          have : ([32, 59] : List Nat).length = 2 := rfl
          rw [this]
          omega
        · rw [S_beq]; exact h
end
end Mine
end

section
open PySem PySem.W PyProof.Rows PySem.Calls
set_option Elab.async false
set_option linter.unusedVariables false
set_option maxRecDepth 100000
namespace Mine
/-- p goes: a later first of its key has its value -/
noncomputable def bad (R : Nat → Nat → Bool) (kf vf : Nat → List Nat) (P : List Nat) (p : Nat) : Bool := P.any fun o => R p o && (vf o == vf p) && P.all fun x => !(R x o && (kf x == kf o))
theorem seg_filter {b : Nat → Bool} {wd : Nat → List Nat × List Nat} : ∀ (seg : List Nat) (a : Nat) (g : Nat → Bool), (∀ k (hk : k < seg.length), g (a + k) = b seg[k]) →
    ((List.range seg.length).filter fun k => !g (a + k)).map (fun k => (seg.map wd).getD k p0) = (seg.filter fun p => !b p).map wd
  | [], _, _, _ => rfl
  | p :: s, a, g, h => by
    have h0 := h 0 (by simp)
    have ih := seg_filter (b := b) (wd := wd) s (a + 1) g fun k hk => by
      have := h (k + 1) (by simp; omega)
      rw [show a + 1 + k = a + (k + 1) by omega, this]; rfl
    rw [List.length_cons, List.range_succ_eq_map, List.filter_cons, List.filter_cons, List.filter_map]
    have h0' : g (a + 0) = b p := h0
    rw [h0']
    have key : (((List.range s.length).filter ((fun k => !g (a + k)) ∘ Nat.succ)).map Nat.succ).map (fun k => ((p :: s).map wd).getD k p0) = (s.filter fun p => !b p).map wd := by
      rw [← ih, List.map_map]
      have e : ((fun k => !g (a + k)) ∘ Nat.succ) = fun k => !g (a + 1 + k) := by
        funext k; show (!g (a + (k + 1))) = _; rw [show a + 1 + k = a + (k + 1) by omega]
      rw [e]
      apply List.map_congr_left
      intro k _
      rfl
    cases hb : b p with
    | true => simpa using key
    | false =>
      simp only [Bool.not_false, if_true]
      exact congrArg (wd p :: ·) key
theorem leftGo_pos {b : Nat → Bool} {wd : Nat → List Nat × List Nat} {gone : List Nat} : ∀ (pl : List (List Nat)) (a : Nat), (∀ k (hk : k < pl.flatten.length), gone.any (· == a + k) = b pl.flatten[k]) →
    leftGo gone a (pl.map fun seg => seg.map wd) = pl.map fun seg => (seg.filter fun p => !b p).map wd
  | [], _, _ => rfl
  | seg :: r, a, h => by
    rw [List.map_cons, leftGo, List.map_cons, List.length_map]
    congr 1
    · exact seg_filter seg a (fun i => gone.any (· == i)) fun k hk => by
        rw [h k (by simp; omega)]
        congr 1
        simp only [List.flatten_cons]
        exact List.getElem_append_left hk
    · refine leftGo_pos r (a + seg.length) fun k hk => ?_
      rw [show a + seg.length + k = a + (seg.length + k) by omega, h (seg.length + k) (by simp; simp at hk; omega)]
      congr 1
      simp only [List.flatten_cons]
      rw [List.getElem_append_right (by omega)]
      congr 1; omega
theorem rowOf_pos (pl : List (List Nat)) (wd : Nat → List Nat × List Nat) : rowOf (pl.map fun seg => seg.map wd) = pl.flatten.map fun p => (strip34 (wd p).1, (wd p).2) := by
  unfold rowOf
  rw [← List.map_flatten, List.map_map]; rfl
theorem any_eq_mem {l : List Nat} {i : Nat} : l.any (· == i) = true ↔ i ∈ l := by
  rw [List.any_eq_true]
  constructor
  · rintro ⟨x, hx, e⟩; rw [beq_iff_eq] at e; rw [← e]; exact hx
  · intro h; exact ⟨i, h, by simp⟩
section
variable {R : Nat → Nat → Bool} {kf vf : Nat → List Nat} {P : List Nat}
theorem row_getD {i : Nat} (h : i < P.length) : (P.map fun p => (kf p, vf p)).getD i p0 = (kf P[i], vf P[i]) := by
  rw [List.getD_eq_getElem?_getD, List.getElem?_eq_getElem (by rw [List.length_map]; exact h), Option.getD_some, List.getElem_map]
theorem first_iff {o : Nat} : o ∈ firstOf (P.map fun p => (kf p, vf p)) ↔ ∃ h : o < P.length, ∀ x (hx : x < o), kf (P[x]'(by omega)) ≠ kf P[o] := by
  unfold firstOf
  rw [List.mem_filter, List.mem_range, List.length_map]
  constructor
  · rintro ⟨h, e⟩
    refine ⟨h, fun x hx q => ?_⟩
    rw [row_getD h] at e
    have : ((((P.map fun p => (kf p, vf p)).take o).map (·.1)).any (· == kf P[o])) = true := by
      rw [List.any_eq_true]
      refine ⟨kf (P[x]'(by omega)), ?_, by rw [q]; simp⟩
      rw [← List.map_take, List.map_map, List.mem_map]
      exact ⟨P[x]'(by omega), List.mem_take_iff_getElem.mpr ⟨x, by omega, rfl⟩, rfl⟩
    simp only [this] at e
    cases e
  · rintro ⟨h, hx⟩
    refine ⟨h, ?_⟩
    rw [row_getD h]
    rw [Bool.not_eq_true', List.any_eq_false]
    intro y hy
    rw [← List.map_take, List.map_map, List.mem_map] at hy
    obtain ⟨z, hz, rfl⟩ := hy
    obtain ⟨x, hxo, rfl⟩ := List.mem_take_iff_getElem.mp hz
    have := hx x (by omega)
    intro q
    exact this (by simpa using q)
theorem gone_iff {i : Nat} (hi : i < P.length) (hR : P.Pairwise fun a b => R a b = true) (irr : ∀ a, R a a = false) (asy : ∀ a b, R a b = true → R b a = false) : (goneOf (P.map fun p => (kf p, vf p))).any (· == i) = bad R kf vf P P[i] := by
  have ord : ∀ x y (hx : x < P.length) (hy : y < P.length), R P[x] P[y] = true ↔ x < y := by
    intro x y hx hy
    constructor
    · intro q
      rcases Nat.lt_trichotomy x y with h | h | h
      · exact h
      · subst h; rw [irr] at q; cases q
      · have := List.pairwise_iff_getElem.mp hR y x hy hx h
        rw [asy _ _ this] at q; cases q
    · intro h; exact List.pairwise_iff_getElem.mp hR x y hx hy h
  rw [Bool.eq_iff_iff, any_eq_mem]
  unfold goneOf bad
  rw [List.mem_filter, List.mem_range, List.length_map]
  constructor
  · rintro ⟨_, e⟩
    rw [Bool.not_eq_true'] at e
    obtain ⟨o, ho⟩ : ∃ o, o ∈ ((firstOf (P.map fun p => (kf p, vf p))).filter fun o => decide (i < o) && (((P.map fun p => (kf p, vf p)).getD o p0).2 == ((P.map fun p => (kf p, vf p)).getD i p0).2)) := by
      cases hx : ((firstOf (P.map fun p => (kf p, vf p))).filter fun o => decide (i < o) && (((P.map fun p => (kf p, vf p)).getD o p0).2 == ((P.map fun p => (kf p, vf p)).getD i p0).2)) with
      | nil => rw [hx] at e; cases e
      | cons a l => exact ⟨a, List.mem_cons_self ..⟩
    obtain ⟨h1, h2⟩ := List.mem_filter.mp ho
    obtain ⟨h3, h4⟩ := first_iff.mp h1
    rw [row_getD h3, row_getD hi] at h2
    simp only [Bool.and_eq_true, decide_eq_true_eq, beq_iff_eq] at h2
    rw [List.any_eq_true]
    refine ⟨P[o], List.getElem_mem _, ?_⟩
    simp only [Bool.and_eq_true, beq_iff_eq, List.all_eq_true, Bool.not_eq_true', Bool.and_eq_false_iff]
    refine ⟨⟨(ord i o hi h3).mpr h2.1, h2.2⟩, fun x hx => ?_⟩
    obtain ⟨j, hj, rfl⟩ := List.getElem_of_mem hx
    by_cases q : j < o
    · right
      rw [beq_eq_false_iff_ne]
      exact h4 j q
    · left
      cases hr : R P[j] P[o] with
      | false => rfl
      | true => exact absurd ((ord j o hj h3).mp hr) q
  · intro e
    refine ⟨hi, ?_⟩
    rw [List.any_eq_true] at e
    obtain ⟨po, hpo, e⟩ := e
    obtain ⟨o, ho, rfl⟩ := List.getElem_of_mem hpo
    simp only [Bool.and_eq_true, beq_iff_eq, List.all_eq_true, Bool.not_eq_true', Bool.and_eq_false_iff] at e
    obtain ⟨⟨e1, e2⟩, e3⟩ := e
    have hm : o ∈ ((firstOf (P.map fun p => (kf p, vf p))).filter fun o => decide (i < o) && (((P.map fun p => (kf p, vf p)).getD o p0).2 == ((P.map fun p => (kf p, vf p)).getD i p0).2)) := by
      refine List.mem_filter.mpr ⟨first_iff.mpr ⟨ho, fun x hx q => ?_⟩, ?_⟩
      · rcases e3 _ (List.getElem_mem (l := P) (n := x) (by omega)) with h | h
        · rw [(ord x o (by omega) ho).mpr hx] at h; cases h
        · rw [beq_eq_false_iff_ne] at h; exact h q
      · rw [row_getD ho, row_getD hi]
        simp only [Bool.and_eq_true, decide_eq_true_eq, beq_iff_eq]
        exact ⟨(ord i o hi ho).mp e1, e2⟩
    rw [Bool.not_eq_true']
    cases hx : ((firstOf (P.map fun p => (kf p, vf p))).filter fun o => decide (i < o) && (((P.map fun p => (kf p, vf p)).getD o p0).2 == ((P.map fun p => (kf p, vf p)).getD i p0).2)) with
    | nil => rw [hx] at hm; cases hm
    | cons a l => rfl
end
theorem leftOf_pos {R : Nat → Nat → Bool} {pl : List (List Nat)} {wd : Nat → List Nat × List Nat} (hR : pl.flatten.Pairwise fun a b => R a b = true) (irr : ∀ a, R a a = false) (asy : ∀ a b, R a b = true → R b a = false) :
    leftOf (pl.map fun seg => seg.map wd) = pl.map fun seg => (seg.filter fun p => !bad R (fun p => strip34 (wd p).1) (fun p => (wd p).2) pl.flatten p).map wd := by
  unfold leftOf
  rw [rowOf_pos]
  refine leftGo_pos pl 0 fun k hk => ?_
  rw [Nat.zero_add]
  exact gone_iff hk hR irr asy
end Mine
end

section
open PySem PySem.W PyProof.Rows PySem.Calls
set_option Elab.async false
set_option linter.unusedVariables false
set_option maxRecDepth 100000
namespace Mine
noncomputable def sel (pl : List (List Nat)) (K : Nat → Bool) : List (List Nat) := (pl.map (·.filter K)).filter (!·.isEmpty)
noncomputable def revG {α : Type} (ls : List (List α)) : List (List α) := (ls.filter (!·.isEmpty)).reverse.map List.reverse
theorem ne_flatten {α : Type} : ∀ ls : List (List α), (ls.filter (!·.isEmpty)).flatten = ls.flatten
  | [] => rfl
  | a :: r => by
    rw [List.filter_cons]
    cases a with
    | nil => exact ne_flatten r
    | cons x y => simp [ne_flatten r]
theorem filter_flatten (K : Nat → Bool) : ∀ ls : List (List Nat), (ls.map (·.filter K)).flatten = ls.flatten.filter K
  | [] => rfl
  | a :: r => by rw [List.map_cons, List.flatten_cons, List.flatten_cons, filter_flatten K r, List.filter_append]
theorem sel_flatten (pl : List (List Nat)) (K : Nat → Bool) : (sel pl K).flatten = pl.flatten.filter K := by
  unfold sel
  rw [ne_flatten, filter_flatten]
theorem sel_sel (a b : Nat → Bool) : ∀ pl : List (List Nat), sel (sel pl a) b = sel pl fun p => a p && b p
  | [] => rfl
  | s :: r => by
    have ih := sel_sel a b r
    have e : (s.filter a).filter b = s.filter fun p => a p && b p := by
      rw [List.filter_filter]; congr 1; funext p; exact Bool.and_comm _ _
    unfold sel at *
    simp only [List.map_cons, List.filter_cons]
    cases hx : (s.filter a).isEmpty with
    | true =>
      have h0 : s.filter a = [] := List.isEmpty_iff.mp hx
      rw [h0] at e
      have : (s.filter fun p => a p && b p).isEmpty = true := by rw [← e]; rfl
      simp only [Bool.not_true, this, Bool.false_eq_true, if_false]
      exact ih
    | false =>
      simp only [Bool.not_false, if_true, List.map_cons, List.filter_cons, e]
      rw [ih]
theorem revG_map {α β : Type} (f : α → β) (ls : List (List α)) : revG (ls.map (List.map f)) = (revG ls).map (List.map f) := by
  unfold revG
  rw [List.filter_map, ← List.map_reverse, List.map_map, List.map_map]
  have : ((fun x : List β => !x.isEmpty) ∘ List.map f) = fun x => !x.isEmpty := by
    funext x; cases x <;> rfl
  rw [this]
  apply List.map_congr_left
  intro x _
  simp
theorem revG_revG {K : Nat → Bool} (X : List (List Nat)) : revG ((revG X).map (·.filter K)) = sel X K := by
  unfold revG sel
  rw [List.map_map]
  have e1 : (fun x : List Nat => x.filter K) ∘ List.reverse = fun x => (x.filter K).reverse := by
    funext x; simp
  rw [e1]
  have e2 : ∀ Y : List (List Nat), (Y.map fun x => (x.filter K).reverse).filter (!·.isEmpty) = ((Y.map (·.filter K)).filter (!·.isEmpty)).map List.reverse := by
    intro Y
    induction Y with
    | nil => rfl
    | cons a r ih =>
      simp only [List.map_cons, List.filter_cons, List.isEmpty_reverse]
      split
      · rw [List.map_cons, ih]
      · exact ih
  rw [e2, ← List.map_reverse, List.map_map]
  have e3 : List.reverse ∘ List.reverse = (id : List Nat → List Nat) := by funext x; simp
  rw [e3, List.map_id, List.map_reverse, List.filter_reverse, List.reverse_reverse]
  have := sel_sel (fun _ => true) K X
  unfold sel at this
  simp only [Bool.true_and] at this
  rw [← this]
  congr 2
  have e4 : (fun x : List Nat => x.filter fun _ => true) = id := by funext x; simp
  rw [e4, List.map_id]
theorem revG_flatten (X : List (List Nat)) : (revG X).flatten = X.flatten.reverse := by
  unfold revG
  rw [← ne_flatten X]
  generalize X.filter (!·.isEmpty) = Y
  rw [List.map_reverse, ← List.reverse_flatten]
theorem bad_congr {R : Nat → Nat → Bool} {kf vf kf' vf' : Nat → List Nat} {P : List Nat} {p : Nat} (hp : p ∈ P) (hk : ∀ x ∈ P, ∀ y ∈ P, (kf x == kf y) = (kf' x == kf' y)) (hv : ∀ x ∈ P, ∀ y ∈ P, (vf x == vf y) = (vf' x == vf' y)) : bad R kf vf P p = bad R kf' vf' P p := by
  unfold bad
  rw [Bool.eq_iff_iff]
  simp only [List.any_eq_true, Bool.and_eq_true, List.all_eq_true]
  constructor
  · rintro ⟨o, ho, ⟨h1, h2⟩, h3⟩
    exact ⟨o, ho, ⟨h1, by rw [← hv o ho p hp]; exact h2⟩, fun x hx => by rw [← hk x hx o ho]; exact h3 x hx⟩
  · rintro ⟨o, ho, ⟨h1, h2⟩, h3⟩
    exact ⟨o, ho, ⟨h1, by rw [hv o ho p hp]; exact h2⟩, fun x hx => by rw [hk x hx o ho]; exact h3 x hx⟩
theorem bad_rev {R : Nat → Nat → Bool} {kf vf : Nat → List Nat} {P : List Nat} {p : Nat} : bad R kf vf P.reverse p = bad R kf vf P p := by
  unfold bad
  rw [List.any_reverse]
  congr 1
  funext o
  rw [List.all_reverse]
theorem swap2a : ∀ k ∈ rawNames, (mark (strip34 k).reverse).reverse = mark (strip34 k) := by decide +kernel
theorem swap2b : ∀ v ∈ names, (strip34 (mark v).reverse).reverse = v ∧ strip34 (mark v).reverse = v.reverse ∧ strip34 (mark v) = v := by decide +kernel
theorem swapw2 {x : List Nat × List Nat} (h : WordOk x) : swapw (swapw x) = (mark (strip34 x.1), x.2) := by
  unfold swapw
  rw [swap2a _ h.1, (swap2b _ h.2).1]
theorem wordL_swap {x : List Nat × List Nat} (h : WordOk x) : (wordL (swapw x)).reverse = wordS (strip34 x.1, x.2) := by
  unfold wordL swapw wordS
  simp only [List.reverse_append, List.reverse_reverse, List.reverse_cons, List.reverse_nil, List.nil_append]
  rw [swap2a _ h.1]
  simp
noncomputable def ltB (a b : Nat) : Bool := decide (a < b)
noncomputable def gtB (a b : Nat) : Bool := decide (b < a)
section
variable (n : Nat) (kf vf : Nat → List Nat)
noncomputable def PK (K : Nat → Bool) : List Nat := (List.range n).filter K
noncomputable def k0 (K : Nat → Bool) (p : Nat) : Bool := K p && !bad ltB kf vf (PK n K) p
noncomputable def k1 (K : Nat → Bool) (p : Nat) : Bool := K p && !bad gtB vf kf (PK n K) p
noncomputable def turnK (K : Nat → Bool) : Nat → Bool := k1 n kf vf (k0 n kf vf K)
end
theorem sel_congr {pl : List (List Nat)} {K K' : Nat → Bool} (h : ∀ p ∈ pl.flatten, K p = K' p) : sel pl K = sel pl K' := by
  unfold sel
  congr 1
  apply List.map_congr_left
  intro seg hs
  apply List.filter_congr
  intro p hp
  exact h p (List.mem_flatten.mpr ⟨seg, hs, hp⟩)
/-- one side: what is left, and what is split next -/
theorem side_step {R : Nat → Nat → Bool} {bs : List Blk} {pl : List (List Nat)} {wd : Nat → List Nat × List Nat} {kf vf : Nat → List Nat} (ok : OkB bs) (hb : bs.length ≤ 7) (hs : splitL bs = pl.map (List.map wd))
    (hR : pl.flatten.Pairwise fun a b => R a b = true) (irr : ∀ a, R a a = false) (asy : ∀ a b, R a b = true → R b a = false)
    (hk : ∀ x ∈ pl.flatten, ∀ y ∈ pl.flatten, (strip34 (wd x).1 == strip34 (wd y).1) = (kf x == kf y)) (hv : ∀ x ∈ pl.flatten, ∀ y ∈ pl.flatten, ((wd x).2 == (wd y).2) = (vf x == vf y)) :
    revL (leftOf (splitL bs)) = (revG (pl.map (·.filter fun p => !bad R kf vf pl.flatten p))).map (List.map wd) ∧ splitL (sideB bs) = (revG (pl.map (·.filter fun p => !bad R kf vf pl.flatten p))).map (List.map (swapw ∘ wd)) ∧
    cat (sideB bs) = List.intercalate [32, 44] ((revG (pl.map (·.filter fun p => !bad R kf vf pl.flatten p))).map fun seg => List.intercalate [32, 59] (seg.map fun p => (wordL (wd p)).reverse)) := by
  have L := left_ok (split_ok ok hb)
  have e1 : revL (leftOf (splitL bs)) = (revG (pl.map (·.filter fun p => !bad R kf vf pl.flatten p))).map (List.map wd) := by
    rw [hs, leftOf_pos hR irr asy, ← revG_map, List.map_map]
    show revG _ = revG _
    congr 1
    apply List.map_congr_left
    intro seg hseg
    show (seg.filter _).map wd = (seg.filter _).map wd
    congr 1
    apply List.filter_congr
    intro p hp
    have hp' := List.mem_flatten.mpr ⟨seg, hseg, hp⟩
    rw [bad_congr hp' hk hv]
  refine ⟨e1, ?_, ?_⟩
  · show splitL (nextB _) = _
    rw [split_nextB L.2.2, e1, List.map_map]
    apply List.map_congr_left
    intro seg _
    exact List.map_map
  · show cat (listB (revL _)) = _
    rw [cat_listB _ (revL_ok L.2.2), e1, List.map_map]
    congr 1
    apply List.map_congr_left
    intro seg _
    show List.intercalate [32, 59] ((seg.map wd).map fun p => (wordL p).reverse) = _
    rw [List.map_map]; rfl
theorem beq_rev (a b : List Nat) : (a.reverse == b.reverse) = (a == b) := by
  rw [Bool.eq_iff_iff, beq_iff_eq, beq_iff_eq, List.reverse_inj]
theorem range_pair (n : Nat) (K : Nat → Bool) : (PK n K).Pairwise fun a b => ltB a b = true := by
  unfold PK
  refine List.Pairwise.filter _ ?_
  refine List.pairwise_lt_range.imp fun h => ?_
  simpa [ltB] using h
theorem turn_step {bs : List Blk} {segs : List (List Nat)} {n : Nat} {K : Nat → Bool} {wd : Nat → List Nat × List Nat} {row : Words} (hseg : segs.flatten = List.range n) (ok : OkB bs) (hb : bs.length ≤ 7) (hs : splitL bs = (sel segs K).map (List.map wd))
    (hw : ∀ p, p < n → WordOk (wd p) ∧ strip34 (wd p).1 = (row.getD p p0).1 ∧ (wd p).2 = (row.getD p p0).2) :
    splitL (sideB (sideB bs)) = (sel segs (turnK n (fun p => (row.getD p p0).1) (fun p => (row.getD p p0).2) K)).map (List.map fun p => (mark (row.getD p p0).1, (row.getD p p0).2)) ∧
    cat (sideB (sideB bs)) = expL row (segs.map (·.filter (turnK n (fun p => (row.getD p p0).1) (fun p => (row.getD p p0).2) K))) := by
  let kf : Nat → List Nat := fun p => (row.getD p p0).1
  let vf : Nat → List Nat := fun p => (row.getD p p0).2
  have f0 : (sel segs K).flatten = PK n K := by rw [sel_flatten, hseg]; rfl
  have lt_n : ∀ {K : Nat → Bool} {p : Nat}, p ∈ PK n K → p < n := fun h => List.mem_range.mp (List.mem_filter.mp h).1
  have s0 := side_step (R := ltB) (kf := kf) (vf := vf) ok hb hs (by rw [f0]; exact range_pair n K) (by simp [ltB]) (by intro a b h; simp [ltB] at h ⊢; omega)
    (fun x hx y hy => by rw [f0] at hx hy; rw [(hw x (lt_n hx)).2.1, (hw y (lt_n hy)).2.1]) (fun x hx y hy => by rw [f0] at hx hy; rw [(hw x (lt_n hx)).2.2, (hw y (lt_n hy)).2.2])
  obtain ⟨_, a2, _⟩ := s0
  obtain ⟨ok1, hb1, _⟩ := sideB_ok ok hb
  have eX : revG ((sel segs K).map (·.filter fun p => !bad ltB kf vf (sel segs K).flatten p)) = revG (sel segs (k0 n kf vf K)) := by
    have : sel (sel segs K) (fun p => !bad ltB kf vf (sel segs K).flatten p) = sel segs (k0 n kf vf K) := by
      rw [sel_sel]
      rw [f0]
      rfl
    have h2 : revG ((sel segs K).map (·.filter fun p => !bad ltB kf vf (sel segs K).flatten p)) = (sel (sel segs K) (fun p => !bad ltB kf vf (sel segs K).flatten p)).reverse.map List.reverse := rfl
    rw [h2, this]
    unfold revG
    congr 2
    unfold sel
    rw [List.filter_filter]
    congr 1
    funext x
    simp
  rw [eX] at a2
  have f1 : (revG (sel segs (k0 n kf vf K))).flatten = (PK n (k0 n kf vf K)).reverse := by rw [revG_flatten, sel_flatten, hseg]; rfl
  have hw1 : ∀ p, p < n → WordOk (swapw (wd p)) ∧ strip34 (swapw (wd p)).1 = (vf p).reverse ∧ (swapw (wd p)).2 = (kf p).reverse := fun p hp => by
    obtain ⟨h1, h2, h3⟩ := hw p hp
    refine ⟨⟨mark_rev _ h1.2, (raw_facts _ h1.1).2.1⟩, ?_, ?_⟩
    · show strip34 (mark (wd p).2).reverse = _
      rw [(swap2b _ h1.2).2.1, h3]
    · show (strip34 (wd p).1).reverse = _
      rw [h2]
  have m1 : ∀ {x}, x ∈ (revG (sel segs (k0 n kf vf K))).flatten → x < n := fun {x} hx => by rw [f1] at hx; exact lt_n (List.mem_reverse.mp hx)
  have s1 := side_step (R := gtB) (kf := vf) (vf := kf) ok1 hb1 a2 (by
      rw [f1, List.pairwise_reverse]
      refine (range_pair n _).imp fun h => ?_
      simpa [ltB, gtB] using h) (by simp [gtB]) (by intro a b h; simp [gtB] at h ⊢; omega)
    (fun x hx y hy => by show (strip34 (swapw (wd x)).1 == strip34 (swapw (wd y)).1) = _; rw [(hw1 x (m1 hx)).2.1, (hw1 y (m1 hy)).2.1, beq_rev])
    (fun x hx y hy => by show ((swapw (wd x)).2 == (swapw (wd y)).2) = _; rw [(hw1 x (m1 hx)).2.2, (hw1 y (m1 hy)).2.2, beq_rev])
  obtain ⟨_, b2, b3⟩ := s1
  have eY : revG ((revG (sel segs (k0 n kf vf K))).map (·.filter fun p => !bad gtB vf kf (revG (sel segs (k0 n kf vf K))).flatten p)) = sel segs (turnK n kf vf K) := by
    rw [revG_revG, sel_sel, f1]
    apply sel_congr
    intro p _
    rw [bad_rev]; rfl
  rw [eY] at b2 b3
  have mY : ∀ seg ∈ sel segs (turnK n kf vf K), ∀ p ∈ seg, p < n := fun seg h1 p h2 => by
    have : p ∈ (sel segs (turnK n kf vf K)).flatten := List.mem_flatten.mpr ⟨seg, h1, h2⟩
    rw [sel_flatten, hseg] at this
    exact List.mem_range.mp (List.mem_filter.mp this).1
  constructor
  · rw [b2]
    apply List.map_congr_left
    intro seg hsg
    apply List.map_congr_left
    intro p hp
    have := hw p (mY seg hsg p hp)
    show swapw (swapw (wd p)) = _
    rw [swapw2 this.1, this.2.1, this.2.2]
  · rw [b3]
    show _ = List.intercalate [32, 44] (((segs.map (·.filter (turnK n kf vf K))).filter (!·.isEmpty)).map fun seg => List.intercalate [32, 59] (seg.map fun i => wordS (row.getD i p0)))
    congr 1
    apply List.map_congr_left
    intro seg hsg
    congr 1
    apply List.map_congr_left
    intro p hp
    have := hw p (mY seg hsg p hp)
    show (wordL (swapw (wd p))).reverse = _
    rw [wordL_swap this.1, this.2.1, this.2.2]
end Mine
end

section
open PySem PySem.W PyProof.Rows PySem.Calls
set_option Elab.async false
set_option linter.unusedVariables false
set_option maxRecDepth 100000
namespace Mine
theorem walkS_filter {cm K : Nat → Bool} : ∀ (r : List Nat) (f : List (List Nat)) (l : List Nat), walkS cm K r (f.map (·.filter K)) (l.filter K) = (walkS cm (fun _ => true) r f l).map (·.filter K)
  | [], f, l => by simp [walkS]
  | p :: r, f, l => by
    have e : (if K p then l.filter K ++ [p] else l.filter K) = (l ++ [p]).filter K := by
      rw [List.filter_append]
      cases h : K p <;> simp [h]
    rw [walkS, walkS, e]
    simp only [if_true]
    split
    · have := walkS_filter (cm := cm) (K := K) r (f ++ [l ++ [p]]) []
      rw [← this, List.map_append]; rfl
    · exact walkS_filter r f (l ++ [p])
theorem walkS_flatten {cm : Nat → Bool} : ∀ (r : List Nat) (f : List (List Nat)) (l : List Nat), (walkS cm (fun _ => true) r f l).flatten = f.flatten ++ l ++ r
  | [], f, l => by simp [walkS]
  | p :: r, f, l => by
    rw [walkS]
    simp only [if_true]
    split
    · rw [walkS_flatten r _ _]; simp
    · rw [walkS_flatten r _ _]; simp
noncomputable def segsOf (ds : List Nat) : List (List Nat) := walkS (cmOf ds) (fun _ => true) (List.range ds.length) [] []
theorem segs_flatten (ds : List Nat) : (segsOf ds).flatten = List.range ds.length := by
  unfold segsOf; rw [walkS_flatten]; simp
theorem want_segs (ds : List Nat) : wantL ds = expL (ds.map kv) ((segsOf ds).map (·.filter (keptOf (ds.map kv) (goodOf (ds.map kv))))) := by
  unfold wantL segsOf
  dsimp only
  congr 1
  rw [List.length_map, ← walkS_filter]; rfl
theorem sep_comma (k : Nat) : (sepL k).contains 44 = (k == 1) := by
  unfold sepL
  match k with
  | 0 => rfl
  | 1 => rfl
  | 2 => rfl
  | k + 3 => 
    show [59, 32, 61, 32, 59].contains 44 = _
    have : (k + 3 == 1) = false := by rw [beq_eq_false_iff_ne]; omega
    rw [this]; rfl
noncomputable def wd0 (ds : List Nat) (i : Nat) : List Nat × List Nat := ((drawBlk (ds.getD i 0)).rk, (drawBlk (ds.getD i 0)).v)
theorem parse_walk {ds : List Nat} : ∀ (r : List Nat) (f : List (List Nat)) (l : List Nat), (∀ x ∈ f, x ≠ []) →
    ∃ A B, walkS (cmOf ds) (fun _ => true) r f l = A ++ [B] ∧ (∀ x ∈ A, x ≠ []) ∧ parse (r.map fun i => drawBlk (ds.getD i 0)) (f.map (List.map (wd0 ds))) (l.map (wd0 ds)) = (A.map (List.map (wd0 ds)), B.map (wd0 ds))
  | [], f, l, h => ⟨f, l, rfl, h, rfl⟩
  | p :: r, f, l, h => by
    rw [List.map_cons, parse, walkS]
    have e : (drawBlk (ds.getD p 0)).sp.contains 44 = cmOf ds p := sep_comma _
    rw [e]
    simp only [if_true]
    cases hc : cmOf ds p with
    | true =>
      simp only [if_true]
      obtain ⟨A, B, h1, h2, h3⟩ := parse_walk (ds := ds) r (f ++ [l ++ [p]]) [] (fun x hx => by
        rcases List.mem_append.mp hx with hx | hx
        · exact h x hx
        · rw [List.mem_singleton.mp hx]; simp)
      refine ⟨A, B, h1, h2, ?_⟩
      rw [← h3, List.map_append]
      simp [wd0]
    | false =>
      simp only [Bool.false_eq_true, if_false]
      obtain ⟨A, B, h1, h2, h3⟩ := parse_walk (ds := ds) r f (l ++ [p]) h
      refine ⟨A, B, h1, h2, ?_⟩
      rw [← h3, List.map_append]
      simp [wd0]
theorem blks_range (ds : List Nat) : ds.map drawBlk = (List.range ds.length).map fun i => drawBlk (ds.getD i 0) := by
  apply List.ext_getElem
  · simp
  · intro i h1 h2
    rw [List.getElem_map, List.getElem_map, List.getElem_range]
    rw [List.length_map] at h1
    rw [List.getD_eq_getElem?_getD, List.getElem?_eq_getElem h1]; rfl
theorem split_draws (ds : List Nat) : splitL (ds.map drawBlk) = (sel (segsOf ds) fun _ => true).map (List.map (wd0 ds)) := by
  obtain ⟨A, B, h1, h2, h3⟩ := parse_walk (ds := ds) (List.range ds.length) [] [] nofun
  unfold splitL
  rw [blks_range]
  have h3' : parse ((List.range ds.length).map fun i => drawBlk (ds.getD i 0)) [] [] = (A.map (List.map (wd0 ds)), B.map (wd0 ds)) := h3
  rw [h3']
  have hs : sel (segsOf ds) (fun _ => true) = (A ++ [B]).filter (!·.isEmpty) := by
    unfold sel segsOf
    rw [h1]
    congr 1
    have e4 : (fun x : List Nat => x.filter fun _ => true) = id := by funext x; simp
    rw [e4, List.map_id]
  have hA : A.filter (!·.isEmpty) = A := by
    rw [List.filter_eq_self]
    intro x hx
    have := h2 x hx
    cases x with
    | nil => exact absurd rfl this
    | cons a b => rfl
  rw [hs, List.filter_append, hA, List.map_append]
  cases B with
  | nil => simp
  | cons a b => simp
theorem wd0_ok {ds : List Nat} {p : Nat} (hp : p < ds.length) : WordOk (wd0 ds p) ∧ strip34 (wd0 ds p).1 = ((ds.map kv).getD p p0).1 ∧ (wd0 ds p).2 = ((ds.map kv).getD p p0).2 := by
  have e : (ds.map kv).getD p p0 = kv (ds.getD p 0) := by
    rw [List.getD_eq_getElem?_getD, List.getElem?_map, List.getElem?_eq_getElem hp, List.getD_eq_getElem?_getD, List.getElem?_eq_getElem hp]; rfl
  rw [e]
  have st : ∀ k ∈ names, strip34 (quo k) = k ∧ strip34 k = k := by decide +kernel
  refine ⟨⟨?_, vS_mem _⟩, ?_, rfl⟩
  · show (if _ then _ else _) ∈ rawNames
    split
    · exact quo_raw (kS_mem _)
    · exact List.mem_append_left _ (kS_mem _)
  · show strip34 (if _ then _ else _) = kS _
    split
    · exact (st _ (kS_mem _)).1
    · exact (st _ (kS_mem _)).2
/-! lengths -/
noncomputable def m2 (ys : List (List Nat)) : Nat := (ys.map fun y => y.length + 2).sum
theorem inter_m2 {sep : List Nat} (hs : sep.length = 2) : ∀ ys : List (List Nat), (List.intercalate sep ys).length = m2 ys - 2
  | [] => rfl
  | [a] => by rw [inter_one]; simp [m2]
  | a :: b :: r => by
    have := inter_m2 hs (b :: r)
    rw [inter_cons, List.length_append, List.length_append, hs, this]
    show a.length + 2 + ((b.length + 2 + m2 r) - 2) = a.length + 2 + (b.length + 2 + m2 r) - 2
    rw [Nat.add_right_comm b.length, Nat.add_sub_cancel, ← Nat.add_assoc (a.length + 2) (b.length + m2 r) 2, Nat.add_sub_cancel]
noncomputable def mP (row : Words) (P : List Nat) : Nat := (P.map fun i => (wordS (row.getD i p0)).length + 2).sum
theorem mP_append (row : Words) (a b : List Nat) : mP row (a ++ b) = mP row a + mP row b := by simp [mP]
theorem wordS_len (p : List Nat × List Nat) : 1 ≤ (wordS p).length := by simp [wordS]; omega
theorem mP_pos {row : Words} {a : List Nat} (h : a ≠ []) : 3 ≤ mP row a := by
  cases a with
  | nil => exact absurd rfl h
  | cons x r =>
    have := wordS_len (row.getD x p0)
    simp only [mP, List.map_cons, List.sum_cons]; omega
theorem expL_len (row : Words) (segs : List (List Nat)) : (expL row segs).length = mP row segs.flatten - 2 := by
  unfold expL
  rw [inter_m2 rfl, ← ne_flatten segs]
  congr 1
  have : ∀ X : List (List Nat), (∀ x ∈ X, x ≠ []) → m2 (X.map fun seg => List.intercalate [32, 59] (seg.map fun i => wordS (row.getD i p0))) = mP row X.flatten := by
    intro X
    induction X with
    | nil => intro _; rfl
    | cons a r ih =>
      intro h
      have := ih fun x hx => h x (List.mem_cons_of_mem _ hx)
      have h3 := mP_pos (row := row) (h a (List.mem_cons_self ..))
      rw [List.flatten_cons, mP_append, ← this]
      simp only [m2, List.map_cons, List.sum_cons]
      rw [inter_m2 rfl]
      have : m2 (a.map fun i => wordS (row.getD i p0)) = mP row a := by simp only [m2, mP, List.map_map]; rfl
      rw [this, Nat.sub_add_cancel (Nat.le_of_succ_le h3)]
  refine this _ fun x hx => ?_
  have := (List.mem_filter.mp hx).2
  cases x with
  | nil => cases this
  | cons a b => simp
theorem mP_filter {row : Words} {a b : Nat → Bool} (hab : ∀ p, b p = true → a p = true) : ∀ l : List Nat, mP row (l.filter b) ≤ mP row (l.filter a) ∧ (mP row (l.filter b) = mP row (l.filter a) → ∀ p ∈ l, a p = b p)
  | [] => ⟨Nat.le_refl _, nofun⟩
  | x :: r => by
    obtain ⟨h1, h2⟩ := mP_filter (row := row) hab r
    have hw := wordS_len (row.getD x p0)
    have e : ∀ z : List Nat, mP row (x :: z) = (wordS (row.getD x p0)).length + 2 + mP row z := fun z => by simp [mP]
    rw [List.filter_cons, List.filter_cons]
    cases hb : b x with
    | true =>
      rw [hab x hb, if_pos rfl, if_pos rfl, e, e]
      refine ⟨Nat.add_le_add_left h1 _, fun q p hp => ?_⟩
      rcases List.mem_cons.mp hp with rfl | hp
      · rw [hb, hab p hb]
      · exact h2 (Nat.add_left_cancel q) p hp
    | false =>
      cases ha : a x with
      | true =>
        rw [if_neg (by decide), if_pos rfl, e]
        exact ⟨Nat.le_trans h1 (Nat.le_add_left ..), fun q => absurd q (by omega)⟩
      | false =>
        rw [if_neg (by decide), if_neg (by decide)]
        refine ⟨h1, fun q p hp => ?_⟩
        rcases List.mem_cons.mp hp with rfl | hp
        · rw [hb, ha]
        · exact h2 q p hp
theorem expL_same {row : Words} {segs : List (List Nat)} {a b : Nat → Bool} (hab : ∀ p, b p = true → a p = true) (h : expL row (segs.map (·.filter b)) = expL row (segs.map (·.filter a))) : ∀ p ∈ segs.flatten, a p = b p := by
  have h1 := expL_len row (segs.map (·.filter a))
  have h2 := expL_len row (segs.map (·.filter b))
  rw [h, h1, filter_flatten, filter_flatten] at h2
  obtain ⟨h3, h4⟩ := mP_filter (row := row) hab segs.flatten
  refine h4 ?_
  have pos : ∀ P : List Nat, mP row P = 0 ∨ 3 ≤ mP row P := fun P => by
    cases P with
    | nil => exact .inl rfl
    | cons x r => exact .inr (mP_pos (by simp))
  have two : ∀ x y : Nat, (x = 0 ∨ 3 ≤ x) → (y = 0 ∨ 3 ≤ y) → x - 2 = y - 2 → y = x := by
    intro x y hx hy e
    rcases hx with rfl | hx <;> rcases hy with rfl | hy
    · rfl
    · exact absurd e.symm (Nat.sub_ne_zero_of_lt hy)
    · exact absurd e (Nat.sub_ne_zero_of_lt hx)
    · rw [← Nat.sub_add_cancel (Nat.le_of_succ_le hx), e, Nat.sub_add_cancel (Nat.le_of_succ_le hy)]
  exact two _ _ (pos _) (pos _) h2
/-! the last sign -/
noncomputable def LastOk (l : List Nat) : Prop := ∀ c, l.getLast? = some c → c ≠ 32 ∧ c ≠ 10 ∧ c ≠ 59
theorem getLast_app {l : List Nat} (z : List Nat) (h : l ≠ []) : (z ++ l).getLast? = l.getLast? := by
  rw [List.getLast?_append]
  cases hl : l.getLast? with
  | none => exact absurd (List.getLast?_eq_none_iff.mp hl) h
  | some c => rfl
theorem inter_last {sep : List Nat} {ys : List (List Nat)} (h : ∀ y ∈ ys, y ≠ [] ∧ LastOk y) : LastOk (List.intercalate sep ys) ∧ (ys ≠ [] → List.intercalate sep ys ≠ []) := by
  rcases List.eq_nil_or_concat ys with rfl | ⟨zs, y, rfl⟩
  · exact ⟨nofun, fun q => absurd rfl q⟩
  · rw [List.concat_eq_append] at h ⊢
    obtain ⟨h1, h2⟩ := h y (by simp)
    by_cases hz : zs = []
    · subst hz
      rw [List.nil_append, inter_one]
      exact ⟨h2, fun _ => h1⟩
    · rw [inter_snoc _ _ _ hz]
      refine ⟨fun c hc => ?_, fun _ => by simp [h1]⟩
      rw [getLast_app _ h1] at hc
      exact h2 c hc
theorem wordS_last {p : List Nat × List Nat} (h : p.2 ∈ names) : wordS p ≠ [] ∧ LastOk (wordS p) := by
  have f : ∀ v ∈ names, mark v ≠ [] ∧ ∀ c, (mark v).getLast? = some c → c ≠ 32 ∧ c ≠ 10 ∧ c ≠ 59 := by
    intro v hv
    simp only [names, List.mem_cons, List.not_mem_nil, or_false] at hv
    rcases hv with rfl | rfl | rfl | rfl | rfl | rfl | rfl | rfl | rfl | rfl <;> (refine ⟨by decide, fun c hc => ?_⟩; first | (have : c = 34 := by cases hc; rfl); omega | (cases hc; decide))
  obtain ⟨f1, f2⟩ := f _ h
  refine ⟨by simp [wordS], fun c hc => ?_⟩
  unfold wordS at hc
  rw [getLast_app _ f1] at hc
  exact f2 c hc
theorem expL_last {row : Words} {segs : List (List Nat)} (h : ∀ seg ∈ segs, ∀ i ∈ seg, (row.getD i p0).2 ∈ names) : LastOk (expL row segs) := by
  unfold expL
  refine (inter_last fun y hy => ?_).1
  obtain ⟨seg, hs, rfl⟩ := List.mem_map.mp hy
  obtain ⟨hs1, hs2⟩ := List.mem_filter.mp hs
  have : ∀ y ∈ seg.map fun i => wordS (row.getD i p0), y ≠ [] ∧ LastOk y := fun y hy => by
    obtain ⟨i, hi, rfl⟩ := List.mem_map.mp hy
    exact wordS_last (h seg hs1 i hi)
  obtain ⟨a, b⟩ := inter_last (sep := [32, 59]) this
  refine ⟨b ?_, a⟩
  cases seg with
  | nil => cases hs2
  | cons x y => simp
theorem draws_last {ds : List Nat} (h : ds ≠ []) : ¬ LastOk (cat (ds.map drawBlk)) := by
  rcases List.eq_nil_or_concat ds with rfl | ⟨zs, y, rfl⟩
  · exact absurd rfl h
  · rw [List.concat_eq_append, cat_draws, List.map_append, List.flatten_append]
    intro q
    have e : (([y].map drawnL).flatten) = drawnL y := by simp
    rw [e] at q
    have hs : ∃ c, (sepL (y / 36)).getLast? = some c ∧ (c = 32 ∨ c = 10 ∨ c = 59) ∧ sepL (y / 36) ≠ [] := by
      unfold sepL
      split
      · exact ⟨32, rfl, by decide, by decide⟩
      · exact ⟨32, rfl, by decide, by decide⟩
      · exact ⟨10, rfl, by decide, by decide⟩
      · exact ⟨59, rfl, by decide, by decide⟩
    obtain ⟨c, h1, h2, h3⟩ := hs
    have h4 : (drawnL y).getLast? = some c := by
      unfold drawnL
      rw [getLast_app _ h3, h1]
    have hne : drawnL y ≠ [] := by intro e; rw [e] at h4; cases h4
    have := q c (by rw [getLast_app _ hne, h4])
    rcases h2 with e | e | e
    · exact this.1 e
    · exact this.2.1 e
    · exact this.2.2 e
end Mine
end

section
open PySem PySem.W PyProof.Rows PySem.Calls
set_option Elab.async false
set_option linter.unusedVariables false
set_option maxRecDepth 100000
namespace Mine
structure Ord (n : Nat) (R : Nat → Nat → Bool) : Prop where
  irr : ∀ a, R a a = false
  tr : ∀ a b c, R a b = true → R b c = true → R a c = true
  tot : ∀ a b, a ≠ b → R a b = true ∨ R b a = true
theorem Ord.asy {n : Nat} {R : Nat → Nat → Bool} (O : Ord n R) {a b : Nat} (h : R a b = true) : R b a = false := by
  cases q : R b a with
  | false => rfl
  | true => have := O.tr _ _ _ h q; rw [O.irr] at this; cases this
noncomputable def flipR (R : Nat → Nat → Bool) : Nat → Nat → Bool := fun a b => R b a
theorem Ord.flip {n : Nat} {R : Nat → Nat → Bool} (O : Ord n R) : Ord n (flipR R) := ⟨O.irr, fun a b c h1 h2 => O.tr c b a h2 h1, fun a b h => (O.tot a b h).symm⟩
theorem ordLt (n : Nat) : Ord n ltB := ⟨fun a => by simp [ltB], fun a b c h1 h2 => by simp [ltB] at *; omega, fun a b h => by simp [ltB]; omega⟩
section
variable {n : Nat} {R : Nat → Nat → Bool} {kf vf : Nat → List Nat} {K : Nat → Bool}
noncomputable def Fst (n : Nat) (R : Nat → Nat → Bool) (kf : Nat → List Nat) (K : Nat → Bool) (f : Nat) : Prop := f < n ∧ K f = true ∧ ∀ x, x < n → K x = true → R x f = true → kf x ≠ kf f
noncomputable def Stab (n : Nat) (R : Nat → Nat → Bool) (kf vf : Nat → List Nat) (M : List Nat) : Prop :=
  (∀ m ∈ M, m < n) ∧ (∀ a ∈ M, ∀ b ∈ M, kf a = kf b → a = b) ∧ (∀ a ∈ M, ∀ b ∈ M, vf a = vf b → a = b) ∧ ∀ q, q < n → q ∉ M → ∃ m ∈ M, (kf m = kf q ∧ R m q = true) ∨ (vf m = vf q ∧ R q m = true)
theorem Stab.flip {M : List Nat} (h : Stab n R kf vf M) : Stab n (flipR R) vf kf M := ⟨h.1, h.2.2.1, h.2.1, fun q hq hm => let ⟨m, a, b⟩ := h.2.2.2 q hq hm; ⟨m, a, b.symm⟩⟩
noncomputable def Inv (n : Nat) (R : Nat → Nat → Bool) (kf vf : Nat → List Nat) (K : Nat → Bool) : Prop :=
  (∀ M, Stab n R kf vf M → ∀ m ∈ M, K m = true) ∧ ∀ q, q < n → K q = false →
    ((∃ f, Fst n R kf K f ∧ R q f = true ∧ vf f = vf q) ∧ ∀ M, Stab n R kf vf M → ∀ g ∈ M, vf g = vf q → R q g = true) ∨
    ((∃ l, Fst n (flipR R) vf K l ∧ R l q = true ∧ kf l = kf q) ∧ ∀ M, Stab n R kf vf M → ∀ g ∈ M, kf g = kf q → R g q = true)
theorem Inv.flip (h : Inv n R kf vf K) : Inv n (flipR R) vf kf K :=
  ⟨fun M hM => h.1 M hM.flip, fun q hq hk => (h.2 q hq hk).symm.imp (fun ⟨a, b⟩ => ⟨a, fun M hM => b M hM.flip⟩) fun ⟨a, b⟩ => ⟨a, fun M hM => b M hM.flip⟩⟩
theorem mem_PK {p : Nat} : p ∈ PK n K ↔ p < n ∧ K p = true := by rw [PK, List.mem_filter, List.mem_range]
theorem bad_iff {p : Nat} : bad R kf vf (PK n K) p = true ↔ ∃ o, Fst n R kf K o ∧ R p o = true ∧ vf o = vf p := by
  unfold bad Fst
  rw [List.any_eq_true]
  constructor
  · rintro ⟨o, ho, h⟩
    obtain ⟨h1, h2⟩ := mem_PK.mp ho
    simp only [Bool.and_eq_true, beq_iff_eq, List.all_eq_true, Bool.not_eq_true', Bool.and_eq_false_iff] at h
    refine ⟨o, ⟨h1, h2, fun x hx hk hr q => ?_⟩, h.1.1, h.1.2⟩
    rcases h.2 x (mem_PK.mpr ⟨hx, hk⟩) with h | h
    · rw [hr] at h; cases h
    · rw [beq_eq_false_iff_ne] at h; exact h q
  · rintro ⟨o, ⟨h1, h2, h3⟩, h4, h5⟩
    refine ⟨o, mem_PK.mpr ⟨h1, h2⟩, ?_⟩
    simp only [Bool.and_eq_true, beq_iff_eq, List.all_eq_true, Bool.not_eq_true', Bool.and_eq_false_iff]
    refine ⟨⟨h4, h5⟩, fun x hx => ?_⟩
    obtain ⟨hx1, hx2⟩ := mem_PK.mp hx
    cases hr : R x o with
    | false => exact .inl rfl
    | true => right; rw [beq_eq_false_iff_ne]; exact h3 x hx1 hx2 hr
noncomputable def kG (n : Nat) (R : Nat → Nat → Bool) (kf vf : Nat → List Nat) (K : Nat → Bool) (p : Nat) : Bool := K p && !bad R kf vf (PK n K) p
/-- rank: how many lie behind -/
noncomputable def rk (n : Nat) (R : Nat → Nat → Bool) (f : Nat) : Nat := ((List.range n).filter fun x => R f x).length
theorem filter_lt {a b : Nat → Bool} (hab : ∀ x, b x = true → a x = true) : ∀ l : List Nat, (l.filter b).length ≤ (l.filter a).length ∧ ((∃ x ∈ l, a x = true ∧ b x = false) → (l.filter b).length < (l.filter a).length)
  | [] => ⟨Nat.le_refl _, nofun⟩
  | x :: r => by
    obtain ⟨h1, h2⟩ := filter_lt hab r
    rw [List.filter_cons, List.filter_cons]
    cases hb : b x with
    | true =>
      rw [hab x hb]
      simp only [if_true, List.length_cons]
      refine ⟨by omega, fun ⟨y, hy, ha, hb'⟩ => ?_⟩
      rcases List.mem_cons.mp hy with rfl | hy
      · rw [hb] at hb'; cases hb'
      · have := h2 ⟨y, hy, ha, hb'⟩; omega
    | false =>
      cases ha : a x with
      | true => simp only [if_true, Bool.false_eq_true, if_false, List.length_cons]; exact ⟨by omega, fun _ => by omega⟩
      | false =>
        simp only [Bool.false_eq_true, if_false]
        refine ⟨h1, fun ⟨y, hy, ha', hb'⟩ => ?_⟩
        rcases List.mem_cons.mp hy with rfl | hy
        · rw [ha] at ha'; cases ha'
        · exact h2 ⟨y, hy, ha', hb'⟩
theorem rk_lt (O : Ord n R) {a b : Nat} (hb : b < n) (h : R a b = true) : rk n R b < rk n R a :=
  (filter_lt (fun x hx => O.tr _ _ _ h hx) (List.range n)).2 ⟨b, List.mem_range.mpr hb, h, O.irr b⟩
/-- the strongest first of a value stays -/
theorem fst_stays (O : Ord n R) {q : Nat} : ∀ (k : Nat) (f : Nat), rk n R f ≤ k → Fst n R kf K f → R q f = true → vf f = vf q → ∃ f, Fst n R kf (kG n R kf vf K) f ∧ R q f = true ∧ vf f = vf q := by
  intro k
  induction k with
  | zero =>
    intro f hk h1 h2 h3
    by_cases hb : bad R kf vf (PK n K) f = true
    · obtain ⟨o, ho, hr, hv⟩ := bad_iff.mp hb
      have := rk_lt O ho.1 hr; omega
    · refine ⟨f, ⟨h1.1, ?_, fun x hx hkx hr => h1.2.2 x hx (Bool.and_eq_true_iff.mp hkx).1 hr⟩, h2, h3⟩
      rw [kG, h1.2.1]; simpa using hb
  | succ k ih =>
    intro f hk h1 h2 h3
    by_cases hb : bad R kf vf (PK n K) f = true
    · obtain ⟨o, ho, hr, hv⟩ := bad_iff.mp hb
      have := rk_lt O ho.1 hr
      exact ih o (by omega) ho (O.tr _ _ _ h2 hr) (hv.trans h3)
    · refine ⟨f, ⟨h1.1, ?_, fun x hx hkx hr => h1.2.2 x hx (Bool.and_eq_true_iff.mp hkx).1 hr⟩, h2, h3⟩
      rw [kG, h1.2.1]; simpa using hb
/-- a last of its value is not struck -/
theorem lst_stays (O : Ord n R) {l : Nat} (h : Fst n (flipR R) vf K l) : Fst n (flipR R) vf (kG n R kf vf K) l := by
  refine ⟨h.1, ?_, fun x hx hkx hr => h.2.2 x hx (Bool.and_eq_true_iff.mp hkx).1 hr⟩
  rw [kG, h.2.1]
  have : ¬ bad R kf vf (PK n K) l = true := fun hb => by
    obtain ⟨o, ho, hr, hv⟩ := bad_iff.mp hb
    exact h.2.2 o ho.1 ho.2.1 hr hv
  simpa using this
/-- no stable choice has the value of a struck place ahead -/
theorem struck (O : Ord n R) (hA : ∀ M, Stab n R kf vf M → ∀ m ∈ M, K m = true) {p o : Nat} (ho : Fst n R kf K o) (hr : R p o = true) (hv : vf o = vf p) : ∀ M, Stab n R kf vf M → ∀ g ∈ M, vf g = vf p → R p g = true := by
  intro M hM g hg hgv
  by_cases hpg : R p g = true
  · exact hpg
  have hgo : R g o = true := by
    by_cases e : p = g
    · rw [← e]; exact hr
    · rcases O.tot p g e with h | h
      · exact absurd h hpg
      · exact O.tr _ _ _ h hr
  have hno : o ∉ M := fun hm => by
    have := hM.2.2.1 o hm g hg (hv.trans hgv.symm)
    rw [this, O.irr] at hgo; cases hgo
  obtain ⟨m, hm, h | h⟩ := hM.2.2.2 o ho.1 hno
  · exact absurd h.1 (ho.2.2 m (hM.1 m hm) (hA M hM m hm) h.2)
  · have := hM.2.2.1 m hm g hg (h.1.trans (hv.trans hgv.symm))
    subst this
    rw [O.asy h.2] at hgo; cases hgo
theorem Inv.step (O : Ord n R) (h : Inv n R kf vf K) : Inv n R kf vf (kG n R kf vf K) := by
  refine ⟨fun M hM m hm => ?_, fun q hq hk => ?_⟩
  · rw [kG, h.1 M hM m hm]
    have : ¬ bad R kf vf (PK n K) m = true := fun hb => by
      obtain ⟨o, ho, hr, hv⟩ := bad_iff.mp hb
      have := struck O h.1 ho hr hv M hM m hm rfl
      rw [O.irr] at this; cases this
    simpa using this
  · cases hK : K q with
    | false =>
      rcases h.2 q hq hK with ⟨⟨f, h1, h2, h3⟩, h4⟩ | ⟨⟨l, h1, h2, h3⟩, h4⟩
      · exact .inl ⟨fst_stays O _ f (Nat.le_refl _) h1 h2 h3, h4⟩
      · exact .inr ⟨⟨l, lst_stays O h1, h2, h3⟩, h4⟩
    | true =>
      rw [kG, hK] at hk
      have hb : bad R kf vf (PK n K) q = true := by simpa using hk
      obtain ⟨o, ho, hr, hv⟩ := bad_iff.mp hb
      exact .inl ⟨fst_stays O _ o (Nat.le_refl _) ho hr hv, struck O h.1 ho hr hv⟩
theorem Inv.init : Inv n R kf vf fun _ => true := ⟨fun _ _ _ _ => rfl, fun _ _ h => nomatch h⟩
/-- the first of a key -/
theorem has_first (O : Ord n R) : ∀ (k : Nat) (p : Nat), rk n (flipR R) p ≤ k → p < n → K p = true → ∃ f, Fst n R kf K f ∧ kf f = kf p ∧ (f = p ∨ R f p = true) := by
  intro k
  induction k with
  | zero =>
    intro p hk hp hK
    refine ⟨p, ⟨hp, hK, fun x hx _ hr _ => ?_⟩, rfl, .inl rfl⟩
    have := rk_lt O.flip (a := p) hx hr; omega
  | succ k ih =>
    intro p hk hp hK
    by_cases h : ∃ x, x < n ∧ K x = true ∧ R x p = true ∧ kf x = kf p
    · obtain ⟨x, hx, hkx, hr, hkey⟩ := h
      have := rk_lt O.flip (a := p) hx hr
      obtain ⟨f, h1, h2, h3⟩ := ih x (by omega) hx hkx
      refine ⟨f, h1, h2.trans hkey, .inr ?_⟩
      rcases h3 with rfl | h3
      · exact hr
      · exact O.tr _ _ _ h3 hr
    · exact ⟨p, ⟨hp, hK, fun x hx hkx hr q => h ⟨x, hx, hkx, hr, q⟩⟩, rfl, .inl rfl⟩
end
end Mine
end

section
open PySem PySem.W PyProof.Rows PySem.Calls
set_option Elab.async false
set_option linter.unusedVariables false
set_option maxRecDepth 100000
namespace Mine
theorem nodup_sub {α : Type} [BEq α] [LawfulBEq α] : ∀ (l1 l2 : List α), l1.Nodup → (∀ x ∈ l1, x ∈ l2) → l1.length ≤ l2.length
  | [], _, _, _ => Nat.zero_le _
  | a :: t, l2, nd, h => by
    rw [List.nodup_cons] at nd
    have ha := h a (List.mem_cons_self ..)
    have := nodup_sub t (l2.erase a) nd.2 fun x hx => (List.mem_erase_of_ne (fun e : x = a => nd.1 (by rw [← e]; exact hx))).mpr (h x (List.mem_cons_of_mem _ hx))
    rw [List.length_erase_of_mem ha] at this
    have := List.length_pos_of_mem ha
    rw [List.length_cons]; omega
theorem pigeon {α : Type} [BEq α] [LawfulBEq α] {l1 l2 : List α} (nd : l1.Nodup) (h : ∀ x ∈ l1, x ∈ l2) (hl : l2.length ≤ l1.length) {x : α} (hx : x ∈ l2) : x ∈ l1 := by
  by_cases q : x ∈ l1
  · exact q
  · have := nodup_sub (x :: l1) l2 (List.nodup_cons.mpr ⟨q, nd⟩) fun y hy => by
      rcases List.mem_cons.mp hy with rfl | hy
      · exact hx
      · exact h y hy
    rw [List.length_cons] at this; omega
theorem nodup_map {f : Nat → List Nat} {l : List Nat} (nd : l.Nodup) (h : ∀ a ∈ l, ∀ b ∈ l, f a = f b → a = b) : (l.map f).Nodup := by
  unfold List.Nodup at *
  rw [List.pairwise_map]
  exact nd.imp_of_mem fun ha hb hab q => hab (h _ ha _ hb q)
section
variable {n : Nat} {R : Nat → Nat → Bool} {kf vf : Nat → List Nat} {K : Nat → Bool}
noncomputable def FL (n : Nat) (R : Nat → Nat → Bool) (kf : Nat → List Nat) (K : Nat → Bool) : List Nat := (List.range n).filter fun f => @decide (Fst n R kf K f) (Classical.propDecidable _)
theorem mem_FL {f : Nat} : f ∈ FL n R kf K ↔ Fst n R kf K f := by
  unfold FL
  rw [List.mem_filter, List.mem_range]
  exact ⟨fun h => @of_decide_eq_true _ (Classical.propDecidable _) h.2, fun h => ⟨h.1, @decide_eq_true _ (Classical.propDecidable _) h⟩⟩
theorem FL_nodup : (FL n R kf K).Nodup := List.Pairwise.filter _ List.nodup_range
noncomputable abbrev Fix (n : Nat) (R : Nat → Nat → Bool) (kf vf : Nat → List Nat) (K : Nat → Bool) : Prop := ∀ p, p < n → K p = true → ¬ ∃ o, Fst n R kf K o ∧ R p o = true ∧ vf o = vf p
theorem fst_k (O : Ord n R) {a b : Nat} (ha : Fst n R kf K a) (hb : Fst n R kf K b) (h : kf a = kf b) : a = b := by
  by_cases e : a = b
  · exact e
  · rcases O.tot a b e with q | q
    · exact absurd h (hb.2.2 a ha.1 ha.2.1 q)
    · exact absurd h.symm (ha.2.2 b hb.1 hb.2.1 q)
theorem fst_v (O : Ord n R) (h0 : Fix n R kf vf K) {a b : Nat} (ha : Fst n R kf K a) (hb : Fst n R kf K b) (h : vf a = vf b) : a = b := by
  by_cases e : a = b
  · exact e
  · rcases O.tot a b e with q | q
    · exact absurd ⟨b, hb, q, h.symm⟩ (h0 a ha.1 ha.2.1)
    · exact absurd ⟨a, ha, q, h⟩ (h0 b hb.1 hb.2.1)
theorem FL_le (O : Ord n R) (h0 : Fix n R kf vf K) : (FL n R kf K).length ≤ (FL n (flipR R) vf K).length := by
  have nd : ((FL n R kf K).map vf).Nodup := nodup_map FL_nodup fun a ha b hb => fst_v O h0 (mem_FL.mp ha) (mem_FL.mp hb)
  have := nodup_sub _ ((FL n (flipR R) vf K).map vf) nd fun x hx => by
    obtain ⟨f, hf, rfl⟩ := List.mem_map.mp hx
    have hf := mem_FL.mp hf
    obtain ⟨l, h1, h2, _⟩ := has_first (R := flipR R) (kf := vf) O.flip _ f (Nat.le_refl _) hf.1 hf.2.1
    exact List.mem_map.mpr ⟨l, mem_FL.mpr h1, h2⟩
  simpa using this
theorem cover (O : Ord n R) (h0 : Fix n R kf vf K) (h1 : Fix n (flipR R) vf kf K) {p : Nat} (hp : p < n) (hK : K p = true) : ∃ f, Fst n R kf K f ∧ vf f = vf p := by
  have nd : ((FL n R kf K).map vf).Nodup := nodup_map FL_nodup fun a ha b hb => fst_v O h0 (mem_FL.mp ha) (mem_FL.mp hb)
  have hl : (FL n (flipR R) vf K).length ≤ (FL n R kf K).length := FL_le O.flip h1
  obtain ⟨l, hl1, hl2, _⟩ := has_first (R := flipR R) (kf := vf) O.flip _ p (Nat.le_refl _) hp hK
  have := pigeon (l2 := (FL n (flipR R) vf K).map vf) nd (fun x hx => by
    obtain ⟨f, hf, rfl⟩ := List.mem_map.mp hx
    have hf := mem_FL.mp hf
    obtain ⟨l, h1, h2, _⟩ := has_first (R := flipR R) (kf := vf) O.flip _ f (Nat.le_refl _) hf.1 hf.2.1
    exact List.mem_map.mpr ⟨l, mem_FL.mpr h1, h2⟩) (by simpa using hl) (x := vf p) (List.mem_map.mpr ⟨l, mem_FL.mpr hl1, hl2⟩)
  obtain ⟨f, hf, hv⟩ := List.mem_map.mp this
  exact ⟨f, mem_FL.mp hf, hv⟩
theorem FL_stab (O : Ord n R) (h0 : Fix n R kf vf K) (hI : Inv n R kf vf K) : Stab n R kf vf (FL n R kf K) := by
  refine ⟨fun m hm => (mem_FL.mp hm).1, fun a ha b hb => fst_k O (mem_FL.mp ha) (mem_FL.mp hb), fun a ha b hb => fst_v O h0 (mem_FL.mp ha) (mem_FL.mp hb), fun q hq hn => ?_⟩
  cases hK : K q with
  | true =>
    obtain ⟨f, h1, h2, h3⟩ := has_first (R := R) (kf := kf) O _ q (Nat.le_refl _) hq hK
    rcases h3 with rfl | h3
    · exact absurd (mem_FL.mpr h1) hn
    · exact ⟨f, mem_FL.mpr h1, .inl ⟨h2, h3⟩⟩
  | false =>
    rcases hI.2 q hq hK with ⟨⟨f, h1, h2, h3⟩, _⟩ | ⟨⟨l, h1, h2, h3⟩, _⟩
    · exact ⟨f, mem_FL.mpr h1, .inr ⟨h3, h2⟩⟩
    · obtain ⟨f, g1, g2, g3⟩ := has_first (R := R) (kf := kf) O _ l (Nat.le_refl _) h1.1 h1.2.1
      refine ⟨f, mem_FL.mpr g1, .inl ⟨g2.trans h3, ?_⟩⟩
      rcases g3 with rfl | g3
      · exact h2
      · exact O.tr _ _ _ g3 h2
theorem final (O : Ord n R) (h0 : Fix n R kf vf K) (h1 : Fix n (flipR R) vf kf K) (hI : Inv n R kf vf K) {q : Nat} (hq : q < n) :
    K q = true ↔ (∃ M, Stab n R kf vf M ∧ ∃ g ∈ M, vf g = vf q ∧ R q g = false) ∧ (∃ M, Stab n R kf vf M ∧ ∃ g ∈ M, kf g = kf q ∧ R g q = false) := by
  constructor
  · intro hK
    refine ⟨⟨_, FL_stab O h0 hI, ?_⟩, ⟨_, (FL_stab O.flip h1 hI.flip).flip, ?_⟩⟩
    · obtain ⟨f, h2, h3⟩ := cover O h0 h1 hq hK
      refine ⟨f, mem_FL.mpr h2, h3, ?_⟩
      cases hr : R q f with
      | false => rfl
      | true => exact absurd ⟨f, h2, hr, h3⟩ (h0 q hq hK)
    · obtain ⟨f, h2, h3⟩ := cover O.flip h1 h0 hq hK
      refine ⟨f, mem_FL.mpr h2, h3, ?_⟩
      cases hr : R f q with
      | false => rfl
      | true => exact absurd ⟨f, h2, hr, h3⟩ (h1 q hq hK)
  · rintro ⟨⟨M, hM, g, hg, hv, hr⟩, ⟨M', hM', g', hg', hk', hr'⟩⟩
    cases hK : K q with
    | true => rfl
    | false =>
      rcases hI.2 q hq hK with ⟨_, h⟩ | ⟨_, h⟩
      · have := h M hM g hg hv; rw [hr] at this; cases this
      · have := h M' hM' g' hg' hk'; rw [hr'] at this; cases this
end
end Mine
end

section
open PySem PySem.W PyProof.Rows PySem.Calls
set_option Elab.async false
set_option linter.unusedVariables false
set_option maxRecDepth 100000
namespace Mine
section
variable {row : Words}
noncomputable abbrev kr (row : Words) (p : Nat) : List Nat := (row.getD p p0).1
noncomputable abbrev vr (row : Words) (p : Nat) : List Nat := (row.getD p p0).2
theorem mem_places {nm : List Nat} {p : Nat} : p ∈ placesOf row nm ↔ p < row.length ∧ kr row p = nm := by
  unfold placesOf
  rw [List.mem_filter, List.mem_range, beq_iff_eq]
theorem mem_more {nm one x : List Nat} : x ∈ moreOne row nm one ↔ ∃ p, (p < row.length ∧ kr row p = nm) ∧ (∀ k ∈ one, vr row k ≠ vr row p) ∧ x = one ++ [p] := by
  unfold moreOne
  rw [List.mem_map]
  constructor
  · rintro ⟨p, hp, rfl⟩
    obtain ⟨h1, h2⟩ := List.mem_filter.mp hp
    refine ⟨p, mem_places.mp h1, fun k hk q => ?_, rfl⟩
    rw [Bool.not_eq_true', List.any_eq_false] at h2
    exact h2 (vr row k) (List.mem_map.mpr ⟨k, hk, rfl⟩) (beq_iff_eq.mpr q)
  · rintro ⟨p, hp, h, rfl⟩
    refine ⟨p, List.mem_filter.mpr ⟨mem_places.mpr hp, ?_⟩, rfl⟩
    rw [Bool.not_eq_true', List.any_eq_false]
    intro y hy
    obtain ⟨k, hk, rfl⟩ := List.mem_map.mp hy
    exact fun q => h k hk (eq_of_beq q)
theorem mem_step {cs : List (List Nat)} {nm x : List Nat} : x ∈ stepC row cs nm ↔ x ∈ cs ∨ ∃ one ∈ cs, x ∈ moreOne row nm one := by
  unfold stepC
  rw [List.mem_append, List.mem_flatMap]
noncomputable def Ch (row : Words) (nms cs : List (List Nat)) : Prop := ∀ M ∈ cs, (∀ m ∈ M, m < row.length ∧ kr row m ∈ nms) ∧ (∀ a ∈ M, ∀ b ∈ M, kr row a = kr row b → a = b) ∧ (∀ a ∈ M, ∀ b ∈ M, vr row a = vr row b → a = b)
theorem Ch.step {nms cs : List (List Nat)} {nm : List Nat} (h : Ch row nms cs) (hn : nm ∉ nms) : Ch row (nm :: nms) (stepC row cs nm) := by
  intro M hM
  rcases mem_step.mp hM with hM | ⟨one, h1, h2⟩
  · obtain ⟨a, b, c⟩ := h M hM
    exact ⟨fun m hm => ⟨(a m hm).1, List.mem_cons_of_mem _ (a m hm).2⟩, b, c⟩
  · obtain ⟨p, hp, hv, rfl⟩ := mem_more.mp h2
    obtain ⟨a, b, c⟩ := h one h1
    have hk : ∀ m ∈ one, kr row m ≠ kr row p := fun m hm q => hn (by rw [← hp.2, ← q]; exact (a m hm).2)
    refine ⟨fun m hm => ?_, fun x hx y hy q => ?_, fun x hx y hy q => ?_⟩
    · rcases List.mem_append.mp hm with hm | hm
      · exact ⟨(a m hm).1, List.mem_cons_of_mem _ (a m hm).2⟩
      · rw [List.mem_singleton.mp hm]; exact ⟨hp.1, by rw [hp.2]; exact List.mem_cons_self ..⟩
    · rcases List.mem_append.mp hx with hx | hx <;> rcases List.mem_append.mp hy with hy | hy
      · exact b x hx y hy q
      · rw [List.mem_singleton.mp hy] at q; exact absurd q (hk x hx)
      · rw [List.mem_singleton.mp hx] at q; exact absurd q.symm (hk y hy)
      · rw [List.mem_singleton.mp hx, List.mem_singleton.mp hy]
    · rcases List.mem_append.mp hx with hx | hx <;> rcases List.mem_append.mp hy with hy | hy
      · exact c x hx y hy q
      · rw [List.mem_singleton.mp hy] at q; exact absurd q (hv x hx)
      · rw [List.mem_singleton.mp hx] at q; exact absurd q.symm (hv y hy)
      · rw [List.mem_singleton.mp hx, List.mem_singleton.mp hy]
theorem choices_ch : Ch row [[47, 99], [98, 55], [97]] (choicesOf row) := by
  have h0 : Ch row [] [[]] := fun M hM => by rw [List.mem_singleton.mp hM]; exact ⟨nofun, nofun, nofun⟩
  exact ((h0.step (nm := [97]) (by decide)).step (nm := [98, 55]) (by decide)).step (nm := [47, 99]) (by decide)
noncomputable def Co (row : Words) (L : List Nat) (nms cs : List (List Nat)) : Prop := ∃ M ∈ cs, ∀ x, x ∈ M ↔ x ∈ L ∧ kr row x ∈ nms
theorem Co.step {L : List Nat} {nms cs : List (List Nat)} {nm : List Nat} (hl : ∀ x ∈ L, x < row.length) (hk : ∀ a ∈ L, ∀ b ∈ L, kr row a = kr row b → a = b) (hv : ∀ a ∈ L, ∀ b ∈ L, vr row a = vr row b → a = b) (h : Co row L nms cs) (hn : nm ∉ nms) : Co row L (nm :: nms) (stepC row cs nm) := by
  obtain ⟨M, hM, hx⟩ := h
  by_cases hf : ∃ f ∈ L, kr row f = nm
  · obtain ⟨f, hf, hfk⟩ := hf
    refine ⟨M ++ [f], mem_step.mpr (.inr ⟨M, hM, mem_more.mpr ⟨f, ⟨hl f hf, hfk⟩, fun k hkm q => ?_, rfl⟩⟩), fun x => ?_⟩
    · obtain ⟨h1, h2⟩ := (hx k).mp hkm
      have := hv k h1 f hf q
      subst this
      rw [hfk] at h2; exact hn h2
    · rw [List.mem_append, hx, List.mem_singleton, List.mem_cons]
      constructor
      · rintro (⟨a, b⟩ | rfl)
        · exact ⟨a, .inr b⟩
        · exact ⟨hf, .inl hfk⟩
      · rintro ⟨a, b | b⟩
        · exact .inr (hk x a f hf (b.trans hfk.symm))
        · exact .inl ⟨a, b⟩
  · refine ⟨M, mem_step.mpr (.inl hM), fun x => ?_⟩
    rw [hx, List.mem_cons]
    constructor
    · rintro ⟨a, b⟩; exact ⟨a, .inr b⟩
    · rintro ⟨a, b | b⟩
      · exact absurd ⟨x, a, b⟩ hf
      · exact ⟨a, b⟩
theorem choices_co {L : List Nat} (hl : ∀ x ∈ L, x < row.length) (hk : ∀ a ∈ L, ∀ b ∈ L, kr row a = kr row b → a = b) (hv : ∀ a ∈ L, ∀ b ∈ L, vr row a = vr row b → a = b) (hn : ∀ p, p < row.length → kr row p ∈ keyNames) : ∃ M ∈ choicesOf row, ∀ x, x ∈ M ↔ x ∈ L := by
  have h0 : Co row L [] [[]] := ⟨[], by simp, fun x => by simp⟩
  obtain ⟨M, h1, h2⟩ := ((h0.step hl hk hv (nm := [97]) (by decide)).step hl hk hv (nm := [98, 55]) (by decide)).step hl hk hv (nm := [47, 99]) (by decide)
  refine ⟨M, h1, fun x => ?_⟩
  rw [h2]
  refine ⟨fun h => h.1, fun h => ⟨h, ?_⟩⟩
  have := hn x (hl x h)
  simp only [keyNames, List.mem_cons, List.not_mem_nil, or_false] at this ⊢
  rcases this with h | h | h
  · exact .inr (.inr h)
  · exact .inr (.inl h)
  · exact .inl h
theorem stable_iff {M : List Nat} : stableOf row M = true ↔ ∀ q, q < row.length → q ∉ M → ∃ m ∈ M, (kr row m = kr row q ∧ ltB m q = true) ∨ (vr row m = vr row q ∧ ltB q m = true) := by
  unfold stableOf
  rw [List.all_eq_true]
  have held : ∀ q m, heldP row q m = true ↔ (kr row m = kr row q ∧ ltB m q = true) ∨ (vr row m = vr row q ∧ ltB q m = true) := fun q m => by
    unfold heldP ltB
    rw [Bool.or_eq_true, Bool.and_eq_true, Bool.and_eq_true, beq_iff_eq, beq_iff_eq]
  constructor
  · intro h q hq hn
    have := h q (List.mem_range.mpr hq)
    rw [Bool.or_eq_true, any_eq_mem] at this
    rcases this with h | h
    · exact absurd h hn
    · cases hx : M.filter (heldP row q) with
      | nil => rw [hx] at h; cases h
      | cons a l =>
        have ha : a ∈ M.filter (heldP row q) := by rw [hx]; exact List.mem_cons_self ..
        obtain ⟨h1, h2⟩ := List.mem_filter.mp ha
        exact ⟨a, h1, (held q a).mp h2⟩
  · intro h q hq
    have hq := List.mem_range.mp hq
    rw [Bool.or_eq_true, any_eq_mem]
    by_cases hm : q ∈ M
    · exact .inl hm
    · obtain ⟨m, h1, h2⟩ := h q hq hm
      right
      have : m ∈ M.filter (heldP row q) := List.mem_filter.mpr ⟨h1, (held q m).mpr h2⟩
      cases hx : M.filter (heldP row q) with
      | nil => rw [hx] at this; cases this
      | cons a l => rfl
theorem good_iff (hn : ∀ p, p < row.length → kr row p ∈ keyNames) (φ : Nat → Prop) : (∃ g ∈ goodOf row, φ g) ↔ ∃ M, Stab row.length ltB (kr row) (vr row) M ∧ ∃ g ∈ M, φ g := by
  unfold goodOf
  constructor
  · rintro ⟨g, hg, hφ⟩
    obtain ⟨M, h1, h2⟩ := List.mem_flatten.mp hg
    obtain ⟨h3, h4⟩ := List.mem_filter.mp h1
    obtain ⟨a, b, c⟩ := choices_ch M h3
    exact ⟨M, ⟨fun m hm => (a m hm).1, b, c, stable_iff.mp h4⟩, g, h2, hφ⟩
  · rintro ⟨M, ⟨a, b, c, d⟩, g, hg, hφ⟩
    obtain ⟨M', h1, h2⟩ := choices_co a b c hn
    refine ⟨g, List.mem_flatten.mpr ⟨M', List.mem_filter.mpr ⟨h1, stable_iff.mpr fun q hq hm => ?_⟩, (h2 g).mpr hg⟩, hφ⟩
    obtain ⟨m, e1, e2⟩ := d q hq fun hm' => hm ((h2 q).mpr hm')
    exact ⟨m, (h2 m).mpr e1, e2⟩
theorem kept_iff {good : List Nat} {q : Nat} : keptOf row good q = true ↔ (∃ g ∈ good, vr row g = vr row q ∧ ltB q g = false) ∧ (∃ g ∈ good, kr row g = kr row q ∧ ltB g q = false) := by
  unfold keptOf
  have ne : ∀ l : List Nat, (!l.isEmpty) = true ↔ ∃ x, x ∈ l := fun l => by
    cases l with
    | nil => simp
    | cons a b => simp
  rw [Bool.and_eq_true, ne, ne]
  have e : ∀ a b : Nat, ltB a b = false ↔ b ≤ a := fun a b => by simp [ltB]
  constructor
  · rintro ⟨⟨x, hx⟩, ⟨y, hy⟩⟩
    have hx := List.mem_filter.mp hx
    have hy := List.mem_filter.mp hy
    simp only [Bool.and_eq_true, beq_iff_eq, decide_eq_true_eq] at hx hy
    exact ⟨⟨x, hx.1, hx.2.1, (e _ _).mpr hx.2.2⟩, ⟨y, hy.1, hy.2.1, (e _ _).mpr hy.2.2⟩⟩
  · rintro ⟨⟨x, h1, h2, h3⟩, ⟨y, h4, h5, h6⟩⟩
    refine ⟨⟨x, List.mem_filter.mpr ⟨h1, ?_⟩⟩, ⟨y, List.mem_filter.mpr ⟨h4, ?_⟩⟩⟩
    · simp only [Bool.and_eq_true, beq_iff_eq, decide_eq_true_eq]; exact ⟨h2, (e _ _).mp h3⟩
    · simp only [Bool.and_eq_true, beq_iff_eq, decide_eq_true_eq]; exact ⟨h5, (e _ _).mp h6⟩
theorem kept_final {K : Nat → Bool} (hn : ∀ p, p < row.length → kr row p ∈ keyNames) (h0 : Fix row.length ltB (kr row) (vr row) K) (h1 : Fix row.length (flipR ltB) (vr row) (kr row) K) (hI : Inv row.length ltB (kr row) (vr row) K) {q : Nat} (hq : q < row.length) : keptOf row (goodOf row) q = K q := by
  rw [Bool.eq_iff_iff, final (ordLt _) h0 h1 hI hq, kept_iff, good_iff hn, good_iff hn]
theorem mark_raw : ∀ k ∈ names, mark k ∈ rawNames := by decide +kernel
theorem loop_end {segs : List (List Nat)} (hseg : segs.flatten = List.range row.length) (hrow : ∀ p, p < row.length → kr row p ∈ names ∧ vr row p ∈ names) : ∀ (k : Nat) (K : Nat → Bool) (bs : List Blk), (PK row.length K).length < k → OkB bs → bs.length ≤ 7 →
    splitL bs = (sel segs K).map (List.map fun p => (mark (kr row p), vr row p)) → cat bs = expL row (segs.map (·.filter K)) → Inv row.length ltB (kr row) (vr row) K →
    ∃ K', Inv row.length ltB (kr row) (vr row) K' ∧ Fix row.length ltB (kr row) (vr row) K' ∧ Fix row.length (flipR ltB) (vr row) (kr row) K' ∧ cat (loopB k bs) = expL row (segs.map (·.filter K')) := by
  intro k
  induction k with
  | zero => intro K bs h; omega
  | succ k ih =>
    intro K bs hc ok hb hs ht hI
    have hw : ∀ p, p < row.length → WordOk (mark (kr row p), vr row p) ∧ strip34 (mark (kr row p), vr row p).1 = (row.getD p p0).1 ∧ (mark (kr row p), vr row p).2 = (row.getD p p0).2 := fun p hp =>
      ⟨⟨mark_raw _ (hrow p hp).1, (hrow p hp).2⟩, (swap2b _ (hrow p hp).1).2.2, rfl⟩
    obtain ⟨e1, e2⟩ := turn_step (row := row) hseg ok hb hs hw
    have sub : ∀ p, turnK row.length (kr row) (vr row) K p = true → K p = true := fun p hp => by
      unfold turnK k1 k0 at hp
      simp only [Bool.and_eq_true] at hp
      exact hp.1.1
    rw [loopB]
    by_cases hq : (cat (sideB (sideB bs)) == cat bs) = true
    · rw [if_pos hq]
      have hq' := eq_of_beq hq
      have same : ∀ p, p < row.length → K p = turnK row.length (kr row) (vr row) K p := fun p hp => by
        refine expL_same (row := row) (segs := segs) sub ?_ p (by rw [hseg]; exact List.mem_range.mpr hp)
        rw [← ht, ← hq', e2]
      have hk0 : ∀ p, p < row.length → k0 row.length (kr row) (vr row) K p = K p := fun p hp => by
        have h1 := same p hp
        cases hK : K p with
        | false => unfold k0; rw [hK]; rfl
        | true =>
          rw [hK] at h1
          have := h1.symm
          unfold turnK k1 at this
          exact (Bool.and_eq_true_iff.mp this).1
      have hPK : PK row.length (k0 row.length (kr row) (vr row) K) = PK row.length K := by
        unfold PK
        apply List.filter_congr
        intro p hp
        exact hk0 p (List.mem_range.mp hp)
      refine ⟨K, hI, fun p hp hK => ?_, fun p hp hK => ?_, by rw [hq', ht]⟩
      · intro hbad
        have hb := bad_iff.mpr hbad
        have := hk0 p hp
        unfold k0 at this
        rw [hb, hK] at this; cases this
      · intro hbad
        have hb : bad gtB (vr row) (kr row) (PK row.length K) p = true := bad_iff.mpr hbad
        have := same p hp
        unfold turnK k1 at this
        rw [hPK, hb, hK, Bool.not_true, Bool.and_false] at this; cases this
    · rw [if_neg hq]
      have hlt : (PK row.length (turnK row.length (kr row) (vr row) K)).length < (PK row.length K).length := by
        by_cases hx : ∃ x ∈ List.range row.length, K x = true ∧ turnK row.length (kr row) (vr row) K x = false
        · exact (filter_lt sub _).2 hx
        · exfalso
          apply hq
          rw [beq_iff_eq, ht]
          refine e2.trans ?_
          congr 1
          apply List.map_congr_left
          intro seg hsg
          apply List.filter_congr
          intro p hp
          have hp' : p ∈ List.range row.length := by rw [← hseg]; exact List.mem_flatten.mpr ⟨seg, hsg, hp⟩
          show turnK row.length (kr row) (vr row) K p = K p
          cases hK : K p with
          | false =>
            cases hT : turnK row.length (kr row) (vr row) K p with
            | false => rfl
            | true => rw [sub p hT] at hK; cases hK
          | true =>
            cases hT : turnK row.length (kr row) (vr row) K p with
            | false => exact absurd ⟨p, hp', hK, hT⟩ hx
            | true => rfl
      obtain ⟨o1, b1, _⟩ := sideB_ok ok hb
      obtain ⟨o2, b2, _⟩ := sideB_ok o1 b1
      have hI' : Inv row.length ltB (kr row) (vr row) (turnK row.length (kr row) (vr row) K) := (Inv.step (ordLt row.length).flip (Inv.step (ordLt row.length) hI).flip).flip
      exact ih (turnK row.length (kr row) (vr row) K) _ (Nat.lt_of_lt_of_le hlt (Nat.le_of_lt_succ hc)) o2 b2 e1 e2 hI'
theorem kv_getD {ds : List Nat} {p : Nat} (hp : p < ds.length) : (ds.map kv).getD p p0 = kv (ds.getD p 0) := by
  rw [List.getD_eq_getElem?_getD, List.getElem?_map, List.getElem?_eq_getElem hp, List.getD_eq_getElem?_getD, List.getElem?_eq_getElem hp]; rfl
theorem kS_key (i : Nat) : kS i ∈ keyNames := by unfold kS; split <;> decide
theorem loopB_first {k : Nat} {bs : List Blk} (h : ¬ (cat (sideB (sideB bs)) == cat bs) = true) : loopB (k + 1) bs = loopB k (sideB (sideB bs)) := by rw [loopB, if_neg h]
theorem wants {ds : List Nat} {K : Nat → Bool} (hseg : (segsOf ds).flatten = List.range (ds.map kv).length) (h : ∀ p, p < (ds.map kv).length → keptOf (ds.map kv) (goodOf (ds.map kv)) p = K p) : expL (ds.map kv) ((segsOf ds).map (·.filter K)) = wantL ds := by
  rw [want_segs]
  congr 1
  apply List.map_congr_left
  intro seg hs
  apply List.filter_congr
  intro p hp
  have : p ∈ (segsOf ds).flatten := List.mem_flatten.mpr ⟨seg, hs, hp⟩
  rw [hseg] at this
  exact (h p (List.mem_range.mp this)).symm
theorem first_turn {ds : List Nat} (h6 : 6 ≤ ds.length) (hrow : ∀ p, p < (ds.map kv).length → vr (ds.map kv) p ∈ names) (hseg : (segsOf ds).flatten = List.range (ds.map kv).length) {K : Nat → Bool} {bs : List Blk} (e2 : cat bs = expL (ds.map kv) ((segsOf ds).map (·.filter K))) : ¬ (cat bs == cat (ds.map drawBlk)) = true := fun q => by
  have q := eq_of_beq q
  refine draws_last (ds := ds) (by intro e; rw [e] at h6; simp at h6) ?_
  rw [← q, e2]
  refine expL_last fun seg hs i hi => ?_
  obtain ⟨s0, h0, rfl⟩ := List.mem_map.mp hs
  have : i ∈ (segsOf ds).flatten := List.mem_flatten.mpr ⟨s0, h0, (List.mem_filter.mp hi).1⟩
  rw [hseg] at this
  exact hrow i (List.mem_range.mp this)
theorem inv_turn {K : Nat → Bool} {n : Nat} {kf vf : Nat → List Nat} (hI : Inv n ltB kf vf K) : Inv n ltB kf vf (turnK n kf vf K) := (Inv.step (ordLt n).flip (Inv.step (ordLt n) hI).flip).flip
theorem PK_len (n : Nat) (K : Nat → Bool) : (PK n K).length ≤ n := by
  have := List.length_filter_le K (List.range n)
  rw [List.length_range] at this
  exact this
/-- the plain law -/
theorem plain {ds : List Nat} (hm : ∀ m ∈ ds, m < 144) (h6 : 6 ≤ ds.length) (h7 : ds.length ≤ 7) : cat (loopB 12 (ds.map drawBlk)) = wantL ds := by
  have hlen : (ds.map kv).length = ds.length := List.length_map _
  have hrow : ∀ p, p < (ds.map kv).length → kr (ds.map kv) p ∈ names ∧ vr (ds.map kv) p ∈ names := fun p hp => by
    rw [hlen] at hp
    unfold kr vr
    rw [kv_getD hp]; exact ⟨kS_mem _, vS_mem _⟩
  have hkey : ∀ p, p < (ds.map kv).length → kr (ds.map kv) p ∈ keyNames := fun p hp => by
    rw [hlen] at hp
    unfold kr
    rw [kv_getD hp]; exact kS_key _
  have hseg : (segsOf ds).flatten = List.range (ds.map kv).length := by rw [segs_flatten, hlen]
  have ok := drawBlks_ok ds hm
  have hb : (ds.map drawBlk).length ≤ 7 := by rw [List.length_map]; exact h7
  obtain ⟨e1, e2⟩ := turn_step (row := ds.map kv) hseg ok hb (split_draws ds) fun p hp => wd0_ok (by rw [hlen] at hp; exact hp)
  obtain ⟨o1, b1, _⟩ := sideB_ok ok hb
  obtain ⟨o2, b2, _⟩ := sideB_ok o1 b1
  have hne := first_turn h6 (fun p hp => (hrow p hp).2) hseg e2
  have hI' := inv_turn (K := fun _ => true) (n := (ds.map kv).length) (kf := kr (ds.map kv)) (vf := vr (ds.map kv)) Inv.init
  have hc := Nat.lt_of_le_of_lt (PK_len (ds.map kv).length (turnK (ds.map kv).length (kr (ds.map kv)) (vr (ds.map kv)) fun _ => true)) (show (ds.map kv).length < 11 by omega)
  obtain ⟨K, hI, h0, h1, ht⟩ := loop_end hseg hrow 11 _ _ hc o2 b2 e1 e2 hI'
  exact (congrArg cat (loopB_first hne)).trans (ht.trans (wants hseg fun p hp => kept_final hkey h0 h1 hI hp))
end
end Mine
end

section
open PySem PySem.W PyProof.Rows PySem.Calls
set_option Elab.async false
set_option maxRecDepth 100000
namespace Mine
theorem intsAre_rep {h : Heap} {Mt : Addr → Prop} {vs : List Value} {ns : List Int} (i : IntsAre vs ns) : RepL h Mt (ns.map D.int) vs := by
  induction i with
  | nil => exact .nil
  | cons x t _ ih => exact .cons Rep.int_ ih
theorem well_list {P : Params} {h : Heap} {a : Addr} {l : List PyData} (r : Well P h (.ref a) (ofPy (.list l))) : ∃ vs : List Value, h.get? a = some { cls := .type "list", data := .seq vs.toArray } := by
  rw [ofPy] at r
  cases r with
  | list h _ => exact ⟨_, h⟩
theorem tab_of_hd {h : Heap} {c P : Addr} (C : CodeHd h c P) : isCodeTable h P := by
  obtain ⟨o, vs, file, tf, flags, tg, inF, text, tt, ho, hc, hd, h11, _⟩ := C
  exact ⟨c, o, vs, ho, hc, hd, h11⟩
theorem old_of_kp {w : World} {h h' : Heap} (G : Gd w h) (k : Kp h h') : OldK h h' := by
  refine ⟨fun b o e => ?_, fun b o e => k.alive e⟩
  by_cases s : Soft o
  · by_cases q : b ≠ 65 ∧ b ≠ 82
    · exact .inl (k.k b o e (.inr q))
    · have ht : isCodeTable h b := by
        by_cases q1 : b = 65
        · rw [q1]; exact tab_of_hd (codeHd_of_K G.k hd65)
        · by_cases q2 : b = 82
          · rw [q2]; exact tab_of_hd (codeHd_of_K G.k hd82)
          · exact absurd ⟨q1, q2⟩ q
      obtain ⟨ps, rfl⟩ := s
      obtain ⟨more, e'⟩ := k.t b ps e
      exact .inr (.inl ⟨ht, rfl, ps, more, rfl, e'⟩)
  · exact .inl (k.k b o e (.inl s))
theorem end_true {cl : Str → Option Addr} {mean : ExcName → Option Value} {args : List WData} {s₁ : Shared} {h' : Heap} {tk' : Nat} {w : World} (G : Gd w s₁.heap) (k : Kp s₁.heap h') (hg : s₁.gens = #[])
    (hn : ∀ cls, PySem.Challenge.rw_rs0086_01.row.claim.raises args cls = false) (hp : PySem.Challenge.rw_rs0086_01.row.claim.post args (.bool true) args = true) :
    GoodWG PySem.Challenge.rw_rs0086_01.row.claim cl mean args s₁ (.ok (.ret (.bool true))) { s₁ with heap := h', toks := tk' } :=
  ⟨.inl ⟨_, _, [], rfl, hn, .bool true, hp, fun _ => ⟨List.nodup_nil, fun a h => nomatch h⟩⟩, old_of_kp G k, rfl, .of_eq hg⟩
theorem whole (hlaw : ∀ (w : World) (l : List Int), l.length ≤ 63 → WFc w 40 152 [.list (l.map D.int)] (fun d => d = .bool true)) : PySem.Challenge.rw_rs0086_01.Holds := by
  refine hd ?_
  intro w s₀ s₁ mg mb G Y fa o pm cd doc dV kV ho hd hcd hD hmg hg args vals as hpre hlay hrd hwl hlo
  have KX := km_in_of Y
  have T := G.T
  have GD : Gd w s₁.heap := ⟨KX, ⟨mg, T.g⟩, ⟨mb, T.b, T.builtins⟩, T.nolimit, ⟨.inl (km_tabs_of Y 65 (by simp)), .inl (km_tabs_of Y 82 (by simp))⟩, let ⟨bm, ob, b1, b2, b3, b4, b5, b6⟩ := T.bmain; ⟨mg, bm, ob, T.g, b1, b2, b3, b4, b5, b6⟩⟩
  clear hD Y
  wrow_args hpre hlay hrd hwl hlo
  rename IntsAre _ _ => hI
  rename Heap.IsList _ _ _ => hL
  rename Well _ _ _ _ => hW
  rename ¬ _ => hn
  have e152 := mg_of KX T.g (n := "law") (v := .ref 152) (by kernel_rfl)
  have efa : fa = 152 := by
    have : mg "law" = some (.ref fa) := hmg
    rw [e152] at this
    injection this with this
    injection this with this
    exact this.symm
  subst efa
  clear ho hd hcd hmg
  obtain ⟨ol, hol, hcl, kl, hdl⟩ := hL
  obtain ⟨vs, hvs⟩ := well_list hW
  rw [hol] at hvs
  cases hvs
  have evs := congrArg (fun d => match d with | .seq x _ => x.toList | _ => []) hdl
  dsimp only at evs
  subst evs
  rename List Int => ns0
  refine hlaw w ns0 (by omega) callerA s₁ (fun _ => False) _ _ _ ⟨by decide, by decide, rfl⟩ GD (fun _ h => h.elim) (.cons (v := .ref _) ?_ .nil) ?_
  · simp only [Rep]
    exact ⟨_, _, 0, rfl, id, hol, intsAre_rep hI⟩
  · intro v h' tk' d ks r hd
    subst hd
    simp only [Rep] at r
    subst r
    refine end_true GD ks hg ?_ ?_
    · exact fun cls => rfl
    · clear hI hol hcl hdl
      wrow_post
theorem law_true (w : World) (l : List Int) (hl : l.length ≤ 63) : WFc w 40 152 [.list (l.map D.int)] (fun d => d = .bool true) := by
  refine law_spec (n := 37) hl ?_
  rw [plain drawsOf_lt drawsOf_len.2 drawsOf_len.1, beq_self_eq_true]
end Mine
end

theorem PySem.Challenge.cw_rs0086_01_holds : PySem.Challenge.rw_rs0086_01.Holds := by
  exact Mine.whole Mine.law_true
