import PyProof.Rows.All
import Wide.All
import OpenK.AllK
import Wide.FinOn
import KE.KSortTup
import KE.BytesMake
import KE.KBytesWalk
import PySem.Challenge.RW_pd0168_01
set_option Elab.async false
set_option autoImplicit false
set_option linter.all false
open PySem PySem.W PyProof.Rows PySem.Calls
-- Hn168
section
open PySem PySem.W PySem.Calls PyProof.Rows PySem.Builtin PySem.Builtin.Bytes
namespace Mine
/-- a decoder's frame -/
noncomputable def decC : Code → Bool
  | .builtin x _ => decodersThatHold.contains x
  | _ => false
noncomputable def CleanB (l : List (Code × Pos)) : Prop := ∀ x ∈ l, decC x.1 = false
/-- what holds on every stack that bears no decoder's frame -/
noncomputable def wpN {α : Type} (M : Model) (A : Around) (t : Sem α) (Q : α → Shared → Prop) (E : Value → Shared → Prop) (s : Shared) : Prop :=
  ∀ Γ p, Γ.In A → decC Γ.code = false → CleanB Γ.below → Sem.wp M Γ t (fun a _ s' => Q a s') (fun e _ s' => E e s') p s
theorem wpN_of {α : Type} {M : Model} {A : Around} {E : Value → Shared → Prop} {s : Shared} {t : Sem α} {Q : α → Shared → Prop} (h : wpAny M A t Q E s) : wpN M A t Q E s := fun Γ p hΓ _ _ => h Γ p hΓ
theorem wpN_mono {α : Type} {M : Model} {A : Around} {E : Value → Shared → Prop} {s : Shared} {t : Sem α} {Q Q' : α → Shared → Prop} {E' : Value → Shared → Prop} (h : wpN M A t Q E s) (hQ : ∀ a s, Q a s → Q' a s) (hE : ∀ e s, E e s → E' e s) : wpN M A t Q' E' s :=
  fun Γ p hΓ h1 h2 => Sem.wp_mono M Γ t (fun a _ s => hQ a s) (fun e _ s => hE e s) p s (h Γ p hΓ h1 h2)
theorem wpN_bind {α β : Type} {M : Model} {A : Around} {E : Value → Shared → Prop} {s : Shared} {m : Sem α} {f : α → Sem β} {Q : β → Shared → Prop} (h : wpN M A m (fun a s' => wpN M A (f a) Q E s') E s) : wpN M A (m >>= f) Q E s := fun Γ p hΓ h1 h2 => by
  rw [Sem.wp_bind']
  exact Sem.wp_mono M Γ m (fun a p' s' h' => h' Γ p' hΓ h1 h2) (fun _ _ _ h' => h') p s (h Γ p hΓ h1 h2)
/-- a call that is good on every clean stack: the claim's own thread, that makes it, ends, and so -/
theorem calls_clean {c : ClaimW} {w : World} {name : PySem.Str} {f : Value} {mg : PySem.Str → Option Value} {s₀ s : Shared} {args : List WData} {vs : List Value} (hm : s.heap.Ns mainGlobals mg) (hf : mg name = some f) (hz : s.asleep)
    (h : wpN (model c.prog w) callerA (PySem.call f vs) (fun v s' => GoodWG c (classAt s₀.heap) (ExcName.means s₀.heap) args s (.ok (.ret v)) s') (fun e s' => GoodWG c (classAt s₀.heap) (ExcName.means s₀.heap) args s (.error e) s') s) :
    ∃ n r sE sB, schedN (denote table) c.prog w n (.single s (callStub name vs)) = .halted (outcomeOf r) sE ∧ sE.heap = sB.heap ∧ sE.os = sB.os ∧ sE.heap.life = s.heap.life ∧ GoodWG c (classAt s₀.heap) (ExcName.means s₀.heap) args s r sB := by
  have whole : wpN (model c.prog w) callerA (callStub name vs).1 (fun fin s' => ∃ v, fin = PySem.Fin.done (.ret v) ∧ GoodWG c (classAt s₀.heap) (ExcName.means s₀.heap) args s (.ok (.ret v)) s')
      (fun e s' => GoodWG c (classAt s₀.heap) (ExcName.means s₀.heap) args s (.error e) s') s := by
    refine wpN_bind (wpN_of (wpAny_nsGet hm ?_))
    rw [hf]
    exact wpN_bind (wpN_mono h (fun v _ g => wpN_of (wpAny_pure ⟨v, rfl, g⟩)) fun _ _ g => g)
  have still : ∀ {r : Result} {s' : Shared}, GoodWG c (classAt s₀.heap) (ExcName.means s₀.heap) args s r s' → leftWithCleanup s'.gens = false := fun g => leftWithCleanup_false_of_bare g.2.2.2
  obtain ⟨n, r, sB, sE, e1, e2, e3, g⟩ := wp_halts_full (M := model c.prog w) (R := GoodWG c (classAt s₀.heap) (ExcName.means s₀.heap) args s) hz
    (Sem.wp_mono _ _ _ (fun fin _ _ ⟨v, e, g⟩ => by rw [e]; exact ⟨g, still g⟩) (fun _ _ _ g => ⟨g, still g⟩) _ _
      (whole _ default caller_in (by show decodersThatHold.contains "claim.caller" = false; decide) fun x hx => nomatch hx))
  have fo := Shared.forget_eq e3
  exact ⟨n, r, sE, sB, e1, fo.1, fo.2.2.2.1, runN_life _ _ _ e2, g⟩
/-- what is to be walked, on a stack without a decoder's frame -/
noncomputable abbrev WalkP (q : Program) (loose : List PySem.Str) (XP : (PySem.Str → Option Value) → Heap → Prop) (YP : World → Heap → Prop) (r : RowW) (d : DefRec) (kwd : List (PySem.Str × Expr)) : Prop :=
  ∀ (w : World) (s₀ s₁ : Shared) (mg mb : PySem.Str → Option Value), Ground q loose r.records XP w s₀ mg mb s₁.heap → YP w s₁.heap → ∀ (a : Addr) (o : Obj) (pm cd doc dV kV : Value), s₁.heap.get? a = some o →
    o.data = .func { docDef d.name d.params d.body d.scope pm cd doc with defaults := dV, kwdefaults := kV } → s₁.heap.CodeRec cd d.name → Dflts mg s₁.heap d.params kwd dV kV → mg d.name = some (.ref a) → s₁.gens = #[] →
    ∀ (args : List WData) (vals : List Value) (as : List Addr), r.claim.pre args = true → WData.layableAll args = true → ReadsAllW r.records (classAt s₀.heap) s₁.heap vals args as → WellAll w.params s₁.heap vals args → (∀ a ∈ as, (a == sysModules) = false) →
      wpN (model r.prog w) callerA (PySem.call (.ref a) vals) (fun v s' => GoodWG r.claim (classAt s₀.heap) (ExcName.means s₀.heap) args s₁ (.ok (.ret v)) s')
        (fun e s' => GoodWG r.claim (classAt s₀.heap) (ExcName.means s₀.heap) args s₁ (.error e) s') s₁
/-- what laying the arguments does -/
theorem laying {r : RowW} {q : Program} {loose : List PySem.Str} {XP : (PySem.Str → Option Value) → Heap → Prop} {w : World} {s : Shared} {mg mb : PySem.Str → Option Value} (G : Ground q loose r.records XP w s mg mb s.heap) (hgens : s.gens = #[]) {args : List WData}
    (hpre : r.claim.pre args = true) (hlay : WData.layableAll args = true) {ord : List DictEntry → List DictEntry} (hord : ∀ l, (ord l).Perm l) :
    ∃ vs s₁ as, layAllW r.records (classAt s.heap) w.params ord args s = some (vs, s₁) ∧ Laid r.records w s s₁ args vs as ∧ s₁.heap.life = s.heap.life := by
  have some := layAllW_isSome (P := w.params) (ord := ord) G.has args r.args s (pre_splitW hpre).1
  cases e : layAllW r.records (classAt s.heap) w.params ord args s with
  | none => rw [e] at some; cases some
  | some p =>
    have alike := layAllW_rest _ _ _ e
    obtain ⟨as, rd, inn, old⟩ := reads_layAllW hord _ _ _ e hlay p.2.heap fun _ _ x => x
    exact ⟨p.1, p.2, as, rfl, ⟨⟨ord, hord, e⟩, rd, inn, old, layAllW_keeps _ _ _ e, alike.1.trans hgens, alike.2.2.1⟩, alike.2.2.2⟩
/-- the head of an open row, the walk asked on a clean stack alone; open_top finds it by its name -/
theorem PySem.W.holds_open {r : OpenRow} {q : Program} {loose : List PySem.Str} {Xt : Shared → Bool} {XP : (PySem.Str → Option Value) → Heap → Prop} {α : Type} {Yf : Shared → α} {Ya : World → α} {YP : World → Heap → Prop} {d : DefRec} {kwd : List (PySem.Str × Expr)} {N : Nat}
    (left : ∀ w, (openEnds treeTable r.prog w N).map (fun s => (openSeen q loose (importedModules r.prog.main.body) Xt true s, Yf s)) = some (openGood q loose, Ya w)) (hY : ∀ w s, Yf s = Ya w → YP w s.heap) (hYk : ∀ w h h', YP w h → (∀ b o, h.get? b = some o → h'.get? b = some o) → YP w h')
    (hX : ∀ s, Xt s = true → XP (s.heap.nsMap mainGlobals) s.heap) (hXk : ∀ mg h h', XP mg h → (∀ b o, h.get? b = some o → h'.get? b = some o) → XP mg h')
    (hdef : defOf q r.name = some (d, kwd)) (hp : r.prog.theDef r.name = some (d.params, d.body, d.scope)) (hk : kwWritten? d.params.kwonlyargs d.params.kw_defaults = some kwd) (hRf : ∀ s, Xt s = true → RecFacts r.records s.heap) (hwr : (!r.writes || r.records.isEmpty) = true)
    (k1 : r.wellSaid = true) (ok : (chainsOk q && opensWell r.prog && (frees r.toRowW && r.within.isEmpty)) = true) (hb : r.prog.bare) (hw : r.toRowW.promised)
    (call : WalkP q loose XP YP r.toRowW d kwd) : r.Holds := by
  rw [Bool.and_eq_true, Bool.and_eq_true, Bool.and_eq_true] at ok
  have free := frees_parts ok.2.1
  have noWithin : r.toRowW.claim.within = [] := List.isEmpty_iff.mp ok.2.2
  have noMakers : r.toRowW.claim.makers = [] := congrArg (List.map _) free.2.2.2.2
  have top := fun w => LeftO.behind (p := r.prog) (g0 := true) left (XP := fun mg h => XP mg h ∧ RecFacts r.records h) (fun s e => ⟨hX s e, hRf s e⟩) ok.1.1 w
  refine ⟨k1, hw, ⟨hb, ok.1.2, noMakers⟩, hw.witness, fun w => ⟨(top w).1, fun sA hA => ?_⟩⟩
  obtain ⟨s₀, fence, bare, s, ran, sleeps, noGens, main, GX, seen⟩ := (top w).2 sA hA
  have G : Ground q loose [] XP w s (s.heap.nsMap mainGlobals) (s.heap.nsMap builtinsNs) s.heap := { GX with X := GX.X.1 }
  refine ⟨s₀, fence, bare, s, ran, fun n hn => ?_, GX.X.2.1, GX.X.2.2.1, fun args hpre hlay ord hord => ?_⟩
  · have here : n = r.name := by cases hpin : r.pinned <;> simpa [hpin] using hn
    rw [here]
    exact pinned_of_view main G hdef hp hk
  · have noG : s.gens = #[] := Array.size_eq_zero_iff.mp (beq_iff_eq.mp noGens)
    obtain ⟨vs, s₁, as, laid, L, life⟩ := laying (r := r.toRowW) (GX.X.2.ground G) noG hpre hlay hord
    have G₁ := (GX.X.2.ground G).keeps hXk L.keeps
    obtain ⟨a, o, pm, cd, doc, dV, kV, f1, f2, f3, f4, f5⟩ := G₁.fn hdef
    obtain ⟨n, res, sE, sB, run, eh, eo, el, good⟩ := calls_clean (c := r.toRowW.claim) (name := r.name) G₁.T.g f1 (Shared.asleep_of_life life sleeps)
      (call w s s₁ _ _ G₁ (hYk _ _ _ (hY w s seen) L.keeps) a o pm cd doc dV kV f2 f3 f4 f5 (defOf_name hdef ▸ f1) L.gens args vs as hpre hlay L.reads L.well (L.low G.low))
    obtain ⟨ends, os, gb⟩ := good.laid free.1 noWithin (ident_freeW free.2.1 free.2.2.1 free.2.2.2.1) L
    have ends := ends.congr eh
    refine ⟨vs, s₁, laid, n, _, sE, run, ?_, fun _ i x hx => ?_, fun wr => ?_, ?_, Shared.rest_eq (eo.trans os)⟩
    · refine ends.imp (fun ⟨v, e, p⟩ => ⟨v, by rw [e]; rfl, p.1, p.2.1, p.2.2.1, fun b o hb _ => p.2.2.2.1 b o hb, p.2.2.2.2⟩) fun ⟨e, ob, cls, er, p⟩ => ⟨e, ob, cls, by rw [er]; rfl, p.1, p.2.1, p.2.2.1, p.2.2.2.1, fun b o hb _ => p.2.2.2.2 b o hb⟩
    · rw [noG] at hx; exact absurd hx (by simp)
    · rw [eh]; exact ⟨namesKept_of ran main r.keeps L.keeps good.2.1.old, noTable hwr wr⟩
    · rw [el, life]
end Mine
end
-- Top168
section
open PySem PySem.W PyProof.Rows
namespace Mine
set_option maxRecDepth 100000 in
set_option maxHeartbeats 0 in
open_top hd for (PySem.Challenge.rw_pd0168_01.row)
end Mine
end
-- Base168
section
open PySem PySem.W PyProof.Rows PySem.Calls
namespace Mine
noncomputable abbrev PG : Program := PySem.Challenge.rw_pd0168_01.row.prog
noncomputable abbrev NoE : Value → Shared → Prop := fun _ _ => False
/-- the names m, but x is v -/
noncomputable def setN (m : Str → Option Value) (x : Str) (v : Value) : Str → Option Value := fun y => if y = x then some v else m y
/-- the ground: the written part of the top and the names of the top -/
structure Gd (w : World) (g : Heap) : Prop where
  k : (hd.heap_1 w.params).In g
  t : ∃ loose mg mb, TopRead hd.view_1 loose mg mb g
theorem Gd.mono {w : World} {g g' : Heap} (G : Gd w g) (k : g.StaysIn g') : Gd w g' :=
  ⟨G.k.keeps k, let ⟨a, b, c, t⟩ := G.t; ⟨a, b, c, t.keeps k⟩⟩
/-- the state of a frame: its names (local or in cells), the base that stays, the ledger of what may change or is new -/
structure St (g : Heap) (env : Env) (h : Heap) (m : Str → Option Value) (nx : List (Addr × Obj)) : Prop where
  ns : ∃ mL, h.Ns env.locals mL ∧ ∀ x, env.kindOf x = some .local → mL x = m x
  cell : ∀ x c, env.cells.lookup x = some c → h.IsCell c (m x)
  led : ∀ p ∈ nx, h.get? p.1 = some p.2
  apart : (nx.map (·.1)).Nodup
  apartC : env.cells.Pairwise fun x y => x.2 ≠ y.2
  free : ∀ p ∈ nx, p.1 ≠ env.locals ∧ ∀ x c, (x, c) ∈ env.cells → p.1 ≠ c
  keep : g.StaysIn h
  freshL : g.get? env.locals = none
  freshC : ∀ x c, (x, c) ∈ env.cells → g.get? c = none
  freshN : ∀ p ∈ nx, g.get? p.1 = none
  nLC : ∀ x c, (x, c) ∈ env.cells → c ≠ env.locals
  kinds : ∀ x c, (x, c) ∈ env.cells → env.kindOf x ≠ some .local
  cells1 : ∀ x c, (x, c) ∈ env.cells → env.cells.lookup x = some c
section
variable {g h h' : Heap} {env : Env} {m : Str → Option Value} {nx : List (Addr × Obj)}
theorem St.lt (S : St g env h m nx) : env.locals < h.objs.size := let ⟨_, n, _⟩ := S.ns; n.lt
/-- everything of h stays -/
theorem St.kept (S : St g env h m nx) (k : h.StaysIn h') : St g env h' m nx where
  ns := let ⟨mL, n, e⟩ := S.ns; ⟨mL, n.keeps k, e⟩
  cell := fun x c e => (S.cell x c e).keeps k
  led := fun p hp => k _ _ (S.led p hp)
  apart := S.apart
  apartC := S.apartC
  free := S.free
  keep := fun b o e => k _ _ (S.keep b o e)
  freshL := S.freshL
  freshC := S.freshC
  freshN := S.freshN
  nLC := S.nLC
  kinds := S.kinds
  cells1 := S.cells1
theorem St.push (S : St g env h m nx) (o : Obj) (hf : o.isFreed = false) : St g env (h.push o) m ((h.objs.size, o) :: nx) := by
  have S' := S.kept (h' := h.push o) fun b x e => Heap.get?_push_of_some _ e
  refine { S' with led := ?_, apart := ?_, free := ?_, freshN := ?_ }
  · intro p hp
    rcases List.mem_cons.mp hp with rfl | hp
    · exact Heap.get?_push_size _ hf
    · exact S'.led p hp
  · refine List.nodup_cons.mpr ⟨fun q => ?_, S.apart⟩
    obtain ⟨p, hp, e⟩ := List.mem_map.mp q
    exact absurd (Heap.lt_size (S.led p hp)) (by rw [e]; exact Nat.lt_irrefl _)
  · intro p hp
    rcases List.mem_cons.mp hp with rfl | hp
    · exact ⟨Nat.ne_of_gt S.lt, fun x c hc => Nat.ne_of_gt (S.cell x c (S.cells1 x c hc)).lt⟩
    · exact S.free p hp
  · intro p hp
    rcases List.mem_cons.mp hp with rfl | hp
    · show g.get? h.objs.size = none
      cases q : g.get? h.objs.size with
      | none => rfl
      | some o' => exact absurd (Heap.lt_size (S.keep _ _ q)) (Nat.lt_irrefl _)
    · exact S.freshN p hp
theorem mem_fst_of_get {i : Nat} {d : Addr} {o : Obj} (hi : nx[i]? = some (d, o)) : (d, o) ∈ nx := List.mem_of_getElem? hi
theorem St.at (S : St g env h m nx) {i : Nat} {d : Addr} {o : Obj} (hi : nx[i]? = some (d, o)) : h.get? d = some o := S.led _ (mem_fst_of_get hi)
/-- one object of the ledger is changed -/
theorem St.upd (S : St g env h m nx) {i : Nat} {d : Addr} {o o' : Obj} (hi : nx[i]? = some (d, o)) (hk : ∀ b x, b ≠ d → h.get? b = some x → h'.get? b = some x) (hd : h'.get? d = some o') :
    St g env h' m (nx.set i (d, o')) := by
  have hm := mem_fst_of_get hi
  have ef : (nx.set i (d, o')).map (·.1) = nx.map (·.1) := by
    rw [List.map_set]
    refine List.ext_getElem? fun j => ?_
    rw [List.getElem?_set]
    split
    · rename_i e; subst e
      split
      · rw [List.getElem?_map, hi]; rfl
      · rename_i hn
        rw [List.length_map] at hn
        exact absurd (List.getElem?_eq_some_iff.mp hi).1 hn
    · rfl
  have hin : ∀ p ∈ nx.set i (d, o'), p = (d, o') ∨ (p ∈ nx ∧ p.1 ≠ d) := by
    intro p hp
    obtain ⟨j, hj⟩ := List.mem_iff_getElem?.mp hp
    rw [List.getElem?_set] at hj
    split at hj
    · split at hj
      · exact .inl (Option.some.inj hj).symm
      · cases hj
    · rename_i hne
      refine .inr ⟨List.mem_of_getElem? hj, fun e => hne ?_⟩
      have h1 : (nx.map (·.1))[i]? = some d := by rw [List.getElem?_map, hi]; rfl
      have h2 : (nx.map (·.1))[j]? = some d := by rw [List.getElem?_map, hj, ← e]; rfl
      exact (List.getElem?_inj (by rw [List.length_map]; exact (List.getElem?_eq_some_iff.mp hi).1) S.apart).mp (h1.trans h2.symm)
  obtain ⟨mL, hn, hmL⟩ := S.ns
  have fr := S.free _ hm
  refine { ns := ⟨mL, hn.at' fun x e => hk _ _ (Ne.symm fr.1) e, hmL⟩, cell := ?_, led := ?_, apart := by rw [ef]; exact S.apart, apartC := S.apartC, free := ?_, keep := ?_, freshL := S.freshL, freshC := S.freshC, freshN := ?_, nLC := S.nLC, kinds := S.kinds, cells1 := S.cells1 }
  · intro x c e
    obtain ⟨ox, ho, hx⟩ := S.cell x c e
    exact ⟨ox, hk _ _ (Ne.symm (fr.2 x c (mem_of_lookup e))) ho, hx⟩
  · intro p hp
    rcases hin p hp with rfl | ⟨h1, h2⟩
    · exact hd
    · exact hk _ _ h2 (S.led p h1)
  · intro p hp
    rcases hin p hp with rfl | ⟨h1, h2⟩
    · exact fr
    · exact S.free p h1
  · intro b x e
    refine hk _ _ (fun q => ?_) (S.keep b x e)
    rw [q, S.freshN _ hm] at e; cases e
  · intro p hp
    rcases hin p hp with rfl | ⟨h1, h2⟩
    · exact S.freshN (d, o) hm
    · exact S.freshN p h1
/-- the ledger in another order, or with less in it -/
theorem St.mem {nx' : List (Addr × Obj)} (S : St g env h m nx) (hs : ∀ p ∈ nx', p ∈ nx) (hn : (nx'.map (·.1)).Nodup) : St g env h m nx' :=
  { S with led := fun p hp => S.led p (hs p hp), apart := hn, free := fun p hp => S.free p (hs p hp), freshN := fun p hp => S.freshN p (hs p hp) }
theorem St.roll {p : Addr × Obj} (S : St g env h m (p :: nx)) : St g env h m (nx ++ [p]) := by
  refine S.mem (fun q hq => ?_) ?_
  · rcases List.mem_append.mp hq with h | h
    · exact .tail _ h
    · rw [List.mem_singleton.mp h]; exact .head _
  · have := List.nodup_cons.mp S.apart
    rw [List.map_append]
    refine List.nodup_append.mpr ⟨this.2, by simp, fun a ha b hb => ?_⟩
    have : b = p.1 := by simpa using hb
    subst this
    intro e; subst e; exact (List.nodup_cons.mp S.apart).1 ha
theorem St.forget0 {p : Addr × Obj} (S : St g env h m (p :: nx)) : St g env h m nx := S.mem (fun _ hq => .tail _ hq) (List.nodup_cons.mp S.apart).2
theorem St.forget1 {p q : Addr × Obj} (S : St g env h m (p :: q :: nx)) : St g env h m (p :: nx) := by
  have h1 := List.nodup_cons.mp S.apart
  have h2 := List.nodup_cons.mp h1.2
  refine S.mem (fun r hr => ?_) (List.nodup_cons.mpr ⟨fun e => h1.1 (.tail _ e), h2.2⟩)
  rcases List.mem_cons.mp hr with h | h
  · rw [h]; exact .head _
  · exact .tail _ (.tail _ h)
theorem hide_off {h : Heap} {D : List Addr} {b : Addr} {o : Obj} (e : h.get? b = some o) (n : b ∉ D) : (hideAll h D).get? b = some o := hideAll_get D e n
/-- a new base: what stands is kept, but for the frame's own and the ledger nx -/
theorem St.rebase {extra : List (Addr × Obj)} (S : St g env h m (nx ++ extra)) :
    ∃ g', g.StaysIn g' ∧ St g' env h m nx ∧ (∀ p ∈ extra, g'.get? p.1 = some p.2) ∧ (∀ b o, h.get? b = some o → b ≠ env.locals → (∀ x c, (x, c) ∈ env.cells → b ≠ c) → (∀ p ∈ nx, b ≠ p.1) → g'.get? b = some o) := by
  have off : ∀ b o, h.get? b = some o → b ≠ env.locals → (∀ x c, (x, c) ∈ env.cells → b ≠ c) → (∀ p ∈ nx, b ≠ p.1) → b ∉ env.locals :: (env.cells.map (·.2) ++ nx.map (·.1)) := by
    intro b o _ h1 h2 h3 hm
    rcases List.mem_cons.mp hm with e | hm
    · exact h1 e
    · rcases List.mem_append.mp hm with hm | hm
      · obtain ⟨p, hp, e⟩ := List.mem_map.mp hm; exact h2 p.1 p.2 hp e.symm
      · obtain ⟨p, hp, e⟩ := List.mem_map.mp hm; exact h3 p hp e.symm
  have nd := S.apart
  rw [List.map_append] at nd
  have nd' := List.nodup_append.mp nd
  refine ⟨hideAll h (env.locals :: (env.cells.map (·.2) ++ nx.map (·.1))), fun b o e => hide_off (S.keep b o e) (off b o (S.keep b o e) ?_ ?_ ?_), { ns := S.ns, cell := S.cell, led := fun p hp => S.led p (List.mem_append_left _ hp), apart := nd'.1, apartC := S.apartC, free := fun p hp => S.free p (List.mem_append_left _ hp), keep := fun b o e => of_hideAll _ e, freshL := hideAll_none _ (.head _), freshC := ?_, freshN := ?_, nLC := S.nLC, kinds := S.kinds, cells1 := S.cells1 }, ?_, fun b o e h1 h2 h3 => hide_off e (off b o e h1 h2 h3)⟩
  · intro q; rw [q, S.freshL] at e; cases e
  · intro x c hc q; rw [q, S.freshC x c hc] at e; cases e
  · intro p hp q; rw [q, S.freshN p (List.mem_append_left _ hp)] at e; cases e
  · intro x c hc; exact hideAll_none _ (.tail _ (List.mem_append_left _ (List.mem_map_of_mem (f := Prod.snd) hc)))
  · intro p hp; exact hideAll_none _ (.tail _ (List.mem_append_right _ (List.mem_map_of_mem (f := Prod.fst) hp)))
  · intro p hp
    have hp' := List.mem_append_right nx hp
    refine hide_off (S.led p hp') (off _ _ (S.led p hp') (S.free p hp').1 (S.free p hp').2 fun q hq e => ?_)
    exact nd'.2.2 _ (List.mem_map_of_mem (f := Prod.fst) hq) _ (List.mem_map_of_mem (f := Prod.fst) hp) e.symm
theorem St.setL (S : St g env h m nx) {x : Str} {v : Value} (hl : env.kindOf x = some .local) {mL : Str → Option Value} (hmL : ∀ y, env.kindOf y = some .local → mL y = m y)
    (hn : h'.Ns env.locals (fun y => if y = x then some v else mL y)) (hs : Heap.SameBut env.locals h h') : St g env h' (setN m x v) nx where
  ns := ⟨_, hn, fun y hy => by by_cases e : y = x <;> simp [setN, e, hmL y hy]⟩
  cell := fun y c e => by
    have hm := mem_of_lookup e
    have hne : y ≠ x := fun q => S.kinds y c hm (q ▸ hl)
    simp only [setN, if_neg hne]
    exact (S.cell y c e).sameBut hs (S.nLC y c hm)
  led := fun p hp => (hs.2 _ (S.free p hp).1).trans (S.led p hp)
  apart := S.apart
  apartC := S.apartC
  free := S.free
  keep := fun b o e => (hs.2 b (fun q => by rw [q, S.freshL] at e; cases e)).trans (S.keep b o e)
  freshL := S.freshL
  freshC := S.freshC
  freshN := S.freshN
  nLC := S.nLC
  kinds := S.kinds
  cells1 := S.cells1
theorem St.setC (S : St g env h m nx) {x : Str} {v : Value} {c : Addr} (hc : env.cells.lookup x = some c) (hv : h'.IsCell c (some v)) (hs : Heap.SameBut c h h') :
    St g env h' (setN m x v) nx := by
  have hm := mem_of_lookup hc
  obtain ⟨mL, hn, hmL⟩ := S.ns
  refine { ns := ⟨mL, hn.sameBut hs (Ne.symm (S.nLC x c hm)), fun y hy => ?_⟩, cell := ?_, led := fun p hp => (hs.2 _ ((S.free p hp).2 x c hm)).trans (S.led p hp), apart := S.apart, apartC := S.apartC, free := S.free, keep := fun b o e => (hs.2 b (fun q => by rw [q, S.freshC x c hm] at e; cases e)).trans (S.keep b o e), freshL := S.freshL, freshC := S.freshC, freshN := S.freshN, nLC := S.nLC, kinds := S.kinds, cells1 := S.cells1 }
  · have hne : y ≠ x := fun q => S.kinds x c hm (q ▸ hy)
    simp only [setN, if_neg hne]; exact hmL y hy
  · intro y c' e
    by_cases q : y = x
    · subst q; rw [hc] at e; cases e; simpa [setN] using hv
    · simp only [setN, if_neg q]
      exact (S.cell y c' e).sameBut hs fun e' => q (name_of_addr S.apartC (mem_of_lookup e) (e' ▸ hm))
end
section
variable {w : World} {M : Model} {A : Around} {E : Value → Shared → Prop} {s : Shared} {g : Heap} {env : Env} {m : Str → Option Value} {nx : List (Addr × Obj)}
theorem nm_local {x : Str} {pos : Pos} {v : Value} {Q : Value → Shared → Prop} (S : St g env s.heap m nx) (hk : env.scope.kind = .function) (hl : env.kindOf x = some .local) (hv : m x = some v) (h : Q v s)
    (hd : (x == ("__debug__" : Str)) = false) : wpAny M A (eval (.Name x pos) env) Q E s :=
  let ⟨_, hn, hm⟩ := S.ns
  wpAny_Name (wpAny_loadName_local hk hl hn ((hm x hl).trans hv) h) hd
theorem nm_cell {x : Str} {pos : Pos} {v : Value} {c : Addr} {Q : Value → Shared → Prop} (S : St g env s.heap m nx) (hk : env.scope.kind = .function) (hl : env.kindOf x = some .cell) (hc : env.cells.lookup x = some c) (hv : m x = some v) (h : Q v s)
    (hd : (x == ("__debug__" : Str)) = false) : wpAny M A (eval (.Name x pos) env) Q E s :=
  wpAny_Name (wpAny_loadName_cell hk hl hc (hv ▸ S.cell x c hc) h) hd
theorem nm_free {x : Str} {pos : Pos} {v : Value} {c : Addr} {Q : Value → Shared → Prop} (S : St g env s.heap m nx) (hk : env.scope.kind = .function) (hl : env.kindOf x = some .free) (hc : env.cells.lookup x = some c) (hv : m x = some v) (h : Q v s)
    (hd : (x == ("__debug__" : Str)) = false) (hn : (x == ("__classdict__" : Str)) = false) : wpAny M A (eval (.Name x pos) env) Q E s :=
  wpAny_Name (wpAny_loadName_free hk hl hc (hv ▸ S.cell x c hc) h hn) hd
theorem nm_glob {x : Str} {pos : Pos} {v : Value} {Q : Value → Shared → Prop} (S : St g env s.heap m nx) (G : Gd w g) (e : nsIn (hd.heap_1 w.params) mainGlobals x = some (some v)) (h : Q v s)
    (hk : env.scope.kind = .function) (hx : env.kindOf x = some .globalImplicit) (hg : env.globals = mainGlobals) (hd : (x == ("__debug__" : Str)) = false) : wpAny M A (eval (.Name x pos) env) Q E s := by
  obtain ⟨_, mg, mb, T⟩ := G.t
  exact Name_function_global hk hx (loadGlobal_global (by rw [hg]; exact T.g.keeps S.keep) (mg_of G.k T.g e) h) hd
theorem nm_boot {x : Str} {pos : Pos} {v : Value} {Q : Value → Shared → Prop} (S : St g env s.heap m nx) (G : Gd w g) (e : nsIn (hd.heap_1 w.params) mainGlobals x = some none) (hv : bootBuiltins x = some v) (hn : x ≠ "__name__") (h : Q v s)
    (hk : env.scope.kind = .function) (hx : env.kindOf x = some .globalImplicit) (hg : env.globals = mainGlobals) (hb : env.builtins = builtinsNs) (hd : (x == ("__debug__" : Str)) = false) : wpAny M A (eval (.Name x pos) env) Q E s := by
  obtain ⟨_, mg, mb, T⟩ := G.t
  exact Name_function_global hk hx (loadGlobal_builtin (by rw [hg]; exact T.g.keeps S.keep) (mg_none_of G.k T.g e) (by rw [hb]; exact T.b.keeps S.keep) ((T.builtins x hn).trans hv) h) hd
theorem ldn_local {x : Str} {v : Value} {Q : Value → Shared → Prop} (S : St g env s.heap m nx) (hk : env.scope.kind = .function) (hl : env.kindOf x = some .local) (hv : m x = some v) (h : Q v s) : wpAny M A (loadName env x) Q E s :=
  let ⟨_, hn, hm⟩ := S.ns
  wpAny_loadName_local hk hl hn ((hm x hl).trans hv) h
theorem ldn_cell {x : Str} {v : Value} {c : Addr} {Q : Value → Shared → Prop} (S : St g env s.heap m nx) (hk : env.scope.kind = .function) (hl : env.kindOf x = some .cell) (hc : env.cells.lookup x = some c) (hv : m x = some v) (h : Q v s) : wpAny M A (loadName env x) Q E s :=
  wpAny_loadName_cell hk hl hc (hv ▸ S.cell x c hc) h
theorem sto_local {hp : Heap} {ga : Array GenState} {dr : Drawn} {tn : Nat} {os : OsState} {x : Str} {v : Value} {Q : Unit → Shared → Prop} (S : St g env hp m nx) (hk : env.scope.kind = .function) (hl : env.kindOf x = some .local)
    (h : ∀ h', St g env h' (setN m x v) nx → Q () ⟨h', ga, dr, tn + 1, os⟩) : wpAny M A (storeName env x v) Q E ⟨hp, ga, dr, tn, os⟩ := by
  obtain ⟨mL, hn, hm⟩ := id S.ns
  exact wpAny_storeName_local hl hn (fun h' hn' hs => h h' (S.setL hl hm hn' hs)) (by rw [hk]; rfl)
theorem sto_cell {hp : Heap} {ga : Array GenState} {dr : Drawn} {tn : Nat} {os : OsState} {x : Str} {v : Value} {c : Addr} {Q : Unit → Shared → Prop} (S : St g env hp m nx) (hk : env.scope.kind = .function) (hl : env.kindOf x = some .cell) (hc : env.cells.lookup x = some c)
    (h : ∀ h', St g env h' (setN m x v) nx → Q () ⟨h', ga, dr, tn, os⟩) : wpAny M A (storeName env x v) Q E ⟨hp, ga, dr, tn, os⟩ :=
  wpAny_storeName_cell hk hl hc (S.cell x c hc) fun h' hv hs => h h' (S.setC hc hv hs)
theorem new_tuple {hp : Heap} {ga : Array GenState} {dr : Drawn} {tn : Nat} {os : OsState} {vs : List Value} {Q : Value → Shared → Prop} (S : St g env hp m nx)
    (h : ∀ a h', St g env h' m ((a, { cls := .type "tuple", data := .seq vs.toArray }) :: nx) → hp.get? a = none → hp.StaysIn h' → Q (.ref a) ⟨h', ga, dr, tn, os⟩) (hsz : vs.length ≤ sizeLine) : wpAny M A (newTuple vs) Q E ⟨hp, ga, dr, tn, os⟩ :=
  wpAny_newObj_type (h _ _ (S.push _ rfl) (by cases q : hp.get? hp.objs.size with | none => rfl | some o => exact absurd (Heap.lt_size q) (Nat.lt_irrefl _)) fun b o e => Heap.get?_push_of_some _ e) (by show vs.toArray.size ≤ sizeLine; rw [List.size_toArray]; exact hsz)
theorem new_list {hp : Heap} {ga : Array GenState} {dr : Drawn} {tn : Nat} {os : OsState} {vs : List Value} {Q : Value → Shared → Prop} (S : St g env hp m nx)
    (h : ∀ a h', St g env h' m ((a, listOf vs.toArray 0) :: nx) → hp.get? a = none → hp.StaysIn h' → Q (.ref a) ⟨h', ga, dr, tn, os⟩) (hsz : vs.length ≤ sizeLine) : wpAny M A (newList vs) Q E ⟨hp, ga, dr, tn, os⟩ :=
  wpAny_newObj_type (h _ _ (S.push _ rfl) (by cases q : hp.get? hp.objs.size with | none => rfl | some o => exact absurd (Heap.lt_size q) (Nat.lt_irrefl _)) fun b o e => Heap.get?_push_of_some _ e) (by show vs.toArray.size ≤ sizeLine; rw [List.size_toArray]; exact hsz)
end
/-- the parameters, by their names, wherever they lie -/
theorem bindL_at (kindOf : Str → Option NameKind) {y : Str} (hy : kindOf y = some .local) : ∀ (binds : List (Str × Value)) (m₁ m₂ : Str → Option Value), m₁ y = m₂ y →
    bindL kindOf binds m₁ y = binds.foldl (fun m p => fun z => if z = p.1 then some p.2 else m z) m₂ y
  | [], _, _, e => e
  | (n, v) :: r, m₁, m₂, e => by
    unfold bindL
    rw [List.foldl_cons]
    refine bindL_at kindOf hy r _ _ ?_
    by_cases q : y = n
    · subst q; simp [hy]
    · by_cases hl : kindOf n = some .local
      · simp [hl, q, e]
      · simp [hl, q, e]
theorem bindC_at (kindOf : Str → Option NameKind) {y : Str} (hy : kindOf y ≠ some .local) : ∀ (binds : List (Str × Value)) (m₁ m₂ : Str → Option Value), m₁ y = m₂ y →
    bindC kindOf binds m₁ y = binds.foldl (fun m p => fun z => if z = p.1 then some p.2 else m z) m₂ y
  | [], _, _, e => e
  | (n, v) :: r, m₁, m₂, e => by
    unfold bindC
    rw [List.foldl_cons]
    refine bindC_at kindOf hy r _ _ ?_
    by_cases q : y = n
    · subst q; simp [hy]
    · by_cases hl : kindOf n = some .local
      · simp [hl, q, e]
      · simp [hl, q, e]
noncomputable abbrev bindAll (binds : List (Str × Value)) : Str → Option Value := binds.foldl (fun m p => setN m p.1 p.2) (fun _ => none)
noncomputable abbrev retQ (Q : Value → Shared → Prop) : Flow → Shared → Prop := fun fl s' => Q (match fl with | .ret v => v | _ => .none) s'
section
variable {w : World} {A : Around} {s : Shared} {g : Heap} {name qual : Str} {params : Arguments} {body : List Stmt} {scope : Scope} {dV kV doc pm cdv ct oc : Value} {an od : Option Addr} {osl : Array (Option Value)} {f : Addr}
  {args : List Value} {binds : List (Str × Value)} {Q E : Value → Shared → Prop}
theorem enter_at (D : List (Addr × Obj)) (s₀ : Shared) (G : Gd w g) (st₀ : g.StaysIn s₀.heap) (st : g.StaysIn s.heap) (hD : ∀ p ∈ D, s.heap.get? p.1 = some p.2 ∧ g.get? p.1 = none) (hnd : (D.map (·.1)).Nodup)
    (ho : (hd.heap_1 w.params).lookup f = some ⟨oc, od, .func (fnOf name qual params body scope dV kV doc pm an cdv ct), osl⟩) (hcd : codeIn (hd.heap_1 w.params) cdv qual = true) (hroom : A.depth < recursionLimit)
    (hbind : ∀ (M : Model) (A : Around) (E : Value → Shared → Prop) (Q : List (Str × Value) → Shared → Prop), Q binds s → wpAny M A (bindArgs (fnOf name qual params body scope dV kV doc pm an cdv ct) ⟨args, []⟩) Q E s₀)
    (hkind : (binds.all fun y => scope.names.lookup y.1 == some .local || scope.names.lookup y.1 == some .cell) = true)
    (hnc : ((cellsFrom 0 scope.names []).map (·.1)).Nodup) (hlc : ∀ x ∈ (cellsFrom 0 scope.names []).map (·.1), scope.names.lookup x ≠ some .local)
    (h : ∀ g' L h₁ tk, Gd w g' → (∀ b o, b ∉ D.map (·.1) → s.heap.get? b = some o → g'.get? b = some o) → St g' (envOfC qual scope L f cdv) h₁ (bindAll binds) D →
      wpAny (model PG w) (A.deeper (envOfC qual scope L f cdv)) (execs body (envOfC qual scope L f cdv)) (retQ Q) NoE { s with heap := h₁, toks := tk })
    (hco : scope.isCoroutine = false) (hgen : scope.isGenerator = false) (hk : scope.kind = .function) : wpAny (model PG w) A (call (.ref f) args) Q E s₀ := by
  obtain ⟨_, _, _, T⟩ := G.t
  have X : (hd.heap_1 w.params).In s₀.heap := G.k.keeps st₀
  refine wpAny_call (codeAny_call_function hroom (X _ _ ho) rfl hco hgen rfl (codeRec_of X hcd) (hbind _ _ _ _ ?_))
  refine wpAny_newFunctionEnv_cells hk (kindsX hkind _) fun env' he s' x => ?_
  subst he
  refine ⟨(T.nolimit.keeps st).keeps x.toInCall.keep, codeAny_func ?_⟩
  obtain ⟨h₁, tk, rfl, _⟩ := x.done
  have hk₁ := x.toInCall.keep
  have hdn : ∀ b o, g.get? b = some o → b ∉ D.map (·.1) := fun b o e q => by
    obtain ⟨p, hp, rfl⟩ := List.mem_map.mp q
    rw [(hD p hp).2] at e; cases e
  have g1 : g.StaysIn (hideAll s.heap (D.map (·.1))) := fun b o e => hide_off (st b o e) (hdn b o e)
  have nm : (cellsFrom (s.heap.objs.size + 1) scope.names []).map (·.1) = (cellsFrom 0 scope.names []).map (·.1) := cellsFrom_names scope.names _ _ [] [] rfl
  have big : ∀ a, s.heap.objs.size ≤ a → (hideAll s.heap (D.map (·.1))).get? a = none := fun a ha => by
    cases q : (hideAll s.heap (D.map (·.1))).get? a with
    | none => rfl
    | some o => exact absurd (Heap.lt_size (of_hideAll _ q)) (Nat.not_lt.mpr ha)
  refine wpAny_mono (h (hideAll s.heap (D.map (·.1))) s.heap.objs.size h₁ tk (G.mono g1) (fun b o n e => hide_off e n) ?_) (fun _ _ q => q) fun _ _ q => q.elim
  have kd : ∀ y c, (y, c) ∈ cellsFrom (s.heap.objs.size + 1) scope.names [] → (envOfC qual scope s.heap.objs.size f cdv).kindOf y ≠ some .local := fun y c hm => hlc y (nm ▸ List.mem_map_of_mem (f := Prod.fst) hm)
  have c1 : ∀ y c, (y, c) ∈ cellsFrom (s.heap.objs.size + 1) scope.names [] → (cellsFrom (s.heap.objs.size + 1) scope.names []).lookup y = some c := fun y c hm => lookup_of_mem_nodup (nm ▸ hnc) hm
  exact {
    ns := ⟨_, x.toInCall.ns, fun y hy => bindL_at _ hy binds _ _ rfl⟩
    cell := fun y c e => by
      have q : h₁.IsCell c (bindC (envOfC qual scope s.heap.objs.size f cdv).kindOf binds (fun _ => none) y) := x.cell y c e
      rw [bindC_at _ (kd y c (mem_of_lookup e)) binds _ (fun _ => none) rfl] at q
      exact q
    led := fun p hp => hk₁ _ _ (hD p hp).1
    apart := hnd
    apartC := x.apart
    free := fun p hp => ⟨Nat.ne_of_lt (Heap.lt_size (hD p hp).1), fun y c hm e => absurd (x.above y c hm) (by rw [← e]; exact Nat.not_lt.mpr (Nat.le_of_lt (Heap.lt_size (hD p hp).1)))⟩
    keep := fun b o e => hk₁ b o (of_hideAll _ e)
    freshL := big _ (Nat.le_refl _)
    freshC := fun y c hm => big _ (Nat.le_of_lt (x.above y c hm))
    freshN := fun p hp => hideAll_none _ (List.mem_map_of_mem (f := Prod.fst) hp)
    nLC := fun y c hm => Nat.ne_of_gt (x.above y c hm)
    kinds := kd
    cells1 := c1 }
theorem enter (D : List (Addr × Obj)) (G : Gd w g) (st : g.StaysIn s.heap) (hD : ∀ p ∈ D, s.heap.get? p.1 = some p.2 ∧ g.get? p.1 = none) (hnd : (D.map (·.1)).Nodup)
    (ho : (hd.heap_1 w.params).lookup f = some ⟨oc, od, .func (fnOf name qual params body scope dV kV doc pm an cdv ct), osl⟩) (hcd : codeIn (hd.heap_1 w.params) cdv qual = true) (hroom : A.depth < recursionLimit)
    (hbind : BindsTo s (fnOf name qual params body scope dV kV doc pm an cdv ct) ⟨args, []⟩ binds)
    (hkind : (binds.all fun y => scope.names.lookup y.1 == some .local || scope.names.lookup y.1 == some .cell) = true)
    (hnc : ((cellsFrom 0 scope.names []).map (·.1)).Nodup) (hlc : ∀ x ∈ (cellsFrom 0 scope.names []).map (·.1), scope.names.lookup x ≠ some .local)
    (h : ∀ g' L h₁ tk, Gd w g' → (∀ b o, b ∉ D.map (·.1) → s.heap.get? b = some o → g'.get? b = some o) → St g' (envOfC qual scope L f cdv) h₁ (bindAll binds) D →
      wpAny (model PG w) (A.deeper (envOfC qual scope L f cdv)) (execs body (envOfC qual scope L f cdv)) (retQ Q) NoE { s with heap := h₁, toks := tk })
    (hco : scope.isCoroutine = false) (hgen : scope.isGenerator = false) (hk : scope.kind = .function) : wpAny (model PG w) A (call (.ref f) args) Q E s :=
  enter_at D s G st st hD hnd ho hcd hroom hbind hkind hnc hlc h hco hgen hk
end
end Mine
end
-- Om168
section
namespace Mine
theorem hh_412a {a b c : Nat} (h : b ≤ c + 1 + a) : a + b < 2 * (c + a).succ := by lia
theorem hh_407a {a b c q : Nat} (h : a ≤ c + 1 + b) (k : b + a < 2 * (q + 1)) : a ≤ c + (q + 1) := by lia
theorem hh_lt1 (a : Nat) : a < 2 * a + 1 := Nat.lt_succ_of_le (Nat.le_mul_of_pos_left a (by decide))
theorem hh_lt2 (a : Nat) : a < 2 * a + 2 := Nat.lt_succ_of_lt (hh_lt1 a)
theorem hh_step {a b c d : Nat} (h : a - b ≤ d + 1) (k : b < c) : a - c ≤ d := Nat.le_trans (Nat.sub_le_sub_left k a) (Nat.pred_le_pred h)
theorem hh_hle (a : Nat) : (a - 1) / 2 ≤ a := Nat.le_trans (Nat.div_le_self _ _) (Nat.sub_le _ _)
theorem hh_hlt {a : Nat} (h : 0 < a) : (a - 1) / 2 < a := Nat.lt_of_le_of_lt (Nat.div_le_self _ _) (Nat.sub_lt h Nat.one_pos)
theorem hh_d1 (a : Nat) : (2 * a + 1 - 1) / 2 = a := Nat.mul_div_cancel_left a (by decide)
theorem hh_d2 (a : Nat) : (2 * a + 2 - 1) / 2 = a := Nat.mul_add_div (by decide) a 1
theorem hh_big {a : Nat} (h : a < 10000) : (a : Int) < 9223372036854775808 := Int.ofNat_lt.mpr (Nat.lt_trans h (by decide))
theorem hh_low (a b : Nat) : (-9223372036854775808 : Int) ≤ (a : Int) + ((b : Int) - 1) := by lia
theorem hh_hi {a b : Nat} (h : a < 10000) (k : b < 10000) : (a : Int) + ((b : Int) - 1) < 9223372036854775808 := by lia
theorem hh_lt_of2 {a b : Nat} (h : 2 * a + 1 < b) : a < b := Nat.lt_trans (hh_lt1 a) h
theorem hh_half (a : Nat) : (((a : Nat) : Int) - 1 |> (· / 2)).toNat = (a - 1) / 2 := by cases a with | zero => rfl | succ n => exact congrArg Int.toNat (congrArg (· / 2) (Int.add_sub_cancel (n : Int) 1))
theorem hh_174 {a b c : Nat} (h0 : a ≤ 2 * b + 1) (h1 : 0 < c) (h2 : (c - 1) / 2 = b) (h3 : c < a) : False := by lia
theorem hh_375 {a : Nat} (h : a < 1000) : ((a : Int) - 1) / 2 < (2 : Int) ^ 63 := by omega
theorem hh_min5 (a : Nat) : min 5 a + (5 - min 5 a) = 5 := Nat.add_sub_of_le (Nat.min_le_left _ _)
theorem hh_29 {a b c d : Nat} (h : 0 < b) (k : a + 1 * b ≤ d) : a + (b - 1 - c) < d := Nat.lt_of_lt_of_le (Nat.add_lt_add_left (Nat.lt_of_le_of_lt (Nat.sub_le _ _) (Nat.sub_lt h Nat.one_pos)) a) (Nat.one_mul b ▸ k)
theorem hh_104 {a b c : Nat} (h : b < c) : a + 1 + b ≤ a + c := by lia
theorem hh_323 (a b : Nat) : a + 1 + b ≤ a + (2 * b + 2) := by lia
theorem hh_mid {a b : Nat} (h : a ≤ b) : (a + b) / 2 ≤ b := by lia
theorem hh_105 {a b : Nat} (h : b - a ≤ 0) : ¬ 2 * a + 1 < b := by lia
theorem hh_388 {a b c d : Nat} (h0 : ¬ a = b) (h1 : ¬ (b < a ∧ a ≤ c)) (h2 : b < d ∧ d ≤ c) (h3 : a = d - 1) : False := h1 ⟨Nat.lt_of_le_of_ne (h3 ▸ Nat.le_sub_one_of_lt h2.1) (Ne.symm h0), h3 ▸ Nat.le_trans (Nat.sub_le _ _) h2.2⟩
theorem hh_387 {a b c d : Nat} (h0 : a < b) (h1 : ¬ a = c) (h2 : ¬ (c < a ∧ a ≤ d)) (h3 : c < b ∧ b ≤ d) : a < b - 1 := Nat.lt_of_le_of_ne (Nat.le_sub_one_of_lt h0) fun e => hh_388 h1 h2 h3 e
theorem hh_50 {a b c d e f : Nat} (h0 : d = b) (h1 : f = a + b + e) : a + (b - c + (min c d + e)) = f := by
  subst h0 h1; rw [← Nat.add_assoc (d - c), Nat.min_comm, Nat.sub_add_min_cancel d c, Nat.add_assoc]
theorem hh_412 {a b c : Nat} (h : b - a ≤ c + 1) : (a + b) / 2 - a ≤ c := Nat.sub_le_of_le_add (Nat.le_of_lt_succ (Nat.div_lt_of_lt_mul (hh_412a (Nat.le_add_of_sub_le h))))
theorem hh_407 {a b c : Nat} (h : a - b ≤ c + 1) : a - ((b + a) / 2 + 1) ≤ c := Nat.sub_le_of_le_add (hh_407a (Nat.le_add_of_sub_le h) (Nat.lt_mul_div_succ (b + a) (by decide)))
theorem hh_347 {a b : Nat} (h : 48 ≤ b) : (a : Int) * 2 + b - 48 = ((a * 2 + (b - 48) : Nat) : Int) := by grind
theorem hh_8 {a b : Int} {c : Nat} (h : c ≤ 10000) : min a.toNat c ≤ 1000000 + b.toNat := Nat.le_trans (Nat.min_le_right _ _) (Nat.le_trans h (Nat.le_trans (by decide) (Nat.le_add_right 1000000 _)))
theorem hh_12 (a b : Nat) : (((a : Int) - b + 1 - 1) / 1).toNat = a - b := by rw [Int.ediv_one, Int.add_sub_cancel, Int.toNat_sub]
theorem hh_330 {a : Nat} (h : ¬ a = 0) : ((a - 1 : Nat) : Int) + 1 = (a : Int) := congrArg Int.ofNat (Nat.sub_one_add_one h)
theorem hh_101 {a b c d : Nat} (h0 : a + 1 = 1 + c) (h1 : b + 1 = d) : a + 1 + b = 1 + (c + 1 * (d - 1)) := by subst h1; rw [h0, Nat.add_sub_cancel, Nat.one_mul, Nat.add_assoc]
theorem hh_10 (a b : Nat) : ((a : Int) + 1 * (b : Int)).toNat = a + b := by rw [Int.one_mul]; rfl
theorem hh_376 {a : Nat} (h : (0 : Int) < a) : (0 : Int) ≤ ((a : Int) - 1) / 2 := Int.ediv_nonneg (Int.le_sub_one_of_lt h) (by decide)
theorem hh_304 {a : Nat} (h : ¬ (1 : Int) < a) : (0 : Int) = ((a - 1 : Nat) : Int) := congrArg Int.ofNat (Nat.sub_eq_zero_of_le (Int.ofNat_le.mp (Int.not_lt.mp h))).symm
theorem hh_266 (a : Int) : 2 + a % 3 = ((2 + (a % 3).toNat : Nat) : Int) := (congrArg (2 + ·) (Int.toNat_of_nonneg (Int.emod_nonneg a (by decide))).symm)
theorem hh_271 (a : Int) : 4 + a % 2 = ((4 + (a % 2).toNat : Nat) : Int) := (congrArg (4 + ·) (Int.toNat_of_nonneg (Int.emod_nonneg a (by decide))).symm)
theorem hh_373 {a : Nat} (h : (0 : Int) < a) : ((a : Int) - 1) / 2 = (((a - 1) / 2 : Nat) : Int) := by cases a with | zero => exact absurd h (by decide) | succ n => exact congrArg (· / 2) (Int.add_sub_cancel (n : Int) 1)
theorem hh_324 (a b : Nat) : a + 1 + b ≤ a + (2 * b + 1) := by lia
theorem hh_406 {a b : Nat} (h : a < b) : a + b < 2 * b := Nat.two_mul b ▸ Nat.add_lt_add_right h b
theorem hh_187 {a b : Nat} (h0 : 0 < a) (h1 : (a - 1) / 2 = b) : a = 2 * b + 1 ∨ a = 2 * b + 1 + 1 := by
  cases a with
  | zero => exact absurd h0 (by decide)
  | succ n =>
    subst h1
    have e : 2 * (n / 2) + n % 2 = n := Nat.div_add_mod n 2
    rcases Nat.mod_two_eq_zero_or_one n with q | q
    · exact .inl (congrArg (· + 1) ((congrArg (2 * (n / 2) + ·) q).symm.trans e).symm)
    · exact .inr (congrArg (· + 1) ((congrArg (2 * (n / 2) + ·) q).symm.trans e).symm)
theorem hh_mod2 (a : Int) : (a % 2).toNat ≤ 3 := Int.toNat_le.mpr (Int.le_trans (Int.le_of_lt (Int.emod_lt_of_pos a (show (0 : Int) < 2 by decide))) (by decide))
theorem hh_mod3 (a : Int) : (a % 3).toNat ≤ 2 := Int.toNat_le.mpr (Int.le_of_lt_add_one (Int.emod_lt_of_pos a (show (0 : Int) < 3 by decide)))
theorem hh_30 {a b c : Nat} (h : c < b) : (a : Int) + b - 1 - c = ((a + (b - 1 - c) : Nat) : Int) := by
  rw [Int.natCast_add, Int.ofNat_sub (Nat.le_sub_one_of_lt h), Int.ofNat_sub (Nat.lt_of_le_of_lt (Nat.zero_le _) h), Int.add_sub_assoc, Int.add_sub_assoc]; rfl
theorem hh_352 {a b c : Nat} (h : a < c) (l : b ≤ 49) : a * 2 + (b - 48) < c * 2 := Nat.lt_of_lt_of_le (Nat.add_lt_add_left (Nat.lt_succ_of_le (Nat.sub_le_of_le_add l)) (a * 2)) (Nat.le_trans (Nat.le_of_eq (Nat.succ_mul a 2).symm) (Nat.mul_le_mul_right 2 h))
theorem hh_514 {a : Nat} (h : 0 < a) : max (0 : Int) (min 1 ((2 * a : Nat) : Int)) = 1 := (congrArg (max 0) (Int.min_eq_left (Int.ofNat_le.mpr (Nat.mul_pos (by decide) h)))).trans rfl
theorem hh_279 {a : Int} {b : Nat} (h : 2 ≤ b) (k : a < b) : a.toNat < b := (Int.toNat_lt' (Nat.lt_of_lt_of_le (show 0 < 2 by decide) h)).mpr k
theorem om0 {a0 : Nat} (h0 : (a0 ≤ (10000 : Nat))) : (a0 ≤ (16777216 : Nat)) := Nat.le_trans h0 (by decide)
theorem om1 {a0 : Int} {a1 : Nat} (h0 : ((0 : Int) ≤ a0)) (h1 : (a0 < ((a1 : Nat) : Int))) : (((0 : Int) ≤ a0) ∧ (a0 < ((a1 : Nat) : Int))) := ⟨h0, h1⟩
theorem om2 {a0 : Int} (h0 : ((0 : Int) ≤ a0)) : (¬ (a0 < (0 : Int))) := Int.not_lt.mpr h0
theorem om3 {a0 : Int} {a1 : Nat} (h0 : (a0 < ((a1 : Nat) : Int))) (h1 : (a1 ≤ (10000 : Nat))) : (a0 < ((2 : Int) ^ (62 : Nat))) := Int.lt_of_lt_of_le h0 (Int.le_trans (Int.ofNat_le.mpr h1) (by decide))
theorem om4 {a0 : Int} (h0 : ((0 : Int) ≤ a0)) (h1 : (a0 < ((2 : Int) ^ (62 : Nat)))) : (((-(9223372036854775808 : Int)) ≤ a0) ∧ (a0 < (9223372036854775808 : Int))) := ⟨Int.le_trans (by decide) h0, Int.lt_trans h1 (by decide)⟩
theorem om5 {a0 : Nat} (h0 : (a0 ≤ (10000 : Nat))) : (a0 ≤ (1000000 : Nat)) := Nat.le_trans h0 (by decide)
theorem om6 {a0 : Nat} {a1 : Nat} (h0 : (a0 ≤ a1)) : (((a0 : Nat) : Int) ≤ ((a1 : Nat) : Int)) := Int.ofNat_le.mpr h0
theorem om7 {a0 : Nat} : ((0 : Int) ≤ ((a0 : Nat) : Int)) := Int.natCast_nonneg _
theorem om8 {a0 : Int} {a1 : Nat} {a2 : Int} (h0 : (a1 ≤ (10000 : Nat))) : ((min (Int.toNat a0) a1) ≤ ((1000000 : Nat) + (Int.toNat a2))) := hh_8 h0
theorem om9 {a0 : Nat} {a1 : Nat} {a2 : Nat} (h0 : (((a1 : Nat) : Int) ≤ ((a2 : Nat) : Int))) (h1 : (((a0 : Nat) : Int) ≤ ((a1 : Nat) : Int))) : ((a0 + (a1 - a0)) ≤ a2) := Nat.le_trans (Nat.le_of_eq (Nat.add_sub_of_le (Int.ofNat_le.mp h1))) (Int.ofNat_le.mp h0)
theorem om10 {a0 : Nat} {a1 : Nat} : ((Int.toNat (((a0 : Nat) : Int) + ((1 : Int) * ((a1 : Nat) : Int)))) = (a0 + a1)) := hh_10 a0 a1
theorem om11 {a0 : Nat} {a1 : Nat} (h0 : (¬ (((a1 : Nat) : Int) < ((a0 : Nat) : Int)))) : ((Int.toNat (0 : Int)) = (a0 - a1)) := (Nat.sub_eq_zero_of_le (Int.ofNat_le.mp (Int.not_lt.mp h0))).symm
theorem om12 {a0 : Nat} {a1 : Nat} : ((Int.toNat ((((((a0 : Nat) : Int) - ((a1 : Nat) : Int)) + (1 : Int)) - (1 : Int)) / (1 : Int))) = (a0 - a1)) := hh_12 a0 a1
theorem om13 {a0 : Nat} {a1 : Nat} {a2 : Nat} (h0 : ((a0 + (a1 + (1 : Nat))) ≤ a2)) : ((a0 + a1) < a2) := Nat.succ_le_of_lt h0
theorem om14 {a0 : Nat} {a1 : Nat} {a2 : Nat} (h0 : ((a0 + (a1 + (1 : Nat))) ≤ a2)) : ((a0 + a1) ≤ a2) := Nat.le_of_lt h0
theorem om15 {a0 : Int} {a1 : Nat} {a2 : Int} (h0 : (a0 ≤ a2)) (h1 : (a2 ≤ ((a1 : Nat) : Int))) : (a0 ≤ ((a1 : Nat) : Int)) := Int.le_trans h0 h1
theorem om16 {a0 : Int} {a1 : Nat} (h0 : (¬ (a0 < (0 : Int)))) (h1 : (a0 ≤ ((a1 : Nat) : Int))) : ((max (0 : Int) (min a0 ((a1 : Nat) : Int))) = a0) := (congrArg (max 0) (Int.min_eq_left h1)).trans (Int.max_eq_right (Int.not_lt.mp h0))
theorem om17 {a0 : Int} {a1 : Int} (h0 : ((0 : Int) ≤ a1)) (h1 : (a1 ≤ a0)) : (¬ (a0 < (0 : Int))) := by lia
theorem om18 {a0 : Nat} (h0 : (a0 ≤ (100 : Nat))) : (a0 ≤ (1000 : Nat)) := Nat.le_trans h0 (by decide)
theorem om19 {a0 : Nat} {a1 : Nat} (h0 : (a1 < (100 : Nat))) : ((min a0 a1) ≤ (100 : Nat)) := Nat.le_trans (Nat.min_le_right _ _) (Nat.le_of_lt h0)
theorem om20 : ((0 : Int) < ((2 : Int) ^ (63 : Nat))) := by decide
theorem om21 : ((0 : Int) ≤ (0 : Int)) := by decide
theorem om22 {a0 : Nat} {a1 : Nat} {a2 : Nat} (h0 : ((a2 + a0) = a1)) (h1 : (¬ (a0 = a1))) : (a0 < a1) := Nat.lt_of_le_of_ne (Nat.le_trans (Nat.le_add_left _ _) (Nat.le_of_eq h0)) h1
theorem om23 {a0 : Nat} {a1 : Nat} {a2 : Nat} (h0 : ((a0 + a1) = a2)) (h1 : (a1 ≠ a2)) : (((a0 - (1 : Nat)) + (a1 + (1 : Nat))) = a2) := by grind
theorem om24 {a0 : Nat} {a1 : Nat} {a2 : Nat} (h0 : ((a0 + a1) = a2)) (h1 : (a1 ≠ a2)) : ((a0 - (1 : Nat)) < a0) := by grind
theorem om25 {a0 : Nat} : ((((a0 : Nat) : Int) + (1 : Int)) = (((a0 + (1 : Nat)) : Nat) : Int)) := rfl
theorem om26 : ((1 : Int) < ((2 : Int) ^ (63 : Nat))) := by decide
theorem om27 : ((0 : Int) ≤ (1 : Int)) := by decide
theorem om28 {a0 : Nat} (h0 : (a0 ≤ (1000 : Nat))) : (a0 ≤ (10000 : Nat)) := Nat.le_trans h0 (by decide)
theorem om29 {a0 : Nat} {a1 : Nat} {a2 : Nat} {a3 : Nat} (h0 : (((0 : Nat) < a1) ∧ (a1 ≤ (10 : Nat)))) (h1 : ((a0 + ((1 : Nat) * a1)) ≤ a3)) : ((a0 + ((a1 - (1 : Nat)) - a2)) < a3) := hh_29 h0.1 h1
theorem om30 {a0 : Nat} {a1 : Nat} {a2 : Nat} (h0 : (a2 < a1)) : ((((((a0 : Nat) : Int) + ((a1 : Nat) : Int)) - (1 : Int)) - ((a2 : Nat) : Int)) = (((a0 + ((a1 - (1 : Nat)) - a2)) : Nat) : Int)) := hh_30 h0
theorem om31 {a0 : Nat} {a1 : Nat} (h0 : (a1 ≤ (1000 : Nat))) (h1 : (a0 = a1)) : (a0 ≤ (100000 : Nat)) := by lia
theorem om32 {a0 : Nat} (h0 : (((0 : Nat) < a0) ∧ (a0 ≤ (10 : Nat)))) : (a0 < (10000 : Nat)) := by lia
theorem om33 {a0 : Nat} (h0 : (a0 ≤ (1000 : Nat))) : (a0 < (10000 : Nat)) := Nat.lt_of_le_of_lt h0 (by decide)
theorem om34 {a0 : Nat} (h0 : (((0 : Nat) < a0) ∧ (a0 ≤ (10 : Nat)))) : ((0 : Nat) < a0) := by grind
theorem om35 {a0 : Nat} {a1 : Nat} {a2 : Nat} (h0 : ((a1 - a0) = (a2 + (1 : Nat)))) : ((a0 + (1 : Nat)) ≤ a1) := Nat.lt_of_sub_eq_succ h0
theorem om36 {a0 : Nat} {a1 : Nat} {a2 : Nat} (h0 : ((a0 - a1) = (a2 + (1 : Nat)))) : ((a0 - (a1 + (1 : Nat))) = a2) := congrArg Nat.pred h0
theorem om38 {a0 : Nat} (h0 : (a0 < (256 : Nat))) : (((a0 : Nat) : Int) < (256 : Int)) := by lia
theorem om39 {a0 : Nat} {a1 : Nat} {a2 : Nat} (h0 : ((a1 - a0) = (a2 + (1 : Nat)))) : (a0 < a1) := Nat.lt_of_sub_eq_succ h0
theorem om41 {a0 : Nat} {a1 : Nat} (h0 : (a1 = a0)) : (a0 ≤ a1) := by lia
theorem om42 {a0 : Nat} {a1 : Nat} (h0 : ((a1 - a0) = (0 : Nat))) (h1 : (a0 ≤ a1)) : (a0 = a1) := Nat.le_antisymm h1 (Nat.le_of_sub_eq_zero h0)
theorem om43 {a0 : Nat} (h0 : (a0 ≤ (1000000 : Nat))) : (¬ (a0 > ((2 : Nat) ^ (24 : Nat)))) := by lia
theorem om45 {a0 : Nat} (h0 : (a0 ≤ (100000 : Nat))) : (a0 ≤ (1099511627776 : Nat)) := Nat.le_trans h0 (by decide)
theorem om46 {a0 : Nat} {a1 : Nat} {a2 : Nat} : (((a0 + ((a1 - (1 : Nat)) - a2)) - a0) = ((a1 - (1 : Nat)) - a2)) := Nat.add_sub_cancel_left _ _
theorem om47 {a0 : Nat} {a1 : Nat} : ((a0 - (a1 + (1 : Nat))) = ((a0 - (1 : Nat)) - a1)) := by lia
theorem om48 {a0 : Nat} {a1 : Nat} (h0 : (a1 < a0)) : ((a0 - a1) = (((a0 - (1 : Nat)) - a1) + (1 : Nat))) := (congrArg (· - a1) (Nat.sub_add_cancel (Nat.lt_of_le_of_lt (Nat.zero_le _) h0)).symm).trans (Nat.sub_add_comm (Nat.le_sub_one_of_lt h0))
theorem om49 {a0 : Nat} {a1 : Nat} {a2 : Nat} : (a0 ≤ (a0 + ((a1 - (1 : Nat)) - a2))) := Nat.le_add_right _ _
theorem om50 {a0 : Nat} {a1 : Nat} {a2 : Nat} {a3 : Nat} {a4 : Nat} {a5 : Nat} (h0 : (a3 = a1)) (h1 : (a5 = ((a0 + a1) + a4))) : ((a0 + ((a1 - a2) + ((min a2 a3) + a4))) = a5) := hh_50 h0 h1
theorem om51 {a0 : Nat} {a1 : Nat} {a2 : Nat} : (((a0 + ((1 : Nat) * a1)) + a2) = ((a0 + a1) + a2)) := by grind
theorem om52 {a0 : Nat} {a1 : Nat} (h0 : (a1 < a0)) : (a0 = ((a1 + (1 : Nat)) + (a0 - (a1 + (1 : Nat))))) := (Nat.add_sub_of_le h0).symm
theorem om53 {a0 : Nat} {a1 : Nat} : ((a0 + ((1 : Nat) * a1)) = (a1 + a0)) := by grind
theorem om54 {a0 : Nat} {a1 : Nat} (h0 : (a1 < a0)) : ((a0 - a1) = ((a0 - (a1 + (1 : Nat))) + (1 : Nat))) := (Nat.sub_add_cancel (Nat.sub_pos_of_lt h0)).symm
theorem om55 {a0 : Nat} {a1 : Nat} {a2 : Nat} : ((((a0 + a1) + a2) - (a0 + a1)) = ((a1 + a2) - a1)) := (Nat.add_sub_cancel_left _ _).trans (Nat.add_sub_cancel_left _ _).symm
theorem om56 {a0 : Nat} {a1 : Nat} : (((a0 + a1) - a0) = a1) := Nat.add_sub_cancel_left _ _
theorem om57 {a0 : Nat} {a1 : Nat} : (a0 ≤ (a0 + a1)) := Nat.le_add_right _ _
theorem om58 {a0 : Nat} {a1 : Nat} (h0 : (a0 = a1)) : (a0 ≤ a1) := Nat.le_of_eq h0
theorem om59 {a0 : Nat} {a1 : Nat} {a2 : Nat} : ((((a0 + ((1 : Nat) * a1)) + a2) - a1) = (a0 + a2)) := (congrArg (· - a1) (Nat.add_right_comm a0 (1 * a1) a2)).trans ((congrArg (fun z => a0 + a2 + z - a1) (Nat.one_mul a1)).trans (Nat.add_sub_cancel _ _))
theorem om60 {a0 : Nat} {a1 : Nat} {a2 : Nat} : (a0 ≤ ((a1 + ((1 : Nat) * a0)) + a2)) := by lia
theorem om61 {a0 : Nat} {a1 : Nat} : ((a0 + a1) = (a1 + ((1 : Nat) * a0))) := by grind
theorem om62 {a0 : Nat} {a1 : Nat} (h0 : (a0 ≤ a1)) (h1 : (¬ (a0 < a1))) : (a0 = a1) := by lia
theorem om63 {a0 : Nat} {a1 : Nat} (h0 : (a1 ≤ a0)) : (((a0 + (1 : Nat)) - (a1 + (1 : Nat))) < ((a0 + (1 : Nat)) - a1)) := Nat.sub_lt_sub_left (Nat.lt_succ_of_le h0) (Nat.lt_succ_self _)
theorem om64 {a0 : Nat} {a1 : Nat} {a2 : Nat} (h0 : (a1 ≤ (100000 : Nat))) (h1 : (a0 ≤ a2)) (h2 : (a2 ≤ a1)) : (a0 ≤ ((2 : Nat) ^ (24 : Nat))) := by lia
theorem om65 {a0 : Nat} {a1 : Nat} (h0 : (a0 ≤ a1)) : (a0 ≤ (a1 + (1 : Nat))) := Nat.le_succ_of_le h0
theorem om66 {a0 : Nat} : (¬ (((a0 + (1 : Nat)) + (1 : Nat)) < (2 : Nat))) := by lia
theorem om67 {a0 : Nat} {a1 : Nat} (h0 : (a1 < (100 : Nat))) (h1 : (a0 ≤ (((2 : Nat) * a1) + (1 : Nat)))) : ((a0 + (2 : Nat)) ≤ ((2 : Nat) ^ (24 : Nat))) := by lia
theorem om68 : ((-((2 : Int) ^ (63 : Nat))) ≤ (0 : Int)) := by decide
theorem om69 : ((2 : Nat) ≤ (1000 : Nat)) := by decide
theorem om70 {a0 : Nat} : ((a0 + (1 : Nat)) ≠ (0 : Nat)) := by lia
theorem om71 {a0 : Nat} (h0 : (a0 ≤ (100 : Nat))) : ((a0 + (a0 * (1 : Nat))) ≤ (16777216 : Nat)) := by grind
theorem om72 {a0 : Nat} {a1 : Nat} (h0 : (a1 < (100 : Nat))) (h1 : (a0 = a1)) : (a0 ≤ (10000 : Nat)) := by lia
theorem om73 {a0 : Nat} {a1 : Nat} {a2 : Nat} (h0 : (a1 < (100 : Nat))) (h1 : (a2 < a1)) (h2 : (a0 ≤ a2)) : (((a0 : Nat) : Int) < ((2 : Int) ^ (63 : Nat))) := by lia
theorem om74 {a0 : Nat} {a1 : Nat} (h0 : (a0 < a1)) : (a0 ≠ a1) := Nat.ne_of_lt h0
theorem om75 {a0 : Nat} {a1 : Nat} (h0 : (a0 ≤ a1)) (h1 : (a0 ≥ a1)) : (a0 = a1) := Nat.le_antisymm h0 h1
theorem om76 {a0 : Nat} {a1 : Nat} {a2 : Nat} (h0 : (a0 < a2)) (h1 : (a1 = a2)) : (a0 < a1) := by lia
theorem om77 {a0 : Nat} {a1 : Nat} (h0 : ((a0 + (100 : Nat)) < a1)) : ((a0 + (1 : Nat)) < a1) := Nat.lt_of_le_of_lt (Nat.add_le_add_left (by decide : 1 ≤ 100) a0) h0
theorem om78 {a0 : Nat} (h0 : (a0 < a0)) : False := by lia
theorem om79 {a0 : Nat} {a1 : Nat} (h0 : (a1 < (100 : Nat))) (h1 : (a0 < a1)) : (((a0 : Nat) : Int) < ((2 : Int) ^ (63 : Nat))) := by lia
theorem om80 {a0 : Nat} (h0 : (a0 < (100 : Nat))) : (a0 ≤ (100000 : Nat)) := Nat.le_trans (Nat.le_of_lt h0) (by decide)
theorem om81 {a0 : Nat} (h0 : (a0 < (100 : Nat))) : (a0 < (10000 : Nat)) := Nat.le_trans h0 (by decide)
theorem om82 {a0 : Nat} {a1 : Nat} (h0 : (a1 < (100 : Nat))) (h1 : (a0 = a1)) : (((a0 : Nat) : Int) < (9223372036854775808 : Int)) := by lia
theorem om83 {a0 : Nat} {a1 : Nat} (h0 : (a0 < (100 : Nat))) : ((a0 - a1) < (100 : Nat)) := Nat.lt_of_le_of_lt (Nat.sub_le _ _) h0
theorem om84 {a0 : Nat} (h0 : (a0 < (100 : Nat))) : (a0 ≤ (1000 : Nat)) := Nat.le_trans (Nat.le_of_lt h0) (by decide)
theorem om85 {a0 : Nat} {a1 : Nat} {a2 : Nat} (h0 : ((a1 + a2) < (100 : Nat))) (h1 : (a0 = a1)) : (a0 ≤ (100 : Nat)) := by lia
theorem om86 {a0 : Nat} {a1 : Nat} (h0 : (a1 ≤ (100 : Nat))) (h1 : (a0 = a1)) : (a0 ≤ (100 : Nat)) := by lia
theorem om87 {a0 : Nat} (h0 : (a0 < (100 : Nat))) : (a0 ≤ (100 : Nat)) := Nat.le_of_lt h0
theorem om88 {a0 : Nat} (h0 : (a0 ≤ (100 : Nat))) : (a0 < (1000 : Nat)) := Nat.lt_of_le_of_lt h0 (by decide)
theorem om89 {a0 : Nat} {a1 : Nat} {a2 : Nat} (h0 : (a1 < (100 : Nat))) (h1 : (a0 ≤ (min a2 a1))) : (a0 ≤ (100 : Nat)) := Nat.le_trans h1 (Nat.le_trans (Nat.min_le_right _ _) (Nat.le_of_lt h0))
theorem om90 {a0 : Nat} {a1 : Nat} {a2 : Nat} (h0 : (a2 < a1)) (h1 : (a0 ≤ a2)) : (a0 < a1) := Nat.lt_of_le_of_lt h1 h0
theorem om91 {a0 : Nat} (h0 : (((a0 + (1 : Nat)) + (1 : Nat)) < (2 : Nat))) : False := by lia
theorem om92 {a0 : Nat} {a1 : Nat} (h0 : ((a0 + (10 : Nat)) < a1)) : (((a0 + (1 : Nat)) + (1 : Nat)) < a1) := Nat.lt_of_le_of_lt (Nat.add_le_add_left (by decide : 2 ≤ 10) a0) h0
theorem om93 {a0 : Nat} {a1 : Nat} (h0 : ((a0 + (10 : Nat)) < a1)) : (a0 < a1) := Nat.lt_of_le_of_lt (Nat.le_add_right _ _) h0
theorem om94 {a0 : Nat} (h0 : (¬ ((((63 : Nat) : Nat) : Int) < ((a0 : Nat) : Int)))) : (a0 ≤ (63 : Nat)) := Int.ofNat_le.mp (Int.not_lt.mp h0)
theorem om95 {a0 : Int} (h0 : (a0 < (1 : Int))) : (a0 ≤ (0 : Int)) := by lia
theorem om96 {a0 : Int} {a1 : Int} {a2 : Int} (h0 : (((0 : Int) < a2) ∧ (a2 ≤ a1))) (h1 : (a0 ≤ (0 : Int))) : (a0 < ((1 : Int) * a1)) := by lia
theorem om97 {a0 : Int} {a1 : Int} (h0 : (((0 : Int) < a0) ∧ (a0 ≤ a1))) : ((0 : Int) ≤ a0) := by lia
theorem om98 {a0 : Int} {a1 : Int} (h0 : (((-(1000000 : Int)) ≤ a1) ∧ (a1 ≤ (0 : Int)))) (h1 : (a1 ≤ a0)) : ((-(1000000 : Int)) ≤ a0) := Int.le_trans h0.1 h1
theorem om99 {a0 : Int} {a1 : Int} (h0 : (((0 : Int) < a1) ∧ (a1 ≤ a0))) : ((0 : Int) ≤ a0) := by lia
theorem om100 {a0 : Int} {a1 : Int} (h0 : (((0 : Int) < a1) ∧ (a1 ≤ a0))) : ((0 : Int) < a0) := by lia
theorem om101 {a0 : Nat} {a1 : Nat} {a2 : Nat} {a3 : Nat} (h0 : ((a0 + (1 : Nat)) = ((1 : Nat) + a2))) (h1 : ((a1 + (1 : Nat)) = a3)) : (((a0 + (1 : Nat)) + a1) = ((1 : Nat) + (a2 + ((1 : Nat) * (a3 - (1 : Nat)))))) := hh_101 h0 h1
theorem om102 {a0 : Nat} {a1 : Nat} {a2 : Nat} {a3 : Nat} {a4 : Nat} (h0 : ((0 : Nat) = ((1 : Nat) + a4))) : ((a0 = ((1 : Nat) + a1)) ∧ (a2 = (a3 + (1 : Nat)))) := by grind
theorem om103 {a0 : Nat} {a1 : Nat} : (((a0 + (1 : Nat)) + a1) = (a0 + (a1 + (1 : Nat)))) := by grind
theorem om104 {a0 : Nat} {a1 : Nat} {a2 : Nat} {a3 : Nat} (h0 : ((a0 - a3) ≤ (a1 + (1 : Nat)))) (h1 : (a3 < a2)) : (a0 ≤ (a1 + a2)) := Nat.le_trans (Nat.le_add_of_sub_le h0) (hh_104 h1)
theorem om105 {a0 : Nat} {a1 : Nat} (h0 : ((a1 - a0) ≤ (0 : Nat))) : (¬ ((((2 : Nat) * a0) + (1 : Nat)) < a1)) := hh_105 h0
theorem om106 {a0 : Nat} (h0 : ((0 : Nat) < a0)) : (((a0 - (1 : Nat)) / (2 : Nat)) < a0) := by lia
theorem om107 {a0 : Nat} {a1 : Nat} {a2 : Nat} {a3 : Nat} {a4 : Nat} (h0 : ((a2 + (1 : Nat)) = a3)) (h1 : (a0 = a2)) (h2 : ((a4 + (1 : Nat)) = a3)) (h3 : (((a4 + (1 : Nat)) + a1) ≤ (20 : Nat))) : ((a0 + (a1 + (1 : Nat))) ≤ (20 : Nat)) := by lia
theorem om108 {a0 : Nat} {a1 : Nat} {a2 : Nat} {a3 : Nat} (h0 : ((a2 + (1 : Nat)) = a3)) (h1 : (a0 = a2)) (h2 : (a1 = a3)) : (a0 < a1) := by lia
theorem om109 {a0 : Nat} (h0 : (a0 < (20 : Nat))) : (a0 < (900 : Nat)) := Nat.le_trans h0 (by decide)
theorem om110 {a0 : Nat} {a1 : Nat} (h0 : (((a1 + (1 : Nat)) + a0) ≤ (20 : Nat))) : (a0 < (20 : Nat)) := by grind
theorem om111 {a0 : Nat} {a1 : Nat} (h0 : (((a0 + (1 : Nat)) + a1) ≤ (20 : Nat))) : (a0 < (20 : Nat)) := Nat.le_trans (Nat.le_add_right _ _) h0
theorem om112 {a0 : Nat} {a1 : Nat} (h0 : ((a0 + a1) ≤ (20 : Nat))) : (a0 < (16777216 : Nat)) := by grind
theorem om113 {a0 : Nat} (h0 : (a0 ≤ ((4 : Nat) * (2 : Nat)))) : (((1 : Nat) + a0) ≤ (20 : Nat)) := by lia
theorem om114 {a0 : Nat} (h0 : (((2 : Nat) ≤ a0) ∧ (a0 ≤ (3 : Nat)))) : ((a0 - (1 : Nat)) ≤ (2 : Nat)) := Nat.sub_le_of_le_add h0.2
theorem om115 {a0 : Nat} {a1 : Nat} (h0 : ((a1 + (1 : Nat)) = (a0 + (1 : Nat)))) : (a0 ≤ a1) := by grind
theorem om116 {a0 : Nat} (h0 : (a0 ≤ (20 : Nat))) : (a0 < (900 : Nat)) := Nat.lt_of_le_of_lt h0 (by decide)
theorem om117 {a0 : Nat} {a1 : Nat} {a2 : Nat} {a3 : Nat} {a4 : Nat} {a5 : Nat} (h0 : (((2 : Nat) ≤ a1) ∧ (a1 ≤ (3 : Nat)))) (h1 : ((a2 + (1 : Nat)) = a1)) (h2 : (a3 ≤ (8 : Nat))) (h3 : (a0 = ((a4 + (1 : Nat)) + (min a5 a2)))) (h4 : ((a3 + (1 : Nat)) = (a4 + (1 : Nat)))) : (a0 ≤ (20 : Nat)) := h3 ▸ Nat.le_trans (Nat.add_le_add (Nat.le_trans (Nat.le_of_eq h4.symm) (Nat.succ_le_succ h2)) (Nat.le_trans (Nat.min_le_right _ _) (Nat.le_trans (Nat.le_succ _) (Nat.le_trans (Nat.le_of_eq h1) h0.2)))) (by decide)
theorem om118 {a0 : Nat} (h0 : (a0 ≤ (2 : Nat))) : (a0 ≤ (9999 : Nat)) := Nat.le_trans h0 (by decide)
theorem om119 {a0 : Nat} (h0 : (a0 ≤ (8 : Nat))) : (a0 < (900 : Nat)) := Nat.lt_of_le_of_lt h0 (by decide)
theorem om120 {a0 : Nat} {a1 : Nat} {a2 : Nat} (h0 : ((a1 + (1 : Nat)) = ((1 : Nat) + a2))) (h1 : ((a0 + (1 : Nat)) = (a1 + (1 : Nat)))) (h2 : (a2 ≤ ((3 : Nat) * (2 : Nat)))) : (a0 ≤ (8 : Nat)) := by lia
theorem om121 {a0 : Nat} {a1 : Nat} (h0 : (a1 ≤ (4 : Nat))) (h1 : (a0 < a1)) : (a0 ≤ (3 : Nat)) := by lia
theorem om122 {a0 : Nat} {a1 : Nat} (h0 : (a1 ≤ (4 : Nat))) (h1 : (a0 < a1)) : (a0 ≤ (4 : Nat)) := by lia
theorem om123 {a0 : Nat} {a1 : Nat} {a2 : Nat} (h0 : (((2 : Nat) ≤ a1) ∧ (a1 ≤ (3 : Nat)))) (h1 : ((a2 + (1 : Nat)) = a1)) (h2 : ((a0 + (1 : Nat)) = (a2 + (1 : Nat)))) : (a0 ≤ (2 : Nat)) := by lia
theorem om124 {a0 : Nat} {a1 : Nat} (h0 : (((2 : Nat) ≤ a1) ∧ (a1 ≤ (3 : Nat)))) (h1 : (a0 < a1)) : (((97 : Nat) ≤ ((97 : Nat) + a0)) ∧ (((97 : Nat) + a0) ≤ (99 : Nat))) := ⟨Nat.le_add_right _ _, Nat.add_le_add_left (Nat.le_of_lt_succ (Nat.lt_of_lt_of_le h1 h0.2)) 97⟩
theorem om125 {a0 : Nat} (h0 : (((97 : Nat) ≤ a0) ∧ (a0 ≤ (99 : Nat)))) : (a0 ≠ (47 : Nat)) := by lia
theorem om126 {a0 : Nat} {a1 : Nat} {a2 : Nat} (h0 : (a1 ≤ (4 : Nat))) (h1 : (a2 < a1)) (h2 : (a0 ≤ a2)) : (a0 < (1000 : Nat)) := Nat.lt_of_le_of_lt h2 (Nat.lt_of_lt_of_le h1 (Nat.le_trans h0 (by decide)))
theorem om127 {a0 : Nat} : (((97 : Nat) + a0) ≠ (47 : Nat)) := by grind
theorem om128 {a0 : Nat} {a1 : Nat} (h0 : (((2 : Nat) ≤ a1) ∧ (a1 ≤ (3 : Nat)))) (h1 : (a0 < a1)) : (a0 < (1000000 : Nat)) := Nat.lt_of_lt_of_le h1 (Nat.le_trans h0.2 (by decide))
theorem om129 {a0 : Nat} {a1 : Nat} (h0 : (((2 : Nat) ≤ a0) ∧ (a0 ≤ (3 : Nat)))) (h1 : ((((a1 + (1 : Nat)) + (1 : Nat)) + (1 : Nat)) < a0)) : False := by grind
theorem om130 {a0 : Int} {a1 : Int} (h0 : (((0 : Int) < a0) ∧ ((a0 < (10 : Int)) ∧ (a0 ≤ a1)))) : (a0 < ((2 : Int) ^ (64 : Nat))) := Int.lt_trans h0.2.1 (by decide)
theorem om131 {a0 : Int} {a1 : Int} (h0 : (((0 : Int) < a0) ∧ ((a0 < (10 : Int)) ∧ (a0 ≤ a1)))) : ((-((2 : Int) ^ (64 : Nat))) < a0) := Int.lt_trans (by decide) h0.1
theorem om132 {a0 : Nat} {a1 : Nat} (h0 : (((2 : Nat) ≤ a1) ∧ (a1 ≤ (3 : Nat)))) (h1 : (a0 < a1)) : (((a0 : Nat) : Int) < ((2 : Int) ^ (63 : Nat))) := by lia
theorem om133 {a0 : Nat} (h0 : (((2 : Nat) ≤ a0) ∧ (a0 ≤ (3 : Nat)))) : (a0 ≤ (100000 : Nat)) := by lia
theorem om134 {a0 : Nat} (h0 : (((2 : Nat) ≤ a0) ∧ (a0 ≤ (3 : Nat)))) : (a0 < (10000 : Nat)) := by lia
theorem om135 {a0 : Nat} {a1 : Nat} (h0 : (((2 : Nat) ≤ a1) ∧ (a1 ≤ (3 : Nat)))) (h1 : (a0 = a1)) : (((a0 : Nat) : Int) < (9223372036854775808 : Int)) := by lia
theorem om136 {a0 : Nat} (h0 : ((0 : Nat) = ((1 : Nat) + a0))) : False := by lia
theorem om137 {a0 : Int} (h0 : ((0 : Int) ≤ a0)) : ((-a0) ≤ (0 : Int)) := by lia
theorem om138 {a0 : Int} (h0 : (a0 ≤ (1000000 : Int))) : ((-(1000000 : Int)) ≤ (-a0)) := by lia
theorem om139 {a0 : Int} {a1 : Nat} (h0 : (a0 = ((a1 : Nat) : Int))) : ((Int.toNat a0) = a1) := congrArg Int.toNat h0
theorem om140 {a0 : Nat} (h0 : (a0 ≤ (4 : Nat))) : (a0 < (10000 : Nat)) := Nat.lt_of_le_of_lt h0 (by decide)
theorem om141 {a0 : Nat} {a1 : Nat} (h0 : (((2 : Nat) ≤ a1) ∧ (a1 ≤ (4 : Nat)))) (h1 : (a0 ≤ a1)) : (a0 ≤ (4 : Nat)) := by lia
theorem om142 {a0 : Nat} {a1 : Nat} (h0 : (a0 < a1)) : (((97 : Nat) ≤ ((97 : Nat) + a0)) ∧ (((97 : Nat) + a0) < ((97 : Nat) + a1))) := ⟨Nat.le_add_right _ _, Nat.add_lt_add_left h0 97⟩
theorem om143 {a0 : Nat} (h0 : (((2 : Nat) ≤ a0) ∧ (a0 ≤ (4 : Nat)))) (h1 : (a0 = (0 : Nat))) : False := by lia
theorem om144 {a0 : Nat} (h0 : (((2 : Nat) ≤ a0) ∧ (a0 ≤ (3 : Nat)))) : ((1 : Nat) ≤ a0) := Nat.le_trans (by decide) h0.1
theorem om145 {a0 : Nat} {a1 : Nat} (h0 : ((((2 : Nat) * a0) + (1 : Nat)) ≤ a1)) (h1 : (a1 ≤ ((3 : Nat) ^ (4 : Nat)))) : (a0 < (64 : Nat)) := by grind
theorem om146 : ((3 : Nat) > (0 : Nat)) := by decide
theorem om147 {a0 : Nat} (h0 : (((3 : Nat) ≤ a0) ∧ (a0 ≤ (9 : Nat)))) : (((2 : Nat) ≤ a0) ∧ (a0 < (64 : Nat))) := ⟨Nat.le_trans (by decide) h0.1, Nat.lt_of_le_of_lt h0.2 (by decide)⟩
theorem om148 {a0 : Nat} {a1 : Nat} {a2 : Nat} (h0 : (((2 : Nat) ≤ a1) ∧ (a1 ≤ (4 : Nat)))) (h1 : ((a0 + a1) = ((1 : Nat) + a2))) (h2 : ((a1 * (2 : Nat)) ≤ a2)) (h3 : (a2 ≤ (a1 * (3 : Nat)))) : (((3 : Nat) ≤ a0) ∧ (a0 ≤ (9 : Nat))) := by grind
theorem om149 {a0 : Nat} {a1 : Nat} {a2 : Nat} (h0 : ((((2 : Nat) * a0) + (1 : Nat)) ≤ a2)) (h1 : (a1 ≤ a2)) : ((((2 : Nat) * (a0 + a1)) + (1 : Nat)) ≤ (a2 * (3 : Nat))) := by grind
theorem om150 {a0 : Nat} {a1 : Nat} {a2 : Nat} (h0 : (a0 ≤ a1)) (h1 : ((1 : Nat) ≤ a2)) : ((a0 + (1 : Nat)) ≤ (a1 + a2)) := by grind
theorem om151 {a0 : Nat} {a1 : Nat} (h0 : (a0 < (a1 + (1 : Nat)))) (h1 : (¬ (a0 = a1))) : (a0 < a1) := by lia
theorem om152 {a0 : Nat} (h0 : (a0 < (0 : Nat))) : False := by lia
theorem om153 {a0 : Nat} {a1 : Nat} {a2 : Nat} (h0 : (a0 < a1)) (h1 : (a2 = a0)) (h2 : (a2 = a1)) : False := by grind
theorem om154 {a0 : Nat} {a1 : Nat} (h0 : (((a0 + (1 : Nat)) + (0 : Nat)) = ((1 : Nat) + ((0 : Nat) * a1)))) : (a0 = (0 : Nat)) := by lia
theorem om155 {a0 : Nat} {a1 : Nat} {a2 : Nat} {a3 : Nat} (h0 : (((a1 + (1 : Nat)) + a2) = ((1 : Nat) + a3))) : (((a0 + a1) + (a2 + (1 : Nat))) = ((1 : Nat) + (a3 + ((1 : Nat) * a0)))) := by grind
theorem om156 {a0 : Nat} {a1 : Nat} (h0 : (a0 ≤ a1)) : (a0 < (a1 + (1 : Nat))) := Nat.lt_succ_of_le h0
theorem om157 {a0 : Nat} {a1 : Nat} (h0 : (a0 < a1)) : (a0 < (a1 + (1 : Nat))) := Nat.le_succ_of_le h0
theorem om158 {a0 : Nat} {a1 : Nat} (h0 : (a0 ≤ a1)) : ((a0 + (1 : Nat)) ≤ (a1 + (1 : Nat))) := Nat.lt_succ_of_le h0
theorem om159 {a0 : Nat} (h0 : ((1 : Nat) ≤ a0)) (h1 : ((0 : Nat) = a0)) : False := by grind
theorem om160 {a0 : Nat} {a1 : Nat} (h0 : ((a0 * (1 : Nat)) ≤ a1)) (h1 : (a0 = ((1 : Nat) + a1))) : False := by grind
theorem om161 {a0 : Nat} (h0 : ((0 : Nat) < a0)) : (a0 = ((a0 - (1 : Nat)) + (1 : Nat))) := (Nat.sub_add_cancel h0).symm
theorem om162 {a0 : Int} {a1 : Int} (h0 : (a0 ≤ a1)) (h1 : (¬ (a0 = a1))) : (a0 < a1) := by lia
theorem om163 {a0 : Int} {a1 : Int} (h0 : (¬ (a0 = a1))) (h1 : (¬ (a0 < a1))) (h2 : (¬ (a1 < a0))) : False := by lia
theorem om164 {a0 : Int} {a1 : Int} {a2 : Int} (h0 : (a0 < a2)) (h1 : (a2 < a1)) : (a0 < a1) := Int.lt_trans h0 h1
theorem om165 {a0 : Int} {a1 : Int} {a2 : Int} (h0 : (a0 < a2)) (h1 : (a2 < a1)) : (¬ (a0 = a1)) := by lia
theorem om166 {a0 : Nat} {a1 : Nat} (h0 : ((0 : Nat) < a0)) (h1 : (((a0 - (1 : Nat)) / (2 : Nat)) = a1)) (h2 : (a0 < (a1 + (1 : Nat)))) : False := Nat.lt_irrefl a0 (Nat.lt_of_le_of_lt (Nat.le_of_lt_succ h2) (h1 ▸ hh_hlt h0))
theorem om167 {a0 : Nat} {a1 : Nat} (h0 : (a0 ≠ a1)) (h1 : (a0 < (a1 + (1 : Nat)))) : (a0 < a1) := Nat.lt_of_le_of_ne (Nat.le_of_lt_succ h1) h0
theorem om168 {a0 : Nat} {a1 : Nat} (h0 : ((0 : Nat) < a0)) (h1 : (a0 < (a1 + (1 : Nat)))) : (((a0 - (1 : Nat)) / (2 : Nat)) < a1) := Nat.lt_of_lt_of_le (hh_hlt h0) (Nat.le_of_lt_succ h1)
theorem om169 : (¬ ((0 : Nat) < (0 : Nat))) := by decide
theorem om170 {a0 : Nat} (h0 : (((a0 - (1 : Nat)) / (2 : Nat)) ≠ (0 : Nat))) : (((a0 - (1 : Nat)) / (2 : Nat)) = ((((a0 - (1 : Nat)) / (2 : Nat)) - (1 : Nat)) + (1 : Nat))) := (Nat.sub_one_add_one h0).symm
theorem om171 (h0 : ((0 : Nat) < (0 : Nat))) : False := by grind
theorem om172 {a0 : Nat} (h0 : (¬ ((0 : Nat) < a0))) : (a0 = (0 : Nat)) := by lia
theorem om173 {a0 : Nat} {a1 : Nat} (h0 : (a0 < a1)) : (((a0 - (1 : Nat)) / (2 : Nat)) < a1) := Nat.lt_of_le_of_lt (hh_hle a0) h0
theorem om174 {a0 : Nat} {a1 : Nat} {a2 : Nat} (h0 : (a0 ≤ (((2 : Nat) * a1) + (1 : Nat)))) (h1 : ((0 : Nat) < a2)) (h2 : (((a2 - (1 : Nat)) / (2 : Nat)) = a1)) (h3 : (a2 < a0)) : False := hh_174 h0 h1 h2 h3
theorem om175 {a0 : Nat} {a1 : Nat} {a2 : Nat} (h0 : (a2 ≤ (((2 : Nat) * a1) + (1 : Nat)))) (h1 : ((0 : Nat) < a0)) (h2 : (a0 < a2)) : (((a0 - (1 : Nat)) / (2 : Nat)) ≠ a1) := fun e => hh_174 h0 h1 e h2
theorem om176 {a0 : Nat} {a1 : Nat} {a2 : Nat} (h0 : (a2 ≤ (((2 : Nat) * a0) + (1 : Nat)))) (h1 : ((0 : Nat) < a1)) (h2 : (a1 < a2)) : (¬ (a0 = ((a1 - (1 : Nat)) / (2 : Nat)))) := fun e => hh_174 h0 h1 e.symm h2
theorem om177 {a0 : Nat} {a1 : Nat} (h0 : (¬ ((((2 : Nat) * a1) + (1 : Nat)) < a0))) : (a0 ≤ (((2 : Nat) * a1) + (1 : Nat))) := Nat.le_of_not_lt h0
theorem om178 {a0 : Nat} {a1 : Nat} {a2 : Nat} (h0 : ((a2 = (((2 : Nat) * a1) + (1 : Nat))) ∨ (a2 = (((2 : Nat) * a1) + (2 : Nat))))) (h1 : (((a0 - (1 : Nat)) / (2 : Nat)) = a2)) : (((a0 - (1 : Nat)) / (2 : Nat)) ≠ a1) := fun e => Nat.lt_irrefl a1 (h0.elim (fun q => Nat.lt_of_lt_of_le (hh_lt1 a1) (Nat.le_of_eq (q.symm.trans (h1.symm.trans e)))) fun q => Nat.lt_of_lt_of_le (hh_lt2 a1) (Nat.le_of_eq (q.symm.trans (h1.symm.trans e))))
theorem om179 {a0 : Nat} {a1 : Nat} {a2 : Nat} (h0 : ((a2 = (((2 : Nat) * a1) + (1 : Nat))) ∨ (a2 = (((2 : Nat) * a1) + (2 : Nat))))) (h1 : (((a0 - (1 : Nat)) / (2 : Nat)) = a2)) : (a0 ≠ a1) := fun e => Nat.lt_irrefl a2 (Nat.lt_of_le_of_lt (Nat.le_trans (Nat.le_of_eq h1.symm) (hh_hle a0)) (e ▸ h0.elim (fun e => e ▸ hh_lt1 a1) fun e => e ▸ hh_lt2 a1))
theorem om180 {a0 : Nat} {a1 : Nat} {a2 : Nat} (h0 : ((a2 = (((2 : Nat) * a0) + (1 : Nat))) ∨ (a2 = (((2 : Nat) * a0) + (2 : Nat))))) (h1 : (((a1 - (1 : Nat)) / (2 : Nat)) = a2)) : (¬ (a0 = a1)) := fun e => Nat.lt_irrefl a2 (Nat.lt_of_le_of_lt (Nat.le_trans (Nat.le_of_eq h1.symm) (hh_hle a1)) (e ▸ h0.elim (fun e => e ▸ hh_lt1 a0) fun e => e ▸ hh_lt2 a0))
theorem om181 {a0 : Nat} {a1 : Nat} (h0 : ((a0 = (((2 : Nat) * a1) + (1 : Nat))) ∨ (a0 = (((2 : Nat) * a1) + (2 : Nat))))) : ((0 : Nat) < a0) := h0.elim (fun e => e ▸ Nat.succ_pos _) fun e => e ▸ Nat.succ_pos _
theorem om182 {a0 : Nat} (h0 : ((0 : Nat) < a0)) : (¬ (a0 = ((a0 - (1 : Nat)) / (2 : Nat)))) := by lia
theorem om183 {a0 : Nat} {a1 : Nat} (h0 : ((a1 = (((2 : Nat) * a0) + (1 : Nat))) ∨ (a1 = (((2 : Nat) * a0) + (2 : Nat))))) : (a0 ≠ a1) := by lia
theorem om184 {a0 : Nat} {a1 : Nat} {a2 : Nat} {a3 : Nat} (h0 : ((a0 - a3) ≤ (a2 + (1 : Nat)))) (h1 : ((a1 = (((2 : Nat) * a3) + (1 : Nat))) ∨ (a1 = (((2 : Nat) * a3) + (2 : Nat))))) : ((a0 - a1) ≤ a2) := hh_step h0 (h1.elim (fun e => e ▸ hh_lt1 a3) fun e => e ▸ hh_lt2 a3)
theorem om185 {a0 : Nat} {a1 : Nat} (h0 : ((a0 = (((2 : Nat) * a1) + (1 : Nat))) ∨ (a0 = (((2 : Nat) * a1) + (2 : Nat))))) : (((a0 - (1 : Nat)) / (2 : Nat)) = a1) := h0.elim (fun e => e ▸ hh_d1 a1) fun e => e ▸ hh_d2 a1
theorem om186 {a0 : Nat} {a1 : Nat} (h0 : ((a0 - a1) ≤ (0 : Nat))) (h1 : (a1 < a0)) : False := Nat.not_le_of_lt h1 (Nat.le_of_sub_eq_zero (Nat.le_zero.mp h0))
theorem om187 {a0 : Nat} {a1 : Nat} (h0 : ((0 : Nat) < a0)) (h1 : (((a0 - (1 : Nat)) / (2 : Nat)) = a1)) : ((a0 = (((2 : Nat) * a1) + (1 : Nat))) ∨ (a0 = ((((2 : Nat) * a1) + (1 : Nat)) + (1 : Nat)))) := (hh_187 h0 h1)
theorem om188 {a0 : Nat} (h0 : ((0 : Nat) < a0)) : (a0 ≠ ((a0 - (1 : Nat)) / (2 : Nat))) := by lia
theorem om189 {a0 : Nat} {a1 : Nat} (h0 : (¬ ((0 : Nat) < a1))) (h1 : ((0 : Nat) < a0)) : (a0 ≠ a1) := by grind
theorem om190 {a0 : Nat} {a1 : Nat} (h0 : ((0 : Nat) < a0)) (h1 : (((a1 - (1 : Nat)) / (2 : Nat)) = ((a0 - (1 : Nat)) / (2 : Nat)))) : (¬ (a0 = ((a1 - (1 : Nat)) / (2 : Nat)))) := fun e => Nat.lt_irrefl _ (Nat.lt_of_le_of_lt (Nat.le_of_eq (e.trans h1)) (hh_hlt h0))
theorem om191 {a0 : Nat} (h0 : ((0 : Nat) < a0)) : (¬ (a0 = ((((a0 - (1 : Nat)) / (2 : Nat)) - (1 : Nat)) / (2 : Nat)))) := fun e => Nat.lt_irrefl a0 (Nat.lt_of_le_of_lt (Nat.le_trans (Nat.le_of_eq e) (Nat.le_trans (hh_hle _) (Nat.le_trans (Nat.div_le_self _ _) (Nat.le_refl _)))) (Nat.sub_lt h0 Nat.one_pos))
theorem om192 {a0 : Nat} (h0 : ((0 : Nat) < a0)) : (((a0 - (1 : Nat)) / (2 : Nat)) ≠ a0) := Nat.ne_of_lt (hh_hlt h0)
theorem om193 {a0 : Nat} {a1 : Nat} (h0 : ((0 : Nat) < a0)) (h1 : (((a0 - (1 : Nat)) / (2 : Nat)) = ((a1 - (1 : Nat)) / (2 : Nat)))) : (¬ (a0 = ((a1 - (1 : Nat)) / (2 : Nat)))) := fun e => Nat.lt_irrefl _ (Nat.lt_of_le_of_lt (Nat.le_of_eq (e.trans h1.symm)) (hh_hlt h0))
theorem om194 {a0 : Nat} {a1 : Nat} (h0 : (a0 < a1)) (h1 : (a1 = a0)) : False := by lia
theorem om195 {a0 : Nat} {a1 : Nat} (h0 : (a0 < a1)) : ((a0 + (1 : Nat)) ≤ a1) := Nat.succ_le_of_lt h0
theorem om196 {a0 : Nat} {a1 : Nat} {a2 : Nat} (h0 : (a2 < a1)) (h1 : (a0 < a2)) : (a0 < a1) := Nat.lt_trans h1 h0
theorem om197 {a0 : Nat} : (((48 : Nat) ≤ ((48 : Nat) + (a0 % (2 : Nat)))) ∧ (((48 : Nat) + (a0 % (2 : Nat))) ≤ (49 : Nat))) := ⟨Nat.le_add_right _ _, Nat.add_le_add_left (Nat.le_of_lt_succ (Nat.mod_lt _ (by decide))) 48⟩
theorem om198 {a0 : Nat} {a1 : Nat} (h0 : (a0 < a1)) (h1 : (a1 ≤ a0)) : False := by lia
theorem om199 {a0 : Nat} {a1 : Nat} (h0 : (a1 < a0)) : (a0 = (a1 + ((1 : Nat) + ((a0 - a1) - (1 : Nat))))) := ((congrArg (a1 + ·) ((Nat.add_comm _ _).trans (Nat.sub_add_cancel (Nat.sub_pos_of_lt h0)))).trans (Nat.add_sub_of_le (Nat.le_of_lt h0))).symm
theorem om200 {a0 : Nat} (h0 : ((a0 + (1 : Nat)) < (900 : Nat))) : ((a0 + (1 : Nat)) < (1000 : Nat)) := Nat.le_trans h0 (by decide)
theorem om201 {a0 : Nat} (h0 : (a0 < (900 : Nat))) : (a0 < (16777216 : Nat)) := Nat.le_trans h0 (by decide)
theorem om202 {a0 : Nat} (h0 : (a0 < (900 : Nat))) : (a0 ≤ (16777215 : Nat)) := Nat.le_trans (Nat.le_of_lt h0) (by decide)
theorem om203 {a0 : Nat} (h0 : (a0 < (900 : Nat))) : ((a0 + (1 : Nat)) < (1000 : Nat)) := Nat.lt_of_le_of_lt h0 (by decide)
theorem om204 {a0 : Nat} (h0 : (a0 < (900 : Nat))) : ((a0 + (1 : Nat)) < (16777216 : Nat)) := Nat.lt_of_le_of_lt h0 (by decide)
theorem om205 {a0 : Nat} {a1 : Nat} (h0 : (a0 < a1)) : (((a0 : Nat) : Int) < ((a1 : Nat) : Int)) := Int.ofNat_le.mpr h0
theorem om206 {a0 : Nat} {a1 : Nat} : ((-((a0 : Nat) : Int)) ≤ ((a1 : Nat) : Int)) := by grind
theorem om207 {a0 : Nat} (h0 : (a0 < (1000000 : Nat))) : (((a0 : Nat) : Int) < (9223372036854775808 : Int)) := by lia
theorem om208 {a0 : Nat} : (¬ (((a0 : Nat) : Int) < (0 : Int))) := by grind
theorem om209 {a0 : Nat} (h0 : (a0 < (1000 : Nat))) : ((((2 : Nat) * a0) + (1 : Nat)) ≤ (16777216 : Nat)) := by lia
theorem om210 {a0 : Nat} {a1 : Nat} (h0 : (((1 : Nat) ≤ a0) ∧ (a0 ≤ (((2 : Nat) * a1) + (1 : Nat))))) : (a0 ≤ (((2 : Nat) * a1) + (1 : Nat))) := by lia
theorem om211 {a0 : Nat} {a1 : Nat} (h0 : (((1 : Nat) ≤ a0) ∧ (a0 ≤ (((2 : Nat) * a1) + (1 : Nat))))) : ((1 : Nat) ≤ a0) := by grind
theorem om212 {a0 : Nat} (h0 : (a0 ≤ (1000 : Nat))) : (a0 ≤ ((2 : Nat) ^ (24 : Nat))) := Nat.le_trans h0 (by decide)
theorem om213 {a0 : Nat} {a1 : Nat} (h0 : (a0 ≤ (1000 : Nat))) (h1 : (a1 ≤ ((1000 : Nat) * (16 : Nat)))) : ((a0 + a1) ≤ (16777216 : Nat)) := by lia
theorem om214 {a0 : Nat} {a1 : Nat} {a2 : Nat} (h0 : (a0 = a2)) (h1 : (¬ (a1 < a2))) : (a0 ≤ a1) := by lia
theorem om215 {a0 : Nat} {a1 : Nat} {a2 : Nat} (h0 : (a2 = a1)) (h1 : (a0 = a2)) : (a0 = a1) := by grind
theorem om216 {a0 : Nat} : (((1 : Nat) + a0) = (a0 + (1 : Nat))) := Nat.add_comm _ _
theorem om217 {a0 : Nat} : (a0 < (a0 + (1 : Nat))) := Nat.le_refl _
theorem om218 {a0 : Nat} {a1 : Nat} {a2 : Nat} (h0 : (a0 ≤ a2)) (h1 : (a1 ≤ a2)) : ((a0 + a1) ≤ (a2 * (3 : Nat))) := by grind
theorem om219 {a0 : Nat} {a1 : Nat} (h0 : ((a0 + a1) ≤ (10000 : Nat))) : ((a0 + a1) ≤ (16777216 : Nat)) := Nat.le_trans h0 (by decide)
theorem om220 {a0 : Nat} (h0 : (a0 ≤ ((100 : Nat) * (10 : Nat)))) : (a0 ≤ (10000 : Nat)) := Nat.le_trans h0 (by decide)
theorem om221 {a0 : Nat} : (((48 : Nat) + (a0 % (2 : Nat))) < (256 : Nat)) := by grind
theorem om222 {a0 : Int} (h0 : ((0 : Int) < a0)) : (a0 ≠ (0 : Int)) := by lia
theorem om223 {a0 : Nat} {a1 : Nat} {a2 : Nat} (h0 : (a2 = a1)) (h1 : (a0 < a2)) : (a0 < a1) := by lia
theorem om224 {a0 : Nat} {a1 : Nat} (h0 : (a1 ≤ (10 : Nat))) (h1 : (a0 ≤ ((100 : Nat) * (10 : Nat)))) : ((a0 + a1) ≤ (100000 : Nat)) := by grind
theorem om225 {a0 : Nat} {a1 : Nat} (h0 : (a1 < (100 : Nat))) (h1 : (a0 = a1)) : (a0 ≤ (100 : Nat)) := by lia
theorem om226 {a0 : Nat} {a1 : Nat} (h0 : (((3 : Nat) ≤ a1) ∧ (a1 ≤ (9 : Nat)))) (h1 : (a0 = a1)) : (((2 : Nat) ≤ a0) ∧ (a0 < (60 : Nat))) := h1 ▸ ⟨Nat.le_trans (by decide) h0.1, Nat.lt_of_le_of_lt h0.2 (by decide)⟩
theorem om227 {a0 : Nat} (h0 : ((97 : Nat) ≤ a0)) : (a0 ≠ (47 : Nat)) := by lia
theorem om228 {a0 : Nat} {a1 : Nat} (h0 : (((3 : Nat) ≤ a1) ∧ (a1 ≤ (9 : Nat)))) (h1 : (a0 = a1)) : (a0 < (100 : Nat)) := by lia
theorem om229 {a0 : Nat} {a1 : Nat} {a2 : Nat} (h0 : (((3 : Nat) ≤ a1) ∧ (a1 ≤ (9 : Nat)))) (h1 : (a2 = a1)) (h2 : (a0 < a2)) : (a0 < (1000 : Nat)) := by lia
theorem om230 {a0 : Nat} (h0 : (((3 : Nat) ≤ a0) ∧ (a0 ≤ (9 : Nat)))) : (a0 < (100 : Nat)) := by lia
theorem om231 {a0 : Int} (h0 : (((0 : Int) < a0) ∧ (a0 ≤ (27 : Int)))) : (a0 < (100 : Int)) := Int.lt_of_le_of_lt h0.2 (by decide)
theorem om232 {a0 : Nat} (h0 : (a0 ≤ (4 : Nat))) : (a0 < (100 : Nat)) := Nat.lt_of_le_of_lt h0 (by decide)
theorem om233 {a0 : Nat} {a1 : Nat} (h0 : (((3 : Nat) ≤ a1) ∧ (a1 ≤ (9 : Nat)))) (h1 : (a0 = a1)) : (((3 : Nat) ≤ a0) ∧ (a0 ≤ (9 : Nat))) := h1 ▸ h0
theorem om234 {a0 : Nat} {a1 : Nat} {a2 : Nat} {a3 : Nat} {a4 : Nat} (h0 : ((a1 + a2) ≤ (100000 : Nat))) (h1 : (a0 ≤ (a3 + a4))) (h2 : ((a3 + a4) ≤ (a1 + a2))) : (a0 ≤ ((2 : Nat) ^ (24 : Nat))) := by lia
theorem om235 {a0 : Nat} {a1 : Nat} (h0 : (a1 ≤ (4 : Nat))) (h1 : (a0 < a1)) : (a0 < (100 : Nat)) := by lia
theorem om236 {a0 : Nat} (h0 : ((3 : Nat) ≤ a0)) (h1 : (a0 ≤ (9 : Nat))) : ((a0 = (3 : Nat)) ∨ ((a0 = (4 : Nat)) ∨ ((a0 = (5 : Nat)) ∨ ((a0 = (6 : Nat)) ∨ ((a0 = (7 : Nat)) ∨ ((a0 = (8 : Nat)) ∨ (a0 = (9 : Nat)))))))) := by grind
theorem om237 {a0 : Int} : (((97 : Nat) + (Int.toNat a0)) ≠ (47 : Nat)) := by grind
theorem om238 {a0 : Nat} (h0 : ((a0 = (97 : Nat)) ∨ ((a0 = (98 : Nat)) ∨ (a0 = (99 : Nat))))) : (a0 ≠ (47 : Nat)) := by lia
theorem om239 {a0 : Nat} {a1 : Nat} {a2 : Nat} (h0 : (((2 : Nat) ≤ a0) ∧ (a0 ≤ (3 : Nat)))) : (((min a0 a1) + (min (20 : Nat) a2)) < (100 : Nat)) := Nat.lt_of_le_of_lt (Nat.add_le_add (Nat.le_trans (Nat.min_le_left _ _) h0.2) (Nat.min_le_left _ _)) (by decide)
theorem om240 {a0 : Nat} (h0 : (a0 ≤ ((27 : Nat) ^ (4 : Nat)))) : (((a0 : Nat) : Int) ≤ (1000000 : Int)) := by lia
theorem om241 : ((27 : Nat) > (0 : Nat)) := by decide
theorem om242 {a0 : Nat} (h0 : (((a0 : Nat) : Int) ≤ (27 : Int))) : (a0 ≤ (27 : Nat)) := Int.ofNat_le.mp h0
theorem om243 {a0 : Int} : (((2 : Nat) ≤ ((2 : Nat) + (Int.toNat (a0 % (3 : Int))))) ∧ (((2 : Nat) + (Int.toNat (a0 % (3 : Int)))) ≤ (4 : Nat))) := ⟨Nat.le_add_right _ _, Nat.add_le_add_left (hh_mod3 a0) 2⟩
theorem om244 {a0 : Int} {a1 : Int} (h0 : (((0 : Int) < a1) ∧ ((a1 < (10 : Int)) ∧ (a1 ≤ a0)))) : ((0 : Int) < a0) := Int.lt_of_lt_of_le h0.1 h0.2.2
theorem om245 {a0 : Int} {a1 : Nat} (h0 : (a0 ≤ ((9 : Int) * ((a1 : Nat) : Int)))) (h1 : (((2 : Nat) ≤ a1) ∧ (a1 ≤ (3 : Nat)))) : (a0 ≤ (27 : Int)) := by grind
theorem om246 {a0 : Int} {a1 : Int} {a2 : Int} (h0 : (((0 : Int) < a1) ∧ (a1 < (10 : Int)))) (h1 : (a0 ≤ a2)) : (a0 ≤ (a1 + a2)) := Int.le_trans h1 (Int.le_add_of_nonneg_left (Int.le_of_lt h0.1))
theorem om247 {a0 : Int} {a1 : Int} (h0 : ((0 : Int) ≤ a1)) : (a0 ≤ (a0 + a1)) := by lia
theorem om248 {a0 : Int} {a1 : Int} {a2 : Nat} (h0 : (a1 ≤ ((9 : Int) * ((a2 : Nat) : Int)))) (h1 : (((0 : Int) < a0) ∧ (a0 < (10 : Int)))) : ((a0 + a1) ≤ ((9 : Int) * (((a2 : Nat) : Int) + (1 : Int)))) := by lia
theorem om249 {a0 : Int} {a1 : Int} (h0 : ((0 : Int) ≤ a1)) (h1 : (((0 : Int) < a0) ∧ (a0 < (10 : Int)))) : ((0 : Int) ≤ (a0 + a1)) := Int.add_nonneg (Int.le_of_lt h1.1) h0
theorem om250 {a0 : Int} (h0 : ((0 : Int) ≤ a0)) (h1 : (a0 < (9 : Int))) : (((0 : Int) < ((1 : Int) + a0)) ∧ (((1 : Int) + a0) < (10 : Int))) := by lia
theorem om251 {a0 : Int} : (((2 : Nat) ≤ (min ((2 : Nat) + (Int.toNat (a0 % (2 : Int)))) ((5 : Nat) - (2 : Nat)))) ∧ ((min ((2 : Nat) + (Int.toNat (a0 % (2 : Int)))) ((5 : Nat) - (2 : Nat))) ≤ (3 : Nat))) := ⟨Nat.le_min.mpr ⟨Nat.le_add_right _ _, by decide⟩, Nat.min_le_right _ _⟩
theorem om252 {a0 : Int} (h0 : (((0 : Int) < a0) ∧ (a0 < (10 : Int)))) : (a0 < ((2 : Int) ^ (64 : Nat))) := by lia
theorem om253 {a0 : Int} (h0 : (((0 : Int) < a0) ∧ (a0 < (10 : Int)))) : ((-((2 : Int) ^ (64 : Nat))) < a0) := Int.lt_trans (by decide) h0.1
theorem om254 {a0 : Nat} {a1 : Nat} {a2 : Nat} (h0 : (((2 : Nat) ≤ a1) ∧ (a1 ≤ (3 : Nat)))) (h1 : (a0 = (min a2 a1))) : (a0 ≤ (3 : Nat)) := h1 ▸ Nat.le_trans (Nat.min_le_right _ _) h0.2
theorem om255 {a0 : Nat} {a1 : Nat} {a2 : Nat} (h0 : (a2 < (500 : Nat))) (h1 : (a2 = a1)) : ((min a0 a1) ≤ (500 : Nat)) := Nat.le_trans (Nat.min_le_right _ _) (h1 ▸ Nat.le_of_lt h0)
theorem om256 {a0 : Nat} {a1 : Nat} {a2 : Nat} (h0 : (¬ (a1 ≤ a0))) : (a0 ≤ (a1 + a2)) := by grind
theorem om257 {a0 : Nat} {a1 : Nat} {a2 : Nat} : (¬ (a0 < ((min a1 a2) - a2))) := Nat.not_lt.mpr (Nat.le_trans (Nat.le_of_eq (Nat.sub_eq_zero_of_le (Nat.min_le_right _ _))) (Nat.zero_le _))
theorem om258 {a0 : Nat} {a1 : Nat} (h0 : (¬ (a1 ≤ a0))) : (a0 ≤ a1) := Nat.le_of_not_le h0
theorem om259 {a0 : Nat} {a1 : Nat} {a2 : Nat} (h0 : (¬ (a2 < (a0 - a1)))) : (a0 ≤ (a1 + a2)) := Nat.le_trans (Nat.le_add_of_sub_le (Nat.le_of_not_lt h0)) (Nat.le_of_eq (Nat.add_comm _ _))
theorem om260 {a0 : Nat} {a1 : Nat} {a2 : Nat} {a3 : Nat} (h0 : (¬ (a1 ≤ a3))) (h1 : (a0 < (a3 - a2))) : (a0 < (a1 - a2)) := Nat.lt_of_lt_of_le h1 (Nat.sub_le_sub_right (Nat.le_of_not_le h0) _)
theorem om261 {a0 : Nat} : (((min (5 : Nat) a0) + ((5 : Nat) - (min (5 : Nat) a0))) ≤ (10000 : Nat)) := Nat.le_trans (Nat.le_of_eq (hh_min5 a0)) (by decide)
theorem om262 : ((5 : Nat) ≤ (10000 : Nat)) := by decide
theorem om263 {a0 : Nat} : ((min (5 : Nat) a0) < ((2 : Nat) ^ (24 : Nat))) := by lia
theorem om264 {a0 : Nat} {a1 : Nat} (h0 : (a1 ≤ (63 : Nat))) (h1 : (a0 = a1)) : (a0 ≤ (10000 : Nat)) := by lia
theorem om265 {a0 : Nat} : ((min (5 : Nat) a0) ≤ (100000 : Nat)) := Nat.le_trans (Nat.min_le_left _ _) (by decide)
theorem om266 {a0 : Int} : (((2 : Int) + (a0 % (3 : Int))) = ((((2 : Nat) + (Int.toNat (a0 % (3 : Int)))) : Nat) : Int)) := hh_266 a0
theorem om267 {a0 : Nat} (h0 : (a0 ≤ (5 : Nat))) : (a0 ≤ (100000 : Nat)) := Nat.le_trans h0 (by decide)
theorem om268 {a0 : Int} {a1 : Nat} : ((min (((4 : Nat) + (Int.toNat (a0 % (2 : Int)))) - (2 : Nat)) (a1 - (2 : Nat))) ≤ (5 : Nat)) := Nat.le_trans (Nat.min_le_left _ _) (Nat.sub_le_of_le_add (Nat.add_le_add_left (hh_mod2 a0) 4))
theorem om269 {a0 : Int} : ((((4 : Nat) + (Int.toNat (a0 % (2 : Int)))) - (2 : Nat)) = ((2 : Nat) + (Int.toNat (a0 % (2 : Int))))) := by lia
theorem om270 {a0 : Nat} (h0 : (a0 = (5 : Nat))) : (a0 ≤ (10000 : Nat)) := by grind
theorem om271 {a0 : Int} : (((4 : Int) + (a0 % (2 : Int))) = ((((4 : Nat) + (Int.toNat (a0 % (2 : Int)))) : Nat) : Int)) := hh_271 a0
theorem om272 {a0 : Nat} (h0 : (a0 = (5 : Nat))) : ((1 : Nat) < a0) := by grind
theorem om273 {a0 : Nat} (h0 : (a0 = (5 : Nat))) : ((0 : Nat) < a0) := by lia
theorem om274 {a0 : Nat} : (((min (5 : Nat) a0) + ((5 : Nat) - (min (5 : Nat) a0))) = (5 : Nat)) := hh_min5 a0
theorem om275 {a0 : Nat} (h0 : (((2 : Nat) ≤ a0) ∧ (a0 ≤ (4 : Nat)))) : (a0 ≤ (4 : Nat)) := by lia
theorem om276 {a0 : Nat} {a1 : Nat} (h0 : ((a0 + (100 : Nat)) < a1)) : ((a0 + (10 : Nat)) < a1) := by lia
theorem om277 {a0 : Nat} {a1 : Nat} (h0 : (a1 < (100 : Nat))) (h1 : (a0 = a1)) : (a0 ≤ (100000 : Nat)) := by lia
theorem om278 {a0 : Nat} (h0 : (a0 ≤ (20 : Nat))) : ((a0 + (0 : Nat)) ≤ (16777216 : Nat)) := Nat.le_trans h0 (by decide)
theorem om279 {a0 : Int} {a1 : Nat} (h0 : (((2 : Nat) ≤ a1) ∧ (a1 ≤ (3 : Nat)))) (h1 : (a0 < ((a1 : Nat) : Int))) : ((Int.toNat a0) < a1) := hh_279 h0.1 h1
theorem om280 {a0 : Nat} (h0 : (((2 : Nat) ≤ a0) ∧ (a0 ≤ (3 : Nat)))) : ((0 : Int) < ((a0 : Nat) : Int)) := by grind
theorem om281 {a0 : Nat} (h0 : (a0 ≤ (20 : Nat))) : (a0 ≤ (100000 : Nat)) := Nat.le_trans h0 (by decide)
theorem om282 {a0 : Nat} : ((min ((25 : Nat) - (5 : Nat)) a0) ≤ (20 : Nat)) := Nat.min_le_left _ _
theorem om283 {a0 : Nat} : ((((2 : Int) + (((a0 : Nat) : Int) / (5 : Int))) + (((a0 : Nat) : Int) / (9 : Int))) = (((((2 : Nat) + (a0 / (5 : Nat))) + (a0 / (9 : Nat))) : Nat) : Int)) := rfl
theorem om284 {a0 : Nat} {a1 : Nat} (h0 : ((a0 + (100 : Nat)) < a1)) : (a0 < a1) := Nat.lt_of_le_of_lt (Nat.le_add_right _ _) h0
theorem om285 {a0 : Nat} (h0 : (((48 : Nat) ≤ a0) ∧ (a0 ≤ (49 : Nat)))) : (a0 < (256 : Nat)) := Nat.lt_of_le_of_lt h0.2 (by decide)
theorem om286 {a0 : Nat} (h0 : (((2 : Nat) ≤ a0) ∧ (a0 ≤ (4 : Nat)))) : (((0 : Nat) < a0) ∧ (a0 ≤ (10 : Nat))) := by lia
theorem om287 {a0 : Nat} {a1 : Nat} (h0 : (((2 : Nat) ≤ a1) ∧ (a1 ≤ (4 : Nat)))) (h1 : (a0 < a1)) : (a0 < (10 : Nat)) := by lia
theorem om288 {a0 : Nat} : (((0 : Int) + (((a0 : Nat) : Int) * (1 : Int))) = ((a0 : Nat) : Int)) := by grind
theorem om289 {a0 : Nat} (h0 : (((2 : Nat) ≤ a0) ∧ (a0 ≤ (4 : Nat)))) : (a0 ≤ (10 : Nat)) := by lia
theorem om290 {a0 : Nat} (h0 : (((2 : Nat) ≤ a0) ∧ (a0 ≤ (4 : Nat)))) : ((a0 = (2 : Nat)) ∨ ((a0 = (3 : Nat)) ∨ (a0 = (4 : Nat)))) := by lia
theorem om291 {a0 : Nat} {a1 : Nat} (h0 : (((2 : Nat) ≤ a0) ∧ (a0 ≤ (4 : Nat)))) : (((a0 - (1 : Nat)) - a1) < (10 : Nat)) := Nat.lt_of_le_of_lt (Nat.le_trans (Nat.sub_le _ _) (Nat.le_trans (Nat.sub_le _ _) h0.2)) (by decide)
theorem om292 {a0 : Nat} {a1 : Nat} {a2 : Nat} (h0 : (a1 < (100 : Nat))) (h1 : ((a2 + a0) = a1)) : (a0 < (1000 : Nat)) := Nat.lt_of_le_of_lt (Nat.le_trans (Nat.le_add_left _ _) (Nat.le_of_eq h1)) (Nat.lt_trans h0 (by decide))
theorem om293 : (¬ ((97 : Nat) ≤ (46 : Nat))) := by decide
theorem om294 : (¬ ((97 : Nat) ≤ (47 : Nat))) := by decide
theorem om295 {a0 : Nat} : (((a0 + (2 : Nat)) - a0) = (2 : Nat)) := Nat.add_sub_cancel_left _ _
theorem om296 {a0 : Nat} {a1 : Nat} {a2 : Nat} (h0 : (((2 : Nat) ≤ a1) ∧ (a1 < (60 : Nat)))) (h1 : (a2 = a1)) (h2 : (a0 = a2)) : (a0 ≤ (10000 : Nat)) := by lia
theorem om297 {a0 : Nat} : ((((1 : Int) + (((a0 : Nat) : Int) * (1 : Int))) + (1 : Int)) = (((a0 + (2 : Nat)) : Nat) : Int)) := by grind
theorem om298 {a0 : Nat} : ((((1 : Int) + (((a0 : Nat) : Int) * (1 : Int))) - (1 : Int)) = ((a0 : Nat) : Int)) := by lia
theorem om299 {a0 : Nat} {a1 : Nat} {a2 : Nat} (h0 : (a1 = a2)) (h1 : (a0 < (a2 - (1 : Nat)))) : ((a0 + (1 : Nat)) < a1) := h0 ▸ Nat.add_lt_of_lt_sub h1
theorem om300 {a0 : Nat} {a1 : Nat} {a2 : Nat} (h0 : (a1 = a2)) (h1 : (a0 < (a2 - (1 : Nat)))) : (a0 < a1) := Nat.lt_of_lt_of_le h1 (h0 ▸ Nat.sub_le _ _)
theorem om301 {a0 : Nat} (h0 : (((2 : Nat) ≤ a0) ∧ (a0 < (60 : Nat)))) : (a0 < (64 : Nat)) := by lia
theorem om302 {a0 : Nat} (h0 : (((2 : Nat) ≤ a0) ∧ (a0 < (60 : Nat)))) : ((a0 - (1 : Nat)) ≤ (100000 : Nat)) := Nat.le_trans (Nat.sub_le _ _) (Nat.le_trans (Nat.le_of_lt h0.2) (by decide))
theorem om303 {a0 : Nat} (h0 : (((2 : Nat) ≤ a0) ∧ (a0 < (60 : Nat)))) : ((((a0 : Nat) : Int) - (1 : Int)) = (((a0 - (1 : Nat)) : Nat) : Int)) := by lia
theorem om304 {a0 : Nat} (h0 : (¬ ((1 : Int) < ((a0 : Nat) : Int)))) : ((0 : Int) = (((a0 - (1 : Nat)) : Nat) : Int)) := hh_304 h0
theorem om305 {a0 : Nat} (h0 : (((2 : Nat) ≤ a0) ∧ (a0 < (60 : Nat)))) : (((a0 : Nat) : Int) < ((2 : Int) ^ (62 : Nat))) := Int.ofNat_lt.mpr (Nat.lt_trans h0.2 (by decide))
theorem om306 {a0 : Nat} : ((-((2 : Int) ^ (62 : Nat))) ≤ ((a0 : Nat) : Int)) := Int.natCast_nonneg _
theorem om307 : ((1 : Int) < ((2 : Int) ^ (62 : Nat))) := by decide
theorem om308 : ((-((2 : Int) ^ (62 : Nat))) ≤ (1 : Int)) := by decide
theorem om309 {a0 : Nat} {a1 : Nat} (h0 : (((2 : Nat) ≤ a1) ∧ (a1 < (60 : Nat)))) (h1 : (a0 = a1)) : (((a0 : Nat) : Int) < (9223372036854775808 : Int)) := by lia
theorem om310 {a0 : Nat} {a1 : Nat} (h0 : (a0 < a1)) : (¬ (a0 = a1)) := Nat.ne_of_lt h0
theorem om311 {a0 : Nat} {a1 : Nat} {a2 : Nat} (h0 : (a0 ≤ a2)) (h1 : (a2 < a1)) : (a0 < a1) := Nat.lt_of_le_of_lt h0 h1
theorem om312 : ((1 : Nat) ≤ (5 : Nat)) := by decide
theorem om313 {a0 : Nat} {a1 : Nat} (h0 : ((a0 + ((10 : Nat) * (a1 + (1 : Nat)))) ≤ (9000 : Nat))) : (((a0 + (1 : Nat)) + ((10 : Nat) * a1)) ≤ (9000 : Nat)) := by lia
theorem om314 {a0 : Nat} {a1 : Nat} (h0 : ((a0 + (a1 + (1 : Nat))) ≤ (900 : Nat))) : ((a0 + a1) ≤ (900 : Nat)) := Nat.le_of_lt h0
theorem om315 {a0 : Nat} {a1 : Nat} (h0 : (a1 ≤ (1000 : Nat))) (h1 : (a0 = a1)) : (a0 ≤ ((2 : Nat) ^ (24 : Nat))) := by lia
theorem om316 {a0 : Nat} {a1 : Int} (h0 : (a1 = ((a0 : Nat) : Int))) (h1 : (¬ (a1 > (0 : Int)))) : (a0 = (0 : Nat)) := by lia
theorem om317 {a0 : Int} {a1 : Nat} (h0 : (a0 = ((a1 : Nat) : Int))) (h1 : (a1 ≤ (10000 : Nat))) : (a0 ≤ (16777216 : Int)) := by lia
theorem om318 {a0 : Int} {a1 : Nat} (h0 : (a0 = ((a1 : Nat) : Int))) (h1 : (a1 ≤ (10000 : Nat))) : (¬ ((Int.toNat a0) > ((2 : Nat) ^ (24 : Nat)))) := h0 ▸ Nat.not_lt.mpr (Nat.le_trans h1 (by decide))
theorem om319 {a0 : Int} {a1 : Nat} (h0 : (a0 = ((a1 : Nat) : Int))) (h1 : (a1 ≤ (10000 : Nat))) : (a0 ≠ (((2 : Int) ^ (63 : Nat)) - (1 : Int))) := by lia
theorem om320 {a0 : Int} {a1 : Nat} (h0 : (a0 = ((a1 : Nat) : Int))) : (¬ (a0 < (0 : Int))) := by lia
theorem om321 {a0 : Int} {a1 : Nat} (h0 : (a0 = ((a1 : Nat) : Int))) (h1 : (a1 ≤ (10000 : Nat))) : (((-(9223372036854775808 : Int)) ≤ a0) ∧ (a0 < (9223372036854775808 : Int))) := h0 ▸ ⟨Int.le_trans (by decide) (Int.natCast_nonneg a1), Int.lt_of_le_of_lt (Int.ofNat_le.mpr h1) (by decide)⟩
theorem om322 {a0 : Nat} : ((a0 - (0 : Nat)) ≤ a0) := Nat.le_refl _
theorem om323 {a0 : Nat} {a1 : Nat} {a2 : Nat} (h0 : ((a0 - a2) ≤ (a1 + (1 : Nat)))) : (a0 ≤ (a1 + (((2 : Nat) * a2) + (2 : Nat)))) := Nat.le_trans (Nat.le_add_of_sub_le h0) (hh_323 a1 a2)
theorem om324 {a0 : Nat} {a1 : Nat} {a2 : Nat} (h0 : ((a0 - a2) ≤ (a1 + (1 : Nat)))) : (a0 ≤ (a1 + (((2 : Nat) * a2) + (1 : Nat)))) := Nat.le_trans (Nat.le_add_of_sub_le h0) (hh_324 a1 a2)
theorem om325 {a0 : Nat} {a1 : Nat} (h0 : (a1 ≤ (((2 : Nat) * a0) + (1 : Nat)))) : (¬ ((((2 : Nat) * a0) + (1 : Nat)) < a1)) := Nat.not_lt.mpr h0
theorem om326 {a0 : Nat} {a1 : Nat} (h0 : ((a0 + (1 : Nat)) ≤ (a1 + (1 : Nat)))) : ((a0 / (2 : Nat)) ≤ a1) := Nat.le_trans (Nat.div_le_self _ _) (Nat.le_of_succ_le_succ h0)
theorem om327 {a0 : Nat} : ((0 : Nat) < (a0 + (1 : Nat))) := Nat.le_add_left _ _
theorem om328 {a0 : Nat} (h0 : (a0 ≤ (0 : Nat))) : (a0 = (0 : Nat)) := by lia
theorem om329 {a0 : Nat} {a1 : Nat} {a2 : Nat} (h0 : (a0 < (10000 : Nat))) (h1 : (a1 < (10000 : Nat))) (h2 : (a2 ≤ a0)) : ((((((a0 : Nat) : Int) < (9223372036854775808 : Int)) ∧ (((a1 : Nat) : Int) < (9223372036854775808 : Int))) ∧ (((a2 : Nat) : Int) < (9223372036854775808 : Int))) ∧ ((a2 = (0 : Nat)) ∨ (((-(9223372036854775808 : Int)) ≤ (((a0 : Nat) : Int) + (((a1 : Nat) : Int) - (1 : Int)))) ∧ ((((a0 : Nat) : Int) + (((a1 : Nat) : Int) - (1 : Int))) < (9223372036854775808 : Int))))) := ⟨⟨⟨hh_big h0, hh_big h1⟩, hh_big (Nat.lt_of_le_of_lt h2 h0)⟩, .inr ⟨hh_low a0 a1, hh_hi h0 h1⟩⟩
theorem om330 {a0 : Nat} (h0 : (¬ (a0 = (0 : Nat)))) : (((((a0 - (1 : Nat)) : Nat) : Int) + (1 : Int)) = ((a0 : Nat) : Int)) := hh_330 h0
theorem om331 {a0 : Nat} : ((a0 + (0 : Nat)) = ((a0 + (1 : Nat)) - (1 : Nat))) := rfl
theorem om332 {a0 : Nat} (h0 : ((0 : Nat) < a0)) : ((a0 - (1 : Nat)) < a0) := Nat.sub_lt h0 Nat.one_pos
theorem om333 {a0 : Nat} {a1 : Nat} (h0 : ((0 : Nat) < a1)) : (((a0 + a1) - (1 : Nat)) = (a0 + (a1 - (1 : Nat)))) := Nat.add_sub_assoc h0 _
theorem om334 {a0 : Nat} (h0 : (¬ (a0 = (0 : Nat)))) : (a0 = ((a0 - (1 : Nat)) + (1 : Nat))) := (Nat.sub_add_cancel (Nat.pos_of_ne_zero h0)).symm
theorem om335 {a0 : Nat} (h0 : ((0 : Nat) < a0)) : (((((a0 : Nat) : Int) - (0 : Int)) - (1 : Int)) = (((a0 - (1 : Nat)) : Nat) : Int)) := (congrArg (· - 1) (Int.sub_zero (a0 : Int))).trans (Int.ofNat_sub h0).symm
theorem om336 {a0 : Nat} (h0 : ((0 : Nat) < a0)) : ((0 : Int) < ((a0 : Nat) : Int)) := Int.ofNat_le.mpr h0
theorem om337 {a0 : Nat} (h0 : (¬ (a0 = (0 : Nat)))) : ((0 : Nat) < a0) := Nat.pos_of_ne_zero h0
theorem om338 {a0 : Nat} (h0 : ((0 : Nat) < a0)) : (((a0 : Nat) : Int) > (0 : Int)) := Int.ofNat_le.mpr h0
theorem om339 {a0 : Nat} : ((((a0 : Nat) : Int) - (0 : Int)) = ((a0 : Nat) : Int)) := rfl
theorem om340 {a0 : Nat} (h0 : (¬ ((0 : Int) < ((a0 : Nat) : Int)))) : ((0 : Int) = ((a0 : Nat) : Int)) := by grind
theorem om341 {a0 : Nat} (h0 : (a0 < (10000 : Nat))) : (((a0 : Nat) : Int) < ((2 : Int) ^ (62 : Nat))) := by lia
theorem om342 : ((0 : Int) < ((2 : Int) ^ (62 : Nat))) := by decide
theorem om343 : ((-((2 : Int) ^ (62 : Nat))) ≤ (0 : Int)) := by decide
theorem om344 {a0 : Nat} (h0 : ((0 : Nat) < a0)) : (((a0 : Nat) : Int) ≠ (0 : Int)) := by lia
theorem om345 {a0 : Nat} {a1 : Nat} (h0 : (a1 < a0)) : (((a0 - (a1 + (1 : Nat))) + (1 : Nat)) = (a0 - a1)) := by grind
theorem om346 {a0 : Nat} {a1 : Nat} (h0 : (a1 < a0)) : ((a0 - (a1 + (1 : Nat))) < a0) := Nat.sub_lt (Nat.lt_of_le_of_lt (Nat.zero_le _) h0) (Nat.succ_pos _)
theorem om347 {a0 : Nat} {a1 : Nat} (h0 : (((48 : Nat) ≤ a1) ∧ (a1 ≤ (49 : Nat)))) : ((((((a0 : Nat) : Int) * (2 : Int)) + ((a1 : Nat) : Int)) - (48 : Int)) = ((((a0 * (2 : Nat)) + (a1 - (48 : Nat))) : Nat) : Int)) := hh_347 h0.1
theorem om348 {a0 : Nat} {a1 : Nat} (h0 : (((0 : Nat) < a1) ∧ (a1 ≤ (10 : Nat)))) : ((min a0 a1) ≤ (10 : Nat)) := Nat.le_trans (Nat.min_le_right _ _) h0.2
theorem om349 {a0 : Nat} {a1 : Nat} (h0 : (a1 ≤ (100 : Nat))) : ((min a0 a1) ≤ (100 : Nat)) := Nat.le_trans (Nat.min_le_right _ _) h0
theorem om350 {a0 : Nat} : ((((((2 : Nat) * a0) : Nat) : Int) / (2 : Int)) = ((a0 : Nat) : Int)) := by lia
theorem om351 {a0 : Nat} {a1 : Nat} {a2 : Nat} {a3 : Nat} (h0 : (a0 ≤ a3)) (h1 : (a1 ≤ a2)) : ((a0 + a1) ≤ (a2 + ((1 : Nat) * a3))) := by lia
theorem om352 {a0 : Nat} {a1 : Nat} {a2 : Nat} (h0 : (a0 < a2)) (h1 : (((48 : Nat) ≤ a1) ∧ (a1 ≤ (49 : Nat)))) : (((a0 * (2 : Nat)) + (a1 - (48 : Nat))) < (a2 * (2 : Nat))) := hh_352 h0 h1.2
theorem om353 {a0 : Nat} : (((0 : Int) + ((((a0 : Nat) : Int) - (1 : Int)) * (1 : Int))) = (((a0 : Nat) : Int) - (1 : Int))) := by lia
theorem om354 : (((1 : Int) * (-(1 : Int))) ≤ (10 : Int)) := by decide
theorem om355 : ((-(10 : Int)) ≤ ((1 : Int) * (-(1 : Int)))) := by decide
theorem om356 : (((0 : Int) + ((-(1 : Int)) * (1 : Int))) ≤ (10 : Int)) := by decide
theorem om357 : ((-(10 : Int)) ≤ ((0 : Int) + ((-(1 : Int)) * (1 : Int)))) := by decide
theorem om358 {a0 : Nat} (h0 : ((a0 = (2 : Nat)) ∨ ((a0 = (3 : Nat)) ∨ (a0 = (4 : Nat))))) : (((0 : Int) + ((((a0 : Nat) : Int) - (1 : Int)) * (1 : Int))) ≤ (10 : Int)) := by lia
theorem om359 {a0 : Nat} : ((-(10 : Int)) ≤ ((0 : Int) + ((((a0 : Nat) : Int) - (1 : Int)) * (1 : Int)))) := by lia
theorem om360 {a0 : Nat} (h0 : (a0 < (4 : Nat))) : (¬ (a0 ≥ (134217728 : Nat))) := by lia
theorem om361 {a0 : Nat} {a1 : Nat} (h0 : ((a0 + ((10 : Nat) * a1)) ≤ (9000 : Nat))) : ((a0 + (100 : Nat)) < (9900 : Nat)) := Nat.lt_of_le_of_lt (Nat.add_le_add_right (Nat.le_trans (Nat.le_add_right _ _) h0) 100) (by decide)
theorem om362 {a0 : Nat} {a1 : Nat} (h0 : ((a0 + a1) ≤ (900 : Nat))) : (a0 < (1000 : Nat)) := by lia
theorem om363 {a0 : Nat} {a1 : Nat} {a2 : Nat} (h0 : (a1 ≤ a2)) (h1 : ((a0 + ((10 : Nat) * a2)) ≤ (9000 : Nat))) : ((a0 + ((10 : Nat) * a1)) ≤ (9000 : Nat)) := by lia
theorem om364 {a0 : Nat} {a1 : Nat} {a2 : Nat} (h0 : (a1 ≤ a2)) (h1 : ((a0 + a2) ≤ (900 : Nat))) : ((a0 + a1) ≤ (900 : Nat)) := by lia
theorem om365 {a0 : Nat} {a1 : Nat} (h0 : ((a0 + ((10 : Nat) * (a1 + (1 : Nat)))) ≤ (9000 : Nat))) : (((a0 + (3 : Nat)) + ((10 : Nat) * a1)) ≤ (9000 : Nat)) := by lia
theorem om366 {a0 : Nat} {a1 : Nat} (h0 : ((a0 + (a1 + (1 : Nat))) ≤ (900 : Nat))) : (((a0 + (1 : Nat)) + a1) ≤ (900 : Nat)) := by lia
theorem om367 {a0 : Nat} (h0 : (a0 < ((2 : Nat) ^ (24 : Nat)))) : (((a0 : Nat) : Int) < (9223372036854775808 : Int)) := by lia
theorem om368 {a0 : Int} {a1 : Nat} (h0 : ((Int.toNat a0) < a1)) : (a0 < ((a1 : Nat) : Int)) := Int.lt_of_le_of_lt (Int.self_le_toNat a0) (Int.ofNat_lt.mpr h0)
theorem om369 {a0 : Nat} (h0 : (¬ ((0 : Int) < ((a0 : Nat) : Int)))) : (¬ ((0 : Nat) < a0)) := by grind
theorem om370 {a0 : Nat} {a1 : Nat} {a2 : Nat} (h0 : (a1 = a2)) (h1 : (a0 < a2)) : (a0 < a1) := by lia
theorem om371 {a0 : Nat} {a1 : Nat} (h0 : (a1 < (1000 : Nat))) (h1 : (a0 < a1)) : (((a0 : Nat) : Int) < ((2 : Int) ^ (63 : Nat))) := by lia
theorem om372 {a0 : Nat} (h0 : ((0 : Int) < ((a0 : Nat) : Int))) : ((0 : Nat) < a0) := Int.ofNat_le.mp h0
theorem om373 {a0 : Nat} (h0 : ((0 : Int) < ((a0 : Nat) : Int))) : (((((a0 : Nat) : Int) - (1 : Int)) / (2 : Int)) = ((((a0 - (1 : Nat)) / (2 : Nat)) : Nat) : Int)) := hh_373 h0
theorem om374 {a0 : Nat} (h0 : ((0 : Int) < ((a0 : Nat) : Int))) : (((a0 - (1 : Nat)) / (2 : Nat)) < a0) := hh_hlt (Int.ofNat_lt.mp h0)
theorem om375 {a0 : Nat} {a1 : Nat} (h0 : (a1 < (1000 : Nat))) (h1 : (a0 < a1)) : (((((a0 : Nat) : Int) - (1 : Int)) / (2 : Int)) < ((2 : Int) ^ (63 : Nat))) := hh_375 (Nat.lt_trans h1 h0)
theorem om376 {a0 : Nat} (h0 : ((0 : Int) < ((a0 : Nat) : Int))) : ((0 : Int) ≤ ((((a0 : Nat) : Int) - (1 : Int)) / (2 : Int))) := hh_376 h0
theorem om377 {a0 : Nat} : ((Int.toNat ((((a0 : Nat) : Int) - (1 : Int)) / (2 : Int))) = ((a0 - (1 : Nat)) / (2 : Nat))) := hh_half a0
theorem om378 {a0 : Nat} {a1 : Nat} {a2 : Nat} (h0 : (a1 = a2)) (h1 : (a0 < a2)) : (((a0 - (1 : Nat)) / (2 : Nat)) < a1) := Nat.lt_of_le_of_lt (hh_hle a0) (h0 ▸ h1)
theorem om379 {a0 : Nat} {a1 : Nat} (h0 : (a0 < a1)) (h1 : (a1 < (1000 : Nat))) : (((a0 : Nat) : Int) < ((2 : Int) ^ (63 : Nat))) := by lia
theorem om380 {a0 : Nat} {a1 : Nat} (h0 : (¬ (a1 < a0))) : (a0 ≤ a1) := Nat.le_of_not_lt h0
theorem om381 {a0 : Nat} : ((min ((a0 : Nat) : Int) ((a0 : Nat) : Int)) = ((a0 : Nat) : Int)) := by grind
theorem om382 {a0 : Nat} {a1 : Nat} (h0 : (¬ (a0 ≤ a1))) : ((min ((a0 : Nat) : Int) ((a1 : Nat) : Int)) = ((a1 : Nat) : Int)) := Int.min_eq_right (Int.ofNat_le.mpr (Nat.le_of_not_le h0))
theorem om383 {a0 : Nat} {a1 : Nat} (h0 : (a0 ≤ a1)) : ((a0 + (a1 - a0)) = a1) := Nat.add_sub_of_le h0
theorem om384 {a0 : Nat} (h0 : ((1 : Nat) ≤ a0)) : ((max a0 (1 : Nat)) = a0) := Nat.max_eq_left h0
theorem om385 {a0 : Nat} {a1 : Nat} {a2 : Nat} (h0 : (a2 ≤ a1)) (h1 : (a0 < (a1 + (1 : Nat)))) (h2 : (¬ (a0 = a2))) (h3 : (¬ ((a2 < a0) ∧ (a0 ≤ a1)))) : (a0 < a1) := Nat.lt_of_le_of_ne (Nat.le_of_lt_succ h1) fun e => h3 ⟨Nat.lt_of_le_of_ne (e ▸ h0) (Ne.symm h2), Nat.le_of_lt_succ h1⟩
theorem om386 {a0 : Nat} {a1 : Nat} {a2 : Nat} (h0 : (a2 < a0)) (h1 : (a0 < (a1 + (1 : Nat)))) : ((a0 - (1 : Nat)) < a1) := Nat.lt_of_lt_of_le (Nat.sub_lt (Nat.lt_of_le_of_lt (Nat.zero_le _) h0) Nat.one_pos) (Nat.le_of_lt_succ h1)
theorem om387 {a0 : Nat} {a1 : Nat} {a2 : Nat} {a3 : Nat} (h0 : (a0 < a1)) (h1 : (¬ (a0 = a2))) (h2 : (¬ ((a2 < a0) ∧ (a0 ≤ a3)))) (h3 : ((a2 < a1) ∧ (a1 ≤ a3))) : (a0 < (a1 - (1 : Nat))) := hh_387 h0 h1 h2 h3
theorem om388 {a0 : Nat} {a1 : Nat} {a2 : Nat} {a3 : Nat} (h0 : (¬ (a0 = a1))) (h1 : (¬ ((a1 < a0) ∧ (a0 ≤ a2)))) (h2 : ((a1 < a3) ∧ (a3 ≤ a2))) (h3 : (a0 = (a3 - (1 : Nat)))) : False := hh_388 h0 h1 h2 h3
theorem om389 {a0 : Nat} {a1 : Nat} {a2 : Nat} {a3 : Nat} (h0 : (a0 < a2)) (h1 : (a2 < (a3 + (1 : Nat)))) (h2 : (¬ (a0 = a1))) (h3 : (¬ ((a1 < a0) ∧ (a0 ≤ a3)))) : (a0 < a1) := by lia
theorem om390 {a0 : Nat} {a1 : Nat} {a2 : Nat} {a3 : Nat} (h0 : (a0 < a1)) (h1 : ((a2 < a0) ∧ (a0 ≤ a3))) : ((a0 - (1 : Nat)) < (a1 - (1 : Nat))) := Nat.pred_lt_pred (Nat.ne_of_gt (Nat.lt_of_le_of_lt (Nat.zero_le _) h1.1)) h0
theorem om391 {a0 : Nat} {a1 : Nat} {a2 : Nat} {a3 : Nat} (h0 : (a3 < a1)) (h1 : (a1 < (a2 + (1 : Nat)))) (h2 : ((a0 < a3) ∧ (a3 ≤ a2))) : ((a0 < a1) ∧ (a1 ≤ a2)) := ⟨Nat.lt_trans h2.1 h0, Nat.le_of_lt_succ h1⟩
theorem om392 {a0 : Nat} {a1 : Nat} {a2 : Nat} {a3 : Nat} (h0 : (a2 < a0)) (h1 : ((a1 < a2) ∧ (a2 ≤ a3))) : (¬ (a0 = a1)) := by lia
theorem om393 {a0 : Nat} {a1 : Nat} {a2 : Nat} (h0 : (a2 < a1)) (h1 : (a2 = a0)) : (a0 ≤ (a1 - (1 : Nat))) := Nat.le_sub_one_of_lt (h1 ▸ h0)
theorem om394 {a0 : Nat} {a1 : Nat} {a2 : Nat} {a3 : Nat} (h0 : (a3 < a1)) (h1 : (a1 < (a2 + (1 : Nat)))) (h2 : (a3 = a0)) : ((a0 < a1) ∧ (a1 ≤ a2)) := by lia
theorem om395 {a0 : Nat} {a1 : Nat} {a2 : Nat} (h0 : (a2 < a0)) (h1 : (a2 = a1)) : (¬ (a0 = a1)) := by lia
theorem om396 {a0 : Nat} {a1 : Nat} {a2 : Nat} (h0 : ((a0 + (a1 + (1 : Nat))) = a2)) : (((a0 + (1 : Nat)) + a1) = a2) := by grind
theorem om397 {a0 : Nat} {a1 : Nat} (h0 : (a1 ≤ a0)) : ((a0 - (a0 - a1)) = a1) := Nat.sub_sub_self h0
theorem om398 {a0 : Nat} {a1 : Nat} : ((a0 - a1) ≤ a0) := Nat.sub_le _ _
theorem om399 {a0 : Nat} {a1 : Nat} {a2 : Nat} (h0 : ((a0 + (a2 + (1 : Nat))) = a1)) : (a0 < a1) := by grind
theorem om400 {a0 : Nat} {a1 : Nat} (h0 : (a0 ≤ a1)) (h1 : (a1 < a0)) : False := by lia
theorem om401 {a0 : Nat} : ((0 : Nat) ≤ a0) := Nat.le_add_left _ _
theorem om402 {a0 : Nat} {a1 : Nat} {a2 : Nat} (h0 : (a1 ≤ a2)) (h1 : (¬ (a0 ≥ a1))) : (((a0 + a1) / (2 : Nat)) < a2) := Nat.lt_of_lt_of_le (Nat.div_lt_of_lt_mul (hh_406 (Nat.lt_of_not_le h1))) h0
theorem om403 {a0 : Nat} {a1 : Nat} {a2 : Nat} (h0 : (a0 < (((a1 + a2) / (2 : Nat)) + (1 : Nat)))) (h1 : (¬ (a0 = ((a1 + a2) / (2 : Nat))))) : (a0 < ((a1 + a2) / (2 : Nat))) := Nat.lt_of_le_of_ne (Nat.le_of_lt_succ h0) h1
theorem om404 {a0 : Nat} {a1 : Nat} {a2 : Nat} {a3 : Nat} (h0 : (a3 < a2)) (h1 : (a0 ≤ a1)) (h2 : (a1 ≤ a3)) : (((a0 + a1) / (2 : Nat)) < a2) := Nat.lt_of_le_of_lt (Nat.le_trans (hh_mid h1) h2) h0
theorem om405 {a0 : Nat} {a1 : Nat} {a2 : Nat} {a3 : Nat} {a4 : Nat} (h0 : (a2 < a1)) (h1 : (a3 ≤ a4)) (h2 : (a4 ≤ a2)) (h3 : (a0 < (((a3 + a4) / (2 : Nat)) + (1 : Nat)))) : (a0 < a1) := Nat.lt_of_lt_of_le h3 (Nat.succ_le_of_lt (Nat.lt_of_le_of_lt (Nat.le_trans (hh_mid h1) h2) h0))
theorem om406 {a0 : Nat} {a1 : Nat} (h0 : (¬ (a0 ≥ a1))) : ((((a0 + a1) / (2 : Nat)) + (1 : Nat)) ≤ a1) := Nat.succ_le_of_lt (Nat.div_lt_of_lt_mul (hh_406 (Nat.lt_of_not_le h0)))
theorem om407 {a0 : Nat} {a1 : Nat} {a2 : Nat} (h0 : ((a0 - a1) ≤ (a2 + (1 : Nat)))) : ((a0 - (((a1 + a0) / (2 : Nat)) + (1 : Nat))) ≤ a2) := hh_407 h0
theorem om408 {a0 : Nat} {a1 : Nat} {a2 : Nat} (h0 : (a0 ≤ a1)) (h1 : (¬ (a2 ≥ a0))) (h2 : (a1 = ((a2 + a0) / (2 : Nat)))) : False := by lia
theorem om409 {a0 : Nat} {a1 : Nat} {a2 : Nat} (h0 : (((a0 + a1) / (2 : Nat)) ≤ a2)) (h1 : (¬ (a2 = ((a0 + a1) / (2 : Nat))))) : (((a0 + a1) / (2 : Nat)) < a2) := Nat.lt_of_le_of_ne h0 (Ne.symm h1)
theorem om410 {a0 : Nat} {a1 : Nat} {a2 : Nat} (h0 : (a0 ≤ a1)) (h1 : (a1 ≤ a2)) : (((a0 + a1) / (2 : Nat)) ≤ a2) := Nat.le_trans (hh_mid h0) h1
theorem om411 {a0 : Nat} {a1 : Nat} (h0 : (a0 ≤ a1)) : (a0 ≤ ((a0 + a1) / (2 : Nat))) := by lia
theorem om412 {a0 : Nat} {a1 : Nat} {a2 : Nat} (h0 : ((a1 - a0) ≤ (a2 + (1 : Nat)))) : ((((a0 + a1) / (2 : Nat)) - a0) ≤ a2) := hh_412 h0
theorem om413 {a0 : Nat} {a1 : Nat} {a2 : Nat} (h0 : (a2 ≥ a0)) (h1 : (a2 ≤ a1)) : (a0 ≤ a1) := Nat.le_trans h0 h1
theorem om414 {a0 : Nat} {a1 : Nat} {a2 : Nat} (h0 : (a0 ≤ a2)) (h1 : (a2 ≤ a1)) : (a0 ≤ a1) := Nat.le_trans h0 h1
theorem om415 {a0 : Nat} {a1 : Nat} {a2 : Nat} (h0 : ((a0 - a2) ≤ (0 : Nat))) (h1 : (a2 ≤ a1)) : (a0 ≤ a1) := Nat.le_trans (Nat.le_of_sub_eq_zero (Nat.le_zero.mp h0)) h1
theorem om416 {a0 : Nat} {a1 : Nat} (h0 : ((2 : Nat) ≤ a1)) (h1 : (a0 ≤ (((1 : Nat) + (1 : Nat)) + (a1 - ((1 : Nat) + (1 : Nat)))))) : (a0 ≤ a1) := Nat.le_trans h1 (Nat.le_of_eq (Nat.add_sub_of_le h0))
theorem om417 {a0 : Nat} (h0 : (((1 : Nat) + (1 : Nat)) ≤ a0)) : ((1 : Nat) ≤ a0) := Nat.le_of_lt h0
theorem om418 {a0 : Nat} (h0 : (a0 = (0 : Nat))) : (¬ (a0 > (0 : Nat))) := by lia
theorem om423 {a0 : Nat} (h0 : ((1 : Nat) ≤ a0)) (h1 : (¬ (a0 > (1 : Nat)))) : (a0 = (1 : Nat)) := by grind
theorem om424 {a0 : Nat} {a1 : Nat} (h0 : ((2 : Nat) ≤ a1)) (h1 : (a0 ≤ ((1 : Nat) + (a1 - (1 : Nat))))) : (a0 ≤ a1) := Nat.le_trans h1 (Nat.le_of_eq (Nat.add_sub_of_le (Nat.le_of_succ_le h0)))
theorem om425 {a0 : Nat} (h0 : ((1 : Nat) ≤ a0)) : ((a0 - (1 : Nat)) < a0) := by omega
theorem om426 {a0 : Nat} (h0 : (a0 > (1 : Nat))) : ((0 : Nat) < (a0 - (1 : Nat))) := Nat.sub_pos_of_lt h0
theorem om427 {a0 : Nat} {a1 : Nat} (h0 : ((2 : Nat) ≤ a1)) (h1 : (a0 ≤ ((1 : Nat) + (a1 - (1 : Nat))))) : ((a0 - (1 : Nat)) < a1) := Nat.lt_of_le_of_lt (Nat.sub_le_sub_right (Nat.le_trans h1 (Nat.le_of_eq (Nat.add_sub_of_le (Nat.le_of_succ_le h0)))) 1) (Nat.sub_lt (Nat.lt_of_lt_of_le (by decide) h0) Nat.one_pos)
theorem om428 {a0 : Nat} (h0 : ((2 : Nat) ≤ a0)) : ((0 : Nat) < a0) := Nat.le_of_lt h0
theorem om429 {a0 : Nat} {a1 : Nat} (h0 : ((2 : Nat) ≤ a1)) (h1 : (a0 ≠ a1)) : (¬ (a0 = ((1 : Nat) + (a1 - (1 : Nat))))) := fun e => h1 (e.trans (Nat.add_sub_of_le (Nat.le_of_succ_le h0)))
theorem om431 {a0 : Nat} {a1 : Nat} {a2 : Nat} (h0 : (a2 ≤ a1)) (h1 : (a0 ≤ (a2 + (a1 - a2)))) : (a0 ≤ a1) := Nat.le_trans h1 (Nat.le_of_eq (Nat.add_sub_of_le h0))
theorem om432 {a0 : Nat} {a1 : Nat} (h0 : ((1 : Nat) ≤ a1)) (h1 : (a1 ≤ a0)) : ((1 : Nat) ≤ a0) := Nat.le_trans h0 h1
theorem om433 {a0 : Nat} {a1 : Nat} (h0 : (a0 ≤ a1)) : ((a0 + (a1 - a0)) ≤ a1) := Nat.le_of_eq (Nat.add_sub_of_le h0)
theorem om434 {a0 : Nat} {a1 : Nat} {a2 : Nat} (h0 : (a2 < a0)) : (((a0 - (1 : Nat)) - a1) < a0) := Nat.lt_of_le_of_lt (Nat.sub_le _ _) (Nat.sub_lt (Nat.lt_of_le_of_lt (Nat.zero_le _) h0) Nat.one_pos)
theorem om435 {a0 : Nat} {a1 : Nat} {a2 : Nat} (h0 : (a2 < a1)) (h1 : (a1 < a0)) : (((a0 - (1 : Nat)) - a1) < ((a0 - (1 : Nat)) - a2)) := Nat.sub_lt_sub_left (Nat.lt_of_lt_of_le h0 (Nat.le_sub_one_of_lt h1)) h0
theorem om436 {a0 : Nat} {a1 : Nat} {a2 : Nat} (h0 : (a0 < a2)) (h1 : (a2 < a1)) : (a0 < a1) := Nat.lt_trans h0 h1
theorem om437 {a0 : Nat} {a1 : Nat} : (((((0 : Nat) + a0) - (1 : Nat)) - a1) = ((a0 - (1 : Nat)) - a1)) := by grind
theorem om438 {a0 : Nat} {a1 : Nat} {a2 : Nat} (h0 : ((a0 + (a2 + (1 : Nat))) ≤ a1)) : (a0 < a1) := Nat.lt_of_le_of_lt (Nat.le_add_right _ _) h0
theorem om439 {a0 : Nat} {a1 : Nat} {a2 : Nat} (h0 : ((a0 + (a2 + (1 : Nat))) ≤ a1)) : ((a0 - (1 : Nat)) < a1) := Nat.lt_of_le_of_lt (Nat.sub_le _ _) (Nat.lt_of_lt_of_le (Nat.lt_add_of_pos_right (Nat.succ_pos _)) h0)
theorem om440 {a0 : Nat} (h0 : ((1 : Nat) ≤ a0)) (h1 : (a0 = (a0 - (1 : Nat)))) : False := Nat.lt_irrefl a0 (Nat.lt_of_le_of_lt (Nat.le_of_eq h1) (Nat.sub_lt h0 Nat.one_pos))
theorem om441 {a0 : Nat} {a1 : Nat} {a2 : Nat} (h0 : ((a0 + (a1 + (1 : Nat))) ≤ a2)) : (((a0 + (1 : Nat)) + a1) ≤ a2) := by lia
theorem om442 {a0 : Nat} : ((1 : Nat) ≤ (a0 + (1 : Nat))) := Nat.le_add_left _ _
theorem om443 {a0 : Nat} {a1 : Nat} {a2 : Nat} (h0 : (a0 = ((a1 + (1 : Nat)) + a2))) : (a0 = (a1 + (a2 + (1 : Nat)))) := by grind
theorem om444 {a0 : Nat} {a1 : Nat} : (a0 ≤ (a0 + (a1 + (1 : Nat)))) := Nat.le_add_right _ _
theorem om445 {a0 : Nat} {a1 : Nat} (h0 : (a1 < a0)) : ((a0 - (1 : Nat)) < a0) := Nat.sub_lt (Nat.lt_of_le_of_lt (Nat.zero_le _) h0) Nat.one_pos
theorem om446 {a0 : Nat} {a1 : Nat} (h0 : (a0 < a1)) (h1 : (¬ (a0 = (a1 - (1 : Nat))))) : (a0 < (a1 - (1 : Nat))) := Nat.lt_of_le_of_ne (Nat.le_sub_one_of_lt h0) h1
theorem om447 {a0 : Nat} {a1 : Nat} (h0 : (a0 < a1)) : ((a0 - (1 : Nat)) < a1) := Nat.lt_of_le_of_lt (Nat.sub_le _ _) h0
theorem om448 {a0 : Nat} {a1 : Nat} (h0 : (((1 : Nat) ≤ a0) ∧ (a0 ≤ (((2 : Nat) * a1) + (1 : Nat))))) : (a0 ≠ (0 : Nat)) := by grind
theorem om449 {a0 : Nat} (h0 : (a0 < (3000 : Nat))) : ((a0 + (1 : Nat)) ≤ (10000 : Nat)) := Nat.le_trans h0 (by decide)
theorem om450 {a0 : Nat} (h0 : (a0 < (3000 : Nat))) : ((a0 + (1 : Nat)) ≤ (16777216 : Nat)) := Nat.le_trans h0 (by decide)
theorem om451 {a0 : Nat} {a1 : Nat} (h0 : (a1 < (1000 : Nat))) (h1 : (((1 : Nat) ≤ a0) ∧ (a0 ≤ (((2 : Nat) * a1) + (1 : Nat))))) : (a0 < (3000 : Nat)) := by lia
theorem om452 {a0 : Nat} (h0 : (a0 ≤ (16777216 : Nat))) : (((a0 : Nat) : Int) < (9223372036854775808 : Int)) := by lia
theorem om453 {a0 : Nat} : ((-((2 : Int) ^ (63 : Nat))) ≤ ((a0 : Nat) : Int)) := Int.natCast_nonneg _
theorem om454 {a0 : Nat} (h0 : (a0 ≤ (10000 : Nat))) : (((a0 : Nat) : Int) ≤ (((1048576 : Nat) : Nat) : Int)) := by lia
theorem om455 {a0 : Nat} (h0 : (((a0 : Nat) : Int) = (1 : Int))) : (a0 = (1 : Nat)) := Int.ofNat_inj.mp h0
theorem om456 {a0 : Nat} (h0 : ((1 : Nat) ≤ a0)) : (¬ (((a0 : Nat) : Int) < (1 : Int))) := by lia
theorem om457 {a0 : Nat} {a1 : Nat} (h0 : (¬ (a0 < a1))) (h1 : (a0 ≠ (a1 + (1 : Nat)))) (h2 : (a0 < (a1 + (2 : Nat)))) : (a0 = a1) := Nat.le_antisymm (Nat.le_of_lt_succ (Nat.lt_of_le_of_ne (Nat.le_of_lt_succ h2) h1)) (Nat.le_of_not_lt h0)
theorem om458 {a0 : Nat} {a1 : Nat} (h0 : ((a0 + (1 : Nat)) ≤ a1)) : (a0 < a1) := Nat.succ_le_of_lt h0
theorem om459 {a0 : Nat} {a1 : Nat} (h0 : ((a0 + (2 : Nat)) ≤ a1)) : (a0 ≤ a1) := Nat.le_trans (Nat.le_add_right _ _) h0
theorem om460 {a0 : Nat} {a1 : Nat} {a2 : Nat} (h0 : ((a2 + (2 : Nat)) ≤ a1)) (h1 : (a0 ≤ (a2 + (1 : Nat)))) : ((a0 + (1 : Nat)) ≤ a1) := Nat.lt_of_le_of_lt h1 h0
theorem om461 {a0 : Nat} {a1 : Nat} (h0 : (a1 < (10000 : Nat))) (h1 : (a0 < a1)) : (((a0 : Nat) : Int) < (((2 : Int) ^ (63 : Nat)) - (1 : Int))) := Int.lt_of_lt_of_le (Int.ofNat_lt.mpr h1) (Int.le_trans (Int.ofNat_le.mpr (Nat.le_of_lt h0)) (by decide))
theorem om462 {a0 : Int} {a1 : Int} (h0 : (¬ (a1 = a0))) (h1 : (¬ (a1 < a0))) : (a0 < a1) := by lia
theorem om463 {a0 : Int} {a1 : Int} {a2 : Int} (h0 : (a2 = a1)) (h1 : (a0 < a2)) : (a0 < a1) := h0 ▸ h1
theorem om464 {a0 : Int} {a1 : Int} {a2 : Int} (h0 : (¬ (a0 = a2))) (h1 : (a2 = a1)) : (¬ (a0 = a1)) := by lia
theorem om465 {a0 : Int} {a1 : Int} {a2 : Int} (h0 : (a0 = a2)) (h1 : (a2 < a1)) : (a0 < a1) := by lia
theorem om466 {a0 : Int} {a1 : Int} {a2 : Int} (h0 : (a0 = a2)) (h1 : (¬ (a2 = a1))) : (¬ (a0 = a1)) := by grind
theorem om467 {a0 : Nat} {a1 : Nat} (h0 : ((2 : Nat) ≤ a1)) (h1 : (a0 = a1)) : ((0 : Nat) < a0) := by lia
theorem om468 {a0 : Nat} {a1 : Nat} {a2 : Nat} (h0 : (a1 = a2)) (h1 : (¬ ((((2 : Int) * ((a0 : Nat) : Int)) + (1 : Int)) < ((a2 : Nat) : Int)))) : (¬ ((((2 : Nat) * a0) + (1 : Nat)) < a1)) := by lia
theorem om469 {a0 : Nat} {a1 : Nat} (h0 : (a1 < (1000 : Nat))) (h1 : (a0 = a1)) : (a0 < (1000 : Nat)) := h1 ▸ h0
theorem om470 {a0 : Nat} : ((((2 : Int) * ((a0 : Nat) : Int)) + (1 : Int)) = (((((2 : Nat) * a0) + (1 : Nat)) : Nat) : Int)) := rfl
theorem om471 {a0 : Nat} : ((((2 : Int) * (((2 : Int) * ((a0 : Nat) : Int)) + (1 : Int))) + (1 : Int)) = (((2 : Int) * (((((2 : Nat) * a0) + (1 : Nat)) : Nat) : Int)) + (1 : Int))) := rfl
theorem om472 {a0 : Nat} {a1 : Nat} {a2 : Nat} (h0 : (a0 = a2)) (h1 : (¬ (((((2 : Int) * ((a1 : Nat) : Int)) + (1 : Int)) + (1 : Int)) < ((a2 : Nat) : Int)))) : (a0 ≤ ((((2 : Nat) * a1) + (1 : Nat)) + (1 : Nat))) := h0 ▸ Int.ofNat_le.mp (Int.not_lt.mp h1)
theorem om473 {a0 : Nat} {a1 : Nat} (h0 : ((((2 : Int) * ((a0 : Nat) : Int)) + (1 : Int)) < ((a1 : Nat) : Int))) : ((((2 : Nat) * a0) + (1 : Nat)) < a1) := Int.ofNat_le.mp h0
theorem om474 {a0 : Nat} {a1 : Nat} (h0 : (a1 < a0)) : ((a0 - (((2 : Nat) * a1) + (1 : Nat))) < (a0 - a1)) := Nat.sub_lt_sub_left h0 (hh_lt1 a1)
theorem om475 {a0 : Nat} {a1 : Nat} (h0 : (a1 < (1000 : Nat))) (h1 : (a0 < a1)) : ((((2 : Int) * ((a0 : Nat) : Int)) + (1 : Int)) < ((2 : Int) ^ (63 : Nat))) := by lia
theorem om476 {a0 : Nat} : ((0 : Int) ≤ (((2 : Int) * ((a0 : Nat) : Int)) + (1 : Int))) := Int.natCast_nonneg _
theorem om477 {a0 : Nat} : ((Int.toNat (((2 : Int) * ((a0 : Nat) : Int)) + (1 : Int))) = (((2 : Nat) * a0) + (1 : Nat))) := rfl
theorem om478 {a0 : Nat} {a1 : Nat} {a2 : Nat} (h0 : (a1 = a2)) (h1 : ((((2 : Int) * ((a0 : Nat) : Int)) + (1 : Int)) < ((a2 : Nat) : Int))) : ((((2 : Nat) * a0) + (1 : Nat)) < a1) := by lia
theorem om479 {a0 : Nat} : (((((2 : Int) * ((a0 : Nat) : Int)) + (1 : Int)) + (1 : Int)) = ((((((2 : Nat) * a0) + (1 : Nat)) + (1 : Nat)) : Nat) : Int)) := rfl
theorem om480 {a0 : Nat} : ((((2 : Int) * ((((2 : Int) * ((a0 : Nat) : Int)) + (1 : Int)) + (1 : Int))) + (1 : Int)) = (((2 : Int) * ((((((2 : Nat) * a0) + (1 : Nat)) + (1 : Nat)) : Nat) : Int)) + (1 : Int))) := rfl
theorem om481 {a0 : Nat} {a1 : Nat} (h0 : (a1 < a0)) : ((a0 - ((((2 : Nat) * a1) + (1 : Nat)) + (1 : Nat))) < (a0 - a1)) := Nat.sub_lt_sub_left h0 (Nat.lt_of_lt_of_le (hh_lt1 a1) (Nat.le_succ _))
theorem om482 {a0 : Nat} {a1 : Nat} (h0 : (a1 < (1000 : Nat))) (h1 : (a0 < a1)) : (((((2 : Int) * ((a0 : Nat) : Int)) + (1 : Int)) + (1 : Int)) < ((2 : Int) ^ (63 : Nat))) := by lia
theorem om483 {a0 : Nat} : ((0 : Int) ≤ ((((2 : Int) * ((a0 : Nat) : Int)) + (1 : Int)) + (1 : Int))) := Int.natCast_nonneg _
theorem om484 {a0 : Nat} : ((Int.toNat ((((2 : Int) * ((a0 : Nat) : Int)) + (1 : Int)) + (1 : Int))) = ((((2 : Nat) * a0) + (1 : Nat)) + (1 : Nat))) := rfl
theorem om485 {a0 : Nat} {a1 : Nat} {a2 : Nat} (h0 : (a1 = a2)) (h1 : (((((2 : Int) * ((a0 : Nat) : Int)) + (1 : Int)) + (1 : Int)) < ((a2 : Nat) : Int))) : (((((2 : Nat) * a0) + (1 : Nat)) + (1 : Nat)) < a1) := h0 ▸ Int.ofNat_lt.mp h1
theorem om486 {a0 : Nat} : (a0 = (a0 - (0 : Nat))) := rfl
theorem om487 : ((((2 : Int) * (0 : Int)) + (1 : Int)) = (((2 : Int) * (((0 : Nat) : Nat) : Int)) + (1 : Int))) := by decide
theorem om488 {a0 : Nat} (h0 : (a0 < (1000 : Nat))) : (a0 < (16777216 : Nat)) := Nat.le_trans h0 (by decide)
theorem om489 {a0 : Nat} {a1 : Nat} {a2 : Nat} (h0 : (a1 = a2)) (h1 : ((((2 : Nat) * a0) + (1 : Nat)) < a2)) : ((((2 : Nat) * a0) + (1 : Nat)) < a1) := h0 ▸ h1
theorem om490 {a0 : Nat} {a1 : Nat} {a2 : Nat} (h0 : ((((2 : Nat) * a2) + (1 : Nat)) < a0)) (h1 : (a2 < a1)) : ((a0 - a1) < (a0 - a2)) := Nat.sub_lt_sub_left (hh_lt_of2 h0) h1
theorem om491 {a0 : Nat} : (a0 < (((2 : Nat) * a0) + (1 : Nat))) := by lia
theorem om492 {a0 : Nat} : (a0 < ((((2 : Nat) * a0) + (1 : Nat)) + (1 : Nat))) := by grind
theorem om493 {a0 : Nat} {a1 : Nat} (h0 : (a0 = a1)) (h1 : (((2 : Nat) ≤ a1) ∧ (a1 < (64 : Nat)))) : (a0 < (64 : Nat)) := by lia
theorem om494 {a0 : Nat} {a1 : Nat} (h0 : (a0 = a1)) (h1 : (((2 : Nat) ≤ a1) ∧ (a1 < (64 : Nat)))) : ((2 : Nat) ≤ a0) := by lia
theorem om495 {a0 : Nat} (h0 : (a0 ≤ (200 : Nat))) : (a0 ≤ (100000 : Nat)) := Nat.le_trans h0 (by decide)
theorem om496 : (((64 : Nat) * (3 : Nat)) ≤ (200 : Nat)) := by decide
theorem om497 {a0 : Nat} {a1 : Nat} (h0 : (a1 ≤ (64 : Nat))) (h1 : (a1 = a0)) : (a0 ≤ (64 : Nat)) := by lia
theorem om498 {a0 : Nat} (h0 : (a0 ≤ (64 : Nat))) : (a0 < (500 : Nat)) := Nat.lt_of_le_of_lt h0 (by decide)
theorem om499 {a0 : Nat} {a1 : Nat} (h0 : (a0 = a1)) (h1 : (((2 : Nat) ≤ a1) ∧ (a1 < (64 : Nat)))) : (a0 ≤ (10000 : Nat)) := by lia
theorem om500 {a0 : Nat} {a1 : Nat} (h0 : (a0 ≤ (4 : Nat))) : ((min a0 a1) ≤ (64 : Nat)) := Nat.le_trans (Nat.min_le_left _ _) (Nat.le_trans h0 (by decide))
theorem om501 {a0 : Nat} {a1 : Nat} {a2 : Nat} {a3 : Int} (h0 : (a1 ≤ (4 : Nat))) (h1 : (a2 < a1)) (h2 : ((a0 = a2) ∧ (((-(1000000 : Int)) ≤ a3) ∧ (a3 ≤ (0 : Int))))) : (a0 < (100 : Nat)) := h2.1 ▸ Nat.lt_of_lt_of_le h1 (Nat.le_trans h0 (by decide))
theorem om502 {a0 : Nat} (h0 : (a0 ≤ (81 : Nat))) : (a0 < (500 : Nat)) := Nat.lt_of_le_of_lt h0 (by decide)
theorem om503 {a0 : Nat} {a1 : Nat} (h0 : (a0 ≤ (81 : Nat))) (h1 : (a1 ≤ (81 : Nat))) : ((a0 + a1) ≤ (10000 : Nat)) := by lia
theorem om504 {a0 : Nat} {a1 : Nat} (h0 : ((a0 + (1 : Nat)) < a1)) : (a0 < a1) := Nat.le_of_lt h0
theorem om505 {a0 : Nat} (h0 : (a0 ≠ (47 : Nat))) : (¬ ((47 : Nat) = a0)) := by lia
theorem om506 {a0 : Nat} {a1 : Nat} : (a0 ≤ (a1 + (a0 - a1))) := Nat.le_trans (Nat.le_add_of_sub_le (Nat.le_refl _)) (Nat.le_of_eq (Nat.add_comm _ _))
theorem om507 {a0 : Nat} (h0 : ((0 : Nat) < a0)) : (((1 : Nat) ≤ ((2 : Nat) * a0)) ∧ (((2 : Nat) * a0) ≤ (((2 : Nat) * a0) + (1 : Nat)))) := by lia
theorem om508 {a0 : Nat} : (((((0 : Nat) + (1 : Nat)) + (1 : Nat)) + ((2 : Nat) * a0)) = ((2 : Nat) * (a0 + (1 : Nat)))) := Nat.add_comm _ _
theorem om509 {a0 : Nat} (h0 : (a0 < (1000 : Nat))) : (a0 ≤ ((2 : Nat) ^ (24 : Nat))) := Nat.le_trans (Nat.le_of_lt h0) (by decide)
theorem om510 {a0 : Nat} {a1 : Nat} (h0 : ((a0 + (1 : Nat)) ≤ a1)) : (a0 ≤ a1) := Nat.le_of_lt h0
theorem om511 {a0 : Nat} : ((Int.toNat ((1 : Int) + ((2 : Int) * ((a0 : Nat) : Int)))) = ((1 : Nat) + ((2 : Nat) * a0))) := rfl
theorem om512 {a0 : Nat} : ((Int.toNat ((((((((2 : Nat) * a0) : Nat) : Int) - (1 : Int)) + (2 : Int)) - (1 : Int)) / (2 : Int))) = a0) := by grind
theorem om513 {a0 : Nat} (h0 : ((0 : Nat) < a0)) : ((1 : Int) < ((((2 : Nat) * a0) : Nat) : Int)) := by grind
theorem om514 {a0 : Nat} (h0 : ((0 : Nat) < a0)) : ((max (0 : Int) (min (1 : Int) ((((2 : Nat) * a0) : Nat) : Int))) = (1 : Int)) := hh_514 h0
theorem om515 {a0 : Nat} : ((((1 : Nat) + ((2 : Nat) * (a0 + (1 : Nat)))) - (2 : Nat)) = ((1 : Nat) + ((2 : Nat) * a0))) := rfl
theorem om516 {a0 : Nat} : ((2 : Nat) ≤ ((1 : Nat) + ((2 : Nat) * (a0 + (1 : Nat))))) := Nat.le_add_left _ _
end Mine
end
-- Tup168
section
open PySem PySem.W PyProof.Rows PySem.Calls
namespace Mine
/-- a pair of the law's: a tuple of an int and a text -/
structure Row where
  addr : Addr
  less : Int
  way : Str
noncomputable abbrev Row.val (r : Row) : Value := .ref r.addr
noncomputable abbrev Row.key (r : Row) : Int × Str := (r.less, r.way)
noncomputable def Row.In (r : Row) (h : Heap) : Prop := ∃ t u, h.IsTuple r.addr #[.int r.less t, .str r.way u]
noncomputable def klt (a b : Int × Str) : Bool := if a.1 = b.1 then decide (a.2.cps.toList < b.2.cps.toList) else decide (a.1 < b.1)
theorem Row.In.keeps {r : Row} {h h' : Heap} (x : r.In h) (k : h.StaysIn h') : r.In h' := by
  obtain ⟨t, u, o, ho, e⟩ := x; exact ⟨t, u, o, k _ _ ho, e⟩
theorem tuple_lt2 (l b : Addr) (x1 x2 y1 y2 : Value) (n n2 : Nat) (dd dd2 : Option Addr) (sl sl2 : Array (Option Value)) (e1 e2 r : Bool) :
    Meets (Builtin.«tuple.__lt__» ⟨[.ref l, .ref b], []⟩)
      (fun A R s => s.heap.get? l = some { cls := .type "tuple", dict := dd, data := .seq #[x1, x2] n, slots := sl } ∧ s.heap.get? b = some { cls := .type "tuple", dict := dd2, data := .seq #[y1, y2] n2, slots := sl2 } ∧
        SeqAt.EqAt A.in1 s x1 y1 e1 ∧ (e1 = true → SeqAt.EqAt A.in1 s x2 y2 e2) ∧
        (e1 = false → ∀ (prog : Program) (w : World) (E : Value → Shared → Prop) (Q : Value → Shared → Prop), Q (.bool r) s → wpAny (model prog w) A.in1 (richCompare .Lt x1 y1) Q E s) ∧
        (e1 = true → e2 = false → ∀ (prog : Program) (w : World) (E : Value → Shared → Prop) (Q : Value → Shared → Prop), Q (.bool r) s → wpAny (model prog w) A.in1 (richCompare .Lt x2 y2) Q E s) ∧
        (e1 = true → e2 = true → r = false) ∧
        R (.ok (.ret (.bool r))) s) :=
  .of_wp fun prog w A R s h => by
    obtain ⟨hp, g, d, tk, os⟩ := s; obtain ⟨hl, hb, h1, h2, h3, h4, h5, h⟩ := h
    have f2 := AutoSeq1.sub_tuple_tuple
    wp_walk using AutoSeq1.wpAny_loadPart' hl, AutoSeq1.wpAny_loadPart' hb, wpAny_forIn_list _ (fun rest b s' => b.1 = none ∧ s' = ⟨hp, g, d, tk, os⟩ ∧ (rest = [(x1, y1), (x2, y2)] ∨ (rest = [(x2, y2)] ∧ e1 = true) ∨ (rest = [] ∧ e1 = true ∧ e2 = true))) _
    case turn =>
      rintro ⟨y, x⟩ rest b s' ⟨hb', rfl, hz⟩
      rcases hz with hz | ⟨hz, he⟩ | ⟨hz, _⟩
      · cases hz
        refine wpAny_bind (h1 prog w _ _ ?_)
        cases hy : e1 with
        | true =>
          wp_walk
          exact ⟨rfl, rfl, .inr (.inl ⟨rfl, rfl⟩)⟩
        | false =>
          wp_walk using h3 hy prog w
          exact ⟨_, rfl, h⟩
      · cases hz
        refine wpAny_bind (h2 he prog w _ _ ?_)
        cases hy : e2 with
        | true =>
          wp_walk
          exact ⟨rfl, rfl, .inr (.inr ⟨rfl, he, rfl⟩)⟩
        | false =>
          wp_walk using h4 he hy prog w
          exact ⟨_, rfl, h⟩
      · cases hz
    case fin =>
      rintro ⟨b1, b2⟩ s' ⟨hb', rfl, hz⟩
      simp only at hb'
      subst hb'
      rcases hz with hz | ⟨hz, he⟩ | ⟨_, he1, he2⟩
      · cases hz
      · cases hz
      · have := h5 he1 he2
        subst this
        wp_walk
        exact ⟨_, rfl, by simpa [Builtin.Tuple.tupleCompareSizes] using h⟩
    case h =>
      exact ⟨rfl, rfl, .inl rfl⟩
theorem eqAt_int (A : Around) (s : Shared) (a b : Int) (t u : Tok) : SeqAt.EqAt A s (.int a t) (.int b u) (a == b) := (MeetsSeq.EqGives.int a b t u).at A s
theorem eqAt_str (A : Around) (s : Shared) (a b : Str) (t u : Tok) : SeqAt.EqAt A s (.str a t) (.str b u) (a == b) := (eqGives_str a b t u).at A s
theorem klt_str_same {a : Str} : decide (a.cps.toList < a.cps.toList) = false := by
  simp [List.lt_irrefl]
theorem rows_lt {w : World} {A : Around} {E : Value → Shared → Prop} {s : Shared} {prog : Program} {r q : Row} {Q : Value → Shared → Prop} (hr : r.In s.heap) (hq : q.In s.heap) (hu : A.units + 1 < cLine) (h : Q (.bool (klt r.key q.key)) s) :
    wpAny (model prog w) A (compareOp .Lt (.ref r.addr) (.ref q.addr)) Q E s := by
  obtain ⟨t1, u1, ⟨cls, dd, data, sl⟩, ho, hc, n, hdt⟩ := hr
  obtain ⟨t2, u2, ⟨cls2, dd2, data2, sl2⟩, ho2, hc2, n2, hdt2⟩ := hq
  simp only at hc hdt hc2 hdt2
  subst hc hdt hc2 hdt2
  show wpAny _ _ (richCompare .Lt _ _) _ _ _
  refine richCompare_meets_room (op := .Lt) ⟨_, ho, rfl⟩ ⟨_, ho2, rfl⟩ F.slot_tuple_lt F.entry_tuple_lt (F.args_tuple_lt_2 _ _)
    (tuple_lt2 _ _ _ _ _ _ n n2 dd dd2 sl sl2 (r.less == q.less) (r.way == q.way) (klt r.key q.key)) ⟨ho, ho2, eqAt_int _ _ _ _ _ _, fun _ => eqAt_str _ _ _ _ _ _, fun e1 prog w E Q hQ => ?_, fun e1 e2 prog w E Q hQ => ?_, fun e1 e2 => ?_, ?_⟩ (by exact om504 hu)
  · have e : ¬ r.less = q.less := by simpa using e1
    have : klt r.key q.key = decide (r.less < q.less) := by simp [klt, e]
    rw [this] at hQ
    exact wpAny_lt_int hQ
  · have e : r.less = q.less := by simpa using e1
    have : klt r.key q.key = decide (r.way.cps.toList < q.way.cps.toList) := by simp [klt, e]
    rw [this] at hQ
    exact PyProof.Rows.lt_str hQ
  · have e : r.less = q.less := by simpa using e1
    have e' : r.way = q.way := by simpa using e2
    simp [klt, e, e', List.lt_irrefl]
  · exact ⟨(fun x => nomatch x), h⟩
end Mine
end
-- Rul168
section
open PySem PySem.W PyProof.Rows PySem.Calls
namespace Mine
section
variable {w : World} {prog : Program} {A : Around} {E : Value → Shared → Prop} {s : Shared} {g : Heap} {env : Env} {m : Str → Option Value} {nx : List (Addr × Obj)} {i : Nat} {l : Addr} {vs : List Value} {n : Nat}
theorem St.isList (S : St g env s.heap m nx) (hi : nx[i]? = some (l, listOf vs.toArray n)) : s.heap.IsList l vs.toArray := ⟨_, S.led _ (mem_fst_of_get hi), rfl, n, rfl⟩
theorem led_item {value slice : Expr} {k : Int} {u : Tok} {v : Value} {Q : Value → Shared → Prop} (S : St g env s.heap m nx) (hi : nx[i]? = some (l, listOf vs.toArray n)) (h0 : 0 ≤ k) (hfit : k < 2 ^ 63) (hx : vs[k.toNat]? = some v) (h : Q v s)
    (hs : subscripted slice false (.ref l) (.int k u) = operate [.ref l, .int k u] (getItem (.ref l) (.int k u))) : wpAny (model prog w) A (subscriptTail value slice (.ref l) (.int k u)) Q E s :=
  tail_any (S.isList hi).typeIs slot_list_getitem.lookup (wpAny_getItem_list (S.isList hi) h0 hfit (by simpa using hx) h) hs
theorem led_set {hp : Heap} {ga : Array GenState} {dr : Drawn} {tn : Nat} {os : OsState} {k : Int} {t : Tok} {v : Value} {Q : Unit → Shared → Prop} (S : St g env hp m nx) (hi : nx[i]? = some (l, listOf vs.toArray n)) (h0 : 0 ≤ k) (hfit : k < 2 ^ 63) (hk : k.toNat < vs.length)
    (h : ∀ h', St g env h' m (nx.set i (l, listOf (vs.set k.toNat v).toArray n)) → Q () ⟨h', ga, dr, tn, os⟩) : wpAny (model prog w) A (setItem (.ref l) (.int k t) v) Q E ⟨hp, ga, dr, tn, os⟩ := by
  have hl := S.led _ (mem_fst_of_get hi)
  refine ki_setAt hl h0 hfit (by simp; exact om368 hk) (h _ (S.upd hi (fun b x hb e => ?_) ?_))
  · rw [Heap.get?_update_other _ _ (Ne.symm hb)]; exact e
  · have := PySem.IsL.update hl (·.setIfInBounds k.toNat v)
    simpa [PySem.IsL] using this
theorem led_len {hp : Heap} {ga : Array GenState} {dr : Drawn} {tn : Nat} {os : OsState} {Q : Value → Shared → Prop} (S : St g env hp m nx) (hi : nx[i]? = some (l, listOf vs.toArray n)) (hz : vs.length < 2 ^ 24) (h : ∀ t, Q (.int vs.length t) ⟨hp, ga, dr, tn + 1 + 1, os⟩) : wpAny (model prog w) A (call (.builtin "len") [.ref l]) Q E ⟨hp, ga, dr, tn, os⟩ :=
  len_list (S.isList hi) (by simp; exact om367 hz) (by simpa using h _)
theorem led_append {hp : Heap} {ga : Array GenState} {dr : Drawn} {tn : Nat} {os : OsState} {v : Value} {Q : Value → Shared → Prop} (S : St g env hp m nx) (hi : nx[i]? = some (l, listOf vs.toArray n)) (hz : vs.length ≤ sizeLine)
    (h : ∀ h', St g env h' m (nx.set i (l, listOf (vs ++ [v]).toArray (n + 1))) → Q .none ⟨h', ga, dr, tn, os⟩) : wpAny (model prog w) A (call (.builtin "list.append") [.ref l, v]) Q E ⟨hp, ga, dr, tn, os⟩ := by
  refine append_at (hsz := by simpa using hz) (S.led _ (mem_fst_of_get hi)) fun h' hs ho' => h h' (S.upd hi (fun b x hb e => hs.extBut b x hb e) (by simpa using ho'))
end
theorem at0 {p : Addr × Obj} {r : List (Addr × Obj)} : (p :: r)[0]? = some p := rfl
theorem at1 {a p : Addr × Obj} {r : List (Addr × Obj)} : (a :: p :: r)[1]? = some p := rfl
theorem at2 {a b p : Addr × Obj} {r : List (Addr × Obj)} : (a :: b :: p :: r)[2]? = some p := rfl
theorem at3 {a b c p : Addr × Obj} {r : List (Addr × Obj)} : (a :: b :: c :: p :: r)[3]? = some p := rfl
theorem at4 {a b c d p : Addr × Obj} {r : List (Addr × Obj)} : (a :: b :: c :: d :: p :: r)[4]? = some p := rfl
theorem at5 {a b c d e p : Addr × Obj} {r : List (Addr × Obj)} : (a :: b :: c :: d :: e :: p :: r)[5]? = some p := rfl
section
variable {w : World} {prog : Program} {A : Around} {E : Value → Shared → Prop} {s : Shared} {g : Heap} {env : Env} {m : Str → Option Value} {nx : List (Addr × Obj)} {i : Nat} {l : Addr} {vs : List Value} {n : Nat}
theorem led_method {name : Str} {id : String} {pl : Sem Bool} {Q : Value × List Value → Shared → Prop} (S : St g env s.heap m nx) (hi : nx[i]? = some (l, listOf vs.toArray n)) (slot : Slot "list" name id) (hty : typeOf (.builtin id) = pure (.type "method_descriptor"))
    (h : Q (.builtin id, [.ref l]) s) : wpAny (model prog w) A (getMethod (.ref l) name pl) Q E s :=
  getMethod_builtin ⟨_, S.at hi, rfl⟩ PySem.F.plainAttrs_list slot hty (fun a e => by cases e; exact ⟨_, S.at hi, rfl⟩) h
theorem led_pop {hp : Heap} {ga : Array GenState} {dr : Drawn} {tn : Nat} {os : OsState} {y : Value} {us : List Value} {Q : Value → Shared → Prop} (S : St g env hp m nx) (hi : nx[i]? = some (l, listOf vs.toArray n)) (he : vs = us ++ [y]) (hz : vs.length ≤ sizeLine)
    (h : ∀ h', St g env h' m (nx.set i (l, listOf us.toArray (n + 1))) → Q y ⟨h', ga, dr, tn, os⟩) : wpAny (model prog w) A (call (.builtin "list.pop") [.ref l]) Q E ⟨hp, ga, dr, tn, os⟩ := by
  subst he
  have z := S.at hi
  have hz' : (us ++ [y]).toArray.size ≤ sizeLine := by rw [List.size_toArray]; exact hz
  have hk : (us ++ [y]).toArray.size - 1 = us.length := by rw [List.size_toArray, List.length_append]; rfl
  have hy : (us ++ [y]).toArray[(us ++ [y]).toArray.size - 1]? = some y := by rw [hk]; simp
  refine call_meets PySem.F.slot_list_pop ⟨_, z, rfl⟩ PySem.F.entry_list_pop (PySem.F.args_list_pop_1 _) (PySem.MeetsSeq.list_pop_last l _ n y hy hz') ⟨z, h _ (S.upd hi (fun b x hb e => (Heap.get?_update_other _ _ (Ne.symm hb)).trans e) ?_)⟩
  have q := PySem.IsL.update z (fun a => a.eraseIdxIfInBounds ((us ++ [y]).toArray.size - 1))
  have e1 : (us ++ [y]).toArray.eraseIdxIfInBounds ((us ++ [y]).toArray.size - 1) = us.toArray := by rw [hk, kl_erase, List.append_nil]
  rw [e1, if_neg (by simp)] at q
  exact q
theorem led_truthy {hp : Heap} {ga : Array GenState} {dr : Drawn} {tn : Nat} {os : OsState} {Q : Bool → Shared → Prop} (S : St g env hp m nx) (hi : nx[i]? = some (l, listOf vs.toArray n)) (hz : vs.length < 2 ^ 24) (h : ∀ tk, Q (!vs.isEmpty) ⟨hp, ga, dr, tk, os⟩) : wpAny (model prog w) A (truthy (.ref l)) Q E ⟨hp, ga, dr, tn, os⟩ :=
  wpAny_truthy_list (S.isList hi) (by simp; exact om367 hz) (by simpa using h _)
end
section
variable {w : World} {prog : Program} {A : Around} {E : Value → Shared → Prop} {s : Shared} {g : Heap} {env : Env} {m : Str → Option Value} {nx : List (Addr × Obj)} {i : Nat} {l : Addr} {vs : List Value} {n : Nat}
theorem un_tuple {hp : Heap} {ga : Array GenState} {dr : Drawn} {tn : Nat} {os : OsState} {Q : List Value → Shared → Prop} (S : St g env hp m nx) (hh : A.handled = none) (ht : hp.IsTuple l vs.toArray) (hn : n = vs.length) (h : ∀ h', St g env h' m nx → hp.StaysIn h' → Q vs ⟨h', ga, dr, tn, os⟩) : wpAny (model prog w) A (unpackItems (.ref l) n none) Q E ⟨hp, ga, dr, tn, os⟩ := by
  have hn' : n = vs.toArray.size := by simpa using hn
  subst hn'
  refine wpAny_unpackItems_tuple hh ht fun h' x => ?_
  have k : hp.StaysIn h' := fun b o e => x b o (Nat.ne_of_lt (Heap.lt_size e)) e
  exact h h' (S.kept k) k
theorem un_led {hp : Heap} {ga : Array GenState} {dr : Drawn} {tn : Nat} {os : OsState} {k : Nat} {Q : List Value → Shared → Prop} (S : St g env hp m nx) (hh : A.handled = none) (hi : nx[i]? = some (l, { cls := .type "tuple", data := .seq vs.toArray k })) (hn : n = vs.length) (h : ∀ h', St g env h' m nx → hp.StaysIn h' → Q vs ⟨h', ga, dr, tn, os⟩) : wpAny (model prog w) A (unpackItems (.ref l) n none) Q E ⟨hp, ga, dr, tn, os⟩ :=
  un_tuple S hh ⟨_, S.at hi, rfl, k, rfl⟩ hn h
end
theorem get_some {α : Type} {ys : List α} {i : Nat} (h : i < ys.length) : ∃ a, ys[i]? = some a := ⟨ys[i], List.getElem?_eq_getElem h⟩
/-- what a turn of a while leaves -/
inductive WNext (s : Shared) (g : Heap) (env : Env) (J : Nat → (Str → Option Value) → Heap → List (Addr × Obj) → Prop) (n : Nat) (s₃ : Shared) : Prop
  | mk (h' : Heap) (tk : Nat) (m₂ : Str → Option Value) (g₂ : Heap) (nx₂ : List (Addr × Obj)) (n' : Nat) (e : s₃ = { s with heap := h', toks := tk }) (k : g.StaysIn g₂) (S : St g₂ env h' m₂ nx₂) (hn : n' < n) (hJ : J n' m₂ g₂ nx₂) : WNext s g env J n s₃
noncomputable def WPost (s : Shared) (g : Heap) (env : Env) (J : Nat → (Str → Option Value) → Heap → List (Addr × Obj) → Prop) (Q : Flow → Shared → Prop) (n : Nat) (f : Flow) (s₃ : Shared) : Prop :=
  match f with
  | .next => WNext s g env J n s₃
  | .cont => WNext s g env J n s₃
  | .brk => Q .next s₃
  | .ret v => Q (.ret v) s₃
section
variable {w : World} {prog : Program} {A : Around} {s : Shared} {g : Heap} {env : Env} {m : Str → Option Value} {nx : List (Addr × Obj)}
theorem while_st {test : Expr} {body : List Stmt} {pos : Pos} {Q : Flow → Shared → Prop} (J : Nat → (Str → Option Value) → Heap → List (Addr × Obj) → Prop) {n₀ : Nat} (S : St g env s.heap m nx) (hJ : J n₀ m g nx)
    (turn : ∀ n m₁ g₁ nx₁ h₁ tk₁, g.StaysIn g₁ → St g₁ env h₁ m₁ nx₁ → J n m₁ g₁ nx₁ →
      wpAny (model prog w) A (isTrue test env (eval test env)) (fun b s₂ => if b = true then wpAny (model prog w) A (execs body env) (WPost s g env J Q n) NoE s₂ else Q .next s₂) NoE { s with heap := h₁, toks := tk₁ }) :
    wpAny (model prog w) A (exec (.While test body [] pos) env) Q NoE s := by
  refine wpAny_While (codeAny_whileLoop (fun n s' => ∃ h₁ tk₁ m₁ g₁ nx₁, s' = { s with heap := h₁, toks := tk₁ } ∧ g.StaysIn g₁ ∧ St g₁ env h₁ m₁ nx₁ ∧ J n m₁ g₁ nx₁) ?_ n₀ ⟨s.heap, s.toks, m, g, nx, rfl, fun _ _ e => e, S, hJ⟩)
  rintro n s' ⟨h₁, tk₁, m₁, g₁, nx₁, rfl, k₁, S₁, J₁⟩
  refine wpAny_mono (turn n m₁ g₁ nx₁ h₁ tk₁ k₁ S₁ J₁) (fun b s₂ h₂ => ?_) fun _ _ e => e.elim
  cases b with
  | false =>
    simp only [Bool.false_eq_true, if_false] at h₂ ⊢
    exact wpAny_execs_nil h₂
  | true =>
    simp only [if_true] at h₂ ⊢
    refine wpAny_mono h₂ (fun f s₃ h₃ => ?_) fun _ _ e => e.elim
    have on : WNext s g env J n s₃ → ∃ m, m < n ∧ ∃ h₁ tk₁ m₁ g₁ nx₁, s₃ = { s with heap := h₁, toks := tk₁ } ∧ g.StaysIn g₁ ∧ St g₁ env h₁ m₁ nx₁ ∧ J m m₁ g₁ nx₁ := by
      rintro ⟨h', tk, m₂, g₂, nx₂, n', rfl, k₂, S₂, hn, J₂⟩
      exact ⟨n', hn, h', tk, m₂, g₂, nx₂, rfl, k₂, S₂, J₂⟩
    cases f with
    | next => exact on h₃
    | cont => exact on h₃
    | brk => exact h₃
    | ret v => exact h₃
end
/-- room: nothing is handled, frames and the C stack are far from their lines -/
structure Rm (A : Around) (k : Nat) : Prop where
  hand : A.handled = none
  dep : A.depth + k ≤ 900
  uni : A.units + 10 * k ≤ 9000
theorem Rm.deeper {A : Around} {k : Nat} {env : Env} (r : Rm A (k + 1)) : Rm (A.deeper env) k := ⟨r.hand, by have := r.dep; show A.depth + 1 + k ≤ 900; exact om366 this, by have := r.uni; show A.units + 3 + 10 * k ≤ 9000; exact om365 this⟩
theorem Rm.less {A : Around} {k j : Nat} (r : Rm A k) (h : j ≤ k) : Rm A j := ⟨r.hand, by have := r.dep; exact om364 h this, by have := r.uni; exact om363 h this⟩
theorem Rm.room {A : Around} {k : Nat} (r : Rm A k) : A.depth < recursionLimit := by have := r.dep; unfold recursionLimit; exact om362 this
theorem Rm.units {A : Around} {k : Nat} (r : Rm A k) : A.units + 100 < cLine := by have := r.uni; unfold cLine; exact om361 this
/-- h' keeps all of h but for what lies in D -/
noncomputable def Ext (D : List Addr) (h h' : Heap) : Prop := ∀ b o, b ∉ D → h.get? b = some o → h'.get? b = some o
theorem St.ext1 {g h h' : Heap} {env : Env} {m : Str → Option Value} {nx : List (Addr × Obj)} (S : St g env h m nx) {i : Nat} {l : Addr} {o o' : Obj} (hi : nx[i]? = some (l, o)) (x : Ext [l] h h') (hl : h'.get? l = some o') : St g env h' m (nx.set i (l, o')) :=
  S.upd hi (fun b y hb e => x b y (by simpa using hb) e) hl
theorem St.ext0 {g h h' : Heap} {env : Env} {m : Str → Option Value} {nx : List (Addr × Obj)} (S : St g env h m nx) (x : Ext [] h h') : St g env h' m nx := S.kept fun b o e => x b o (by simp) e
noncomputable def putAll (ps : List (Str × Value)) (m : Str → Option Value) : Str → Option Value := ps.foldr (fun p f => setN f p.1 p.2) m
noncomputable def HasAll (m : Str → Option Value) : List (Str × Value) → Prop
  | [] => True
  | p :: r => m p.1 = some p.2 ∧ HasAll m r
theorem putAll_eq {m : Str → Option Value} : ∀ {ps : List (Str × Value)}, HasAll m ps → putAll ps m = m
  | [], _ => rfl
  | p :: r, h => by
    show setN (putAll r m) p.1 p.2 = m
    rw [putAll_eq h.2]
    funext y
    by_cases q : y = p.1
    · subst q; simp [setN, h.1]
    · simp [setN, q]
theorem St.norm {g : Heap} {env : Env} {h : Heap} {m : Str → Option Value} {nx : List (Addr × Obj)} {ps : List (Str × Value)} (S : St g env h m nx) (e : HasAll m ps) : St g env h (putAll ps m) nx := by
  rw [putAll_eq e]; exact S
section
variable {w : World} {M : Model} {A : Around} {E : Value → Shared → Prop} {s : Shared} {g : Heap} {env : Env} {pos : Pos} {f : Value} {first : List Value} {Q : Value → Shared → Prop}
theorem call_own {e : Expr} {rest : List Expr} (G : Gd w g) (hk : keepIn (hd.heap_1 w.params) f = true) (h : wpAny M A (spliced (backTo pos (starEach (e :: rest) env))) (fun vs s₁ => g.StaysIn s₁.heap ∧ wpAny M A (call f (first ++ vs)) Q E s₁) E s)
    (he : starEach (e :: rest) env = (false, eval e env) :: starEach rest env) (hplain : (backTo pos (starEach rest env)).any (·.1) = false) :
    wpAny M A (callWith pos f first (backTo pos (starEach (e :: rest) env)) []) Q E s :=
  callWith_K G.k hk (wpAny_mono h (fun _ _ q => ⟨G.k.keeps q.1, q.2⟩) fun _ _ q => q) he hplain
theorem stays_of {g h : Heap} {env : Env} {m : Str → Option Value} {nx : List (Addr × Obj)} {P : Prop} (S : St g env h m nx) (p : P) : g.StaysIn h ∧ P := ⟨S.keep, p⟩
end
/-- the state at the start, to be found by name -/
noncomputable def Base (_ : Shared) : Prop := True
section
variable {M : Model} {A : Around} {E : Value → Shared → Prop} {s : Shared} {g : Heap} {env : Env} {m : Str → Option Value} {nx : List (Addr × Obj)}
noncomputable abbrev seqQ (M : Model) (A : Around) (E : Value → Shared → Prop) (env : Env) (rest : List Stmt) (Q : Flow → Shared → Prop) : Flow → Shared → Prop := fun f s' => match f with | .next => wpAny M A (execs rest env) Q E s' | f => Q f s'
theorem exec_one {st : Stmt} {rest : List Stmt} {Q : Flow → Shared → Prop} {h : Heap} {tk : Nat} (_ : Base s)
    (H : ∀ tk, wpAny M A (exec st env) (seqQ M A E env rest Q) E { s with heap := h, toks := tk }) : wpAny M A (execs (st :: rest) env) Q E { s with heap := h, toks := tk } :=
  wpAny_execs_cons (H tk)
theorem c_int {i : Int} {k : Nat} {pos : Pos} {Q : Value → Shared → Prop} {hp : Heap} {ga : Array GenState} {dr : Drawn} {tn : Nat} {os : OsState} (h : Q (.int i tn) ⟨hp, ga, dr, tn + 1, os⟩) : wpAny M A (eval (.Constant (.int i) k pos) env) Q E ⟨hp, ga, dr, tn, os⟩ := wpAny_Constant_int h
theorem sto_int {hp : Heap} {ga : Array GenState} {dr : Drawn} {tn : Nat} {os : OsState} {x : Str} {k : Int} {t : Tok} {Q : Unit → Shared → Prop} (S : St g env hp m nx) (hk : env.scope.kind = .function) (hl : env.kindOf x = some .local)
    (h : ∀ h' t, St g env h' (setN m x (.int k t)) nx → Q () ⟨h', ga, dr, tn + 1, os⟩) : wpAny M A (storeName env x (.int k t)) Q E ⟨hp, ga, dr, tn, os⟩ := sto_local S hk hl fun h' S' => h h' t S'
theorem sto_str {hp : Heap} {ga : Array GenState} {dr : Drawn} {tn : Nat} {os : OsState} {x : Str} {k : Str} {t : Tok} {Q : Unit → Shared → Prop} (S : St g env hp m nx) (hk : env.scope.kind = .function) (hl : env.kindOf x = some .local)
    (h : ∀ h' t, St g env h' (setN m x (.str k t)) nx → Q () ⟨h', ga, dr, tn + 1, os⟩) : wpAny M A (storeName env x (.str k t)) Q E ⟨hp, ga, dr, tn, os⟩ := sto_local S hk hl fun h' S' => h h' t S'
theorem stc_int {hp : Heap} {ga : Array GenState} {dr : Drawn} {tn : Nat} {os : OsState} {x : Str} {k : Int} {t : Tok} {c : Addr} {Q : Unit → Shared → Prop} (S : St g env hp m nx) (hk : env.scope.kind = .function) (hl : env.kindOf x = some .cell) (hc : env.cells.lookup x = some c)
    (h : ∀ h' t, St g env h' (setN m x (.int k t)) nx → Q () ⟨h', ga, dr, tn, os⟩) : wpAny M A (storeName env x (.int k t)) Q E ⟨hp, ga, dr, tn, os⟩ := sto_cell S hk hl hc fun h' S' => h h' t S'
theorem stc_str {hp : Heap} {ga : Array GenState} {dr : Drawn} {tn : Nat} {os : OsState} {x : Str} {k : Str} {t : Tok} {c : Addr} {Q : Unit → Shared → Prop} (S : St g env hp m nx) (hk : env.scope.kind = .function) (hl : env.kindOf x = some .cell) (hc : env.cells.lookup x = some c)
    (h : ∀ h' t, St g env h' (setN m x (.str k t)) nx → Q () ⟨h', ga, dr, tn, os⟩) : wpAny M A (storeName env x (.str k t)) Q E ⟨hp, ga, dr, tn, os⟩ := sto_cell S hk hl hc fun h' S' => h h' t S'
end
section
variable {w : World} {prog : Program} {A : Around} {E : Value → Shared → Prop} {a b : Int} {t u : Tok} {Q : Value → Shared → Prop} {hp : Heap} {ga : Array GenState} {dr : Drawn} {tn : Nat} {os : OsState} 
theorem f_add (h : Q (.int (a + b) tn) ⟨hp, ga, dr, tn + 1, os⟩) : wpAny (model prog w) A (binaryOp .Add (.int a t) (.int b u)) Q E ⟨hp, ga, dr, tn, os⟩ := add_int h
theorem f_iadd (h : Q (.int (a + b) tn) ⟨hp, ga, dr, tn + 1, os⟩) : wpAny (model prog w) A (inplaceOp .Add (.int a t) (.int b u)) Q E ⟨hp, ga, dr, tn, os⟩ := iadd_int h
theorem f_sub (h : Q (.int (a - b) tn) ⟨hp, ga, dr, tn + 1, os⟩) : wpAny (model prog w) A (binaryOp .Sub (.int a t) (.int b u)) Q E ⟨hp, ga, dr, tn, os⟩ := sub_int h
theorem s_add {x y : Str} (h : ∀ t' k, Q (.str (x ++ y) t') ⟨hp, ga, dr, k, os⟩) (hsz : x.length + y.length ≤ sizeLine) : wpAny (model prog w) A (binaryOp .Add (.str x t) (.str y u)) Q E ⟨hp, ga, dr, tn, os⟩ := SB.add h hsz
theorem s_iadd {x y : Str} (h : ∀ t' k, Q (.str (x ++ y) t') ⟨hp, ga, dr, k, os⟩) (hsz : x.length + y.length ≤ sizeLine) : wpAny (model prog w) A (inplaceOp .Add (.str x t) (.str y u)) Q E ⟨hp, ga, dr, tn, os⟩ := SB.iadd h hsz
end
end Mine
end
-- Seg168
section
open PySem PySem.W PyProof.Rows PySem.Calls
namespace Mine
/-- the def at a place of the text: its body, its scope -/
noncomputable def fnAt (k : Nat) : List Stmt × Scope := match PG.main.body[k]? with
  | some (.FunctionDef _ _ b _ _ _ s _ _ _) => (b, s)
  | _ => ([], default)
noncomputable def tryBody : List Stmt → List Stmt
  | .Try b _ _ _ _ :: _ => b
  | _ => []
noncomputable def cpTail : List Stmt := (tryBody ((fnAt 22).1.drop 3)).drop 3
noncomputable def cpScope : Scope := (fnAt 22).2
end Mine
end
-- For168
section
open PySem PySem.W PyProof.Rows PySem.Calls
namespace Mine
theorem St.drop0 {g h h' : Heap} {env : Env} {m : Str → Option Value} {p : Addr × Obj} {nx : List (Addr × Obj)} (S : St g env h m (p :: nx)) (k : ∀ b o, b ≠ p.1 → h.get? b = some o → h'.get? b = some o) : St g env h' m nx := by
  have nd := List.nodup_cons.mp S.apart
  have ne : ∀ q ∈ nx, q.1 ≠ p.1 := fun q hq e => nd.1 (List.mem_map.mpr ⟨q, hq, e⟩)
  have fp := S.free p (.head _)
  obtain ⟨mL, hn, hmL⟩ := S.ns
  exact { ns := ⟨mL, hn.at' fun o e => k _ _ (Ne.symm fp.1) e, hmL⟩
          cell := fun x c e => let ⟨o, ho, hd⟩ := S.cell x c e; ⟨o, k _ _ (Ne.symm (fp.2 x c (mem_of_lookup e))) ho, hd⟩
          led := fun q hq => k _ _ (ne q hq) (S.led q (.tail _ hq))
          apart := nd.2
          apartC := S.apartC
          free := fun q hq => S.free q (.tail _ hq)
          keep := fun b o e => k _ _ (fun q => by rw [q, S.freshN p (.head _)] at e; cases e) (S.keep b o e)
          freshL := S.freshL
          freshC := S.freshC
          freshN := fun q hq => S.freshN q (.tail _ hq)
          nLC := S.nLC
          kinds := S.kinds
          cells1 := S.cells1 }
/-- what a turn of a for leaves: the iterator as it was, new things to be kept apart -/
inductive FNext (s : Shared) (g : Heap) (env : Env) (I : Addr) (oI : Obj) (J : Nat → (Str → Option Value) → Heap → List (Addr × Obj) → Prop) (i : Nat) (s₃ : Shared) : Prop
  | mk (h' : Heap) (tk : Nat) (m₂ : Str → Option Value) (g₂ : Heap) (nx₂ extra : List (Addr × Obj)) (e : s₃ = { s with heap := h', toks := tk }) (k : g.StaysIn g₂) (S : St g₂ env h' m₂ ((I, oI) :: (nx₂ ++ extra))) (hJ : ∀ g₃, g₂.StaysIn g₃ → (∀ p ∈ extra, g₃.get? p.1 = some p.2) → J (i + 1) m₂ g₃ nx₂) : FNext s g env I oI J i s₃
noncomputable def FPost (s : Shared) (g : Heap) (env : Env) (I : Addr) (oI : Obj) (J : Nat → (Str → Option Value) → Heap → List (Addr × Obj) → Prop) (Q : Flow → Shared → Prop) (i : Nat) (f : Flow) (s₃ : Shared) : Prop :=
  match f with
  | .next => FNext s g env I oI J i s₃
  | .cont => FNext s g env I oI J i s₃
  | .brk => Q .next s₃
  | .ret v => Q (.ret v) s₃
section
variable {w : World} {prog : Program} {A : Around} {s : Shared} {env : Env}
theorem forLoop_any {R : Result → Shared → Prop} {target : Expr} {it : Value} {body : List Stmt} (I : Nat → Shared → Prop)
    (turn : ∀ n s, I n s → wpAny (model prog w) A (pyNext it) (fun r s₁ => match r with
      | none => R (.ok .next) s₁
      | some v => wpAny (model prog w) A (letOwnedTupleGo target it v) (fun _ s₁ => wpAny (model prog w) A (assign target env v) (fun _ s₂ => wpAny (model prog w) A (execs body env) (fun f s₃ => match f with
          | .next | .cont => ∃ m, m < n ∧ I m s₃
          | .brk => R (.ok .next) s₃
          | .ret v => R (.ok (.ret v)) s₃) NoE s₂) NoE s₁) NoE s₁) NoE s)
    (n : Nat) (h : I n s) : codeAny (model prog w) A (.forLoop target it body [] env) R s := by
  refine codeAny_loop' rfl I (fun n s hI => ?_) n h
  show wpAny _ _ ((forTurn target it body [] env).onRaise (fun x => do noteFrame x env; theTreesLotGoes x)) _ _ s
  refine wpAny_noted ?_
  simp only [forTurn]
  refine wpAny_bind (wpAny_standAt (wpAny_bind (wpAny_onRaise (wpAny_mono (turn n s hI) (fun r s₁ h₁ => ?_) fun _ _ h' => h'.elim))))
  cases r with
  | none => exact wpAny_pure (.inr ⟨rfl, codeAny_block (wpAny_execs_nil h₁)⟩)
  | some v =>
    refine wpAny_bind (wpAny_mono h₁ (fun _ s₁ h₁ => ?_) fun _ _ h' => h'.elim)
    refine wpAny_bind (wpAny_mono h₁ (fun _ s₂ h₂ => wpAny_bind (wpAny_mono h₂ (fun f s₃ h₃ => ?_) fun _ _ h' => h'.elim)) fun _ _ h' => h'.elim)
    cases f with
    | next => exact wpAny_pure (.inl ⟨rfl, h₃⟩)
    | cont => exact wpAny_pure (.inl ⟨rfl, h₃⟩)
    | brk => exact wpAny_pure h₃
    | ret v => exact wpAny_pure h₃
theorem for_walk {g : Heap} {m : Str → Option Value} {nx : List (Addr × Obj)} {I : Addr} {oI : Obj} {fp : List Addr} {n : Nat} {P : Nat → Value → Prop} {Wt : Nat → Heap → Prop} {R : Result → Shared → Prop} {Q : Flow → Shared → Prop} {target : Expr} {body : List Stmt}
    (J : Nat → (Str → Option Value) → Heap → List (Addr × Obj) → Prop) (S : St g env s.heap m ((I, oI) :: nx)) (W : Walks prog w A I fp [I] n P Wt) (hlive : ∀ i h, Wt i h → ∃ o, h.get? I = some o) (hfp : ∀ b ∈ fp, b = I ∨ ∃ o, g.get? b = some o) (hst : Wt 0 s.heap) (hJ : J 0 m g nx)
    (hR : ∀ f s', Q f s' → R (.ok f) s')
    (turn : ∀ i v m₁ g₁ nx₁ h₁ tk₁ oI, i < n → P i v → g.StaysIn g₁ → Wt (i + 1) h₁ → St g₁ env h₁ m₁ ((I, oI) :: nx₁) → J i m₁ g₁ nx₁ →
      wpAny (model prog w) A (letOwnedTupleGo target (.ref I) v) (fun _ s₁ => wpAny (model prog w) A (assign target env v) (fun _ s₂ => wpAny (model prog w) A (execs body env) (FPost s g env I oI J Q i) NoE s₂) NoE s₁) NoE { s with heap := h₁, toks := tk₁ })
    (done : ∀ m₁ g₁ nx₁ h₁ tk₁, g.StaysIn g₁ → St g₁ env h₁ m₁ nx₁ → J n m₁ g₁ nx₁ → Q .next { s with heap := h₁, toks := tk₁ }) :
    codeAny (model prog w) A (.forLoop target (.ref I) body [] env) R s := by
  refine forLoop_any (fun k s' => ∃ i m₁ g₁ nx₁ h₁ tk₁ oI, s' = { s with heap := h₁, toks := tk₁ } ∧ g.StaysIn g₁ ∧ St g₁ env h₁ m₁ ((I, oI) :: nx₁) ∧ Wt i h₁ ∧ J i m₁ g₁ nx₁ ∧ i ≤ n ∧ k = n + 1 - i) ?_ (n + 1) ⟨0, m, g, nx, s.heap, s.toks, oI, rfl, fun _ _ e => e, S, hst, hJ, Nat.zero_le _, rfl⟩
  rintro k s' ⟨i, m₁, g₁, nx₁, h₁, tk₁, oI, rfl, k₁, S₁, hst₁, hJ₁, hi, rfl⟩
  by_cases hlt : i < n
  · refine W.item i _ _ _ hlt hst₁ fun v h₂ tk₂ hP hst₂ hk₂ => ?_
    obtain ⟨o₂, ho₂⟩ := hlive _ _ hst₂
    have S₂ : St g₁ env h₂ m₁ ((I, o₂) :: nx₁) := S₁.upd (i := 0) rfl (fun b x hb e => hk₂ b x (by simpa using hb) e) ho₂
    refine wpAny_mono (turn i v m₁ g₁ nx₁ h₂ tk₂ o₂ hlt hP k₁ hst₂ S₂ hJ₁) (fun _ s₃ h₃ => wpAny_mono h₃ (fun _ s₄ h₄ => wpAny_mono h₄ (fun f s₅ h₅ => ?_) fun _ _ e => e) fun _ _ e => e) fun _ _ e => e
    have on : FNext s g env I o₂ J i s₅ → ∃ m, m < n + 1 - i ∧ ∃ i m₁ g₁ nx₁ h₁ tk₁ oI, s₅ = { s with heap := h₁, toks := tk₁ } ∧ g.StaysIn g₁ ∧ St g₁ env h₁ m₁ ((I, oI) :: nx₁) ∧ Wt i h₁ ∧ J i m₁ g₁ nx₁ ∧ i ≤ n ∧ m = n + 1 - i := by
      rintro ⟨h', tk, m₂, g₂, nx₂, extra, rfl, k₂, S₃, hJ₂⟩
      have S₃' : St g₂ env h' m₂ (((I, o₂) :: nx₂) ++ extra) := S₃
      obtain ⟨g₃, kg, S₄, hex, _⟩ := S₃'.rebase
      refine ⟨n + 1 - (i + 1), by exact om63 hi, i + 1, m₂, g₃, nx₂, h', tk, o₂, rfl, fun b o e => kg _ _ (k₂ _ _ e), S₄, ?_, hJ₂ g₃ kg hex, hlt, rfl⟩
      refine W.frame _ _ _ hst₂ fun b hb o e => ?_
      rcases hfp b hb with rfl | ⟨o', ho'⟩
      · have := S₄.at (i := 0) rfl
        rw [ho₂] at e; cases e; exact this
      · have h1 := S₂.keep _ _ (k₁ _ _ ho')
        rw [h1] at e; cases e
        exact S₃.keep _ _ (k₂ _ _ ho')
    cases f with
    | next => exact on h₅
    | cont => exact on h₅
    | brk => exact hR _ _ h₅
    | ret v => exact hR _ _ h₅
  · have hin : i = n := by exact om62 hi hlt
    subst hin
    refine W.done _ _ _ hst₁ fun h₂ tk₂ hk₂ => hR _ _ ?_
    exact done m₁ g₁ nx₁ h₂ tk₂ k₁ (S₁.drop0 fun b o hb e => hk₂ b o (by simpa using hb) e) hJ₁
end
/-- an iterator that hands out no tuple of its own -/
noncomputable def PlainIt (o : Obj) : Prop := ∃ n, o.cls = .type n ∧ ["enumerate", "zip", "dict_itemiterator", "dict_reverseitemiterator", "odict_iterator", "itertools.zip_longest", "itertools.pairwise"].contains n = false
/-- the iterator that a for runs over: list, tuple, range, text -/
structure ItOk (prog : Program) (w : World) (A : Around) (g h : Heap) (I : Addr) (n : Nat) (P : Nat → Value → Prop) : Prop where
  ex : ∃ fp Wt, Walks prog w A I fp [I] n P Wt ∧ (∀ i h, Wt i h → ∃ o, h.get? I = some o ∧ PlainIt o) ∧ (∀ b ∈ fp, b = I ∨ ∃ o, g.get? b = some o) ∧ Wt 0 h
section
variable {w : World} {prog : Program} {A : Around} {s : Shared} {env : Env} {g : Heap} {m : Str → Option Value} {nx : List (Addr × Obj)}
theorem it_list {hp : Heap} {ga : Array GenState} {dr : Drawn} {tn : Nat} {os : OsState} {ax : Addr} {vs : List Value} {E : Value → Shared → Prop} {Q : Value → Shared → Prop} (S : St g env hp m nx) (hh : A.handled = none) (hl : g.IsList ax vs.toArray)
    (h : ∀ I oI h', St g env h' m ((I, oI) :: nx) → ItOk prog w A g h' I vs.length (fun i v => vs[i]? = some v) → hp.get? I = none → Q (.ref I) ⟨h', ga, dr, tn, os⟩) : wpAny (model prog w) A (pyIter (.ref ax)) Q E ⟨hp, ga, dr, tn, os⟩ := by
  have hl' : hp.IsList ax vs.toArray := let ⟨o, ho, r⟩ := hl; ⟨o, S.keep _ _ ho, r⟩
  obtain ⟨o, ho, _⟩ := id hl
  have hne : ax ≠ hp.objs.size := Nat.ne_of_lt (Heap.lt_size (S.keep _ _ ho))
  have hno : hp.get? hp.objs.size = none := by cases q : hp.get? hp.objs.size with | none => rfl | some o => exact absurd (Heap.lt_size q) (Nat.lt_irrefl _)
  have W := Walks.list (prog := prog) (w := w) hh hp.objs.size ax hne vs.toArray
  have hz : vs.toArray.size = vs.length := by simp
  rw [hz] at W
  refine wpAny_pyIter_list hl' (h hp.objs.size _ _ (S.push _ rfl) ⟨⟨[hp.objs.size, ax], _, W.weaken (fun i v q => by simpa using q), ?_, ?_, ?_⟩⟩ hno)
  · intro i h' q
    obtain ⟨⟨o, ho, hc, _⟩, _⟩ := q
    exact ⟨o, ho, _, hc, by decide⟩
  · intro b hb
    rcases List.mem_cons.mp hb with e | hb
    · exact .inl e
    · rw [List.mem_singleton.mp hb]; exact .inr ⟨o, ho⟩
  · exact ⟨⟨_, Heap.get?_push_size _ rfl, rfl, rfl⟩, let ⟨o, ho, r⟩ := hl'; ⟨o, Heap.get?_push_of_some _ ho, r⟩⟩
theorem it_tuple {hp : Heap} {ga : Array GenState} {dr : Drawn} {tn : Nat} {os : OsState} {ax : Addr} {vs : List Value} {E : Value → Shared → Prop} {Q : Value → Shared → Prop} (S : St g env hp m nx) (hh : A.handled = none) (hl : g.IsTuple ax vs.toArray)
    (h : ∀ I oI h', St g env h' m ((I, oI) :: nx) → ItOk prog w A g h' I vs.length (fun i v => vs[i]? = some v) → hp.get? I = none → Q (.ref I) ⟨h', ga, dr, tn, os⟩) : wpAny (model prog w) A (pyIter (.ref ax)) Q E ⟨hp, ga, dr, tn, os⟩ := by
  have hl' : hp.IsTuple ax vs.toArray := let ⟨o, ho, r⟩ := hl; ⟨o, S.keep _ _ ho, r⟩
  obtain ⟨o, ho, _⟩ := id hl
  have hne : ax ≠ hp.objs.size := Nat.ne_of_lt (Heap.lt_size (S.keep _ _ ho))
  have hno : hp.get? hp.objs.size = none := by cases q : hp.get? hp.objs.size with | none => rfl | some o => exact absurd (Heap.lt_size q) (Nat.lt_irrefl _)
  have W := Walks.tuple (prog := prog) (w := w) hh hp.objs.size ax hne vs.toArray
  have hz : vs.toArray.size = vs.length := by simp
  rw [hz] at W
  refine wpAny_pyIter_tuple hl' (h hp.objs.size _ _ (S.push _ rfl) ⟨⟨[hp.objs.size, ax], _, W.weaken (fun i v q => by simpa using q), ?_, ?_, ?_⟩⟩ hno)
  · intro i h' q
    obtain ⟨⟨o, ho, hc, _⟩, _⟩ := q
    exact ⟨o, ho, _, hc, by decide⟩
  · intro b hb
    rcases List.mem_cons.mp hb with e | hb
    · exact .inl e
    · rw [List.mem_singleton.mp hb]; exact .inr ⟨o, ho⟩
  · exact ⟨⟨_, Heap.get?_push_size _ rfl, rfl, rfl⟩, let ⟨o, ho, r⟩ := hl'; ⟨o, Heap.get?_push_of_some _ ho, r⟩⟩
theorem it_str {hp : Heap} {ga : Array GenState} {dr : Drawn} {tn : Nat} {os : OsState} {x : Str} {t : Tok} {E : Value → Shared → Prop} {Q : Value → Shared → Prop} (S : St g env hp m nx) (hh : A.handled = none)
    (h : ∀ I oI h', St g env h' m ((I, oI) :: nx) → ItOk prog w A g h' I x.cps.size (SignAt x) → hp.get? I = none → Q (.ref I) ⟨h', ga, dr, tn, os⟩) : wpAny (model prog w) A (pyIter (.str x t)) Q E ⟨hp, ga, dr, tn, os⟩ := by
  have hno : hp.get? hp.objs.size = none := by cases q : hp.get? hp.objs.size with | none => rfl | some o => exact absurd (Heap.lt_size q) (Nat.lt_irrefl _)
  cases ha : x.cps.all (· < 128)
  · exact wpAny_pyIter_wide ha (h _ _ _ (S.push _ rfl) ⟨⟨_, _, Walks.strWide hh _ x t, fun i h' q => (by obtain ⟨o, ho, hc, _⟩ := q; exact ⟨o, ho, _, hc, by decide⟩), fun b hb => .inl (List.mem_singleton.mp hb), ⟨_, Heap.get?_push_size _ rfl, rfl, rfl⟩⟩⟩ hno)
  · exact wpAny_pyIter_ascii ha (h _ _ _ (S.push _ rfl) ⟨⟨_, _, Walks.strAscii hh _ x t, fun i h' q => (by obtain ⟨o, ho, hc, _⟩ := q; exact ⟨o, ho, _, hc, by decide⟩), fun b hb => .inl (List.mem_singleton.mp hb), ⟨_, Heap.get?_push_size _ rfl, rfl, rfl⟩⟩⟩ hno)
theorem it_range {hp : Heap} {ga : Array GenState} {dr : Drawn} {tn : Nat} {os : OsState} {r : Addr} {a b c : Int} {t u v : Tok} {n : Nat} {E : Value → Shared → Prop} {Q : Value → Shared → Prop} (S : St g env hp m nx) (hh : A.handled = none) (hr : IsRange hp r a b c t u v) (hsm : Builtin.Range.small a b c = true) (hn : Builtin.Range.rangeSize a b c = (n : Int))
    (h : ∀ I oI h', St g env h' m ((I, oI) :: nx) → ItOk prog w A g h' I n (fun i v => ∃ t, v = .int (a + i * c) t) → hp.get? I = none → Q (.ref I) ⟨h', ga, dr, tn, os⟩) : wpAny (model prog w) A (pyIter (.ref r)) Q E ⟨hp, ga, dr, tn, os⟩ := by
  have hno : hp.get? hp.objs.size = none := by cases q : hp.get? hp.objs.size with | none => rfl | some o => exact absurd (Heap.lt_size q) (Nat.lt_irrefl _)
  refine wpAny_pyIter_range hr hsm (h _ _ _ (S.push _ rfl) ⟨⟨_, _, Walks.range hh _ a c n, fun i h' q => ⟨_, q, _, rfl, by decide⟩, fun b hb => .inl (List.mem_singleton.mp hb), ?_⟩⟩ hno)
  show IsRangeIter _ _ _ _ _
  rw [hn]; simpa using Heap.get?_push_size _ rfl
/-- a for over it -/
theorem for_it {I : Addr} {oI : Obj} {n : Nat} {P : Nat → Value → Prop} {Q : Flow → Shared → Prop} {target : Expr} {body : List Stmt} (J : Nat → (Str → Option Value) → Heap → List (Addr × Obj) → Prop)
    (S : St g env s.heap m ((I, oI) :: nx)) (W : ItOk prog w A g s.heap I n P) (hJ : J 0 m g nx)
    (turn : ∀ i v m₁ g₁ nx₁ h₁ tk₁ oI, i < n → P i v → g.StaysIn g₁ → PlainIt oI → St g₁ env h₁ m₁ ((I, oI) :: nx₁) → J i m₁ g₁ nx₁ →
      wpAny (model prog w) A (letOwnedTupleGo target (.ref I) v) (fun _ s₁ => wpAny (model prog w) A (assign target env v) (fun _ s₂ => wpAny (model prog w) A (execs body env) (FPost s g env I oI J Q i) NoE s₂) NoE s₁) NoE { s with heap := h₁, toks := tk₁ })
    (done : ∀ m₁ g₁ nx₁ h₁ tk₁, g.StaysIn g₁ → St g₁ env h₁ m₁ nx₁ → J n m₁ g₁ nx₁ → Q .next { s with heap := h₁, toks := tk₁ }) :
    codeAny (model prog w) A (.forLoop target (.ref I) body [] env) (fun r s' => match r with | .ok f => Q f s' | .error e => cameBackBy (model prog w) A env NoE e s') s := by
  obtain ⟨fp, Wt, W, hlive, hfp, hst⟩ := W.ex
  refine for_walk J S W (fun i h q => let ⟨o, ho, _⟩ := hlive i h q; ⟨o, ho⟩) hfp hst hJ (fun _ _ q => q) (fun i v m₁ g₁ nx₁ h₁ tk₁ oI a b c d e f => turn i v m₁ g₁ nx₁ h₁ tk₁ oI a b c ?_ e f) done
  obtain ⟨o, ho, hp⟩ := hlive _ _ d
  have := e.at (i := 0) rfl
  rw [this] at ho; cases ho; exact hp
theorem let_tup {elts : List Expr} {k : Nat} {pos : Pos} {I t : Addr} {oI : Obj} {vs : List Value} {E : Value → Shared → Prop} {Q : Unit → Shared → Prop} (S : St g env s.heap m ((I, oI) :: nx)) (hp : PlainIt oI) (hh : A.handled = none) (ht : s.heap.IsTuple t vs.toArray)
    (hn : (assignEach elts env).length = vs.length) (hstar : (assignEach elts env).findIdx? (·.1) = none)
    (h : ∀ h', St g env h' m ((I, oI) :: nx) → s.heap.StaysIn h' → wpAny (model prog w) A (assignInOrder ((assignEach elts env).map (·.2)) vs) Q E { s with heap := h' }) :
    wpAny (model prog w) A (letOwnedTupleGo (.Tuple elts k pos) (.ref I) (.ref t)) (fun _ s₁ => wpAny (model prog w) A (assign (.Tuple elts k pos) env (.ref t)) Q E s₁) E s := by
  obtain ⟨n, hc, hno⟩ := hp
  unfold letOwnedTupleGo
  refine wpAny_bind (wpAny_load (S.at (i := 0) rfl) ?_)
  have fin : wpAny (model prog w) A (assign (.Tuple elts k pos) env (.ref t)) Q E s := by
    refine assign_Tuple_tuple hh ht (by simpa using hn) hstar fun h' x => ?_
    have k : s.heap.StaysIn h' := fun b o e => x b o (Nat.ne_of_lt (Heap.lt_size e)) e
    simpa using h h' (S.kept k) k
  rw [hc]
  cases hd : oI.data with
  | fields vs =>
    show wpAny _ A (if (_ && _) = true then _ else _) _ E s
    rw [hno, Bool.false_and, if_neg (by simp)]
    exact wpAny_pure fin
  | _ => exact wpAny_pure fin
theorem let_name {x : Str} {px : Pos} {it v : Value} {M : Model} {E : Value → Shared → Prop} {Q : Unit → Shared → Prop} (h : wpAny M A (storeName env x v) Q E s) : wpAny M A (letOwnedTupleGo (.Name x px) it v) (fun _ s₁ => wpAny M A (assign (.Name x px) env v) Q E s₁) E s :=
  wpAny_pure (wpAny_assign_Name h)
theorem try_quiet {body orelse : List Stmt} {h₀ : ExceptHandler} {hs : List ExceptHandler} {pos : Pos} {Q : Flow → Shared → Prop}
    (h : wpAny (model prog w) A (execs body env) (seqQ (model prog w) A NoE env orelse Q) NoE s) :
    wpAny (model prog w) A (exec (.Try body (h₀ :: hs) orelse [] pos) env) Q NoE s := wpAny_Try_except (wpAny_mono h (fun _ _ q => q) fun _ _ q => q.elim)
end
end Mine
end
-- Ran168
section
open PySem PySem.W PyProof.Rows PySem.Calls
namespace Mine
section
variable {w : World} {prog : Program} {A : Around} {E : Value → Shared → Prop} {s : Shared} {g : Heap} {env : Env} {m : Str → Option Value} {nx : List (Addr × Obj)}
theorem sum_st {l : Addr} {vs : List Value} {ns : List Int} {Q : Value → Shared → Prop} (S : St g env s.heap m nx) (hh : A.handled = none) (hl : s.heap.IsList l vs.toArray) (hi : IntsAre vs ns)
    (h : ∀ h' tk t', St g env h' m nx → s.heap.StaysIn h' → Q (.int ns.sum t') { s with heap := h', toks := tk }) : wpAny (model prog w) A (call (.builtin "sum") [.ref l]) Q E s := by
  obtain ⟨xs, e⟩ := hi.allInts.items
  rw [e] at hl
  refine sum_intListG hh hl fun h' tk t' hk => ?_
  have e2 : ns = numsOf vs := by rw [hi.numsOf]
  have := h h' tk t' (S.kept hk) hk
  rw [preSum_eq, List.take_of_length_le (by simp)]
  rw [e2, show vs = vs.toArray.toList from rfl, e, nums_intItems] at this
  exact this
noncomputable abbrev rangeObj (a b c : Int) (t u v : Tok) : Obj := { cls := .type "range", dict := none, data := .fields #[.int a t, .int b u, .int c v], slots := #[] }
theorem range1 {hp : Heap} {ga : Array GenState} {dr : Drawn} {tn : Nat} {os : OsState} {n : Int} {t : Tok} {Q : Value → Shared → Prop} (S : St g env hp m nx) (h : ∀ r h' tk t u v, St g env h' m ((r, rangeObj 0 n 1 t u v) :: nx) → hp.StaysIn h' → Q (.ref r) ⟨h', ga, dr, tk, os⟩) : wpAny (model prog w) A (call (.type "range") [.int n t]) Q E ⟨hp, ga, dr, tn, os⟩ :=
  call_range_1 (h _ _ _ _ _ _ (S.push _ rfl) fun _ _ e => Heap.get?_push_of_some _ e)
theorem range2 {hp : Heap} {ga : Array GenState} {dr : Drawn} {tn : Nat} {os : OsState} {a n : Int} {t u : Tok} {Q : Value → Shared → Prop} (S : St g env hp m nx) (h : ∀ r h' tk t u v, St g env h' m ((r, rangeObj a n 1 t u v) :: nx) → hp.StaysIn h' → Q (.ref r) ⟨h', ga, dr, tk, os⟩) : wpAny (model prog w) A (call (.type "range") [.int a t, .int n u]) Q E ⟨hp, ga, dr, tn, os⟩ :=
  call_range_2 (h _ _ _ _ _ _ (S.push _ rfl) fun _ _ e => Heap.get?_push_of_some _ e)
theorem range3 {n c : Nat} {kn kc : Int} {t u v : Tok} {Q : Value → Shared → Prop} (S : St g env s.heap m nx) (en : kn = n) (ec : kc = c) (hc : 0 < c) (hc2 : c < 10000) (hn : n < 10000) (h : ∀ r h' tk t u v, St g env h' m ((r, rangeObj 0 n c t u v) :: nx) → s.heap.StaysIn h' → Q (.ref r) { s with heap := h', toks := tk }) : wpAny (model prog w) A (call (.type "range") [.int 0 t, .int kn u, .int kc v]) Q E s := by
  subst en ec
  exact call_range_3 (by exact om344 hc) (h _ _ _ _ _ _ (S.push _ rfl) fun _ _ e => Heap.get?_push_of_some _ e) (.inl (PyProof.noPylong_small (by omega)))
theorem it_r1 {i : Nat} {r : Addr} {n : Nat} {k : Int} {t u v : Tok} {Q : Value → Shared → Prop} (S : St g env s.heap m nx) (hi : nx[i]? = some (r, rangeObj 0 k 1 t u v)) (hk : k = n) (hn : n < 10000) (hh : A.handled = none)
    (h : ∀ I oI h', St g env h' m ((I, oI) :: nx) → ItOk prog w A g h' I n (fun i v => ∃ t, v = .int i t) → s.heap.get? I = none → Q (.ref I) { s with heap := h' }) : wpAny (model prog w) A (pyIter (.ref r)) Q E s := by
  subst hk
  refine it_range S hh (S.at hi) (small_one (by exact om343) (by exact om342) (by exact om306) (by exact om341 hn)) (n := n) (by rw [rangeSize_one]; split <;> (first | exact om339 | exact om340 (by assumption))) fun I oI h' S' W hno => h I oI h' S' ?_ hno
  obtain ⟨fp, Wt, W, r⟩ := W.ex
  exact ⟨fp, Wt, W.weaken (fun i v ⟨t, e⟩ => ⟨t, by rw [e]; simp⟩), r⟩
theorem it_r3 {i : Nat} {r : Addr} {n c N : Nat} {t u v : Tok} {Q : Value → Shared → Prop} (S : St g env s.heap m nx) (hi : nx[i]? = some (r, rangeObj 0 n c t u v)) (hc : 0 < c) (hN : n = N * c) (hn : n < 10000) (hc2 : c < 10000) (hh : A.handled = none)
    (h : ∀ I oI h', St g env h' m ((I, oI) :: nx) → ItOk prog w A g h' I N (fun i v => ∃ t, v = .int ((i * c : Nat) : Int) t) → s.heap.get? I = none → Q (.ref I) { s with heap := h' }) : wpAny (model prog w) A (pyIter (.ref r)) Q E s := by
  have hsz : Builtin.Range.rangeSize 0 (n : Int) (c : Int) = (N : Int) := by
    unfold Builtin.Range.rangeSize
    rw [if_pos (by exact om338 hc)]
    by_cases h0 : N = 0
    · subst h0; simp at hN; subst hN; simp
    · have hpos : 0 < n := by rw [hN]; exact Nat.mul_pos (by exact om337 h0) hc
      rw [if_pos (by exact om336 hpos)]
      have e : ((n : Int) - 0 - 1) / (c : Int) = ((n - 1) / c : Nat) := by
        have : ((n : Int) - 0 - 1) = ((n - 1 : Nat) : Int) := by exact om335 hpos
        rw [this]; exact (Int.natCast_ediv _ _).symm
      rw [e]
      have e2 : (n - 1) / c = N - 1 := by
        obtain ⟨M, rfl⟩ : ∃ M, N = M + 1 := ⟨N - 1, by exact om334 h0⟩
        have : n - 1 = M * c + (c - 1) := by rw [hN, Nat.add_mul, Nat.one_mul]; exact om333 hc
        rw [this, Nat.mul_comm M c, Nat.mul_add_div hc, Nat.div_eq_of_lt (by exact om332 hc)]; exact om331
      rw [e2]; exact om330 h0
  have hNn : N ≤ n := by rw [hN]; exact Nat.le_mul_of_pos_right N hc
  refine it_range S hh (S.at hi) (by unfold Builtin.Range.small Builtin.Range.rangeFitsLong; rw [hsz]; simp; rw [if_pos hc]; exact om329 hn hc2 hNn) (n := N) hsz fun I oI h' S' W hno => h I oI h' S' ?_ hno
  · obtain ⟨fp, Wt, W, r⟩ := W.ex
    exact ⟨fp, Wt, W.weaken (fun i v ⟨t, e⟩ => ⟨t, by rw [e]; simp⟩), r⟩
end
end Mine
end
-- Way168
section
open PySem PySem.W PyProof.Rows PySem.Calls
namespace Mine
/-- a text by its codes -/
noncomputable abbrev T (l : List Nat) : Str := ⟨l.toArray⟩
theorem T_app (a b : List Nat) : T a ++ T b = T (a ++ b) := by
  show Str.mk (a.toArray ++ b.toArray) = _; simp
theorem T_inj {a b : List Nat} (h : T a = T b) : a = b := by simpa using congrArg (fun x : Str => x.cps.toList) h
theorem T_len (a : List Nat) : (T a).length = a.length := by simp [Str.length]
theorem slash : Str.ofString "/" = T [47] := by decide +kernel
theorem dotT : Str.ofString "." = T [46] := by decide +kernel
theorem abcT : Str.ofString "abc" = T [97, 98, 99] := by decide +kernel
theorem nilT : Str.ofString "" = T [] := by decide +kernel
theorem const_at {M : Model} {A : Around} {E : Value → Shared → Prop} {env : Env} {x : Str} {l : List Nat} {k : Nat} {pos : Pos} {Q : Value → Shared → Prop} {hp : Heap} {ga : Array GenState} {dr : Drawn} {tn : Nat} {os : OsState} (e : x = T l) (h : Q (.str (T l) tn) ⟨hp, ga, dr, tn + 1, os⟩) : wpAny M A (eval (.Constant (.str x) k pos) env) Q E ⟨hp, ga, dr, tn, os⟩ := by
  subst e; exact Calls.Constant_str h
/-- a row of letters as a path -/
noncomputable def wayL (u : List Nat) : List Nat := if u = [] then [47] else u.flatMap fun c => [47, c]
noncomputable abbrev way (u : List Nat) : Str := T (wayL u)
theorem flat_len (u : List Nat) : (u.flatMap fun c => [47, c]).length = 2 * u.length := by
  induction u with
  | nil => rfl
  | cons a r ih => simp only [List.flatMap_cons, List.length_append, ih, List.length_cons, List.length_nil]; exact om508
theorem wayL_len (u : List Nat) : 1 ≤ (wayL u).length ∧ (wayL u).length ≤ 2 * u.length + 1 := by
  unfold wayL; split
  · simp
  · rename_i h
    rw [flat_len]
    have : 0 < u.length := List.length_pos_iff.mpr h
    exact om507 this
theorem wayL_snoc (u : List Nat) (c : Nat) : wayL (u ++ [c]) = if u = [] then [47, c] else wayL u ++ [47, c] := by
  unfold wayL
  rw [if_neg (by simp)]
  by_cases h : u = []
  · simp [h]
  · simp [h]
theorem way_snoc_nil (c : Nat) : way ([] ++ [c]) = way [] ++ T [c] := by rw [T_app]; rfl
theorem way_snoc {u : List Nat} (h : u ≠ []) (c : Nat) : way (u ++ [c]) = way u ++ (T [47] ++ T [c]) := by
  rw [T_app, T_app]; unfold way; rw [wayL_snoc, if_neg h]; rfl
theorem sw_eq (a b : List Nat) : Txt.startswith (T a) (T b) = b.isPrefixOf a := by
  unfold Txt.startswith
  rw [StrLaws.subAt_eq]
  simp only [T_len]
  by_cases h : b.length ≤ a.length
  · simp only [Nat.zero_add, h, decide_true, Bool.true_and, List.drop_zero]
    rw [Bool.eq_iff_iff, beq_iff_eq, List.isPrefixOf_iff_prefix, List.prefix_iff_eq_take]
    simp [eq_comm]
  · simp only [Nat.zero_add, h, decide_false, Bool.false_and]
    symm
    rw [Bool.eq_false_iff]
    intro q
    exact h (List.isPrefixOf_iff_prefix.mp q).length_le
theorem ew_eq (a b : List Nat) : Txt.endswith (T a) (T b) = b.isSuffixOf a := by
  unfold Txt.endswith
  rw [StrLaws.subAt_eq]
  simp only [T_len]
  by_cases h : b.length ≤ a.length
  · simp only [Nat.zero_add, h, decide_true, Bool.true_and]
    rw [Bool.eq_iff_iff, beq_iff_eq, List.isSuffixOf_iff_suffix, List.suffix_iff_eq_drop]
    have : (a.drop (a.length - b.length)).take b.length = a.drop (a.length - b.length) := List.take_of_length_le (by simp; exact om506)
    simp [this, eq_comm]
  · simp only [Nat.zero_add, h, decide_false, Bool.false_and]
    symm
    rw [Bool.eq_false_iff]
    intro q
    exact h (List.isSuffixOf_iff_suffix.mp q).length_le
theorem sw_one {c : Nat} (h : c ≠ 47) : Txt.startswith (T [c]) (T [47]) = false := by
  rw [sw_eq]; simp [List.isPrefixOf]; exact om505 h
theorem ew_nil : Txt.endswith (way []) (T [47]) = true := by rw [ew_eq]; decide
theorem ew_way {u : List Nat} (h : u ≠ []) (h47 : ∀ c ∈ u, c ≠ 47) : Txt.endswith (way u) (T [47]) = false := by
  rw [ew_eq, Bool.eq_false_iff]
  intro q
  obtain ⟨r, hr⟩ := List.isSuffixOf_iff_suffix.mp q
  obtain ⟨v, c, rfl⟩ : ∃ v c, u = v ++ [c] := ⟨u.dropLast, u.getLast h, (List.dropLast_concat_getLast h).symm⟩
  rw [wayL_snoc] at hr
  have hl := congrArg List.getLast? hr
  split at hl <;> simp at hl <;> exact h47 c (by simp) hl.symm
/-- the path above, with its stroke -/
theorem wayL_snoc' (u : List Nat) (c : Nat) : ∃ k, wayL (u ++ [c]) = k ++ [c] ∧ k = (if u = [] then [47] else wayL u ++ [47]) ∧ k.length = (wayL (u ++ [c])).length - 1 := by
  refine ⟨if u = [] then [47] else wayL u ++ [47], ?_, rfl, ?_⟩
  · rw [wayL_snoc]; split <;> simp
  · rw [wayL_snoc]; split <;> simp
end Mine
end
-- Sl168
section
open PySem PySem.W PyProof.Rows PySem.Calls PySem.Builtin PySem.Builtin.Str
namespace Mine
theorem sl_take (a : List Nat) (n : Nat) : Txt.slice (T a) none (some (n : Int)) = T (a.take n) := by
  by_cases h : n ≤ a.length
  · have := slice_closes_to (x := T a) (j := n) (by simp; exact h)
    rw [beq_iff_eq] at this
    rw [this]; simp
  · have e : strSliceIndices none (some (n : Int)) 1 (T a).length = strSliceIndices none (some ((T a).length : Int)) 1 (T a).length := by
      rw [T_len]
      unfold strSliceIndices sliceRange
      simp only [show (1 : Int) > 0 by decide, if_true]
      have e1 : ¬ ((n : Int) < 0) := by exact om208
      have e2 : ¬ ((a.length : Int) < 0) := by exact om208
      simp only [e1, e2, if_false]
      have e3 : min (n : Int) a.length = a.length := by exact om382 h
      have e4 : min (a.length : Int) a.length = a.length := by exact om381
      simp [e3]
    have := slice_closes_to (x := T a) (j := ((T a).length : Int)) (by rw [T_len]; simp)
    rw [beq_iff_eq] at this
    have e5 : Txt.slice (T a) none (some (n : Int)) = Txt.slice (T a) none (some ((T a).length : Int)) := by
      unfold Txt.slice
      rw [e]
    rw [e5, this, T_len]
    simp [List.take_of_length_le (show a.length ≤ n by exact om258 h)]
theorem sl_drop (a : List Nat) (n : Nat) (h : n ≤ a.length) : Txt.slice (T a) (some (n : Int)) none = T (a.drop n) := by
  have := slice_closes_from (x := T a) (i := n) (by simp; exact h)
  rw [beq_iff_eq] at this
  rw [this]; simp [List.take_of_length_le]
section
variable {prog : Program} {w : World} {A : Around} {E : Value → Shared → Prop} {s : Shared} {g : Heap} {env : Env} {m : Str → Option Value} {nx : List (Addr × Obj)} {value slice : Expr} {a : List Nat} {t : Tok} {Q : Value → Shared → Prop}
theorem keptSt {g₀ : Heap} : KeptH (fun h => St g env h m nx ∧ g₀.StaysIn h) := fun _ _ q => ⟨q.1.kept fun _ _ e => Heap.get?_push_of_some _ e, fun b o e => Heap.get?_push_of_some _ (q.2 b o e)⟩
theorem sl_to {j : Int} {uj : Tok} {n : Nat} (S : St g env s.heap m nx) (hj : j = n) (h : ∀ h' t' k, St g env h' m nx → s.heap.StaysIn h' → Q (.str (T (a.take n)) t') { s with heap := h', toks := k })
    (hs : subscripted slice false (.str (T a) t) (.ref s.heap.objs.size) = operate [.ref s.heap.objs.size, .str (T a) t] (getItem (.str (T a) t) (.ref s.heap.objs.size)))
    (ht : ∀ r, letTemporaryGo value (.str (T a) t) r = pure ()) (hsz : (T a).length ≤ sizeLine) :
    wpAny (model prog w) A (subscriptTail value slice (.str (T a) t) (.ref s.heap.objs.size)) Q E { s with heap := s.heap.push { cls := .type "slice", data := .fields #[.none, .int j uj, .none] } } := by
  subst hj
  exact tail_of_ItemOn (SBH.sliceItem_ns keptSt (⟨S, fun _ _ e => e⟩ : St g env s.heap m nx ∧ s.heap.StaysIn s.heap) (fun h' t' k q => by rw [sl_take]; exact h h' t' k q.1 q.2) hsz) hs ht
theorem sl_from {j : Int} {uj : Tok} {n : Nat} (S : St g env s.heap m nx) (hj : j = n) (hn : n ≤ a.length) (h : ∀ h' t' k, St g env h' m nx → s.heap.StaysIn h' → Q (.str (T (a.drop n)) t') { s with heap := h', toks := k })
    (hs : subscripted slice false (.str (T a) t) (.ref s.heap.objs.size) = operate [.ref s.heap.objs.size, .str (T a) t] (getItem (.str (T a) t) (.ref s.heap.objs.size)))
    (ht : ∀ r, letTemporaryGo value (.str (T a) t) r = pure ()) (hsz : (T a).length ≤ sizeLine) :
    wpAny (model prog w) A (subscriptTail value slice (.str (T a) t) (.ref s.heap.objs.size)) Q E { s with heap := s.heap.push { cls := .type "slice", data := .fields #[.int j uj, .none, .none] } } := by
  subst hj
  exact tail_of_ItemOn (SBH.sliceItem_sn keptSt (⟨S, fun _ _ e => e⟩ : St g env s.heap m nx ∧ s.heap.StaysIn s.heap) (fun h' t' k q => by rw [sl_drop _ _ hn]; exact h h' t' k q.1 q.2) hsz) hs ht
end
end Mine
end
-- Spf168
section
open PySem PySem.W PyProof.Rows PySem.Calls PySem.Builtin PySem.Builtin.Str
namespace Mine
theorem at_one (a : List Nat) (i : Nat) : StrLaws.At (T a) (T [47]) (T a).length i ↔ a[i]? = some 47 := by
  unfold StrLaws.At
  rw [StrLaws.subAt_eq, T_len, T_len]
  constructor
  · rintro ⟨h1, h2⟩
    have hi : i < a.length := by simp at h1; exact om458 h1
    have : (a.drop i).take 1 = [47] := by simpa using h2
    have e2 : (a.drop i).take 1 = [a[i]] := by rw [List.drop_eq_getElem_cons hi]; rfl
    rw [e2] at this
    have e : a[i] = 47 := by injection this
    rw [List.getElem?_eq_getElem hi, e]
  · intro h
    obtain ⟨hi, e⟩ := List.getElem?_eq_some_iff.mp h
    refine ⟨by simp; exact om195 hi, ?_⟩
    have : (a.drop i).take 1 = [47] := by rw [List.drop_eq_getElem_cons hi]; simp [e]
    simpa using this
theorem rf_way (k : List Nat) (c : Nat) (hc : c ≠ 47) : Txt.rfind (T (k ++ [47] ++ [c])) (T [47]) = k.length := by
  unfold Txt.rfind
  rcases StrLaws.last_spec (T (k ++ [47] ++ [c])) (T [47]) with ⟨_, h⟩ | ⟨i, h, hi, hlast⟩
  · exact absurd ((at_one _ k.length).mpr (by simp)) (h _)
  · rw [h]
    have h1 := (at_one _ i).mp hi
    have h2 : ¬ i < k.length := fun q => hlast _ q ((at_one _ _).mpr (by simp))
    have h3 : i < (k ++ [47] ++ [c]).length := (List.getElem?_eq_some_iff.mp h1).1
    have h4 : i ≠ k.length + 1 := by
      intro q
      rw [q] at h1
      simp at h1
      exact hc h1
    have : i = k.length := by simp at h3; exact om457 h2 h4 h3
    simp [this]
theorem takeWhile_stop1 {k : List Nat} (hk : k.getLast? ≠ some 47) : ((k ++ [47]).reverse.takeWhile (#[47].contains ·)).length = 1 := by
  rw [List.reverse_append]
  simp only [List.reverse_cons, List.reverse_nil, List.nil_append, List.cons_append, List.takeWhile_cons]
  cases h : k.reverse with
  | nil => simp
  | cons a r =>
    have : k.getLast? = some a := by rw [← List.head?_reverse, h]; rfl
    have ha : a ≠ 47 := fun q => hk (by rw [this, q])
    simp [ha]
theorem rs_way {k : List Nat} (hk : k.getLast? ≠ some 47) : Txt.rstripChars (T (k ++ [47])) (T [47]) = T k := by
  unfold Txt.rstripChars Txt.stripBy stripSame PySem.stripped stripHi stripLo
  have e : ((k ++ [47]).reverse.takeWhile ((T [47]).cps.contains ·)).length = 1 := takeWhile_stop1 hk
  simp only [Bool.false_eq_true, if_false, if_true, List.drop_zero]
  have e2 : (T (k ++ [47])).length = k.length + 1 := by rw [T_len]; simp
  rw [e2]
  have e3 : ((T (k ++ [47])).cps.toList.reverse.takeWhile (T [47]).cps.contains).length = 1 := e
  rw [e3]
  rw [if_neg (by simp)]
  refine Str.ext' (Array.toList_inj.mp ?_)
  rw [StrLaws.strSub_toList]
  simp
theorem wayL_last {u : List Nat} (hu : u ≠ []) (h47 : ∀ x ∈ u, x ≠ 47) : (wayL u).getLast? ≠ some 47 := by
  obtain ⟨v, c, rfl⟩ : ∃ v c, u = v ++ [c] := ⟨u.dropLast, u.getLast hu, (List.dropLast_concat_getLast hu).symm⟩
  rw [wayL_snoc]
  have := h47 c (by simp)
  split <;> simp [this]
theorem fold_rep (a : List Nat) : ∀ (n : Nat) (acc : Array Nat), ((List.replicate n a.toArray).foldl (· ++ ·) acc).toList = acc.toList ++ (List.replicate n a).flatten
  | 0, acc => by simp
  | n + 1, acc => by
    rw [List.replicate_succ, List.foldl_cons, fold_rep a n]
    simp [List.replicate_succ]
theorem mul_eq (n : Nat) (h : 1 ≤ n) : Txt.mul (T [47]) (n : Int) = T (List.replicate n 47) := by
  unfold Txt.mul
  rw [if_neg (by exact om456 h)]
  split
  · rename_i q
    have : n = 1 := by simp [T_len] at q; exact om455 q
    subst this; rfl
  · refine Str.ext' (Array.toList_inj.mp ?_)
    rw [Int.toNat_natCast, show (T [47]).cps = [47].toArray from rfl, fold_rep]
    simp
theorem mul_T {prog : Program} {w : World} {A : Around} {E : Value → Shared → Prop} {s : Shared} {t u : Tok} {n : Nat} {k : Int} {Q : Value → Shared → Prop} (hk : k = n) (h1 : 1 ≤ n) (hn : n ≤ 10000) (h : ∀ t' k, Q (.str (T (List.replicate n 47)) t') { s with toks := k }) : wpAny (model prog w) A (binaryOp .Mult (.str (T [47]) t) (.int k u)) Q E s := by
  subst hk
  refine SB.mul (mulOk_of 16 1048576 (by rw [T_len]; decide) (by exact om454 hn) (by exact om453) (by decide) (by decide)) fun t' k => ?_
  rw [mul_eq n h1]; exact h t' k
theorem len_T {hp : Heap} {ga : Array GenState} {dr : Drawn} {tn : Nat} {os : OsState} {prog : Program} {w : World} {A : Around} {E : Value → Shared → Prop} {t : Tok} {a : List Nat} {Q : Value → Shared → Prop} (hn : a.length ≤ 16777216) (h : ∀ t' k, Q (.int a.length t') ⟨hp, ga, dr, k, os⟩) : wpAny (model prog w) A (call (.builtin "len") [.str (T a) t]) Q E ⟨hp, ga, dr, tn, os⟩ :=
  SBL.len (by rw [T_len]; exact om452 hn) (by rw [T_len]; exact h _ _)
end Mine
end
-- It168
section
open PySem PySem.W PyProof.Rows PySem.Calls
namespace Mine
theorem charAt_T {a : List Nat} {n c : Nat} (h : a[n]? = some c) : Txt.charAt (T a) (n : Int) = some c := by
  have hn : n < a.length := (List.getElem?_eq_some_iff.mp h).1
  unfold Txt.charAt seqIndex?
  rw [T_len]
  have e1 : ¬ ((n : Int) < 0) := by exact om208
  simp only [e1, if_false]
  rw [if_pos (by simp; exact hn)]
  simp [h]
section
variable {prog : Program} {w : World} {A : Around} {E : Value → Shared → Prop} {s : Shared} {value slice : Expr} {a : List Nat} {t : Tok} {Q : Value → Shared → Prop}
theorem item_T {i : Int} {u : Tok} {n c : Nat} (hi : i = n) (hc : a[n]? = some c) (hn : n < 1000000) (h : ∀ t' k, Q (.str (T [c]) t') { s with toks := k })
    (hs : subscripted slice false (.str (T a) t) (.int i u) = operate [.str (T a) t, .int i u] (getItem (.str (T a) t) (.int i u)))
    (ht : ∀ r, letTemporaryGo value (.str (T a) t) r = pure ()) : wpAny (model prog w) A (subscriptTail value slice (.str (T a) t) (.int i u)) Q E s := by
  subst hi
  have hl : n < a.length := (List.getElem?_eq_some_iff.mp hc).1
  refine item_str (by unfold fitsSsize; simp; exact om207 hn) (by rw [T_len]; exact om206) (by rw [T_len]; exact om205 hl) (fun _ => ?_) hs ht
  have : Txt.item (T a) (n : Int) = T [c] := by unfold Txt.item; rw [charAt_T hc]; rfl
  rw [this]; exact h _ _
end
end Mine
end
-- Cmp168
section
open PySem PySem.W PyProof.Rows PySem.Calls
namespace Mine
section
variable {w : World} {prog : Program} {A : Around} {s : Shared} {R : Result → Shared → Prop}
theorem compLoop_any {elt target iter : Expr} {ifs : List Expr} {scope : Scope} {pos : Pos} {it acc : Value} {env : Env} (I : Nat → Shared → Prop)
    (turn : ∀ n s, I n s → wpAny (model prog w) A (pyNext it) (fun r s₁ => match r with
      | none => R (.ok .next) s₁
      | some v => wpAny (model prog w) A (letOwnedTupleGo target it v) (fun _ s₁ => wpAny (model prog w) A (assign target env v) (fun _ s₂ =>
          wpAny (model prog w) A (forIn ifs true fun c r => if r = true then do let ok ← isTrue c env (eval c env); pure (ForInStep.yield ok) else pure (ForInStep.yield r)) (fun ok s₃ =>
            if ok = true then wpAny (model prog w) A (eval elt env) (fun x s₄ => wpAny (model prog w) A (call (.builtin "list.append") [acc, x]) (fun _ s₅ => ∃ m, m < n ∧ I m s₅) NoE s₄) NoE s₃
            else ∃ m, m < n ∧ I m s₃) NoE s₂) NoE s₁) NoE s₁) NoE s)
    (n : Nat) (h : I n s) : codeAny (model prog w) A (.compLoop (.ListComp elt [⟨target, iter, ifs, 0⟩] scope pos) 0 it acc env) R s := by
  refine codeAny_loop rfl I (fun n s hI => ?_) n h
  show wpAny _ A ((compTurn (.ListComp elt [⟨target, iter, ifs, 0⟩] scope pos) 0 it acc env).onRaise (fun x => do noteFrame x env; theTreesLotGoes x)) _ _ s
  refine wpAny_noted ?_
  rw [compTurn_list]
  refine wpAny_bind (wpAny_standAt (wpAny_bind (wpAny_mono (turn n s hI) (fun r s₁ h₁ => ?_) fun _ _ h' => h'.elim)))
  cases r with
  | none => exact wpAny_pure h₁
  | some v =>
    refine wpAny_bind (wpAny_mono h₁ (fun _ s₁ h₁ => ?_) fun _ _ h' => h'.elim)
    refine wpAny_bind (wpAny_mono h₁ (fun _ s₂ h₂ => wpAny_bind (wpAny_mono h₂ (fun ok s₃ h₃ => ?_) fun _ _ h' => h'.elim)) fun _ _ h' => h'.elim)
    cases ok with
    | false => exact wpAny_pure ⟨rfl, h₃⟩
    | true => exact wpAny_bind (wpAny_bind (wpAny_mono h₃ (fun x s₄ h₄ => wpAny_bind (wpAny_mono h₄ (fun _ s₅ h₅ => wpAny_pure (wpAny_pure ⟨rfl, h₅⟩)) fun _ _ h' => h'.elim)) fun _ _ h' => h'.elim))
end
theorem objs_of {h : Heap} : ∀ l : List Addr, (∀ a ∈ l, ∃ o, h.get? a = some o) → ∃ nx : List (Addr × Obj), nx.map (·.1) = l ∧ ∀ p ∈ nx, h.get? p.1 = some p.2
  | [], _ => ⟨[], rfl, fun _ hp => nomatch hp⟩
  | a :: l, hl => by
    obtain ⟨o, ho⟩ := hl a (.head _)
    obtain ⟨nx, e, hx⟩ := objs_of l fun b hb => hl b (.tail _ hb)
    exact ⟨(a, o) :: nx, by simp [e], fun p hp => by
      rcases List.mem_cons.mp hp with rfl | hp
      · exact ho
      · exact hx p hp⟩
theorem hasAll_get {m : Str → Option Value} : ∀ {ps : List (Str × Value)}, HasAll m ps → ∀ x ∈ ps.map (·.1), ∃ v, m x = some v ∧ ∀ m', HasAll m' ps → m' x = some v
  | [], _, _, h => nomatch h
  | (y, v) :: r, e, x, h => by
    by_cases q : x = y
    · subst q; exact ⟨v, e.1, fun m' e' => e'.1⟩
    · obtain ⟨v, e1, e2⟩ := hasAll_get (ps := r) e.2 x (by simpa [q] using h)
      exact ⟨v, e1, fun m' e' => e2 m' e'.2⟩
theorem hasAll_off {m : Str → Option Value} {f : Str → Bool} : ∀ {ps : List (Str × Value)}, HasAll m ps → (ps.all fun p => !f p.1) = true → HasAll (fun z => if f z = true then none else m z) ps
  | [], _, _ => trivial
  | (y, v) :: r, e, h => by
    simp only [List.all_cons, Bool.and_eq_true, Bool.not_eq_true'] at h
    exact ⟨by simp [h.1, e.1], hasAll_off e.2 h.2⟩
/-- into a comprehension's own frame, and back out of it -/
theorem St.openC {g h h₁ : Heap} {env : Env} {m : Str → Option Value} {nx : List (Addr × Obj)} {scope : Scope} {cl : List (Str × Addr)} {C : Addr} {ps : List (Str × Value)} (S : St g env h m nx)
    (hcl : cl.map (fun p => env.cells.lookup p.1) = cl.map (fun p => some p.2)) (hnd : (cl.map (·.1)).Nodup) (hkd : (cl.all fun p => (relabel scope env).names.lookup p.1 != some .local) = true)
    (hps : (ps.all fun p => !((relabel scope env).names.lookup p.1 == some .local)) = true) (hcov : (cl.all fun p => (ps.map (·.1)).contains p.1) = true) (he : HasAll m ps)
    (k : h.StaysIn h₁) (hC : h.get? C = none) (hns : h₁.Ns C (fun _ => none)) :
    ∃ frz m₁, HasAll m₁ ps ∧ St g (compEnvC scope cl C env) h₁ m₁ (nx ++ frz) ∧ ∀ g₂ h₂ m₂ nx₂, g.StaysIn g₂ → HasAll m₂ ps → St g₂ (compEnvC scope cl C env) h₂ m₂ (nx₂ ++ frz) → ∃ oC mC, h₂.Ns C mC ∧ St g₂ env h₂ m ((C, oC) :: nx₂) := by
  have S₁ := S.kept k
  have hclm : ∀ x c, (x, c) ∈ cl → (x, c) ∈ env.cells := fun x c hx => by
    have : ∀ p ∈ cl, env.cells.lookup p.1 = some p.2 := fun p hp => by
      obtain ⟨i, hi⟩ := List.getElem?_of_mem hp
      have := congrArg (fun l => l[i]?) hcl
      simpa [List.getElem?_map, hi] using this
    exact mem_of_lookup (this _ hx)
  obtain ⟨frz, hf, hfo⟩ := objs_of (h := h₁) (env.locals :: (env.cells.filter fun p => !cl.contains p).map (·.2)) (fun a ha => by
    rcases List.mem_cons.mp ha with rfl | ha
    · obtain ⟨mL, ⟨o, _, _, ho, _⟩, _⟩ := S₁.ns; exact ⟨o, ho⟩
    · obtain ⟨p, hp, rfl⟩ := List.mem_map.mp ha
      obtain ⟨o, ho, _⟩ := S₁.cell p.1 p.2 (S₁.cells1 _ _ (List.mem_filter.mp hp).1)
      exact ⟨o, ho⟩)
  have hfa : ∀ p ∈ frz, p.1 = env.locals ∨ ∃ x, (x, p.1) ∈ env.cells ∧ (x, p.1) ∉ cl := fun p hp => by
    have : p.1 ∈ frz.map (·.1) := List.mem_map_of_mem (f := Prod.fst) hp
    rw [hf] at this
    rcases List.mem_cons.mp this with e | ha
    · exact .inl e
    · obtain ⟨q, hq, e⟩ := List.mem_map.mp ha
      rw [List.mem_filter] at hq
      refine .inr ⟨q.1, ?_, ?_⟩
      · rw [← e]; exact hq.1
      · rw [← e]; intro hm
        have := hq.2
        simp at this
        exact this hm
  have hfnd : (frz.map (·.1)).Nodup := by
    rw [hf]
    refine List.nodup_cons.mpr ⟨fun hm => ?_, ?_⟩
    · obtain ⟨q, hq, e⟩ := List.mem_map.mp hm
      exact S.nLC q.1 q.2 (List.mem_filter.mp hq).1 e
    · have : (env.cells.filter fun p => !cl.contains p).Pairwise fun x y => x.2 ≠ y.2 := S.apartC.sublist List.filter_sublist
      exact List.pairwise_map.mpr this
  have hCL : C ≠ env.locals := fun q => by
    obtain ⟨mL, ⟨o, _, _, ho, _⟩, _⟩ := S.ns
    rw [← q, hC] at ho; cases ho
  have hCc : ∀ x c, (x, c) ∈ env.cells → C ≠ c := fun x c hx q => by
    obtain ⟨o, ho, _⟩ := S.cell x c (S.cells1 _ _ hx)
    rw [← q, hC] at ho; cases ho
  have hCn : ∀ p ∈ nx, C ≠ p.1 := fun p hp q => by have := S.led p hp; rw [← q, hC] at this; cases this
  have hkd' : ∀ x c, (x, c) ∈ cl → (compEnvC scope cl C env).kindOf x ≠ some .local := fun x c hx q => by
    have := List.all_eq_true.mp hkd _ hx
    simp only [bne_iff_ne, ne_eq] at this
    exact this q
  have c1 : ∀ x c, (x, c) ∈ cl → cl.lookup x = some c := fun x c hm => lookup_of_mem_nodup hnd hm
  let isl : Str → Bool := fun z => (relabel scope env).names.lookup z == some .local
  refine ⟨frz, fun z => if isl z = true then none else m z, hasAll_off he hps, ?_, ?_⟩
  · exact { ns := ⟨_, hns, fun x hx => by
              have : isl x = true := beq_iff_eq.mpr (show (relabel scope env).names.lookup x = some .local from hx)
              simp [this]⟩
            cell := fun x c e => by
              have hm := mem_of_lookup e
              have : isl x = false := by
                have := hkd' x c hm
                cases q : isl x with
                | false => rfl
                | true => exact absurd (show (relabel scope env).names.lookup x = some .local from beq_iff_eq.mp q) this
              simp only [this, Bool.false_eq_true, if_false]
              exact S₁.cell x c (S.cells1 _ _ (hclm _ _ hm))
            led := fun p hp => by
              rcases List.mem_append.mp hp with hp | hp
              · exact S₁.led p hp
              · exact hfo p hp
            apart := by
              rw [List.map_append]
              refine List.nodup_append.mpr ⟨S.apart, hfnd, fun a ha b hb q => ?_⟩
              obtain ⟨p, hp, rfl⟩ := List.mem_map.mp ha
              obtain ⟨p', hp', rfl⟩ := List.mem_map.mp hb
              rcases hfa p' hp' with e | ⟨x, hx, _⟩
              · exact (S.free p hp).1 (q.trans e)
              · exact (S.free p hp).2 x _ hx q
            apartC := by
              have hn2 : cl.Pairwise fun x y => x.1 ≠ y.1 := List.pairwise_map.mp hnd
              refine hn2.imp_of_mem fun {a b} ha hb hne q => hne ?_
              exact name_of_addr S.apartC (hclm a.1 a.2 ha) (q ▸ hclm b.1 b.2 hb)
            free := fun p hp => by
              rcases List.mem_append.mp hp with hp | hp
              · exact ⟨Ne.symm (hCn p hp), fun x c hx => (S.free p hp).2 x c (hclm _ _ hx)⟩
              · rcases hfa p hp with e | ⟨x, hx, hnx⟩
                · exact ⟨fun q => hCL (q.symm.trans e), fun y c hy q => S.nLC y c (hclm _ _ hy) (q.symm.trans e)⟩
                · refine ⟨fun q => hCc x _ hx q.symm, fun y c hy q => hnx ?_⟩
                  have := name_of_addr S.apartC hx (q ▸ hclm y c hy)
                  rw [this, q]; exact hy
            keep := S₁.keep
            freshL := by
              show g.get? C = none
              cases q : g.get? C with
              | none => rfl
              | some o => rw [S.keep _ _ q] at hC; cases hC
            freshC := fun x c hx => S.freshC x c (hclm _ _ hx)
            freshN := fun p hp => by
              rcases List.mem_append.mp hp with hp | hp
              · exact S.freshN p hp
              · rcases hfa p hp with e | ⟨x, hx, _⟩
                · rw [e]; exact S.freshL
                · exact S.freshC x _ hx
            nLC := fun x c hx => Ne.symm (hCc x c (hclm _ _ hx))
            kinds := hkd'
            cells1 := c1 }
  · intro g₂ h₂ m₂ nx₂ kg he₂ S₂
    obtain ⟨mC, hnC, _⟩ := S₂.ns
    obtain ⟨oC, _, _, hoC, _⟩ := id hnC
    refine ⟨oC, mC, hnC, ?_⟩
    have hout : ∀ p ∈ frz, h₂.get? p.1 = some p.2 := fun p hp => S₂.led p (List.mem_append_right _ hp)
    have hfin : ∀ a ∈ frz.map (·.1), ∀ o, h₁.get? a = some o → h₂.get? a = some o := fun a ha o e => by
      obtain ⟨p, hp, rfl⟩ := List.mem_map.mp ha
      have := hfo p hp
      rw [this] at e; cases e
      exact hout p hp
    have inL : env.locals ∈ frz.map (·.1) := by rw [hf]; exact .head _
    have inC : ∀ x c, (x, c) ∈ env.cells → (x, c) ∉ cl → c ∈ frz.map (·.1) := fun x c hx hn => by
      rw [hf]; refine .tail _ (List.mem_map.mpr ⟨(x, c), List.mem_filter.mpr ⟨hx, by simpa using hn⟩, rfl⟩)
    have nd2 := S₂.apart
    rw [List.map_append, List.nodup_append] at nd2
    have off : ∀ p ∈ nx₂, ∀ a ∈ frz.map (·.1), p.1 ≠ a := fun p hp a ha => nd2.2.2 _ (List.mem_map_of_mem (f := Prod.fst) hp) _ ha
    obtain ⟨mL, hnL, hmL⟩ := S₁.ns
    have offC : ∀ a ∈ frz.map (·.1), g₂.get? a = none := fun a ha => by
      obtain ⟨p, hp, rfl⟩ := List.mem_map.mp ha
      exact S₂.freshN p (List.mem_append_right _ hp)
    exact { ns := ⟨mL, hnL.at' fun o e => hfin _ inL o e, hmL⟩
            cell := fun x c e => by
              have hm := mem_of_lookup e
              by_cases hin : (x, c) ∈ cl
              · have h1 := S₂.cell x c (c1 _ _ hin)
                have := List.all_eq_true.mp hcov _ hin
                obtain ⟨v, e1, e2⟩ := hasAll_get he x (by simpa using this)
                rw [e1]; rw [e2 m₂ he₂] at h1; exact h1
              · obtain ⟨o, ho, r⟩ := S₁.cell x c e
                exact ⟨o, hfin c (inC x c hm hin) o ho, r⟩
            led := fun p hp => by
              rcases List.mem_cons.mp hp with rfl | hp
              · exact hoC
              · exact S₂.led p (List.mem_append_left _ hp)
            apart := List.nodup_cons.mpr ⟨fun hm => by
                obtain ⟨p, hp, e⟩ := List.mem_map.mp hm
                exact (S₂.free p (List.mem_append_left _ hp)).1 e, nd2.1⟩
            apartC := S.apartC
            free := fun p hp => by
              rcases List.mem_cons.mp hp with rfl | hp
              · exact ⟨hCL, hCc⟩
              · refine ⟨off p hp _ inL, fun x c hx => ?_⟩
                by_cases hin : (x, c) ∈ cl
                · exact (S₂.free p (List.mem_append_left _ hp)).2 x c hin
                · exact off p hp _ (inC x c hx hin)
            keep := S₂.keep
            freshL := offC _ inL
            freshC := fun x c hx => by
              by_cases hin : (x, c) ∈ cl
              · exact S₂.freshC x c hin
              · exact offC _ (inC x c hx hin)
            freshN := fun p hp => by
              rcases List.mem_cons.mp hp with rfl | hp
              · exact S₂.freshL
              · exact S₂.freshN p (List.mem_append_left _ hp)
            nLC := S.nLC
            kinds := S.kinds
            cells1 := S.cells1 }
end Mine
end
-- Cmq168
section
open PySem PySem.W PyProof.Rows PySem.Calls
namespace Mine
/-- what a turn of a comprehension leaves -/
inductive CNext (s : Shared) (g : Heap) (cenv : Env) (I : Addr) (oI : Obj) (tl : List (Addr × Obj)) (ps : List (Str × Value)) (J : Nat → List Value → Heap → Prop) (i : Nat) (ys : List Value) (s₃ : Shared) : Prop
  | mk (h' : Heap) (tk : Nat) (m₂ : Str → Option Value) (g₂ : Heap) (extra : List (Addr × Obj)) (e : s₃ = { s with heap := h', toks := tk }) (k : g.StaysIn g₂) (he : HasAll m₂ ps) (S : St g₂ cenv h' m₂ ((I, oI) :: (tl ++ extra))) (hJ : ∀ g₃, g₂.StaysIn g₃ → (∀ p ∈ extra, g₃.get? p.1 = some p.2) → J (i + 1) ys g₃) : CNext s g cenv I oI tl ps J i ys s₃
noncomputable abbrev testsOf (ifs : List Expr) (env : Env) : Sem Bool := forIn ifs true fun c r => if r = true then do let ok ← isTrue c env (eval c env); pure (ForInStep.yield ok) else pure (ForInStep.yield r)
noncomputable def CPost (M : Model) (A : Around) (elt : Expr) (s : Shared) (g : Heap) (cenv : Env) (I : Addr) (oI : Obj) (tl : List (Addr × Obj)) (ps : List (Str × Value)) (J : Nat → List Value → Heap → Prop) (i : Nat) (ys : List Value) (ok : Bool) (s₃ : Shared) : Prop :=
  if ok = true then wpAny M A (eval elt cenv) (fun y s₄ => CNext s g cenv I oI tl ps J i (ys ++ [y]) s₄) NoE s₃ else CNext s g cenv I oI tl ps J i ys s₃
section
variable {w : World} {prog : Program} {A : Around} {E : Value → Shared → Prop} {s₂ : Shared} {env : Env} {g : Heap} {m : Str → Option Value} {nx : List (Addr × Obj)}
theorem comp_run {elt target iter : Expr} {ifs : List Expr} {scope : Scope} {cl : List (Str × Addr)} {pos : Pos} {I : Addr} {oI : Obj} {n : Nat} {P : Nat → Value → Prop} {RR : Value → Addr → Result → Shared → Prop}
    (J : Nat → List Value → Heap → Prop) (ps : List (Str × Value)) (hcell : ∀ y ∈ scope.names, y.2 ≠ .cell) (hkind : scope.kind = .function)
    (hcl : cl.map (fun p => env.cells.lookup p.1) = cl.map (fun p => some p.2)) (hnd : (cl.map (·.1)).Nodup) (hkd : (cl.all fun p => (relabel scope env).names.lookup p.1 != some .local) = true)
    (hps : (ps.all fun p => !((relabel scope env).names.lookup p.1 == some .local)) = true) (hcov : (cl.all fun p => (ps.map (·.1)).contains p.1) = true)
    (S₂ : St g env s₂.heap m ((I, oI) :: nx)) (W : ItOk prog w A g s₂.heap I n P) (hn : n ≤ 100000) (he : HasAll m ps) (hJ : J 0 [] g)
    (turn : ∀ i v ys m₁ g₁ h₁ tk₁ oI C tl, i < n → P i v → g.StaysIn g₁ → PlainIt oI → HasAll m₁ ps → J i ys g₁ → St g₁ (compEnvC scope cl C env) h₁ m₁ ((I, oI) :: tl) →
      wpAny (model prog w) A (letOwnedTupleGo target (.ref I) v) (fun _ s₁ => wpAny (model prog w) A (assign target (compEnvC scope cl C env) v) (fun _ s₃ =>
        wpAny (model prog w) A (testsOf ifs (compEnvC scope cl C env)) (CPost (model prog w) A elt s₂ g (compEnvC scope cl C env) I oI tl ps J i ys) NoE s₃) NoE s₁) NoE { s₂ with heap := h₁, toks := tk₁ })
    (done : ∀ D C oC mC ys g₁ h₁ tk₁ nn, g.StaysIn g₁ → h₁.Ns C mC → St g₁ env h₁ m ((C, oC) :: (D, listOf ys.toArray nn) :: nx) → J n ys g₁ → RR (.ref D) C (.ok .next) { s₂ with heap := h₁, toks := tk₁ }) :
    wpAny (model prog w) A (newList []) (fun acc s₃ => wpAny (model prog w) A (newFunctionEnv scope env.globals cl [] env.qual none .none (some env)) (fun cenv s₄ =>
      codeAny (model prog w) A (.compStart (.ListComp elt [⟨target, iter, ifs, 0⟩] scope pos) 0 (.ref I) acc { cenv with scope := relabel scope env }) (RR acc cenv.locals) s₄) E s₃) E s₂ := by
  obtain ⟨fp, Wt, W, hlive, hfp, hst⟩ := W.ex
  refine wpAny_newObj_type (wpAny_newFunctionEnv hcell (by intro y hy; simp at hy) (fun h₁ hns₁ hsb₁ => ?_) hkind)
  dsimp only at hns₁ hsb₁ ⊢
  have SD := S₂.push { cls := .type "list", dict := none, data := .seq ([] : List Value).toArray } rfl
  generalize hH2 : s₂.heap.push { cls := .type "list", dict := none, data := .seq ([] : List Value).toArray } = H2 at hns₁ hsb₁ SD ⊢
  generalize hD : s₂.heap.objs.size = D at SD ⊢
  have hC : H2.get? H2.objs.size = none := by cases q : H2.get? H2.objs.size with | none => rfl | some o => exact absurd (Heap.lt_size q) (Nat.lt_irrefl _)
  generalize H2.objs.size = C at hns₁ hsb₁ hC ⊢
  have k1 : H2.StaysIn h₁ := fun b o e => hsb₁.extBut b o (fun q => by rw [q, hC] at e; cases e) (Heap.get?_push_of_some _ e)
  have k0 : s₂.heap.StaysIn H2 := fun b o e => hH2 ▸ Heap.get?_push_of_some _ e
  have SD' : St g env H2 m ((I, oI) :: (D, listOf ([] : List Value).toArray 0) :: nx) := SD.mem (fun p hp => by
    rcases List.mem_cons.mp hp with rfl | hp
    · exact .tail _ (.head _)
    · rcases List.mem_cons.mp hp with rfl | hp
      · exact .head _
      · exact .tail _ (.tail _ hp)) (by
    have := SD.apart
    simp only [List.map_cons, List.nodup_cons, List.mem_cons, not_or] at this ⊢
    exact ⟨⟨Ne.symm this.1.1, this.2.1⟩, this.1.2, this.2.2⟩)
  obtain ⟨frz, m₁, he₁, S₁, back⟩ := SD'.openC (C := C) (scope := scope) (ps := ps) hcl hnd hkd hps hcov he k1 hC hns₁
  have hst₁ : Wt 0 h₁ := W.frame _ _ _ hst fun b _ o e => k1 _ _ (k0 _ _ e)
  have loop : ∀ s₃ : Shared, s₃ = { s₂ with heap := h₁, toks := s₂.toks + ([] : List (Str × Value)).length } →
      codeAny (model prog w) A (.compLoop (.ListComp elt [⟨target, iter, ifs, 0⟩] scope pos) 0 (.ref I) (.ref D) (compEnvC scope cl C env)) (RR (.ref D) C) s₃ := by
    rintro s₃ rfl
    refine compLoop_any (fun k s' => ∃ i ys m₁ g₁ h₁ tk₁ oI nn, s' = { s₂ with heap := h₁, toks := tk₁ } ∧ g.StaysIn g₁ ∧ HasAll m₁ ps ∧ St g₁ (compEnvC scope cl C env) h₁ m₁ ((I, oI) :: (D, listOf ys.toArray nn) :: (nx ++ frz)) ∧ Wt i h₁ ∧ J i ys g₁ ∧ ys.length ≤ i ∧ i ≤ n ∧ k = n + 1 - i)
      ?_ (n + 1) ⟨0, [], m₁, g, h₁, _, oI, 0, rfl, fun _ _ e => e, he₁, S₁, hst₁, hJ, Nat.le_refl _, Nat.zero_le _, rfl⟩
    rintro k s' ⟨i, ys, m₁, g₁, h₁, tk₁, oI, nn, rfl, k₁, he₁, S₁, hst₁, hJ₁, hyl, hi, rfl⟩
    by_cases hlt : i < n
    · refine W.item i _ _ _ hlt hst₁ fun v h₂ tk₂ hP hst₂ hk₂ => ?_
      obtain ⟨o₂, ho₂, hpl⟩ := hlive _ _ hst₂
      have S₂ : St g₁ (compEnvC scope cl C env) h₂ m₁ ((I, o₂) :: (D, listOf ys.toArray nn) :: (nx ++ frz)) := S₁.upd (i := 0) rfl (fun b x hb e => hk₂ b x (by simpa using hb) e) ho₂
      have ons : ∀ ys' s₅, CNext s₂ g (compEnvC scope cl C env) I o₂ ((D, listOf ys.toArray nn) :: (nx ++ frz)) ps J i ys' s₅ → ∃ h' tk m₂ g₃, s₅ = { s₂ with heap := h', toks := tk } ∧ g.StaysIn g₃ ∧ HasAll m₂ ps ∧ St g₃ (compEnvC scope cl C env) h' m₂ ((I, o₂) :: (D, listOf ys.toArray nn) :: (nx ++ frz)) ∧ Wt (i + 1) h' ∧ J (i + 1) ys' g₃ := by
        rintro ys' s₅ ⟨h', tk, m₂, g₂, extra, rfl, k₂, he₂, S₃, hJ₂⟩
        have S₃' : St g₂ (compEnvC scope cl C env) h' m₂ (((I, o₂) :: (D, listOf ys.toArray nn) :: (nx ++ frz)) ++ extra) := S₃
        obtain ⟨g₃, kg, S₄, hex, _⟩ := S₃'.rebase
        refine ⟨h', tk, m₂, g₃, rfl, fun b o e => kg _ _ (k₂ _ _ e), he₂, S₄, ?_, hJ₂ g₃ kg hex⟩
        refine W.frame _ _ _ hst₂ fun b hb o e => ?_
        rcases hfp b hb with rfl | ⟨o', ho'⟩
        · have := S₄.at (i := 0) rfl
          rw [ho₂] at e; cases e; exact this
        · have h1 := S₂.keep _ _ (k₁ _ _ ho')
          rw [h1] at e; cases e
          exact S₃.keep _ _ (k₂ _ _ ho')
      refine wpAny_mono (turn i v ys m₁ g₁ h₂ tk₂ o₂ C _ hlt hP k₁ hpl he₁ hJ₁ S₂) (fun _ s₃ h₃ => wpAny_mono h₃ (fun _ s₄ h₄ => wpAny_mono h₄ (fun ok s₅ h₅ => ?_) fun _ _ e => e) fun _ _ e => e) fun _ _ e => e
      unfold CPost at h₅
      cases ok with
      | false =>
        simp only [Bool.false_eq_true, if_false] at h₅ ⊢
        obtain ⟨h', tk, m₂, g₃, rfl, kg, he₂, S₄, hW, hJ₂⟩ := ons _ _ h₅
        exact ⟨n + 1 - (i + 1), by exact om63 hi, i + 1, ys, m₂, g₃, h', tk, o₂, nn, rfl, kg, he₂, S₄, hW, hJ₂, by exact om65 hyl, hlt, rfl⟩
      | true =>
        simp only [if_true] at h₅ ⊢
        refine wpAny_mono h₅ (fun y s₆ h₆ => ?_) fun _ _ e => e
        obtain ⟨h', tk, m₂, g₃, rfl, kg, he₂, S₄, hW, hJ₂⟩ := ons _ _ h₆
        refine led_append (i := 1) S₄ rfl (by unfold sizeLine; exact om64 hn hyl hi) fun h₇ S₇ => ?_
        refine ⟨n + 1 - (i + 1), by exact om63 hi, i + 1, ys ++ [y], m₂, g₃, h₇, _, o₂, _, rfl, kg, he₂, S₇, ?_, hJ₂, by rw [List.length_append]; simp; exact hyl, hlt, rfl⟩
        refine W.frame _ _ _ hW fun b hb o e => ?_
        rcases hfp b hb with rfl | ⟨o', ho'⟩
        · have h1 := S₄.at (i := 0) rfl
          rw [h1] at e; cases e
          exact S₇.at (i := 0) rfl
        · have h1 := S₄.keep _ _ (kg _ _ ho')
          rw [h1] at e; cases e
          exact S₇.keep _ _ (kg _ _ ho')
    · have hin : i = n := by exact om62 hi hlt
      subst hin
      refine W.done _ _ _ hst₁ fun h₂ tk₂ hk₂ => ?_
      have S₅ := S₁.drop0 (h' := h₂) fun b o hb e => hk₂ b o (by simpa using hb) e
      obtain ⟨oC, mC, hnC, S₆⟩ := back g₁ h₂ m₁ ((D, listOf ys.toArray nn) :: nx) k₁ he₁ S₅
      exact done D C oC mC ys g₁ h₂ tk₂ nn k₁ hnC S₆ hJ₁
  exact codeAny_compStart_list (loop _ rfl) (W.self 0 _ _ _ hst₁ (loop _ rfl))
end
end Mine
end
-- Cmr168
section
open PySem PySem.W PyProof.Rows PySem.Calls
namespace Mine
noncomputable abbrev compBlock (M : Model) (A : Around) (E : Value → Shared → Prop) (elt target iter : Expr) (ifs : List Expr) (scope : Scope) (cl : List (Str × Addr)) (pos : Pos) (env : Env) (use : Option (Value → Sem Unit)) (Q : Value → Shared → Prop) (it : Value) (s₂ : Shared) : Prop :=
  wpAny M A (newList []) (fun acc s₃ => wpAny M A (newFunctionEnv scope env.globals cl [] env.qual none .none (some env)) (fun cenv s₄ =>
      codeAny M A (.compStart (.ListComp elt [⟨target, iter, ifs, 0⟩] scope pos) 0 it acc { cenv with scope := relabel scope env }) (compPost M A E use Q acc cenv.locals) s₄) E s₃) E s₂
theorem St.cnil {g h : Heap} {env : Env} {m : Str → Option Value} {nx : List (Addr × Obj)} {p : Addr × Obj} (S : St g env h m (p :: nx)) : St g env h m (p :: (nx ++ [])) := by rw [List.append_nil]; exact S
section
variable {w : World} {prog : Program} {A : Around} {E : Value → Shared → Prop} {s s₂ : Shared} {env : Env} {g : Heap} {m : Str → Option Value} {nx : List (Addr × Obj)}
  {elt target iter : Expr} {ifs : List Expr} {scope : Scope} {cl : List (Str × Addr)} {pos : Pos} {I : Addr} {oI : Obj} {n : Nat} {P : Nat → Value → Prop}
theorem comp_eval {Q : Value → Shared → Prop} (hclos : closureFor scope env = pure cl) (hkind : scope.kind = .function) (hnames : ∀ y ∈ scope.names, y.2 = .local → scope.names.lookup y.1 = some .local) (hs : ∀ x, foldedSetIterable iter env x = pure x)
    (h : wpAny (model prog w) A (eval iter env) (fun xv s₁ => wpAny (model prog w) A (pyIter xv) (compBlock (model prog w) A E elt target iter ifs scope cl pos env none Q) E s₁) E s) :
    wpAny (model prog w) A (eval (.ListComp elt [⟨target, iter, ifs, 0⟩] scope pos) env) Q E s := by
  rw [eval_ListComp]
  exact wpAny_comprehension_free (use := none) rfl hs hclos hkind hnames h
theorem comp_assign {y : Str} {py spos : Pos} {Q : Flow → Shared → Prop} (hsw : swapsWith (.ListComp elt [⟨target, iter, ifs, 0⟩] scope pos) (some (.Name y py)) spos.line env = pure true)
    (hclos : closureFor scope env = pure cl) (hkind : scope.kind = .function) (hnames : ∀ y ∈ scope.names, y.2 = .local → scope.names.lookup y.1 = some .local) (hs : ∀ x, foldedSetIterable iter env x = pure x)
    (h : wpAny (model prog w) A (eval iter env) (fun xv s₁ => wpAny (model prog w) A (pyIter xv) (compBlock (model prog w) A E elt target iter ifs scope cl pos env (some (assign (.Name y py) env)) (fun _ s' => Q .next s')) E s₁) E s) :
    wpAny (model prog w) A (exec (.Assign [.Name y py] (.ListComp elt [⟨target, iter, ifs, 0⟩] scope pos) spos) env) Q E s := by
  rw [exec_Assign_Name_used _ _ _ _ hsw]
  refine wpAny_bind (wpAny_standAt (wpAny_bind ?_))
  show wpAny _ A (do let _ ← comprehension (.ListComp elt [⟨target, iter, ifs, 0⟩] scope pos) scope env _ (newList []) false (eval iter env) (some (assign (.Name y py) env))) _ _ s
  exact wpAny_bind (wpAny_mono (wpAny_comprehension_free (use := some (assign (.Name y py) env)) (Q := fun _ s' => Q .next s') rfl hs hclos hkind hnames h) (fun _ s' hq => wpAny_pure (wpAny_pure hq)) fun _ _ e => e)
theorem comp_it {Q : Value → Shared → Prop} (J : Nat → List Value → Heap → Prop) (ps : List (Str × Value)) (S₂ : St g env s₂.heap m ((I, oI) :: nx)) (W : ItOk prog w A g s₂.heap I n P) (hcell : ∀ y ∈ scope.names, y.2 ≠ .cell) (hkind : scope.kind = .function)
    (hcl : cl.map (fun p => env.cells.lookup p.1) = cl.map (fun p => some p.2)) (hnd : (cl.map (·.1)).Nodup) (hkd : (cl.all fun p => (relabel scope env).names.lookup p.1 != some .local) = true)
    (hps : (ps.all fun p => !((relabel scope env).names.lookup p.1 == some .local)) = true) (hcov : (cl.all fun p => (ps.map (·.1)).contains p.1) = true)
    (hn : n ≤ 100000) (he : HasAll m ps) (hJ : J 0 [] g)
    (turn : ∀ i v ys m₁ g₁ h₁ tk₁ oI C tl, i < n → P i v → g.StaysIn g₁ → PlainIt oI → HasAll m₁ ps → J i ys g₁ → St g₁ (compEnvC scope cl C env) h₁ m₁ ((I, oI) :: tl) →
      wpAny (model prog w) A (letOwnedTupleGo target (.ref I) v) (fun _ s₁ => wpAny (model prog w) A (assign target (compEnvC scope cl C env) v) (fun _ s₃ =>
        wpAny (model prog w) A (testsOf ifs (compEnvC scope cl C env)) (CPost (model prog w) A elt s₂ g (compEnvC scope cl C env) I oI tl ps J i ys) NoE s₃) NoE s₁) NoE { s₂ with heap := h₁, toks := tk₁ })
    (done : ∀ D ys g₁ h₁ tk₁ nn, g.StaysIn g₁ → St g₁ env h₁ m ((D, listOf ys.toArray nn) :: nx) → J n ys g₁ → Q (.ref D) { s₂ with heap := h₁, toks := tk₁ }) :
    compBlock (model prog w) A E elt target iter ifs scope cl pos env none Q (.ref I) s₂ :=
  comp_run J ps hcell hkind hcl hnd hkd hps hcov S₂ W hn he hJ turn fun D C oC mC ys g₁ h₁ tk₁ nn kg hnC S hJ =>
    ⟨mC, hnC, fun h' hs => done D ys g₁ h' tk₁ nn kg (S.drop0 fun b o hb e => hs.extBut b o hb e) hJ⟩
theorem comp_its {y : Str} {py : Pos} {Q : Value → Shared → Prop} (J : Nat → List Value → Heap → Prop) (ps : List (Str × Value)) (S₂ : St g env s₂.heap m ((I, oI) :: nx)) (W : ItOk prog w A g s₂.heap I n P) (hcell : ∀ y ∈ scope.names, y.2 ≠ .cell) (hkind : scope.kind = .function)
    (hcl : cl.map (fun p => env.cells.lookup p.1) = cl.map (fun p => some p.2)) (hnd : (cl.map (·.1)).Nodup) (hkd : (cl.all fun p => (relabel scope env).names.lookup p.1 != some .local) = true)
    (hps : (ps.all fun p => !((relabel scope env).names.lookup p.1 == some .local)) = true) (hcov : (cl.all fun p => (ps.map (·.1)).contains p.1) = true)
    (hn : n ≤ 100000) (he : HasAll m ps) (hJ : J 0 [] g) (hk : env.scope.kind = .function) (hy : env.kindOf y = some .local)
    (turn : ∀ i v ys m₁ g₁ h₁ tk₁ oI C tl, i < n → P i v → g.StaysIn g₁ → PlainIt oI → HasAll m₁ ps → J i ys g₁ → St g₁ (compEnvC scope cl C env) h₁ m₁ ((I, oI) :: tl) →
      wpAny (model prog w) A (letOwnedTupleGo target (.ref I) v) (fun _ s₁ => wpAny (model prog w) A (assign target (compEnvC scope cl C env) v) (fun _ s₃ =>
        wpAny (model prog w) A (testsOf ifs (compEnvC scope cl C env)) (CPost (model prog w) A elt s₂ g (compEnvC scope cl C env) I oI tl ps J i ys) NoE s₃) NoE s₁) NoE { s₂ with heap := h₁, toks := tk₁ })
    (done : ∀ D ys g₁ h₁ tk₁ nn, g.StaysIn g₁ → St g₁ env h₁ (fun z => if z = y then some (.ref D) else m z) ((D, listOf ys.toArray nn) :: nx) → J n ys g₁ → Q .none { s₂ with heap := h₁, toks := tk₁ }) :
    compBlock (model prog w) A E elt target iter ifs scope cl pos env (some (assign (.Name y py) env)) Q (.ref I) s₂ :=
  comp_run J ps hcell hkind hcl hnd hkd hps hcov S₂ W hn he hJ turn fun D C oC mC ys g₁ h₁ tk₁ nn kg hnC S hJ => by
    show wpAny _ A (assign (.Name y py) env (.ref D)) _ _ _
    refine wpAny_assign_Name (sto_local S hk hy fun h₂ S₂ => ?_)
    have o1 := S.at (i := 0) rfl
    have o2 := S₂.at (i := 0) rfl
    exact ⟨mC, hnC.at' fun o e => by rw [o1] at e; cases e; exact o2, fun h' hs => done D ys g₁ h' _ nn kg (S₂.drop0 fun b o hb e => hs.extBut b o hb e) hJ⟩
theorem tests_nil {M : Model} {Q : Bool → Shared → Prop} (h : Q true s) : wpAny M A (testsOf [] env) Q E s := wpAny_pure h
theorem tests_one {M : Model} {c : Expr} {Q : Bool → Shared → Prop} (h : wpAny M A (isTrue c env (eval c env)) Q E s) : wpAny M A (testsOf [c] env) Q E s := by
  show wpAny M A (forIn [c] true _) Q E s
  simp only [List.forIn_cons, List.forIn_nil, if_true]
  refine wpAny_bind (wpAny_bind (wpAny_mono h (fun b s' hq => ?_) fun _ _ e => e))
  exact wpAny_pure (wpAny_pure hq)
end
end Mine
end
-- New168
section
open PySem PySem.W PyProof.Rows PySem.Calls
namespace Mine
/-- what is new in a heap -/
noncomputable def newPart (h h' : Heap) : Heap := hideAll h' ((List.range h.objs.size).filter fun b => (h.get? b).isSome)
theorem newPart_get {h h' : Heap} {b : Addr} {o : Obj} (e : h'.get? b = some o) (n : h.get? b = none) : (newPart h h').get? b = some o :=
  hide_off e fun hm => by
    have := (List.mem_filter.mp hm).2
    rw [n] at this; cases this
theorem newPart_in {h h' : Heap} {b : Addr} {o : Obj} (e : (newPart h h').get? b = some o) : h'.get? b = some o ∧ h.get? b = none := by
  refine ⟨of_hideAll _ e, ?_⟩
  cases q : h.get? b with
  | none => rfl
  | some o' =>
    have : b ∈ (List.range h.objs.size).filter fun b => (h.get? b).isSome := List.mem_filter.mpr ⟨List.mem_range.mpr (Heap.lt_size q), by simp [q]⟩
    have := hideAll_none (h := h') _ this
    unfold newPart at e
    rw [this] at e; cases e
theorem St.adopt {g h h' : Heap} {env : Env} {m : Str → Option Value} {nx : List (Addr × Obj)} (S : St g env h m nx) (k : h.StaysIn h') : ∃ g', g.StaysIn g' ∧ (newPart h h').StaysIn g' ∧ St g' env h' m nx := by
  have S' : St g env h' m (nx ++ []) := by simpa using S.kept k
  obtain ⟨g', kg, S₂, _, hb⟩ := S'.rebase
  refine ⟨g', kg, fun b o e => ?_, S₂⟩
  obtain ⟨e1, e2⟩ := newPart_in e
  refine hb b o e1 (fun q => ?_) (fun x c hx q => ?_) (fun p hp q => ?_)
  · obtain ⟨_, ⟨o, _, _, ho, _⟩, _⟩ := S.ns
    rw [← q, e2] at ho; cases ho
  · obtain ⟨o, ho, _⟩ := S.cell x c (S.cells1 _ _ hx)
    rw [← q, e2] at ho; cases ho
  · have := S.led p hp
    rw [← q, e2] at this; cases this
end Mine
end
-- Ls168
section
open PySem PySem.W PyProof.Rows PySem.Calls
namespace Mine
section
variable {prog : Program} {w : World} {A : Around} {E : Value → Shared → Prop} {s : Shared} {g : Heap} {env : Env} {m : Str → Option Value} {nx : List (Addr × Obj)} {value slice : Expr} {l : Addr} {vs : List Value} {Q : Value → Shared → Prop}
theorem ls_any {vl vu : Value} {lo hi : Option Int} {us : List Value} (S : St g env s.heap m nx) (hl : s.heap.IsList l vs.toArray) (pl : IsPart vl lo) (pu : IsPart vu hi) (hus : slicePick vs.toArray lo hi none = us.toArray) (hz : vs.length ≤ 10000)
    (h : ∀ D h', St g env h' m ((D, listOf us.toArray 0) :: nx) → s.heap.StaysIn h' → Q (.ref D) { s with heap := h' })
    (hs : subscripted slice false (.ref l) (.ref s.heap.objs.size) = operate [.ref s.heap.objs.size, .ref l] (getItem (.ref l) (.ref s.heap.objs.size)))
    (ht : ∀ r, letTemporaryGo value (.ref l) r = pure ()) :
    wpAny (model prog w) A (subscriptTail value slice (.ref l) (.ref s.heap.objs.size)) Q E { s with heap := s.heap.push { cls := .type "slice", data := .fields #[vl, vu, .none] } } := by
  refine slice_listK hl pl pu ?_ hs ht (by unfold sizeLine; simp; exact om0 hz)
  rw [hus]
  have S1 : St g env (s.heap.push { cls := .type "slice", data := .fields #[vl, vu, .none] }) m nx := S.kept fun _ _ e => Heap.get?_push_of_some _ e
  have S2 := S1.push { cls := .type "list", data := .seq us.toArray } rfl
  rw [Heap.size_push] at S2
  exact h _ _ S2 fun _ _ e => Heap.get?_push_of_some _ (Heap.get?_push_of_some _ e)
theorem ls_from {n : Nat} {k : Int} {t : Tok} (S : St g env s.heap m nx) (hl : s.heap.IsList l vs.toArray) (hk : k = n) (hz : vs.length ≤ 10000)
    (h : ∀ D h', St g env h' m ((D, listOf (vs.drop n).toArray 0) :: nx) → s.heap.StaysIn h' → Q (.ref D) { s with heap := h' })
    (hs : subscripted slice false (.ref l) (.ref s.heap.objs.size) = operate [.ref s.heap.objs.size, .ref l] (getItem (.ref l) (.ref s.heap.objs.size)))
    (ht : ∀ r, letTemporaryGo value (.ref l) r = pure ()) :
    wpAny (model prog w) A (subscriptTail value slice (.ref l) (.ref s.heap.objs.size)) Q E { s with heap := s.heap.push { cls := .type "slice", data := .fields #[.int k t, .none, .none] } } := by
  subst hk
  exact ls_any S hl (.int _ _) .none (by rw [slicePick_from']) hz h hs ht
theorem ls_to {n : Nat} {k : Int} {t : Tok} (S : St g env s.heap m nx) (hl : s.heap.IsList l vs.toArray) (hk : k = n) (hz : vs.length ≤ 10000)
    (h : ∀ D h', St g env h' m ((D, listOf (vs.take n).toArray 0) :: nx) → s.heap.StaysIn h' → Q (.ref D) { s with heap := h' })
    (hs : subscripted slice false (.ref l) (.ref s.heap.objs.size) = operate [.ref s.heap.objs.size, .ref l] (getItem (.ref l) (.ref s.heap.objs.size)))
    (ht : ∀ r, letTemporaryGo value (.ref l) r = pure ()) :
    wpAny (model prog w) A (subscriptTail value slice (.ref l) (.ref s.heap.objs.size)) Q E { s with heap := s.heap.push { cls := .type "slice", data := .fields #[.none, .int k t, .none] } } := by
  subst hk
  exact ls_any S hl .none (.int _ _) (by rw [slicePick_upto']) hz h hs ht
theorem ls_mid {a b : Nat} {ka kb : Int} {t u : Tok} (S : St g env s.heap m nx) (hl : s.heap.IsList l vs.toArray) (hka : ka = a) (hkb : kb = b) (hz : vs.length ≤ 10000)
    (h : ∀ D h', St g env h' m ((D, listOf ((vs.drop a).take (b - a)).toArray 0) :: nx) → s.heap.StaysIn h' → Q (.ref D) { s with heap := h' })
    (hs : subscripted slice false (.ref l) (.ref s.heap.objs.size) = operate [.ref s.heap.objs.size, .ref l] (getItem (.ref l) (.ref s.heap.objs.size)))
    (ht : ∀ r, letTemporaryGo value (.ref l) r = pure ()) :
    wpAny (model prog w) A (subscriptTail value slice (.ref l) (.ref s.heap.objs.size)) Q E { s with heap := s.heap.push { cls := .type "slice", data := .fields #[.int ka t, .int kb u, .none] } } := by
  subst hka hkb
  refine ls_any S hl (.int _ _) (.int _ _) ?_ hz h hs ht
  rw [slicePick_plain]
  simp only [Option.elim, clipAt_nat, List.size_toArray]
  congr 1
  refine List.ext_getElem? fun i => ?_
  rw [List.getElem?_take, List.getElem?_take, List.getElem?_drop, List.getElem?_drop]
  by_cases h1 : a ≤ vs.length
  · rw [Nat.min_eq_left h1]
    by_cases h2 : b ≤ vs.length
    · rw [Nat.min_eq_left h2]
    · rw [Nat.min_eq_right (show vs.length ≤ b by exact om258 h2)]
      by_cases h3 : i < vs.length - a
      · rw [if_pos h3, if_pos (by exact om260 h2 h3)]
      · rw [if_neg h3]
        by_cases h4 : i < b - a
        · rw [if_pos h4, List.getElem?_eq_none (by exact om259 h3)]
        · rw [if_neg h4]
  · rw [Nat.min_eq_right (show vs.length ≤ a by exact om258 h1)]
    have : min b vs.length ≤ vs.length := Nat.min_le_right _ _
    rw [if_neg (by exact om257)]
    by_cases h4 : i < b - a
    · rw [if_pos h4, List.getElem?_eq_none (by exact om256 h1)]
    · rw [if_neg h4]
end
end Mine
end
-- So168
section
open PySem PySem.W PyProof.Rows PySem.Calls
namespace Mine
/-- what the tree of asks ends in, if the asks are answered by lt -/
noncomputable def KasSpec {α : Type} (lt : Nat → Nat → Bool) (n : Nat) : KasT α → (α → Prop) → Prop
  | .ret a, Q => Q a
  | .ask i j k, Q => i < n ∧ j < n ∧ KasSpec lt n (k (lt i j)) Q
theorem KasSpec.mono {α : Type} {lt : Nat → Nat → Bool} {n : Nat} {Q Q' : α → Prop} (h : ∀ a, Q a → Q' a) : ∀ t : KasT α, KasSpec lt n t Q → KasSpec lt n t Q'
  | .ret a, q => h a q
  | .ask i j k, q => ⟨q.1, q.2.1, KasSpec.mono h (k (lt i j)) q.2.2⟩
theorem KasSpec.bind {α β : Type} {lt : Nat → Nat → Bool} {n : Nat} {Q : β → Prop} {f : α → KasT β} : ∀ t : KasT α, KasSpec lt n t (fun a => KasSpec lt n (f a) Q) → KasSpec lt n (t.bind f) Q
  | .ret a, q => q
  | .ask i j k, q => ⟨q.1, q.2.1, KasSpec.bind (k (lt i j)) q.2.2⟩
theorem KasSpec.wp {α : Type} {lt : Nat → Nat → Bool} {n : Nat} {cmp : Nat → Nat → (Bool → Shared → Prop) → Shared → Prop} {s : Shared} {Q : α → Shared → Prop} (hc : ∀ i j C, i < n → j < n → C (lt i j) s → cmp i j C s) :
    ∀ t : KasT α, KasSpec lt n t (fun a => Q a s) → t.kasWp cmp Q s
  | .ret _, q => q
  | .ask i j k, q => hc i j _ q.1 q.2.1 (KasSpec.wp hc (k (lt i j)) q.2.2)
/-- a strict order, total on the numbers below n -/
structure LtOk (lt : Nat → Nat → Bool) (n : Nat) : Prop where
  trans : ∀ a b c, a < n → b < n → c < n → lt a b = true → lt b c = true → lt a c = true
  total : ∀ a b, a < n → b < n → a ≠ b → lt a b = false → lt b a = true
  asymm : ∀ a b, a < n → b < n → lt a b = true → lt b a = false
noncomputable def PermN (n : Nat) (p : Array Nat) : Prop := p.Perm (List.range n).toArray
section
variable {lt : Nat → Nat → Bool} {n : Nat} {p : Array Nat}
theorem PermN.size (h : PermN n p) : p.size = n := by have := Array.Perm.size_eq h; simpa using this
theorem PermN.low (h : PermN n p) {i : Nat} (hi : i < n) : p.getD i 0 < n := by
  have hs := h.size
  have : p.getD i 0 = p[i] := by simp [Array.getD, hs, hi]
  rw [this]
  have hm : p[i] ∈ p := Array.getElem_mem _
  have := (Array.Perm.mem_iff h).mp hm
  simpa using this
theorem PermN.inj (h : PermN n p) {i j : Nat} (hi : i < n) (hj : j < n) (e : p.getD i 0 = p.getD j 0) : i = j := by
  have hs := h.size
  have hnd : p.toList.Nodup := (Array.perm_iff_toList_perm.mp h).symm.nodup (by simpa using List.nodup_range)
  have e1 : p.getD i 0 = p.toList[i]'(by simp [hs, hi]) := by simp [Array.getD, hs, hi]
  have e2 : p.getD j 0 = p.toList[j]'(by simp [hs, hj]) := by simp [Array.getD, hs, hj]
  rw [e1, e2] at e
  exact (List.getElem_inj hnd).mp e
noncomputable def UpTo (lt : Nat → Nat → Bool) (p : Array Nat) (m : Nat) : Prop := ∀ i j, i < j → j < m → lt (p.getD i 0) (p.getD j 0) = true
noncomputable def DownTo (lt : Nat → Nat → Bool) (p : Array Nat) (m : Nat) : Prop := ∀ i j, i < j → j < m → lt (p.getD j 0) (p.getD i 0) = true
theorem UpTo.step (O : LtOk lt n) (h : PermN n p) {m : Nat} (hm : 1 ≤ m) (hn : m < n) (u : UpTo lt p m) (e : lt (p.getD (m - 1) 0) (p.getD m 0) = true) : UpTo lt p (m + 1) := by
  intro i j hij hj
  by_cases hjm : j = m
  · subst hjm
    by_cases him : i = j - 1
    · rw [him]; exact e
    · exact O.trans _ _ _ (h.low (by exact om436 hij hn)) (h.low (by exact om447 hn)) (h.low hn) (u i (j - 1) (by exact om446 hij him) (by exact om445 hij)) e
  · exact u i j hij (by exact om151 hj hjm)
theorem DownTo.step (O : LtOk lt n) (h : PermN n p) {m : Nat} (hm : 1 ≤ m) (hn : m < n) (u : DownTo lt p m) (e : lt (p.getD m 0) (p.getD (m - 1) 0) = true) : DownTo lt p (m + 1) := by
  intro i j hij hj
  by_cases hjm : j = m
  · subst hjm
    by_cases him : i = j - 1
    · rw [him]; exact e
    · exact O.trans _ _ _ (h.low hn) (h.low (by exact om447 hn)) (h.low (by exact om436 hij hn)) e (u i (j - 1) (by exact om446 hij him) (by exact om445 hij))
  · exact u i j hij (by exact om151 hj hjm)
theorem spec_asc (O : LtOk lt n) (h : PermN n p) : ∀ (f m : Nat), 1 ≤ m → m + f ≤ n → UpTo lt p m → KasSpec lt n (kas_asc p f m) (fun r => m ≤ r ∧ r ≤ m + f ∧ UpTo lt p r ∧ (r = m + f ∨ lt (p.getD r 0) (p.getD (r - 1) 0) = true))
  | 0, m, _, _, u => ⟨Nat.le_refl _, Nat.le_refl _, u, .inl rfl⟩
  | f + 1, m, hm, hn, u => by
    refine ⟨h.low (by exact om438 hn), h.low (by exact om439 hn), ?_⟩
    cases c : lt (p.getD m 0) (p.getD (m - 1) 0) with
    | true => exact ⟨Nat.le_refl _, by exact om444, u, .inr c⟩
    | false =>
      have e := O.total _ _ (h.low (by exact om438 hn)) (h.low (by exact om439 hn)) (fun q => by have := h.inj (by exact om438 hn) (by exact om439 hn) q; exact om440 hm this) c
      refine KasSpec.mono (fun r q => ?_) _ (spec_asc O h f (m + 1) (by exact om442) (by exact om441 hn) (u.step O h hm (by exact om438 hn) e))
      exact ⟨by omega, by omega, q.2.2.1, q.2.2.2.imp (fun e => by exact om443 e) fun e => e⟩
theorem spec_desc (O : LtOk lt n) (h : PermN n p) : ∀ (f m : Nat), 1 ≤ m → m + f ≤ n → DownTo lt p m → KasSpec lt n (kas_desc f p m 0) (fun r => r.1 = p ∧ r.2.2 = 0 ∧ m ≤ r.2.1 ∧ r.2.1 ≤ m + f ∧ DownTo lt p r.2.1)
  | 0, m, _, _, u => ⟨rfl, rfl, Nat.le_refl _, Nat.le_refl _, u⟩
  | f + 1, m, hm, hn, u => by
    refine ⟨h.low (by exact om438 hn), h.low (by exact om439 hn), ?_⟩
    cases c : lt (p.getD m 0) (p.getD (m - 1) 0) with
    | true =>
      show KasSpec lt n (kas_desc f p (m + 1) 0) _
      refine KasSpec.mono (fun r q => ?_) _ (spec_desc O h f (m + 1) (by exact om442) (by exact om441 hn) (u.step O h hm (by exact om438 hn) c))
      obtain ⟨q1, q2, q3, q4, q5⟩ := q
      exact ⟨q1, q2, Nat.le_trans (Nat.le_succ _) q3, by rw [Nat.add_assoc, Nat.add_comm 1 f] at q4; exact q4, q5⟩
    | false =>
      have e := O.total _ _ (h.low (by exact om438 hn)) (h.low (by exact om439 hn)) (fun q => by have := h.inj (by exact om438 hn) (by exact om439 hn) q; exact om440 hm this) c
      refine ⟨h.low (by exact om439 hn), h.low (by exact om438 hn), ?_⟩
      rw [e]
      exact ⟨rfl, rfl, Nat.le_refl _, Nat.le_add_right _ _, u⟩
theorem getD_of {xs ys : Array Nat} {i j : Nat} (h : xs[i]? = ys[j]?) : xs.getD i 0 = ys.getD j 0 := by rw [Array.getD_eq_getD_getElem?, Array.getD_eq_getD_getElem?, h]
theorem rev_perm (h : PermN n p) (m : Nat) : PermN n (kas_rev p 0 m) := (mirror_perm p 0 m _).trans h
theorem rev_get (h : PermN n p) {m : Nat} (hm : m ≤ n) {k : Nat} (hk : k < m) : (kas_rev p 0 m).getD k 0 = p.getD (m - 1 - k) 0 := by
  have := getElem?_mirror_all (xs := p) (i := 0) (j := m) (by rw [h.size]; exact hm) k
  rw [if_pos ⟨Nat.zero_le _, hk⟩] at this
  have e : 0 + m - 1 - k = m - 1 - k := by exact om437
  rw [e] at this
  exact getD_of this
theorem rev_up (h : PermN n p) {m : Nat} (hm : m ≤ n) (d : DownTo lt p m) : UpTo lt (kas_rev p 0 m) m := by
  intro i j hij hj
  rw [rev_get h hm (by exact om436 hij hj), rev_get h hm hj]
  exact d _ _ (by exact om435 hij hj) (by exact om434 hj)
theorem spec_tail3 (O : LtOk lt n) (h : PermN n p) {m : Nat} (hm : 1 ≤ m) (hn : m ≤ n) (d : DownTo lt p m) : KasSpec lt n (kas_tail3 m n p) (fun r => 1 ≤ r.1 ∧ r.1 ≤ n ∧ PermN n r.2 ∧ UpTo lt r.2 r.1) := by
  refine KasSpec.bind _ (KasSpec.mono (fun r q => ?_) _ (spec_asc O (rev_perm h m) (n - m) m hm (by exact om433 hn) (rev_up h hn d)))
  have h1 := q.1
  have h2 := q.2.1
  exact ⟨by show 1 ≤ r; exact om432 hm h1, by show r ≤ n; exact om431 hn h2, rev_perm h m, q.2.2.1⟩
theorem spec_count (O : LtOk lt n) (h : PermN n p) (h2 : 2 ≤ n) : KasSpec lt n (kas_count n p) (fun r => 1 ≤ r.1 ∧ r.1 ≤ n ∧ PermN n r.2 ∧ UpTo lt r.2 r.1) := by
  refine KasSpec.bind _ (KasSpec.mono (fun r q => ?_) _ (spec_asc O h (n - 1) 1 (Nat.le_refl _) (by omega) fun i j _ _ => by omega))
  obtain ⟨h1, h3, u, hs⟩ := q
  by_cases e : (r == n) = true
  · rw [if_pos e]; exact ⟨h1, by show r ≤ n; exact om424 h2 h3, h, u⟩
  · rw [if_neg e]
    have hne : r ≠ n := by simpa using e
    have hs' : lt (p.getD r 0) (p.getD (r - 1) 0) = true := hs.resolve_left (by exact om429 h2 hne)
    by_cases hr : r > 1
    · rw [if_pos hr]
      refine ⟨h.low (by exact om428 h2), h.low (by exact om427 h2 h3), ?_⟩
      rw [u 0 (r - 1) (by exact om426 hr) (by exact om425 h1)]
      exact ⟨h1, by show r ≤ n; exact om424 h2 h3, h, u⟩
    · rw [if_neg hr]
      have hr1 : r = 1 := by exact om423 h1 hr
      subst hr1
      refine KasSpec.bind _ (KasSpec.mono (fun r q => ?_) _ (spec_desc O h (n - (1 + 1)) (1 + 1) (by omega) (by omega) (DownTo.step O h (Nat.le_refl _) (by omega) (fun i j _ _ => by omega) hs')))
      obtain ⟨e1, e2, h4, h5, d⟩ := q
      rw [if_neg (by exact om418 e2), e1]
      exact spec_tail3 O h (by exact om417 h4) (by exact om416 h2 h5) d
theorem spec_place (O : LtOk lt n) (h : PermN n p) {k : Nat} (hk : k < n) : ∀ (f l r : Nat), r - l ≤ f → l ≤ r → r ≤ k → (∀ i, i < l → lt (p.getD i 0) (p.getD k 0) = true) → (∀ i, r ≤ i → i < k → lt (p.getD k 0) (p.getD i 0) = true) → UpTo lt p k →
    KasSpec lt n (kas_place p k f l r) (fun l => l ≤ k ∧ (∀ i, i < l → lt (p.getD i 0) (p.getD k 0) = true) ∧ (∀ i, l ≤ i → i < k → lt (p.getD k 0) (p.getD i 0) = true))
  | 0, l, r, hf, hl, hr, a, b, _ => ⟨by exact om414 hl hr, a, fun i h1 h2 => b i (by exact om415 hf h1) h2⟩
  | f + 1, l, r, hf, hl, hr, a, b, u => by
    unfold kas_place
    by_cases e : l ≥ r
    · rw [if_pos e]; exact ⟨by exact om414 hl hr, a, fun i h1 h2 => b i (by exact om413 e h1) h2⟩
    · rw [if_neg e]
      refine ⟨h.low hk, h.low (by exact om404 hk hl hr), ?_⟩
      cases c : lt (p.getD k 0) (p.getD ((l + r) / 2) 0) with
      | true =>
        refine spec_place O h hk f l ((l + r) / 2) (by exact om412 hf) (by exact om411 hl) (by exact om410 hl hr) a (fun i h1 h2 => ?_) u
        by_cases q : i = (l + r) / 2
        · rw [q]; exact c
        · exact O.trans _ _ _ (h.low hk) (h.low (by exact om404 hk hl hr)) (h.low (by exact om196 hk h2)) c (u _ _ (by exact om409 h1 q) h2)
      | false =>
        have c' := O.total _ _ (h.low hk) (h.low (by exact om404 hk hl hr)) (fun q => by have := h.inj hk (by exact om404 hk hl hr) q; exact om408 hr e this) c
        refine spec_place O h hk f ((l + r) / 2 + 1) r (by exact om407 hf) (by exact om406 e) hr (fun i h1 => ?_) b u
        by_cases q : i = (l + r) / 2
        · rw [q]; exact c'
        · exact O.trans _ _ _ (h.low (by exact om405 hk hl hr h1)) (h.low (by exact om404 hk hl hr)) (h.low hk) (u i _ (by exact om403 h1 q) (by exact om402 hr e)) c'
theorem spec_bin (O : LtOk lt n) : ∀ (f : Nat) (p : Array Nat) (k : Nat), PermN n p → k + f = n → UpTo lt p k → KasSpec lt n (kas_bin f p k) (fun r => PermN n r ∧ UpTo lt r n)
  | 0, p, k, h, e, u => ⟨h, by rw [← e]; exact u⟩
  | f + 1, p, k, h, e, u => by
    refine KasSpec.bind _ (KasSpec.mono (fun l q => ?_) _ (spec_place O h (by exact om399 e) k 0 k (by exact om322) (by exact om401) (Nat.le_refl _) (fun i hi => by exact (om152 hi).elim) (fun i h1 h2 => by exact (om400 h1 h2).elim) u))
    obtain ⟨hl, a, b⟩ := q
    have g : ∀ i, (bubble p k (k - l)).getD i 0 = if i = l then p.getD k 0 else if l < i ∧ i ≤ k then p.getD (i - 1) 0 else p.getD i 0 := fun i => by
      have := getElem?_bubble (xs := p) (src := k) (by rw [h.size]; exact om399 e) (k - l) (by exact om398) i
      have e : k - (k - l) = l := by exact om397 hl
      rw [e] at this
      by_cases h1 : i = l
      · rw [if_pos h1] at this ⊢; exact getD_of this
      · rw [if_neg h1] at this ⊢
        by_cases h2 : l < i ∧ i ≤ k
        · rw [if_pos h2] at this ⊢; exact getD_of this
        · rw [if_neg h2] at this ⊢; exact getD_of this
    refine spec_bin O f _ (k + 1) ((bubble_perm p k _).trans h) (by exact om396 e) fun i j hij hj => ?_
    rw [g i, g j]
    by_cases h1 : i = l
    · rw [if_pos h1, if_neg (by exact om395 hij h1), if_pos (by exact om394 hij hj h1)]
      exact b _ (by exact om393 hij h1) (by exact om386 hij hj)
    · rw [if_neg h1]
      by_cases h2 : l < i ∧ i ≤ k
      · rw [if_pos h2, if_neg (by exact om392 hij h2), if_pos (by exact om391 hij hj h2)]
        exact u _ _ (by exact om390 hij h2) (by exact om386 hij hj)
      · rw [if_neg h2]
        by_cases h3 : j = l
        · rw [if_pos h3]; exact a i (by exact om389 hij hj h1 h2)
        · rw [if_neg h3]
          by_cases h4 : l < j ∧ j ≤ k
          · rw [if_pos h4]
            by_cases h5 : i = j - 1
            · exact (om388 h1 h2 h4 h5).elim
            · exact u _ _ (by exact om387 hij h1 h2 h4) (by exact om386 hij hj)
          · rw [if_neg h4]; exact u _ _ hij (by exact om385 hl hj h3 h4)
theorem spec_sort (O : LtOk lt n) (h2 : 2 ≤ n) : KasSpec lt n (kas_sort n) (fun r => PermN n r ∧ UpTo lt r n) := by
  refine KasSpec.bind _ (KasSpec.mono (fun r q => ?_) _ (spec_count O (p := (List.range n).toArray) (Array.Perm.refl _) h2))
  obtain ⟨h1, h3, h4, u⟩ := q
  by_cases e : r.1 < n
  · rw [if_pos e]
    have : max r.1 1 = r.1 := by exact om384 h1
    rw [this]
    exact spec_bin O _ _ _ h4 (by exact om383 h3) u
  · rw [if_neg e]
    have : r.1 = n := by exact om62 h3 e
    exact ⟨h4, this ▸ u⟩
end
end Mine
end
-- Sr168
section
open PySem PySem.W PyProof.Rows PySem.Calls
namespace Mine
section
variable {prog : Program} {w : World} {A : Around} {E : Value → Shared → Prop} {s : Shared}
theorem rows_keyLt {r q : Row} {Q : Bool → Shared → Prop} (hr : r.In s.heap) (hq : q.In s.heap) (h : Q (klt r.key q.key) s) : wpAny (model prog w) A (keyLt' (tuples' true) r.val q.val) Q E s := by
  obtain ⟨t1, u1, o1, ho1, hc1, n1, hd1⟩ := hr
  obtain ⟨t2, u2, o2, ho2, hc2, n2, hd2⟩ := hq
  refine kat_lt ho1 hd1 ho2 hd2 ?_
  refine kat_cons (wpAny_eqBool_int ?_)
  unfold klt at h
  by_cases e : r.less = q.less
  · rw [show (r.less == q.less) = true from beq_iff_eq.mpr e]
    rw [if_pos e] at h
    refine kat_yes (kat_cons (eqBool_str ?_))
    by_cases e2 : r.way = q.way
    · rw [show (r.way == q.way) = true from beq_iff_eq.mpr e2]
      refine kat_yes (kat_nil ?_)
      have : decide (r.way.cps.toList < q.way.cps.toList) = false := by rw [e2]; exact klt_str_same
      rw [show (r.key.2 = r.way) from rfl, show (q.key.2 = q.way) from rfl, this] at h
      exact h
    · rw [show (r.way == q.way) = false from beq_eq_false_iff_ne.mpr e2]
      refine kat_no ?_
      show wpAny _ _ (oneLt' false _ _) _ _ _
      exact kat_one _ _ (PyProof.Rows.lt_str h)
  · rw [show (r.less == q.less) = false from beq_eq_false_iff_ne.mpr e]
    rw [if_neg e] at h
    refine kat_no ?_
    show wpAny _ _ (oneLt' true _ _) _ _ _
    exact oneLt_int h
theorem kat_tups {h : Heap} : ∀ xs : List Row, (∀ r ∈ xs, r.In h) → ∃ fs, KatTups h (xs.map Row.val) fs ∧ fs.length = xs.length ∧ ∀ v ∈ fs, ∃ k t, v = .int k t
  | [], _ => ⟨[], trivial, rfl, fun _ hv => nomatch hv⟩
  | r :: xs, hr => by
    obtain ⟨fs, h1, h2, h3⟩ := kat_tups xs fun q hq => hr q (.tail _ hq)
    obtain ⟨t, u, o, ho, hc, n, hd⟩ := hr r (.head _)
    exact ⟨.int r.less t :: fs, KatTups.cons ho hc hd rfl h1, by simp [h2], fun v hv => by
      rcases List.mem_cons.mp hv with rfl | hv
      · exact ⟨_, _, rfl⟩
      · exact h3 v hv⟩
theorem getD_map (xs : List Row) {i : Nat} (hi : i < xs.length) : (xs.map Row.val).getD i Value.none = (xs[i]'hi).val := by simp [List.getD, hi]
theorem klt_irr (a : Int × Str) : klt a a = false := by unfold klt; rw [if_pos rfl]; exact klt_str_same
theorem klt_trans {a b c : Int × Str} (h1 : klt a b = true) (h2 : klt b c = true) : klt a c = true := by
  unfold klt at *
  by_cases e1 : a.1 = b.1
  · rw [if_pos e1] at h1
    by_cases e2 : b.1 = c.1
    · rw [if_pos e2] at h2; rw [if_pos (e1.trans e2)]
      simp only [decide_eq_true_eq] at *
      exact List.lt_trans h1 h2
    · rw [if_neg e2] at h2; rw [if_neg (by exact om466 e1 e2)]; simp only [decide_eq_true_eq] at *; exact om465 e1 h2
  · rw [if_neg e1] at h1
    by_cases e2 : b.1 = c.1
    · rw [if_pos e2] at h2; rw [if_neg (by exact om464 e1 e2)]; simp only [decide_eq_true_eq] at *; exact om463 e2 h1
    · rw [if_neg e2] at h2
      simp only [decide_eq_true_eq] at h1 h2
      rw [if_neg (by exact om165 h1 h2)]; simp only [decide_eq_true_eq]; exact om164 h1 h2
theorem klt_total {a b : Int × Str} (h : a ≠ b) (h1 : klt a b = false) : klt b a = true := by
  unfold klt at *
  by_cases e1 : a.1 = b.1
  · rw [if_pos e1] at h1; rw [if_pos e1.symm]
    simp only [decide_eq_false_iff_not, decide_eq_true_eq] at *
    have h2 : a.2.cps.toList ≠ b.2.cps.toList := fun q => h (by
      obtain ⟨a1, ⟨a2⟩⟩ := a; obtain ⟨b1, ⟨b2⟩⟩ := b
      have : a2 = b2 := Array.toList_inj.mp q
      simp at e1; subst e1 this; rfl)
    rcases Std.le_total (a := a.2.cps.toList) (b := b.2.cps.toList) with h3 | h3
    · exact absurd (Std.lt_of_le_of_ne h3 h2) h1
    · exact Std.lt_of_le_of_ne h3 (Ne.symm h2)
  · rw [if_neg e1] at h1; rw [if_neg (Ne.symm e1)]
    simp only [decide_eq_false_iff_not, decide_eq_true_eq] at *
    exact om462 e1 h1
end
end Mine
end
-- Ss168
section
open PySem PySem.W PyProof.Rows PySem.Calls
namespace Mine
section
variable {prog : Program} {w : World} {A : Around} {E : Value → Shared → Prop} {s : Shared} {g : Heap} {env : Env} {m : Str → Option Value} {nx : List (Addr × Obj)}
theorem sorted_rows {l : Addr} {xs : List Row} {Q : Value → Shared → Prop} (S : St g env s.heap m nx) (hl : s.heap.IsList l (xs.map Row.val).toArray) (hr : ∀ r ∈ xs, r.In s.heap) (h2 : 2 ≤ xs.length) (h64 : xs.length < 64) (hnd : (xs.map Row.key).Nodup)
    (h : ∀ D h' c (ys : List Row), St g env h' m ((D, listOf (ys.map Row.val).toArray c) :: nx) → (∀ b o, b ≠ env.locals → s.heap.get? b = some o → h'.get? b = some o) → ys.Perm xs → ys.Pairwise (fun a b => klt a.key b.key = true) → Q (.ref D) { s with heap := h' }) :
    wpAny (model prog w) A (call (.builtin "sorted") [.ref l]) Q E s := by
  obtain ⟨mL, hnL, hmL⟩ := S.ns
  obtain ⟨news, hne, hno⟩ := objs_of (h := s.heap) ((List.range s.heap.objs.size).filter fun b => (s.heap.get? b).isSome && b != env.locals) (fun a ha => by
    have := (List.mem_filter.mp ha).2
    simp only [Bool.and_eq_true] at this
    exact Option.isSome_iff_exists.mp this.1)
  have hin : ∀ b o, b ≠ env.locals → s.heap.get? b = some o → (b, o) ∈ news := fun b o hb e => by
    have : b ∈ news.map (·.1) := by
      rw [hne]; exact List.mem_filter.mpr ⟨List.mem_range.mpr (Heap.lt_size e), by simp [e, hb]⟩
    obtain ⟨p, hp, rfl⟩ := List.mem_map.mp this
    have h1 := hno p hp
    rw [e] at h1; cases h1; exact hp
  have hnL' : ∀ p ∈ news, p.1 ≠ env.locals := fun p hp q => by
    have : p.1 ∈ news.map (·.1) := List.mem_map_of_mem (f := Prod.fst) hp
    rw [hne] at this
    have := (List.mem_filter.mp this).2
    simp [q] at this
  have F : Fr {} env.locals s.heap mL := ⟨hnL, fun b o e => by simp [Heap.get?] at e, Nat.zero_le _⟩
  have N : News {} env.locals s.heap news := fun p hp => ⟨hno p hp, hnL' p hp, by simp [Heap.get?]⟩
  refine kat_sorted (vs := xs.map Row.val) F N hl (by simpa using h2) (by simpa using h64) fun D e1 h' F' N' hlt => ?_
  have keep' : ∀ b o, b ≠ env.locals → s.heap.get? b = some o → h'.get? b = some o := fun b o hb e => (N' _ (.tail _ (hin b o hb e))).1
  have hrow : ∀ r ∈ xs, r.In h' := fun r q => by
    obtain ⟨t, u, o, ho, e⟩ := hr r q
    refine ⟨t, u, o, keep' _ _ (fun q => ?_) ho, e⟩
    obtain ⟨o2, _, _, ho2, hc2, _⟩ := hnL
    rw [q, ho2] at ho; cases ho
    obtain ⟨_, n, hd⟩ := e
    rw [hc2] at hd; cases hd
  obtain ⟨fs, ht, hfl, hfi⟩ := kat_tups xs hrow
  obtain ⟨r0, hr0⟩ : ∃ r0, r0 ∈ xs := by
    cases xs with
    | nil => simp at h2
    | cons r _ => exact ⟨r, .head _⟩
  refine kat_kind (T := .type "int") (s := { s with heap := h' }) ht (by exact om467 h2 hfl) (fun v hv => ?_) rfl ?_
  · obtain ⟨k, t, rfl⟩ := hfi v hv
    exact Looks.now
  · have hgk : ∀ i, i < xs.length → (xs.getD i r0).key = (xs.map Row.key).getD i r0.key := fun i hi => by simp [List.getD, hi]
    have O : LtOk (fun i j => klt (xs.getD i r0).key (xs.getD j r0).key) xs.length := {
      trans := fun a b c _ _ _ => klt_trans
      total := fun a b ha hb hne hf => klt_total (fun q => hne (by
        have e1 : (xs.getD a r0).key = (xs.map Row.key)[a]'(by simpa using ha) := by simp [List.getD, ha]
        have e2 : (xs.getD b r0).key = (xs.map Row.key)[b]'(by simpa using hb) := by simp [List.getD, hb]
        rw [e1, e2] at q
        exact (List.getElem_inj hnd).mp q)) hf
      asymm := fun a b _ _ h1 => by
        cases q : klt (xs.getD b r0).key (xs.getD a r0).key with
        | false => rfl
        | true => have := klt_trans h1 q; rw [klt_irr] at this; cases this }
    have hlen : (xs.map Row.val).length = xs.length := by simp
    rw [hlen]
    refine KasSpec.wp (lt := fun i j => klt (xs.getD i r0).key (xs.getD j r0).key) (n := xs.length) (fun i j C hi hj hC => ?_) _ (KasSpec.mono (fun p hp => ?_) _ (spec_sort O h2))
    · show wpAny _ _ (keyLt' (tuples' true) ((xs.map Row.val).getD i Value.none) ((xs.map Row.val).getD j Value.none)) _ _ _
      rw [getD_map xs hi, getD_map xs hj]
      have e1 : xs.getD i r0 = xs[i] := by simp [List.getD, hi]
      have e2 : xs.getD j r0 = xs[j] := by simp [List.getD, hj]
      rw [e1, e2] at hC
      exact rows_keyLt (hrow _ (List.getElem_mem hi)) (hrow _ (List.getElem_mem hj)) hC
    · obtain ⟨hpm, hup⟩ := hp
      have hsz := hpm.size
      have hplt : ∀ i ∈ p.toList, i < xs.length := fun i hi => by
        have := (Array.Perm.mem_iff hpm).mp (by simpa using hi : i ∈ p)
        simpa using this
      have eout : (p.toList.map fun i => (xs.map Row.val).getD i Value.none) = (p.toList.map fun i => xs.getD i r0).map Row.val := by
        rw [List.map_map]
        refine List.map_congr_left fun i hi => ?_
        have := hplt i hi
        simp [List.getD, this]
      rw [eout]
      refine KasFin.intro F' N' (UpdF.head fun q hq => Nat.ne_of_lt (hlt q hq)) fun h'' c F'' N'' => ?_
      have keep'' : ∀ b o, b ≠ env.locals → s.heap.get? b = some o → h''.get? b = some o := fun b o hb e => (N'' _ (.tail _ (hin b o hb e))).1
      have hD := N'' _ (.head _)
      have hDn : s.heap.get? D = none := by
        cases q : s.heap.get? D with
        | none => rfl
        | some o => exact absurd (hlt _ (hin D o hD.2.1 q)) (Nat.lt_irrefl _)
      refine h D h'' c (p.toList.map fun i => xs.getD i r0) ?_ keep'' ?_ ?_
      · exact { ns := ⟨mL, F''.ns, hmL⟩
                cell := fun x c e => let ⟨o, ho, r⟩ := S.cell x c e; ⟨o, keep'' _ _ (S.nLC x c (mem_of_lookup e)) ho, r⟩
                led := fun q hq => by
                  rcases List.mem_cons.mp hq with rfl | hq
                  · exact hD.1
                  · exact keep'' _ _ (S.free q hq).1 (S.led q hq)
                apart := by
                  refine List.nodup_cons.mpr ⟨fun hm => ?_, S.apart⟩
                  obtain ⟨q, hq, e⟩ := List.mem_map.mp hm
                  have := S.led q hq
                  rw [e, hDn] at this; cases this
                apartC := S.apartC
                free := fun q hq => by
                  rcases List.mem_cons.mp hq with rfl | hq
                  · exact ⟨hD.2.1, fun x c hx e => by
                      obtain ⟨o, ho, _⟩ := S.cell x c (S.cells1 _ _ hx)
                      rw [← e, hDn] at ho; cases ho⟩
                  · exact S.free q hq
                keep := fun b o e => keep'' _ _ (fun q => by rw [q, S.freshL] at e; cases e) (S.keep _ _ e)
                freshL := S.freshL
                freshC := S.freshC
                freshN := fun q hq => by
                  rcases List.mem_cons.mp hq with rfl | hq
                  · cases e : g.get? D with
                    | none => rfl
                    | some o => rw [S.keep _ _ e] at hDn; cases hDn
                  · exact S.freshN q hq
                nLC := S.nLC
                kinds := S.kinds
                cells1 := S.cells1 }
      · have h1 : p.toList.Perm (List.range xs.length) := by simpa using Array.perm_iff_toList_perm.mp hpm
        have h3 := h1.map fun i => xs.getD i r0
        have e : (List.range xs.length).map (fun i => xs.getD i r0) = xs := by
          refine List.ext_getElem (by simp) fun i h1 h2 => ?_
          simp [List.getD, h2]
        rw [e] at h3; exact h3
      · rw [List.pairwise_map]
        rw [List.pairwise_iff_getElem]
        intro i j hi hj hij
        have hi' : i < p.size := by simpa using hi
        have hj' : j < p.size := by simpa using hj
        have := hup i j hij (by exact om223 hsz hj')
        simpa [Array.getD, hi', hj'] using this
end
end Mine
end
-- Te168
section
open PySem PySem.W PyProof.Rows PySem.Calls
namespace Mine
section
variable {A : Around} {s : Shared}
theorem row_same {r q : Row} {h : Heap} (hr : r.In h) (hq : q.In h) (e : r.addr = q.addr) : r.key = q.key := by
  obtain ⟨t, u, o, ho, _, n, hd⟩ := hr
  obtain ⟨t', u', o', ho', _, n', hd'⟩ := hq
  rw [e, ho'] at ho; cases ho
  rw [hd] at hd'
  injection hd' with h1 h2
  simp at h1
  show (r.less, r.way) = (q.less, q.way)
  rw [h1.1.1, h1.2.1]
theorem rows_eqAt {r q : Row} (hr : r.In s.heap) (hq : q.In s.heap) (hu : A.units + 1 < cLine) : SeqAt.EqAt A s r.val q.val (decide (r.key = q.key)) := by
  by_cases e : r.addr = q.addr
  · have := row_same hr hq e
    rw [decide_eq_true this]
    show SeqAt.EqAt A s (.ref r.addr) (.ref q.addr) true
    rw [e]; exact SeqAt.EqAt.same _
  · obtain ⟨t, u, hr⟩ := hr
    obtain ⟨t', u', hq⟩ := hq
    refine SeqAt.EqAt.of_refs e ?_
    have := SeqAt.RcAt.tuples (A := A) (s := s) (e := fun j => if j = 0 then r.less == q.less else r.way == q.way) hr hq (by exact om504 hu) (fun j h1 h2 => by
      simp at h1
      rcases j with _ | _ | j
      · exact eqAt_int _ _ _ _ _ _
      · exact eqAt_str _ _ _ _ _ _
      · exact (om91 h1).elim)
    have e2 : ((List.range (min (#[Value.int r.less t, Value.str r.way u]).size (#[Value.int q.less t', Value.str q.way u']).size)).all (fun j => if j = 0 then r.less == q.less else r.way == q.way) && (#[Value.int r.less t, Value.str r.way u]).size == (#[Value.int q.less t', Value.str q.way u']).size) = decide (r.key = q.key) := by
      show (([0, 1] : List Nat).all _ && true) = _
      show ((r.less == q.less) && ((r.way == q.way) && true) && true) = _
      by_cases h1 : r.less = q.less
      · by_cases h2 : r.way = q.way
        · rw [decide_eq_true (show r.key = q.key by show (r.less, r.way) = (q.less, q.way); rw [h1, h2]), beq_iff_eq.mpr h1, beq_iff_eq.mpr h2]; rfl
        · rw [decide_eq_false (show ¬ r.key = q.key from fun q => h2 (congrArg Prod.snd q)), beq_eq_false_iff_ne.mpr h2]; simp
      · rw [decide_eq_false (show ¬ r.key = q.key from fun q => h1 (congrArg Prod.fst q)), beq_eq_false_iff_ne.mpr h1]; simp
    rw [e2] at this; exact this
open Classical in
theorem rows_notIn {prog : Program} {w : World} {E : Value → Shared → Prop} {l : Addr} {os : List Row} {x : Row} {Q : Value → Shared → Prop} (hl : s.heap.IsList l (os.map Row.val).toArray) (hr : ∀ r ∈ os, r.In s.heap) (hx : x.In s.heap) (hu : A.units + 10 < cLine)
    (h : Q (.bool (!decide (x.key ∈ os.map Row.key))) s) : wpAny (model prog w) A (compareOp .NotIn x.val (.ref l)) Q E s := by
  refine SeqAt.notIn_listAt (fun v => decide (∃ r ∈ os, r.val = v ∧ r.key = x.key)) hl (fun y hy => ?_) ?_
  · have hy' : y ∈ os.map Row.val := by simpa using hy
    obtain ⟨r, hro, rfl⟩ := List.mem_map.mp hy'
    have := rows_eqAt (A := A.in1) (hr r hro) hx (by show A.units + 1 + 1 < cLine; exact om92 hu)
    have e : decide (∃ q ∈ os, q.val = r.val ∧ q.key = x.key) = decide (r.key = x.key) := by
      refine decide_eq_decide.mpr ⟨fun ⟨q, hq, e1, e2⟩ => ?_, fun e => ⟨r, hro, rfl, e⟩⟩
      have : q.addr = r.addr := by injection e1
      rw [← e2]; exact (row_same (hr q hq) (hr r hro) this).symm
    rw [e]; exact this
  · have e : ((os.map Row.val).toArray.any fun v => decide (∃ r ∈ os, r.val = v ∧ r.key = x.key)) = decide (x.key ∈ os.map Row.key) := by
      rw [Bool.eq_iff_iff]
      simp only [List.any_toArray, List.any_eq_true, decide_eq_true_eq, List.mem_map]
      constructor
      · rintro ⟨v, _, r, hr, _, e⟩; exact ⟨r, hr, e⟩
      · rintro ⟨r, hr, e⟩; exact ⟨r.val, ⟨r, hr, rfl⟩, r, hr, rfl, e⟩
    rw [e]; exact h
end
end Mine
end
-- Isc168
section
open PySem PySem.W PyProof.Rows PySem.Calls
set_option maxRecDepth 100000
namespace Mine
theorem plain_isc_nested : plainId "issubclass.nested" = true := by decide +kernel
theorem isc_one {prog : Program} {w : World} {A : Around} {E : Value → Shared → Prop} {s : Shared} {k : Value} {dep : Int} {tk : Tok} {Q : PySem.Fin → Shared → Prop} (hk : k = .int dep tk) (hq : Q (.done (.ret (.bool true))) s) :
    wpAny (model prog w) A (Builtin.«issubclass.nested» ⟨[.type "str", .type "str", k], []⟩) Q E s := by
  subst hk
  have hm := F.isi_meta_str
  have hself := isSubtype_str_str
  repeat (any_goals (first | assumption | (rw [hm]) | (rw [hself]) | wp_step))
theorem chk_isc : checkBuiltinCall "issubclass.nested" ⟨[.type "str", .type "str", rawInt (0 + 1)], []⟩ = pure () := by kernel_rfl
theorem isc_tup (l : Addr) (n : Nat) (dd : Option Addr) (sl : Array (Option Value)) :
    Meets (Builtin.«issubclass» ⟨[.type "str", .ref l], []⟩)
      (fun _ R s => s.heap.get? l = some { cls := .type "tuple", dict := dd, data := .seq #[.type "str", .type "bytes"] n, slots := sl } ∧ R (.ok (.ret (.bool true))) s) := by
  intro prog w A R s h
  obtain ⟨hl, h⟩ := h
  refine issubclass_outer ?_
  obtain ⟨hp, g, d, tk, os⟩ := s
  have f2 := AutoSeq1.sub_tuple_tuple
  wp_walk using AutoSeq1.wpAny_loadPart' hl
  show codeAny _ _ (Code.call (Value.builtin "issubclass.nested") ⟨[.type "str", .type "str", rawInt (0 + 1)], []⟩) _ _
  refine codeAny_call_builtin plain_isc_nested F.entry_issubclass_nested ?_
  rw [chk_isc]
  refine wpAny_pure (isc_one rfl ?_)
  dsimp only
  wp_walk
  exact h
section
variable {w : World} {prog : Program} {A : Around} {E : Value → Shared → Prop} {s : Shared} {g : Heap} {env : Env} {m : Str → Option Value} {nx : List (Addr × Obj)} {i : Nat} {l : Addr}
theorem led_issub {Q : Value → Shared → Prop} (S : St g env s.heap m nx) (hi : nx[i]? = some (l, { cls := .type "tuple", data := .seq [.type "str", .type "bytes"].toArray })) (h : Q (.bool true) s) :
    wpAny (model prog w) A (call (.builtin "issubclass") [.type "str", .ref l]) Q E s :=
  call_issubclass (isc_tup l 0 none #[]) ⟨S.at hi, h⟩
end
end Mine
end
-- En168
section
open PySem PySem.W PyProof.Rows PySem.Calls
namespace Mine
theorem St.upd2 {g h h' : Heap} {env : Env} {m : Str → Option Value} {p q : Addr × Obj} {nx : List (Addr × Obj)} {o1 o2 : Obj} (S : St g env h m (p :: q :: nx)) (k : ∀ b o, b ≠ p.1 → b ≠ q.1 → h.get? b = some o → h'.get? b = some o)
    (h1 : h'.get? p.1 = some o1) (h2 : h'.get? q.1 = some o2) : St g env h' m ((p.1, o1) :: (q.1, o2) :: nx) := by
  have nd := List.nodup_cons.mp S.apart
  have nd2 := List.nodup_cons.mp nd.2
  have ne1 : ∀ r ∈ nx, r.1 ≠ p.1 := fun r hr e => nd.1 (.tail _ (List.mem_map.mpr ⟨r, hr, e⟩))
  have ne2 : ∀ r ∈ nx, r.1 ≠ q.1 := fun r hr e => nd2.1 (List.mem_map.mpr ⟨r, hr, e⟩)
  have f1 := S.free p (.head _)
  have f2 := S.free q (.tail _ (.head _))
  have n1 := S.freshN p (.head _)
  have n2 := S.freshN q (.tail _ (.head _))
  obtain ⟨mL, hn, hmL⟩ := S.ns
  exact { ns := ⟨mL, hn.at' fun o e => k _ _ (Ne.symm f1.1) (Ne.symm f2.1) e, hmL⟩
          cell := fun x c e => let ⟨o, ho, hd⟩ := S.cell x c e; ⟨o, k _ _ (Ne.symm (f1.2 x c (mem_of_lookup e))) (Ne.symm (f2.2 x c (mem_of_lookup e))) ho, hd⟩
          led := fun r hr => by
            rcases List.mem_cons.mp hr with rfl | hr
            · exact h1
            · rcases List.mem_cons.mp hr with rfl | hr
              · exact h2
              · exact k _ _ (ne1 r hr) (ne2 r hr) (S.led r (.tail _ (.tail _ hr)))
          apart := S.apart
          apartC := S.apartC
          free := fun r hr => by
            rcases List.mem_cons.mp hr with rfl | hr
            · exact f1
            · rcases List.mem_cons.mp hr with rfl | hr
              · exact f2
              · exact S.free r (.tail _ (.tail _ hr))
          keep := fun b o e => k _ _ (fun z => by rw [z, n1] at e; cases e) (fun z => by rw [z, n2] at e; cases e) (S.keep b o e)
          freshL := S.freshL
          freshC := S.freshC
          freshN := fun r hr => by
            rcases List.mem_cons.mp hr with rfl | hr
            · exact n1
            · rcases List.mem_cons.mp hr with rfl | hr
              · exact n2
              · exact S.freshN r (.tail _ (.tail _ hr))
          nLC := S.nLC
          kinds := S.kinds
          cells1 := S.cells1 }
section
variable {w : World} {prog : Program} {A : Around} {s : Shared} {g : Heap} {env : Env} {m : Str → Option Value} {nx : List (Addr × Obj)}
theorem enum_St {l : Addr} {items : Array Value} {E : Value → Shared → Prop} {Q : Value → Shared → Prop} (S : St g env s.heap m nx) (hl : s.heap.IsList l items)
    (h : ∀ e it oE oI h', St g env h' m ((e, oE) :: (it, oI) :: nx) → IsEnum h' e it 0 .none → h'.IsListIter it l 0 → Q (.ref e) { s with heap := h' }) :
    wpAny (model prog w) A (call (.type "enumerate") [.ref l]) Q E s := by
  refine call_enumerate_list hl fun h' he hi hz k => ?_
  have hlt : ∀ b o, s.heap.get? b = some o → b < s.heap.objs.size := fun b o e => Heap.lt_size e
  have hnone : ∀ b, s.heap.objs.size ≤ b → s.heap.get? b = none := fun b hb => by
    cases q : s.heap.get? b with
    | none => rfl
    | some o => exact absurd (hlt b o q) (Nat.not_lt.mpr hb)
  have gn : ∀ b, s.heap.objs.size ≤ b → g.get? b = none := fun b hb => by
    cases q : g.get? b with
    | none => rfl
    | some o => have := S.keep _ _ q; rw [hnone b hb] at this; cases this
  obtain ⟨oI, hoI, _⟩ := id hi
  obtain ⟨oE, hoE⟩ : ∃ oE, h'.get? (s.heap.objs.size + 1) = some oE := ⟨_, he⟩
  have S' := S.kept k
  have fr : ∀ b, s.heap.objs.size ≤ b → b ≠ env.locals ∧ ∀ x c, (x, c) ∈ env.cells → b ≠ c := fun b hb => ⟨Nat.ne_of_gt (Nat.lt_of_lt_of_le S.lt hb), fun x c hc => Nat.ne_of_gt (Nat.lt_of_lt_of_le (S.cell x c (S.cells1 x c hc)).lt hb)⟩
  have nin : ∀ b, s.heap.objs.size ≤ b → b ∉ nx.map (·.1) := fun b hb hm => by
    obtain ⟨p, hp, rfl⟩ := List.mem_map.mp hm
    have := S.led p hp
    rw [hnone _ hb] at this; cases this
  refine h _ _ oE oI h' ?_ he hi
  exact { S' with
    led := fun p hp => by
      rcases List.mem_cons.mp hp with rfl | hp
      · exact hoE
      · rcases List.mem_cons.mp hp with rfl | hp
        · exact hoI
        · exact S'.led p hp
    apart := by
      refine List.nodup_cons.mpr ⟨fun hm => ?_, List.nodup_cons.mpr ⟨nin _ (Nat.le_refl _), S.apart⟩⟩
      rcases List.mem_cons.mp hm with e | hm
      · exact absurd e (Nat.succ_ne_self _)
      · exact nin _ (Nat.le_succ _) hm
    free := fun p hp => by
      rcases List.mem_cons.mp hp with rfl | hp
      · exact fr _ (Nat.le_succ _)
      · rcases List.mem_cons.mp hp with rfl | hp
        · exact fr _ (Nat.le_refl _)
        · exact S.free p hp
    freshN := fun p hp => by
      rcases List.mem_cons.mp hp with rfl | hp
      · exact gn _ (Nat.le_succ _)
      · rcases List.mem_cons.mp hp with rfl | hp
        · exact gn _ (Nat.le_refl _)
        · exact S.freshN p hp }
noncomputable def EPost (s : Shared) (g : Heap) (env : Env) (e it : Addr) (oE oI : Obj) (nx : List (Addr × Obj)) (N : Nat) (J : Nat → (Str → Option Value) → Prop) (Q : Flow → Shared → Prop) (i : Nat) (f : Flow) (s₃ : Shared) : Prop :=
  match f with
  | .next => i < N ∧ ∃ h' tk m₂, s₃ = { s with heap := h', toks := tk } ∧ St g env h' m₂ ((e, oE) :: (it, oI) :: nx) ∧ J (i + 1) m₂
  | .cont => i < N ∧ ∃ h' tk m₂, s₃ = { s with heap := h', toks := tk } ∧ St g env h' m₂ ((e, oE) :: (it, oI) :: nx) ∧ J (i + 1) m₂
  | .brk => Q .next s₃
  | .ret v => Q (.ret v) s₃
/-- a walk over enumerate that breaks at its N-th turn at the latest -/
theorem for_enum {e it l : Addr} {oE oI : Obj} {items : List Value} {N : Nat} {Q : Flow → Shared → Prop} {elts : List Expr} {k : Nat} {pos : Pos} {body : List Stmt} (J : Nat → (Str → Option Value) → Prop)
    (S : St g env s.heap m ((e, oE) :: (it, oI) :: nx)) (hh : A.handled = none) (he : IsEnum s.heap e it 0 .none) (hi : s.heap.IsListIter it l 0) (hl : g.IsList l items.toArray) (hN : N < items.length) (hJ : J 0 m)
    (hn : (assignEach elts env).length = 2) (hstar : (assignEach elts env).findIdx? (·.1) = none)
    (turn : ∀ i v t m₁ h₁ tk₁ oE oI, i ≤ N → items[i]? = some v → St g env h₁ m₁ ((e, oE) :: (it, oI) :: nx) → J i m₁ →
      wpAny (model prog w) A (assignInOrder ((assignEach elts env).map (·.2)) [.int i t, v]) (fun _ s₂ => wpAny (model prog w) A (execs body env) (EPost s g env e it oE oI nx N J Q i) NoE s₂) NoE { s with heap := h₁, toks := tk₁ }) :
    codeAny (model prog w) A (.forLoop (.Tuple elts k pos) (.ref e) body [] env) (fun r s' => match r with | .ok f => Q f s' | .error x => cameBackBy (model prog w) A env NoE x s') s := by
  have hei : e ≠ it := by
    have := (List.nodup_cons.mp S.apart).1
    intro q; exact this (q ▸ .head _)
  refine forLoop_any (fun k s' => ∃ i m₁ h₁ tk₁ oE oI old, s' = { s with heap := h₁, toks := tk₁ } ∧ St g env h₁ m₁ ((e, oE) :: (it, oI) :: nx) ∧ IsEnum h₁ e it ((i : Nat) : Int) old ∧ h₁.IsListIter it l i ∧ J i m₁ ∧ i ≤ N ∧ k = N + 1 - i) ?_ (N + 1) ⟨0, m, s.heap, s.toks, oE, oI, .none, rfl, S, he, hi, hJ, Nat.zero_le _, rfl⟩
  rintro k s' ⟨i, m₁, h₁, tk₁, oE, oI, old, rfl, S₁, he₁, hi₁, hJ₁, hiN, rfl⟩
  have hv : items.toArray[i]? = some (items[i]'(by exact om90 hN hiN)) := by
    rw [List.getElem?_toArray]; exact List.getElem?_eq_getElem _
  generalize (items[i]'(by exact om90 hN hiN)) = v at hv
  have hl₁ : h₁.IsList l items.toArray := let ⟨o, ho, r⟩ := hl; ⟨o, S₁.keep _ _ ho, r⟩
  have hle : l ≠ e := fun q => by
    obtain ⟨o, ho, _⟩ := hl
    have := S₁.freshN (e, oE) (.head _)
    rw [q] at ho; rw [ho] at this; cases this
  have hli : l ≠ it := fun q => by
    obtain ⟨o, ho, _⟩ := hl
    have := S₁.freshN (it, oI) (.tail _ (.head _))
    rw [q] at ho; rw [ho] at this; cases this
  refine wpAny_pyNext_enum_item he₁ hi₁ hl₁ hv hei fun h₂ heo hi₂ hT hz hk => ?_
  dsimp only at heo hi₂ hT hz hk ⊢
  have hTe : h₁.objs.size ≠ e := Nat.ne_of_gt (Heap.lt_size he₁)
  refine wpAny_letOwnedTupleGo_enum heo fun h₃ he₃ hs₃ => ?_
  dsimp only at he₃ hs₃ ⊢
  obtain ⟨oI₂, hoI₂, r₂⟩ := id hi₂
  have hoI₃ : h₃.get? it = some oI₂ := (hs₃.2 _ (Ne.symm hei)).trans hoI₂
  obtain ⟨oE₃, hoE₃, eE₃⟩ : ∃ oE, h₃.get? e = some oE ∧ some oE = h₃.get? e := ⟨_, he₃, he₃.symm⟩
  have S₃ : St g env h₃ m₁ ((e, oE₃) :: (it, oI₂) :: nx) := S₁.upd2 (fun b o hb1 hb2 q => (hs₃.2 b hb1).trans (hk b o hb1 hb2 q)) hoE₃ hoI₃
  have hT₃ : h₃.get? h₁.objs.size = some { cls := .type "tuple", data := .seq #[.int i tk₁, v] } := (hs₃.2 _ hTe).trans hT
  refine assign_Tuple_tuple hh ⟨_, hT₃, rfl, _, rfl⟩ (by simpa using hn) hstar fun h₄ x₄ => ?_
  have k₄ : h₃.StaysIn h₄ := fun b o q => x₄ b o (Nat.ne_of_lt (Heap.lt_size q)) q
  have S₄ := S₃.kept k₄
  have he₄ := k₄ _ _ he₃
  have hI₄ := k₄ _ _ hoI₃
  have hv' : items[i]? = some v := by rw [List.getElem?_toArray] at hv; exact hv
  refine wpAny_mono (turn i v tk₁ m₁ h₄ (tk₁ + 1) _ _ hiN hv' S₄ hJ₁) (fun _ s₅ h₅ => wpAny_mono h₅ (fun f s₆ h₆ => ?_) fun _ _ q => q) fun _ _ q => q
  have on : (i < N ∧ ∃ h' tk m₂, s₆ = { s with heap := h', toks := tk } ∧ St g env h' m₂ ((e, oE₃) :: (it, oI₂) :: nx) ∧ J (i + 1) m₂) →
      ∃ m, m < N + 1 - i ∧ ∃ i m₁ h₁ tk₁ oE oI old, s₆ = { s with heap := h₁, toks := tk₁ } ∧ St g env h₁ m₁ ((e, oE) :: (it, oI) :: nx) ∧ IsEnum h₁ e it ((i : Nat) : Int) old ∧ h₁.IsListIter it l i ∧ J i m₁ ∧ i ≤ N ∧ m = N + 1 - i := by
    rintro ⟨hlt, h', tk, m₂, rfl, S₆, hJ₆⟩
    refine ⟨N + 1 - (i + 1), by exact om63 hiN, i + 1, m₂, h', tk, _, oI₂, v, rfl, S₆, ?_, ⟨oI₂, S₆.led _ (.tail _ (.head _)), r₂⟩, hJ₆, hlt, rfl⟩
    have : ((i + 1 : Nat) : Int) = (i : Int) + 1 := by push_cast; rfl
    rw [this]; exact (S₆.led _ (.head _)).trans (eE₃.trans he₃)
  cases f with
  | next => exact on h₆
  | cont => exact on h₆
  | brk => exact h₆
  | ret v => exact h₆
end
end Mine
end
-- St1
section
open PySem PySem.W PyProof.Rows PySem.Calls
namespace Mine
noncomputable def isTrueV : Value → Bool
  | .bool b => b
  | _ => false
theorem isTrueV_shape {v : Value} (h : isTrueV v = true) : v = .bool true := by
  cases v <;> simp_all [isTrueV]
noncomputable def set0 (led : Bool) : Data := .set #[] 0 (.fresh 0 0 led)
noncomputable def set1 (led : Bool) : Data := .set #[(1, .bool true)] 1 { mask := 7, place := #[1], dummies := #[], finger := 0, led, moves := 0, plain := true }
theorem layNew_true (led : Bool) : layNew (.fresh 0 0 led) #[] 1 (.bool true) = (#[(1, .bool true)], { mask := 7, place := #[1], dummies := #[], finger := 0, led, moves := 0, plain := true }, false, false) := by cases led <;> rfl
section
variable {prog : Program} {w : World} {A : Around} {E : Value → Shared → Prop} {s : Shared}
theorem hash_true {Q : Int → Shared → Prop} (h : Q 1 { s with toks := s.toks + 1 }) : wpAny (model prog w) A (pyHash (.bool true)) Q E s := by
  have hT : s.TypeIs (.bool true) "bool" := rfl
  unfold pyHash
  have hv : [Value.bool true].any Value.onHeap = false := rfl
  refine wpAny_bind ?_
  rw [cRoomFor, if_neg (by rw [hv]; exact Bool.false_ne_true)]; refine wpAny_pure ?_
  refine wpAny_bind (wpAny_specialOf hT F.slot_bool_hash.lookup ?_)
  show wpAny _ _ (if (some (Value.builtin "int.__hash__") == some Value.none) = true then _ else _) Q E s
  rw [if_neg (by rw [beq_builtin_none]; exact Bool.false_ne_true)]
  refine wpAny_bind (wpAny_specialOf hT F.slot_bool_hash.lookup ?_)
  show wpAny _ _ (callSpecialIfBoundUnlessNone? (.bool true) "__hash__" _ >>= _) Q E s
  refine wpAny_bind (wpAny_callSpecialIfBoundUnlessNone?_slot hT F.slot_bool_hash
    (wpAny_call_entry F.slot_bool_hash hT F.entry_int_hash
      (show wpAny _ _ (do ret (← mkInt 1)) _ _ s from wpAny_ret_mkInt ?_) (F.args_int_hash_1 _)))
  show wpAny _ _ (if (decide (-(2 : Int) ^ 63 ≤ 1) && decide ((1 : Int) < 2 ^ 63)) = true then _ else _) Q E _
  rw [if_pos (by decide)]
  exact wpAny_pure h
noncomputable def trueKind (prog : Program) (w : World) : KeyKind prog w Unit where
  is := fun _ => isTrueV
  hash := fun _ => 1
  inj := fun _ _ _ _ _ => rfl
  byValue := fun k v h => by rw [isTrueV_shape h]; rfl
  pyHash := fun hv h => by rw [isTrueV_shape hv]; exact hash_true h
  eqBool := fun {A E s a b u v Q} hu hv h => by
    rw [isTrueV_shape hu, isTrueV_shape hv]
    unfold eqBool
    refine wpAny_holding ?_
    show wpAny _ _ (if (Value.bool true == Value.bool true) = true then _ else _) Q E s
    rw [if_pos (by decide)]
    exact wpAny_bind (wpAny_rule (wpAny_pure (by simpa using h)))
  «strs» := fun k x t v h => by simp [isTrueV] at h
theorem newSet_led {Q : Value → Shared → Prop} (h : Q (.ref s.heap.objs.size) { s with heap := s.heap.push { cls := .type "set", dict := none, data := set0 (!w.params.followText "set-order") } }) : wpAny (model prog w) A (newSet (.type "set")) Q E s := by
  unfold newSet setsByText
  refine wpAny_bind (wpAny_bind (wpAny_askSetting (wpAny_pure ?_)))
  exact wpAny_newObj_type h
theorem add_true {a : Addr} {o : Obj} {led : Bool} {D : Data} {Q : Value → Shared → Prop} (ho : s.heap.get? a = some o) (hx : o.ExactSet) (hD : o.data = D) (hc : D = set0 led ∨ D = set1 led)
    (h : ∀ h' o', Heap.SameBut a s.heap h' → h'.get? a = some o' → o'.ExactSet → o'.data = set1 led → Q .none { s with heap := h', toks := s.toks + 1 }) :
    wpAny (model prog w) A (call (.builtin "set.add") [.ref a, .bool true]) Q E s := by
  have hT : s.TypeIs (.ref a) "set" := ⟨o, ho, hx.1⟩
  refine wpAny_call_entry F.slot_set_add hT F.entry_set_add ?_ (F.args_set_add_2 _ _)
  unfold Builtin.«set.add» Builtin.Frozenset.oneOther
  simp only [List.isEmpty_nil, bind_assoc]
  unfold Builtin.Frozenset.addrOf setAdd
  refine wpAny_bind (wpAny_pure ?_)
  try dsimp only
  refine wpAny_bind (wpAny_pure ?_)
  try dsimp only
  refine wpAny_bind ?_
  refine wpAny_holding ?_
  refine wpAny_bind (hash_true ?_)
  unfold setAddHashed setAddHashedIn
  rcases hc with rfl | rfl
  · refine wpAny_holding (wpAny_bind (wpAny_setState_of (s := { s with toks := s.toks + 1 }) ho hD rfl ?_))
    dsimp only
    rw [show byScan (.bool true) (#[] : Array (Int × Value)) = true from by simp [byScan, scanBound, Value.scannable]]
    simp only [↓reduceIte]
    unfold setAddByScan
    refine wpAny_bind (wpAny_bind (wpAny_rule (wpAny_bind (wpAny_setScan_of (knd := trueKind prog w) (k := ()) rfl (s := { s with toks := s.toks + 1 }) ho hD rfl (fun e he => by simp at he) ?_))))
    dsimp only [List.findIdx?_nil]
    rw [layNew_true]
    dsimp only
    refine wpAny_bind (wpAny_pure ?_)
    rw [if_pos rfl, hashByValue_scannable 8 rfl]
    refine wpAny_bind (wpAny_pure ?_)
    rw [if_pos (show plainKind (.bool true) = true from rfl)]
    refine wpAny_bind (wpAny_storeSet_of (s := { s with toks := s.toks + 1 }) ho hD ?_ (by size_fits))
    rw [if_neg (by cases led <;> decide)]
    refine wpAny_pure ?_
    dsimp only
    refine wpAny_pure ?_
    have hg : (s.heap.update a (Obj.putSet #[(1, .bool true)] { mask := 7, place := #[1], dummies := #[], finger := 0, led, moves := 0, plain := true })).get? a = some { o with data := set1 led } := by
      have := Heap.get?_update_self (Obj.putSet #[(1, .bool true)] { mask := 7, place := #[1], dummies := #[], finger := 0, led, moves := 0, plain := true }) ho (by rw [putSet_of _ _ hD]; rfl)
      rw [putSet_of _ _ hD] at this; exact this
    exact wpAny_pure ⟨_, rfl, h _ _ (Heap.SameBut.update s.heap a _) hg hx rfl⟩
  · refine wpAny_holding (wpAny_bind (wpAny_setState_of (s := { s with toks := s.toks + 1 }) ho hD rfl ?_))
    dsimp only
    rw [show byScan (.bool true) (#[(1, .bool true)] : Array (Int × Value)) = true from by simp [byScan, scanBound, Value.scannable]]
    simp only [↓reduceIte]
    unfold setAddByScan
    refine wpAny_bind (wpAny_bind (wpAny_rule (wpAny_bind (wpAny_setScan_of (knd := trueKind prog w) (k := ()) rfl (s := { s with toks := s.toks + 1 }) ho hD rfl (fun e he => by simp at he; subst he; exact ⟨⟨(), rfl, rfl⟩, rfl⟩) ?_))))
    have hf : List.findIdx? (fun e : Int × Value => (trueKind prog w).is () e.2) (#[(1, .bool true)] : Array (Int × Value)).toList = some 0 := rfl
    rw [hf]
    dsimp only
    refine wpAny_pure (wpAny_pure ?_)
    exact wpAny_pure ⟨_, rfl, h s.heap o (Heap.SameBut.refl a s.heap) ho hx hD⟩
end
/-- a set's iterator: slot, count drawn -/
noncomputable def IsSetIter (h : Heap) (it a : Addr) (slot i : Nat) : Prop := ∃ o, h.get? it = some o ∧ o.cls = .type "set_iterator" ∧ o.data = .fields #[.int slot 0, .int i 0, .ref a, .int 1 0, .int 1 0]
theorem slot_setiter_next : Slot "set_iterator" "__next__" "set_iterator.__next__" :=
  .of (owner := "set_iterator") (n := "__next__") (by rw [typeLookup_type, builtinLookup_eq_fast]; kernel_rfl) (by decide +kernel) (by decide +kernel) (by decide +kernel)
    (by first | exact .inl (by decide +kernel) | exact .inr (by decide +kernel)) (by rw [isSubtype_type]; kernel_rfl)
theorem entry_setiter_next : entryFor table "set_iterator.__next__" = some Builtin.«set_iterator.__next__» := entryFor_of_tree (by kernel_rfl)
theorem entry_set_iter : entryFor table "set.__iter__" = some Builtin.«frozenset.__iter__» :=
  entryFor_alias (id' := "frozenset.__iter__") (by kernel_rfl) rfl (by decide +kernel) (by kernel_rfl)
theorem args_setiter_next (a : Value) : argsOk "set_iterator.__next__" ⟨[a], []⟩ := by unfold argsOk; kernel_rfl
end Mine
end
-- St2
section
open PySem PySem.W PyProof.Rows PySem.Calls
namespace Mine
section
variable {prog : Program} {w : World} {A : Around} {E : Value → Shared → Prop} {s : Shared}
theorem IsSetIter.typeIs {it a : Addr} {slot i : Nat} (x : IsSetIter s.heap it a slot i) : s.TypeIs (.ref it) "set_iterator" := let ⟨o, ho, hc, _⟩ := x; ⟨o, ho, hc⟩
theorem iter_set1 {a : Addr} {o : Obj} {led : Bool} {Q : Value → Shared → Prop} (ho : s.heap.get? a = some o) (hx : o.ExactSet) (hD : o.data = set1 led)
    (h : Q (.ref s.heap.objs.size) { s with heap := s.heap.push { cls := .type "set_iterator", data := .fields #[.int 0 0, .int 0 0, .ref a, .int 1 0, .int 1 0] } }) :
    wpAny (model prog w) A (pyIter (.ref a)) Q E s := by
  have hT : s.TypeIs (.ref a) "set" := ⟨o, ho, hx.1⟩
  refine wpAny_pyIter_slot hT F.slot_set_iter (wpAny_call_entry F.slot_set_iter hT entry_set_iter ?_ (F.args_set_iter_1 _))
  unfold Builtin.«frozenset.__iter__» Builtin.Frozenset.slot0 slotArgs
  simp only [List.isEmpty_nil, Bool.not_true, Bool.false_eq_true, ↓reduceIte, bind_assoc, List.length_nil, bne_self_eq_false]
  unfold Builtin.Frozenset.addrOf Builtin.Frozenset.sizeOf setEntries setDrawn setsByText setEpoch
  refine wpAny_bind (wpAny_pure ?_)
  try dsimp only
  refine wpAny_bind (wpAny_pure ?_)
  refine wpAny_bind (wpAny_bind (wpAny_bind (wpAny_setState_of ho hD rfl (wpAny_pure (wpAny_pure ?_)))))
  refine wpAny_bind (wpAny_bind (wpAny_setState_of ho hD rfl (wpAny_bind (wpAny_bind (wpAny_askSetting (wpAny_pure (wpAny_pure ?_)))))))
  rw [if_neg (by intro q; rw [Bool.and_eq_true] at q; exact Bool.false_ne_true q.2)]
  refine wpAny_bind (wpAny_pure (wpAny_bind (wpAny_bind (wpAny_setState_of ho hD rfl (wpAny_pure ?_)))))
  refine wpAny_bind (wpAny_newObj_type (wpAny_pure ⟨_, rfl, "set_iterator", _, ⟨_, Heap.get?_push_size _ rfl, rfl⟩, slot_setiter_next.lookup, ?_⟩))
  exact h
theorem pick1 {α : Type} (f : Nat → Nat) (x : α) : pickOrder f #[x] = #[x] := by
  show pickOrder.go f 1 0 [x] #[] = _
  unfold pickOrder.go
  have : f 0 % [x].length = 0 := by simp [Nat.mod_one]
  rw [this]; rfl
/-- the place in the set's table, by which of two ways it is walked -/
noncomputable def slotS (led : Bool) : Nat := if led then 2 else 0
theorem setNext_one {a : Addr} {o : Obj} {Q : Option (Value × Nat) → Shared → Prop} (ho : s.heap.get? a = some o) (hD : o.data = set1 (!w.params.followText "set-order"))
    (h : Q (some (.bool true, slotS (!w.params.followText "set-order"))) s) : wpAny (model prog w) A (setNext a 0 0 1) Q E s := by
  unfold setNext setsByText
  refine wpAny_bind (wpAny_setState_of ho hD rfl ?_)
  dsimp only
  refine wpAny_bind (wpAny_bind (wpAny_askSetting (wpAny_pure ?_)))
  show wpAny _ _ (if w.params.followText "set-order" = true then _ else _) _ _ _
  cases hb : w.params.followText "set-order" with
  | true =>
    rw [if_pos rfl]
    rw [hb] at hD h
    simp only [bne_self_eq_false, Bool.false_eq_true, if_false]
    refine wpAny_bind ?_
    unfold setWalk setsByText
    refine wpAny_bind (wpAny_setState_of ho hD rfl ?_)
    dsimp only
    refine wpAny_bind (wpAny_bind (wpAny_askSetting (wpAny_pure ?_)))
    show wpAny _ _ (if w.params.followText "set-order" = true then _ else _) _ _ _
    rw [hb, if_pos rfl]
    refine wpAny_bind (wpAny_askSetting (wpAny_pure ?_))
    rw [pick1]
    exact wpAny_pure h
  | false =>
    rw [if_neg Bool.false_ne_true]
    rw [hb] at hD h
    rw [if_neg (by exact Bool.false_ne_true)]
    refine wpAny_bind ?_
    refine wpAny_pure ?_
    exact wpAny_pure h
theorem setNext_end {a : Addr} {o : Obj} {Q : Option (Value × Nat) → Shared → Prop} (ho : s.heap.get? a = some o) (hD : o.data = set1 (!w.params.followText "set-order"))
    (h : Q none s) : wpAny (model prog w) A (setNext a (slotS (!w.params.followText "set-order")) 1 1) Q E s := by
  unfold setNext setsByText
  refine wpAny_bind (wpAny_setState_of ho hD rfl ?_)
  dsimp only
  refine wpAny_bind (wpAny_bind (wpAny_askSetting (wpAny_pure ?_)))
  show wpAny _ _ (if w.params.followText "set-order" = true then _ else _) _ _ _
  cases hb : w.params.followText "set-order" with
  | true =>
    rw [if_pos rfl]
    rw [hb] at hD
    simp only [bne_self_eq_false, Bool.false_eq_true, if_false]
    refine wpAny_bind ?_
    unfold setWalk setsByText
    refine wpAny_bind (wpAny_setState_of ho hD rfl ?_)
    dsimp only
    refine wpAny_bind (wpAny_bind (wpAny_askSetting (wpAny_pure ?_)))
    show wpAny _ _ (if w.params.followText "set-order" = true then _ else _) _ _ _
    rw [hb, if_pos rfl]
    refine wpAny_bind (wpAny_askSetting (wpAny_pure ?_))
    rw [pick1]
    exact wpAny_pure h
  | false =>
    rw [if_neg Bool.false_ne_true]
    rw [hb] at hD
    rw [if_neg (by exact Bool.false_ne_true)]
    refine wpAny_bind ?_
    refine wpAny_pure ?_
    exact wpAny_pure h
theorem next_set1 {it a : Addr} {o : Obj} {Q : Option Value → Shared → Prop} (hit : IsSetIter s.heap it a 0 0) (ho : s.heap.get? a = some o) (hD : o.data = set1 (!w.params.followText "set-order"))
    (hQ : ∀ h', IsSetIter h' it a (slotS (!w.params.followText "set-order")) 1 → Heap.SameBut it s.heap h' → Q (some (.bool true)) { s with heap := h' }) : wpAny (model prog w) A (pyNext (.ref it)) Q E s := by
  obtain ⟨oi, hoi, hc, hd⟩ := id hit
  unfold pyNext
  refine wpAny_bind (wpAny_attempt (wpAny_callSpecial?_slot (name := Str.ofString "__next__") hit.typeIs slot_setiter_next
    (wpAny_call_entry slot_setiter_next hit.typeIs entry_setiter_next ?_ (args_setiter_next _))))
  unfold Builtin.«set_iterator.__next__» slotArgs
  simp only [List.isEmpty_nil, Bool.not_true, Bool.false_eq_true, ↓reduceIte, bind_assoc, List.length_nil, bne_self_eq_false]
  refine wpAny_bind (wpAny_pure ?_)
  refine wpAny_bind (wpAny_fieldsOf hoi hd ?_)
  dsimp only
  unfold setEntries
  refine wpAny_bind (wpAny_bind (wpAny_setState_of ho hD rfl (wpAny_pure ?_)))
  rw [if_neg (by exact Bool.false_ne_true)]
  refine wpAny_bind (setNext_one ho hD ?_)
  dsimp only
  refine wpAny_bind (wpAny_setField hoi hd (by simp) ?_)
  have hg1 := Heap.get?_update_self (Obj.mapFields (·.setIfInBounds 0 (rawInt (slotS (!w.params.followText "set-order"))))) hoi (Obj.isFreed_of_fields (Obj.data_mapFields hd _))
  have hd1 := Obj.data_mapFields hd (·.setIfInBounds 0 (rawInt (slotS (!w.params.followText "set-order"))))
  refine wpAny_bind (wpAny_setField hg1 hd1 (by simp) (wpAny_pure ⟨_, rfl, wpAny_pure (hQ _ ?_ ((Heap.SameBut.update ..).trans (Heap.SameBut.update ..)))⟩))
  exact ⟨_, Heap.get?_update_self _ hg1 (Obj.isFreed_of_fields (Obj.data_mapFields hd1 _)), (Obj.cls_mapFields ..).trans ((Obj.cls_mapFields ..).trans hc), by rw [Obj.data_mapFields hd1]; simp [rawInt]⟩
theorem next_set1_end {it a : Addr} {o : Obj} {Q : Option Value → Shared → Prop} (hh : A.handled = none) (hit : IsSetIter s.heap it a (slotS (!w.params.followText "set-order")) 1) (ho : s.heap.get? a = some o) (hD : o.data = set1 (!w.params.followText "set-order"))
    (hQ : ∀ h', Heap.ExtBut it s.heap h' → Q none { s with heap := h' }) : wpAny (model prog w) A (pyNext (.ref it)) Q E s := by
  obtain ⟨oi, hoi, hc, hd⟩ := id hit
  unfold pyNext
  refine wpAny_bind (wpAny_attempt (wpAny_callSpecial?_slot (name := Str.ofString "__next__") hit.typeIs slot_setiter_next
    (wpAny_call_entry slot_setiter_next hit.typeIs entry_setiter_next ?_ (args_setiter_next _))))
  unfold Builtin.«set_iterator.__next__» slotArgs
  simp only [List.isEmpty_nil, Bool.not_true, Bool.false_eq_true, ↓reduceIte, bind_assoc, List.length_nil, bne_self_eq_false]
  refine wpAny_bind (wpAny_pure ?_)
  refine wpAny_bind (wpAny_fieldsOf hoi hd ?_)
  dsimp only
  unfold setEntries
  refine wpAny_bind (wpAny_bind (wpAny_setState_of ho hD rfl (wpAny_pure ?_)))
  rw [if_neg (by exact Bool.false_ne_true)]
  refine wpAny_bind (setNext_end (s := s) ho hD ?_)
  dsimp only
  refine wpAny_bind (wpAny_setField hoi hd (by simp) ?_)
  show wpAny _ _ (newExc (.type "StopIteration") [] >>= _) _ _ _
  refine wpAny_bind ?_
  simp only [newExc, newTuple]
  refine wpAny_bind (wpAny_newObj_type ?_ (by size_fits))
  refine wpAny_bind (m := firstArgMember _ _) (wpAny_of_eq (a := Value.none) (by first | rfl | (simp only [firstArgMember]; rfl)) ?_)
  refine wpAny_newObj_type ?_ (by size_fits)
  simp only [raiseNew]
  refine wpAny_bind (wpAny_handled ?_)
  first | rw [show A.in1.handled = none from hh] | rw [hh]
  refine wpAny_bind (wpAny_pure (wpAny_throw ?_))
  refine wpAny_bind (wpAny_isInstance (T := "StopIteration") (b := true) ⟨_, Heap.get?_push_size _ rfl, rfl⟩ isSubtype_stop ?_)
  exact wpAny_pure (hQ _ (((Heap.SameBut.update ..).extBut.push _).push _))
theorem un_set1 {a : Addr} {o : Obj} {Q : List Value → Shared → Prop} (hh : A.handled = none) (ho : s.heap.get? a = some o) (hx : o.ExactSet) (hD : o.data = set1 (!w.params.followText "set-order"))
    (hQ : ∀ h', Heap.ExtBut s.heap.objs.size s.heap h' → Q [.bool true] { s with heap := h' }) : wpAny (model prog w) A (unpackItems (.ref a) 1 none) Q E s := by
  have hT : s.TypeIs (.ref a) "set" := ⟨o, ho, hx.1⟩
  have hlt : a ≠ s.heap.objs.size := Nat.ne_of_lt (Heap.lt_size ho)
  unfold unpackItems
  refine wpAny_bind ?_
  unfold notIterableAtAll
  refine wpAny_bind (wpAny_specialOf hT F.slot_set_iter.lookup ?_)
  refine wpAny_pure ?_
  simp only [Bool.false_eq_true, if_false]
  refine wpAny_bind (wpAny_holding (iter_set1 ho hx hD ?_))
  have ho1 : (s.heap.push { cls := .type "set_iterator", data := .fields #[.int 0 0, .int 0 0, .ref a, .int 1 0, .int 1 0] }).get? a = some o := Heap.get?_push_of_some _ ho
  refine wpAny_bind (wpAny_holding ?_)
  show wpAny _ _ (pyNext (.ref s.heap.objs.size) >>= _) _ _ _
  refine wpAny_bind (next_set1 (a := a) (o := o) ⟨_, Heap.get?_push_size _ rfl, rfl, rfl⟩ ho1 hD fun h₁ hit₁ hs₁ => ?_)
  refine wpAny_bind (wpAny_holding ?_)
  show wpAny _ _ (pure []) _ _ _
  refine wpAny_pure (wpAny_pure ?_)
  simp only [List.length_cons, List.length_nil, Nat.zero_add, Nat.lt_irrefl, if_false]
  have ho2 : h₁.get? a = some o := hs₁.extBut a o hlt ho1
  refine wpAny_bind (wpAny_holding (next_set1_end hh hit₁ ho2 hD fun h₂ he₂ => ?_))
  simp only [Option.isSome_none, Bool.false_eq_true, if_false]
  refine wpAny_pure (hQ h₂ fun b o' hb e => he₂ b o' hb (hs₁.extBut b o' hb (Heap.get?_push_of_some _ e)))
end
end Mine
end
-- Sc168
section
open PySem PySem.W PyProof.Rows PySem.Calls
namespace Mine
/-- the set as the comprehension has it: empty, or of True -/
noncomputable def setO (w : World) (b : Bool) : Obj := { cls := .type "set", dict := none, data := if b then set1 (!w.params.followText "set-order") else set0 (!w.params.followText "set-order") }
section
variable {w : World} {prog : Program} {A : Around} {E : Value → Shared → Prop} {s s₂ : Shared} {R : Result → Shared → Prop} {env : Env} {g : Heap} {m : Str → Option Value} {nx : List (Addr × Obj)}
theorem newSet_O {Q : Value → Shared → Prop} (h : Q (.ref s.heap.objs.size) { s with heap := s.heap.push (setO w false) }) : wpAny (model prog w) A (newSet (.type "set")) Q E s := newSet_led h
theorem setTurn (elt target iter : Expr) (scope : Scope) (pos : Pos) (it acc : Value) (env : Env) :
    compTurn (.SetComp elt [⟨target, iter, [], 0⟩] scope pos) 0 it acc env = (standAt iter.pos >>= fun _ => pyNext it >>= fun r => match r with
      | none => pure (.done .next)
      | some v => letOwnedTupleGo target it v >>= fun _ => assign target env v >>= fun _ =>
        (eval elt env >>= fun x => standAt elt.pos >>= fun _ => call (.builtin "set.add") [acc, x] >>= fun _ => pure ()) >>= fun _ =>
          again (.compLoop (.SetComp elt [⟨target, iter, [], 0⟩] scope pos) 0 it acc env)) := by rfl
theorem setLoop_any {elt target iter : Expr} {scope : Scope} {pos : Pos} {it acc : Value} {env : Env} (I : Nat → Shared → Prop)
    (turn : ∀ n s, I n s → wpAny (model prog w) A (pyNext it) (fun r s₁ => match r with
      | none => R (.ok .next) s₁
      | some v => wpAny (model prog w) A (letOwnedTupleGo target it v) (fun _ s₁ => wpAny (model prog w) A (assign target env v) (fun _ s₂ =>
          wpAny (model prog w) A (eval elt env) (fun x s₄ => wpAny (model prog w) A (call (.builtin "set.add") [acc, x]) (fun _ s₅ => ∃ m, m < n ∧ I m s₅) NoE s₄) NoE s₂) NoE s₁) NoE s₁) NoE s)
    (n : Nat) (h : I n s) : codeAny (model prog w) A (.compLoop (.SetComp elt [⟨target, iter, [], 0⟩] scope pos) 0 it acc env) R s := by
  refine codeAny_loop rfl I (fun n s hI => ?_) n h
  show wpAny _ A ((compTurn (.SetComp elt [⟨target, iter, [], 0⟩] scope pos) 0 it acc env).onRaise (fun x => do noteFrame x env; theTreesLotGoes x)) _ _ s
  refine wpAny_noted ?_
  rw [setTurn]
  refine wpAny_bind (wpAny_standAt (wpAny_bind (wpAny_mono (turn n s hI) (fun r s₁ h₁ => ?_) fun _ _ h' => h'.elim)))
  cases r with
  | none => exact wpAny_pure h₁
  | some v =>
    refine wpAny_bind (wpAny_mono h₁ (fun _ s₁ h₁ => ?_) fun _ _ h' => h'.elim)
    refine wpAny_bind (wpAny_mono h₁ (fun _ s₂ h₂ => ?_) fun _ _ h' => h'.elim)
    exact wpAny_bind (wpAny_bind (wpAny_mono h₂ (fun x s₄ h₄ => wpAny_bind (wpAny_standAt (wpAny_bind (wpAny_mono h₄ (fun _ s₅ h₅ => wpAny_pure (wpAny_pure ⟨rfl, h₅⟩)) fun _ _ h' => h'.elim)))) fun _ _ h' => h'.elim))
theorem codeAny_compStart_set {elt target iter : Expr} {scope : Scope} {pos : Pos} {it acc : Value} {env : Env}
    (h0 : codeAny (model prog w) A (.compLoop (.SetComp elt [⟨target, iter, [], 0⟩] scope pos) 0 it acc env) R s)
    (h : wpAny (model prog w) A (pyIter it) (fun it' s' => codeAny (model prog w) A (.compLoop (.SetComp elt [⟨target, iter, [], 0⟩] scope pos) 0 it' acc env) R s')
      (notedBy (model prog w) A env fun x s' => R (.error x) s') s) :
    codeAny (model prog w) A (.compStart (.SetComp elt [⟨target, iter, [], 0⟩] scope pos) 0 it acc env) R s := by
  refine codeAny_of_tree ?_
  show wpAny _ _ ((compStart (.SetComp elt [⟨target, iter, [], 0⟩] scope pos) 0 it acc env).onRaise (fun x => do noteFrame x env; standAt theWindowsPlace)) _ _ s
  refine wpAny_notedAt ?_
  unfold compStart
  show wpAny _ _ (ask >>= _) _ _ s
  refine wpAny_bind (wpAny_askSetting (wpAny_ite ?_))
  split
  · first
      | exact wpAny_bind (wpAny_pure (wpAny_pure (And.intro rfl h0)))
      | exact wpAny_pure (And.intro rfl h0)
  · first
      | exact wpAny_bind (wpAny_rule (wpAny_bind (wpAny_standAt (wpAny_bind (wpAny_mono h (fun it' s' h' => wpAny_pure (And.intro rfl h')) fun _ _ x => x)))))
      | (refine wpAny_bind (wpAny_rule ?_); show wpAny _ _ (standAt iter.pos >>= _) _ _ s; exact wpAny_bind (wpAny_standAt (wpAny_bind (wpAny_mono h (fun it' s' h' => wpAny_pure (And.intro rfl h')) fun _ _ x => x))))
theorem set_run {elt target iter : Expr} {scope : Scope} {cl : List (Str × Addr)} {pos : Pos} {I : Addr} {oI : Obj} {n : Nat} {P : Nat → Value → Prop} {RR : Value → Addr → Result → Shared → Prop}
    (J : Nat → List Value → Heap → Prop) (ps : List (Str × Value)) (hcell : ∀ y ∈ scope.names, y.2 ≠ .cell) (hkind : scope.kind = .function)
    (hcl : cl.map (fun p => env.cells.lookup p.1) = cl.map (fun p => some p.2)) (hnd : (cl.map (·.1)).Nodup) (hkd : (cl.all fun p => (relabel scope env).names.lookup p.1 != some .local) = true)
    (hps : (ps.all fun p => !((relabel scope env).names.lookup p.1 == some .local)) = true) (hcov : (cl.all fun p => (ps.map (·.1)).contains p.1) = true)
    (S₂ : St g env s₂.heap m ((I, oI) :: nx)) (W : ItOk prog w A g s₂.heap I n P) (hn : n ≤ 100000) (he : HasAll m ps) (hJ : J 0 [] g)
    (turn : ∀ i v m₁ g₁ h₁ tk₁ oI C tl, i < n → P i v → g.StaysIn g₁ → PlainIt oI → HasAll m₁ ps → J i [] g₁ → St g₁ (compEnvC scope cl C env) h₁ m₁ ((I, oI) :: tl) →
      wpAny (model prog w) A (letOwnedTupleGo target (.ref I) v) (fun _ s₁ => wpAny (model prog w) A (assign target (compEnvC scope cl C env) v) (fun _ s₃ =>
        wpAny (model prog w) A (eval elt (compEnvC scope cl C env)) (fun y s₄ => y = .bool true ∧ CNext s₂ g (compEnvC scope cl C env) I oI tl ps J i [] s₄) NoE s₃) NoE s₁) NoE { s₂ with heap := h₁, toks := tk₁ })
    (done : ∀ D C oC mC g₁ h₁ tk₁, g.StaysIn g₁ → h₁.Ns C mC → St g₁ env h₁ m ((C, oC) :: (D, setO w (decide (0 < n))) :: nx) → J n [] g₁ → RR (.ref D) C (.ok .next) { s₂ with heap := h₁, toks := tk₁ }) :
    wpAny (model prog w) A (newSet (.type "set")) (fun acc s₃ => wpAny (model prog w) A (newFunctionEnv scope env.globals cl [] env.qual none .none (some env)) (fun cenv s₄ =>
      codeAny (model prog w) A (.compStart (.SetComp elt [⟨target, iter, [], 0⟩] scope pos) 0 (.ref I) acc { cenv with scope := relabel scope env }) (RR acc cenv.locals) s₄) E s₃) E s₂ := by
  obtain ⟨fp, Wt, W, hlive, hfp, hst⟩ := W.ex
  refine newSet_O (wpAny_newFunctionEnv hcell (by intro y hy; simp at hy) (fun h₁ hns₁ hsb₁ => ?_) hkind)
  dsimp only at hns₁ hsb₁ ⊢
  have SD := S₂.push (setO w false) rfl
  generalize hH2 : s₂.heap.push (setO w false) = H2 at hns₁ hsb₁ SD ⊢
  generalize hD : s₂.heap.objs.size = D at SD ⊢
  have hC : H2.get? H2.objs.size = none := by cases q : H2.get? H2.objs.size with | none => rfl | some o => exact absurd (Heap.lt_size q) (Nat.lt_irrefl _)
  generalize H2.objs.size = C at hns₁ hsb₁ hC ⊢
  have k1 : H2.StaysIn h₁ := fun b o e => hsb₁.extBut b o (fun q => by rw [q, hC] at e; cases e) (Heap.get?_push_of_some _ e)
  have k0 : s₂.heap.StaysIn H2 := fun b o e => hH2 ▸ Heap.get?_push_of_some _ e
  have SD' : St g env H2 m ((I, oI) :: (D, setO w false) :: nx) := SD.mem (fun p hp => by
    rcases List.mem_cons.mp hp with rfl | hp
    · exact .tail _ (.head _)
    · rcases List.mem_cons.mp hp with rfl | hp
      · exact .head _
      · exact .tail _ (.tail _ hp)) (by
    have := SD.apart
    simp only [List.map_cons, List.nodup_cons, List.mem_cons, not_or] at this ⊢
    exact ⟨⟨Ne.symm this.1.1, this.2.1⟩, this.1.2, this.2.2⟩)
  obtain ⟨frz, m₁, he₁, S₁, back⟩ := SD'.openC (C := C) (scope := scope) (ps := ps) hcl hnd hkd hps hcov he k1 hC hns₁
  have hst₁ : Wt 0 h₁ := W.frame _ _ _ hst fun b _ o e => k1 _ _ (k0 _ _ e)
  have loop : ∀ s₃ : Shared, s₃ = { s₂ with heap := h₁, toks := s₂.toks + ([] : List (Str × Value)).length } →
      codeAny (model prog w) A (.compLoop (.SetComp elt [⟨target, iter, [], 0⟩] scope pos) 0 (.ref I) (.ref D) (compEnvC scope cl C env)) (RR (.ref D) C) s₃ := by
    rintro s₃ rfl
    refine setLoop_any (fun k s' => ∃ i m₁ g₁ h₁ tk₁ oI, s' = { s₂ with heap := h₁, toks := tk₁ } ∧ g.StaysIn g₁ ∧ HasAll m₁ ps ∧ St g₁ (compEnvC scope cl C env) h₁ m₁ ((I, oI) :: (D, setO w (decide (0 < i))) :: (nx ++ frz)) ∧ Wt i h₁ ∧ J i [] g₁ ∧ i ≤ n ∧ k = n + 1 - i)
      ?_ (n + 1) ⟨0, m₁, g, h₁, _, oI, rfl, fun _ _ e => e, he₁, S₁, hst₁, hJ, Nat.zero_le _, rfl⟩
    rintro k s' ⟨i, m₁, g₁, h₁, tk₁, oI, rfl, k₁, he₁, S₁, hst₁, hJ₁, hi, rfl⟩
    by_cases hlt : i < n
    · refine W.item i _ _ _ hlt hst₁ fun v h₂ tk₂ hP hst₂ hk₂ => ?_
      obtain ⟨o₂, ho₂, hpl⟩ := hlive _ _ hst₂
      have S₂ : St g₁ (compEnvC scope cl C env) h₂ m₁ ((I, o₂) :: (D, setO w (decide (0 < i))) :: (nx ++ frz)) := S₁.upd (i := 0) rfl (fun b x hb e => hk₂ b x (by simpa using hb) e) ho₂
      have ons : ∀ s₅, CNext s₂ g (compEnvC scope cl C env) I o₂ ((D, setO w (decide (0 < i))) :: (nx ++ frz)) ps J i [] s₅ → ∃ h' tk m₂ g₃, s₅ = { s₂ with heap := h', toks := tk } ∧ g.StaysIn g₃ ∧ HasAll m₂ ps ∧ St g₃ (compEnvC scope cl C env) h' m₂ ((I, o₂) :: (D, setO w (decide (0 < i))) :: (nx ++ frz)) ∧ Wt (i + 1) h' ∧ J (i + 1) [] g₃ := by
        rintro s₅ ⟨h', tk, m₂, g₂, extra, rfl, k₂, he₂, S₃, hJ₂⟩
        have S₃' : St g₂ (compEnvC scope cl C env) h' m₂ (((I, o₂) :: (D, setO w (decide (0 < i))) :: (nx ++ frz)) ++ extra) := S₃
        obtain ⟨g₃, kg, S₄, hex, _⟩ := S₃'.rebase
        refine ⟨h', tk, m₂, g₃, rfl, fun b o e => kg _ _ (k₂ _ _ e), he₂, S₄, ?_, hJ₂ g₃ kg hex⟩
        refine W.frame _ _ _ hst₂ fun b hb o e => ?_
        rcases hfp b hb with rfl | ⟨o', ho'⟩
        · have := S₄.at (i := 0) rfl
          rw [ho₂] at e; cases e; exact this
        · have h1 := S₂.keep _ _ (k₁ _ _ ho')
          rw [h1] at e; cases e
          exact S₃.keep _ _ (k₂ _ _ ho')
      refine wpAny_mono (turn i v m₁ g₁ h₂ tk₂ o₂ C _ hlt hP k₁ hpl he₁ hJ₁ S₂) (fun _ s₃ h₃ => wpAny_mono h₃ (fun _ s₄ h₄ => wpAny_mono h₄ (fun y s₆ h₆ => ?_) fun _ _ e => e) fun _ _ e => e) fun _ _ e => e
      obtain ⟨rfl, h₆⟩ := h₆
      obtain ⟨h', tk, m₂, g₃, rfl, kg, he₂, S₄, hW, hJ₂⟩ := ons _ h₆
      have hc : (setO w (decide (0 < i))).data = set0 (!w.params.followText "set-order") ∨ (setO w (decide (0 < i))).data = set1 (!w.params.followText "set-order") := by
        cases decide (0 < i)
        · exact .inl rfl
        · exact .inr rfl
      refine add_true (S₄.at (i := 1) rfl) ⟨rfl, rfl, rfl⟩ rfl hc fun h₇ o' hsb ho' hx' hd' => ?_
      have eo : o' = setO w (decide (0 < i + 1)) := by
        rw [decide_eq_true (Nat.succ_pos i)]
        obtain ⟨c, d, dt, sl⟩ := o'
        obtain ⟨e1, e2, e3⟩ := hx'
        dsimp only at e1 e2 e3 hd'
        subst e1; subst e2; subst e3; subst hd'; rfl
      subst eo
      have S₇ := S₄.upd (i := 1) rfl (fun b x hb e => hsb.extBut b x hb e) ho'
      refine ⟨n + 1 - (i + 1), by exact om63 hi, i + 1, m₂, g₃, h₇, _, o₂, rfl, kg, he₂, S₇, ?_, hJ₂, hlt, rfl⟩
      refine W.frame _ _ _ hW fun b hb o e => ?_
      rcases hfp b hb with rfl | ⟨o', ho'⟩
      · have h1 := S₄.at (i := 0) rfl
        rw [h1] at e; cases e
        exact S₇.at (i := 0) rfl
      · have h1 := S₄.keep _ _ (kg _ _ ho')
        rw [h1] at e; cases e
        exact S₇.keep _ _ (kg _ _ ho')
    · have hin : i = n := by exact om62 hi hlt
      subst hin
      refine W.done _ _ _ hst₁ fun h₂ tk₂ hk₂ => ?_
      have S₅ := S₁.drop0 (h' := h₂) fun b o hb e => hk₂ b o (by simpa using hb) e
      obtain ⟨oC, mC, hnC, S₆⟩ := back g₁ h₂ m₁ ((D, setO w (decide (0 < i))) :: nx) k₁ he₁ S₅
      exact done D C oC mC g₁ h₂ tk₂ k₁ hnC S₆ hJ₁
  exact codeAny_compStart_set (loop _ rfl) (W.self 0 _ _ _ hst₁ (loop _ rfl))
end
end Mine
end
-- Lc168
section
open PySem PySem.W PyProof.Rows PySem.Calls
namespace Mine
noncomputable abbrev comp2 (elt t0 i0 t1 i1 : Expr) (scope : Scope) (pos : Pos) : Expr := .ListComp elt [⟨t0, i0, [], 0⟩, ⟨t1, i1, [], 0⟩] scope pos
theorem compTurn2_0 (elt t0 i0 t1 i1 : Expr) (scope : Scope) (pos : Pos) (it acc : Value) (env : Env) : compTurn (comp2 elt t0 i0 t1 i1 scope pos) 0 it acc env = (do
      standAt i0.pos
      match ← pyNext it with
      | none => pure (.done .next)
      | some v =>
        letOwnedTupleGo t0 it v
        assign t0 env v
        let x ← eval i1 env
        standAt i1.pos
        let x ← foldedSetIterable i1 env x
        let _ ← runOwn (.compStart (comp2 elt t0 i0 t1 i1 scope pos) 1 (← holding [x] (pyIter x)) acc env) env
        again (.compLoop (comp2 elt t0 i0 t1 i1 scope pos) 0 it acc env)) := by rfl
theorem compTurn2_1 (elt t0 i0 t1 i1 : Expr) (scope : Scope) (pos : Pos) (it acc : Value) (env : Env) : compTurn (comp2 elt t0 i0 t1 i1 scope pos) 1 it acc env = (do
      standAt i1.pos
      match ← pyNext it with
      | none => pure (.done .next)
      | some v =>
        letOwnedTupleGo t1 it v
        assign t1 env v
        (do let _ ← call (.builtin "list.append") [acc, ← eval elt env])
        again (.compLoop (comp2 elt t0 i0 t1 i1 scope pos) 1 it acc env)) := by rfl
section
variable {w : World} {prog : Program} {A : Around} {s : Shared} {R : Result → Shared → Prop} {elt t0 i0 t1 i1 : Expr} {scope : Scope} {pos : Pos} {it acc : Value} {env : Env}
theorem inner_any (I : Nat → Shared → Prop)
    (turn : ∀ n s, I n s → wpAny (model prog w) A (pyNext it) (fun r s₁ => match r with
      | none => R (.ok .next) s₁
      | some v => wpAny (model prog w) A (letOwnedTupleGo t1 it v) (fun _ s₁ => wpAny (model prog w) A (assign t1 env v) (fun _ s₂ =>
          wpAny (model prog w) A (eval elt env) (fun x s₄ => wpAny (model prog w) A (call (.builtin "list.append") [acc, x]) (fun _ s₅ => ∃ m, m < n ∧ I m s₅) NoE s₄) NoE s₂) NoE s₁) NoE s₁) NoE s)
    (n : Nat) (h : I n s) : codeAny (model prog w) A (.compLoop (comp2 elt t0 i0 t1 i1 scope pos) 1 it acc env) R s := by
  refine codeAny_loop rfl I (fun n s hI => ?_) n h
  show wpAny _ A ((compTurn (comp2 elt t0 i0 t1 i1 scope pos) 1 it acc env).onRaise (fun x => do noteFrame x env; theTreesLotGoes x)) _ _ s
  refine wpAny_noted ?_
  rw [compTurn2_1]
  refine wpAny_bind (wpAny_standAt (wpAny_bind (wpAny_mono (turn n s hI) (fun r s₁ h₁ => ?_) fun _ _ h' => h'.elim)))
  cases r with
  | none => exact wpAny_pure h₁
  | some v =>
    refine wpAny_bind (wpAny_mono h₁ (fun _ s₁ h₁ => ?_) fun _ _ h' => h'.elim)
    refine wpAny_bind (wpAny_mono h₁ (fun _ s₂ h₂ => ?_) fun _ _ h' => h'.elim)
    exact wpAny_bind (wpAny_bind (wpAny_mono h₂ (fun x s₄ h₄ => wpAny_bind (wpAny_mono h₄ (fun _ s₅ h₅ => wpAny_pure (wpAny_pure ⟨rfl, h₅⟩)) fun _ _ h' => h'.elim)) fun _ _ h' => h'.elim))
theorem start1_any (h0 : codeAny (model prog w) A (.compLoop (comp2 elt t0 i0 t1 i1 scope pos) 1 it acc env) R s)
    (h : wpAny (model prog w) A (pyIter it) (fun it' s' => codeAny (model prog w) A (.compLoop (comp2 elt t0 i0 t1 i1 scope pos) 1 it' acc env) R s') NoE s) :
    codeAny (model prog w) A (.compStart (comp2 elt t0 i0 t1 i1 scope pos) 1 it acc env) R s := by
  refine codeAny_of_tree ?_
  show wpAny _ _ ((compStart (comp2 elt t0 i0 t1 i1 scope pos) 1 it acc env).onRaise (fun x => do noteFrame x env; standAt theWindowsPlace)) _ _ s
  refine wpAny_notedAt ?_
  unfold compStart
  show wpAny _ _ (ask >>= _) _ _ s
  refine wpAny_bind (wpAny_askSetting (wpAny_ite ?_))
  split
  · first
      | exact wpAny_bind (wpAny_pure (wpAny_pure (And.intro rfl h0)))
      | exact wpAny_pure (And.intro rfl h0)
  · first
      | exact wpAny_bind (wpAny_rule (wpAny_bind (wpAny_standAt (wpAny_bind (wpAny_mono h (fun it' s' h' => wpAny_pure (And.intro rfl h')) fun _ _ x => x.elim)))))
      | (refine wpAny_bind (wpAny_rule ?_); show wpAny _ _ (standAt i1.pos >>= _) _ _ s; exact wpAny_bind (wpAny_standAt (wpAny_bind (wpAny_mono h (fun it' s' h' => wpAny_pure (And.intro rfl h')) fun _ _ x => x.elim))))
theorem outer_any (I : Nat → Shared → Prop) (hs : ∀ x, foldedSetIterable i1 env x = pure x) (hh : A.handled = none)
    (turn : ∀ n s, I n s → wpAny (model prog w) A (pyNext it) (fun r s₁ => match r with
      | none => R (.ok .next) s₁
      | some v => wpAny (model prog w) A (letOwnedTupleGo t0 it v) (fun _ s₁ => wpAny (model prog w) A (assign t0 env v) (fun _ s₂ =>
          wpAny (model prog w) A (eval i1 env) (fun x s₃ => wpAny (model prog w) A (pyIter x) (fun it1 s₄ =>
            codeAny (model prog w) A (.compStart (comp2 elt t0 i0 t1 i1 scope pos) 1 it1 acc env) (fun r s₅ => match r with | .ok _ => ∃ m, m < n ∧ I m s₅ | .error _ => False) s₄) NoE s₃) NoE s₂) NoE s₁) NoE s₁) NoE s)
    (n : Nat) (h : I n s) : codeAny (model prog w) A (.compLoop (comp2 elt t0 i0 t1 i1 scope pos) 0 it acc env) R s := by
  refine codeAny_loop rfl I (fun n s hI => ?_) n h
  show wpAny _ A ((compTurn (comp2 elt t0 i0 t1 i1 scope pos) 0 it acc env).onRaise (fun x => do noteFrame x env; theTreesLotGoes x)) _ _ s
  refine wpAny_noted ?_
  rw [compTurn2_0]
  refine wpAny_bind (wpAny_standAt (wpAny_bind (wpAny_mono (turn n s hI) (fun r s₁ h₁ => ?_) fun _ _ h' => h'.elim)))
  cases r with
  | none => exact wpAny_pure h₁
  | some v =>
    refine wpAny_bind (wpAny_mono h₁ (fun _ s₁ h₁ => ?_) fun _ _ h' => h'.elim)
    refine wpAny_bind (wpAny_mono h₁ (fun _ s₂ h₂ => ?_) fun _ _ h' => h'.elim)
    refine wpAny_bind (wpAny_mono h₂ (fun x s₃ h₃ => ?_) fun _ _ h' => h'.elim)
    refine wpAny_bind (wpAny_standAt ?_)
    refine wpAny_bind (wpAny_of_eq (hs x) ?_)
    refine wpAny_bind (wpAny_holding (wpAny_mono h₃ (fun it1 s₄ h₄ => ?_) fun _ _ h' => h'.elim))
    have em : A.mark none = A := by cases A; rfl
    refine wpAny_bind (wpAny_runOwn (h := none) ?_)
    rw [em]
    refine codeAny_mono h₄ fun r s₅ hr => ?_
    cases r with
    | ok f => exact wpAny_pure ⟨rfl, hr⟩
    | error e => exact hr.elim
end
end Mine
end
-- Ld168
section
open PySem PySem.W PyProof.Rows PySem.Calls
namespace Mine
/-- what an item leaves -/
inductive C2Post (s₂ : Shared) (g : Heap) (cenv : Env) (ps : List (Str × Value)) (nx : List (Addr × Obj)) (J : Value → Prop) (y : Value) (s₄ : Shared) : Prop
  | mk (h' : Heap) (tk : Nat) (m₄ : Str → Option Value) (e : s₄ = { s₂ with heap := h', toks := tk }) (he : HasAll m₄ ps) (S : St g cenv h' m₄ nx) (hJ : J y) : C2Post s₂ g cenv ps nx J y s₄
section
variable {w : World} {prog : Program} {A : Around} {E : Value → Shared → Prop} {s₂ : Shared} {env : Env} {g : Heap} {m : Str → Option Value} {nx : List (Addr × Obj)}
/-- what stands between the turns of a comprehension's loop -/
inductive LInv (s₂ : Shared) (g : Heap) (env : Env) (I : Addr) (ps : List (Str × Value)) (Wt : Nat → Heap → Prop) (n : Nat) (L : List Value → Nat → List (Addr × Obj)) (J : Nat → List Value → Prop) : Nat → Shared → Prop
  | mk (i : Nat) (ys : List Value) (m₁ : Str → Option Value) (h₁ : Heap) (tk₁ : Nat) (oI : Obj) (nn : Nat) : HasAll m₁ ps → St g env h₁ m₁ ((I, oI) :: L ys nn) → Wt i h₁ → J i ys → i ≤ n → LInv s₂ g env I ps Wt n L J (n + 1 - i) { s₂ with heap := h₁, toks := tk₁ }
/-- a comprehension of two clauses over names, whose items are no new objects -/
theorem comp2_run {elt i0 i1 : Expr} {x0 x1 : Str} {p0 p1 : Pos} {scope : Scope} {cl : List (Str × Addr)} {pos : Pos} {I : Addr} {oI : Obj} {n k : Nat} {P0 P1 : Nat → Value → Prop} {RR : Value → Addr → Result → Shared → Prop}
    (J : Nat → Nat → List Value → Prop) (ps : List (Str × Value)) (hcell : ∀ y ∈ scope.names, y.2 ≠ .cell) (hkind : scope.kind = .function)
    (hcl : cl.map (fun p => env.cells.lookup p.1) = cl.map (fun p => some p.2)) (hnd : (cl.map (·.1)).Nodup) (hkd : (cl.all fun p => (relabel scope env).names.lookup p.1 != some .local) = true)
    (hps : (ps.all fun p => !((relabel scope env).names.lookup p.1 == some .local)) = true) (hcov : (cl.all fun p => (ps.map (·.1)).contains p.1) = true)
    (hs : ∀ cenv x, foldedSetIterable i1 cenv x = pure x) (hh : A.handled = none)
    (S₂ : St g env s₂.heap m ((I, oI) :: nx)) (W : ItOk prog w A g s₂.heap I n P0) (hnk : n * k + k ≤ 100000) (he : HasAll m ps) (hJ : J 0 0 [])
    (next : ∀ i ys, i < n → J i k ys → J (i + 1) 0 ys) (len : ∀ i j ys, i ≤ n → j ≤ k → J i j ys → ys.length ≤ i * k + j)
    (open1 : ∀ i v ys m₁ h₁ tk₁ oI C tl, i < n → P0 i v → J i 0 ys → PlainIt oI → HasAll m₁ ps → St g (compEnvC scope cl C env) h₁ m₁ ((I, oI) :: tl) →
      wpAny (model prog w) A (letOwnedTupleGo (.Name x0 p0) (.ref I) v) (fun _ s₁ => wpAny (model prog w) A (assign (.Name x0 p0) (compEnvC scope cl C env) v) (fun _ s₃ =>
        wpAny (model prog w) A (eval i1 (compEnvC scope cl C env)) (fun xv s₄ => wpAny (model prog w) A (pyIter xv) (fun it s₅ => ∃ I1 oI1 h' tk m₂ ps₁, it = .ref I1 ∧ s₅ = { s₂ with heap := h', toks := tk } ∧ HasAll m₂ (ps₁ ++ ps) ∧
          St g (compEnvC scope cl C env) h' m₂ ((I1, oI1) :: (I, oI) :: tl) ∧ ItOk prog w A g h' I1 k P1 ∧
          ∀ j u ys m₃ h₃ tk₃ oI1 tl', j < k → P1 j u → J i j ys → PlainIt oI1 → HasAll m₃ (ps₁ ++ ps) → St g (compEnvC scope cl C env) h₃ m₃ ((I1, oI1) :: tl') →
            wpAny (model prog w) A (letOwnedTupleGo (.Name x1 p1) (.ref I1) u) (fun _ s₁ => wpAny (model prog w) A (assign (.Name x1 p1) (compEnvC scope cl C env) u) (fun _ s₃ =>
              wpAny (model prog w) A (eval elt (compEnvC scope cl C env)) (C2Post s₂ g (compEnvC scope cl C env) (ps₁ ++ ps) ((I1, oI1) :: tl') (fun y => J i (j + 1) (ys ++ [y]))) NoE s₃) NoE s₁) NoE { s₂ with heap := h₃, toks := tk₃ }) NoE s₄) NoE s₃) NoE s₁) NoE { s₂ with heap := h₁, toks := tk₁ })
    (done : ∀ D C oC mC ys h₁ tk₁ nn, h₁.Ns C mC → St g env h₁ m ((C, oC) :: (D, listOf ys.toArray nn) :: nx) → J n 0 ys → RR (.ref D) C (.ok .next) { s₂ with heap := h₁, toks := tk₁ }) :
    wpAny (model prog w) A (newList []) (fun acc s₃ => wpAny (model prog w) A (newFunctionEnv scope env.globals cl [] env.qual none .none (some env)) (fun cenv s₄ =>
      codeAny (model prog w) A (.compStart (comp2 elt (.Name x0 p0) i0 (.Name x1 p1) i1 scope pos) 0 (.ref I) acc { cenv with scope := relabel scope env }) (RR acc cenv.locals) s₄) E s₃) E s₂ := by
  obtain ⟨fp, Wt, W, hlive, hfp, hst⟩ := W.ex
  refine wpAny_newObj_type (wpAny_newFunctionEnv hcell (by intro y hy; simp at hy) (fun h₁ hns₁ hsb₁ => ?_) hkind)
  dsimp only at hns₁ hsb₁ ⊢
  have SD := S₂.push { cls := .type "list", dict := none, data := .seq ([] : List Value).toArray } rfl
  generalize hH2 : s₂.heap.push { cls := .type "list", dict := none, data := .seq ([] : List Value).toArray } = H2 at hns₁ hsb₁ SD ⊢
  generalize hD : s₂.heap.objs.size = D at SD ⊢
  have hC : H2.get? H2.objs.size = none := by cases q : H2.get? H2.objs.size with | none => rfl | some o => exact absurd (Heap.lt_size q) (Nat.lt_irrefl _)
  generalize H2.objs.size = C at hns₁ hsb₁ hC ⊢
  have k1 : H2.StaysIn h₁ := fun b o e => hsb₁.extBut b o (fun q => by rw [q, hC] at e; cases e) (Heap.get?_push_of_some _ e)
  have k0 : s₂.heap.StaysIn H2 := fun b o e => hH2 ▸ Heap.get?_push_of_some _ e
  have SD' : St g env H2 m ((I, oI) :: (D, listOf ([] : List Value).toArray 0) :: nx) := SD.mem (fun p hp => by
    rcases List.mem_cons.mp hp with rfl | hp
    · exact .tail _ (.head _)
    · rcases List.mem_cons.mp hp with rfl | hp
      · exact .head _
      · exact .tail _ (.tail _ hp)) (by
    have := SD.apart
    simp only [List.map_cons, List.nodup_cons, List.mem_cons, not_or] at this ⊢
    exact ⟨⟨Ne.symm this.1.1, this.2.1⟩, this.1.2, this.2.2⟩)
  obtain ⟨frz, m₁, he₁, S₁, back⟩ := SD'.openC (C := C) (scope := scope) (ps := ps) hcl hnd hkd hps hcov he k1 hC hns₁
  have hst₁ : Wt 0 h₁ := W.frame _ _ _ hst fun b _ o e => k1 _ _ (k0 _ _ e)
  have hap : ∀ {psA psB : List (Str × Value)} {mm : Str → Option Value}, HasAll mm (psA ++ psB) → HasAll mm psB := by
    intro psA
    induction psA with
    | nil => intro psB mm h; exact h
    | cons q r ih => intro psB mm h; exact ih h.2
  have loop : ∀ s₃ : Shared, s₃ = { s₂ with heap := h₁, toks := s₂.toks + ([] : List (Str × Value)).length } →
      codeAny (model prog w) A (.compLoop (comp2 elt (.Name x0 p0) i0 (.Name x1 p1) i1 scope pos) 0 (.ref I) (.ref D) (compEnvC scope cl C env)) (RR (.ref D) C) s₃ := by
    rintro s₃ rfl
    refine outer_any (LInv s₂ g (compEnvC scope cl C env) I ps Wt n (fun ys nn => (D, listOf ys.toArray nn) :: (nx ++ frz)) fun i ys => J i 0 ys)
      (hs _) hh ?_ (n + 1) (.mk 0 [] m₁ h₁ _ oI 0 he₁ S₁ hst₁ hJ (Nat.zero_le _))
    rintro kk s' ⟨i, ys, m₁, h₁, tk₁, oI, nn, he₁, S₁, hst₁, hJ₁, hi⟩
    by_cases hlt : i < n
    · refine W.item i _ _ _ hlt hst₁ fun v h₂ tk₂ hP hst₂ hk₂ => ?_
      obtain ⟨o₂, ho₂, hpl⟩ := hlive _ _ hst₂
      have S₂ : St g (compEnvC scope cl C env) h₂ m₁ ((I, o₂) :: (D, listOf ys.toArray nn) :: (nx ++ frz)) := S₁.upd (i := 0) rfl (fun b x hb e => hk₂ b x (by simpa using hb) e) ho₂
      have hkeepW : ∀ h' m' l, St g (compEnvC scope cl C env) h' m' l → (I, o₂) ∈ l → Wt (i + 1) h' := fun h' m' l S' hm => by
        refine W.frame _ _ _ hst₂ fun b hb o e => ?_
        rcases hfp b hb with rfl | ⟨o', ho'⟩
        · rw [ho₂] at e; cases e; exact S'.led _ hm
        · have h1 := S₂.keep _ _ ho'
          rw [h1] at e; cases e
          exact S'.keep _ _ ho'
      refine wpAny_mono (open1 i v ys m₁ h₂ tk₂ o₂ C _ hlt hP hJ₁ hpl he₁ S₂) (fun _ s₃ h₃ => wpAny_mono h₃ (fun _ s₄ h₄ => wpAny_mono h₄ (fun xv s₅ h₅ => wpAny_mono h₅ (fun it s₆ h₆ => ?_) fun _ _ e => e) fun _ _ e => e) fun _ _ e => e) fun _ _ e => e
      obtain ⟨I1, oI1, h', tk, m₂, ps₁, rfl, rfl, he₂, S₃, W1, inner⟩ := h₆
      obtain ⟨fp1, Wt1, W1, hlive1, hfp1, hst1⟩ := W1.ex
      have loop1 : ∀ s₇ : Shared, s₇ = { s₂ with heap := h', toks := tk } → codeAny (model prog w) A (.compLoop (comp2 elt (.Name x0 p0) i0 (.Name x1 p1) i1 scope pos) 1 (.ref I1) (.ref D) (compEnvC scope cl C env))
          (fun r s₅ => match r with | .ok _ => ∃ m, m < n + 1 - i ∧ LInv s₂ g (compEnvC scope cl C env) I ps Wt n (fun ys nn => (D, listOf ys.toArray nn) :: (nx ++ frz)) (fun i ys => J i 0 ys) m s₅ | .error _ => False) s₇ := by
        rintro s₇ rfl
        refine inner_any (LInv s₂ g (compEnvC scope cl C env) I1 (ps₁ ++ ps) Wt1 k (fun ys nn => (I, o₂) :: (D, listOf ys.toArray nn) :: (nx ++ frz)) (J i))
          ?_ (k + 1) (.mk 0 ys m₂ h' tk oI1 nn he₂ S₃ hst1 hJ₁ (Nat.zero_le _))
        rintro kk s' ⟨j, ys, m₃, h₃, tk₃, oI1, nn, he₃, S₄, hst₄, hJ₄, hj⟩
        by_cases hjk : j < k
        · refine W1.item j _ _ _ hjk hst₄ fun u h₅ tk₅ hP1 hst₅ hk₅ => ?_
          obtain ⟨o₅, ho₅, hpl₅⟩ := hlive1 _ _ hst₅
          have S₅ := S₄.upd (i := 0) rfl (fun b x hb e => hk₅ b x (by simpa using hb) e) ho₅
          refine wpAny_mono (inner j u ys m₃ h₅ tk₅ o₅ _ hjk hP1 hJ₄ hpl₅ he₃ S₅) (fun _ s₆ h₆ => wpAny_mono h₆ (fun _ s₇ h₇ => wpAny_mono h₇ (fun y s₈ h₈ => ?_) fun _ _ e => e) fun _ _ e => e) fun _ _ e => e
          obtain ⟨h₉, tk₉, m₄, rfl, he₄, S₆, hJ₆⟩ := h₈
          have hyl := len i j ys (Nat.le_of_lt hlt) (Nat.le_of_lt hjk) hJ₄
          have hyn : i * k + j ≤ n * k + k := Nat.add_le_add (Nat.mul_le_mul_right k (Nat.le_of_lt hlt)) (Nat.le_of_lt hjk)
          refine led_append (i := 2) S₆ rfl (by show _ ≤ (2 ^ 24 : Nat); exact om234 hnk hyl hyn) fun h₇ S₇ => ?_
          refine ⟨k + 1 - (j + 1), by exact om63 hj, .mk (j + 1) (ys ++ [y]) m₄ h₇ _ o₅ _ he₄ S₇ ?_ hJ₆ hjk⟩
          refine W1.frame _ _ _ hst₅ fun b hb o e => ?_
          rcases hfp1 b hb with rfl | ⟨o', ho'⟩
          · rw [ho₅] at e; cases e; exact S₇.at (i := 0) rfl
          · have h1 := S₅.keep _ _ ho'
            rw [h1] at e; cases e
            exact S₇.keep _ _ ho'
        · have hin : j = k := by exact om62 hj hjk
          subst hin
          refine W1.done _ _ _ hst₄ fun h₅ tk₅ hk₅ => ?_
          have S₅ := S₄.drop0 (h' := h₅) fun b o hb e => hk₅ b o (by simpa using hb) e
          exact ⟨n + 1 - (i + 1), by exact om63 hi, .mk (i + 1) ys m₃ h₅ tk₅ o₂ nn (hap he₃) S₅ (hkeepW _ _ _ S₅ (.head _)) (next i ys hlt hJ₄) hlt⟩
      exact start1_any (loop1 _ rfl) (W1.self 0 _ _ _ hst1 (loop1 _ rfl))
    · have hin : i = n := by exact om62 hi hlt
      subst hin
      refine W.done _ _ _ hst₁ fun h₂ tk₂ hk₂ => ?_
      have S₅ := S₁.drop0 (h' := h₂) fun b o hb e => hk₂ b o (by simpa using hb) e
      obtain ⟨oC, mC, hnC, S₆⟩ := back g h₂ m₁ ((D, listOf ys.toArray nn) :: nx) (fun _ _ e => e) he₁ S₅
      exact done D C oC mC ys h₂ tk₂ nn hnC S₆ hJ₁
  exact codeAny_compStart_list (loop _ rfl) (W.self 0 _ _ _ hst₁ (loop _ rfl))
noncomputable abbrev compBlock2 (M : Model) (A : Around) (E : Value → Shared → Prop) (e : Expr) (scope : Scope) (cl : List (Str × Addr)) (env : Env) (Q : Value → Shared → Prop) (it : Value) (s₂ : Shared) : Prop :=
  wpAny M A (newList []) (fun acc s₃ => wpAny M A (newFunctionEnv scope env.globals cl [] env.qual none .none (some env)) (fun cenv s₄ =>
      codeAny M A (.compStart e 0 it acc { cenv with scope := relabel scope env }) (compPost M A E none Q acc cenv.locals) s₄) E s₃) E s₂
theorem comp2_eval {elt t0 i0 t1 i1 : Expr} {scope : Scope} {cl : List (Str × Addr)} {pos : Pos} {s : Shared} {Q : Value → Shared → Prop} (hclos : closureFor scope env = pure cl) (hkind : scope.kind = .function) (hnames : ∀ y ∈ scope.names, y.2 = .local → scope.names.lookup y.1 = some .local) (hs : ∀ x, foldedSetIterable i0 env x = pure x)
    (h : wpAny (model prog w) A (eval i0 env) (fun xv s₁ => wpAny (model prog w) A (pyIter xv) (compBlock2 (model prog w) A E (comp2 elt t0 i0 t1 i1 scope pos) scope cl env Q) E s₁) E s) :
    wpAny (model prog w) A (eval (comp2 elt t0 i0 t1 i1 scope pos) env) Q E s := by
  rw [eval_ListComp]
  exact wpAny_comprehension_free (use := none) rfl hs hclos hkind hnames h
end
end Mine
end
-- Wy168
section
open PySem PySem.W PyProof.Rows PySem.Calls PySem.Builtin PySem.Builtin.Str
namespace Mine
theorem flat_at : ∀ (u : List Nat) (k : Nat), (u.flatMap fun c => [47, c])[1 + 2 * k]? = u[k]?
  | [], k => by simp
  | c :: u, 0 => rfl
  | c :: u, k + 1 => by
    have := flat_at u k
    rw [List.flatMap_cons]
    show ([47, c] ++ _)[1 + 2 * (k + 1)]? = _
    rw [List.getElem?_append_right (by simp; exact om516)]
    rw [show 1 + 2 * (k + 1) - [47, c].length = 1 + 2 * k by simp; exact om515, this]
    rfl
theorem pick_way (u : List Nat) : (strSliceIndices (some 1) none 2 (wayL u).length).filterMap ((wayL u)[·]?) = u := by
  by_cases h : u = []
  · subst h; decide
  · have hw : wayL u = u.flatMap fun c => [47, c] := by unfold wayL; rw [if_neg h]
    have hl : (wayL u).length = 2 * u.length := by rw [hw, flat_len]
    have hpos : 0 < u.length := List.length_pos_iff.mpr h
    have e : strSliceIndices (some 1) none 2 (wayL u).length = (List.range u.length).map fun k => 1 + 2 * k := by
      have e0 : strSliceIndices (some 1) none 2 (wayL u).length = sliceRange (max 0 (min 1 (((wayL u).length : Nat) : Int))) (((wayL u).length : Nat) : Int) 2 := by
        unfold strSliceIndices
        simp
      rw [e0, hl, show max 0 (min 1 ((2 * u.length : Nat) : Int)) = 1 by exact om514 hpos]
      unfold sliceRange
      dsimp only
      have e2 : (1 : Int) < ((2 * u.length : Nat) : Int) := by exact om513 hpos
      simp only [show (2 : Int) > 0 by decide, if_true, e2]
      rw [show ((((2 * u.length : Nat) : Int) - 1 + 2 - 1) / 2).toNat = u.length by exact om512]
      refine List.map_congr_left fun k _ => ?_
      exact om511
    rw [e, List.filterMap_map, hw]
    have e4 : (((u.flatMap fun c => [47, c])[·]?) ∘ fun k => 1 + 2 * k) = fun k => u[k]? := by
      funext k; exact flat_at u k
    rw [e4]
    have fm : ∀ c, c ≤ u.length → (List.range c).filterMap (fun k => u[k]?) = u.take c := by
      intro c
      induction c with
      | zero => intro _; simp
      | succ c ih =>
        intro hc
        rw [List.range_succ, List.filterMap_append, ih (by exact om510 hc), List.take_add_one]
        rw [List.filterMap_cons, List.getElem?_eq_getElem (by exact om458 hc)]; rfl
    rw [fm _ (Nat.le_refl _), List.take_length]
theorem sliceBy_way (u : List Nat) (t1 t2 : Tok) : Txt.sliceBy (way u) (some (1, t1)) none (2, t2) = T u := by
  unfold Txt.sliceBy
  rw [if_neg (by simp)]
  have e := pick_way u
  show (⟨(List.filterMap (fun x => (wayL u).toArray[x]?) (strSliceIndices (some 1) none 2 (wayL u).toArray.size)).toArray⟩ : PySem.Str) = _
  rw [List.size_toArray]
  simp only [List.getElem?_toArray]
  rw [e]
section
variable {prog : Program} {w : World} {A : Around} {E : Value → Shared → Prop} {s : Shared} {g : Heap} {env : Env} {m : PySem.Str → Option Value} {nx : List (Addr × Obj)} {value slice : Expr} {t : Tok} {Q : Value → Shared → Prop}
theorem sl_way {u : List Nat} {t1 t2 : Tok} (S : St g env s.heap m nx) (hu : u.length < 1000) (h : ∀ h' t' k, St g env h' m nx → s.heap.StaysIn h' → Q (.str (T u) t') { s with heap := h', toks := k })
    (hs : subscripted slice false (.str (way u) t) (.ref s.heap.objs.size) = operate [.str (way u) t, .ref s.heap.objs.size] (getItem (.str (way u) t) (.ref s.heap.objs.size)))
    (ht : ∀ r, letTemporaryGo value (.str (way u) t) r = pure ()) :
    wpAny (model prog w) A (subscriptTail value slice (.str (way u) t) (.ref s.heap.objs.size)) Q E { s with heap := s.heap.push { cls := .type "slice", data := .fields #[.int 1 t1, .none, .int 2 t2] } } := by
  have k : s.heap.StaysIn (s.heap.push { cls := .type "slice", data := .fields #[.int 1 t1, .none, .int 2 t2] }) := fun _ _ e => Heap.get?_push_of_some _ e
  refine tail_of_ItemOn ⟨"str", _, F.slot_str_getitem.lookup, typeIs_str _ _ _, wpAny_getItem_str_slice (l := some (1, t1)) (u := none) (st := some (2, t2)) ⟨_, Heap.get?_push_size _ rfl, rfl, rfl⟩ (by rfl) (post_val_or_str ⟨?_, fun t' c => ?_⟩)⟩ hs ht
  · show (Txt.sliceBy (way u) (some (1, t1)) none (2, t2)).length ≤ sizeLine
    rw [sliceBy_way, T_len]
    unfold sizeLine; exact om509 hu
  · show Q (.str (Txt.sliceBy (way u) (some (1, t1)) none (2, t2)) t') _
    rw [sliceBy_way]
    exact h _ t' c (S.kept k) k
end
end Mine
end
namespace Mine
theorem fill0 : (hd.heap_1, PySem.Challenge.rw_pd0168_01).1 = hd.heap_1 := by k_fill; rfl
local macro_rules | `(tactic| walk_at $s:str) => `(tactic| k_extra $s)
theorem lines0 : True := by
  k_with "call type:range" => (k_dflt ((rename St _ _ _ _ _ => k_zS); first | (refine range1 k_zS ?_; clear k_zS; intro _ _ _ _ _ _ _ _) | (refine range2 k_zS ?_; clear k_zS; intro _ _ _ _ _ _ _ _)))
  k_with "call builtin:len" => ((with_reducible show wpAny _ _ (call (Value.builtin "len") [Value.str _ _]) _ _ _); k_dflt (refine' len_T (by walk_at "m_size") ?_); intro _ _)
  k_with "unpackItems ref" => (k_dflt ((rename St _ _ _ _ _ => k_zS); refine' un_led k_zS ?_ (by walk_at "m_at") (by exact rfl) ?_; (focus (rename ((_ : Env) → Rm _ _) => k_zR; exact Rm.hand (k_zR _))); clear k_zS; intro _ _ _))
  k_with "eval Constant str" => (first | refine const_at slash ?_ | refine const_at abcT ?_ | refine const_at nilT ?_ | refine const_at dotT ?_)
  k_with "m_size" => (show _ ≤ (16777216 : Nat); (try simp only [Str.length_append, T_len, List.length_append, List.length_cons, List.length_nil, List.length_map]); omega)
  k_with "inplaceOp Add str str" => (refine' s_iadd ?_ (by walk_at "m_size"); intro _ _)
  k_with "binaryOp Add str str" => (refine' s_add ?_ (by walk_at "m_size"); intro _ _)
  k_with "loadName" => (k_dflt ((rename St _ _ _ _ _ => k_zS); first | (refine' ldn_local k_zS (by exact rfl) (by exact rfl) (by exact rfl) ?_) | (refine' ldn_cell k_zS (by exact rfl) (by exact rfl) (by exact rfl) (by exact rfl) ?_)))
  k_with "exec Try" => (refine try_quiet ?_)
  k_with "exec For" => (refine wpAny_For ?_ (by intro _; rfl))
  k_with "m_R" => (rename ((_ : Env) → Rm _ _) => k_zR; exact Rm.less (k_zR _) (by first | decide | omega))
  k_with "newTuple" => (k_dflt ((rename St _ _ _ _ _ => k_zS); refine' new_tuple k_zS ?_ (by (show _ ≤ (2 ^ 24 : Nat); (try simp only [List.length_cons, List.length_nil]); first | decide | omega)); clear k_zS; intro _ _ _ _ _))
  k_with "newList" => (k_dflt ((rename St _ _ _ _ _ => k_zS); refine' new_list k_zS ?_ (by (show _ ≤ (2 ^ 24 : Nat); (try simp only [List.length_cons, List.length_nil]); first | decide | omega)); clear k_zS; intro _ _ _ _ _))
  k_with "call builtin:issubclass" => (k_dflt ((rename St _ _ _ _ _ => k_zS); refine' led_issub k_zS (by walk_at "m_at") ?_))
  k_with "m_at" => (first | exact at0 | exact at1 | exact at2 | exact at3 | exact at4 | exact at5)
  k_with "m_set" => (intro _ k_S'; (try simp only [List.set_cons_zero, List.set_cons_succ] at k_S'))
  k_with "getMethod ref" => (k_dflt ((rename St _ _ _ _ _ => k_zS); first | (refine' led_method k_zS (by walk_at "m_at") PySem.F.slot_list_append PySem.F.type_list_append ?_) | (refine' led_method k_zS (by walk_at "m_at") PySem.F.slot_list_pop PySem.F.type_list_pop ?_)))
  k_with "call builtin:list.append" => (k_dflt ((rename St _ _ _ _ _ => k_zS); refine' led_append k_zS (by walk_at "m_at") (by (show _ ≤ (2 ^ 24 : Nat); (try simp only [List.length_append, List.length_map, List.length_cons, List.length_nil]); omega)) ?_; clear k_zS; walk_at "m_set"))
  k_with "callWith ref" => (k_dflt (refine' call_own (by assumption) (by k_is) ?_ (by rfl) (by rfl); k_whole))
  k_with "And" => ((with_reducible show Heap.StaysIn _ _ ∧ _); (rename St _ _ _ _ _ => k_zS); refine stays_of k_zS ?_; try dsimp only [List.nil_append, List.cons_append])
  k_with "eval Name" => (k_dflt ((rename St _ _ _ _ _ => k_zS); first | (refine' nm_local k_zS (by exact rfl) (by exact rfl) (by exact rfl) ?_ (by decide)) | (refine' nm_cell k_zS (by exact rfl) (by exact rfl) (by exact rfl) (by exact rfl) ?_ (by decide)) | (refine' nm_free k_zS (by exact rfl) (by exact rfl) (by exact rfl) (by exact rfl) ?_ (by decide) (by decide)) | (refine' nm_glob k_zS (by assumption) (by k_is) ?_ (by exact rfl) (by exact rfl) (by exact rfl) (by decide); k_whole) | (refine' nm_boot k_zS (by assumption) (by k_is) (by first | boot_fast | exact Boot.issubclass | exact Boot.bytearray | exact Boot.bytes) (by decide) ?_ (by exact rfl) (by exact rfl) (by exact rfl) (by exact rfl) (by decide); k_whole)))
  k_with "storeName" => (k_dflt ((rename St _ _ _ _ _ => k_zS); first | (refine' sto_int k_zS (by exact rfl) (by exact rfl) ?_; clear k_zS; intro _ _ _) | (refine' sto_str k_zS (by exact rfl) (by exact rfl) ?_; clear k_zS; intro _ _ _) | (refine' sto_local k_zS (by exact rfl) (by exact rfl) ?_; clear k_zS; intro _ _) | (refine' stc_int k_zS (by exact rfl) (by exact rfl) (by exact rfl) ?_; clear k_zS; intro _ _ _) | (refine' stc_str k_zS (by exact rfl) (by exact rfl) (by exact rfl) ?_; clear k_zS; intro _ _ _) | (refine' sto_cell k_zS (by exact rfl) (by exact rfl) (by exact rfl) ?_; clear k_zS; intro _ _)))
  k_with "binaryOp RShift int int" => (refine wpAny_rshift1_int (by omega) ?_)
  k_with "execs cons" => (k_dflt ((rename Base _ => k_zB); refine exec_one k_zB ?_; intro _))
  k_with "eval Constant int" => (refine c_int ?_)
  k_with "binaryOp Add int int" => (refine f_add ?_)
  k_with "inplaceOp Add int int" => (refine f_iadd ?_)
  k_with "binaryOp Sub int int" => (refine f_sub ?_)
  trivial
-- Sd168
section
/-- heapq's _siftdown from the top, as a list -/
noncomputable def sdown {α : Type} (lt : α → α → Bool) (item : α) (xs : List α) (pos : Nat) : List α :=
  if _h : 0 < pos then
    match xs[(pos - 1) / 2]? with
    | some p => if lt item p then sdown lt item (xs.set pos p) ((pos - 1) / 2) else xs.set pos item
    | none => xs.set pos item
  else xs.set pos item
termination_by pos
decreasing_by exact om106 _h
noncomputable abbrev rlt (a b : Row) : Bool := klt a.key b.key
inductive SdJ (g' : Heap) (l : Addr) (xs : List Row) (item : Row) (n pos : Nat) (t1 : Tok) (n' : Nat) (m₁ : PySem.Str → Option Value) (g₁ : Heap) (nx₁ : List (Addr × Obj)) : Prop
  | mk (ys : List Row) (k : Int) (t : Tok) (ek : k = n') (eg : g₁ = g') (en : nx₁ = [(l, listOf (ys.map Row.val).toArray n)]) (hl : ys.length = xs.length) (hn : n' < xs.length) (hr : ∀ r ∈ ys, r.In g') (hs : sdown rlt item ys n' = sdown rlt item xs pos)
    (ha : HasAll m₁ [("heap", .ref l), ("startpos", .int 0 t1), ("pos", .int k t), ("newitem", item.val)]) : SdJ g' l xs item n pos t1 n' m₁ g₁ nx₁
set_option maxRecDepth 100000 in
set_option maxHeartbeats 4000000 in
theorem siftdown_spec {w : World} {A : Around} {s : Shared} {g : Heap} {l : Addr} {xs : List Row} {n pos : Nat} {t1 t2 : Tok} {Q : Value → Shared → Prop} (R : Rm A 1) (G : Gd w g) (st : g.StaysIn s.heap)
    (hl : s.heap.get? l = some (listOf (xs.map Row.val).toArray n)) (hg : g.get? l = none) (hr : ∀ r ∈ xs, r.In s.heap) (hp : pos < xs.length) (hz : xs.length < 1000) (item : Row) (hi : xs[pos]? = some item)
    (hQ : ∀ h' tk', Ext [l] s.heap h' → h'.get? l = some (listOf ((sdown rlt item xs pos).map Row.val).toArray n) → Q .none { s with heap := h', toks := tk' }) :
    wpAny (model PG w) A (call (.ref 49) [.ref l, .int 0 t1, .int pos t2]) Q NoE s := by
  refine enter (binds := [("heap", .ref l), ("startpos", .int 0 t1), ("pos", .int pos t2)]) [(l, listOf (xs.map Row.val).toArray n)] G st (by simp [hl, hg]) (by simp) (by k_dflt k_is) (by k_dflt k_is) R.room (BindsTo.of_eq rfl) rfl (by decide) (by decide) ?_ rfl rfl rfl
  intro g' L h₁ tk G' hk S
  have zB : Base s := trivial
  have R' : ∀ env, Rm (A.deeper env) 0 := fun _ => R.deeper
  have hr' : ∀ r ∈ xs, r.In g' := by
    intro r hr1
    obtain ⟨t, u, o, ho, e, ee⟩ := hr r hr1
    refine ⟨t, u, o, hk _ _ ?_ ho, e, ee⟩
    intro hm
    have : r.addr = l := by simpa using hm
    rw [this, hl] at ho; cases ho; exact absurd e (by simp)
  have hext : ∀ h', g'.StaysIn h' → Ext [l] s.heap h' := fun h' k b o hb e => k b o (hk b o (by simpa using hb) e)
  clear hr G st hl hg R hk
  dsimp only [bindAll, List.foldl_cons, List.foldl_nil] at S
  k_steps
  refine led_item (i := 0) (by assumption) rfl (by exact om7) (by exact om379 hp hz) (v := item.val) (by simp [hi]) ?_ (by with_unfolding_all rfl)
  k_steps
  refine while_st (SdJ g' l xs item n pos t1) (n₀ := pos) (by assumption) ⟨xs, _, t2, rfl, rfl, rfl, rfl, hp, hr', rfl, rfl, rfl, rfl, rfl, trivial⟩ ?_
  rename St _ _ _ _ _ => zS
  clear zS
  rintro p m₁ g₁ nx₁ h₁ tk₁ _ S ⟨ys, k, t, rfl, rfl, rfl, hlen, hpl, hry, hsd, e⟩
  replace S := S.norm e
  clear e
  dsimp only [putAll, List.foldr_cons, List.foldr_nil] at S
  have hit : item ∈ xs := List.mem_of_getElem? hi
  k_steps
  · obtain ⟨par, hpar⟩ : ∃ par, ys[(p - 1) / 2]? = some par := ⟨ys[(p - 1) / 2]'(by exact om378 hlen hpl), List.getElem?_eq_getElem _⟩
    have ek : ((p - 1 : Int) / 2).toNat = (p - 1) / 2 := by exact om377
    refine led_item (i := 0) (by assumption) rfl (by exact om376 (by assumption)) (by exact om375 hz hpl) (v := par.val) (by rw [ek]; simp [hpar]) ?_ (by with_unfolding_all rfl)
    k_steps
    refine rows_lt (r := item) (q := par) ((hr' _ hit).keeps (St.keep (by assumption))) ((hry _ (List.mem_of_getElem? hpar)).keeps (St.keep (by assumption))) (by have := (R' default).units; exact Nat.lt_trans (Nat.add_lt_add_left (by decide) _) this) ?_
    k_steps
    · refine led_set (i := 0) (by assumption) rfl (by exact om7) (by exact om371 hz hpl) (by simp; exact om370 hlen hpl) ?_
      intro h' S'
      k_steps
      (show WPost _ _ _ _ _ _ _ _); dsimp only [WPost]
      refine ⟨_, _, _, _, _, (p - 1) / 2, rfl, fun _ _ e => e, by assumption, by exact om374 (by assumption), ys.set p par, ((p : Int) - 1) / 2, _, by exact om373 (by assumption), rfl, by simp [List.map_set], by simpa using hlen, by exact om173 hpl, ?_, ?_, rfl, rfl, rfl, rfl, trivial⟩
      · intro r hr
        rcases List.mem_or_eq_of_mem_set hr with h | h
        · exact hry r h
        · exact h ▸ hry _ (List.mem_of_getElem? hpar)
      · rw [← hsd]
        conv => rhs; unfold sdown
        rw [dif_pos (by exact om372 (by assumption)), hpar]
        try dsimp only
        rw [if_pos (by assumption)]
    · (show WPost _ _ _ _ _ _ _ _); dsimp only [WPost]
      k_steps
      refine led_set (i := 0) (by assumption) rfl (by exact om7) (by exact om371 hz hpl) (by simp; exact om370 hlen hpl) ?_
      intro h' S'
      k_steps
      refine hQ _ _ (hext _ (St.keep (by assumption))) ?_
      have e : sdown rlt item ys p = ys.set p item := by
        unfold sdown
        rw [dif_pos (by exact om372 (by assumption)), hpar]
        try dsimp only
        rw [if_neg (by rename klt _ _ = false => q; simp [rlt, q])]
      rw [← hsd, e]
      rename St _ _ _ _ _ => zS
      have e2 := zS.at (i := 0) rfl
      simpa [List.map_set] using e2
  · k_steps
    refine led_set (i := 0) (by assumption) rfl (by exact om7) (by exact om371 hz hpl) (by simp; exact om370 hlen hpl) ?_
    intro h' S'
    k_steps
    refine hQ _ _ (hext _ (St.keep (by assumption))) ?_
    have e : sdown rlt item ys p = ys.set p item := by
      unfold sdown
      rw [dif_neg (by exact om369 (by assumption))]
    rw [← hsd, e]
    rename St _ _ _ _ _ => zS
    have e2 := zS.at (i := 0) rfl
    simpa [List.map_set] using e2
theorem sd_call {w : World} {A : Around} {s : Shared} {g : Heap} {env : Env} {m : Str → Option Value} {nx : List (Addr × Obj)} {i : Nat} {l : Addr} {vs : List Value} {xs : List Row} {n pos : Nat} {k : Int} {t1 t2 : Tok} {Q : Value → Shared → Prop} (S : St g env s.heap m nx) (G : Gd w g) (R : Rm A 1)
    (hi : nx[i]? = some (l, listOf vs.toArray n)) (hv : vs = xs.map Row.val) (hr : ∀ r ∈ xs, r.In g) (hk : k = pos) (hp : pos < xs.length) (hz : xs.length < 1000) (item : Row) (hit : xs[pos]? = some item)
    (h : ∀ h' tk', St g env h' m (nx.set i (l, listOf ((sdown rlt item xs pos).map Row.val).toArray n)) → Q .none { s with heap := h', toks := tk' }) :
    wpAny (model PG w) A (call (.ref 49) [.ref l, .int 0 t1, .int k t2]) Q NoE s := by
  subst hv; subst hk
  exact siftdown_spec R G S.keep (S.at hi) (S.freshN _ (mem_fst_of_get hi)) (fun r q => (hr r q).keeps S.keep) hp hz item hit fun h' tk' x e => h h' tk' (S.ext1 hi x e)
end
-- Su168
section
/-- heapq's _siftup: the smaller child goes up until the bottom; the list and the place -/
noncomputable def supc {α : Type} (lt : α → α → Bool) (xs : List α) (pos : Nat) : Nat := match xs[2 * pos + 1]?, xs[2 * pos + 1 + 1]? with
  | some a, some b => if lt a b then 2 * pos + 1 else 2 * pos + 1 + 1
  | _, _ => 2 * pos + 1
theorem supc_lt {α : Type} (lt : α → α → Bool) (xs : List α) (pos : Nat) : pos < supc lt xs pos := by
  unfold supc; split
  · split <;> (first | exact om491 | exact om492)
  · exact om491
noncomputable def sup {α : Type} (lt : α → α → Bool) (xs : List α) (pos : Nat) : List α × Nat :=
  if _h : 2 * pos + 1 < xs.length then
    match xs[supc lt xs pos]? with
    | some v => sup lt (xs.set pos v) (supc lt xs pos)
    | none => (xs, pos)
  else (xs, pos)
termination_by xs.length - pos
decreasing_by
  have := supc_lt lt xs pos
  rw [List.length_set]; exact om490 _h this
noncomputable def siftup {α : Type} (lt : α → α → Bool) (item : α) (xs : List α) : List α := sdown lt item ((sup lt xs 0).1.set (sup lt xs 0).2 item) (sup lt xs 0).2
inductive SuJ (g : Heap) (l : Addr) (xs : List Row) (n : Nat) (item : Row) (n' : Nat) (m₁ : Str → Option Value) (g₁ : Heap) (nx₁ : List (Addr × Obj)) : Prop
  | mk (ys : List Row) (p : Nat) (kp kc ke : Int) (ts te tp tc : Tok) (ep : kp = p) (ec : kc = 2 * p + 1) (ee : ke = xs.length) (en : n' = xs.length - p) (eg : g₁ = g) (ex : nx₁ = [(l, listOf (ys.map Row.val).toArray n)]) (hl : ys.length = xs.length) (hp : p < xs.length) (hr : ∀ r ∈ ys, r.In g) (hs : sup rlt ys p = sup rlt xs 0) (ha : HasAll m₁ [("heap", .ref l), ("startpos", .int 0 ts), ("endpos", .int ke te), ("pos", .int kp tp), ("childpos", .int kc tc), ("newitem", item.val)]) : SuJ g l xs n item n' m₁ g₁ nx₁
theorem suJ_step {g : Heap} {l : Addr} {xs ys : List Row} {n p : Nat} {item : Row} {ts te : Tok} (hlen : ys.length = xs.length) (hry : ∀ r ∈ ys, r.In g) (hsd : sup rlt ys p = sup rlt xs 0) (c : Nat) (v : Row) (m₂ : Str → Option Value) (kp kc : Int) (tp' tc' : Tok) (h2 : 2 * p + 1 < xs.length) (hc : c = supc rlt ys p) (hv : ys[c]? = some v) (hkp : kp = c) (hkc : kc = 2 * c + 1)
    (e : HasAll m₂ [("heap", .ref l), ("startpos", .int 0 ts), ("endpos", .int xs.length te), ("pos", .int kp tp'), ("childpos", .int kc tc'), ("newitem", item.val)]) :
    xs.length - c < xs.length - p ∧ SuJ g l xs n item (xs.length - c) m₂ g ([(l, listOf (ys.map Row.val).toArray n)].set 0 (l, listOf ((ys.map Row.val).set (p : Int).toNat v.val).toArray n)) := by
  have hcl : c < ys.length := (List.getElem?_eq_some_iff.mp hv).1
  have hpc : p < c := hc ▸ supc_lt rlt ys p
  refine ⟨by exact om490 h2 hpc, ys.set p v, c, kp, kc, xs.length, _, _, _, _, hkp, hkc, rfl, rfl, rfl, by simp [List.map_set], by simpa using hlen, by exact om223 hlen hcl, ?_, ?_, e⟩
  · intro r hr
    rcases List.mem_or_eq_of_mem_set hr with h | h
    · exact hry r h
    · exact h ▸ hry _ (List.mem_of_getElem? hv)
  · rw [← hsd]
    conv => rhs; unfold sup
    rw [dif_pos (by exact om489 hlen h2), ← hc, hv]
set_option maxRecDepth 100000 in
set_option maxHeartbeats 4000000 in
theorem siftup_spec {w : World} {A : Around} {s : Shared} {g : Heap} {l : Addr} {xs : List Row} {n : Nat} {t1 : Tok} {Q : Value → Shared → Prop} (R : Rm A 2) (G : Gd w g) (st : g.StaysIn s.heap)
    (hl : s.heap.get? l = some (listOf (xs.map Row.val).toArray n)) (hg : g.get? l = none) (hr : ∀ r ∈ xs, r.In s.heap) (hz : xs.length < 1000) (item : Row) (hi : xs[0]? = some item)
    (hQ : ∀ h' tk', Ext [l] s.heap h' → h'.get? l = some (listOf ((siftup rlt item xs).map Row.val).toArray n) → Q .none { s with heap := h', toks := tk' }) :
    wpAny (model PG w) A (call (.ref 56) [.ref l, .int 0 t1]) Q NoE s := by
  refine enter (binds := [("heap", .ref l), ("pos", .int 0 t1)]) [(l, listOf (xs.map Row.val).toArray n)] G st (by simp [hl, hg]) (by simp) (by k_dflt k_is) (by k_dflt k_is) R.room (BindsTo.of_eq rfl) rfl (by decide) (by decide) ?_ rfl rfl rfl
  intro g' L h₁ tk G' hk S
  have zB : Base s := trivial
  have R' : ∀ env, Rm (A.deeper env) 1 := fun _ => R.deeper
  have hr' : ∀ r ∈ xs, r.In g' := by
    intro r hr1
    obtain ⟨t, u, o, ho, e, ee⟩ := hr r hr1
    refine ⟨t, u, o, hk _ _ ?_ ho, e, ee⟩
    intro hm
    have : r.addr = l := by simpa using hm
    rw [this, hl] at ho; cases ho; exact absurd e (by simp)
  have hext : ∀ h', g'.StaysIn h' → Ext [l] s.heap h' := fun h' k b o hb e => k b o (hk b o (by simpa using hb) e)
  clear hr G st hl hg R hk
  dsimp only [bindAll, List.foldl_cons, List.foldl_nil] at S
  k_steps
  refine led_len (i := 0) (by assumption) rfl (by simp; exact om488 hz) ?_
  intro t
  k_steps
  refine led_item (i := 0) (by assumption) rfl (by exact om21) (by exact om20) (v := item.val) (by simp [hi]) ?_ (by with_unfolding_all rfl)
  k_steps
  refine while_st (SuJ g' l xs n item) (n₀ := xs.length) (by assumption)
    ⟨xs, 0, 0, 2 * 0 + 1, (xs.map Row.val).length, _, _, _, _, by simp, by exact om487, by simp, by exact om486, rfl, rfl, rfl, (List.getElem?_eq_some_iff.mp hi).1, hr', rfl, rfl, rfl, rfl, rfl, rfl, rfl, trivial⟩ ?_
  rename St _ _ _ _ _ => zS
  clear zS
  rintro n' m₁ g₁ nx₁ h₁ tk₁ _ S ⟨ys, p, kp, kc, ke, ts, te, tp, tc, rfl, rfl, rfl, rfl, rfl, rfl, hlen, hpl, hry, hsd, e⟩
  replace S := S.norm e
  clear e
  dsimp only [putAll, List.foldr_cons, List.foldr_nil] at S
  have hit : item ∈ xs := List.mem_of_getElem? hi
  have un : ∀ env, (A.deeper env).units + 1 < cLine := fun env => Nat.lt_trans (Nat.add_lt_add_left (by decide) _) (R' env).units
  k_steps
  · refine Exists.elim (get_some (ys := ys) (i := 2 * p + 1) (by exact om478 hlen (by assumption))) fun a ha => ?_
    refine Exists.elim (get_some (ys := ys) (i := 2 * p + 1 + 1) (by exact om485 hlen (by assumption))) fun b hb => ?_
    have ea : (2 * p + 1 : Int).toNat = 2 * p + 1 := by exact om477
    have eb : (2 * p + 1 + 1 : Int).toNat = 2 * p + 1 + 1 := by exact om484
    refine led_item (i := 0) (by assumption) rfl (by exact om476) (by exact om475 hz hpl) (v := a.val) (by rw [ea]; simp [ha]) ?_ (by with_unfolding_all rfl)
    k_steps
    refine led_item (i := 0) (by assumption) rfl (by exact om483) (by exact om482 hz hpl) (v := b.val) (by rw [eb]; simp [hb]) ?_ (by with_unfolding_all rfl)
    k_steps
    refine rows_lt (r := a) (q := b) ((hry _ (List.mem_of_getElem? ha)).keeps (St.keep (by assumption))) ((hry _ (List.mem_of_getElem? hb)).keeps (St.keep (by assumption))) (un _) ?_
    k_steps
    · refine led_item (i := 0) (by assumption) rfl (by exact om476) (by exact om475 hz hpl) (v := a.val) (by rw [ea]; simp [ha]) ?_ (by with_unfolding_all rfl)
      k_steps
      refine led_set (i := 0) (by assumption) rfl (by exact om7) (by exact om371 hz hpl) (by simp; exact om370 hlen hpl) ?_
      rename St _ _ _ _ _ => zS
      clear zS
      intro h' S'
      k_steps
      (show WPost _ _ _ _ _ _ _ _); dsimp only [WPost]
      rename St _ _ _ _ _ => zS
      refine ⟨_, _, _, _, _, xs.length - (2 * p + 1), rfl, fun _ _ e => e, zS, by exact om474 hpl, (suJ_step hlen hry hsd (2 * p + 1) a _ _ _ _ _ (by exact om473 (by assumption)) (by unfold supc; rw [ha, hb]; simp [rlt, *]) ha ?_ ?_ ⟨rfl, rfl, rfl, rfl, rfl, rfl, trivial⟩).2⟩ <;> (first | exact om470 | exact om471)
    · refine led_item (i := 0) (by assumption) rfl (by exact om483) (by exact om482 hz hpl) (v := b.val) (by rw [eb]; simp [hb]) ?_ (by with_unfolding_all rfl)
      k_steps
      refine led_set (i := 0) (by assumption) rfl (by exact om7) (by exact om371 hz hpl) (by simp; exact om370 hlen hpl) ?_
      rename St _ _ _ _ _ => zS
      clear zS
      intro h' S'
      k_steps
      (show WPost _ _ _ _ _ _ _ _); dsimp only [WPost]
      rename St _ _ _ _ _ => zS
      refine ⟨_, _, _, _, _, xs.length - (2 * p + 1 + 1), rfl, fun _ _ e => e, zS, by exact om481 hpl, (suJ_step hlen hry hsd (2 * p + 1 + 1) b _ _ _ _ _ (by exact om473 (by assumption)) (by unfold supc; rw [ha, hb]; simp [rlt, *]) hb ?_ ?_ ⟨rfl, rfl, rfl, rfl, rfl, rfl, trivial⟩).2⟩ <;> (first | exact om479 | exact om480)
  · refine Exists.elim (get_some (ys := ys) (i := 2 * p + 1) (by exact om478 hlen (by assumption))) fun a ha => ?_
    have ea : (2 * p + 1 : Int).toNat = 2 * p + 1 := by exact om477
    · refine led_item (i := 0) (by assumption) rfl (by exact om476) (by exact om475 hz hpl) (v := a.val) (by rw [ea]; simp [ha]) ?_ (by with_unfolding_all rfl)
      k_steps
      refine led_set (i := 0) (by assumption) rfl (by exact om7) (by exact om371 hz hpl) (by simp; exact om370 hlen hpl) ?_
      rename St _ _ _ _ _ => zS
      clear zS
      intro h' S'
      k_steps
      (show WPost _ _ _ _ _ _ _ _); dsimp only [WPost]
      rename St _ _ _ _ _ => zS
      refine ⟨_, _, _, _, _, xs.length - (2 * p + 1), rfl, fun _ _ e => e, zS, by exact om474 hpl, (suJ_step hlen hry hsd (2 * p + 1) a _ _ _ _ _ (by exact om473 (by assumption)) (by unfold supc; rw [ha, List.getElem?_eq_none (by exact om472 hlen (by assumption))]) ha ?_ ?_ ⟨rfl, rfl, rfl, rfl, rfl, rfl, trivial⟩).2⟩ <;> (first | exact om470 | exact om471)
  · refine led_set (i := 0) (by assumption) rfl (by exact om7) (by exact om371 hz hpl) (by simp; exact om370 hlen hpl) ?_
    rename St _ _ _ _ _ => zS
    clear zS
    intro h' S'
    k_steps
    rename St _ _ _ _ _ => zS
    refine sd_call (xs := ys.set p item) (pos := p) zS G' (R' _) (i := 0) rfl (by simp [List.map_set]) ?_ rfl (by rw [List.length_set]; exact om370 hlen hpl) (by rw [List.length_set]; exact om469 hz hlen) item (by rw [List.getElem?_set_self (by exact om370 hlen hpl)]) ?_
    · intro r hr
      rcases List.mem_or_eq_of_mem_set hr with h | h
      · exact hry r h
      · exact h ▸ hr' _ hit
    clear zS
    intro h' tk' S'
    k_steps
    rename St _ _ _ _ _ => zS
    refine hQ _ _ (hext _ zS.keep) ?_
    have e2 := zS.at (i := 0) rfl
    have e : sup rlt xs 0 = (ys, p) := by
      rw [← hsd]; unfold sup; rw [dif_neg (by exact om468 hlen (by assumption))]
    simpa [siftup, e] using e2
theorem su_call {w : World} {A : Around} {s : Shared} {g : Heap} {env : Env} {m : Str → Option Value} {nx : List (Addr × Obj)} {i : Nat} {l : Addr} {vs : List Value} {xs : List Row} {n : Nat} {t1 : Tok} {Q : Value → Shared → Prop} (S : St g env s.heap m nx) (G : Gd w g) (R : Rm A 2)
    (hi : nx[i]? = some (l, listOf vs.toArray n)) (hv : vs = xs.map Row.val) (hr : ∀ r ∈ xs, r.In g) (hz : xs.length < 1000) (item : Row) (hit : xs[0]? = some item)
    (h : ∀ h' tk', St g env h' m (nx.set i (l, listOf ((siftup rlt item xs).map Row.val).toArray n)) → Q .none { s with heap := h', toks := tk' }) :
    wpAny (model PG w) A (call (.ref 56) [.ref l, .int 0 t1]) Q NoE s := by
  subst hv
  exact siftup_spec R G S.keep (S.at hi) (S.freshN _ (mem_fst_of_get hi)) (fun r q => (hr r q).keeps S.keep) hz item hit fun h' tk' x e => h h' tk' (S.ext1 hi x e)
end
-- Hp168
section
theorem rows_base {g' : Heap} {l : Addr} {vs : List Value} {n : Nat} {h : Heap} {xs : List Row} (hl : h.get? l = some (listOf vs.toArray n)) (hr : ∀ r ∈ xs, r.In h)
    (hk : ∀ b o, b ∉ [l] → h.get? b = some o → g'.get? b = some o) : ∀ r ∈ xs, r.In g' := by
  intro r hr1
  obtain ⟨t, u, o, ho, e, ee⟩ := hr r hr1
  refine ⟨t, u, o, hk _ _ ?_ ho, e, ee⟩
  intro hm
  have : r.addr = l := by simpa using hm
  rw [this, hl] at ho; cases ho; exact absurd e (by simp)
set_option maxRecDepth 100000 in
set_option maxHeartbeats 4000000 in
theorem push_spec {w : World} {A : Around} {s : Shared} {g : Heap} {l : Addr} {xs : List Row} {n : Nat} {r : Row} {Q : Value → Shared → Prop} (R : Rm A 2) (G : Gd w g) (st : g.StaysIn s.heap)
    (hl : s.heap.get? l = some (listOf (xs.map Row.val).toArray n)) (hg : g.get? l = none) (hr : ∀ q ∈ xs ++ [r], q.In s.heap) (hz : xs.length < 900)
    (hQ : ∀ h' tk', Ext [l] s.heap h' → h'.get? l = some (listOf ((sdown rlt r (xs ++ [r]) xs.length).map Row.val).toArray (n + 1)) → Q .none { s with heap := h', toks := tk' }) :
    wpAny (model PG w) A (call (.ref 28) [.ref l, .ref r.addr]) Q NoE s := by
  refine enter (binds := [("heap", .ref l), ("item", .ref r.addr)]) [(l, listOf (xs.map Row.val).toArray n)] G st (by simp [hl, hg]) (by simp) (by k_dflt k_is) (by k_dflt k_is) R.room (BindsTo.of_eq rfl) rfl (by decide) (by decide) ?_ rfl rfl rfl
  intro g' L h₁ tk G' hk S
  have zB : Base s := trivial
  have R' : ∀ env, Rm (A.deeper env) 1 := fun _ => R.deeper
  have hr' : ∀ q ∈ xs ++ [r], q.In g' := rows_base hl hr hk
  have hext : ∀ h', g'.StaysIn h' → Ext [l] s.heap h' := fun h' k b o hb e => k b o (hk b o (by simpa using hb) e)
  clear hr G st hl hg R hk
  dsimp only [bindAll, List.foldl_cons, List.foldl_nil] at S
  k_steps
  refine led_len (i := 0) (by assumption) rfl (by simp; exact om204 hz) ?_
  intro t
  k_steps
  rename St _ _ _ _ _ => zS
  refine sd_call (xs := xs ++ [r]) (pos := xs.length) zS G' (R' _) (i := 0) rfl (by simp) hr' (by simp) (by simp) (by simp; exact om203 hz) r (by simp) ?_
  clear zS
  intro h' tk' S'
  k_steps
  rename St _ _ _ _ _ => zS
  refine hQ _ _ (hext _ zS.keep) ?_
  have e2 := zS.at (i := 0) rfl
  simpa using e2
set_option maxRecDepth 100000 in
set_option maxHeartbeats 4000000 in
theorem replace_spec {w : World} {A : Around} {s : Shared} {g : Heap} {l : Addr} {xs : List Row} {n : Nat} {r q : Row} {Q : Value → Shared → Prop} (R : Rm A 3) (G : Gd w g) (st : g.StaysIn s.heap)
    (hl : s.heap.get? l = some (listOf ((q :: xs).map Row.val).toArray n)) (hg : g.get? l = none) (hr : ∀ q ∈ r :: xs, q.In s.heap) (hz : xs.length < 900)
    (hQ : ∀ h' tk', Ext [l] s.heap h' → h'.get? l = some (listOf ((siftup rlt r (r :: xs)).map Row.val).toArray n) → Q (.ref q.addr) { s with heap := h', toks := tk' }) :
    wpAny (model PG w) A (call (.ref 42) [.ref l, .ref r.addr]) Q NoE s := by
  refine enter (binds := [("heap", .ref l), ("item", .ref r.addr)]) [(l, listOf ((q :: xs).map Row.val).toArray n)] G st (by simp [hl, hg]) (by simp) (by k_dflt k_is) (by k_dflt k_is) R.room (BindsTo.of_eq rfl) rfl (by decide) (by decide) ?_ rfl rfl rfl
  intro g' L h₁ tk G' hk S
  have zB : Base s := trivial
  have R' : ∀ env, Rm (A.deeper env) 2 := fun _ => R.deeper
  have hr' : ∀ q ∈ r :: xs, q.In g' := rows_base hl hr hk
  have hext : ∀ h', g'.StaysIn h' → Ext [l] s.heap h' := fun h' k b o hb e => k b o (hk b o (by simpa using hb) e)
  clear hr G st hl hg R hk
  dsimp only [bindAll, List.foldl_cons, List.foldl_nil] at S
  k_steps
  refine led_item (i := 0) (by assumption) rfl (by exact om21) (by exact om20) (v := q.val) (by simp) ?_ (by with_unfolding_all rfl)
  k_steps
  refine led_set (i := 0) (by assumption) rfl (by exact om21) (by exact om20) (by simp) ?_
  rename St _ _ _ _ _ => zS
  clear zS
  intro h' S'
  k_steps
  rename St _ _ _ _ _ => zS
  refine su_call (xs := r :: xs) zS G' (R' _) (i := 0) rfl (by simp) hr' (by simp; exact om203 hz) r (by simp) ?_
  clear zS
  intro h' tk' S'
  k_steps
  rename St _ _ _ _ _ => zS
  refine hQ _ _ (hext _ zS.keep) ?_
  have e2 := zS.at (i := 0) rfl
  simpa using e2
set_option maxRecDepth 100000 in
set_option maxHeartbeats 4000000 in
theorem pop_spec {w : World} {A : Around} {s : Shared} {g : Heap} {l : Addr} {xs : List Row} {n : Nat} {r : Row} {Q : Value → Shared → Prop} (R : Rm A 3) (G : Gd w g) (st : g.StaysIn s.heap)
    (hl : s.heap.get? l = some (listOf ((xs ++ [r]).map Row.val).toArray n)) (hg : g.get? l = none) (hr : ∀ q ∈ xs ++ [r], q.In s.heap) (hz : xs.length < 900)
    (hQ : ∀ h' tk' q ys, Ext [l] s.heap h' → (match xs with | [] => q = r ∧ ys = [] | x :: xs => q = x ∧ ys = siftup rlt r (r :: xs)) → h'.get? l = some (listOf (ys.map Row.val).toArray (n + 1)) → Q (.ref q.addr) { s with heap := h', toks := tk' }) :
    wpAny (model PG w) A (call (.ref 35) [.ref l]) Q NoE s := by
  refine enter (binds := [("heap", .ref l)]) [(l, listOf ((xs ++ [r]).map Row.val).toArray n)] G st (by simp [hl, hg]) (by simp) (by k_dflt k_is) (by k_dflt k_is) R.room (BindsTo.of_eq rfl) rfl (by decide) (by decide) ?_ rfl rfl rfl
  intro g' L h₁ tk G' hk S
  have zB : Base s := trivial
  have R' : ∀ env, Rm (A.deeper env) 2 := fun _ => R.deeper
  have hr' : ∀ q ∈ xs ++ [r], q.In g' := rows_base hl hr hk
  have hext : ∀ h', g'.StaysIn h' → Ext [l] s.heap h' := fun h' k b o hb e => k b o (hk b o (by simpa using hb) e)
  clear hr G st hl hg R hk
  dsimp only [bindAll, List.foldl_cons, List.foldl_nil] at S
  k_steps
  rename St _ _ _ _ _ => zS
  refine led_pop zS (i := 0) rfl (us := xs.map Row.val) (y := r.val) (by simp) (by show _ ≤ (2 ^ 24 : Nat); simp; exact om202 hz) ?_
  clear zS
  intro h' S'
  k_steps
  rename St _ _ _ _ _ => zS
  refine led_truthy zS (i := 0) rfl (by simp; exact om201 hz) ?_
  intro tk
  cases xs with
  | nil =>
    refine ite_neg (by simp) ?_
    k_steps
    try dsimp only
    rename St _ _ _ _ _ => zS
    refine hQ _ _ r [] (hext _ zS.keep) ⟨rfl, rfl⟩ ?_
    have e2 := zS.at (i := 0) rfl
    simpa using e2
  | cons x xs =>
    refine ite_pos (by simp) ?_
    k_steps
    refine led_item (i := 0) (by assumption) rfl (by exact om21) (by exact om20) (v := x.val) (by simp) ?_ (by with_unfolding_all rfl)
    k_steps
    refine led_set (i := 0) (by assumption) rfl (by exact om21) (by exact om20) (by simp) ?_
    rename St _ _ _ _ _ => zS
    clear zS
    intro h' S'
    k_steps
    rename St _ _ _ _ _ => zS
    refine su_call (xs := r :: xs) zS G' (R' _) (i := 0) rfl (by simp) (fun q hq => hr' q (by simp at hq ⊢; rcases hq with h | h <;> simp [h])) (by simp at hz ⊢; exact om200 hz) r (by simp) ?_
    clear zS
    intro h' tk' S'
    k_steps
    try dsimp only
    rename St _ _ _ _ _ => zS
    refine hQ _ _ x _ (hext _ zS.keep) ⟨rfl, rfl⟩ ?_
    have e2 := zS.at (i := 0) rfl
    simpa using e2
section
variable {w : World} {A : Around} {s : Shared} {g : Heap} {env : Env} {m : Str → Option Value} {nx : List (Addr × Obj)} {i : Nat} {l : Addr} {vs : List Value} {xs : List Row} {n : Nat} {Q : Value → Shared → Prop}
theorem push_call {r : Row} (S : St g env s.heap m nx) (G : Gd w g) (R : Rm A 2) (hi : nx[i]? = some (l, listOf vs.toArray n)) (hv : vs = xs.map Row.val) (hr : ∀ q ∈ xs ++ [r], q.In s.heap) (hz : xs.length < 900)
    (h : ∀ h' tk', St g env h' m (nx.set i (l, listOf ((sdown rlt r (xs ++ [r]) xs.length).map Row.val).toArray (n + 1))) → Ext [l] s.heap h' → Q .none { s with heap := h', toks := tk' }) :
    wpAny (model PG w) A (call (.ref 28) [.ref l, .ref r.addr]) Q NoE s := by
  subst hv
  exact push_spec R G S.keep (S.at hi) (S.freshN _ (mem_fst_of_get hi)) hr hz fun h' tk' x e => h h' tk' (S.ext1 hi x e) x
theorem replace_call {r q : Row} (S : St g env s.heap m nx) (G : Gd w g) (R : Rm A 3) (hi : nx[i]? = some (l, listOf vs.toArray n)) (hv : vs = (q :: xs).map Row.val) (hr : ∀ q ∈ r :: xs, q.In s.heap) (hz : xs.length < 900)
    (h : ∀ h' tk', St g env h' m (nx.set i (l, listOf ((siftup rlt r (r :: xs)).map Row.val).toArray n)) → Ext [l] s.heap h' → Q (.ref q.addr) { s with heap := h', toks := tk' }) :
    wpAny (model PG w) A (call (.ref 42) [.ref l, .ref r.addr]) Q NoE s := by
  subst hv
  exact replace_spec R G S.keep (S.at hi) (S.freshN _ (mem_fst_of_get hi)) hr hz fun h' tk' x e => h h' tk' (S.ext1 hi x e) x
/-- what heappop hands back and leaves -/
noncomputable def popped (xs : List Row) (r : Row) : Row × List Row := match xs with
  | [] => (r, [])
  | x :: xs => (x, siftup rlt r (r :: xs))
theorem pop_call {r : Row} (S : St g env s.heap m nx) (G : Gd w g) (R : Rm A 3) (hi : nx[i]? = some (l, listOf vs.toArray n)) (hv : vs = (xs ++ [r]).map Row.val) (hr : ∀ q ∈ xs ++ [r], q.In s.heap) (hz : xs.length < 900)
    (h : ∀ h' tk', St g env h' m (nx.set i (l, listOf ((popped xs r).2.map Row.val).toArray (n + 1))) → Ext [l] s.heap h' → Q (.ref (popped xs r).1.addr) { s with heap := h', toks := tk' }) :
    wpAny (model PG w) A (call (.ref 35) [.ref l]) Q NoE s := by
  subst hv
  refine pop_spec R G S.keep (S.at hi) (S.freshN _ (mem_fst_of_get hi)) hr hz fun h' tk' q ys x hq e => ?_
  have hp : popped xs r = (q, ys) := by
    cases xs with
    | nil => obtain ⟨rfl, rfl⟩ := hq; rfl
    | cons y ys => obtain ⟨rfl, rfl⟩ := hq; rfl
  rw [hp] at h
  exact h h' tk' (S.ext1 hi x e) x
end
end
-- Lo168
section
/-- the sons of a row, in order: by weights, with the letters a, b, c -/
noncomputable def sonsT (ws : List Int) (r : Int × List Nat) : List (Int × List Nat) := (List.range ws.length).map fun k => ((r.1 * ws.getD k 0).fdiv ws.sum, r.2 ++ [97 + k])
theorem sonsT_len (ws : List Int) (r : Int × List Nat) : (sonsT ws r).length = ws.length := by simp [sonsT]
theorem sonsT_flat_len (ws : List Int) : ∀ l : List (Int × List Nat), (l.flatMap (sonsT ws)).length = l.length * ws.length
  | [] => by simp
  | x :: r => by rw [List.flatMap_cons, List.length_append, sonsT_flat_len ws r, sonsT_len, List.length_cons, Nat.add_mul]; exact om61
noncomputable abbrev keyT (p : Int × List Nat) : Int × Str := (p.1, T p.2)
inductive LoJ (g' : Heap) (ws : List Int) (ps : List (Int × List Nat)) (lw D : Addr) (i : Nat) (m₁ : PySem.Str → Option Value) (g₁ : Heap) (nx₁ : List (Addr × Obj)) : Prop
  | mk (ys : List Row) (n : Nat) (t : Tok) (en : nx₁ = [(D, listOf (ys.map Row.val).toArray n)]) (hr : ∀ r ∈ ys, r.In g₁ ∧ g'.get? r.addr = none) (hk : ys.map Row.key = ((ps.take i).flatMap (sonsT ws)).map keyT)
    (ha : HasAll m₁ [("weights", .ref lw), ("whole", .int ws.sum t), ("longer", .ref D)]) : LoJ g' ws ps lw D i m₁ g₁ nx₁
inductive LoK (g' : Heap) (ws : List Int) (p : Int × List Nat) (ys : List Row) (lw D I : Addr) (oI : Obj) (k : Nat) (m₁ : PySem.Str → Option Value) (g₁ : Heap) (nx₁ : List (Addr × Obj)) : Prop
  | mk (zs : List Row) (n : Nat) (t t1 t2 : Tok) (en : nx₁ = [(I, oI), (D, listOf ((ys ++ zs).map Row.val).toArray n)]) (hr : ∀ r ∈ ys ++ zs, r.In g₁ ∧ g'.get? r.addr = none) (hk : zs.map Row.key = ((sonsT ws p).take k).map keyT)
      (ha : HasAll m₁ [("weights", .ref lw), ("whole", .int ws.sum t), ("longer", .ref D), ("less", .int p.1 t1), ("letters", .str (T p.2) t2)]) : LoK g' ws p ys lw D I oI k m₁ g₁ nx₁
set_option maxRecDepth 100000 in
set_option maxHeartbeats 4000000 in
theorem longer_spec {w : World} {A : Around} {s : Shared} {g : Heap} {lr lw : Addr} {xs : List Row} {ps : List (Int × List Nat)} {vw : List Value} {ws : List Int} {Q : Value → Shared → Prop} (R : Rm A 1) (G : Gd w g) (st : g.StaysIn s.heap)
    (hl : s.heap.IsList lr (xs.map Row.val).toArray) (hr : ∀ r ∈ xs, r.In s.heap) (hx : xs.map Row.key = ps.map keyT) (hw : s.heap.IsList lw vw.toArray) (hiw : IntsAre vw ws) (hn : 2 ≤ ws.length ∧ ws.length ≤ 3) (hpos : ∀ x ∈ ws, 0 < x ∧ x < 10) (hsum : 0 < ws.sum ∧ ws.sum < 100) (hz : xs.length < 500) (hu : ∀ p ∈ ps, p.2.length < 100 ∧ -1000000 ≤ p.1 ∧ p.1 ≤ 0)
    (hQ : ∀ h' tk' a n (ys : List Row), s.heap.StaysIn h' → h'.get? a = some (listOf (ys.map Row.val).toArray n) → s.heap.get? a = none → (∀ r ∈ ys, r.In h') → (∀ r ∈ ys, s.heap.get? r.addr = none) → ys.map Row.key = (ps.flatMap (sonsT ws)).map keyT → Q (.ref a) { s with heap := h', toks := tk' }) :
    wpAny (model PG w) A (call (.ref 181) [.ref lr, .ref lw]) Q NoE s := by
  refine enter (binds := [("rows", .ref lr), ("weights", .ref lw)]) [] G st (by simp) (by simp) (by k_dflt k_is) (by k_dflt k_is) R.room (BindsTo.of_eq rfl) rfl (by decide) (by decide) ?_ rfl rfl rfl
  intro g' L h₁ tk G' hk S
  have zB : Base s := trivial
  have R' : ∀ env, Rm (A.deeper env) 0 := fun _ => R.deeper
  have hext : ∀ h', g'.StaysIn h' → s.heap.StaysIn h' := fun h' k b o e => k b o (hk b o (by simp) e)
  have hkg : s.heap.StaysIn g' := fun b o e => hk b o (by simp) e
  have hl' : g'.IsList lr (xs.map Row.val).toArray := let ⟨o, ho, r⟩ := hl; ⟨o, hkg _ _ ho, r⟩
  have hw' : g'.IsList lw vw.toArray := let ⟨o, ho, r⟩ := hw; ⟨o, hkg _ _ ho, r⟩
  have hr' : ∀ r ∈ xs, r.In g' := fun r q => (hr r q).keeps hkg
  have hfr : ∀ a, g'.get? a = none → s.heap.get? a = none := fun a e => by
    cases q : s.heap.get? a with
    | none => rfl
    | some o => rw [hk a o (by simp) q] at e; cases e
  clear G st R hk hl hw hr
  dsimp only [bindAll, List.foldl_cons, List.foldl_nil] at S
  k_steps
  rename St _ _ _ _ _ => zS
  refine sum_st zS (R' _).hand (let ⟨o, ho, r⟩ := hw'; ⟨o, zS.keep _ _ ho, r⟩) hiw ?_
  clear zS
  intro h' tk t' S' _
  k_steps
  rename St _ _ _ _ _ => zS
  rename_i D _ _ _ _ _
  refine it_list (vs := xs.map Row.val) zS (R' _).hand hl' ?_
  clear zS
  intro I oI h' S' W _
  refine for_it (LoJ g' ws ps lw D) S' W ⟨[], 0, _, rfl, by simp, by simp, rfl, rfl, rfl, trivial⟩ ?_ ?_
  · clear S' W
    rintro i v m₁ g₁ nx₁ h₁ tk₁ oI hi hP kg hpl S ⟨ys, n, t, rfl, hry, hyk, e⟩
    replace S := S.norm e
    dsimp only [putAll, List.foldr_cons, List.foldr_nil] at S
    have hw1 : g₁.IsList lw vw.toArray := let ⟨o, ho, r⟩ := hw'; ⟨o, kg _ _ ho, r⟩
    have G1 : Gd w g₁ := G'.mono kg
    rw [List.getElem?_map] at hP
    obtain ⟨r, hxr, rfl⟩ := Option.map_eq_some_iff.mp hP
    have hlen : xs.length = ps.length := by simpa using congrArg List.length hx
    have hrm := List.mem_of_getElem? hxr
    obtain ⟨p, hpi⟩ : ∃ p, ps[i]? = some p := get_some (by rw [← hlen]; simpa using hi)
    have hpm := List.mem_of_getElem? hpi
    have hrk : r.key = keyT p := by
      have := congrArg (fun l => l[i]?) hx
      simp only [List.getElem?_map, hxr, hpi, Option.map_some] at this
      exact Option.some.inj this
    obtain ⟨t1, t2, htup⟩ := (hr' r hrm).keeps kg
    have e1 : r.less = p.1 := congrArg Prod.fst hrk
    have e2 : r.way = T p.2 := congrArg Prod.snd hrk
    rw [e1, e2] at htup
    have hvw : vw.length = ws.length := by rw [hiw.length]
    refine let_tup (vs := [.int p.1 t1, .str (T p.2) t2]) S hpl (R' _).hand (let ⟨o, ho, r⟩ := htup; ⟨o, S.keep _ _ ho, r⟩) rfl rfl ?_
    clear S
    intro h' S _
    k_steps
    rename St _ _ _ _ _ => zS
    refine len_list (let ⟨o, ho, r⟩ := hw1; ⟨o, zS.keep _ _ ho, r⟩) (by simp; exact om135 hn hvw) ?_
    k_steps
    rename St _ _ _ _ _ => zS
    refine it_r1 zS at0 (n := ws.length) (by simp [hvw]) (by exact om134 hn) (R' _).hand ?_
    clear zS
    intro I2 oI2 h' S W _
    replace S := S.forget1
    refine for_it (LoK g' ws p ys lw D I oI) S W ⟨[], n, _, _, _, by simp, by simpa using hry, by simp, rfl, rfl, rfl, rfl, rfl, trivial⟩ ?_ ?_
    · clear S W
      rintro k v m₂ g₂ nx₂ h₁ tk₁ oI2 hk2 ⟨tk2, rfl⟩ kg2 - S ⟨zs, n, t, t1, t2, rfl, hrz, hzk, e⟩
      replace S := S.norm e
      dsimp only [putAll, List.foldr_cons, List.foldr_nil] at S
      have hw2 : g₂.IsList lw vw.toArray := let ⟨o, ho, r⟩ := hw1; ⟨o, kg2 _ _ ho, r⟩
      have G2 : Gd w g₂ := G1.mono kg2
      have hyl : ys.length ≤ 1500 := by
        have := congrArg List.length hyk
        rw [List.length_map, List.length_map, sonsT_flat_len] at this
        have h1 : (ps.take i).length ≤ 500 := by rw [List.length_take]; exact om255 hz hlen
        rw [this]; exact Nat.mul_le_mul h1 hn.2
      have hzl : zs.length ≤ 3 := by
        have := congrArg List.length hzk
        rw [List.length_map, List.length_map, List.length_take, sonsT_len] at this
        exact om254 hn this
      obtain ⟨x, hxk⟩ : ∃ x, ws[k]? = some x := get_some hk2
      obtain ⟨tx, hvx⟩ : ∃ t, vw[k]? = some (.int x t) := hiw.get _ _ hxk
      refine let_name ?_
      k_steps
      rename St _ _ _ _ _ => zS
      refine item_listL (let ⟨o, ho, r⟩ := hw2; ⟨o, zS.keep _ _ ho, r⟩) (by exact om7) (by exact om132 hn hk2) (by simpa using hvx) ?_
      have hpb := hu p hpm
      have hxb := hpos x (List.mem_of_getElem? hxk)
      refine mul_int ?_ (.of_right (intBits_le_64 (by exact om253 hxb) (by exact om252 hxb)))
      k_steps
      refine item_T (n := k) (c := 97 + k) rfl (by rcases k with _ | _ | _ | k <;> first | rfl | exact (om129 hn hk2).elim) (by exact om128 hn hk2) ?_ (by with_unfolding_all rfl) (by intro _; with_unfolding_all rfl)
      intro t' k'
      k_steps
      rename St _ _ _ _ _ => zS
      (show FPost _ _ _ _ _ _ _ _ _ _); dsimp only [FPost]
      rename Addr => a'
      refine ⟨_, _, _, _, [(I, oI), (D, _)], [_], rfl, kg2, zS.roll, fun g₃ k3 hex => ?_⟩
      have hnew := hex _ (.head _)
      refine ⟨zs ++ [⟨a', (p.1 * x).fdiv ws.sum, T p.2 ++ T [97 + k]⟩], n + 1, t, t1, t2, ?_, ?_, ?_, rfl, rfl, rfl, rfl, rfl, trivial⟩
      · simp
      · intro r hr
        rw [← List.append_assoc] at hr
        rcases List.mem_append.mp hr with hr | hr
        · exact ⟨(hrz r hr).1.keeps k3, (hrz r hr).2⟩
        · rw [List.mem_singleton.mp hr]
          refine ⟨⟨_, _, _, hnew, rfl, _, rfl⟩, ?_⟩
          have hf : g₂.get? a' = none := zS.freshN _ (.head _)
          cases q : g'.get? a' with
          | none => rfl
          | some o => rw [kg2 _ _ (kg _ _ q)] at hf; cases hf
      · rw [List.map_append, hzk, List.take_add_one, List.map_append]
        congr 1
        have : (sonsT ws p)[k]? = some ((p.1 * x).fdiv ws.sum, p.2 ++ [97 + k]) := by
          unfold sonsT
          rw [List.getElem?_map, List.getElem?_range hk2]
          simp [List.getD, hxk]
        rw [this]
        simp [keyT, T_app]
    · clear S W
      rintro m₂ g₂ nx₂ h₁ tk₁ kg2 S ⟨zs, n, t, t1, t2, rfl, hrz, hzk, e⟩
      k_steps
      (show FPost _ _ _ _ _ _ _ _ _ _); dsimp only [FPost]
      rename St _ _ _ _ _ => zS
      refine ⟨_, _, _, _, [(D, _)], [], rfl, fun b o e => kg2 _ _ (kg _ _ e), zS, fun g₃ k3 hex => ?_⟩
      refine ⟨ys ++ zs, _, t, rfl, fun r hr => ⟨(hrz r hr).1.keeps k3, (hrz r hr).2⟩, ?_, e.1, e.2.1, e.2.2.1, trivial⟩
      rw [List.map_append, hyk, hzk, List.take_of_length_le (l := sonsT ws p) (by rw [sonsT_len]; exact Nat.le_refl _), List.take_add_one, List.flatMap_append, List.map_append, hpi]
      simp
  · clear S' W
    rintro m₁ g₁ nx₁ h₁ tk₁ kg S ⟨ys, n, t, rfl, hry, hyk, e⟩
    replace S := S.norm e
    dsimp only [putAll, List.foldr_cons, List.foldr_nil] at S
    k_steps
    try dsimp only
    rename St _ _ _ _ _ => zS
    have hDg : g₁.get? D = none := zS.freshN _ (.head _)
    refine hQ _ _ D n ys (hext _ fun b o e => zS.keep _ _ (kg _ _ e)) (zS.at at0) (hfr D ?_) (fun r hr => (hry r hr).1.keeps zS.keep) (fun r hr => hfr _ (hry r hr).2) ?_
    · cases q : g'.get? D with
      | none => rfl
      | some o => rw [kg _ _ q] at hDg; cases hDg
    · rw [hyk, List.take_of_length_le]
      rw [← (show xs.length = ps.length by simpa using congrArg List.length hx)]; simp
end
-- Sim168
section
/-- two lists of one length, item by item -/
structure Rel2 {α β : Type} (R : α → β → Prop) (xs : List α) (ys : List β) : Prop where
  len : xs.length = ys.length
  at' : ∀ (i : Nat) (x : α) (y : β), xs[i]? = some x → ys[i]? = some y → R x y
section
variable {α β : Type} {R : α → β → Prop}
theorem Rel2.nil : Rel2 R ([] : List α) ([] : List β) := ⟨rfl, fun i x y h => by simp at h⟩
theorem Rel2.cons {x : α} {y : β} {xs : List α} {ys : List β} (h : R x y) (r : Rel2 R xs ys) : Rel2 R (x :: xs) (y :: ys) := ⟨by simp [r.len], fun i a b ha hb => by
  cases i with
  | zero => simp at ha hb; subst ha hb; exact h
  | succ i => simp at ha hb; exact r.at' i a b ha hb⟩
theorem Rel2.head {x : α} {y : β} {xs : List α} {ys : List β} (r : Rel2 R (x :: xs) (y :: ys)) : R x y := r.at' 0 x y rfl rfl
theorem Rel2.tail {x : α} {y : β} {xs : List α} {ys : List β} (r : Rel2 R (x :: xs) (y :: ys)) : Rel2 R xs ys := ⟨by simpa using r.len, fun i a b ha hb => r.at' (i + 1) a b (by simpa using ha) (by simpa using hb)⟩
theorem Rel2.mono {R' : α → β → Prop} {xs : List α} {ys : List β} (h : ∀ x y, R x y → R' x y) (r : Rel2 R xs ys) : Rel2 R' xs ys := ⟨r.len, fun i a b ha hb => h _ _ (r.at' i a b ha hb)⟩
theorem Rel2.left {xs : List α} {ys : List β} (r : Rel2 R xs ys) {i : Nat} {x : α} (h : xs[i]? = some x) : ∃ y, ys[i]? = some y ∧ R x y := by
  obtain ⟨y, hy⟩ : ∃ y, ys[i]? = some y := get_some (by rw [← r.len]; exact (List.getElem?_eq_some_iff.mp h).1)
  exact ⟨y, hy, r.at' i x y h hy⟩
theorem Rel2.right {xs : List α} {ys : List β} (r : Rel2 R xs ys) {i : Nat} {y : β} (h : ys[i]? = some y) : ∃ x, xs[i]? = some x ∧ R x y := by
  obtain ⟨x, hx⟩ : ∃ x, xs[i]? = some x := get_some (by rw [r.len]; exact (List.getElem?_eq_some_iff.mp h).1)
  exact ⟨x, hx, r.at' i x y hx h⟩
theorem Rel2.mem {xs : List α} {ys : List β} (r : Rel2 R xs ys) {x : α} (h : x ∈ xs) : ∃ y, y ∈ ys ∧ R x y := by
  obtain ⟨i, hi⟩ := List.getElem?_of_mem h
  obtain ⟨y, hy, e⟩ := r.left hi
  exact ⟨y, List.mem_of_getElem? hy, e⟩
theorem Rel2.memR {xs : List α} {ys : List β} (r : Rel2 R xs ys) {y : β} (h : y ∈ ys) : ∃ x, x ∈ xs ∧ R x y := by
  obtain ⟨i, hi⟩ := List.getElem?_of_mem h
  obtain ⟨x, hx, e⟩ := r.right hi
  exact ⟨x, List.mem_of_getElem? hx, e⟩
theorem Rel2.append {xs xs' : List α} {ys ys' : List β} (r : Rel2 R xs ys) (r' : Rel2 R xs' ys') : Rel2 R (xs ++ xs') (ys ++ ys') := ⟨by simp [r.len, r'.len], fun i a b ha hb => by
  by_cases h : i < xs.length
  · rw [List.getElem?_append_left h] at ha
    rw [List.getElem?_append_left (by rw [← r.len]; exact h)] at hb
    exact r.at' i a b ha hb
  · rw [List.getElem?_append_right (by exact om380 h)] at ha
    rw [List.getElem?_append_right (by rw [← r.len]; exact om380 h), ← r.len] at hb
    exact r'.at' _ a b ha hb⟩
theorem Rel2.set {xs : List α} {ys : List β} (r : Rel2 R xs ys) (k : Nat) {x : α} {y : β} (h : R x y) : Rel2 R (xs.set k x) (ys.set k y) := ⟨by simp [r.len], fun i a b ha hb => by
  by_cases e : k = i
  · subst e
    by_cases hl : k < xs.length
    · rw [List.getElem?_set_self hl] at ha
      rw [List.getElem?_set_self (by rw [← r.len]; exact hl)] at hb
      cases ha; cases hb; exact h
    · have : (xs.set k x)[k]? = none := List.getElem?_eq_none (by simp; exact om380 hl)
      rw [this] at ha; cases ha
  · rw [List.getElem?_set_ne e] at ha hb
    exact r.at' i a b ha hb⟩
theorem Rel2.map {γ : Type} {f : α → γ} {k : β → γ} {xs : List α} {ys : List β} (r : Rel2 R xs ys) (h : ∀ x y, R x y → f x = k y) : xs.map f = ys.map k := by
  refine List.ext_getElem? fun i => ?_
  rw [List.getElem?_map, List.getElem?_map]
  cases hx : xs[i]? with
  | none =>
    have : ys[i]? = none := List.getElem?_eq_none (by rw [← r.len]; exact List.getElem?_eq_none_iff.mp hx)
    simp [this]
  | some x =>
    obtain ⟨y, hy, e⟩ := r.left hx
    simp [hy, h _ _ e]
theorem Rel2.of_map {γ : Type} {f : α → γ} {k : β → γ} {xs : List α} {ys : List β} (e : xs.map f = ys.map k) : Rel2 (fun x y => f x = k y) xs ys := ⟨by simpa using congrArg List.length e, fun i x y hx hy => by
  have := congrArg (fun l => l[i]?) e
  simpa [hx, hy] using this⟩
theorem Rel2.drop {xs : List α} {ys : List β} (r : Rel2 R xs ys) (k : Nat) : Rel2 R (xs.drop k) (ys.drop k) := ⟨by simp [r.len], fun i a b ha hb => by
  rw [List.getElem?_drop] at ha hb; exact r.at' _ a b ha hb⟩
theorem Rel2.take {xs : List α} {ys : List β} (r : Rel2 R xs ys) (k : Nat) : Rel2 R (xs.take k) (ys.take k) := ⟨by simp [r.len], fun i a b ha hb => by
  rw [List.getElem?_take] at ha hb
  split at ha
  · rename_i h; rw [if_pos h] at hb; exact r.at' _ a b ha hb
  · cases ha⟩
variable {lt : α → α → Bool} {lt' : β → β → Bool} (hlt : ∀ a a' b b', R a b → R a' b' → lt a a' = lt' b b')
include hlt
theorem sdown_rel {item : α} {item' : β} (hi : R item item') : ∀ (pos : Nat) (xs : List α) (ys : List β), Rel2 R xs ys → Rel2 R (sdown lt item xs pos) (sdown lt' item' ys pos) := by
  intro pos
  induction pos using Nat.strongRecOn with
  | ind pos ih =>
    intro xs ys r
    unfold sdown
    by_cases h : 0 < pos
    · rw [dif_pos h, dif_pos h]
      cases hx : xs[(pos - 1) / 2]? with
      | none =>
        have : ys[(pos - 1) / 2]? = none := List.getElem?_eq_none (by rw [← r.len]; exact List.getElem?_eq_none_iff.mp hx)
        rw [this]; exact r.set _ hi
      | some p =>
        obtain ⟨q, hq, e⟩ := r.left hx
        rw [hq]
        show Rel2 R (if lt item p = true then _ else _) (if lt' item' q = true then _ else _)
        rw [hlt _ _ _ _ hi e]
        split
        · exact ih _ (by exact om106 h) _ _ (r.set _ e)
        · exact r.set _ hi
    · rw [dif_neg h, dif_neg h]; exact r.set _ hi
theorem supc_rel {xs : List α} {ys : List β} (r : Rel2 R xs ys) (pos : Nat) : supc lt xs pos = supc lt' ys pos := by
  unfold supc
  cases h1 : xs[2 * pos + 1]? with
  | none =>
    have : ys[2 * pos + 1]? = none := List.getElem?_eq_none (by rw [← r.len]; exact List.getElem?_eq_none_iff.mp h1)
    rw [this]
  | some a =>
    obtain ⟨b, hb, e⟩ := r.left h1
    rw [hb]
    cases h2 : xs[2 * pos + 1 + 1]? with
    | none =>
      have : ys[2 * pos + 1 + 1]? = none := List.getElem?_eq_none (by rw [← r.len]; exact List.getElem?_eq_none_iff.mp h2)
      rw [this]
    | some a' =>
      obtain ⟨b', hb', e'⟩ := r.left h2
      rw [hb']
      show (if lt a a' = true then _ else _) = (if lt' b b' = true then _ else _)
      rw [hlt _ _ _ _ e e']
theorem sup_rel : ∀ (n : Nat) (xs : List α) (ys : List β) (pos : Nat), xs.length - pos ≤ n → Rel2 R xs ys → Rel2 R (sup lt xs pos).1 (sup lt' ys pos).1 ∧ (sup lt xs pos).2 = (sup lt' ys pos).2 := by
  intro n
  induction n with
  | zero =>
    intro xs ys pos hn r
    unfold sup
    rw [dif_neg (by exact om105 hn), dif_neg (by rw [← r.len]; exact om105 hn)]
    exact ⟨r, rfl⟩
  | succ n ih =>
    intro xs ys pos hn r
    unfold sup
    by_cases h : 2 * pos + 1 < xs.length
    · rw [dif_pos h, dif_pos (by rw [← r.len]; exact h)]
      rw [supc_rel hlt r pos]
      cases hx : xs[supc lt' ys pos]? with
      | none =>
        have : ys[supc lt' ys pos]? = none := List.getElem?_eq_none (by rw [← r.len]; exact List.getElem?_eq_none_iff.mp hx)
        rw [this]; exact ⟨r, rfl⟩
      | some v =>
        obtain ⟨v', hv', e⟩ := r.left hx
        rw [hv']
        have := supc_lt lt' ys pos
        have := ih (xs.set pos v) (ys.set pos v') (supc lt' ys pos) (by simp; exact om104 hn this) (r.set _ e)
        simpa [supc_rel hlt r pos] using this
    · rw [dif_neg h, dif_neg (by rw [← r.len]; exact h)]
      exact ⟨r, rfl⟩
theorem siftup_rel {item : α} {item' : β} (hi : R item item') {xs : List α} {ys : List β} (r : Rel2 R xs ys) : Rel2 R (siftup lt item xs) (siftup lt' item' ys) := by
  obtain ⟨h1, h2⟩ := sup_rel hlt _ xs ys 0 (Nat.le_refl _) r
  unfold siftup
  rw [h2]
  exact sdown_rel hlt hi _ _ _ (h1.set _ hi)
end
/-- a row and its letters -/
noncomputable abbrev keyW (p : Int × List Nat) : Int × Str := (p.1, way p.2)
noncomputable def OkP (i : Nat) (p : Int × List Nat) : Prop := p.2.length ≤ i ∧ (∀ c ∈ p.2, 97 ≤ c ∧ c ≤ 99) ∧ -1000000 ≤ p.1 ∧ p.1 ≤ 0
/-- likelier first, then by the letters -/
noncomputable def plt (a b : Int × List Nat) : Bool := if a.1 = b.1 then decide (a.2 < b.2) else decide (a.1 < b.1)
theorem flat_lt : ∀ u v : List Nat, ((u.flatMap fun c => [47, c]) < (v.flatMap fun c => [47, c])) ↔ u < v
  | [], [] => by simp
  | [], _ :: _ => by simp
  | _ :: _, [] => by simp
  | a :: u, b :: v => by
    simp only [List.flatMap_cons, List.cons_append, List.nil_append]
    rw [List.cons_lt_cons_iff, List.cons_lt_cons_iff, List.cons_lt_cons_iff]
    simp [flat_lt u v]
theorem wayL_lt (u v : List Nat) : wayL u < wayL v ↔ u < v := by
  cases u with
  | nil => cases v with
    | nil => simp
    | cons b v => simp [wayL, List.cons_lt_cons_iff]
  | cons a u => cases v with
    | nil => simp [wayL, List.cons_lt_cons_iff]
    | cons b v => simpa [wayL] using flat_lt (a :: u) (b :: v)
theorem klt_way (p q : Int × List Nat) : klt (keyW p) (keyW q) = plt p q := by
  unfold klt plt
  have : ((way p.2).cps.toList < (way q.2).cps.toList) = (p.2 < q.2) := propext (wayL_lt p.2 q.2)
  simp only [keyW]
  by_cases h : p.1 = q.1
  · rw [if_pos h, if_pos h]; exact decide_eq_decide.mpr (by rw [this])
  · rw [if_neg h, if_neg h]
theorem klt_T (p q : Int × List Nat) : klt (keyT p) (keyT q) = plt p q := rfl
/-- the growth on letters -/
noncomputable def pushP (h : List (Int × List Nat)) (p : Int × List Nat) : List (Int × List Nat) := sdown plt p (h ++ [p]) h.length
noncomputable def growP (ws : List Int) (s : List (Int × List Nat) × List (Int × List Nat)) : List (Int × List Nat) × List (Int × List Nat) := match s.1 with
  | [] => s
  | t :: r => match sonsT ws t with
    | [] => s
    | a :: l => (l.foldl pushP (siftup plt a (a :: r)), s.2 ++ [t])
noncomputable def growN (ws : List Int) (n : Nat) : Nat → List (Int × List Nat) × List (Int × List Nat)
  | 0 => ([(-(ws.sum ^ n), [])], [])
  | i + 1 => growP ws (growN ws n i)
noncomputable def popP : List (Int × List Nat) → List (Int × List Nat) × List (Int × List Nat)
  | [] => ([], [])
  | x :: xs => match xs.getLast? with
    | none => ([x], [])
    | some r => ([x], siftup plt r (r :: xs.dropLast))
noncomputable def popN : Nat → List (Int × List Nat) → List (Int × List Nat)
  | 0, _ => []
  | n + 1, h => (popP h).1 ++ popN n (popP h).2
noncomputable def RelW (i : Nat) (r : Row) (p : Int × List Nat) : Prop := r.key = keyW p ∧ OkP i p
theorem relW_lt {i : Nat} {a a' : Row} {b b' : Int × List Nat} (h : RelW i a b) (h' : RelW i a' b') : rlt a a' = plt b b' := by
  show klt a.key a'.key = _
  rw [h.1, h'.1, klt_way]
end
-- Gl168
section
section
variable {α : Type} (lt : α → α → Bool)
theorem sdown_len (item : α) : ∀ (pos : Nat) (xs : List α), (sdown lt item xs pos).length = xs.length := by
  intro pos
  induction pos using Nat.strongRecOn with
  | ind pos ih =>
    intro xs
    unfold sdown
    split
    · split
      · split
        · rw [ih _ (by exact om106 (by assumption))]; simp
        · simp
      · simp
    · simp
theorem sup_len : ∀ (n : Nat) (xs : List α) (pos : Nat), xs.length - pos ≤ n → (sup lt xs pos).1.length = xs.length := by
  intro n
  induction n with
  | zero => intro xs pos hn; unfold sup; rw [dif_neg (by exact om105 hn)]
  | succ n ih =>
    intro xs pos hn
    unfold sup
    split
    · split
      · have := supc_lt lt xs pos
        rw [ih _ _ (by simp; exact om104 hn this)]; simp
      · rfl
    · rfl
theorem siftup_len (item : α) (xs : List α) : (siftup lt item xs).length = xs.length := by
  unfold siftup
  rw [sdown_len, List.length_set, sup_len lt _ xs 0 (Nat.le_refl _)]
theorem sdown_mem {item x : α} : ∀ (pos : Nat) (xs : List α), x ∈ sdown lt item xs pos → x ∈ xs ∨ x = item := by
  intro pos
  induction pos using Nat.strongRecOn with
  | ind pos ih =>
    intro xs h
    unfold sdown at h
    split at h
    · split at h
      · rename_i p hp
        split at h
        · rcases ih _ (by exact om106 (by assumption)) _ h with h | h
          · rcases List.mem_or_eq_of_mem_set h with h | h
            · exact .inl h
            · exact .inl (h ▸ List.mem_of_getElem? hp)
          · exact .inr h
        · exact List.mem_or_eq_of_mem_set h
      · exact List.mem_or_eq_of_mem_set h
    · exact List.mem_or_eq_of_mem_set h
theorem sup_mem {x : α} : ∀ (n : Nat) (xs : List α) (pos : Nat), xs.length - pos ≤ n → x ∈ (sup lt xs pos).1 → x ∈ xs := by
  intro n
  induction n with
  | zero => intro xs pos hn h; unfold sup at h; rw [dif_neg (by exact om105 hn)] at h; exact h
  | succ n ih =>
    intro xs pos hn h
    unfold sup at h
    split at h
    · split at h
      · rename_i v hv
        have := supc_lt lt xs pos
        rcases List.mem_or_eq_of_mem_set (ih _ _ (by simp; exact om104 hn this) h) with h | h
        · exact h
        · exact h ▸ List.mem_of_getElem? hv
      · exact h
    · exact h
theorem siftup_mem {item x : α} {xs : List α} (h : x ∈ siftup lt item xs) : x ∈ xs ∨ x = item := by
  unfold siftup at h
  rcases sdown_mem lt _ _ h with h | h
  · rcases List.mem_or_eq_of_mem_set h with h | h
    · exact .inl (sup_mem lt _ xs 0 (Nat.le_refl _) h)
    · exact .inr h
  · exact .inr h
end
theorem OkP.up {i : Nat} {p : Int × List Nat} (h : OkP i p) : OkP (i + 1) p := ⟨by have := h.1; exact om65 this, h.2⟩
theorem pushP_len (h : List (Int × List Nat)) (p : Int × List Nat) : (pushP h p).length = h.length + 1 := by unfold pushP; rw [sdown_len]; simp
theorem fold_len : ∀ (l h : List (Int × List Nat)), (l.foldl pushP h).length = h.length + l.length
  | [], h => by simp
  | x :: l, h => by rw [List.foldl_cons, fold_len l, pushP_len, List.length_cons]; exact om103
theorem sonsT_cons {ws : List Int} (h : ws ≠ []) (t : Int × List Nat) : ∃ a l, sonsT ws t = a :: l ∧ l.length + 1 = ws.length := by
  have := sonsT_len ws t
  cases q : sonsT ws t with
  | nil => rw [q] at this; cases ws with
    | nil => exact absurd rfl h
    | cons _ _ => simp at this
  | cons a l => rw [q] at this; exact ⟨a, l, rfl, by simpa using this⟩
theorem growN_len {ws : List Int} (h : ws ≠ []) (n : Nat) : ∀ i, (growN ws n i).1.length = 1 + i * (ws.length - 1) ∧ (growN ws n i).2.length = i
  | 0 => by simp [growN]
  | i + 1 => by
    obtain ⟨h1, h2⟩ := growN_len h n i
    show (growP ws (growN ws n i)).1.length = _ ∧ (growP ws (growN ws n i)).2.length = _
    unfold growP
    cases q : (growN ws n i).1 with
    | nil => rw [q] at h1; simp at h1; exact om102 h1
    | cons t r =>
      obtain ⟨a, l, e, hl⟩ := sonsT_cons h t
      rw [q] at h1
      dsimp only
      rw [e]
      dsimp only
      constructor
      · rw [fold_len, siftup_len]
        simp only [List.length_cons] at h1 ⊢
        rw [Nat.add_mul]; exact om101 h1 hl
      · simp [h2]
theorem fdiv_ok {a x S : Int} (ha : -1000000 ≤ a ∧ a ≤ 0) (hx : 0 < x ∧ x ≤ S) : -1000000 ≤ (a * x).fdiv S ∧ (a * x).fdiv S ≤ 0 := by
  have hS : 0 < S := by exact om100 hx
  rw [Int.fdiv_eq_ediv_of_nonneg _ (by exact om99 hx)]
  constructor
  · have h1 : a * S ≤ a * x := Int.mul_le_mul_of_nonpos_left ha.2 hx.2
    have : a ≤ a * x / S := (Int.le_ediv_iff_mul_le hS).mpr h1
    exact om98 ha this
  · have h1 : a * x ≤ 0 := Int.mul_nonpos_of_nonpos_of_nonneg ha.2 (by exact om97 hx)
    have : a * x / S < 1 := Int.ediv_lt_of_lt_mul hS (by exact om96 hx h1)
    exact om95 this
theorem ItOk.up {prog : Program} {w : World} {A : Around} {g g₁ h : Heap} {I : Addr} {n : Nat} {P : Nat → Value → Prop} (W : ItOk prog w A g h I n P) (k : g.StaysIn g₁) : ItOk prog w A g₁ h I n P := by
  obtain ⟨fp, Wt, a, b, c, d⟩ := W.ex
  exact ⟨fp, Wt, a, b, fun x hx => (c x hx).imp (fun e => e) fun ⟨o, ho⟩ => ⟨o, k _ _ ho⟩, d⟩
theorem as_tup {prog : Program} {w : World} {A : Around} {s : Shared} {g : Heap} {env : Env} {m : Str → Option Value} {nx : List (Addr × Obj)} {elts : List Expr} {k : Nat} {pos : Pos} {t : Addr} {vs : List Value} {E : Value → Shared → Prop} {Q : Unit → Shared → Prop} (S : St g env s.heap m nx) (hh : A.handled = none) (ht : s.heap.IsTuple t vs.toArray)
    (hn : (assignEach elts env).length = vs.length) (hstar : (assignEach elts env).findIdx? (·.1) = none)
    (h : ∀ h', St g env h' m nx → s.heap.StaysIn h' → wpAny (model prog w) A (assignInOrder ((assignEach elts env).map (·.2)) vs) Q E { s with heap := h' }) :
    wpAny (model prog w) A (assign (.Tuple elts k pos) env (.ref t)) Q E s := by
  refine assign_Tuple_tuple hh ht (by simpa using hn) hstar fun h' x => ?_
  have k : s.heap.StaysIn h' := fun b o e => x b o (Nat.ne_of_lt (Heap.lt_size e)) e
  simpa using h h' (S.kept k) k
theorem Rel2.snoc_inv {α β : Type} {R : α → β → Prop} {xs : List α} {x : α} {ys : List β} (h : Rel2 R (xs ++ [x]) ys) : ∃ ys' y, ys = ys' ++ [y] ∧ Rel2 R xs ys' ∧ R x y := by
  rcases List.eq_nil_or_concat ys with rfl | ⟨ys', y, rfl⟩
  · have := h.len; simp at this
  · have hl : xs.length = ys'.length := by have := h.len; simpa using this
    refine ⟨ys', y, by simp, ?_, ?_⟩
    · have := h.take xs.length
      rw [List.concat_eq_append, List.take_left'] at this
      · rw [hl, List.take_left' rfl] at this; exact this
      · rfl
    · refine h.at' xs.length x y (by simp) ?_
      rw [List.concat_eq_append, hl]; simp
theorem popped_rel {n : Nat} {xs : List Row} {r : Row} {hp : List (Int × List Nat)} (h : Rel2 (RelW n) (xs ++ [r]) hp) :
    ∃ q' ys', popP hp = ([q'], ys') ∧ RelW n (popped xs r).1 q' ∧ Rel2 (RelW n) (popped xs r).2 ys' ∧ ys'.length + 1 = hp.length := by
  cases xs with
  | nil =>
    obtain ⟨ys', y, rfl, h1, h2⟩ := h.snoc_inv
    have : ys' = [] := List.eq_nil_of_length_eq_zero (by rw [← h1.len]; rfl)
    subst this
    exact ⟨y, [], rfl, h2, Rel2.nil, rfl⟩
  | cons x t =>
    cases hp with
    | nil => have := h.len; simp at this
    | cons p ps =>
      have ht : Rel2 (RelW n) (t ++ [r]) ps := Rel2.tail (x := x) (y := p) (by simpa using h)
      have hx : RelW n x p := Rel2.head (xs := t ++ [r]) (ys := ps) (by simpa using h)
      obtain ⟨ps', pr, rfl, h1, h2⟩ := ht.snoc_inv
      refine ⟨p, siftup plt pr (pr :: ps'), ?_, hx, ?_, ?_⟩
      · unfold popP
        simp
      · exact siftup_rel (R := RelW n) (fun _ _ _ _ a b => relW_lt a b) h2 (Rel2.cons h2 h1)
      · rw [siftup_len]; simp
theorem popped_mem {xs : List Row} {r : Row} : (popped xs r).1 ∈ xs ++ [r] ∧ ∀ q ∈ (popped xs r).2, q ∈ xs ++ [r] := by
  cases xs with
  | nil => exact ⟨by simp [popped], fun q hq => nomatch hq⟩
  | cons x t =>
    refine ⟨by simp [popped], fun q hq => ?_⟩
    rcases siftup_mem rlt hq with h | h
    · rcases List.mem_cons.mp h with h | h
      · rw [h]; simp
      · simp [h]
    · rw [h]; simp
/-- rows that stand in g₁ and are new against g₀ -/
noncomputable def Rws (g₀ g₁ : Heap) (xs : List Row) : Prop := ∀ r ∈ xs, r.In g₁ ∧ g₀.get? r.addr = none
theorem Rws.keeps {g₀ g₁ g₂ : Heap} {xs : List Row} (h : Rws g₀ g₁ xs) (k : g₁.StaysIn g₂) : Rws g₀ g₂ xs := fun r hr => ⟨(h r hr).1.keeps k, (h r hr).2⟩
inductive GJ (g' : Heap) (ws : List Int) (n : Nat) (lw H O : Addr) (i : Nat) (m₁ : Str → Option Value) (g₁ : Heap) (nx₁ : List (Addr × Obj)) : Prop
  | mk (hs os : List Row) (n1 n2 : Nat) (t : Tok) (e : nx₁ = [(O, listOf (os.map Row.val).toArray n2), (H, listOf (hs.map Row.val).toArray n1)]) (rh : Rws g' g₁ hs) (ro : Rws g' g₁ os) (Rh : Rel2 (RelW i) hs (growN ws n i).1) (Ro : Rel2 (RelW i) os (growN ws n i).2) (ha : HasAll m₁ [("weights", .ref lw), ("whole", .int ws.sum t), ("heap", .ref H), ("opened", .ref O)]) : GJ g' ws n lw H O i m₁ g₁ nx₁
end
-- Sq168
section
open PySem PySem.W PyProof.Rows PySem.Calls PySem.SeqAt
/-- a list as it is made -/
noncomputable def LL (h : Heap) (l : Addr) (vs : List Value) : Prop := ∃ n, h.get? l = some (listOf vs.toArray n)
theorem LL.is {h : Heap} {l : Addr} {vs : List Value} (x : LL h l vs) : h.IsList l vs.toArray := let ⟨n, e⟩ := x; ⟨_, e, rfl, n, rfl⟩
theorem LL.up {g h : Heap} {l : Addr} {vs : List Value} (x : LL g l vs) (k : g.StaysIn h) : LL h l vs := let ⟨n, e⟩ := x; ⟨n, k _ _ e⟩
/-- a list of texts by their codes -/
noncomputable abbrev TsAre (vs : List Value) (us : List (List Nat)) : Prop := StrsAre vs (us.map T)
theorem tsAre_get {vs : List Value} {us : List (List Nat)} (h : TsAre vs us) {i : Nat} {u : List Nat} (e : us[i]? = some u) : ∃ t, vs[i]? = some (.str (T u) t) :=
  StrsAre.get h i (T u) (by rw [List.getElem?_map, e]; rfl)
theorem tsAre_len {vs : List Value} {us : List (List Nat)} (h : TsAre vs us) : vs.length = us.length := by
  have := StrsAre.length h; simpa using this
theorem tsAre_item {vs : List Value} {us : List (List Nat)} (h : TsAre vs us) {i : Nat} {v : Value} (e : vs[i]? = some v) : ∃ u t, us[i]? = some u ∧ v = .str (T u) t := by
  obtain ⟨y, t, rfl, hy⟩ := StrsAre.item h i v e
  rw [List.getElem?_map] at hy
  obtain ⟨u, hu, rfl⟩ := Option.map_eq_some_iff.mp hy
  exact ⟨u, t, hu, rfl⟩
theorem any_T (us : List (List Nat)) (u : List Nat) : ((us.map T).any fun x => x == T u) = decide (u ∈ us) := by
  rw [Bool.eq_iff_iff, List.any_eq_true, decide_eq_true_eq]
  constructor
  · rintro ⟨x, hx, e⟩
    obtain ⟨v, hv, rfl⟩ := List.mem_map.mp hx
    rw [← T_inj (beq_iff_eq.mp e)]; exact hv
  · exact fun h => ⟨T u, List.mem_map_of_mem h, beq_iff_eq.mpr rfl⟩
section
variable {prog : Program} {w : World} {A : Around} {E : Value → Shared → Prop} {s : Shared}
theorem index_ts {l : Addr} {vs : List Value} {us : List (List Nat)} {u : List Nat} {t : Tok} {Q : Value → Shared → Prop} (hl : s.heap.IsList l vs.toArray) (hi : TsAre vs us) (hz : us.length < 10000) (hk : u ∈ us)
    (h : Q (.int (us.idxOf u : Nat) s.toks) { s with toks := s.toks + 1 }) : wpAny (model prog w) A (call (.builtin "list.index") [.ref l, .str (T u) t]) Q E s := by
  obtain ⟨⟨cls, dd, data, sl⟩, ho, hc, n, hd⟩ := id hl
  simp only at hc hd
  subst hc hd
  have hlen := tsAre_len hi
  have hj : us.idxOf u < us.length := List.idxOf_lt_length_iff.mpr hk
  have hat : ∀ j (h1 : j < vs.length) (h2 : j < us.length), isStrOf (T u) vs[j] = decide (us[j] = u) := fun j h1 h2 => by
    obtain ⟨t, e⟩ := tsAre_get hi (List.getElem?_eq_getElem h2)
    have e2 : vs[j] = .str (T us[j]) t := by rw [List.getElem?_eq_getElem h1] at e; exact Option.some.inj e
    rw [e2]
    show (T us[j] == T u) = _
    rw [Bool.eq_iff_iff, beq_iff_eq, decide_eq_true_eq]
    exact ⟨T_inj, fun e => by rw [e]⟩
  refine call_meets PySem.F.slot_list_index ⟨_, ho, rfl⟩ PySem.F.entry_list_index (PySem.F.args_list_index_2 _ _)
    (list_indexAt l vs.toArray n dd sl (.str (T u) t) (isStrOf (T u)) (us.idxOf u) (by simpa [hlen] using hj) (by exact om461 hz hj) ?_ ?_) ⟨ho, fun y hy => (eq_isStrOf (T u) t hi y (by simpa using hy)).at _ _, h⟩
  · show isStrOf (T u) vs[us.idxOf u] = true
    rw [hat _ (by exact om370 hlen hj) hj]
    simpa using List.getElem_idxOf hj
  · intro j hjs hlt
    show isStrOf (T u) vs[j] = false
    rw [hat j (by simpa using hjs) (by exact om196 hj hlt)]
    rw [decide_eq_false_iff_not]
    intro e
    have := List.not_of_lt_findIdx (p := (· == u)) (xs := us) (i := j) hlt
    simp [e] at this
end
section
variable {prog : Program} {w : World} {A : Around} {E : Value → Shared → Prop} {s : Shared}
theorem ls_method {l : Addr} {vs : List Value} {name : Str} {id : String} {pl : Sem Bool} {Q : Value × List Value → Shared → Prop} (hl : LL s.heap l vs) (slot : Slot "list" name id) (hty : typeOf (.builtin id) = pure (.type "method_descriptor"))
    (h : Q (.builtin id, [.ref l]) s) : wpAny (model prog w) A (getMethod (.ref l) name pl) Q E s := by
  obtain ⟨n, ho⟩ := hl
  exact getMethod_builtin ⟨_, ho, rfl⟩ PySem.F.plainAttrs_list slot hty (fun a e => by cases e; exact ⟨_, ho, rfl⟩) h
end
/-- the message cut letter by letter -/
noncomputable def cutStep (WS : List (List Nat)) (st : List Nat × List Nat) (c : Nat) : List Nat × List Nat := if st.2 ++ [c] ∈ WS then (st.1 ++ [WS.idxOf (st.2 ++ [c])], []) else (st.1, st.2 ++ [c])
noncomputable abbrev intsN (ns : List Nat) : List Int := ns.map fun k : Nat => (k : Int)
theorem wayL_inj {u v : List Nat} (h : wayL u = wayL v) : u = v := by
  have h1 : ¬ wayL u < wayL v := by rw [h]; exact List.lt_irrefl _
  have h2 : ¬ wayL v < wayL u := by rw [h]; exact List.lt_irrefl _
  rw [wayL_lt] at h1 h2
  rcases Std.le_total (a := u) (b := v) with h3 | h3
  · exact Classical.byContradiction fun q => h1 (Std.lt_of_le_of_ne h3 q)
  · exact Classical.byContradiction fun q => h2 (Std.lt_of_le_of_ne h3 fun e => q e.symm)
theorem way_mem {u : List Nat} {WS : List (List Nat)} : wayL u ∈ WS.map wayL ↔ u ∈ WS :=
  ⟨fun h => by obtain ⟨v, hv, e⟩ := List.mem_map.mp h; rw [← wayL_inj e]; exact hv, fun h => List.mem_map_of_mem h⟩
theorem way_idx (u : List Nat) : ∀ WS : List (List Nat), (WS.map wayL).idxOf (wayL u) = WS.idxOf u
  | [] => rfl
  | v :: r => by
    rw [List.map_cons, List.idxOf_cons, List.idxOf_cons, way_idx u r]
    by_cases h : v = u
    · subst h; rw [beq_self_eq_true, beq_self_eq_true]
    · have : wayL v ≠ wayL u := fun e => h (wayL_inj e)
      rw [beq_eq_false_iff_ne.mpr h, beq_eq_false_iff_ne.mpr this]
theorem cut_ok {WS : List (List Nat)} : ∀ (msg : List Nat) (st : List Nat × List Nat), (∀ k ∈ st.1, k < WS.length) →
    (msg.foldl (cutStep WS) st).1.length ≤ st.1.length + msg.length ∧ (msg.foldl (cutStep WS) st).2.length ≤ st.2.length + msg.length ∧ (∀ k ∈ (msg.foldl (cutStep WS) st).1, k < WS.length) ∧ (∀ c ∈ (msg.foldl (cutStep WS) st).2, c ∈ st.2 ∨ c ∈ msg)
  | [], st, h => ⟨Nat.le_refl _, Nat.le_refl _, h, fun c hc => .inl hc⟩
  | c :: r, st, h => by
    rw [List.foldl_cons]
    have hst : (cutStep WS st c).1.length ≤ st.1.length + 1 ∧ (cutStep WS st c).2.length ≤ st.2.length + 1 ∧ (∀ k ∈ (cutStep WS st c).1, k < WS.length) ∧ (∀ x ∈ (cutStep WS st c).2, x ∈ st.2 ∨ x = c) := by
      unfold cutStep
      split
      · rename_i hm
        refine ⟨by simp, by simp, fun k hk => ?_, fun x hx => nomatch hx⟩
        rcases List.mem_append.mp hk with hk | hk
        · exact h k hk
        · rw [List.mem_singleton.mp hk]; exact List.idxOf_lt_length_iff.mpr hm
      · refine ⟨by simp, by simp, h, fun x hx => ?_⟩
        rcases List.mem_append.mp hx with hx | hx
        · exact .inl hx
        · exact .inr (List.mem_singleton.mp hx)
    have ih := cut_ok r (cutStep WS st c) hst.2.2.1
    refine ⟨by rw [List.length_cons]; omega, by rw [List.length_cons]; omega, ih.2.2.1, fun x hx => ?_⟩
    rcases ih.2.2.2 x hx with h1 | h1
    · rcases hst.2.2.2 x h1 with h2 | h2
      · exact .inl h2
      · exact .inr (by rw [h2]; exact .head _)
    · exact .inr (.tail _ h1)
end
-- Pa168
section
set_option maxRecDepth 100000 in
set_option maxHeartbeats 4000000 in
theorem fspath_spec {w : World} {A : Around} {s : Shared} {g : Heap} {x : Str} {t : Tok} {Q : Value → Shared → Prop} (R : Rm A 1) (G : Gd w g) (st : g.StaysIn s.heap)
    (hQ : ∀ h' tk', s.heap.StaysIn h' → Q (.str x t) { s with heap := h', toks := tk' }) :
    wpAny (model PG w) A (call (.ref 129) [.str x t]) Q NoE s := by
  refine enter (binds := [("path", .str x t)]) [] G st (by simp) (by simp) (by k_dflt k_is) (by k_dflt k_is) R.room (BindsTo.of_eq rfl) rfl (by decide) (by decide) ?_ rfl rfl rfl
  intro g' L h₁ tk G' hk S
  have zB : Base s := trivial
  have R' : ∀ env, Rm (A.deeper env) 0 := fun _ => R.deeper
  have hext : ∀ h', g'.StaysIn h' → s.heap.StaysIn h' := fun h' k b o e => k b o (hk b o (by simp) e)
  clear G st R hk
  dsimp only [bindAll, List.foldl_cons, List.foldl_nil] at S
  k_steps
  try dsimp only
  rename St _ _ _ _ _ => zS
  refine hQ _ _ (hext _ zS.keep)
set_option maxRecDepth 100000 in
set_option maxHeartbeats 4000000 in
theorem getsep_spec {w : World} {A : Around} {s : Shared} {g : Heap} {x : Str} {t : Tok} {Q : Value → Shared → Prop} (R : Rm A 1) (G : Gd w g) (st : g.StaysIn s.heap)
    (hQ : ∀ h' tk' t', s.heap.StaysIn h' → Q (.str "/" t') { s with heap := h', toks := tk' }) :
    wpAny (model PG w) A (call (.ref 143) [.str x t]) Q NoE s := by
  refine enter (binds := [("path", .str x t)]) [] G st (by simp) (by simp) (by k_dflt k_is) (by k_dflt k_is) R.room (BindsTo.of_eq rfl) rfl (by decide) (by decide) ?_ rfl rfl rfl
  intro g' L h₁ tk G' hk S
  have zB : Base s := trivial
  have R' : ∀ env, Rm (A.deeper env) 0 := fun _ => R.deeper
  have hext : ∀ h', g'.StaysIn h' → s.heap.StaysIn h' := fun h' k b o e => k b o (hk b o (by simp) e)
  clear G st R hk
  dsimp only [bindAll, List.foldl_cons, List.foldl_nil] at S
  k_steps
  try dsimp only
  rename St _ _ _ _ _ => zS
  refine hQ _ _ _ (hext _ zS.keep)
section
variable {w : World} {A : Around} {s : Shared} {g : Heap} {env : Env} {m : Str → Option Value} {nx : List (Addr × Obj)} {x : Str} {t : Tok} {Q : Value → Shared → Prop}
theorem fs_call (S : St g env s.heap m nx) (G : Gd w g) (R : Rm A 1) (h : ∀ h' tk' t, St g env h' m nx → Q (.str x t) { s with heap := h', toks := tk' }) : wpAny (model PG w) A (call (.ref 129) [.str x t]) Q NoE s :=
  fspath_spec R G S.keep fun h' tk' k => h h' tk' _ (S.kept k)
theorem sep_call (S : St g env s.heap m nx) (G : Gd w g) (R : Rm A 1) (h : ∀ h' tk' t', St g env h' m nx → Q (.str (T [47]) t') { s with heap := h', toks := tk' }) : wpAny (model PG w) A (call (.ref 143) [.str x t]) Q NoE s :=
  getsep_spec R G S.keep fun h' tk' t' k => slash ▸ h h' tk' t' (S.kept k)
end
end
theorem lines_Jn168 : True := by
  k_with "call ref" => (k_dflt ((rename St _ _ _ _ _ => k_zS); first | (refine' fs_call k_zS (by assumption) ?_ ?_; (focus walk_at "m_R"); clear k_zS; intro _ _ _ _) | (refine' sep_call k_zS (by assumption) ?_ ?_; (focus walk_at "m_R"); clear k_zS; intro _ _ _ _)))
  trivial
-- Jn168
section
set_option maxRecDepth 100000 in
set_option maxHeartbeats 4000000 in
theorem join_spec {w : World} {A : Around} {s : Shared} {g : Heap} {u : List Nat} {c : Nat} {t1 t2 : Tok} {Q : Value → Shared → Prop} (R : Rm A 2) (G : Gd w g) (st : g.StaysIn s.heap) (hc : c ≠ 47) (hu : u.length < 1000) (h47 : ∀ x ∈ u, x ≠ 47)
    (hQ : ∀ h' tk' t', s.heap.StaysIn h' → Q (.str (way (u ++ [c])) t') { s with heap := h', toks := tk' }) :
    wpAny (model PG w) A (call (.ref 150) [.str (way u) t1, .str (T [c]) t2]) Q NoE s := by
  have e1 : (s.heap.push { cls := .type "tuple", data := .seq #[.str (T [c]) t2] }).get? s.heap.objs.size = some { cls := .type "tuple", data := .seq #[.str (T [c]) t2] } := Heap.get?_push_size _ rfl
  have st1 : s.heap.StaysIn (s.heap.push { cls := .type "tuple", data := .seq #[.str (T [c]) t2] }) := fun b o e => Heap.get?_push_of_some _ e
  refine enter_at (s := { s with heap := s.heap.push { cls := .type "tuple", data := .seq #[.str (T [c]) t2] } }) (binds := [("a", .str (way u) t1), ("p", .ref s.heap.objs.size)]) [] s G st (fun b o e => st1 b o (st b o e)) (by simp) (by simp) (by k_dflt k_is) (by k_dflt k_is) R.room ?_ rfl (by decide) (by decide) ?_ rfl rfl rfl
  · intro M A E Q' q
    show wpAny M A (newTuple [.str (T [c]) t2] >>= fun v => pure [(Str.ofString "a", Value.str (way u) t1), (Str.ofString "p", v)]) Q' E s
    exact wpAny_bind (wpAny_newObj_type (wpAny_pure q))
  intro g' L h₁ tk G' hk S
  have zB : Base s := trivial
  have R' : ∀ env, Rm (A.deeper env) 1 := fun _ => R.deeper
  have hT := hk _ _ (by simp) e1
  have hext : ∀ h', g'.StaysIn h' → s.heap.StaysIn h' := fun h' k b o e => k b o (hk b o (by simp) (st1 b o e))
  clear G st R hk e1 st1
  generalize s.heap.objs.size = TA at *
  dsimp only [bindAll, List.foldl_cons, List.foldl_nil] at S
  k_steps
  rename St _ _ _ _ _ => zS
  refine it_tuple (vs := [.str (T [c]) t2]) zS (R' _).hand ⟨_, hT, rfl, _, rfl⟩ ?_
  clear zS
  intro I oI h' S' W _
  refine for_it (fun i m₁ g₁ nx₁ => ∃ (t ts : Tok), nx₁ = [] ∧ HasAll m₁ [("path", .str (if i = 0 then way u else way (u ++ [c])) t), ("sep", .str (T [47]) ts)]) S' W ⟨_, _, rfl, rfl, rfl, trivial⟩ ?_ ?_
  · clear S' W
    rintro i v m₁ g₁ nx₁ h₁ tk₁ oI hi hP kg _ S ⟨t, ts, rfl, e⟩
    have hi0 : i = 0 := by simpa using hi
    subst hi0
    have hv : v = .str (T [c]) t2 := by simpa using hP.symm
    subst hv
    replace S := S.norm e
    clear e hP hi
    dsimp only [putAll, List.foldr_cons, List.foldr_nil] at S
    rw [if_pos rfl] at S
    have G'' := G'.mono kg
    clear G'
    refine let_name ?_
    k_steps
    · exfalso
      rename Txt.startswith _ _ = true => q
      rw [sw_one hc] at q
      exact Bool.noConfusion q
    · have hw := wayL_len u
      refine KXt.truthy_pos (K := 2 * u.length + 1) (by rw [T_len]; exact om211 hw) (by rw [T_len]; exact om210 hw) (by exact om209 hu) fun k => ?_
      k_steps
      · rename Txt.endswith _ _ = true => q
        by_cases hu0 : u = []
        · (show FPost _ _ _ _ _ _ _ _ _ _); dsimp only [FPost]
          rename St _ _ _ _ _ => zS
          have e : way u ++ T [c] = way (u ++ [c]) := by rw [hu0]; exact (way_snoc_nil c).symm
          rw [e] at zS
          exact ⟨_, _, _, _, [], [], rfl, kg, zS, fun g₃ _ _ => ⟨_, _, rfl, rfl, rfl, trivial⟩⟩
        · rw [ew_way hu0 h47] at q; exact Bool.noConfusion q
      · rename Txt.endswith _ _ = false => q
        by_cases hu0 : u = []
        · rw [hu0, ew_nil] at q; exact Bool.noConfusion q
        · (show FPost _ _ _ _ _ _ _ _ _ _); dsimp only [FPost]
          rename St _ _ _ _ _ => zS
          have e : way u ++ (T [47] ++ T [c]) = way (u ++ [c]) := (way_snoc hu0 c).symm
          rw [e] at zS
          exact ⟨_, _, _, _, [], [], rfl, kg, zS, fun g₃ _ _ => ⟨_, _, rfl, rfl, rfl, trivial⟩⟩
  · clear S' W
    rintro m₁ g₁ nx₁ h₁ tk₁ kg S ⟨t, ts, rfl, e⟩
    replace S := S.norm e
    dsimp only [putAll, List.foldr_cons, List.foldr_nil] at S
    rw [if_neg (by simp)] at S
    try dsimp only
    k_steps
    try dsimp only
    rename St _ _ _ _ _ => zS
    exact hQ _ _ _ (hext _ fun b o e => zS.keep _ _ (kg _ _ e))
theorem jn_call {w : World} {A : Around} {s : Shared} {g : Heap} {env : Env} {m : Str → Option Value} {nx : List (Addr × Obj)} {u : List Nat} {c : Nat} {t1 t2 : Tok} {Q : Value → Shared → Prop} (S : St g env s.heap m nx) (G : Gd w g) (R : Rm A 2) (hc : c ≠ 47) (hu : u.length < 1000) (h47 : ∀ x ∈ u, x ≠ 47)
    (h : ∀ h' tk' t', St g env h' m nx → s.heap.StaysIn h' → Q (.str (way (u ++ [c])) t') { s with heap := h', toks := tk' }) : wpAny (model PG w) A (call (.ref 150) [.str (way u) t1, .str (T [c]) t2]) Q NoE s :=
  join_spec R G S.keep hc hu h47 fun h' tk' t' k => h h' tk' t' (S.kept k) k
end
-- Gr168
section
inductive GrJ (g' : Heap) (lw H O I : Addr) (oI : Obj) (os : List Row) (n2 i : Nat) (sm : Int) (hp l : List (Int × List Nat)) (k : Nat) (m₁ : PySem.Str → Option Value) (g₁ : Heap) (nx₁ : List (Addr × Obj)) : Prop
  | mk (hs' : List Row) (n1 : Nat) (t : Tok) (en : nx₁ = [(I, oI), (O, listOf (os.map Row.val).toArray (n2 + 1)), (H, listOf (hs'.map Row.val).toArray n1)]) (hr : Rws g' g₁ hs') (hR : Rel2 (RelW (i + 1)) hs' ((l.take k).foldl pushP hp))
      (ha : HasAll m₁ [("weights", .ref lw), ("whole", .int sm t), ("heap", .ref H), ("opened", .ref O)]) : GrJ g' lw H O I oI os n2 i sm hp l k m₁ g₁ nx₁
inductive GrW (g' g₁ : Heap) (H O WD : Addr) (os : List Row) (n2 n : Nat) (all : List (Int × List Nat)) (n' : Nat) (m₂ : PySem.Str → Option Value) (g₂ : Heap) (nx₂ : List (Addr × Obj)) : Prop
  | mk (hs wd : List Row) (n1 n3 : Nat) (hp wp : List (Int × List Nat)) (e1 : n' = hs.length) (hl : hs.length + wd.length ≤ 20) (en : nx₂ = [(WD, listOf (wd.map Row.val).toArray n3), (O, listOf (os.map Row.val).toArray n2), (H, listOf (hs.map Row.val).toArray n1)]) (eg : g₂ = g₁) (h1 : Rws g' g₁ hs) (h2 : Rws g' g₁ wd)
      (h3 : Rel2 (RelW n) hs hp) (h4 : Rel2 (RelW n) wd wp) (h5 : wp ++ popN hp.length hp = all) (ha : HasAll m₂ [("heap", .ref H), ("opened", .ref O), ("words", .ref WD)]) : GrW g' g₁ H O WD os n2 n all n' m₂ g₂ nx₂
set_option maxRecDepth 100000 in
set_option maxHeartbeats 4000000 in
theorem grown_spec {w : World} {A : Around} {s : Shared} {g : Heap} {lw : Addr} {vw : List Value} {ws : List Int} {n : Nat} {kn : Int} {tn : Tok} {Q : Value → Shared → Prop} (R : Rm A 4) (G : Gd w g) (st : g.StaysIn s.heap)
    (hw : s.heap.IsList lw vw.toArray) (hiw : IntsAre vw ws) (hn : 2 ≤ ws.length ∧ ws.length ≤ 3) (hpos : ∀ x ∈ ws, 0 < x ∧ x < 10 ∧ x ≤ ws.sum) (hsum : 0 < ws.sum ∧ ws.sum < 100) (hkn : kn = n) (hn4 : n ≤ 4) (hbig : ws.sum ^ n ≤ 1000000)
    (hQ : ∀ h' tk' a oa ob (os qs : List Row) na nb, s.heap.StaysIn h' → (newPart s.heap h').IsTuple a #[.ref oa, .ref ob] → (newPart s.heap h').get? oa = some (listOf (os.map Row.val).toArray na) → (newPart s.heap h').get? ob = some (listOf (qs.map Row.val).toArray nb) →
      (∀ r ∈ os, r.In (newPart s.heap h')) → (∀ r ∈ qs, r.In (newPart s.heap h')) → Rel2 (RelW n) os (growN ws n n).2 → Rel2 (RelW n) qs (popN (growN ws n n).1.length (growN ws n n).1) → Q (.ref a) { s with heap := h', toks := tk' }) :
    wpAny (model PG w) A (call (.ref 174) [.ref lw, .int kn tn]) Q NoE s := by
  refine enter (binds := [("weights", .ref lw), ("openings", .int kn tn)]) [] G st (by simp) (by simp) (by k_dflt k_is) (by k_dflt k_is) R.room (BindsTo.of_eq rfl) rfl (by decide) (by decide) ?_ rfl rfl rfl
  intro g' L h₁ tk G' hk S
  have zB : Base s := trivial
  have R' : ∀ env, Rm (A.deeper env) 3 := fun _ => R.deeper
  have hext : ∀ h', g'.StaysIn h' → s.heap.StaysIn h' := fun h' k b o e => k b o (hk b o (by simp) e)
  have hkg : s.heap.StaysIn g' := fun b o e => hk b o (by simp) e
  have hfr : ∀ a, g'.get? a = none → s.heap.get? a = none := fun a e => by
    cases q : s.heap.get? a with
    | none => rfl
    | some o => rw [hk a o (by simp) q] at e; cases e
  clear st R hk
  dsimp only [bindAll, List.foldl_cons, List.foldl_nil] at S
  have hw' : g'.IsList lw vw.toArray := let ⟨o, ho, r⟩ := hw; ⟨o, hkg _ _ ho, r⟩
  clear G hw
  k_steps
  rename St _ _ _ _ _ => zS
  refine sum_st zS (R' _).hand (let ⟨o, ho, r⟩ := hw'; ⟨o, zS.keep _ _ ho, r⟩) hiw ?_
  clear zS
  intro h' tk t' S' _
  k_steps
  rename St _ _ _ _ _ => zS
  refine it_r1 zS at0 hkn (by exact om140 hn4) (R' _).hand ?_
  clear zS
  intro I oI h' S W _
  replace S := S.forget1
  rename_i tt _ _ _ H _ _ _ _ _ O _ _ _ _ _ _ _ _ _ _ _ _ _
  have httn : g'.get? tt = none := S.freshN (tt, _) (.tail _ (.tail _ (.tail _ (.head _))))
  obtain ⟨g₀, kg0, S, hex0, _⟩ := St.rebase (nx := [(I, oI), (O, _), (H, _)]) (extra := [_]) S
  have hnew := hex0 _ (.head _)
  refine for_it (GJ g' ws n lw H O) S (W.up kg0) ⟨[⟨tt, -(ws.sum ^ n), way []⟩], [], 0, 0, _, rfl, ?_, (fun r hr => nomatch hr), ?_, Rel2.nil, rfl, rfl, rfl, rfl, trivial⟩ ?_ ?_
  · intro r hr
    rw [List.mem_singleton.mp hr]
    have ekn : kn.toNat = n := by exact om139 hkn
    rw [ekn] at hnew
    exact ⟨⟨_, _, _, hnew, rfl, _, rfl⟩, httn⟩
  · have hp0 : 0 ≤ ws.sum ^ n := Int.pow_nonneg (Int.le_of_lt hsum.1)
    refine Rel2.cons ⟨rfl, by simp, by simp, ?_, ?_⟩ Rel2.nil
    · show -1000000 ≤ -(ws.sum ^ n); exact om138 hbig
    · show -(ws.sum ^ n) ≤ 0; exact om137 hp0
  · clear S W
    rintro i v m₁ g₁ nx₁ h₁ tk₁ oI hi ⟨tv, rfl⟩ kg hpl S ⟨hs, os, n1, n2, t, rfl, hrh, hro, hRh, hRo, e⟩
    replace S := S.norm e
    dsimp only [putAll, List.foldr_cons, List.foldr_nil] at S
    have G1 : Gd w g₁ := G'.mono fun b o e => kg _ _ (kg0 _ _ e)
    have hw1 : g₁.IsList lw vw.toArray := let ⟨o, ho, r⟩ := hw'; ⟨o, kg _ _ (kg0 _ _ ho), r⟩
    obtain ⟨hl1, hl2⟩ := growN_len (ws := ws) (by intro q; rw [q] at hn; simp at hn) n i
    obtain ⟨p, ps, hps⟩ : ∃ p ps, (growN ws n i).1 = p :: ps := by
      cases q : (growN ws n i).1 with
      | nil => rw [q] at hl1; simp at hl1; exact (om136 hl1).elim
      | cons p ps => exact ⟨p, ps, rfl⟩
    obtain ⟨x, xs, hxs⟩ : ∃ x xs, hs = x :: xs := by
      cases q : hs with
      | nil => have := hRh.len; rw [q, hps] at this; simp at this
      | cons x xs => exact ⟨x, xs, rfl⟩
    subst hxs
    rw [hps] at hRh
    obtain ⟨hxk, hxo⟩ := hRh.head
    obtain ⟨t1, t2, htup⟩ := (hrh x (.head _)).1
    have e1 : x.less = p.1 := congrArg Prod.fst hxk
    have e2 : x.way = way p.2 := congrArg Prod.snd hxk
    rw [e1, e2] at htup
    refine let_name ?_
    k_steps
    rename St _ _ _ _ _ => zS
    refine led_item zS at2 (by exact om21) (by exact om20) rfl ?_ (by with_unfolding_all rfl)
    k_steps
    rename St _ _ _ _ _ => zS
    refine as_tup (vs := [.int p.1 t1, .str (way p.2) t2]) zS (R' _).hand (let ⟨o, ho, r⟩ := htup; ⟨o, zS.keep _ _ ho, r⟩) rfl rfl ?_
    clear zS
    intro h' S _
    k_steps
    refine comp_assign rfl rfl rfl (by decide) (by intro _; rfl) ?_
    k_steps
    rename St _ _ _ _ _ => zS
    have hvw : vw.length = ws.length := by rw [hiw.length]
    refine len_list (let ⟨o, ho, r⟩ := hw1; ⟨o, zS.keep _ _ ho, r⟩) (by simp; exact om135 hn hvw) ?_
    k_steps
    rename St _ _ _ _ _ => zS
    refine it_r1 zS at0 (n := ws.length) (by simp [hvw]) (by exact om134 hn) (R' _).hand ?_
    clear zS
    intro I2 oI2 h' S W _
    replace S := S.forget1
    refine comp_its (fun k ys g₁ => ∃ zs : List Row, ys = zs.map Row.val ∧ Rws g' g₁ zs ∧ Rel2 (RelW (i + 1)) zs ((sonsT ws p).take k)) [("weights", .ref lw), ("whole", .int ws.sum t), ("less", .int p.1 _), ("way", .str (way p.2) _)] S W (by decide) rfl rfl (by dsimp only [List.map]; decide) rfl rfl rfl (by exact om133 hn) ⟨rfl, rfl, rfl, rfl, trivial⟩ ⟨[], rfl, (fun r hr => nomatch hr), Rel2.nil⟩ rfl rfl ?_ ?_
    · clear S W
      rintro k v ys m₂ g₂ h₁ tk₁ oI2 C tl hk ⟨tv, rfl⟩ kg2 - e ⟨zs, rfl, hz, hrz⟩ S
      replace S := S.norm e
      dsimp only [putAll, List.foldr_cons, List.foldr_nil] at S
      have hw2 : g₂.IsList lw vw.toArray := let ⟨o, ho, r⟩ := hw1; ⟨o, kg2 _ _ ho, r⟩
      have G2 : Gd w g₂ := G1.mono kg2
      obtain ⟨x, hxk2⟩ : ∃ x, ws[k]? = some x := get_some hk
      obtain ⟨tx, hvx⟩ : ∃ t, vw[k]? = some (.int x t) := hiw.get _ _ hxk2
      have hxb := hpos x (List.mem_of_getElem? hxk2)
      refine let_name ?_
      k_steps
      unfold CPost
      rw [if_pos rfl]
      k_steps
      rename St _ _ _ _ _ => zS
      refine item_listL (let ⟨o, ho, r⟩ := hw2; ⟨o, zS.keep _ _ ho, r⟩) (by exact om7) (by exact om132 hn hk) (by simpa using hvx) ?_
      refine mul_int ?_ (.of_right (intBits_le_64 (by exact om131 hxb) (by exact om130 hxb)))
      k_steps
      refine item_T (n := k) (c := 97 + k) rfl (by rcases k with _ | _ | _ | k <;> first | rfl | exact (om129 hn hk).elim) (by exact om128 hn hk) ?_ (by with_unfolding_all rfl) (by intro _; with_unfolding_all rfl)
      intro t' k'
      k_steps
      rename St _ _ _ _ _ => zS
      refine jn_call zS G2 ((R' _).less (by decide)) (by exact om127) (by have := hxo.1; exact om126 hn4 hi this) (fun c hc => by have := hxo.2.1 c hc; exact om125 this) ?_
      clear zS
      intro h' tk' t' S _
      k_steps
      rename Addr => a'
      rename St _ _ _ _ _ => zS
      refine ⟨_, _, _, g₂, [_], rfl, kg2, ⟨rfl, rfl, rfl, rfl, trivial⟩, zS.roll, fun g₃ k3 hex => ?_⟩
      have hnew := hex _ (.head _)
      refine ⟨zs ++ [⟨a', (p.1 * x).fdiv ws.sum, way (p.2 ++ [97 + k])⟩], by simp, ?_, ?_⟩
      · intro r hr
        rcases List.mem_append.mp hr with hr | hr
        · exact ⟨(hz r hr).1.keeps k3, (hz r hr).2⟩
        · rw [List.mem_singleton.mp hr]
          refine ⟨⟨_, _, _, hnew, rfl, _, rfl⟩, ?_⟩
          have hf : g₂.get? a' = none := zS.freshN _ (.head _)
          cases q : g'.get? a' with
          | none => rfl
          | some o => rw [kg2 _ _ (kg _ _ (kg0 _ _ q))] at hf; cases hf
      · have : (sonsT ws p)[k]? = some ((p.1 * x).fdiv ws.sum, p.2 ++ [97 + k]) := by
          unfold sonsT
          rw [List.getElem?_map, List.getElem?_range hk]
          simp [List.getD, hxk2]
        rw [List.take_add_one, this]
        refine hrz.append (Rel2.cons ⟨rfl, ?_⟩ Rel2.nil)
        have hfd := fdiv_ok (a := p.1) (x := x) (S := ws.sum) hxo.2.2 ⟨hxb.1, hxb.2.2⟩
        refine ⟨by rw [List.length_append]; have := hxo.1; simp; exact this, fun c hc => ?_, hfd⟩
        rcases List.mem_append.mp hc with hc | hc
        · exact hxo.2.1 c hc
        · rw [List.mem_singleton.mp hc]; exact om124 hn hk
    · clear S W
      rintro SN ys g₂ h₁ tk₁ nn kg2 S ⟨zs, rfl, hz, hrz⟩
      rw [List.take_of_length_le (by rw [sonsT_len]; exact Nat.le_refl _)] at hrz
      have G2 : Gd w g₂ := G1.mono kg2
      obtain ⟨a, l, hsons, hll⟩ := sonsT_cons (ws := ws) (by intro q; rw [q] at hn; simp at hn) p
      rw [hsons] at hrz
      obtain ⟨z, zr, hzz⟩ : ∃ z zr, zs = z :: zr := by
        cases q : zs with
        | nil => have := hrz.len; rw [q] at this; simp at this
        | cons x xs => exact ⟨x, xs, rfl⟩
      subst hzz
      have hzl : zr.length ≤ 2 := by have := hrz.len; simp only [List.length_cons] at this; exact om123 hn hll this
      have hol : os.length ≤ 4 := by rw [hRo.len, hl2]; exact om122 hn4 hi
      have hxl : xs.length ≤ 8 := by
        have h1 := hRh.len
        rw [hps] at hl1
        simp only [List.length_cons] at h1 hl1
        have : i * (ws.length - 1) ≤ 3 * 2 := Nat.mul_le_mul (by exact om121 hn4 hi) (by exact om114 hn)
        exact om120 hl1 h1 this
      k_steps
      rename St _ _ _ _ _ => zS
      refine led_item zS at0 (by exact om21) (by exact om20) rfl ?_ (by with_unfolding_all rfl)
      k_steps
      rename St _ _ _ _ _ => zS
      refine replace_call (r := z) (q := x) (xs := xs) zS G2 ((R' _).less (by decide)) at3 rfl (fun q hq => ?_) (by exact om119 hxl) ?_
      · rcases List.mem_cons.mp hq with rfl | hq
        · exact (hz q (.head _)).1.keeps zS.keep
        · exact (hrh q (.tail _ hq)).1.keeps fun b o e => zS.keep _ _ (kg2 _ _ e)
      clear zS
      intro h' tk' S _
      simp only [List.set_cons_zero, List.set_cons_succ] at S
      k_steps
      rename St _ _ _ _ _ => zS
      refine ls_from (n := 1) zS (zS.isList at0) rfl (by simp; exact om118 hzl) ?_ (by with_unfolding_all rfl) (by intro _; with_unfolding_all rfl)
      clear zS
      intro SL h' S _
      replace S := S.forget1.roll
      obtain ⟨g₃, kg3, S, hex3, _⟩ := St.rebase (nx := [(I, oI), (O, _), (H, _)]) (extra := [_]) S
      have hSL : g₃.IsList SL (zr.map Row.val).toArray := ⟨_, hex3 _ (.head _), rfl, _, rfl⟩
      refine it_list (vs := zr.map Row.val) S (R' _).hand hSL ?_
      clear S
      intro I3 oI3 h' S W _
      have hl' : ∀ a a' b b', RelW (i + 1) a b → RelW (i + 1) a' b' → rlt a a' = plt b b' := fun _ _ _ _ h1 h2 => relW_lt h1 h2
      refine for_it (GrJ g' lw H O I oI (os ++ [x]) n2 i ws.sum (siftup plt a (a :: ps)) l) S W ⟨siftup rlt z (z :: xs), n1, t, by simp, ?_, ?_, rfl, rfl, rfl, rfl, trivial⟩ ?_ ?_
      · intro r hr
        have : r ∈ z :: xs := by
          rcases siftup_mem rlt hr with h | h
          · exact h
          · rw [h]; exact .head _
        rcases List.mem_cons.mp this with rfl | hq
        · exact ⟨(hz r (.head _)).1.keeps kg3, (hz r (.head _)).2⟩
        · exact ⟨(hrh r (.tail _ hq)).1.keeps fun b o e => kg3 _ _ (kg2 _ _ e), (hrh r (.tail _ hq)).2⟩
      · exact siftup_rel hl' hrz.head (Rel2.cons hrz.head (hRh.tail.mono fun _ _ h => ⟨h.1, h.2.up⟩))
      · clear S W
        rintro k v m₃ g₄ nx₃ h₁ tk₁ oI3 hk hv kg4 - S ⟨hs', n1, t, rfl, hr', hR', e⟩
        replace S := S.norm e
        dsimp only [putAll, List.foldr_cons, List.foldr_nil] at S
        rw [List.getElem?_map] at hv
        obtain ⟨son, hson, rfl⟩ := Option.map_eq_some_iff.mp hv
        obtain ⟨q, hq, hsq⟩ := hrz.tail.left hson
        have G4 : Gd w g₄ := G2.mono fun b o e => kg4 _ _ (kg3 _ _ e)
        have hsl : hs'.length ≤ 20 := by
          have := hR'.len
          rw [fold_len, siftup_len, List.length_take, List.length_cons] at this
          have h1 := hRh.len
          simp only [List.length_cons] at h1
          exact om117 hn hll hxl this h1
        have hsonm := List.mem_of_getElem? hson
        refine let_name ?_
        k_steps
        rename St _ _ _ _ _ => zS
        refine push_call (r := son) (xs := hs') zS G4 ((R' _).less (by decide)) at3 rfl (fun r hr => ?_) (by exact om116 hsl) ?_
        · rcases List.mem_append.mp hr with hr | hr
          · exact (hr' r hr).1.keeps zS.keep
          · rw [List.mem_singleton.mp hr]; exact (hz son (.tail _ hsonm)).1.keeps fun b o e => zS.keep _ _ (kg4 _ _ (kg3 _ _ e))
        clear zS
        intro h' tk' S _
        simp only [List.set_cons_zero, List.set_cons_succ] at S
        k_steps
        rename St _ _ _ _ _ => zS
        (show FPost _ _ _ _ _ _ _ _ _ _); dsimp only [FPost]
        refine ⟨_, _, _, _, [(I, oI), (O, _), (H, _)], [], rfl, kg4, zS, fun g₅ k5 _ => ⟨_, n1 + 1, t, rfl, ?_, ?_, rfl, rfl, rfl, rfl, trivial⟩⟩
        · intro r hr
          have : r ∈ hs' ++ [son] := by
            rcases sdown_mem rlt _ _ hr with h | h
            · exact h
            · rw [h]; simp
          rcases List.mem_append.mp this with hr | hr
          · exact ⟨(hr' r hr).1.keeps k5, (hr' r hr).2⟩
          · rw [List.mem_singleton.mp hr]; exact ⟨(hz son (.tail _ hsonm)).1.keeps fun b o e => k5 _ _ (kg4 _ _ (kg3 _ _ e)), (hz son (.tail _ hsonm)).2⟩
        · rw [List.take_add_one, hq, List.foldl_append]
          show Rel2 _ _ (pushP _ q)
          unfold pushP
          rw [hR'.len]
          exact sdown_rel hl' hsq _ _ _ (hR'.append (Rel2.cons hsq Rel2.nil))
      · clear S W
        rintro m₃ g₄ nx₃ h₁ tk₁ kg4 S ⟨hs', n1, t, rfl, hr', hR', e⟩
        k_steps
        rename St _ _ _ _ _ => zS
        (show FPost _ _ _ _ _ _ _ _ _ _); dsimp only [FPost]
        refine ⟨_, _, _, _, [(O, _), (H, _)], [], rfl, fun b o e => kg4 _ _ (kg3 _ _ (kg2 _ _ (kg _ _ e))), zS, fun g₅ k5 _ => ⟨hs', os ++ [x], n1, n2 + 1, t, rfl, hr'.keeps k5, ?_, ?_, ?_, e⟩⟩
        · intro r hr
          rcases List.mem_append.mp hr with hr | hr
          · exact ⟨(hro r hr).1.keeps fun b o e => k5 _ _ (kg4 _ _ (kg3 _ _ (kg2 _ _ e))), (hro r hr).2⟩
          · rw [List.mem_singleton.mp hr]; exact ⟨(hrh x (.head _)).1.keeps fun b o e => k5 _ _ (kg4 _ _ (kg3 _ _ (kg2 _ _ e))), (hrh x (.head _)).2⟩
        · have eg : growN ws n (i + 1) = (l.foldl pushP (siftup plt a (a :: ps)), (growN ws n i).2 ++ [p]) := by
            show growP ws (growN ws n i) = _
            unfold growP
            rw [hps]; dsimp only; rw [hsons]
          rw [eg]
          rw [List.take_of_length_le (by have := hrz.len; simp only [List.length_cons] at this; simp; exact om115 this)] at hR'
          exact hR'
        · have eg : growN ws n (i + 1) = (l.foldl pushP (siftup plt a (a :: ps)), (growN ws n i).2 ++ [p]) := by
            show growP ws (growN ws n i) = _
            unfold growP
            rw [hps]; dsimp only; rw [hsons]
          rw [eg]
          exact (hRo.mono fun _ _ h => ⟨h.1, h.2.up⟩).append (Rel2.cons ⟨hxk, hxo.up⟩ Rel2.nil)
  · clear S W
    rintro m₁ g₁ nx₁ h₁ tk₁ kg S ⟨hs, os, n1, n2, t, rfl, hrh, hro, hRh, hRo, e⟩
    replace S := S.norm e
    dsimp only [putAll, List.foldr_cons, List.foldr_nil] at S
    have G1 : Gd w g₁ := G'.mono fun b o e => kg _ _ (kg0 _ _ e)
    obtain ⟨hl1, hl2⟩ := growN_len (ws := ws) (by intro q; rw [q] at hn; simp at hn) n n
    try dsimp only
    k_steps
    rename St _ _ _ _ _ => zS
    rename_i WD _ _ _ _ _
    refine while_st (GrW g' g₁ H O WD os n2 n (popN (growN ws n n).1.length (growN ws n n).1)) zS
      ⟨hs, [], n1, 0, _, [], rfl, by rw [hRh.len, hl1]; have : n * (ws.length - 1) ≤ 4 * 2 := Nat.mul_le_mul (by exact hn4) (by exact om114 hn); simp; exact om113 this, rfl, rfl, hrh, (fun r hr => nomatch hr), hRh, Rel2.nil, by simp, rfl, rfl, rfl, trivial⟩ ?_
    clear zS
    rintro n' m₂ g₂ nx₂ h₂ tk₂ - S ⟨hs', wd, n1', n3, hp, wp, rfl, hsl, rfl, rfl, hrh', hrw, hRh', hRw, htot, e⟩
    replace S := S.norm e
    dsimp only [putAll, List.foldr_cons, List.foldr_nil] at S
    k_steps
    rename St _ _ _ _ _ => zS
    refine led_truthy zS at2 (by simp; exact om112 hsl) ?_
    intro tk'
    rcases List.eq_nil_or_concat hs' with rfl | ⟨xs, r, hxr⟩
    · rw [if_neg (by simp)]
      try dsimp only
      k_steps
      rename St _ _ _ _ _ => zS
      have hnw : ∀ a, g₂.get? a = none → s.heap.get? a = none := fun a e => hfr a (by
        cases q : g'.get? a with
        | none => rfl
        | some o => rw [kg _ _ (kg0 _ _ q)] at e; cases e)
      have hin : ∀ r : Row, r.In g₂ ∧ g'.get? r.addr = none → r.In (newPart s.heap _) := fun r ⟨⟨t, u, o, ho, x⟩, hf⟩ => ⟨t, u, o, newPart_get (zS.keep _ _ ho) (hfr _ hf), x⟩
      have hp0 : hp = [] := List.eq_nil_of_length_eq_zero (by rw [← hRh'.len]; rfl)
      subst hp0
      refine hQ _ _ _ O WD os wd n2 n3 (hext _ fun b o e => zS.keep _ _ (kg _ _ (kg0 _ _ e))) ⟨_, newPart_get (zS.at at0) (hnw _ (zS.freshN _ (mem_fst_of_get at0))), rfl, _, rfl⟩ (newPart_get (zS.at at2) (hnw _ (zS.freshN _ (mem_fst_of_get at2)))) (newPart_get (zS.at at1) (hnw _ (zS.freshN _ (mem_fst_of_get at1))))
        (fun r hr => hin r (hro r hr)) (fun r hr => hin r (hrw r hr)) hRo ?_
      rw [← htot]
      simpa [popN] using hRw
    · rw [List.concat_eq_append] at hxr
      subst hxr
      rw [if_pos (by simp)]
      have hxl : xs.length < 20 := by simp at hsl; exact om111 hsl
      have hwl : wd.length < 20 := by simp at hsl; exact om110 hsl
      k_steps
      rename St _ _ _ _ _ => zS
      refine pop_call (r := r) (xs := xs) zS G1 ((R' _).less (by decide)) at2 rfl (fun q hq => (hrh' q hq).1.keeps zS.keep) (by exact om109 hxl) ?_
      clear zS
      intro h' tk' S _
      simp only [List.set_cons_zero, List.set_cons_succ] at S
      k_steps
      rename St _ _ _ _ _ => zS
      obtain ⟨q', ys', hpp, hq1, hq2, hq3⟩ := popped_rel hRh'
      have hpm := popped_mem (xs := xs) (r := r)
      (show WPost _ _ _ _ _ _ _ _); dsimp only [WPost]
      refine ⟨_, _, _, _, _, (popped xs r).2.length, rfl, fun _ _ e => e, zS, ?_, (popped xs r).2, wd ++ [(popped xs r).1], n1' + 1, n3 + 1, ys', wp ++ [q'], rfl, ?_, by simp, rfl, fun q hq => hrh' q (hpm.2 q hq), ?_, hq2, hRw.append (Rel2.cons hq1 Rel2.nil), ?_, rfl, rfl, rfl, trivial⟩
      · have h1 := hq2.len
        have h2 := hRh'.len
        exact om108 hq3 h1 h2
      · have h1 := hq2.len
        have h2 := hRh'.len
        simp at h2 hsl ⊢
        exact om107 hq3 h1 h2 hsl
      · intro q hq
        rcases List.mem_append.mp hq with hq | hq
        · exact hrw q hq
        · rw [List.mem_singleton.mp hq]; exact hrh' _ hpm.1
      · rw [← htot, ← hq3]
        show _ = wp ++ ((popP hp).1 ++ popN ys'.length (popP hp).2)
        rw [hpp]; simp
end
-- La168
section
section
variable {prog : Program} {w : World} {A : Around} {E : Value → Shared → Prop} {s : Shared} {g : Heap} {env : Env} {m : Str → Option Value} {nx : List (Addr × Obj)}
theorem add_st {l b : Addr} {vs ws : List Value} {Q : Value → Shared → Prop} (S : St g env s.heap m nx) (hl : s.heap.IsList l vs.toArray) (hb : s.heap.IsList b ws.toArray) (hz : vs.length + ws.length ≤ 10000)
    (h : ∀ D h', St g env h' m ((D, listOf (vs ++ ws).toArray 0) :: nx) → s.heap.StaysIn h' → Q (.ref D) { s with heap := h' }) :
    wpAny (model prog w) A (binaryOp .Add (.ref l) (.ref b)) Q E s := by
  obtain ⟨⟨cls, dd, data, sl⟩, ho, hc, n, hd⟩ := id hl
  obtain ⟨⟨cls2, dd2, data2, sl2⟩, ho2, hc2, n2, hd2⟩ := id hb
  simp only at hc hd hc2 hd2
  subst hc hd hc2 hd2
  have e : vs.toArray ++ ws.toArray = (vs ++ ws).toArray := by simp
  refine concat_meets ⟨_, ho, rfl⟩ ⟨_, ho2, rfl⟩ PySem.noFill_list_add PySem.seq_list_add PySem.F.slot_list_add PySem.F.entry_list_add (PySem.F.args_list_add_2 _ _) (list_addW l b vs.toArray ws.toArray n n2 dd dd2 sl sl2 (by unfold sizeLine; simp; exact om219 hz)) ⟨ho, ho2, ?_⟩
  rw [e]
  exact h _ _ (S.push _ rfl) fun _ _ e => Heap.get?_push_of_some _ e
end
theorem longer_call {w : World} {A : Around} {s : Shared} {g : Heap} {env : Env} {m : Str → Option Value} {nx : List (Addr × Obj)} {lr lw : Addr} {xs : List Row} {ps : List (Int × List Nat)} {vw : List Value} {ws : List Int} {Q : Value → Shared → Prop} (S : St g env s.heap m nx) (R : Rm A 1) (G : Gd w g)
    (hl : s.heap.IsList lr (xs.map Row.val).toArray) (hr : ∀ r ∈ xs, r.In s.heap) (hx : xs.map Row.key = ps.map keyT) (hw : s.heap.IsList lw vw.toArray) (hiw : IntsAre vw ws) (hn : 2 ≤ ws.length ∧ ws.length ≤ 3) (hpos : ∀ x ∈ ws, 0 < x ∧ x < 10) (hsum : 0 < ws.sum ∧ ws.sum < 100) (hz : xs.length < 500) (hu : ∀ p ∈ ps, p.2.length < 100 ∧ -1000000 ≤ p.1 ∧ p.1 ≤ 0)
    (h : ∀ g₂ h' tk' a (ys : List Row), g.StaysIn g₂ → St g₂ env h' m nx → s.heap.StaysIn h' → g₂.IsList a (ys.map Row.val).toArray → Rws g g₂ ys → g.get? a = none → ys.map Row.key = (ps.flatMap (sonsT ws)).map keyT → Q (.ref a) { s with heap := h', toks := tk' }) :
    wpAny (model PG w) A (call (.ref 181) [.ref lr, .ref lw]) Q NoE s := by
  refine longer_spec R G S.keep hl hr hx hw hiw hn hpos hsum hz hu fun h' tk' a n ys k ha hna hry hny hk => ?_
  obtain ⟨g₂, kg, kn, S₂⟩ := S.adopt k
  have nog : ∀ b, s.heap.get? b = none → g.get? b = none := fun b e => by
    cases q : g.get? b with
    | none => rfl
    | some o => rw [S.keep _ _ q] at e; cases e
  refine h g₂ h' tk' a ys kg S₂ k ⟨_, kn _ _ (newPart_get ha hna), rfl, n, rfl⟩ (fun r hr => ⟨?_, nog _ (hny r hr)⟩) (nog _ hna) hk
  obtain ⟨t, u, o, ho, e⟩ := hry r hr
  exact ⟨t, u, o, kn _ _ (newPart_get ho (hny r hr)), e⟩
theorem isL_up {g h : Heap} {l : Addr} {vs : Array Value} (hl : g.IsList l vs) (k : g.StaysIn h) : h.IsList l vs := let ⟨o, ho, r⟩ := hl; ⟨o, k _ _ ho, r⟩
theorem isT_up {g h : Heap} {l : Addr} {vs : Array Value} (hl : g.IsTuple l vs) (k : g.StaysIn h) : h.IsTuple l vs := let ⟨o, ho, r⟩ := hl; ⟨o, k _ _ ho, r⟩
/-- the layers and the rows of all letters -/
noncomputable def layN (ws : List Int) (n : Nat) : Nat → List (Int × List Nat)
  | 0 => [(-(ws.sum ^ n), [])]
  | i + 1 => (layN ws n i).flatMap (sonsT ws)
noncomputable def rowsN (ws : List Int) (n : Nat) : Nat → List (Int × List Nat)
  | 0 => []
  | i + 1 => rowsN ws n i ++ layN ws n i
structure Told (ws : List Int) (n : Nat) (OP WD : List (Int × List Nat)) : Prop where
  nd : (rowsN ws n n).Nodup
  len : 2 ≤ (rowsN ws n n).length ∧ (rowsN ws n n).length < 64
  op : ∀ ys : List (Int × List Nat), ys.Perm (rowsN ws n n) → ys.Pairwise (fun a b => plt a b = true) → ys.take n = OP
  nd2 : ((OP.flatMap (sonsT ws)).filter (fun p => !decide (p ∈ OP))).Nodup
  len2 : 2 ≤ ((OP.flatMap (sonsT ws)).filter (fun p => !decide (p ∈ OP))).length ∧ ((OP.flatMap (sonsT ws)).filter (fun p => !decide (p ∈ OP))).length < 64
  wd : ∀ ys : List (Int × List Nat), ys.Perm ((OP.flatMap (sonsT ws)).filter (fun p => !decide (p ∈ OP))) → ys.Pairwise (fun a b => plt a b = true) → ys = WD
theorem layN_len (ws : List Int) (n : Nat) (h : ws.length ≤ 3) : ∀ i, (layN ws n i).length ≤ 3 ^ i
  | 0 => by simp [layN]
  | i + 1 => by
    rw [layN, sonsT_flat_len, Nat.pow_succ]
    exact Nat.mul_le_mul (layN_len ws n h i) h
theorem rowsN_len (ws : List Int) (n : Nat) (h : ws.length ≤ 3) : ∀ i, (rowsN ws n i).length ≤ 3 ^ i
  | 0 => by simp [rowsN]
  | i + 1 => by
    have h1 := rowsN_len ws n h i
    have h2 := layN_len ws n h i
    rw [rowsN, List.length_append, Nat.pow_succ]; exact om218 h1 h2
theorem sonsT_mem {ws : List Int} {p q : Int × List Nat} (h : q ∈ sonsT ws p) : ∃ k x, ws[k]? = some x ∧ q = ((p.1 * x).fdiv ws.sum, p.2 ++ [97 + k]) := by
  unfold sonsT at h
  obtain ⟨k, hk, rfl⟩ := List.mem_map.mp h
  have hk' := List.mem_range.mp hk
  refine ⟨k, ws[k], List.getElem?_eq_getElem hk', ?_⟩
  simp [List.getD, hk']
theorem layN_ok {ws : List Int} {n : Nat} (hpos : ∀ x ∈ ws, 0 < x ∧ x ≤ ws.sum) (hsum : 0 < ws.sum) (hbig : ws.sum ^ n ≤ 1000000) : ∀ i, ∀ p ∈ layN ws n i, p.2.length = i ∧ -1000000 ≤ p.1 ∧ p.1 ≤ 0
  | 0 => fun p hp => by
    rw [layN, List.mem_singleton] at hp
    have hp0 : 0 ≤ ws.sum ^ n := Int.pow_nonneg (Int.le_of_lt hsum)
    subst hp; exact ⟨rfl, by show -1000000 ≤ -(ws.sum ^ n); exact om138 hbig, by show -(ws.sum ^ n) ≤ 0; exact om137 hp0⟩
  | i + 1 => fun p hp => by
    rw [layN, List.mem_flatMap] at hp
    obtain ⟨q, hq, hp⟩ := hp
    obtain ⟨k, x, hx, rfl⟩ := sonsT_mem hp
    have h1 := layN_ok hpos hsum hbig i q hq
    refine ⟨by simp [h1.1], fdiv_ok h1.2 (hpos x (List.mem_of_getElem? hx))⟩
theorem rowsN_in {ws : List Int} {n : Nat} : ∀ i, ∀ p ∈ rowsN ws n i, ∃ j, j < i ∧ p ∈ layN ws n j
  | 0 => fun p hp => by simp [rowsN] at hp
  | i + 1 => fun p hp => by
    rw [rowsN] at hp
    rcases List.mem_append.mp hp with hp | hp
    · obtain ⟨j, hj, h⟩ := rowsN_in i p hp; exact ⟨j, by exact om157 hj, h⟩
    · exact ⟨i, by exact om217, hp⟩
theorem keyT_inj {p q : Int × List Nat} (h : keyT p = keyT q) : p = q := by
  have h1 : (keyT p).1 = (keyT q).1 := congrArg Prod.fst h
  have h2 : (keyT p).2 = (keyT q).2 := congrArg Prod.snd h
  obtain ⟨a, b⟩ := p; obtain ⟨c, d⟩ := q
  simp only at h1 h2
  rw [h1, T_inj h2]
theorem nodup_keyT {l : List (Int × List Nat)} (h : l.Nodup) : (l.map keyT).Nodup := by
  rw [List.nodup_iff_pairwise_ne, List.pairwise_map]
  exact (List.nodup_iff_pairwise_ne.mp h).imp fun h q => h (keyT_inj q)
/-- a perm of the rows is a perm of what they stand for -/
theorem perm_rows {ys xs : List Row} {ps : List (Int × List Nat)} (hp : ys.Perm xs) (hx : xs.map Row.key = ps.map keyT) : ∃ qs : List (Int × List Nat), qs.Perm ps ∧ ys.map Row.key = qs.map keyT := by
  have h1 : (ys.map Row.key).Perm (ps.map keyT) := hx ▸ hp.map Row.key
  refine ⟨(ys.map Row.key).map fun k => (k.1, k.2.cps.toList), ?_, ?_⟩
  · have h2 := h1.map fun k : Int × Str => (k.1, k.2.cps.toList)
    rw [List.map_map (l := ps)] at h2
    have e : ((fun k : Int × Str => (k.1, k.2.cps.toList)) ∘ keyT) = id := by funext p; simp [keyT]
    rw [e, List.map_id] at h2
    exact h2
  · rw [List.map_map, List.map_map]
    refine List.map_congr_left fun r hr => ?_
    show r.key = keyT (r.key.1, r.key.2.cps.toList)
    obtain ⟨a, b, c⟩ := r
    simp [keyT, T]
end
-- Cut168
section
inductive CutJ (WS : List (List Nat)) (msg : List Nat) (lw NL : Addr) (i : Nat) (m₁ : PySem.Str → Option Value) (g₁ : Heap) (nx₁ : List (Addr × Obj)) : Prop
  | mk (vn : List Value) (n : Nat) (t : Tok) (en : nx₁ = [(NL, listOf vn.toArray n)]) (h1 : IntsAre vn (intsN ((msg.take i).foldl (cutStep WS) ([], [])).1))
    (ha : HasAll m₁ [("ways", .ref lw), ("numbers", .ref NL), ("way", .str (way ((msg.take i).foldl (cutStep WS) ([], [])).2) t)]) : CutJ WS msg lw NL i m₁ g₁ nx₁
theorem CutJ.of {WS : List (List Nat)} {msg : List Nat} {lw NL : Addr} {i : Nat} {m₁ : PySem.Str → Option Value} {g₁ : Heap} {nx₁ : List (Addr × Obj)} {st : List Nat × List Nat} (e : (msg.take i).foldl (cutStep WS) ([], []) = st) (vn : List Value) (n : Nat) (t : Tok) (en : nx₁ = [(NL, listOf vn.toArray n)]) (h1 : IntsAre vn (intsN st.1))
    (ha : HasAll m₁ [("ways", .ref lw), ("numbers", .ref NL), ("way", .str (way st.2) t)]) : CutJ WS msg lw NL i m₁ g₁ nx₁ := by subst e; exact ⟨vn, n, t, en, h1, ha⟩
set_option maxRecDepth 100000 in
set_option maxHeartbeats 4000000 in
theorem cut_spec {w : World} {A : Around} {s : Shared} {g : Heap} {lw : Addr} {vw : List Value} {WS : List (List Nat)} {msg : List Nat} {tm : Tok} {Q : Value → Shared → Prop} (R : Rm A 3) (G : Gd w g) (st : g.StaysIn s.heap)
    (hw : LL s.heap lw vw) (hiw : TsAre vw (WS.map wayL)) (hz : WS.length < 100) (hm : msg.length < 100) (h47 : ∀ c ∈ msg, c ≠ 47)
    (hQ : ∀ h' tk' a ln vn n t, s.heap.StaysIn h' → (newPart s.heap h').IsTuple a #[.ref ln, .str (way (msg.foldl (cutStep WS) ([], [])).2) t] → (newPart s.heap h').get? ln = some (listOf vn.toArray n) → IntsAre vn (intsN (msg.foldl (cutStep WS) ([], [])).1) → Q (.ref a) { s with heap := h', toks := tk' }) :
    wpAny (model PG w) A (call (.ref 193) [.str (T msg) tm, .ref lw]) Q NoE s := by
  refine enter (binds := [("message", .str (T msg) tm), ("ways", .ref lw)]) [] G st (by simp) (by simp) (by k_dflt k_is) (by k_dflt k_is) R.room (BindsTo.of_eq rfl) rfl (by decide) (by decide) ?_ rfl rfl rfl
  intro g' L h₁ tk G' hk S
  have zB : Base s := trivial
  have R' : ∀ env, Rm (A.deeper env) 2 := fun _ => R.deeper
  have hext : ∀ h', g'.StaysIn h' → s.heap.StaysIn h' := fun h' k b o e => k b o (hk b o (by simp) e)
  have hkg : s.heap.StaysIn g' := fun b o e => hk b o (by simp) e
  have hfr : ∀ a, g'.get? a = none → s.heap.get? a = none := fun a e => by
    cases q : s.heap.get? a with
    | none => rfl
    | some o => rw [hk a o (by simp) q] at e; cases e
  clear st R hk
  dsimp only [bindAll, List.foldl_cons, List.foldl_nil] at S
  have hw' : LL g' lw vw := hw.up hkg
  clear G hw
  k_steps
  rename St _ _ _ _ _ => zS
  refine it_str zS (R' _).hand ?_
  clear zS
  intro I oI h' S W _
  rename_i NL _ _ _ _ _ _ _ _ _
  have hst : ∀ i, (∀ k ∈ ((msg.take i).foldl (cutStep WS) ([], [])).1, k < WS.length) ∧ ((msg.take i).foldl (cutStep WS) ([], [])).1.length ≤ 100 ∧ ((msg.take i).foldl (cutStep WS) ([], [])).2.length ≤ 100 ∧ ∀ c ∈ ((msg.take i).foldl (cutStep WS) ([], [])).2, c ≠ 47 := fun i => by
    have h1 := cut_ok (WS := WS) (msg.take i) ([], []) (fun k hk => nomatch hk)
    have h2 : (msg.take i).length ≤ 100 := by rw [List.length_take]; exact om19 hm
    refine ⟨h1.2.2.1, by have := h1.1; simp at this h2 ⊢; exact om89 hm this, by have := h1.2.1; simp at this h2 ⊢; exact om89 hm this, fun c hc => ?_⟩
    rcases h1.2.2.2 c hc with h | h
    · exact nomatch h
    · exact h47 c (List.mem_of_mem_take h)
  refine for_it (CutJ WS msg lw NL) S W ⟨[], 0, _, rfl, .nil, rfl, rfl, rfl, trivial⟩ ?_ ?_
  · clear S W
    rintro i v m₁ g₁ nx₁ h₁ tk₁ oI hi ⟨c, u, hc, rfl⟩ kg - S ⟨vn, n, t, rfl, hvn, e⟩
    replace S := S.norm e
    dsimp only [putAll, List.foldr_cons, List.foldr_nil] at S
    have G1 : Gd w g₁ := G'.mono kg
    have hw1 : LL g₁ lw vw := hw'.up kg
    have hc' : msg[i]? = some c := by simpa using hc
    have hsti := hst i
    have hnext : (msg.take (i + 1)).foldl (cutStep WS) ([], []) = cutStep WS ((msg.take i).foldl (cutStep WS) ([], [])) c := by rw [List.take_add_one, hc', List.foldl_append]; rfl
    generalize (msg.take i).foldl (cutStep WS) ([], []) = sti at *
    have hvl : vn.length ≤ 100 := by have h1 := hvn.length; rw [List.length_map] at h1; omega
    refine let_name ?_
    k_steps
    rename St _ _ _ _ _ => zS
    refine jn_call zS G1 ((R' _).less (by decide)) (h47 c (List.mem_of_getElem? hc')) (by have := hsti.2.2.1; exact om88 this) hsti.2.2.2 ?_
    clear zS
    intro h' tk' t' S _
    k_steps
    rename St _ _ _ _ _ => zS
    refine in_list_strs (hw1.up zS.keep).is hiw ?_
    rw [any_T, decide_eq_decide.mpr way_mem]
    by_cases hin : sti.2 ++ [c] ∈ WS
    · rw [decide_eq_true hin]
      have hcs : cutStep WS sti c = (sti.1 ++ [WS.idxOf (sti.2 ++ [c])], []) := if_pos hin
      k_steps
      rename St _ _ _ _ _ => zS
      refine ls_method (hw1.up zS.keep) PySem.F.slot_list_index PySem.F.type_list_index ?_
      k_steps
      rename St _ _ _ _ _ => zS
      refine index_ts (hw1.up zS.keep).is hiw (by simp; exact om81 hz) (way_mem.mpr hin) ?_
      rw [way_idx]
      k_steps
      rename St _ _ _ _ _ => zS
      (show FPost _ _ _ _ _ _ _ _ _ _); dsimp only [FPost]
      refine ⟨_, _, _, _, [(NL, _)], [], rfl, kg, zS, fun g₅ k5 _ => ?_⟩
      try dsimp only
      refine CutJ.of (hnext.trans hcs) _ _ _ rfl ?_ ⟨rfl, rfl, rfl, trivial⟩
      rw [show intsN (sti.1 ++ [WS.idxOf (sti.2 ++ [c])]) = intsN sti.1 ++ [((WS.idxOf (sti.2 ++ [c]) : Nat) : Int)] from List.map_append]
      exact IntsAre.append hvn (.cons _ _ .nil)
    · rw [decide_eq_false hin]
      have hcs : cutStep WS sti c = (sti.1, sti.2 ++ [c]) := if_neg hin
      k_steps
      rename St _ _ _ _ _ => zS
      (show FPost _ _ _ _ _ _ _ _ _ _); dsimp only [FPost]
      refine ⟨_, _, _, _, [(NL, _)], [], rfl, kg, zS, fun g₅ k5 _ => ?_⟩
      try dsimp only
      exact CutJ.of (hnext.trans hcs) _ _ _ rfl hvn ⟨rfl, rfl, rfl, trivial⟩
  · clear S W
    rintro m₁ g₁ nx₁ h₁ tk₁ kg S ⟨vn, n, t, rfl, hvn, e⟩
    have ht : msg.take (T msg).cps.size = msg := List.take_of_length_le (by simp)
    rw [ht] at hvn e
    replace S := S.norm e
    dsimp only [putAll, List.foldr_cons, List.foldr_nil] at S
    k_steps
    rename St _ _ _ _ _ => zS
    have hnw : ∀ a, g₁.get? a = none → s.heap.get? a = none := fun a e => hfr a (by
      cases q : g'.get? a with
      | none => rfl
      | some o => rw [kg _ _ q] at e; cases e)
    refine hQ _ _ _ NL vn n _ (hext _ fun b o e => zS.keep _ _ (kg _ _ e)) ⟨_, newPart_get (zS.at at0) (hnw _ (zS.freshN _ (mem_fst_of_get at0))), rfl, _, rfl⟩ (newPart_get (zS.at at1) (hnw _ (zS.freshN _ (mem_fst_of_get at1)))) hvn
end
-- Hl168
section
structure Ordr {α : Type} (lt : α → α → Bool) : Prop where
  irr : ∀ a, lt a a = false
  trans : ∀ a b c, lt a b = true → lt b c = true → lt a c = true
  tot : ∀ a b, lt a b = false → lt b a = false → a = b
section
variable {α : Type} {lt : α → α → Bool}
theorem Ordr.asy (O : Ordr lt) {a b : α} (h : lt a b = true) : lt b a = false := by
  cases q : lt b a with
  | false => rfl
  | true => rw [← O.irr a, O.trans a b a h q]
/-- a ≤ b, b ≤ c -/
theorem Ordr.le (O : Ordr lt) {a b c : α} (h : lt b a = false) (h2 : lt c b = false) : lt c a = false := by
  cases q : lt c a with
  | false => rfl
  | true =>
    cases q2 : lt b c with
    | true => rw [← h, O.trans b c a q2 q]
    | false => rw [← h, O.tot b c q2 h2, q]
noncomputable def IsHeap (lt : α → α → Bool) (xs : List α) : Prop := ∀ i, 0 < i → ∀ x p, xs[i]? = some x → xs[(i - 1) / 2]? = some p → lt x p = false
theorem get_set (xs : List α) (p i : Nat) (v : α) (hp : p < xs.length) : (xs.set p v)[i]? = if p = i then some v else xs[i]? := by
  rw [List.getElem?_set]
  by_cases e : p = i
  · rw [if_pos e, if_pos e, if_pos (by exact hp)]
  · rw [if_neg e, if_neg e]
theorem sdown_heap (O : Ordr lt) (item : α) : ∀ (pos : Nat) (xs : List α), pos < xs.length →
    (∀ i, 0 < i → i ≠ pos → ∀ x p, (xs.set pos item)[i]? = some x → (xs.set pos item)[(i - 1) / 2]? = some p → lt x p = false) →
    (0 < pos → ∀ i, 0 < i → (i - 1) / 2 = pos → ∀ x p, xs[i]? = some x → xs[(pos - 1) / 2]? = some p → lt x p = false) → IsHeap lt (sdown lt item xs pos) := by
  intro pos
  induction pos using Nat.strongRecOn with
  | ind pos ih =>
    intro xs hlt hA hB
    unfold sdown
    by_cases h : 0 < pos
    · rw [dif_pos h]
      have hpp : (pos - 1) / 2 < pos := by exact om106 h
      obtain ⟨v, hv⟩ : ∃ v, xs[(pos - 1) / 2]? = some v := ⟨xs[(pos - 1) / 2]'(by exact om173 hlt), List.getElem?_eq_getElem _⟩
      rw [hv]
      dsimp only
      split
      · rename_i hc
        refine ih _ hpp _ (by rw [List.length_set]; exact om173 hlt) ?_ ?_
        · intro i hi hne x p hx hp
          rw [get_set _ _ _ _ (by rw [List.length_set]; exact om173 hlt), get_set _ _ _ _ hlt] at hx hp
          rw [if_neg (Ne.symm hne)] at hx
          by_cases e : pos = i
          · subst e
            rw [if_pos rfl] at hx hp
            cases hx; cases hp
            exact O.asy hc
          · rw [if_neg e] at hx
            by_cases e1 : (pos - 1) / 2 = (i - 1) / 2
            · rw [if_pos e1] at hp
              cases hp
              have := hA i hi (Ne.symm e) x v (by rw [get_set _ _ _ _ hlt, if_neg e]; exact hx) (by rw [get_set _ _ _ _ hlt, if_neg (by exact om193 h e1), ← e1]; exact hv)
              exact O.le (O.asy hc) this
            · rw [if_neg e1] at hp
              by_cases e2 : pos = (i - 1) / 2
              · rw [if_pos e2] at hp
                cases hp
                exact hB h i hi e2.symm x v hx hv
              · rw [if_neg e2] at hp
                exact hA i hi (Ne.symm e) x p (by rw [get_set _ _ _ _ hlt, if_neg e]; exact hx) (by rw [get_set _ _ _ _ hlt, if_neg e2]; exact hp)
        · intro h0 i hi hpi x p hx hp
          rw [get_set _ _ _ _ hlt] at hx hp
          rw [if_neg (by exact om191 h)] at hp
          have hvp : lt v p = false := hA ((pos - 1) / 2) h0 (by exact om192 h) v p (by rw [get_set _ _ _ _ hlt, if_neg (by exact om182 h)]; exact hv) (by rw [get_set _ _ _ _ hlt, if_neg (by exact om191 h)]; exact hp)
          by_cases e : pos = i
          · rw [if_pos e] at hx
            cases hx
            exact hvp
          · rw [if_neg e] at hx
            have := hA i hi (Ne.symm e) x v (by rw [get_set _ _ _ _ hlt, if_neg e]; exact hx) (by rw [get_set _ _ _ _ hlt, if_neg (by exact om190 h hpi), hpi]; exact hv)
            exact O.le hvp this
      · rename_i hc
        intro i hi x p hx hp
        by_cases e : i = pos
        · subst e
          rw [get_set _ _ _ _ hlt] at hx hp
          rw [if_pos rfl] at hx
          rw [if_neg (by exact om182 hi), hv] at hp
          cases hx; cases hp
          exact Bool.eq_false_iff.mpr hc
        · exact hA i hi e x p hx hp
    · rw [dif_neg h]
      intro i hi x p hx hp
      exact hA i hi (by exact om189 h hi) x p hx hp
theorem set_perm {xs : List α} {i j : Nat} {v a : α} (hi : i < xs.length) (hne : i ≠ j) (hv : xs[j]? = some v) : ((xs.set i v).set j a).Perm (xs.set i a) := by
  have hj : j < xs.length := (List.getElem?_eq_some_iff.mp hv).1
  have h := List.set_set_perm (as := xs.set i a) (i := i) (j := j) (by simpa using hi) (by simpa using hj)
  have e1 : (xs.set i a)[i]'(by simpa using hi) = a := by simp
  have e2 : (xs.set i a)[j]'(by simpa using hj) = v := by
    rw [List.getElem_set_ne hne]
    exact (List.getElem?_eq_some_iff.mp hv).2
  rw [e1, e2, List.set_set] at h
  exact h
theorem sdown_perm (item : α) : ∀ (pos : Nat) (xs : List α), pos < xs.length → (sdown lt item xs pos).Perm (xs.set pos item) := by
  intro pos
  induction pos using Nat.strongRecOn with
  | ind pos ih =>
    intro xs hlt
    unfold sdown
    by_cases h : 0 < pos
    · rw [dif_pos h]
      obtain ⟨v, hv⟩ : ∃ v, xs[(pos - 1) / 2]? = some v := ⟨xs[(pos - 1) / 2]'(by exact om173 hlt), List.getElem?_eq_getElem _⟩
      rw [hv]
      dsimp only
      split
      · refine (ih _ (by exact om106 h) _ (by rw [List.length_set]; exact om173 hlt)).trans ?_
        exact set_perm hlt (by exact om188 h) hv
      · exact .refl _
    · rw [dif_neg h]
theorem supc_eq (xs : List α) (pos : Nat) : supc lt xs pos = 2 * pos + 1 ∨ supc lt xs pos = 2 * pos + 2 := by
  unfold supc; split
  · split
    · exact .inl rfl
    · exact .inr rfl
  · exact .inl rfl
/-- the son that is chosen is the least -/
theorem supc_min (O : Ordr lt) {xs : List α} {pos i : Nat} {v x : α} (h : 2 * pos + 1 < xs.length) (hv : xs[supc lt xs pos]? = some v) (hi : 0 < i) (hp : (i - 1) / 2 = pos) (hx : xs[i]? = some x) : lt x v = false := by
  have h1 : i = 2 * pos + 1 ∨ i = 2 * pos + 1 + 1 := by exact om187 hi hp
  unfold supc at hv
  obtain ⟨a, ha⟩ : ∃ a, xs[2 * pos + 1]? = some a := ⟨_, List.getElem?_eq_getElem h⟩
  rw [ha] at hv
  cases hb : xs[2 * pos + 1 + 1]? with
  | none =>
    rw [hb] at hv
    dsimp only at hv
    rw [ha] at hv
    cases hv
    rcases h1 with rfl | rfl
    · rw [ha] at hx; cases hx; exact O.irr _
    · rw [hb] at hx; cases hx
  | some b =>
    rw [hb] at hv
    dsimp only at hv
    split at hv
    · rename_i hc
      rw [ha] at hv; cases hv
      rcases h1 with rfl | rfl
      · rw [ha] at hx; cases hx; exact O.irr _
      · rw [hb] at hx; cases hx; exact O.asy hc
    · rename_i hc
      rw [hb] at hv; cases hv
      rcases h1 with rfl | rfl
      · rw [ha] at hx; cases hx; exact Bool.eq_false_iff.mpr hc
      · rw [hb] at hx; cases hx; exact O.irr _
theorem supc_in {xs : List α} {pos : Nat} (h : 2 * pos + 1 < xs.length) : supc lt xs pos < xs.length := by
  unfold supc
  split
  · rename_i hb
    split
    · exact h
    · exact (List.getElem?_eq_some_iff.mp hb).1
  · exact h
/-- a heap but for a hole -/
noncomputable def HHole (lt : α → α → Bool) (xs : List α) (pos : Nat) : Prop :=
  (∀ i, 0 < i → i ≠ pos → (i - 1) / 2 ≠ pos → ∀ x p, xs[i]? = some x → xs[(i - 1) / 2]? = some p → lt x p = false) ∧
  (0 < pos → ∀ i, 0 < i → (i - 1) / 2 = pos → ∀ x p, xs[i]? = some x → xs[(pos - 1) / 2]? = some p → lt x p = false)
theorem sup_heap (O : Ordr lt) (item : α) : ∀ (n : Nat) (xs : List α) (pos : Nat), xs.length - pos ≤ n → pos < xs.length → HHole lt xs pos →
    (sup lt xs pos).2 < (sup lt xs pos).1.length ∧ (sup lt xs pos).1.length ≤ 2 * (sup lt xs pos).2 + 1 ∧ HHole lt (sup lt xs pos).1 (sup lt xs pos).2 ∧ ((sup lt xs pos).1.set (sup lt xs pos).2 item).Perm (xs.set pos item) := by
  intro n
  induction n with
  | zero => intro xs pos h1 h2; exact (om186 h1 h2).elim
  | succ n ih =>
    intro xs pos hn hlt hH
    unfold sup
    by_cases h : 2 * pos + 1 < xs.length
    · rw [dif_pos h]
      have hc := supc_in (lt := lt) h
      have hc2 := supc_eq (lt := lt) xs pos
      obtain ⟨v, hv⟩ : ∃ v, xs[supc lt xs pos]? = some v := ⟨_, List.getElem?_eq_getElem hc⟩
      rw [hv]
      dsimp only
      have hmin := fun i x => supc_min (i := i) (x := x) O h hv
      generalize supc lt xs pos = c at hc hc2 hv hmin
      have hpc : (c - 1) / 2 = pos := by exact om185 hc2
      have := ih (xs.set pos v) c (by rw [List.length_set]; exact om184 hn hc2) (by rw [List.length_set]; exact hc) ?_
      · refine ⟨this.1, this.2.1, this.2.2.1, this.2.2.2.trans ?_⟩
        exact set_perm hlt (by exact om183 hc2) hv
      · refine ⟨fun i hi hne hpi x p hx hp => ?_, fun _ i hi hpi x p hx hp => ?_⟩
        · rw [get_set _ _ _ _ hlt] at hx hp
          by_cases e : pos = i
          · subst e
            rw [if_pos rfl] at hx
            cases hx
            rw [if_neg (by exact om182 hi)] at hp
            exact hH.2 hi c (by exact om181 hc2) hpc v p hv hp
          · rw [if_neg e] at hx
            by_cases e1 : pos = (i - 1) / 2
            · rw [if_pos e1] at hp
              cases hp
              exact hmin i x hi e1.symm hx
            · rw [if_neg e1] at hp
              exact hH.1 i hi (Ne.symm e) (Ne.symm e1) x p hx hp
        · rw [get_set _ _ _ _ hlt] at hx hp
          rw [if_neg (by exact om180 hc2 hpi)] at hx
          rw [hpc, if_pos rfl] at hp
          cases hp
          exact hH.1 i hi (by exact om179 hc2 hpi) (by exact om178 hc2 hpi) x v hx (by rw [hpi]; exact hv)
    · rw [dif_neg h]
      exact ⟨hlt, by dsimp only; exact om177 h, hH, .refl _⟩
theorem siftup_heap (O : Ordr lt) (item : α) (xs : List α) (h0 : 0 < xs.length) (hH : HHole lt xs 0) : IsHeap lt (siftup lt item xs) ∧ (siftup lt item xs).Perm (xs.set 0 item) := by
  obtain ⟨h1, h2, h3, h4⟩ := sup_heap O item _ xs 0 (Nat.le_refl _) h0 hH
  unfold siftup
  have hl : (sup lt xs 0).2 < ((sup lt xs 0).1.set (sup lt xs 0).2 item).length := by rw [List.length_set]; exact h1
  refine ⟨sdown_heap O item _ _ hl ?_ ?_, (sdown_perm item _ _ hl).trans (by rw [List.set_set]; exact h4)⟩
  · rw [List.set_set]
    intro i hi hne x p hx hp
    have hil : i < (sup lt xs 0).1.length := by
      have := (List.getElem?_eq_some_iff.mp hx).1
      rwa [List.length_set] at this
    rw [get_set _ _ _ _ h1] at hx hp
    rw [if_neg (Ne.symm hne)] at hx
    rw [if_neg (by exact om176 h2 hi hil)] at hp
    exact h3.1 i hi hne (by exact om175 h2 hi hil) x p hx hp
  · intro _ i hi hpi x p hx hp
    have hil : i < (sup lt xs 0).1.length := by
      have := (List.getElem?_eq_some_iff.mp hx).1
      rwa [List.length_set] at this
    exact (om174 h2 hi hpi hil).elim
theorem heap_min (O : Ordr lt) {xs : List α} (h : IsHeap lt xs) {t : α} (ht : xs[0]? = some t) : ∀ (i : Nat) (x : α), xs[i]? = some x → lt x t = false := by
  intro i
  induction i using Nat.strongRecOn with
  | ind i ih =>
    intro x hx
    by_cases h0 : 0 < i
    · have hi := (List.getElem?_eq_some_iff.mp hx).1
      obtain ⟨p, hp⟩ : ∃ p, xs[(i - 1) / 2]? = some p := ⟨xs[(i - 1) / 2]'(by exact om173 hi), List.getElem?_eq_getElem _⟩
      exact O.le (ih _ (by exact om106 h0) p hp) (h i h0 x p hx hp)
    · have : i = 0 := by exact om172 h0
      subst this
      rw [ht] at hx; cases hx; exact O.irr _
theorem heap_hole {t : α} {r : List α} (h : IsHeap lt (t :: r)) (a : α) : HHole lt (a :: r) 0 :=
  ⟨fun i hi _ hp x p hx hpx => h i hi x p (by cases i with
    | zero => exact (om171 hi).elim
    | succ i => exact hx) (by
      obtain ⟨j, hj⟩ : ∃ j, (i - 1) / 2 = j + 1 := ⟨(i - 1) / 2 - 1, by exact om170 hp⟩
      rw [hj] at hpx ⊢; exact hpx), fun h => absurd h (by exact om169)⟩
theorem heap_pre {xs ys : List α} (h : IsHeap lt (xs ++ ys)) : IsHeap lt xs := fun i hi x p hx hp => h i hi x p (by rw [List.getElem?_append_left (List.getElem?_eq_some_iff.mp hx).1]; exact hx) (by rw [List.getElem?_append_left (List.getElem?_eq_some_iff.mp hp).1]; exact hp)
theorem heap_push (O : Ordr lt) {xs : List α} (h : IsHeap lt xs) (a : α) : IsHeap lt (sdown lt a (xs ++ [a]) xs.length) ∧ (sdown lt a (xs ++ [a]) xs.length).Perm (a :: xs) := by
  have e : (xs ++ [a]).set xs.length a = xs ++ [a] := by
    rw [List.set_append_right _ _ (Nat.le_refl _)]; simp
  refine ⟨sdown_heap O a _ _ (by simp) ?_ ?_, (sdown_perm a _ _ (by simp)).trans (by rw [e]; exact List.perm_append_singleton a xs)⟩
  · rw [e]
    intro i hi hne x p hx hp
    have hil := (List.getElem?_eq_some_iff.mp hx).1
    rw [List.length_append, List.length_singleton] at hil
    rw [List.getElem?_append_left (by (first | exact om167 hne hil | exact om168 hi hil))] at hx hp
    exact h i hi x p hx hp
  · intro _ i hi hpi x p hx hp
    have hil := (List.getElem?_eq_some_iff.mp hx).1
    rw [List.length_append, List.length_singleton] at hil
    exact (om166 hi hpi hil).elim
end
theorem plt_ordr : Ordr plt where
  irr a := by unfold plt; rw [if_pos rfl]; exact decide_eq_false (List.lt_irrefl _)
  trans a b c h1 h2 := by
    unfold plt at *
    by_cases e1 : a.1 = b.1
    · rw [if_pos e1] at h1
      by_cases e2 : b.1 = c.1
      · rw [if_pos e2] at h2
        rw [if_pos (e1.trans e2)]
        exact decide_eq_true (List.lt_trans (of_decide_eq_true h1) (of_decide_eq_true h2))
      · rw [if_neg e2] at h2
        rw [if_neg (by rw [e1]; exact e2), e1]; exact h2
    · rw [if_neg e1] at h1
      have h1' := of_decide_eq_true h1
      by_cases e2 : b.1 = c.1
      · rw [if_neg (by rw [← e2]; exact e1), ← e2]; exact h1
      · rw [if_neg e2] at h2
        have h2' := of_decide_eq_true h2
        rw [if_neg (by exact om165 h1' h2')]; exact decide_eq_true (by exact om164 h1' h2')
  tot a b h1 h2 := by
    unfold plt at *
    by_cases e : a.1 = b.1
    · rw [if_pos e] at h1
      rw [if_pos e.symm] at h2
      have h1' := List.not_lt.mp (of_decide_eq_false h1)
      have h2' := List.not_lt.mp (of_decide_eq_false h2)
      exact Prod.ext e (List.le_antisymm h2' h1')
    · rw [if_neg e] at h1
      rw [if_neg (Ne.symm e)] at h2
      have h1' := of_decide_eq_false h1
      have h2' := of_decide_eq_false h2
      exact (om163 e h1' h2').elim
theorem lt_snoc (u : List Nat) (c : Nat) : u < u ++ [c] := by
  induction u with
  | nil => simp
  | cons a u ih => rw [List.cons_append, List.cons_lt_cons_iff]; exact .inr ⟨rfl, ih⟩
theorem fdiv_ge {a x S : Int} (ha : a ≤ 0) (hx : 0 < x ∧ x ≤ S) : a ≤ (a * x).fdiv S := by
  have hS : 0 < S := by exact om100 hx
  rw [Int.fdiv_eq_ediv_of_nonneg _ (by exact om99 hx)]
  refine (Int.le_ediv_iff_mul_le hS).mpr ?_
  exact Int.mul_le_mul_of_nonpos_left ha hx.2
/-- a son comes behind its father -/
theorem son_lt {ws : List Int} {q p : Int × List Nat} (hw : ∀ x ∈ ws, 0 < x ∧ x ≤ ws.sum) (hq : q.1 ≤ 0) (h : p ∈ sonsT ws q) : plt q p = true := by
  obtain ⟨k, x, hx, rfl⟩ := sonsT_mem h
  have h1 := fdiv_ge hq (hw x (List.mem_of_getElem? hx))
  unfold plt
  by_cases e : q.1 = (q.1 * x).fdiv ws.sum
  · rw [if_pos e]; exact decide_eq_true (lt_snoc _ _)
  · rw [if_neg e]; exact decide_eq_true (by dsimp only; exact om162 h1 e)
theorem push_all {h : List (Int × List Nat)} (hh : IsHeap plt h) (l : List (Int × List Nat)) : IsHeap plt (l.foldl pushP h) ∧ (l.foldl pushP h).Perm (l ++ h) := by
  induction l generalizing h with
  | nil => exact ⟨hh, .refl _⟩
  | cons a l ih =>
    obtain ⟨h1, h2⟩ := heap_push plt_ordr hh a
    obtain ⟨h3, h4⟩ := ih (h := pushP h a) h1
    refine ⟨h3, h4.trans ?_⟩
    exact (h2.append_left l).trans List.perm_middle
theorem snd_inj_of_nodup {l : List (Int × List Nat)} (h : (l.map (·.2)).Nodup) {a b : Int × List Nat} (ha : a ∈ l) (hb : b ∈ l) (e : a.2 = b.2) : a = b := by
  induction l with
  | nil => cases ha
  | cons x l ih =>
    rw [List.map_cons, List.nodup_cons] at h
    rcases List.mem_cons.mp ha with e1 | ha'
    · rcases List.mem_cons.mp hb with e2 | hb'
      · rw [e1, e2]
      · exact absurd (List.mem_map_of_mem (f := Prod.snd) hb') (by rw [← e, e1]; exact h.1)
    · rcases List.mem_cons.mp hb with e2 | hb'
      · exact absurd (List.mem_map_of_mem (f := Prod.snd) ha') (by rw [e, e2]; exact h.1)
      · exact ih h.2 ha' hb' 
theorem sons_snd (ws : List Int) (t : Int × List Nat) : (sonsT ws t).map (·.2) = (List.range ws.length).map fun k => t.2 ++ [97 + k] := by
  unfold sonsT; rw [List.map_map]; rfl
theorem sons_nodup (ws : List Int) (t : Int × List Nat) : ((sonsT ws t).map (·.2)).Nodup := by
  rw [sons_snd, List.nodup_iff_pairwise_ne, List.pairwise_map]
  refine List.Pairwise.imp ?_ (List.nodup_iff_pairwise_ne.mp List.nodup_range)
  intro a b hab e
  have := (List.append_inj' e rfl).2
  simp at this
  exact hab this
structure GI (ws : List Int) (n i : Nat) (h o : List (Int × List Nat)) : Prop where
  heap : IsHeap plt h
  perm : (h ++ o).Perm ((-(ws.sum ^ n), []) :: o.flatMap (sonsT ws))
  nd : ((h ++ o).map (·.2)).Nodup
  sorted : o.Pairwise fun a b => plt b a = false
  low : ∀ a ∈ o, ∀ b ∈ h, plt b a = false
  lay : ∀ p ∈ h, ∃ j, j ≤ i ∧ p ∈ layN ws n j
  layO : ∀ p ∈ o, ∃ j, j < i ∧ p ∈ layN ws n j
  len : o.length = i
  hlen : h.length + i = 1 + i * ws.length
  pf : ∀ a ∈ h, ∀ b ∈ h, a.2 <+: b.2 → a = b
  root : i = 0 ∨ (-(ws.sum ^ n), []) ∈ o
theorem pre_snoc {a u : List Nat} {c : Nat} (h : a <+: u ++ [c]) : a <+: u ∨ a = u ++ [c] := by
  rcases List.prefix_concat_iff.mp h with h | h
  · exact .inr h
  · exact .inl h
theorem snoc_pre {u v : List Nat} {c : Nat} (h : u ++ [c] <+: v) : u <+: v := (List.prefix_append u [c]).trans h
section
variable {ws : List Int} {n : Nat} (hw : ∀ x ∈ ws, 0 < x ∧ x ≤ ws.sum) (hs : 0 < ws.sum) (hk : 1 ≤ ws.length) (hbig : ws.sum ^ n ≤ 1000000)
include hw hs hk hbig
theorem grow_ok : ∀ i, GI ws n i (growN ws n i).1 (growN ws n i).2 := by
  intro i
  induction i with
  | zero =>
    exact {
      heap := fun i hi x p hx hp => by
        obtain ⟨j, rfl⟩ : ∃ j, i = j + 1 := ⟨i - 1, by exact om161 hi⟩
        simp [growN] at hx
      perm := .refl _
      nd := by simp [growN]
      sorted := .nil
      low := fun a ha => nomatch ha
      lay := fun p hp => ⟨0, Nat.le_refl _, hp⟩
      layO := fun p hp => nomatch hp
      len := rfl
      hlen := by simp [growN]
      pf := fun a ha b hb _ => by
        rw [List.mem_singleton.mp ha, List.mem_singleton.mp hb]
      root := .inl rfl }
  | succ i ih =>
    rw [growN]
    generalize growN ws n i = st at ih
    obtain ⟨h, o⟩ := st
    dsimp only at ih
    unfold growP
    dsimp only
    obtain ⟨heap, perm, nd, sorted, low, lay, layO, len, hlen, pf, root⟩ := ih
    cases h with
    | nil =>
      have : i * 1 ≤ i * ws.length := Nat.mul_le_mul_left i hk
      simp at hlen; exact (om160 this hlen).elim
    | cons t r =>
      dsimp only
      cases hson : sonsT ws t with
      | nil =>
        have := sonsT_len ws t
        rw [hson, List.length_nil] at this; exact (om159 hk this).elim
      | cons a l =>
        dsimp only
        obtain ⟨h1, h2⟩ := siftup_heap plt_ordr a (a :: r) (by simp) (heap_hole heap a)
        rw [List.set_cons_zero] at h2
        obtain ⟨h3, h4⟩ := push_all h1 l
        have hP : (l.foldl pushP (siftup plt a (a :: r))).Perm (sonsT ws t ++ r) := by
          rw [hson]
          exact h4.trans ((h2.append_left l).trans List.perm_middle)
        generalize l.foldl pushP (siftup plt a (a :: r)) = h' at h3 hP
        clear h1 h2 h4 hson a l
        obtain ⟨jt, hjt, hlt⟩ := lay t (.head _)
        have ht0 : t.1 ≤ 0 := (layN_ok hw hs hbig jt t hlt).2.2
        have hmin : ∀ b ∈ r, plt b t = false := fun b hb => by
          obtain ⟨k, hk⟩ := List.getElem?_of_mem hb
          exact heap_min plt_ordr heap (t := t) rfl (k + 1) b hk
        have hsont : ∀ p ∈ sonsT ws t, plt p t = false := fun p hp => plt_ordr.asy (son_lt hw ht0 hp)
        have hbig' : ∀ b ∈ h', plt b t = false := fun b hb => by
          rcases List.mem_append.mp (hP.mem_iff.mp hb) with hb | hb
          · exact hsont b hb
          · exact hmin b hb
        have hperm : (h' ++ (o ++ [t])).Perm (((t :: r) ++ o) ++ sonsT ws t) := by
          refine (hP.append_right _).trans ?_
          refine (List.perm_append_comm (l₁ := sonsT ws t ++ r)).trans ?_
          rw [List.append_assoc o [t]]
          refine (List.perm_append_comm_assoc o [t] _).trans ?_
          simp only [List.cons_append, List.nil_append]
          refine List.Perm.cons t ?_
          refine (List.perm_append_comm (l₁ := sonsT ws t) (l₂ := r)).append_left o |>.trans ?_
          rw [← List.append_assoc]
          exact (List.perm_append_comm (l₁ := o) (l₂ := r)).append_right _
        have hnew : ∀ x ∈ (t :: r) ++ o, ∀ y ∈ sonsT ws t, x.2 ≠ y.2 := by
          intro x hx y hy e
          obtain ⟨k, xx, _, rfl⟩ := sonsT_mem hy
          rcases List.mem_cons.mp (perm.mem_iff.mp hx) with rfl | hx
          · exact absurd (congrArg List.length e) (by simp)
          · obtain ⟨q, hq, hx⟩ := List.mem_flatMap.mp hx
            obtain ⟨k2, x2, _, rfl⟩ := sonsT_mem hx
            have e2 : q.2 = t.2 := (List.append_inj' e rfl).1
            have := snd_inj_of_nodup nd (List.mem_append_right _ hq) (List.mem_append_left _ (.head _)) e2
            rw [List.map_append, List.nodup_append] at nd
            exact nd.2.2 t.2 (by simp) q.2 (List.mem_map_of_mem (f := Prod.snd) hq) e2.symm
        have hND : ((h' ++ (o ++ [t])).map (·.2)).Nodup := by
          refine (hperm.map (·.2)).nodup_iff.mpr ?_
          rw [List.map_append, List.nodup_append]
          refine ⟨nd, sons_nodup ws t, ?_⟩
          intro u hu v hv
          obtain ⟨x, hx, rfl⟩ := List.mem_map.mp hu
          obtain ⟨y, hy, rfl⟩ := List.mem_map.mp hv
          exact hnew x hx y hy
        refine ⟨h3, ?_, hND, ?_, ?_, ?_, ?_, ?_, ?_, ?_, ?_⟩
        · refine hperm.trans ?_
          rw [List.flatMap_append, List.flatMap_singleton]
          exact (perm.append_right _)
        · rw [List.pairwise_append]
          refine ⟨sorted, by simp, fun a ha b hb => ?_⟩
          rw [List.mem_singleton.mp hb]
          exact low a ha t (.head _)
        · intro a ha b hb
          rcases List.mem_append.mp ha with ha | ha
          · have h1 := low a ha t (.head _)
            exact plt_ordr.le h1 (hbig' b hb)
          · rw [List.mem_singleton.mp ha]
            exact hbig' b hb
        · intro p hp
          rcases List.mem_append.mp (hP.mem_iff.mp hp) with hp | hp
          · exact ⟨jt + 1, by exact om158 hjt, by rw [layN]; exact List.mem_flatMap.mpr ⟨t, hlt, hp⟩⟩
          · obtain ⟨j, hj, e⟩ := lay p (.tail _ hp)
            exact ⟨j, by exact om65 hj, e⟩
        · intro p hp
          rcases List.mem_append.mp hp with hp | hp
          · obtain ⟨j, hj, e⟩ := layO p hp
            exact ⟨j, by exact om157 hj, e⟩
          · rw [List.mem_singleton.mp hp]
            exact ⟨jt, by exact om156 hjt, hlt⟩
        · simp [len]
        · have := hP.length_eq
          rw [List.length_append, sonsT_len] at this
          rw [List.length_cons] at hlen
          rw [this, Nat.add_mul]
          exact om155 hlen
        · have hnd' : (h'.map (·.2)).Nodup := by
            rw [List.map_append, List.nodup_append] at hND; exact hND.1
          have hndr : ((t :: r).map (·.2)).Nodup := by
            rw [List.map_append, List.nodup_append] at nd; exact nd.1
          intro a ha b hb hab
          by_cases e : a.2 = b.2
          · exact snd_inj_of_nodup hnd' ha hb e
          exfalso
          rcases List.mem_append.mp (hP.mem_iff.mp ha) with ha' | ha'
          · obtain ⟨k, x, _, rfl⟩ := sonsT_mem ha'
            rcases List.mem_append.mp (hP.mem_iff.mp hb) with hb' | hb'
            · obtain ⟨k2, x2, _, rfl⟩ := sonsT_mem hb'
              exact e (hab.eq_of_length (by simp))
            · have := pf t (.head _) b (.tail _ hb') (snoc_pre hab)
              rw [← this] at hb'
              rw [List.map_cons, List.nodup_cons] at hndr
              exact hndr.1 (List.mem_map_of_mem (f := Prod.snd) hb')
          · rcases List.mem_append.mp (hP.mem_iff.mp hb) with hb' | hb'
            · obtain ⟨k2, x2, _, rfl⟩ := sonsT_mem hb'
              rcases pre_snoc hab with h | h
              · have := pf a (.tail _ ha') t (.head _) h
                rw [this] at ha'
                rw [List.map_cons, List.nodup_cons] at hndr
                exact hndr.1 (List.mem_map_of_mem (f := Prod.snd) ha')
              · exact e h
            · exact e (congrArg Prod.snd (pf a (.tail _ ha') b (.tail _ hb') hab))
        · refine .inr ?_
          rcases root with rfl | root
          · have hm : (-(ws.sum ^ n), []) ∈ (t :: r) ++ o := perm.symm.mem_iff.mp (.head _)
            have : o = [] := List.eq_nil_of_length_eq_zero len
            subst this
            rw [List.length_cons] at hlen
            have : r = [] := List.eq_nil_of_length_eq_zero (by exact om154 hlen)
            subst this
            simpa using hm
          · exact List.mem_append_left _ root
end
theorem popP_ok {x : Int × List Nat} {xs : List (Int × List Nat)} (h : IsHeap plt (x :: xs)) : (popP (x :: xs)).1 = [x] ∧ IsHeap plt (popP (x :: xs)).2 ∧ (popP (x :: xs)).2.Perm xs := by
  unfold popP
  cases hl : xs.getLast? with
  | none =>
    have : xs = [] := List.getLast?_eq_none_iff.mp hl
    subst this
    exact ⟨rfl, fun i hi a p ha => by simp at ha, .refl _⟩
  | some r =>
    obtain ⟨ys, rfl⟩ := List.getLast?_eq_some_iff.mp hl
    dsimp only
    rw [List.dropLast_concat, List.getLast?_concat]
    dsimp only
    have hp : IsHeap plt (x :: ys) := heap_pre (ys := [r]) h
    obtain ⟨h1, h2⟩ := siftup_heap plt_ordr r (r :: ys) (by simp) (heap_hole hp r)
    exact ⟨rfl, h1, h2.trans (List.perm_append_singleton r ys).symm⟩
theorem popN_ok : ∀ (k : Nat) (h : List (Int × List Nat)), h.length = k → IsHeap plt h → (popN k h).Perm h ∧ (popN k h).Pairwise fun a b => plt b a = false
  | 0, h, hl, _ => by
    have : h = [] := List.eq_nil_of_length_eq_zero hl
    subst this
    exact ⟨.refl _, .nil⟩
  | k + 1, [], hl, _ => by simp at hl
  | k + 1, x :: xs, hl, hh => by
    obtain ⟨h1, h2, h3⟩ := popP_ok hh
    rw [popN, h1]
    obtain ⟨h4, h5⟩ := popN_ok k (popP (x :: xs)).2 (by rw [h3.length_eq]; simpa using hl) h2
    have hp := h4.trans h3
    refine ⟨hp.cons x, List.pairwise_cons.mpr ⟨fun b hb => ?_, h5⟩⟩
    obtain ⟨i, hi⟩ := List.getElem?_of_mem (hp.mem_iff.mp hb)
    exact heap_min plt_ordr hh (t := x) rfl (i + 1) b hi
theorem strict_of {l : List (Int × List Nat)} (h : l.Pairwise fun a b => plt b a = false) (hn : l.Nodup) : l.Pairwise fun a b => plt a b = true := by
  refine (h.and (List.nodup_iff_pairwise_ne.mp hn)).imp fun {a b} ⟨h1, h2⟩ => ?_
  cases q : plt a b with
  | true => rfl
  | false => exact absurd (plt_ordr.tot a b q h1) h2
theorem sorted_one {l l' : List (Int × List Nat)} (hp : l.Perm l') (h : l.Pairwise fun a b => plt a b = true) (h' : l'.Pairwise fun a b => plt a b = true) : l = l' := by
  refine List.Perm.eq_of_pairwise (le := fun a b => plt a b = true) (fun a b _ _ h1 h2 => ?_) h h' hp
  rw [plt_ordr.asy h1] at h2; cases h2
theorem nodup_of_snd {l : List (Int × List Nat)} (h : (l.map (·.2)).Nodup) : l.Nodup := by
  rw [List.nodup_iff_pairwise_ne, List.pairwise_map] at h
  exact List.nodup_iff_pairwise_ne.mpr (h.imp fun {a b} h e => h (congrArg Prod.snd e))
theorem lay_snd (ws : List Int) (n : Nat) : ∀ i, ((layN ws n i).map (·.2)).Nodup ∧ ∀ p ∈ layN ws n i, p.2.length = i
  | 0 => ⟨by simp [layN], fun p hp => by rw [List.mem_singleton.mp hp]; rfl⟩
  | i + 1 => by
    obtain ⟨h1, h2⟩ := lay_snd ws n i
    refine ⟨?_, fun p hp => ?_⟩
    · rw [layN, List.map_flatMap, List.nodup_iff_pairwise_ne, List.pairwise_flatMap]
      refine ⟨fun a _ => List.nodup_iff_pairwise_ne.mp (sons_nodup ws a), ?_⟩
      rw [List.nodup_iff_pairwise_ne, List.pairwise_map] at h1
      refine h1.imp fun {a b} hab x hx y hy e => ?_
      obtain ⟨p, hp, rfl⟩ := List.mem_map.mp hx
      obtain ⟨q, hq, rfl⟩ := List.mem_map.mp hy
      obtain ⟨k, z, _, rfl⟩ := sonsT_mem hp
      obtain ⟨k2, z2, _, rfl⟩ := sonsT_mem hq
      exact hab (List.append_inj' e rfl).1
    · rw [layN] at hp
      obtain ⟨q, hq, hp⟩ := List.mem_flatMap.mp hp
      obtain ⟨k, z, _, rfl⟩ := sonsT_mem hp
      rw [List.length_append, h2 q hq]; rfl
theorem rows_snd (ws : List Int) (n : Nat) : ∀ i, ((rowsN ws n i).map (·.2)).Nodup
  | 0 => by simp [rowsN]
  | i + 1 => by
    rw [rowsN, List.map_append, List.nodup_append]
    refine ⟨rows_snd ws n i, (lay_snd ws n i).1, fun a ha b hb e => ?_⟩
    obtain ⟨p, hp, rfl⟩ := List.mem_map.mp ha
    obtain ⟨q, hq, rfl⟩ := List.mem_map.mp hb
    obtain ⟨j, hj, hp⟩ := rowsN_in i p hp
    have h1 := (lay_snd ws n j).2 p hp
    have h2 := (lay_snd ws n i).2 q hq
    rw [e] at h1; exact om153 hj h1 h2
theorem in_rows {ws : List Int} {n : Nat} {p : Int × List Nat} : ∀ {i j : Nat}, j < i → p ∈ layN ws n j → p ∈ rowsN ws n i
  | 0, _, h, _ => by exact (om152 h).elim
  | i + 1, j, h, hp => by
    rw [rowsN]
    by_cases e : j = i
    · subst e; exact List.mem_append_right _ hp
    · exact List.mem_append_left _ (in_rows (by exact om151 h e) hp)
theorem lay_len1 {ws : List Int} {n : Nat} (hk : 1 ≤ ws.length) : ∀ i, 1 ≤ (layN ws n i).length
  | 0 => Nat.le_refl _
  | i + 1 => by
    rw [layN, sonsT_flat_len]
    exact Nat.mul_le_mul (lay_len1 hk i) hk
theorem rows_len1 {ws : List Int} {n : Nat} (hk : 1 ≤ ws.length) : ∀ i, i ≤ (rowsN ws n i).length
  | 0 => Nat.zero_le _
  | i + 1 => by
    have h1 := rows_len1 (n := n) hk i
    have h2 := lay_len1 (n := n) hk i
    rw [rowsN, List.length_append]; exact om150 h1 h2
theorem rows_len2 {ws : List Int} {n : Nat} (hk : ws.length ≤ 3) : ∀ i, 2 * (rowsN ws n i).length + 1 ≤ 3 ^ i
  | 0 => by simp [rowsN]
  | i + 1 => by
    have h1 := rows_len2 (n := n) hk i
    have h2 := layN_len ws n hk i
    rw [rowsN, List.length_append, Nat.pow_succ]; exact om149 h1 h2
section
variable {ws : List Int} {n : Nat} (hw : ∀ x ∈ ws, 0 < x ∧ x ≤ ws.sum) (hs : 0 < ws.sum) (hk : 2 ≤ ws.length ∧ ws.length ≤ 3) (hbig : ws.sum ^ n ≤ 1000000) (hn : 2 ≤ n ∧ n ≤ 4)
noncomputable abbrev opN (ws : List Int) (n : Nat) : List (Int × List Nat) := (growN ws n n).2
noncomputable abbrev wdN (ws : List Int) (n : Nat) : List (Int × List Nat) := popN (growN ws n n).1.length (growN ws n n).1
include hw hs hk hbig hn
theorem wd_perm : (wdN ws n).Perm (((opN ws n).flatMap (sonsT ws)).filter fun p => !decide (p ∈ opN ws n)) := by
  have G := grow_ok hw hs (by exact om144 hk) hbig n
  refine (popN_ok _ _ rfl G.heap).1.trans ?_
  have hroot : (-(ws.sum ^ n), []) ∈ (growN ws n n).2 := by
    rcases G.root with h | h
    · exact (om143 hn h).elim
    · exact h
  have hd : ∀ a ∈ (growN ws n n).1, a ∉ (growN ws n n).2 := fun a ha hb => by
    have := G.nd
    rw [List.map_append, List.nodup_append] at this
    exact this.2.2 _ (List.mem_map_of_mem (f := Prod.snd) ha) _ (List.mem_map_of_mem (f := Prod.snd) hb) rfl
  have h1 := G.perm.filter fun p => !decide (p ∈ opN ws n)
  rw [List.filter_append, List.filter_cons_of_neg (by simpa using hroot)] at h1
  have e1 : (growN ws n n).1.filter (fun p => !decide (p ∈ opN ws n)) = (growN ws n n).1 := List.filter_eq_self.mpr fun a ha => by simpa using hd a ha
  have e2 : (growN ws n n).2.filter (fun p => !decide (p ∈ opN ws n)) = [] := List.filter_eq_nil_iff.mpr fun a ha => by simpa using ha
  rw [e1, e2, List.append_nil] at h1
  exact h1
theorem wd_snd : ((wdN ws n).map (·.2)).Nodup := by
  have G := grow_ok hw hs (by exact om144 hk) hbig n
  have := G.nd
  rw [List.map_append, List.nodup_append] at this
  exact (((popN_ok _ _ rfl G.heap).1.map (·.2)).nodup_iff).mpr this.1
theorem wd_len : (wdN ws n).length + n = 1 + n * ws.length := by
  have G := grow_ok hw hs (by exact om144 hk) hbig n
  rw [(popN_ok _ _ rfl G.heap).1.length_eq]; exact G.hlen
theorem wd_len' : 3 ≤ (wdN ws n).length ∧ (wdN ws n).length ≤ 9 := by
  have h := wd_len hw hs hk hbig hn
  have h3 : n * 2 ≤ n * ws.length := Nat.mul_le_mul_left n hk.1
  have h4 : n * ws.length ≤ n * 3 := Nat.mul_le_mul_left n hk.2
  exact om148 hn h h3 h4
/-- what is not opened is behind what is -/
theorem behind : ∀ j, ∀ p ∈ layN ws n j, p ∈ opN ws n ∨ ∃ q ∈ (growN ws n n).1, plt p q = false := by
  have G := grow_ok hw hs (by exact om144 hk) hbig n
  intro j
  induction j with
  | zero =>
    intro p hp
    rw [List.mem_singleton.mp hp]
    rcases G.root with h | h
    · exact (om143 hn h).elim
    · exact .inl h
  | succ j ih =>
    intro p hp
    rw [layN] at hp
    obtain ⟨q, hq, hp⟩ := List.mem_flatMap.mp hp
    rcases ih q hq with h | ⟨r, hr, h⟩
    · have : p ∈ (growN ws n n).1 ++ (growN ws n n).2 := G.perm.symm.mem_iff.mp (.tail _ (List.mem_flatMap.mpr ⟨q, h, hp⟩))
      rcases List.mem_append.mp this with h | h
      · exact .inr ⟨p, h, plt_ordr.irr p⟩
      · exact .inl h
    · refine .inr ⟨r, hr, ?_⟩
      exact plt_ordr.le h (plt_ordr.asy (son_lt hw (layN_ok hw hs hbig j q hq).2.2 hp))
theorem told_ok : Told ws n (opN ws n) (wdN ws n) := by
  have G := grow_ok hw hs (by exact om144 hk) hbig n
  have hwp := wd_perm hw hs hk hbig hn
  have hws := wd_snd hw hs hk hbig hn
  have hwl := wd_len' hw hs hk hbig hn
  have hond : (opN ws n).Nodup := by
    have := G.nd
    rw [List.map_append, List.nodup_append] at this
    exact nodup_of_snd this.2.1
  refine ⟨nodup_of_snd (rows_snd ws n n), ⟨Nat.le_trans hn.1 (rows_len1 (by exact om144 hk) n), ?_⟩, ?_, hwp.nodup_iff.mp (nodup_of_snd hws), by rw [← hwp.length_eq]; exact om147 hwl, ?_⟩
  · have h1 := rows_len2 (n := n) hk.2 n
    have h2 : 3 ^ n ≤ 3 ^ 4 := Nat.pow_le_pow_right (by exact om146) hn.2
    exact om145 h1 h2
  · intro ys hp hsrt
    have hynd : ys.Nodup := hp.nodup_iff.mpr (nodup_of_snd (rows_snd ws n n))
    have hsub : ∀ p ∈ opN ws n, p ∈ ys := fun p hp' => by
      obtain ⟨j, hj, e⟩ := G.layO p hp'
      exact hp.mem_iff.mpr (in_rows hj e)
    have e : ys = opN ws n ++ ys.filter fun p => !decide (p ∈ opN ws n) := by
      refine sorted_one ?_ hsrt ?_
      · refine (List.perm_ext_iff_of_nodup hynd ?_).mpr fun a => ?_
        · rw [List.nodup_append]
          refine ⟨hond, List.Pairwise.filter _ hynd, fun a ha b hb e => ?_⟩
          subst e
          have := (List.mem_filter.mp hb).2
          simp only [Bool.not_eq_true', decide_eq_false_iff_not] at this
          exact this ha
        · rw [List.mem_append, List.mem_filter]
          constructor
          · intro ha
            by_cases q : a ∈ opN ws n
            · exact .inl q
            · exact .inr ⟨ha, by simpa using q⟩
          · rintro (h | h)
            · exact hsub a h
            · exact h.1
      · rw [List.pairwise_append]
        refine ⟨strict_of G.sorted hond, List.Pairwise.filter _ hsrt, fun a ha b hb => ?_⟩
        obtain ⟨hb1, hb2⟩ := List.mem_filter.mp hb
        simp only [Bool.not_eq_true', decide_eq_false_iff_not] at hb2
        obtain ⟨j, _, hj⟩ := rowsN_in n b (hp.mem_iff.mp hb1)
        rcases behind hw hs hk hbig hn j b hj with h | ⟨q, hq, h⟩
        · exact absurd h hb2
        · have h2 := G.low a ha q hq
          have h3 := plt_ordr.le h2 h
          cases q2 : plt a b with
          | true => rfl
          | false => rw [plt_ordr.tot a b q2 h3] at ha; exact absurd ha hb2
    rw [e]
    have hl : n = (opN ws n).length := G.len.symm
    exact List.take_left' hl.symm
  · intro ys hp hsrt
    refine sorted_one (hp.trans hwp.symm) hsrt (strict_of (popN_ok _ _ rfl G.heap).2 (nodup_of_snd hws))
/-- what is to be known of the words -/
theorem wd_words : (∀ u ∈ (wdN ws n).map (·.2), u ≠ [] ∧ u.length ≤ 4 ∧ ∀ c ∈ u, 97 ≤ c ∧ c < 97 + ws.length) ∧ (∀ u ∈ (wdN ws n).map (·.2), ∀ v ∈ (wdN ws n).map (·.2), u <+: v → u = v) := by
  have G := grow_ok hw hs (by exact om144 hk) hbig n
  have hp := (popN_ok _ _ rfl G.heap).1
  have hroot : (-(ws.sum ^ n), []) ∈ (growN ws n n).2 := by
    rcases G.root with h | h
    · exact (om143 hn h).elim
    · exact h
  have hlet : ∀ j, ∀ p ∈ layN ws n j, ∀ c ∈ p.2, 97 ≤ c ∧ c < 97 + ws.length := by
    intro j
    induction j with
    | zero => intro p hp; rw [List.mem_singleton.mp hp]; exact fun c hc => nomatch hc
    | succ j ih =>
      intro p hp c hc
      rw [layN] at hp
      obtain ⟨q, hq, hp⟩ := List.mem_flatMap.mp hp
      obtain ⟨k, x, hx, rfl⟩ := sonsT_mem hp
      rcases List.mem_append.mp hc with hc | hc
      · exact ih q hq c hc
      · have := (List.getElem?_eq_some_iff.mp hx).1
        rw [List.mem_singleton.mp hc]; exact om142 this
  refine ⟨fun u hu => ?_, fun u hu v hv e => ?_⟩
  · obtain ⟨p, hp', rfl⟩ := List.mem_map.mp hu
    have hm := hp.mem_iff.mp hp'
    obtain ⟨j, hj, h⟩ := G.lay p hm
    refine ⟨fun e => ?_, by rw [(lay_snd ws n j).2 p h]; exact om141 hn hj, hlet j p h⟩
    have := G.nd
    rw [List.map_append, List.nodup_append] at this
    exact this.2.2 _ (List.mem_map_of_mem (f := Prod.snd) hm) _ (List.mem_map_of_mem (f := Prod.snd) hroot) e
  · obtain ⟨p, hp', rfl⟩ := List.mem_map.mp hu
    obtain ⟨q, hq', rfl⟩ := List.mem_map.mp hv
    rw [G.pf p (hp.mem_iff.mp hp') q (hp.mem_iff.mp hq') e]
end
end
-- Td168
section
inductive TdJ (g' : Heap) (ws : List Int) (n : Nat) (lw : Addr) (kn : Int) (tn : Tok) (i : Nat) (m₁ : PySem.Str → Option Value) (g₁ : Heap) (nx₁ : List (Addr × Obj)) : Prop
  | mk (RL LL : Addr) (rs ls : List Row) (en : nx₁ = []) (h1 : g₁.IsList RL (rs.map Row.val).toArray) (h2 : g₁.IsList LL (ls.map Row.val).toArray) (h3 : Rws g' g₁ rs) (h4 : Rws g' g₁ ls) (h5 : rs.map Row.key = (rowsN ws n i).map keyT) (h6 : ls.map Row.key = (layN ws n i).map keyT)
    (ha : HasAll m₁ [("weights", .ref lw), ("openings", .int kn tn), ("layer", .ref LL), ("rows", .ref RL)]) : TdJ g' ws n lw kn tn i m₁ g₁ nx₁
set_option maxRecDepth 100000 in
set_option maxHeartbeats 4000000 in
theorem told_spec {w : World} {A : Around} {s : Shared} {g : Heap} {lw : Addr} {vw : List Value} {ws : List Int} {n : Nat} {kn : Int} {tn : Tok} {OP WD : List (Int × List Nat)} {Q : Value → Shared → Prop} (R : Rm A 3) (G : Gd w g) (st : g.StaysIn s.heap)
    (hw : s.heap.IsList lw vw.toArray) (hiw : IntsAre vw ws) (hn : 2 ≤ ws.length ∧ ws.length ≤ 3) (hpos : ∀ x ∈ ws, 0 < x ∧ x < 10 ∧ x ≤ ws.sum) (hsum : 0 < ws.sum ∧ ws.sum < 100) (hkn : kn = n) (hn4 : n ≤ 4) (hbig : ws.sum ^ n ≤ 1000000) (hT : Told ws n OP WD)
    (hQ : ∀ h' tk' a oa ob (os qs : List Row) na nb, s.heap.StaysIn h' → (newPart s.heap h').IsTuple a #[.ref oa, .ref ob] → (newPart s.heap h').get? oa = some (listOf (os.map Row.val).toArray na) → (newPart s.heap h').get? ob = some (listOf (qs.map Row.val).toArray nb) →
      (∀ r ∈ os, r.In (newPart s.heap h')) → (∀ r ∈ qs, r.In (newPart s.heap h')) → os.map Row.key = OP.map keyT → qs.map Row.key = WD.map keyT → Q (.ref a) { s with heap := h', toks := tk' }) :
    wpAny (model PG w) A (call (.ref 186) [.ref lw, .int kn tn]) Q NoE s := by
  refine enter (binds := [("weights", .ref lw), ("openings", .int kn tn)]) [] G st (by simp) (by simp) (by k_dflt k_is) (by k_dflt k_is) R.room (BindsTo.of_eq rfl) rfl (by decide) (by decide) ?_ rfl rfl rfl
  intro g' L h₁ tk G' hk S
  have zB : Base s := trivial
  have R' : ∀ env, Rm (A.deeper env) 2 := fun _ => R.deeper
  have hext : ∀ h', g'.StaysIn h' → s.heap.StaysIn h' := fun h' k b o e => k b o (hk b o (by simp) e)
  have hkg : s.heap.StaysIn g' := fun b o e => hk b o (by simp) e
  have hfr : ∀ a, g'.get? a = none → s.heap.get? a = none := fun a e => by
    cases q : s.heap.get? a with
    | none => rfl
    | some o => rw [hk a o (by simp) q] at e; cases e
  clear st R hk
  dsimp only [bindAll, List.foldl_cons, List.foldl_nil] at S
  have hw' : g'.IsList lw vw.toArray := isL_up hw hkg
  have hpos' : ∀ x ∈ ws, 0 < x ∧ x < 10 := fun x hx => ⟨(hpos x hx).1, (hpos x hx).2.1⟩
  have hlok := layN_ok (ws := ws) (n := n) (fun x hx => ⟨(hpos x hx).1, (hpos x hx).2.2⟩) hsum.1 hbig
  clear G hw
  k_steps
  rename St _ _ _ _ _ => zS
  refine sum_st zS (R' _).hand (isL_up hw' zS.keep) hiw ?_
  clear zS
  intro h' tk t' S' _
  k_steps
  rename St _ _ _ _ _ => zS
  refine it_r1 zS at0 hkn (by exact om140 hn4) (R' _).hand ?_
  clear zS
  intro I oI h' S W _
  replace S := S.forget1
  rename_i tt _ _ _ LL _ _ _ _ _ RL _ _ _ _ _ _ _ _ _ _ _ _ _
  have httn : g'.get? tt = none := S.freshN (tt, _) (.tail _ (.tail _ (.tail _ (.head _))))
  obtain ⟨g₀, kg0, S, hex0, _⟩ := St.rebase (nx := [(I, oI)]) (extra := [_, _, _]) S
  have hRL := hex0 _ (.head _)
  have hLL := hex0 _ (.tail _ (.head _))
  have htt := hex0 _ (.tail _ (.tail _ (.head _)))
  have h3p : ∀ i, i ≤ 4 → 3 ^ i ≤ 81 := fun i hi => Nat.pow_le_pow_right (by exact om146) hi
  refine for_it (TdJ g' ws n lw kn tn) S (W.up kg0) ⟨RL, LL, [], [⟨tt, -(ws.sum ^ n), T []⟩], rfl, ⟨_, hRL, rfl, _, rfl⟩, ⟨_, hLL, rfl, _, rfl⟩, (fun r hr => nomatch hr), ?_, rfl, rfl, rfl, rfl, rfl, rfl, trivial⟩ ?_ ?_
  · intro r hr
    rw [List.mem_singleton.mp hr]
    have ekn : kn.toNat = n := by exact om139 hkn
    rw [ekn] at htt
    exact ⟨⟨_, _, _, htt, rfl, _, rfl⟩, httn⟩
  · clear S W
    rintro i v m₁ g₁ nx₁ h₁ tk₁ oI hi ⟨tv, rfl⟩ kg hpl S ⟨RL, LL, rs, ls, rfl, hRL, hLL, hrs, hls, hkr, hkl, e⟩
    replace S := S.norm e
    dsimp only [putAll, List.foldr_cons, List.foldr_nil] at S
    have G1 : Gd w g₁ := G'.mono fun b o e => kg _ _ (kg0 _ _ e)
    have hw1 : g₁.IsList lw vw.toArray := isL_up hw' fun b o e => kg _ _ (kg0 _ _ e)
    have hrl : rs.length ≤ 81 := by
      have h1 := congrArg List.length hkr
      rw [List.length_map, List.length_map] at h1
      rw [h1]; exact Nat.le_trans (rowsN_len ws n hn.2 i) (h3p i (by exact om122 hn4 hi))
    have hll : ls.length ≤ 81 := by
      have h1 := congrArg List.length hkl
      rw [List.length_map, List.length_map] at h1
      rw [h1]; exact Nat.le_trans (layN_len ws n hn.2 i) (h3p i (by exact om122 hn4 hi))
    refine let_name ?_
    k_steps
    rename St _ _ _ _ _ => zS
    refine add_st zS (isL_up hRL zS.keep) (isL_up hLL zS.keep) (by simp; exact om503 hrl hll) ?_
    clear zS
    intro D h' S _
    k_steps
    rename St _ _ _ _ _ => zS
    refine longer_call zS ((R' _).less (by decide)) G1 (isL_up hLL zS.keep) (fun r hr => (hls r hr).1.keeps zS.keep) hkl (isL_up hw1 zS.keep) hiw hn hpos' hsum (by exact om502 hll) (fun p hp => by have := hlok i p hp; exact ⟨by exact om501 hn4 hi this, this.2⟩) ?_
    clear zS
    intro g₂ h' tk' a ys kg2 S _ hL hys hna hky
    k_steps
    rename St _ _ _ _ _ => zS
    (show FPost _ _ _ _ _ _ _ _ _ _); dsimp only [FPost]
    refine ⟨_, _, _, g₂, [], [_], rfl, fun b o e => kg2 _ _ (kg _ _ e), zS.roll, fun g₃ k3 hex => ⟨D, a, rs ++ ls, ys, rfl, ⟨_, hex _ (.head _), rfl, 0, by simp⟩, isL_up hL k3, ?_, ?_, ?_, ?_, rfl, rfl, rfl, rfl, trivial⟩⟩
    · intro r hr
      rcases List.mem_append.mp hr with hr | hr
      · exact ⟨(hrs r hr).1.keeps fun b o e => k3 _ _ (kg2 _ _ e), (hrs r hr).2⟩
      · exact ⟨(hls r hr).1.keeps fun b o e => k3 _ _ (kg2 _ _ e), (hls r hr).2⟩
    · intro r hr
      refine ⟨(hys r hr).1.keeps k3, ?_⟩
      have hf := (hys r hr).2
      cases q : g'.get? r.addr with
      | none => rfl
      | some o => rw [kg _ _ (kg0 _ _ q)] at hf; cases hf
    · rw [List.map_append, hkr, hkl, rowsN, List.map_append]
    · rw [hky, layN]
  · clear S W
    rintro m₁ g₁ nx₁ h₁ tk₁ kg S ⟨RL, LL, rs, ls, rfl, hRL, hLL, hrs, hls, hkr, hkl, e⟩
    replace S := S.norm e
    dsimp only [putAll, List.foldr_cons, List.foldr_nil] at S
    have G1 : Gd w g₁ := G'.mono fun b o e => kg _ _ (kg0 _ _ e)
    have hw1 : g₁.IsList lw vw.toArray := isL_up hw' fun b o e => kg _ _ (kg0 _ _ e)
    have hrl : rs.length = (rowsN ws n n).length := by simpa using congrArg List.length hkr
    try dsimp only
    k_steps
    rename St _ _ _ _ _ => zS
    have htl := hT.len
    refine sorted_rows zS (isL_up hRL zS.keep) (fun r hr => (hrs r hr).1.keeps zS.keep) (by exact om494 hrl htl) (by exact om493 hrl htl) (by rw [hkr]; exact nodup_keyT hT.nd) ?_
    clear zS
    intro SD h' c ys S hkeep hperm hsorted
    obtain ⟨qs, hqp, hqk⟩ := perm_rows hperm hkr
    have hqs : qs.Pairwise (fun a b => plt a b = true) := by
      have h1 : (ys.map Row.key).Pairwise (fun a b => klt a b = true) := List.pairwise_map.mpr hsorted
      rw [hqk] at h1
      exact List.pairwise_map.mp h1
    have hop := hT.op qs hqp hqs
    have hok : (ys.take n).map Row.key = OP.map keyT := by rw [List.map_take, hqk, ← List.map_take, hop]
    have hopb : ∀ p ∈ OP, p.2.length < 100 ∧ -1000000 ≤ p.1 ∧ p.1 ≤ 0 := fun p hp => by
      rw [← hop] at hp
      obtain ⟨j, hj, hp⟩ := rowsN_in n p (hqp.mem_iff.mp (List.mem_of_mem_take hp))
      have := hlok j p hp
      exact ⟨by exact om501 hn4 hj this, this.2⟩
    have hos : Rws g' g₁ (ys.take n) := fun r hr => hrs r (hperm.mem_iff.mp (List.mem_of_mem_take hr))
    have hosl : (ys.take n).length ≤ 64 := by rw [List.length_take, hperm.length_eq]; exact om500 hn4
    k_steps
    rename St _ _ _ _ _ => zS
    refine kba_turn (value' := .Name (Str.ofString "_") ⟨0, 0, 0, 0⟩) (fun _ => rfl) ?_
    refine ls_to (n := n) zS (zS.isList at0) hkn (by rw [List.length_map, hperm.length_eq]; exact om499 hrl htl) ?_ (by with_unfolding_all rfl) (by intro _; with_unfolding_all rfl)
    clear zS
    intro OD h' S _
    rw [← List.map_take] at S
    k_steps
    rename St _ _ _ _ _ => zS
    have hODn : g'.get? OD = none := by
      have hf : g₁.get? OD = none := zS.freshN _ (mem_fst_of_get at0)
      cases q : g'.get? OD with
      | none => rfl
      | some o => rw [kg _ _ (kg0 _ _ q)] at hf; cases hf
    obtain ⟨g₂, kg2, S, hex2, _⟩ := St.rebase (nx := []) (extra := [_, _]) zS
    clear zS
    have hOD := hex2 _ (.head _)
    have hOL : g₂.IsList OD ((ys.take n).map Row.val).toArray := ⟨_, hOD, rfl, _, rfl⟩
    have G2 : Gd w g₂ := G1.mono kg2
    refine comp_eval rfl rfl (by decide) (by intro _; rfl) ?_
    k_steps
    rename St _ _ _ _ _ => zS
    refine longer_call zS ((R' _).less (by decide)) G2 (isL_up hOL zS.keep) (fun r hr => ((hos r hr).1.keeps kg2).keeps zS.keep) hok (isL_up hw1 fun b o e => zS.keep _ _ (kg2 _ _ e)) hiw hn hpos' hsum (by exact om498 hosl) hopb ?_
    clear zS
    intro g₃ h' tk' a zs kg3 S _ hL hzs hna hkz
    k_steps
    rename St _ _ _ _ _ => zS
    refine it_list (vs := zs.map Row.val) zS (R' _).hand hL ?_
    clear zS
    intro I oI h' S W _
    have hzl : zs.length = (OP.flatMap (sonsT ws)).length := by simpa using congrArg List.length hkz
    have hopl : OP.length ≤ 64 := by have := congrArg List.length hok; rw [List.length_map, List.length_map] at this; exact om497 hosl this
    have hzl2 : zs.length ≤ 200 := by rw [hzl, sonsT_flat_len]; exact Nat.le_trans (Nat.mul_le_mul hopl hn.2) (by exact om496)
    refine comp_it (fun k vs g₁ => ∃ us : List Row, vs = us.map Row.val ∧ Rws g' g₁ us ∧ us.map Row.key = (((OP.flatMap (sonsT ws)).take k).filter (fun p => !decide (p ∈ OP))).map keyT) [("opened", .ref OD)] S W (by decide) rfl rfl (by dsimp only [List.map]; decide) rfl rfl rfl (by simp; exact om495 hzl2) ⟨rfl, trivial⟩ ⟨[], rfl, (fun r hr => nomatch hr), by simp⟩ ?_ ?_
    · clear S W
      rintro i v vs m₂ g₄ h₁ tk₁ oI C tl hi hP kg4 - e ⟨us, rfl, hus, hku⟩ S
      replace S := S.norm e
      dsimp only [putAll, List.foldr_cons, List.foldr_nil] at S
      rw [List.getElem?_map] at hP
      obtain ⟨r, hzr, rfl⟩ := Option.map_eq_some_iff.mp hP
      obtain ⟨p, hp⟩ : ∃ p, (OP.flatMap (sonsT ws))[i]? = some p := get_some (by rw [← hzl]; exact (List.getElem?_eq_some_iff.mp hzr).1)
      have hrk : r.key = keyT p := by
        have := congrArg (fun l => l[i]?) hkz
        simp only [List.getElem?_map, hzr, hp, Option.map_some] at this
        exact Option.some.inj this
      have hmem : (r.key ∈ (ys.take n).map Row.key) ↔ p ∈ OP := by
        rw [hok, hrk]
        constructor
        · intro h
          obtain ⟨q, hq, e⟩ := List.mem_map.mp h
          rw [← keyT_inj e]; exact hq
        · exact fun h => List.mem_map_of_mem h
      have hrIn : r.In g₄ := ((hzs r (List.mem_of_getElem? hzr)).1).keeps kg4
      have hrn : g'.get? r.addr = none := by
        have hf := (hzs r (List.mem_of_getElem? hzr)).2
        cases q : g'.get? r.addr with
        | none => rfl
        | some o => rw [kg2 _ _ (kg _ _ (kg0 _ _ q))] at hf; cases hf
      refine let_name ?_
      k_steps
      rename St _ _ _ _ _ => zS
      refine rows_notIn (os := ys.take n) (x := r) (isL_up hOL fun b o e => zS.keep _ _ (kg4 _ _ (kg3 _ _ e))) (fun q hq => (hos q hq).1.keeps fun b o e => zS.keep _ _ (kg4 _ _ (kg3 _ _ (kg2 _ _ e)))) (hrIn.keeps zS.keep) (Nat.lt_of_le_of_lt (Nat.add_le_add_left (by decide : 10 ≤ 100) _) (R' _).units) ?_
      k_steps
      rename St _ _ _ _ _ => zS
      unfold CPost
      by_cases hpo : p ∈ OP
      · rw [if_neg (by simp only [decide_eq_true (hmem.mpr hpo), Bool.not_true]; exact Bool.false_ne_true)]
        refine ⟨_, _, _, g₄, [], rfl, kg4, ⟨rfl, trivial⟩, zS.cnil, fun g₅ k5 hex => ⟨us, rfl, hus.keeps k5, ?_⟩⟩
        rw [hku, List.take_add_one, hp, List.filter_append]; simp [hpo]
      · rw [if_pos (by simp only [decide_eq_false (fun h => hpo (hmem.mp h)), Bool.not_false])]
        k_steps
        rename St _ _ _ _ _ => zS
        refine ⟨_, _, _, g₄, [], rfl, kg4, ⟨rfl, trivial⟩, zS.cnil, fun g₅ k5 hex => ⟨us ++ [r], by simp, ?_, ?_⟩⟩
        · intro q hq
          rcases List.mem_append.mp hq with hq | hq
          · exact ⟨(hus q hq).1.keeps k5, (hus q hq).2⟩
          · rw [List.mem_singleton.mp hq]; exact ⟨hrIn.keeps k5, hrn⟩
        · rw [List.map_append, hku, List.take_add_one, hp, List.filter_append, List.map_append]; simp [hpo, hrk]
    · clear S W
      rintro D vs g₄ h₁ tk₁ nn kg4 S ⟨us, rfl, hus, hku⟩
      rw [List.take_of_length_le (by rw [List.length_map, hzl]; exact Nat.le_refl _)] at hku
      have hul : us.length = ((OP.flatMap (sonsT ws)).filter (fun p => !decide (p ∈ OP))).length := by simpa using congrArg List.length hku
      have htl2 := hT.len2
      k_steps
      rename St _ _ _ _ _ => zS
      refine sorted_rows zS (zS.isList at0) (fun r hr => (hus r hr).1.keeps zS.keep) (by exact om494 hul htl2) (by exact om493 hul htl2) (by rw [hku]; exact nodup_keyT hT.nd2) ?_
      clear zS
      intro SD2 h' c2 ys2 S hkeep2 hperm2 hsorted2
      obtain ⟨qs2, hqp2, hqk2⟩ := perm_rows hperm2 hku
      have hqs2 : qs2.Pairwise (fun a b => plt a b = true) := by
        have h1 : (ys2.map Row.key).Pairwise (fun a b => klt a b = true) := List.pairwise_map.mpr hsorted2
        rw [hqk2] at h1
        exact List.pairwise_map.mp h1
      have hwd := hT.wd qs2 hqp2 hqs2
      subst hwd
      k_steps
      rename St _ _ _ _ _ => zS
      have hgg : g'.StaysIn g₄ := fun b o e => kg4 _ _ (kg3 _ _ (kg2 _ _ (kg _ _ (kg0 _ _ e))))
      have hnw : ∀ a, g₄.get? a = none → s.heap.get? a = none := fun a e => hfr a (by
        cases q : g'.get? a with
        | none => rfl
        | some o => rw [hgg _ _ q] at e; cases e)
      have hin : ∀ r : Row, r.In g₄ ∧ g'.get? r.addr = none → r.In (newPart s.heap _) := fun r ⟨⟨t, u, o, ho, x⟩, hf⟩ => ⟨t, u, o, newPart_get (zS.keep _ _ ho) (hfr _ hf), x⟩
      refine hQ _ _ _ OD SD2 (ys.take n) ys2 _ c2 (hext _ fun b o e => zS.keep _ _ (hgg _ _ e)) ⟨_, newPart_get (zS.at at0) (hnw _ (zS.freshN _ (mem_fst_of_get at0))), rfl, _, rfl⟩ (newPart_get (zS.keep _ _ (kg4 _ _ (kg3 _ _ hOD))) (hfr _ hODn)) (newPart_get (zS.at at1) (hnw _ (zS.freshN _ (mem_fst_of_get at1))))
        (fun r hr => hin r ⟨(hos r hr).1.keeps fun b o e => kg4 _ _ (kg3 _ _ (kg2 _ _ e)), (hos r hr).2⟩) (fun r hr => hin r (hus r (hperm2.mem_iff.mp hr))) hok hqk2
end
-- Eq168
section
section
variable {prog : Program} {w : World} {A : Around} {E : Value → Shared → Prop} {s : Shared}
theorem all_true (n : Nat) : (List.range n).all (fun _ => true) = true := by simp
theorem lists_ne {l b : Addr} {xs ys : List Value} {Q : Value → Shared → Prop} (hl : s.heap.IsList l xs.toArray) (hb : s.heap.IsList b ys.toArray) (hz : xs.length = ys.length) (hu : A.units < cLine)
    (he : ∀ (j : Nat) (x y : Value), xs[j]? = some x → ys[j]? = some y → SeqAt.EqAt A.in1 s x y true) (h : Q (.bool false) s) : wpAny (model prog w) A (compareOp .NotEq (.ref l) (.ref b)) Q E s := by
  have := SeqAt.RcNeAt.lists (A := A) (s := s) (e := fun _ => true) hl hb (by simpa using hz) hu (fun j h1 h2 => he j _ _ (by simp at h1; simp [h1]) (by simp at h2; simp [h2]))
  rw [all_true] at this
  exact this prog w E Q h
theorem lists_eq {l b : Addr} {xs ys : List Value} {Q : Value → Shared → Prop} (hl : s.heap.IsList l xs.toArray) (hb : s.heap.IsList b ys.toArray) (hz : xs.length = ys.length) (hu : A.units < cLine)
    (he : ∀ (j : Nat) (x y : Value), xs[j]? = some x → ys[j]? = some y → SeqAt.EqAt A.in1 s x y true) (h : Q (.bool true) s) : wpAny (model prog w) A (compareOp .Eq (.ref l) (.ref b)) Q E s := by
  have := SeqAt.RcAt.lists (A := A) (s := s) (e := fun _ => true) hl hb (by simpa using hz) hu (fun j h1 h2 => he j _ _ (by simp at h1; simp [h1]) (by simp at h2; simp [h2]))
  rw [all_true] at this
  exact this prog w E Q h
theorem lists_eqAt {l b : Addr} {xs ys : List Value} (hl : s.heap.IsList l xs.toArray) (hb : s.heap.IsList b ys.toArray) (hz : xs.length = ys.length) (hu : A.units < cLine)
    (he : ∀ (j : Nat) (x y : Value), xs[j]? = some x → ys[j]? = some y → SeqAt.EqAt A.in1 s x y true) : SeqAt.EqAt A s (.ref l) (.ref b) true := by
  by_cases e : l = b
  · subst e; exact SeqAt.EqAt.same _
  · refine SeqAt.EqAt.of_refs e ?_
    have := SeqAt.RcAt.lists (A := A) (s := s) (e := fun _ => true) hl hb (by simpa using hz) hu (fun j h1 h2 => he j _ _ (by simp at h1; simp [h1]) (by simp at h2; simp [h2]))
    rw [all_true] at this
    exact this
theorem ints_eqAt {xs ys : List Value} {ns : List Int} (hx : IntsAre xs ns) (hy : IntsAre ys ns) : ∀ (j : Nat) (x y : Value), xs[j]? = some x → ys[j]? = some y → SeqAt.EqAt A s x y true := fun j x y h1 h2 => by
  obtain ⟨n, t, rfl, e1⟩ := IntsAre.at hx j x h1
  obtain ⟨n', t', rfl, e2⟩ := IntsAre.at hy j y h2
  rw [e1] at e2; cases e2
  have := eqAt_int A s n n t t'
  rw [beq_self_eq_true] at this; exact this
theorem strs_eqAt {xs ys : List Value} {ns : List PySem.Str} (hx : StrsAre xs ns) (hy : StrsAre ys ns) : ∀ (j : Nat) (x y : Value), xs[j]? = some x → ys[j]? = some y → SeqAt.EqAt A s x y true := fun j x y h1 h2 => by
  obtain ⟨n, t, rfl, e1⟩ := StrsAre.item hx j x h1
  obtain ⟨n', t', rfl, e2⟩ := StrsAre.item hy j y h2
  rw [e1] at e2; cases e2
  have := eqAt_str A s n n t t'
  rw [beq_self_eq_true] at this; exact this
theorem rows_ne {l b : Addr} {os qs : List Row} {Q : Value → Shared → Prop} (hl : s.heap.IsList l (os.map Row.val).toArray) (hb : s.heap.IsList b (qs.map Row.val).toArray) (ho : ∀ r ∈ os, r.In s.heap) (hq : ∀ r ∈ qs, r.In s.heap) (hk : os.map Row.key = qs.map Row.key) (hu : A.units + 10 < cLine)
    (h : Q (.bool false) s) : wpAny (model prog w) A (compareOp .NotEq (.ref l) (.ref b)) Q E s := by
  refine lists_ne hl hb (by simpa using congrArg List.length hk) (by exact om93 hu) (fun j x y h1 h2 => ?_) h
  rw [List.getElem?_map] at h1 h2
  cases e1 : os[j]? with
  | none => rw [e1] at h1; cases h1
  | some r =>
    cases e2 : qs[j]? with
    | none => rw [e2] at h2; cases h2
    | some q =>
      rw [e1] at h1; rw [e2] at h2
      cases h1; cases h2
      have e3 : (os.map Row.key)[j]? = (qs.map Row.key)[j]? := by rw [hk]
      rw [List.getElem?_map, List.getElem?_map, e1, e2] at e3
      have := rows_eqAt (A := A.in1) (ho r (List.mem_of_getElem? e1)) (hq q (List.mem_of_getElem? e2)) (by show A.units + 1 + 1 < cLine; exact om92 hu)
      rw [decide_eq_true (Option.some.inj e3)] at this
      exact this
theorem tups_ne {l b : Addr} {x1 x2 y1 y2 : Value} {Q : Value → Shared → Prop} (hl : s.heap.IsTuple l #[x1, x2]) (hb : s.heap.IsTuple b #[y1, y2]) (hu : A.units < cLine) (h1 : SeqAt.EqAt A.in1 s x1 y1 true) (h2 : SeqAt.EqAt A.in1 s x2 y2 true)
    (h : Q (.bool false) s) : wpAny (model prog w) A (compareOp .NotEq (.ref l) (.ref b)) Q E s := by
  have := SeqAt.RcNeAt.tuples (A := A) (s := s) (e := fun _ => true) hl hb hu (fun j q1 q2 => by
    simp at q1
    rcases j with _ | _ | j
    · exact h1
    · exact h2
    · exact (om91 q1).elim)
  rw [all_true] at this
  exact this prog w E Q h
end
end
-- Js168
section
open PySem PySem.W PyProof.Rows PySem.Calls PySem.Builtin PySem.Builtin.Str
theorem join_tree_str (sep m : Str) (t u : Tok) : «str.join» ⟨[.str sep t, .str m u], []⟩ = (do
    let ty ← typeOf (.str m u)
    if (ty == .type "list" || ty == .type "tuple") = true then (do
      match ← seqItems? (.str m u) with
      | some xs => joinTail sep xs.toList
      | none => unsupported "internal:str.join")
    else (do
      let it ← (pyIter (.str m u)).tryCatch fun e => do
        if ← isInstance e (.type "TypeError") then rule "str.join.not-iterable"; raiseError "TypeError" "can only join an iterable" else throw e
      let items ← collect it
      joinTail sep items)) := rfl
theorem sum_ones : ∀ l : List Nat, (l.map fun _ => 1).sum = l.length
  | [] => rfl
  | _ :: r => by rw [List.map_cons, List.sum_cons, sum_ones r, List.length_cons]; exact om216
theorem signs_of (m : Str) (acc : Array Value) (h : ItemsOf (SignAt m) acc m.cps.size) : ∃ l : List (Str × Tok), acc.toList = strValues l ∧ l.map (·.1) = m.cps.toList.map fun c => (⟨#[c]⟩ : Str) := by
  obtain ⟨l, hl⟩ := exists_strValues acc.toList fun v hv => by
    obtain ⟨j, hj, rfl⟩ := Array.mem_iff_getElem.mp (Array.mem_toList_iff.mp hv)
    obtain ⟨c, u, _, e⟩ := h.2 j _ (Array.getElem?_eq_getElem hj)
    exact ⟨_, _, e⟩
  refine ⟨l, hl.symm, List.ext_getElem? fun i => ?_⟩
  have hsz : l.length = m.cps.size := by
    have := congrArg List.length hl
    have h1 := h.1
    simp [strValues] at this
    exact om215 h1 this
  rw [List.getElem?_map, List.getElem?_map]
  by_cases hi : i < m.cps.size
  · have hi' : i < acc.size := by rw [h.1]; exact hi
    have h1 : acc[i]? = some acc[i] := Array.getElem?_eq_getElem hi'
    obtain ⟨c, u, hc, e⟩ := h.2 i _ h1
    have h2 : (strValues l)[i]? = some (Value.str ⟨#[c]⟩ u) := by rw [hl, ← e, ← h1]; simp
    unfold strValues at h2
    rw [List.getElem?_map] at h2
    obtain ⟨p, hp, e2⟩ := Option.map_eq_some_iff.mp h2
    rw [hp]
    have h3 : m.cps.toList[i]? = some c := by simpa using hc
    rw [h3]
    injection e2 with e3
    simp [e3]
  · rw [List.getElem?_eq_none (by exact om214 hsz hi), List.getElem?_eq_none (by simpa using hi)]; rfl
section
variable {prog : Program} {w : World} {A : Around} {E : Value → Shared → Prop} {s : Shared} {g : Heap} {env : Env} {mm : Str → Option Value} {nx : List (Addr × Obj)} {x m : Str} {t u : Tok} {Q : Value → Shared → Prop}
theorem join_str (S : St g env s.heap mm nx) (hh : A.handled = none) (hm : m.cps.size ≤ 1000) (hx : x.length ≤ 16)
    (h : ∀ h' tk t', St g env h' mm nx → s.heap.StaysIn h' → Q (.str (Txt.join x (m.cps.toList.map fun c => (⟨#[c]⟩ : Str))) t') { s with heap := h', toks := tk }) :
    wpAny (model prog w) A (call (.builtin "str.join") [.str x t, .str m u]) Q E s := by
  refine wpAny_call (codeAny_call_builtin F.slot_str_join.plain F.entry_str_join (F.slot_str_join.check _ _ _ _ _ _ _ _ (typeIs_str _ _ _) (F.args_str_join_2 _ _) ?_))
  rw [join_tree_str]
  refine wpAny_bind (wpAny_typeOf (T := "str") (v := .str m u) rfl ?_)
  have hno : s.heap.get? s.heap.objs.size = none := by cases q : s.heap.get? s.heap.objs.size with | none => rfl | some o => exact absurd (Heap.lt_size q) (Nat.lt_irrefl _)
  have hne : ∀ b o, s.heap.get? b = some o → b ≠ s.heap.objs.size := fun b o e q => by rw [q, hno] at e; cases e
  show wpAny _ A.in1 ((pyIter (.str m u)).tryCatch _ >>= fun it => collect it >>= fun items => joinTail x items) _ _ s
  have hok : ∀ l : List (Str × Tok), l.map (·.1) = m.cps.toList.map (fun c => (⟨#[c]⟩ : Str)) → tooLong ((l.map (·.1)).toArray.foldl (· + ·.length + x.length) 0) = false := fun l hl => by
    have h1 : JoinOk x (l.map (·.1)) = true := by
      rw [hl]
      refine joinOk_of ?_
      have e : ((m.cps.toList.map fun c => (⟨#[c]⟩ : Str)).map (·.length)).sum = m.cps.size := by
        rw [List.map_map]
        have : ((fun y : Str => y.length) ∘ fun c : Nat => (⟨#[c]⟩ : Str)) = fun _ => 1 := by funext c; rfl
        rw [this, sum_ones, Array.length_toList]
      rw [e, List.length_map]
      have : m.cps.toList.length = m.cps.size := by simp
      rw [this]
      have := Nat.mul_le_mul hm hx
      exact om213 hm this
    unfold JoinOk at h1
    rwa [Bool.not_eq_true'] at h1
  cases ha : m.cps.all (· < 128)
  · refine wpAny_bind (wpAny_tryCatch (wpAny_pyIter_wide ha ?_))
    refine wpAny_bind (wpAny_collect_strIter (t := u) hh (.inr rfl) ⟨_, Heap.get?_push_size _ rfl, rfl, rfl⟩ (fun s' acc k hg hd ho hacc => ?_) (by show _ ≤ (2 ^ 24 : Nat); exact om212 hm))
    obtain ⟨l, hl, ht⟩ := signs_of m acc hacc
    have kk : s.heap.StaysIn s'.heap := fun b o e => k b o (hne b o e) (Heap.get?_push_of_some _ e)
    have g := gives_joinTail x l (hok l ht)
    have g' : Gives (joinTail x (strValues l)) (joinMade x l) := by cases l with | nil => exact g | cons p r => cases r with | nil => exact g | cons q r' => exact g
    rw [hl]
    refine g' prog w A (wants Q E) s' (post_join l ⟨joinFit_length (hok l ht), fun t' tk => ?_⟩)
    obtain ⟨h1, h2, h3, h4, h5⟩ := s'
    simp only at hg hd ho
    subst hg hd ho
    rw [ht]
    exact h _ _ _ (S.kept kk) kk
  · refine wpAny_bind (wpAny_tryCatch (wpAny_pyIter_ascii ha ?_))
    refine wpAny_bind (wpAny_collect_strIter (t := u) hh (.inl rfl) ⟨_, Heap.get?_push_size _ rfl, rfl, rfl⟩ (fun s' acc k hg hd ho hacc => ?_) (by show _ ≤ (2 ^ 24 : Nat); exact om212 hm))
    obtain ⟨l, hl, ht⟩ := signs_of m acc hacc
    have kk : s.heap.StaysIn s'.heap := fun b o e => k b o (hne b o e) (Heap.get?_push_of_some _ e)
    have g := gives_joinTail x l (hok l ht)
    have g' : Gives (joinTail x (strValues l)) (joinMade x l) := by cases l with | nil => exact g | cons p r => cases r with | nil => exact g | cons q r' => exact g
    rw [hl]
    refine g' prog w A (wants Q E) s' (post_join l ⟨joinFit_length (hok l ht), fun t' tk => ?_⟩)
    obtain ⟨h1, h2, h3, h4, h5⟩ := s'
    simp only at hg hd ho
    subst hg hd ho
    rw [ht]
    exact h _ _ _ (S.kept kk) kk
end
theorem join_T : ∀ u : List Nat, u ≠ [] → ∃ r, Txt.join (T [47]) (u.map fun c => (⟨#[c]⟩ : Str)) = T r ∧ 47 :: r = wayL u
  | [], h => absurd rfl h
  | [c], _ => ⟨[c], rfl, rfl⟩
  | c :: d :: r, _ => by
    obtain ⟨q, h1, h2⟩ := join_T (d :: r) (by simp)
    refine ⟨c :: 47 :: q, ?_, ?_⟩
    · unfold Txt.join at h1 ⊢
      rw [StrLaws.glued_eq_join] at h1 ⊢
      show (⟨#[c]⟩ : Str) ++ T [47] ++ Str.join (T [47]) ((d :: r).map fun c => (⟨#[c]⟩ : Str)) = _
      rw [h1, show (⟨#[c]⟩ : Str) = T [c] from rfl, T_app, T_app]; rfl
    · rw [h2]; simp [wayL]
theorem join_way (u : List Nat) : T [47] ++ Txt.join (T [47]) (u.map fun c => (⟨#[c]⟩ : Str)) = way u ∧ (Txt.join (T [47]) (u.map fun c => (⟨#[c]⟩ : Str))).length ≤ 2 * u.length := by
  by_cases h : u = []
  · subst h; exact ⟨rfl, by decide⟩
  · obtain ⟨r, h1, h2⟩ := join_T u h
    have := wayL_len u
    rw [← h2] at this
    rw [h1, T_app, T_len]
    exact ⟨by unfold way; rw [← h2]; rfl, by simp at this; exact this⟩
end
-- Spw168
section
/-- rows of codes with one sign between each two -/
noncomputable def IC (c : Nat) : List (List Nat) → List Nat
  | [] => []
  | [p] => p
  | p :: q :: r => p ++ c :: IC c (q :: r)
theorem first_c {c : Nat} : ∀ (p q X Y : List Nat), c ∉ p → c ∉ q → p ++ c :: X = q ++ c :: Y → p = q ∧ X = Y
  | [], [], X, Y, _, _, h => ⟨rfl, by simpa using h⟩
  | [], b :: q, X, Y, _, hq, h => by
    simp only [List.nil_append, List.cons_append, List.cons.injEq] at h
    exact absurd (h.1 ▸ List.mem_cons_self) hq
  | a :: p, [], X, Y, hp, _, h => by
    simp only [List.nil_append, List.cons_append, List.cons.injEq] at h
    exact absurd (h.1 ▸ List.mem_cons_self) hp
  | a :: p, b :: q, X, Y, hp, hq, h => by
    simp only [List.cons_append, List.cons.injEq] at h
    obtain ⟨e1, e2⟩ := first_c p q X Y (fun m => hp (.tail _ m)) (fun m => hq (.tail _ m)) h.2
    exact ⟨by rw [h.1, e1], e2⟩
theorem IC_inj {c : Nat} : ∀ (ps qs : List (List Nat)), ps ≠ [] → qs ≠ [] → (∀ p ∈ ps, c ∉ p) → (∀ q ∈ qs, c ∉ q) → IC c ps = IC c qs → ps = qs
  | [], _, h, _, _, _, _ => absurd rfl h
  | _ :: _, [], _, h, _, _, _ => absurd rfl h
  | [p], [q], _, _, _, _, h => by
    simp only [IC] at h; rw [h]
  | [p], q :: q2 :: r, _, _, hp, _, h => by
    simp only [IC] at h
    exact absurd (h ▸ List.mem_append_right _ List.mem_cons_self) (hp p (.head _))
  | p :: p2 :: r, [q], _, _, _, hq, h => by
    simp only [IC] at h
    exact absurd (h ▸ List.mem_append_right _ List.mem_cons_self) (hq q (.head _))
  | p :: p2 :: r, q :: q2 :: r', _, _, hp, hq, h => by
    simp only [IC] at h
    obtain ⟨e1, e2⟩ := first_c p q _ _ (hp p (.head _)) (hq q (.head _)) h
    rw [e1, IC_inj (p2 :: r) (q2 :: r') (by simp) (by simp) (fun x hx => hp x (.tail _ hx)) (fun x hx => hq x (.tail _ hx)) e2]
theorem join_IC (c : Nat) : ∀ ps : List Str, (Str.join (T [c]) ps).cps.toList = IC c (ps.map (·.cps.toList))
  | [] => rfl
  | [p] => rfl
  | p :: q :: r => by
    show ((p ++ T [c] ++ Str.join (T [c]) (q :: r)) : Str).cps.toList = _
    have := join_IC c (q :: r)
    have e : ∀ a b : Str, (a ++ b).cps.toList = a.cps.toList ++ b.cps.toList := fun a b => Array.toList_append
    rw [e, e, this]
    simp [IC]
theorem IC_way : ∀ u : List Nat, u ≠ [] → IC 47 ([] :: u.map fun c => [c]) = wayL u := by
  have h : ∀ u : List Nat, u ≠ [] → IC 47 ([] :: u.map fun c => [c]) = u.flatMap fun c => [47, c] := by
    intro u
    induction u with
    | nil => intro h; exact absurd rfl h
    | cons a r ih =>
      intro _
      cases r with
      | nil => rfl
      | cons b r =>
        have := ih (by simp)
        simp only [List.map_cons, IC, List.nil_append] at this ⊢
        rw [List.flatMap_cons, ← this]; rfl
  intro u hu
  rw [h u hu]; unfold wayL; rw [if_neg hu]
theorem split_way {u : List Nat} (hu : u ≠ []) (hs : 47 ∉ u) : Txt.split (way u) (T [47]) = T [] :: u.map fun c => T [c] := by
  have h1 := StrLaws.join_split (way u) (T [47])
  have h2 := StrLaws.split_free (way u) 47
  have h3 : (Str.join (T [47]) (Txt.split (way u) (T [47]))).cps.toList = wayL u := by rw [h1]
  rw [join_IC, ← IC_way u hu] at h3
  have hne : (Txt.split (way u) (T [47])).map (·.cps.toList) ≠ [] := by
    intro e
    rw [e] at h3
    cases u with
    | nil => exact hu rfl
    | cons a r => simp only [List.map_cons, IC, List.nil_append] at h3; cases h3
  have e := IC_inj _ _ hne (by simp) (fun p hp => by
    obtain ⟨x, hx, rfl⟩ := List.mem_map.mp hp
    exact h2 x hx) (fun q hq => by
    rcases List.mem_cons.mp hq with rfl | hq
    · simp
    · obtain ⟨c, hc, rfl⟩ := List.mem_map.mp hq
      intro m
      rw [List.mem_singleton] at m
      exact hs (m ▸ hc)) h3
  have back : ∀ l : List Str, (l.map (·.cps.toList)).map T = l := fun l => by
    rw [List.map_map]
    conv => rhs; rw [← List.map_id l]
    rfl
  rw [← back (Txt.split (way u) (T [47])), e]
  simp
section
variable {prog : Program} {w : World} {A : Around} {E : Value → Shared → Prop} {s : Shared} {x : Str} {t : Tok} {Q : Value → Shared → Prop} {g : Heap} {env : Env} {m : PySem.Str → Option Value} {nx : List (Addr × Obj)}
open PySem.Spec PySem.Builtin PySem.Builtin.Str in
theorem split_St {y : PySem.Str} {u : Tok} (S : St g env s.heap m nx) (hy : (y.length == 0) = false)
    (h : ∀ D l h' k, l.map (·.1) = Txt.split x y → St g env h' m ((D, { cls := .type "list", data := .seq (strValues l).toArray }) :: nx) → Q (.ref D) { s with heap := h', toks := k })
    (hsz : x.length + 2 ≤ sizeLine := by size_fits) :
    wpAny (model prog w) A (call (.builtin "str.split") [.str x t, .str y u]) Q E s := by
  have hn : (partsBetween x (occurrences x y 0 x.length (x.length + 1)) y.length).length ≤ sizeLine := by
    have e1 := StrLaws.occ_length_le x y 0 x.length (x.length + 1)
    rw [length_partsBetween]; exact om460 hsz e1
  cases h1 : (decide (x.length < y.length) || decide (strKind x < strKind y))
  · cases hf : (occurrences x y 0 x.length (x.length + 1)).isEmpty
    · refine call_meets F.slot_str_split (typeIs_str _ _ _) F.entry_str_split (F.args_str_split_2 _ _) (meets_str_split_sep x y t u h1 hy hf (by exact om459 hsz) hn) ?_
      show wants Q E _ { s with toks := _, heap := s.heap.push { cls := .type "list", data := .seq (strsFrom s.toks (partsBetween x (occurrences x y 0 x.length (x.length + 1)) y.length)).toArray } }
      rw [strsFrom_eq]
      exact h _ (numbered s.toks _) _ _ ((numbered_texts _ _).trans ((if_neg (ne_true_of_eq_false h1)).trans (if_neg (ne_true_of_eq_false hf))).symm) (S.push _ rfl)
    · exact call_meets F.slot_str_split (typeIs_str _ _ _) F.entry_str_split (F.args_str_split_2 _ _) (meets_str_split_not_found x y t u h1 hy hf)
        (h _ [(x, t)] _ s.toks ((if_neg (ne_true_of_eq_false h1)).trans (if_pos hf)).symm (S.push _ rfl))
  · exact call_meets F.slot_str_split (typeIs_str _ _ _) F.entry_str_split (F.args_str_split_2 _ _) (meets_str_split_cannot_occur x y t u h1)
      (h _ [(x, t)] _ s.toks (if_pos h1).symm (S.push _ rfl))
end
end
-- Mm168
section
open AutoSeq1 (wpAny_loadPart')
open MeetsSeq MeetsSeq2 MeetsSeq3
set_option maxRecDepth 100000
theorem lt_loop {l b : Addr} {va vb : List Value} {n n2 : Nat} {xs ys : List PySem.Str} {N : Nat} {p q : PySem.Str} (hx : StrsAre va xs) (hy : StrsAre vb ys) (hN : ∀ j, j < N → xs[j]? = ys[j]?) (hp : xs[N]? = some p) (hq : ys[N]? = some q) (hpq : p ≠ q) (k : Nat) :
    ∀ i : Nat, N - i = k → i ≤ N → Meets (Builtin.«list.__eq__.loop» ⟨[.ref l, .ref b, rawInt i, rawInt 0], []⟩)
      (fun A R s => s.heap.get? l = some (listOf va.toArray n) ∧ s.heap.get? b = some (listOf vb.toArray n2) ∧ R (.ok (.ret (.bool (decide (p.cps.toList < q.cps.toList))))) s) := by
  have at_ : ∀ i, i ≤ N → ∃ y z t u, xs[i]? = some y ∧ ys[i]? = some z ∧ va[i]? = some (.str y t) ∧ vb[i]? = some (.str z u) := fun i hi => by
    have hxl : N < xs.length := by
      rcases Nat.lt_or_ge N xs.length with h | h
      · exact h
      · rw [List.getElem?_eq_none h] at hp; cases hp
    have hyl : N < ys.length := by
      rcases Nat.lt_or_ge N ys.length with h | h
      · exact h
      · rw [List.getElem?_eq_none h] at hq; cases hq
    have e1 : xs[i]? = some xs[i] := List.getElem?_eq_getElem (by exact om311 hi hxl)
    have e2 : ys[i]? = some ys[i] := List.getElem?_eq_getElem (by exact om311 hi hyl)
    obtain ⟨t, h1⟩ := StrsAre.get hx i _ e1
    obtain ⟨u, h2⟩ := StrsAre.get hy i _ e2
    exact ⟨_, _, t, u, e1, e2, h1, h2⟩
  induction k with
  | zero =>
    intro i hk hi prog w A R s h
    have hin : i = N := by exact om42 hk hi
    subst hin
    obtain ⟨y, z, t, u, e1, e2, h1, h2⟩ := at_ i (Nat.le_refl _)
    rw [hp] at e1; cases e1
    rw [hq] at e2; cases e2
    obtain ⟨hh, g, d, tk, os⟩ := s; obtain ⟨hl, hb, h⟩ := h
    dsimp only at hl hb
    wp_walk using wpAny_loadPart' hl, wpAny_loadPart' hb
    have hi1 : va.toArray[((i : Nat) : Int).toNat]? = some (.str p t) := by simpa using h1
    have hi2 : vb.toArray[((i : Nat) : Int).toNat]? = some (.str q u) := by simpa using h2
    rw [hi1, hi2]
    refine wpAny_bind (eqBool_str ?_)
    rw [beq_eq_false_iff_ne.mpr hpq]
    wp_walk using wpAny_loadPart' hl, wpAny_loadPart' hb
    rw [hi1, hi2]
    refine wpAny_bind (richCompare_gives (op := .Lt) (typeIs_str _ p t) (typeIs_str _ q u) F.slot_str_lt F.entry_str_lt (F.args_str_lt_2 _ _) (gives_str_lt p q t u) (fun e => nomatch e) ?_)
    exact wpAny_pure h
  | succ k ih =>
    intro i hk hi prog w A R s h
    obtain ⟨y, z, t, u, e1, e2, h1, h2⟩ := at_ i hi
    have hyz : y = z := by have := hN i (by exact om39 hk); rw [e1, e2] at this; exact Option.some.inj this
    subst hyz
    obtain ⟨hh, g, d, tk, os⟩ := s; obtain ⟨hl, hb, h⟩ := h
    dsimp only at hl hb
    wp_walk using wpAny_loadPart' hl, wpAny_loadPart' hb
    have hi1 : va.toArray[((i : Nat) : Int).toNat]? = some (.str y t) := by simpa using h1
    have hi2 : vb.toArray[((i : Nat) : Int).toNat]? = some (.str y u) := by simpa using h2
    have hc : ((i : Int) + 1) = ((i + 1 : Nat) : Int) := by push_cast; rfl
    rw [hi1, hi2]
    refine wpAny_bind (eqBool_str ?_)
    rw [beq_self_eq_true]
    wp_walk
    rw [hc]
    exact ⟨plainId_quiet plain_eq_loop _, codeAny_builtin entry_eq_loop (by
      rw [Around.under_plainId plain_eq_loop _]
      exact ih (i + 1) (by exact om36 hk) (by exact om35 hk) prog w A R _ ⟨hl, hb, h⟩)⟩
theorem gt_loop {l b : Addr} {va vb : List Value} {n n2 : Nat} {xs ys : List PySem.Str} {N : Nat} {p q : PySem.Str} (hx : StrsAre va xs) (hy : StrsAre vb ys) (hN : ∀ j, j < N → xs[j]? = ys[j]?) (hp : xs[N]? = some p) (hq : ys[N]? = some q) (hpq : p ≠ q) (k : Nat) :
    ∀ i : Nat, N - i = k → i ≤ N → Meets (Builtin.«list.__eq__.loop» ⟨[.ref l, .ref b, rawInt i, rawInt 4], []⟩)
      (fun A R s => s.heap.get? l = some (listOf va.toArray n) ∧ s.heap.get? b = some (listOf vb.toArray n2) ∧ R (.ok (.ret (.bool (decide (q.cps.toList < p.cps.toList))))) s) := by
  have at_ : ∀ i, i ≤ N → ∃ y z t u, xs[i]? = some y ∧ ys[i]? = some z ∧ va[i]? = some (.str y t) ∧ vb[i]? = some (.str z u) := fun i hi => by
    have hxl : N < xs.length := by
      rcases Nat.lt_or_ge N xs.length with h | h
      · exact h
      · rw [List.getElem?_eq_none h] at hp; cases hp
    have hyl : N < ys.length := by
      rcases Nat.lt_or_ge N ys.length with h | h
      · exact h
      · rw [List.getElem?_eq_none h] at hq; cases hq
    have e1 : xs[i]? = some xs[i] := List.getElem?_eq_getElem (by exact om311 hi hxl)
    have e2 : ys[i]? = some ys[i] := List.getElem?_eq_getElem (by exact om311 hi hyl)
    obtain ⟨t, h1⟩ := StrsAre.get hx i _ e1
    obtain ⟨u, h2⟩ := StrsAre.get hy i _ e2
    exact ⟨_, _, t, u, e1, e2, h1, h2⟩
  induction k with
  | zero =>
    intro i hk hi prog w A R s h
    have hin : i = N := by exact om42 hk hi
    subst hin
    obtain ⟨y, z, t, u, e1, e2, h1, h2⟩ := at_ i (Nat.le_refl _)
    rw [hp] at e1; cases e1
    rw [hq] at e2; cases e2
    obtain ⟨hh, g, d, tk, os⟩ := s; obtain ⟨hl, hb, h⟩ := h
    dsimp only at hl hb
    wp_walk using wpAny_loadPart' hl, wpAny_loadPart' hb
    have hi1 : va.toArray[((i : Nat) : Int).toNat]? = some (.str p t) := by simpa using h1
    have hi2 : vb.toArray[((i : Nat) : Int).toNat]? = some (.str q u) := by simpa using h2
    rw [hi1, hi2]
    refine wpAny_bind (eqBool_str ?_)
    rw [beq_eq_false_iff_ne.mpr hpq]
    wp_walk using wpAny_loadPart' hl, wpAny_loadPart' hb
    rw [hi1, hi2]
    refine wpAny_bind (richCompare_gives (op := .Gt) (typeIs_str _ p t) (typeIs_str _ q u) F.slot_str_gt F.entry_str_gt (F.args_str_gt_2 _ _) (gives_str_gt p q t u) (fun e => nomatch e) ?_)
    exact wpAny_pure h
  | succ k ih =>
    intro i hk hi prog w A R s h
    obtain ⟨y, z, t, u, e1, e2, h1, h2⟩ := at_ i hi
    have hyz : y = z := by have := hN i (by exact om39 hk); rw [e1, e2] at this; exact Option.some.inj this
    subst hyz
    obtain ⟨hh, g, d, tk, os⟩ := s; obtain ⟨hl, hb, h⟩ := h
    dsimp only at hl hb
    wp_walk using wpAny_loadPart' hl, wpAny_loadPart' hb
    have hi1 : va.toArray[((i : Nat) : Int).toNat]? = some (.str y t) := by simpa using h1
    have hi2 : vb.toArray[((i : Nat) : Int).toNat]? = some (.str y u) := by simpa using h2
    have hc : ((i : Int) + 1) = ((i + 1 : Nat) : Int) := by push_cast; rfl
    rw [hi1, hi2]
    refine wpAny_bind (eqBool_str ?_)
    rw [beq_self_eq_true]
    wp_walk
    rw [hc]
    exact ⟨plainId_quiet plain_eq_loop _, codeAny_builtin entry_eq_loop (by
      rw [Around.under_plainId plain_eq_loop _]
      exact ih (i + 1) (by exact om36 hk) (by exact om35 hk) prog w A R _ ⟨hl, hb, h⟩)⟩
end
-- Mn168
section
open AutoSeq1 (wpAny_loadPart')
open MeetsSeq MeetsSeq2 MeetsSeq3
set_option maxRecDepth 100000
theorem list_lt {l b : Addr} {va vb : List Value} {n n2 : Nat} {xs ys : List PySem.Str} {N : Nat} {p q : PySem.Str} (hx : StrsAre va xs) (hy : StrsAre vb ys) (hN : ∀ j, j < N → xs[j]? = ys[j]?) (hp : xs[N]? = some p) (hq : ys[N]? = some q) (hpq : p ≠ q) :
    Meets (Builtin.«list.__lt__» ⟨[.ref l, .ref b], []⟩)
      (fun A R s => s.heap.get? l = some (listOf va.toArray n) ∧ s.heap.get? b = some (listOf vb.toArray n2) ∧ R (.ok (.ret (.bool (decide (p.cps.toList < q.cps.toList))))) s) := by
  intro prog w A R s h
  obtain ⟨hp', g, d, tk, os⟩ := s; obtain ⟨hl, hb, h⟩ := h
  dsimp only at hl hb
  have f3 := AutoSeq1.sub_list_list
  wp_walk using wpAny_loadPart' hl, wpAny_loadPart' hb
  exact ⟨plainId_quiet plain_eq_loop _, codeAny_builtin entry_eq_loop (by
    rw [Around.under_plainId plain_eq_loop _]
    exact lt_loop hx hy hN hp hq hpq N 0 rfl (Nat.zero_le _) prog w A R _ ⟨hl, hb, h⟩)⟩
theorem list_gt {l b : Addr} {va vb : List Value} {n n2 : Nat} {xs ys : List PySem.Str} {N : Nat} {p q : PySem.Str} (hx : StrsAre va xs) (hy : StrsAre vb ys) (hN : ∀ j, j < N → xs[j]? = ys[j]?) (hp : xs[N]? = some p) (hq : ys[N]? = some q) (hpq : p ≠ q) :
    Meets (Builtin.«list.__gt__» ⟨[.ref l, .ref b], []⟩)
      (fun A R s => s.heap.get? l = some (listOf va.toArray n) ∧ s.heap.get? b = some (listOf vb.toArray n2) ∧ R (.ok (.ret (.bool (decide (q.cps.toList < p.cps.toList))))) s) := by
  intro prog w A R s h
  obtain ⟨hp', g, d, tk, os⟩ := s; obtain ⟨hl, hb, h⟩ := h
  dsimp only at hl hb
  have f3 := AutoSeq1.sub_list_list
  wp_walk using wpAny_loadPart' hl, wpAny_loadPart' hb
  exact ⟨plainId_quiet plain_eq_loop _, codeAny_builtin entry_eq_loop (by
    rw [Around.under_plainId plain_eq_loop _]
    exact gt_loop hx hy hN hp hq hpq N 0 rfl (Nat.zero_le _) prog w A R _ ⟨hl, hb, h⟩)⟩
end
-- Mo168
section
set_option maxRecDepth 100000
section
variable {prog : Program} {w : World} {A : Around} {R : Result → Shared → Prop} {I : Addr} {fp wr : List Addr} {P : Nat → Value → Prop} {St : Nat → Heap → Prop}
theorem min_end (W : Walks prog w A.in1 I fp wr 2 P St) {S : Addr} (hSf : S ∉ fp) {s : Shared} {vb : Value} {c : Nat} (hst : St 2 s.heap) (hS : s.heap.get? S = some { cls := .type "list", dict := none, data := .seq #[vb, vb] c, slots := #[] })
    (hR : ∀ h' tk, (∀ b o, b ∉ wr → b ≠ S → s.heap.get? b = some o → h'.get? b = some o) → R (.ok (.ret vb)) { s with heap := h', toks := tk }) :
    codeAny (model prog w) A (.builtin "min.loop" ⟨[.ref I, .none, .ref S], []⟩) R s := by
  have hSw : S ∉ wr := fun h => hSf (W.sub _ h)
  refine codeAny_builtin F.entry_min_loop ?_
  rw [Around.under_plainId F.plain_min_loop _]
  show wpAny _ A.in1 (seqItems? (.ref S) >>= _) _ _ s
  refine wpAny_bind (wpAny_seqItems hS rfl ?_)
  show wpAny _ A.in1 (tryCatch (pyNext (.ref I)) _ >>= _) _ _ s
  refine wpAny_bind (wpAny_tryCatch (W.done s _ _ hst fun h' tk hk' => ?_))
  have hS' := hk' S _ hSw hS
  show wpAny _ A.in1 (updateSeq S (fun _ => #[]) >>= _) _ _ _
  refine wpAny_bind ?_
  refine wpAny_updateSeq hS' rfl (wpAny_bind (wpAny_letGo (wpAny_pure ?_)))
  exact hR _ tk fun b o hbw hbS e => (Heap.get?_update_other _ _ (Ne.symm hbS)).trans (hk' b o hbw e)
theorem min_mid (W : Walks prog w A.in1 I fp wr 2 P St) {S : Addr} (hSf : S ∉ fp) {s : Shared} {x y : Value} {c : Nat} {bt : Bool} (hP1 : ∀ v, P 1 v → v = y) (hst : St 1 s.heap) (hS : s.heap.get? S = some { cls := .type "list", dict := none, data := .seq #[x, x] c, slots := #[] })
    (hcmp : ∀ (s' : Shared) (Q E : Value → Shared → Prop), (∀ b o, b ∉ wr → b ≠ S → s.heap.get? b = some o → s'.heap.get? b = some o) → Q (.bool bt) s' → wpAny (model prog w) A.in1 (richCompare .Lt y x) Q E s')
    (hR : ∀ h' tk, (∀ b o, b ∉ wr → b ≠ S → s.heap.get? b = some o → h'.get? b = some o) → R (.ok (.ret (if bt = true then y else x))) { s with heap := h', toks := tk }) :
    codeAny (model prog w) A (.builtin "min.loop" ⟨[.ref I, .none, .ref S], []⟩) R s := by
  have hSw : S ∉ wr := fun h => hSf (W.sub _ h)
  have hname : (toString "min" ++ toString ".loop" : String) = "min.loop" := by decide
  refine codeAny_builtin F.entry_min_loop ?_
  rw [Around.under_plainId F.plain_min_loop _]
  show wpAny _ A.in1 (seqItems? (.ref S) >>= _) _ _ s
  refine wpAny_bind (wpAny_seqItems hS rfl ?_)
  show wpAny _ A.in1 (tryCatch (pyNext (.ref I)) _ >>= _) _ _ s
  refine wpAny_bind (wpAny_tryCatch (W.item 1 s _ _ (by decide) hst fun v h' tk hP hst' hk' => ?_))
  obtain rfl := hP1 v hP
  have hS' := hk' S _ hSw hS
  show wpAny _ A.in1 (tryCatch (holding [v, v] (richCompare .Lt v x >>= _)) _ >>= _) _ _ _
  refine wpAny_bind (wpAny_tryCatch (wpAny_holding (wpAny_bind (hcmp _ _ _ (fun b o hb _ e => hk' b o hb e) ?_))))
  refine wpAny_bind (wpAny_holding (wpAny_truthy_bool ?_))
  refine wpAny_bind (wpAny_letGo (wpAny_pure ?_))
  cases bt with
  | true =>
    simp only [if_true]
    refine wpAny_bind ?_
    refine wpAny_updateSeq hS' rfl (wpAny_bind (wpAny_letGo ?_))
    rw [hname]
    refine wpAny_pure ⟨plainId_quiet F.plain_min_loop _, min_end W hSf (W.frame _ _ _ hst' fun b hbf o e => ?_) (Heap.get?_update_self _ hS' rfl) fun h'' tk'' hk'' => ?_⟩
    · exact (Heap.get?_update_other _ _ (fun h : S = b => hSf (by rw [h]; exact hbf))).trans e
    · exact hR h'' tk'' fun b o hbw hbS e => hk'' b o hbw hbS ((Heap.get?_update_other _ _ (Ne.symm hbS)).trans (hk' b o hbw e))
  | false =>
    simp only [Bool.false_eq_true, if_false]
    refine wpAny_bind (wpAny_letGo ?_)
    rw [hname]
    exact wpAny_pure ⟨plainId_quiet F.plain_min_loop _, min_end W hSf hst' hS' fun h'' tk'' hk'' => hR h'' tk'' fun b o hbw hbS e => hk'' b o hbw hbS (hk' b o hbw e)⟩
theorem min_first (W : Walks prog w A.in1 I fp wr 2 P St) {S : Addr} (hSf : S ∉ fp) {s : Shared} {x y : Value} {c : Nat} {bt : Bool} (hP0 : ∀ v, P 0 v → v = x) (hP1 : ∀ v, P 1 v → v = y) (hst : St 0 s.heap) (hS : s.heap.get? S = some { cls := .type "list", dict := none, data := .seq #[] c, slots := #[] })
    (hcmp : ∀ (s' : Shared) (Q E : Value → Shared → Prop), (∀ b o, b ∉ wr → b ≠ S → s.heap.get? b = some o → s'.heap.get? b = some o) → Q (.bool bt) s' → wpAny (model prog w) A.in1 (richCompare .Lt y x) Q E s')
    (hR : ∀ h' tk, (∀ b o, b ∉ wr → b ≠ S → s.heap.get? b = some o → h'.get? b = some o) → R (.ok (.ret (if bt = true then y else x))) { s with heap := h', toks := tk }) :
    codeAny (model prog w) A (.builtin "min.loop" ⟨[.ref I, .none, .ref S], []⟩) R s := by
  have hSw : S ∉ wr := fun h => hSf (W.sub _ h)
  have hname : (toString "min" ++ toString ".loop" : String) = "min.loop" := by decide
  refine codeAny_builtin F.entry_min_loop ?_
  rw [Around.under_plainId F.plain_min_loop _]
  show wpAny _ A.in1 (seqItems? (.ref S) >>= _) _ _ s
  refine wpAny_bind (wpAny_seqItems hS rfl ?_)
  show wpAny _ A.in1 (tryCatch (pyNext (.ref I)) _ >>= _) _ _ s
  refine wpAny_bind (wpAny_tryCatch (W.item 0 s _ _ (by decide) hst fun v h' tk hP hst' hk' => ?_))
  obtain rfl := hP0 v hP
  have hS' := hk' S _ hSw hS
  show wpAny _ A.in1 (updateSeq S (fun _ => #[v, v]) >>= _) _ _ _
  refine wpAny_bind ?_
  refine wpAny_updateSeq hS' rfl ?_
  rw [hname]
  have kk : ∀ b o, b ∉ wr → b ≠ S → s.heap.get? b = some o → (h'.update S (Obj.mapSeq fun _ => #[v, v])).get? b = some o := fun b o hbw hbS e => (Heap.get?_update_other _ _ (Ne.symm hbS)).trans (hk' b o hbw e)
  refine wpAny_pure ⟨plainId_quiet F.plain_min_loop _, min_mid W hSf hP1 (W.frame _ _ _ hst' fun b hbf o e => ?_) (Heap.get?_update_self _ hS' rfl) (fun s' Q E hk hq => hcmp s' Q E (fun b o hbw hbS e => hk b o hbw hbS (kk b o hbw hbS e)) hq) fun h'' tk'' hk'' => ?_⟩
  · exact (Heap.get?_update_other _ _ (fun h : S = b => hSf (by rw [h]; exact hbf))).trans e
  · exact hR h'' tk'' fun b o hbw hbS e => hk'' b o hbw hbS (kk b o hbw hbS e)
theorem max_end (W : Walks prog w A.in1 I fp wr 2 P St) {S : Addr} (hSf : S ∉ fp) {s : Shared} {vb : Value} {c : Nat} (hst : St 2 s.heap) (hS : s.heap.get? S = some { cls := .type "list", dict := none, data := .seq #[vb, vb] c, slots := #[] })
    (hR : ∀ h' tk, (∀ b o, b ∉ wr → b ≠ S → s.heap.get? b = some o → h'.get? b = some o) → R (.ok (.ret vb)) { s with heap := h', toks := tk }) :
    codeAny (model prog w) A (.builtin "max.loop" ⟨[.ref I, .none, .ref S], []⟩) R s := by
  have hSw : S ∉ wr := fun h => hSf (W.sub _ h)
  refine codeAny_builtin F.entry_max_loop ?_
  rw [Around.under_plainId F.plain_max_loop _]
  show wpAny _ A.in1 (seqItems? (.ref S) >>= _) _ _ s
  refine wpAny_bind (wpAny_seqItems hS rfl ?_)
  show wpAny _ A.in1 (tryCatch (pyNext (.ref I)) _ >>= _) _ _ s
  refine wpAny_bind (wpAny_tryCatch (W.done s _ _ hst fun h' tk hk' => ?_))
  have hS' := hk' S _ hSw hS
  show wpAny _ A.in1 (updateSeq S (fun _ => #[]) >>= _) _ _ _
  refine wpAny_bind ?_
  refine wpAny_updateSeq hS' rfl (wpAny_bind (wpAny_letGo (wpAny_pure ?_)))
  exact hR _ tk fun b o hbw hbS e => (Heap.get?_update_other _ _ (Ne.symm hbS)).trans (hk' b o hbw e)
theorem max_mid (W : Walks prog w A.in1 I fp wr 2 P St) {S : Addr} (hSf : S ∉ fp) {s : Shared} {x y : Value} {c : Nat} {bt : Bool} (hP1 : ∀ v, P 1 v → v = y) (hst : St 1 s.heap) (hS : s.heap.get? S = some { cls := .type "list", dict := none, data := .seq #[x, x] c, slots := #[] })
    (hcmp : ∀ (s' : Shared) (Q E : Value → Shared → Prop), (∀ b o, b ∉ wr → b ≠ S → s.heap.get? b = some o → s'.heap.get? b = some o) → Q (.bool bt) s' → wpAny (model prog w) A.in1 (richCompare .Gt y x) Q E s')
    (hR : ∀ h' tk, (∀ b o, b ∉ wr → b ≠ S → s.heap.get? b = some o → h'.get? b = some o) → R (.ok (.ret (if bt = true then y else x))) { s with heap := h', toks := tk }) :
    codeAny (model prog w) A (.builtin "max.loop" ⟨[.ref I, .none, .ref S], []⟩) R s := by
  have hSw : S ∉ wr := fun h => hSf (W.sub _ h)
  have hname : (toString "max" ++ toString ".loop" : String) = "max.loop" := by decide
  refine codeAny_builtin F.entry_max_loop ?_
  rw [Around.under_plainId F.plain_max_loop _]
  show wpAny _ A.in1 (seqItems? (.ref S) >>= _) _ _ s
  refine wpAny_bind (wpAny_seqItems hS rfl ?_)
  show wpAny _ A.in1 (tryCatch (pyNext (.ref I)) _ >>= _) _ _ s
  refine wpAny_bind (wpAny_tryCatch (W.item 1 s _ _ (by decide) hst fun v h' tk hP hst' hk' => ?_))
  obtain rfl := hP1 v hP
  have hS' := hk' S _ hSw hS
  show wpAny _ A.in1 (tryCatch (holding [v, v] (richCompare .Gt v x >>= _)) _ >>= _) _ _ _
  refine wpAny_bind (wpAny_tryCatch (wpAny_holding (wpAny_bind (hcmp _ _ _ (fun b o hb _ e => hk' b o hb e) ?_))))
  refine wpAny_bind (wpAny_holding (wpAny_truthy_bool ?_))
  refine wpAny_bind (wpAny_letGo (wpAny_pure ?_))
  cases bt with
  | true =>
    simp only [if_true]
    refine wpAny_bind ?_
    refine wpAny_updateSeq hS' rfl (wpAny_bind (wpAny_letGo ?_))
    rw [hname]
    refine wpAny_pure ⟨plainId_quiet F.plain_max_loop _, max_end W hSf (W.frame _ _ _ hst' fun b hbf o e => ?_) (Heap.get?_update_self _ hS' rfl) fun h'' tk'' hk'' => ?_⟩
    · exact (Heap.get?_update_other _ _ (fun h : S = b => hSf (by rw [h]; exact hbf))).trans e
    · exact hR h'' tk'' fun b o hbw hbS e => hk'' b o hbw hbS ((Heap.get?_update_other _ _ (Ne.symm hbS)).trans (hk' b o hbw e))
  | false =>
    simp only [Bool.false_eq_true, if_false]
    refine wpAny_bind (wpAny_letGo ?_)
    rw [hname]
    exact wpAny_pure ⟨plainId_quiet F.plain_max_loop _, max_end W hSf hst' hS' fun h'' tk'' hk'' => hR h'' tk'' fun b o hbw hbS e => hk'' b o hbw hbS (hk' b o hbw e)⟩
theorem max_first (W : Walks prog w A.in1 I fp wr 2 P St) {S : Addr} (hSf : S ∉ fp) {s : Shared} {x y : Value} {c : Nat} {bt : Bool} (hP0 : ∀ v, P 0 v → v = x) (hP1 : ∀ v, P 1 v → v = y) (hst : St 0 s.heap) (hS : s.heap.get? S = some { cls := .type "list", dict := none, data := .seq #[] c, slots := #[] })
    (hcmp : ∀ (s' : Shared) (Q E : Value → Shared → Prop), (∀ b o, b ∉ wr → b ≠ S → s.heap.get? b = some o → s'.heap.get? b = some o) → Q (.bool bt) s' → wpAny (model prog w) A.in1 (richCompare .Gt y x) Q E s')
    (hR : ∀ h' tk, (∀ b o, b ∉ wr → b ≠ S → s.heap.get? b = some o → h'.get? b = some o) → R (.ok (.ret (if bt = true then y else x))) { s with heap := h', toks := tk }) :
    codeAny (model prog w) A (.builtin "max.loop" ⟨[.ref I, .none, .ref S], []⟩) R s := by
  have hSw : S ∉ wr := fun h => hSf (W.sub _ h)
  have hname : (toString "max" ++ toString ".loop" : String) = "max.loop" := by decide
  refine codeAny_builtin F.entry_max_loop ?_
  rw [Around.under_plainId F.plain_max_loop _]
  show wpAny _ A.in1 (seqItems? (.ref S) >>= _) _ _ s
  refine wpAny_bind (wpAny_seqItems hS rfl ?_)
  show wpAny _ A.in1 (tryCatch (pyNext (.ref I)) _ >>= _) _ _ s
  refine wpAny_bind (wpAny_tryCatch (W.item 0 s _ _ (by decide) hst fun v h' tk hP hst' hk' => ?_))
  obtain rfl := hP0 v hP
  have hS' := hk' S _ hSw hS
  show wpAny _ A.in1 (updateSeq S (fun _ => #[v, v]) >>= _) _ _ _
  refine wpAny_bind ?_
  refine wpAny_updateSeq hS' rfl ?_
  rw [hname]
  have kk : ∀ b o, b ∉ wr → b ≠ S → s.heap.get? b = some o → (h'.update S (Obj.mapSeq fun _ => #[v, v])).get? b = some o := fun b o hbw hbS e => (Heap.get?_update_other _ _ (Ne.symm hbS)).trans (hk' b o hbw e)
  refine wpAny_pure ⟨plainId_quiet F.plain_max_loop _, max_mid W hSf hP1 (W.frame _ _ _ hst' fun b hbf o e => ?_) (Heap.get?_update_self _ hS' rfl) (fun s' Q E hk hq => hcmp s' Q E (fun b o hbw hbS e => hk b o hbw hbS (kk b o hbw hbS e)) hq) fun h'' tk'' hk'' => ?_⟩
  · exact (Heap.get?_update_other _ _ (fun h : S = b => hSf (by rw [h]; exact hbf))).trans e
  · exact hR h'' tk'' fun b o hbw hbS e => hk'' b o hbw hbS (kk b o hbw hbS e)
end
end
-- Mq168
section
set_option maxRecDepth 100000
section
variable {prog : Program} {w : World} {A : Around} {E : Value → Shared → Prop} {s : Shared} {g : Heap} {env : Env} {m : PySem.Str → Option Value} {nx : List (Addr × Obj)}
theorem call_min2 {l a b : Addr} {va vb : List Value} {na nb : Nat} {xs ys : List PySem.Str} {N : Nat} {p q : PySem.Str} {Q : Value → Shared → Prop} (S : St g env s.heap m nx) (hh : A.handled = none) (hu : A.units + 1 < cLine) (hl : g.IsList l #[.ref a, .ref b]) (ha : g.get? a = some (listOf va.toArray na)) (hb : g.get? b = some (listOf vb.toArray nb))
    (hx : StrsAre va xs) (hy : StrsAre vb ys) (hN : ∀ j, j < N → xs[j]? = ys[j]?) (hp : xs[N]? = some p) (hq : ys[N]? = some q) (hpq : p ≠ q) (hbt : decide (q.cps.toList < p.cps.toList) = false)
    (h : ∀ h' tk, St g env h' m nx → Q (.ref a) { s with heap := h', toks := tk }) : wpAny (model prog w) A (call (.builtin "min") [.ref l]) Q E s := by
  have hname : (toString "min" ++ toString ".loop" : String) = "min.loop" := by decide
  have hl' : s.heap.IsList l #[.ref a, .ref b] := let ⟨o, ho, r⟩ := hl; ⟨o, S.keep _ _ ho, r⟩
  have hne : l ≠ s.heap.objs.size := by obtain ⟨o, ho, _⟩ := hl'; exact Nat.ne_of_lt (Heap.lt_size ho)
  refine call_function_tree F.kind_min F.plain_min F.entry_min (F.args_min1 _) ?_
  show wpAny _ A.in1 (Builtin.Builtins.bindParams "min" ["key", "default"] 0 ⟨[], []⟩ >>= _) _ _ s
  refine wpAny_bind (wpAny_of_eq (show Builtin.Builtins.bindParams "min" ["key", "default"] 0 ⟨[], []⟩ = pure [none, none] from rfl) ?_)
  refine wpAny_bind (wpAny_pure ?_)
  refine wpAny_bind (wpAny_pyIter_list hl' ?_)
  refine wpAny_bind (wpAny_newObj_type ?_)
  rw [hname]
  have W := Walks.list (prog := prog) (w := w) (A := A.in1) hh s.heap.objs.size l hne #[.ref a, .ref b]
  have hlt : ∀ c o, s.heap.get? c = some o → c ∉ [s.heap.objs.size] := fun c o e hm => Nat.lt_irrefl _ ((List.mem_singleton.mp hm) ▸ Heap.lt_size e)
  have hP : ∀ o1 : Obj, (s.heap.push o1).objs.size = s.heap.objs.size + 1 := fun o1 => Heap.size_push _ _
  generalize ho1 : ({ cls := .type "list_iterator", data := .fields #[.ref l, .int 0 0] } : Obj) = o1
  have hl2 : ∀ c o, s.heap.get? c = some o → c ≠ (s.heap.push o1).objs.size := fun c o e q => by
    have := Heap.lt_size e
    rw [q, hP] at this; exact absurd this (Nat.not_lt.mpr (Nat.le_succ _))
  have st0 : ((s.heap.push o1).push { cls := .type "list", dict := none, data := .seq #[] }).IsListIter s.heap.objs.size l 0 ∧ ((s.heap.push o1).push { cls := .type "list", dict := none, data := .seq #[] }).IsList l #[.ref a, .ref b] := by
    subst ho1
    exact ⟨⟨_, Heap.get?_push_of_some _ (Heap.get?_push_size _ rfl), rfl, rfl⟩, let ⟨o, ho, r⟩ := hl'; ⟨o, Heap.get?_push_of_some _ (Heap.get?_push_of_some _ ho), r⟩⟩
  have hSf : (s.heap.push o1).objs.size ∉ [s.heap.objs.size, l] := fun hm => by
    rcases List.mem_cons.mp hm with e | hm
    · rw [hP] at e; exact absurd e (Nat.succ_ne_self _)
    · obtain ⟨o, ho, _⟩ := hl'
      exact hl2 _ _ ho (List.mem_singleton.mp hm).symm
  refine wpAny_pure ⟨plainId_quiet F.plain_min_loop _, min_first (x := .ref a) (y := .ref b) (bt := false) W hSf (fun v e => (Option.some.inj e).symm) (fun v e => (Option.some.inj e).symm) st0 (Heap.get?_push_size _ rfl) (fun s' Q E hk hq' => ?_) fun h' tk k => ?_⟩
  · have up : ∀ c o, g.get? c = some o → s'.heap.get? c = some o := fun c o e => hk c o (hlt c o (S.keep _ _ e)) (hl2 c o (S.keep _ _ e)) (Heap.get?_push_of_some _ (Heap.get?_push_of_some _ (S.keep _ _ e)))
    refine richCompare_meets_room (op := .Lt) ⟨_, up _ _ hb, rfl⟩ ⟨_, up _ _ ha, rfl⟩ F.slot_list_lt F.entry_list_lt (F.args_list_lt_2 _ _) (list_lt hy hx (fun j hj => (hN j hj).symm) hq hp (Ne.symm hpq)) ⟨up _ _ hb, up _ _ ha, (fun e => nomatch e), ?_⟩ hu
    rw [hbt]; exact hq'
  · exact h h' tk (S.kept fun c o e => k c o (hlt c o e) (hl2 c o e) (Heap.get?_push_of_some _ (Heap.get?_push_of_some _ e)))
theorem call_max2 {l a b : Addr} {va vb : List Value} {na nb : Nat} {xs ys : List PySem.Str} {N : Nat} {p q : PySem.Str} {Q : Value → Shared → Prop} (S : St g env s.heap m nx) (hh : A.handled = none) (hu : A.units + 1 < cLine) (hl : g.IsList l #[.ref a, .ref b]) (ha : g.get? a = some (listOf va.toArray na)) (hb : g.get? b = some (listOf vb.toArray nb))
    (hx : StrsAre va xs) (hy : StrsAre vb ys) (hN : ∀ j, j < N → xs[j]? = ys[j]?) (hp : xs[N]? = some p) (hq : ys[N]? = some q) (hpq : p ≠ q) (hbt : decide (p.cps.toList < q.cps.toList) = true)
    (h : ∀ h' tk, St g env h' m nx → Q (.ref b) { s with heap := h', toks := tk }) : wpAny (model prog w) A (call (.builtin "max") [.ref l]) Q E s := by
  have hname : (toString "max" ++ toString ".loop" : String) = "max.loop" := by decide
  have hl' : s.heap.IsList l #[.ref a, .ref b] := let ⟨o, ho, r⟩ := hl; ⟨o, S.keep _ _ ho, r⟩
  have hne : l ≠ s.heap.objs.size := by obtain ⟨o, ho, _⟩ := hl'; exact Nat.ne_of_lt (Heap.lt_size ho)
  refine call_function_tree F.kind_max F.plain_max F.entry_max (F.args_max1 _) ?_
  show wpAny _ A.in1 (Builtin.Builtins.bindParams "max" ["key", "default"] 0 ⟨[], []⟩ >>= _) _ _ s
  refine wpAny_bind (wpAny_of_eq (show Builtin.Builtins.bindParams "max" ["key", "default"] 0 ⟨[], []⟩ = pure [none, none] from rfl) ?_)
  refine wpAny_bind (wpAny_pure ?_)
  refine wpAny_bind (wpAny_pyIter_list hl' ?_)
  refine wpAny_bind (wpAny_newObj_type ?_)
  rw [hname]
  have W := Walks.list (prog := prog) (w := w) (A := A.in1) hh s.heap.objs.size l hne #[.ref a, .ref b]
  have hlt : ∀ c o, s.heap.get? c = some o → c ∉ [s.heap.objs.size] := fun c o e hm => Nat.lt_irrefl _ ((List.mem_singleton.mp hm) ▸ Heap.lt_size e)
  have hP : ∀ o1 : Obj, (s.heap.push o1).objs.size = s.heap.objs.size + 1 := fun o1 => Heap.size_push _ _
  generalize ho1 : ({ cls := .type "list_iterator", data := .fields #[.ref l, .int 0 0] } : Obj) = o1
  have hl2 : ∀ c o, s.heap.get? c = some o → c ≠ (s.heap.push o1).objs.size := fun c o e q => by
    have := Heap.lt_size e
    rw [q, hP] at this; exact absurd this (Nat.not_lt.mpr (Nat.le_succ _))
  have st0 : ((s.heap.push o1).push { cls := .type "list", dict := none, data := .seq #[] }).IsListIter s.heap.objs.size l 0 ∧ ((s.heap.push o1).push { cls := .type "list", dict := none, data := .seq #[] }).IsList l #[.ref a, .ref b] := by
    subst ho1
    exact ⟨⟨_, Heap.get?_push_of_some _ (Heap.get?_push_size _ rfl), rfl, rfl⟩, let ⟨o, ho, r⟩ := hl'; ⟨o, Heap.get?_push_of_some _ (Heap.get?_push_of_some _ ho), r⟩⟩
  have hSf : (s.heap.push o1).objs.size ∉ [s.heap.objs.size, l] := fun hm => by
    rcases List.mem_cons.mp hm with e | hm
    · rw [hP] at e; exact absurd e (Nat.succ_ne_self _)
    · obtain ⟨o, ho, _⟩ := hl'
      exact hl2 _ _ ho (List.mem_singleton.mp hm).symm
  refine wpAny_pure ⟨plainId_quiet F.plain_max_loop _, max_first (x := .ref a) (y := .ref b) (bt := true) W hSf (fun v e => (Option.some.inj e).symm) (fun v e => (Option.some.inj e).symm) st0 (Heap.get?_push_size _ rfl) (fun s' Q E hk hq' => ?_) fun h' tk k => ?_⟩
  · have up : ∀ c o, g.get? c = some o → s'.heap.get? c = some o := fun c o e => hk c o (hlt c o (S.keep _ _ e)) (hl2 c o (S.keep _ _ e)) (Heap.get?_push_of_some _ (Heap.get?_push_of_some _ (S.keep _ _ e)))
    refine richCompare_meets_room (op := .Gt) ⟨_, up _ _ hb, rfl⟩ ⟨_, up _ _ ha, rfl⟩ F.slot_list_gt F.entry_list_gt (F.args_list_gt_2 _ _) (list_gt hy hx (fun j hj => (hN j hj).symm) hq hp (Ne.symm hpq)) ⟨up _ _ hb, up _ _ ha, (fun e => nomatch e), ?_⟩ hu
    rw [hbt]; exact hq'
  · exact h h' tk (S.kept fun c o e => k c o (hlt c o e) (hl2 c o e) (Heap.get?_push_of_some _ (Heap.get?_push_of_some _ e)))
end
end
-- Bo168
section
set_option maxRecDepth 100000 in
set_option maxHeartbeats 4000000 in
theorem both_spec {w : World} {A : Around} {s : Shared} {g : Heap} {lw : Addr} {u v : List Nat} {tu tv : Tok} {N : Nat} {Q : Value → Shared → Prop} (R : Rm A 1) (G : Gd w g) (st : g.StaysIn s.heap)
    (hw : LL s.heap lw [.str (T u) tu, .str (T v) tv]) (hu : u.length < 100) (hv : v.length < 100) (hN : N < 100) (h1 : ∀ k, k < N → u.take (k + 1) = v.take (k + 1)) (h2 : u.take (N + 1) ≠ v.take (N + 1))
    (hQ : ∀ h' tk' t, s.heap.StaysIn h' → Q (.str (way (u.take N)) t) { s with heap := h', toks := tk' }) :
    wpAny (model PG w) A (call (.ref 217) [.ref lw]) Q NoE s := by
  refine enter (binds := [("words", .ref lw)]) [] G st (by simp) (by simp) (by k_dflt k_is) (by k_dflt k_is) R.room (BindsTo.of_eq rfl) rfl (by decide) (by decide) ?_ rfl rfl rfl
  intro g' L h₁ tk G' hk S
  have zB : Base s := trivial
  have R' : ∀ env, Rm (A.deeper env) 0 := fun _ => R.deeper
  have hext : ∀ h', g'.StaysIn h' → s.heap.StaysIn h' := fun h' k b o e => k b o (hk b o (by simp) e)
  have hkg : s.heap.StaysIn g' := fun b o e => hk b o (by simp) e
  have hfr : ∀ a, g'.get? a = none → s.heap.get? a = none := fun a e => by
    cases q : s.heap.get? a with
    | none => rfl
    | some o => rw [hk a o (by simp) q] at e; cases e
  clear st R hk
  dsimp only [bindAll, List.foldl_cons, List.foldl_nil] at S
  have hw' : LL g' lw _ := hw.up hkg
  clear hw
  k_steps
  rename St _ _ _ _ _ => zS
  refine while_st (fun n' m₂ g₂ nx₂ => ∃ (c : Nat) (t : Tok), n' + c = N ∧ nx₂ = [] ∧ HasAll m₂ [("words", .ref lw), ("count", .int c t)]) (n₀ := N) zS ⟨0, _, rfl, rfl, rfl, rfl, trivial⟩ ?_
  clear zS
  rintro n' m₂ g₃ nx₃ h₃ tk₃ kg3 S ⟨c, t, hc, rfl, e⟩
  replace S := S.norm e
  dsimp only [putAll, List.foldr_cons, List.foldr_nil] at S
  have hw3 : LL g₃ lw _ := hw'.up kg3
  k_steps
  rename St _ _ _ _ _ => zS
  refine item_listL (hw3.up zS.keep).is (by exact om21) (by exact om20) rfl ?_
  k_steps
  rename St _ _ _ _ _ => zS
  refine sl_to (n := c + 1) zS (by exact om25) ?_ (by with_unfolding_all rfl) (by intro _; with_unfolding_all rfl) (by walk_at "m_size")
  clear zS
  intro h' t' kk S _
  k_steps
  rename St _ _ _ _ _ => zS
  refine item_listL (hw3.up zS.keep).is (by exact om27) (by exact om26) rfl ?_
  k_steps
  rename St _ _ _ _ _ => zS
  refine sl_to (n := c + 1) zS (by exact om25) ?_ (by with_unfolding_all rfl) (by intro _; with_unfolding_all rfl) (by walk_at "m_size")
  clear zS
  intro h' t' kk S _
  try dsimp only
  have hw4 := hw3.up S.keep
  k_steps
  · rename (_ == _) = true => q
    have q' := T_inj (beq_iff_eq.mp q)
    have hcN : c ≠ N := fun e => h2 (e ▸ q')
    rename St _ _ _ _ _ => zS
    (show WPost _ _ _ _ _ _ _ _); dsimp only [WPost]
    exact ⟨_, _, _, _, _, n' - 1, rfl, kg3, zS, by exact om24 hc hcN, c + 1, _, by exact om23 hc hcN, rfl, rfl, rfl, trivial⟩
  · rename (_ == _) = false => q
    have q' : u.take (c + 1) ≠ v.take (c + 1) := fun e => by rw [e, beq_self_eq_true] at q; exact Bool.noConfusion q
    have hcN : c = N := Classical.byContradiction fun e => q' (h1 c (by exact om22 hc e))
    subst hcN
    rename St _ _ _ _ _ => zS
    refine item_listL (hw3.up zS.keep).is (by exact om21) (by exact om20) rfl ?_
    k_steps
    rename St _ _ _ _ _ => zS
    refine sl_to (n := c) zS rfl ?_ (by with_unfolding_all rfl) (by intro _; with_unfolding_all rfl) (by walk_at "m_size")
    clear zS
    intro h' t' kk S _
    k_steps
    rename St _ _ _ _ _ => zS
    have hjw := join_way (u.take c)
    have hul : (u.take c).length ≤ 100 := by rw [List.length_take]; exact om19 hu
    generalize u.take c = uc at hjw hul hQ ⊢
    refine join_str zS (R' _).hand (by simp; exact om18 hul) (by decide) ?_
    clear zS
    intro h' tk t' S _
    rw [show (T uc).cps.toList = uc by simp]
    k_steps
    rw [hjw.1]
    exact hQ _ _ _ (hext _ fun b o e => S.keep _ _ (kg3 _ _ e))
end
-- Mpa168
section
open PySem PySem.W PyProof.Rows PySem.Calls PySem.Builtin
set_option maxRecDepth 100000
theorem mro_map : mroOf (.type "map") = pure [.type "map", .type "object"] := by rw [mroOf_type]; kernel_rfl
theorem lookup_map_new : typeLookup (.type "map") "__new__" = pure (some (.builtin "map.__new__")) := by rw [typeLookup_type, builtinLookup_eq_fast]; kernel_rfl
theorem slot_map_init : Slot "map" "__init__" "object.__init__" :=
  .of (owner := "object") (n := "__init__") (by rw [typeLookup_type, builtinLookup_eq_fast]; kernel_rfl) (by decide +kernel) (by decide +kernel) (by decide +kernel)
    (by first | exact .inl (by decide +kernel) | exact .inr (by decide +kernel)) (by rw [isSubtype_type]; kernel_rfl)
theorem called_map : TypeCalled "map" "map.__new__" "object.__init__" :=
  ⟨by decide +kernel, by decide +kernel, ⟨_, _, mro_map⟩, madeBy_type mro_map lookup_map_new (by decide +kernel), by decide +kernel, by rw [isSubtype_type]; kernel_rfl, slot_map_init⟩
theorem typeCall_map_2 (a b : Value) : checkTypeCall "map" ⟨[a, b], []⟩ = pure () := by kernel_rfl
theorem newCall_map_2 (a b : Value) : checkBuiltinCall "map.__new__" ⟨[.type "map", a, b], []⟩ = pure () := by kernel_rfl
theorem entry_map_new : entryFor table "map.__new__" = some Builtin.«map.__new__» := entryFor_of_tree (by kernel_rfl)
theorem slot_map_next : Slot "map" "__next__" "map.__next__" :=
  .of (owner := "map") (n := "__next__") (by rw [typeLookup_type, builtinLookup_eq_fast]; kernel_rfl) (by decide +kernel) (by decide +kernel) (by decide +kernel)
    (by first | exact .inl (by decide +kernel) | exact .inr (by decide +kernel)) (by rw [isSubtype_type]; kernel_rfl)
theorem entry_map_next : entryFor table "map.__next__" = some Builtin.«map.__next__» := entryFor_of_tree (by kernel_rfl)
theorem args_map_next (a : Value) : argsOk "map.__next__" ⟨[a], []⟩ := by unfold argsOk; kernel_rfl
theorem slot_map_iter : Slot "map" "__iter__" "map.__iter__" :=
  .of (owner := "map") (n := "__iter__") (by rw [typeLookup_type, builtinLookup_eq_fast]; kernel_rfl) (by decide +kernel) (by decide +kernel) (by decide +kernel)
    (by first | exact .inl (by decide +kernel) | exact .inr (by decide +kernel)) (by rw [isSubtype_type]; kernel_rfl)
theorem entry_map_iter : entryFor table "map.__iter__" = some Builtin.«dict_keyiterator.__iter__» :=
  entryFor_alias (id' := "dict_keyiterator.__iter__") (by kernel_rfl) (by first | rfl | decide +kernel) (by decide +kernel) (by kernel_rfl)
theorem args_map_iter (a : Value) : argsOk "map.__iter__" ⟨[a], []⟩ := by unfold argsOk; kernel_rfl
theorem map_no_len : typeLookup (.type "map") "__len__" = pure none := by rw [typeLookup_type, builtinLookup_eq_fast]; kernel_rfl
theorem map_no_hint : typeLookup (.type "map") "__length_hint__" = pure none := by rw [typeLookup_type, builtinLookup_eq_fast]; kernel_rfl
noncomputable abbrev mapH1 (h : Heap) (l : Addr) : Heap := h.push { cls := .type "list_iterator", data := .fields #[.ref l, .int 0 0] }
noncomputable abbrev mapH2 (h : Heap) (l : Addr) : Heap := (mapH1 h l).push { cls := .type "tuple", data := .seq #[.ref h.objs.size] }
noncomputable abbrev mapO (T : Addr) (f : Value) : Obj := { cls := .type "map", data := .fields #[.ref T, f] }
theorem map_new (f : Value) (l : Addr) (vs : Array Value) : Meets (Builtin.«map.__new__» ⟨[.type "map", f, .ref l], []⟩) (fun _ R s => s.heap.IsList l vs ∧
    R (.ok (.ret (.ref (mapH2 s.heap l).objs.size))) { s with heap := (mapH2 s.heap l).push (mapO (mapH1 s.heap l).objs.size f) }) := by
  intro prog w A R s h
  obtain ⟨hl, h⟩ := h
  have hsub := called_map.sub
  obtain ⟨hp, g, d, tk, os⟩ := s
  wp_walk using (wpAny_pyIter_list hl)
  exact h
end
-- Mpb168
section
open PySem PySem.W PyProof.Rows PySem.Calls PySem.Builtin PySem.Builtin.SmallTypes
set_option maxRecDepth 100000
section
variable {prog : Program} {w : World} {A : Around} {E : Value → Shared → Prop} {s : Shared} {g : Heap} {env : Env} {m : Str → Option Value} {nx : List (Addr × Obj)}
theorem call_map {f : Value} {l : Addr} {vs : Array Value} {Q : Value → Shared → Prop} (S : St g env s.heap m nx) (hl : s.heap.IsList l vs)
    (h : ∀ I T M h', St g env h' m ((I, { cls := .type "list_iterator", data := .fields #[.ref l, .int 0 0] }) :: nx) → s.heap.StaysIn h' → s.heap.get? I = none → s.heap.get? T = none → s.heap.get? M = none → I ≠ T → I ≠ M → h'.get? M = some (mapO T f) → h'.IsTuple T #[.ref I] → h'.IsListIter I l 0 → Q (.ref M) { s with heap := h' }) :
    wpAny (model prog w) A (call (.type "map") [f, .ref l]) Q E s := by
  have hno : ∀ (h : Heap) (a : Addr), h.objs.size ≤ a → h.get? a = none := fun h a ha => by cases q : h.get? a with | none => rfl | some o => exact absurd (Heap.lt_size q) (Nat.not_lt.mpr ha)
  have e1 : (mapH1 s.heap l).objs.size = s.heap.objs.size + 1 := Heap.size_push _ _
  have e2 : (mapH2 s.heap l).objs.size = s.heap.objs.size + 1 + 1 := by rw [Heap.size_push, e1]
  have hM : ((mapH2 s.heap l).push (mapO (mapH1 s.heap l).objs.size f)).get? (mapH2 s.heap l).objs.size = some (mapO (mapH1 s.heap l).objs.size f) := Heap.get?_push_size _ rfl
  refine callType_new called_map (by decide) (typeCall_map_2 _ _) (newCall_map_2 _ _) (fun obj => F.initArgs_range_2 obj _ _) entry_map_new (map_new f l vs) ⟨hl, ⟨_, hM, rfl⟩, ?_⟩
  have k : s.heap.StaysIn ((mapH2 s.heap l).push (mapO (mapH1 s.heap l).objs.size f)) := fun b o e => Heap.get?_push_of_some _ (Heap.get?_push_of_some _ (Heap.get?_push_of_some _ e))
  refine h s.heap.objs.size (mapH1 s.heap l).objs.size (mapH2 s.heap l).objs.size _ ((S.push { cls := .type "list_iterator", data := .fields #[.ref l, .int 0 0] } rfl).kept fun b o e => Heap.get?_push_of_some _ (Heap.get?_push_of_some _ e)) k (hno _ _ (Nat.le_refl _)) (hno _ _ (by rw [e1]; exact Nat.le_succ _)) (hno _ _ (by rw [e2]; exact Nat.le_succ_of_le (Nat.le_succ _))) (by rw [e1]; exact Nat.ne_of_lt (Nat.lt_succ_self _)) (by rw [e2]; exact Nat.ne_of_lt (Nat.lt_succ_of_lt (Nat.lt_succ_self _))) hM ?_ ?_
  · exact ⟨_, Heap.get?_push_of_some _ (Heap.get?_push_size _ rfl), rfl, 0, rfl⟩
  · exact ⟨_, Heap.get?_push_of_some _ (Heap.get?_push_of_some _ (Heap.get?_push_size _ rfl)), rfl, rfl⟩
end
theorem Rm.in1 {A : Around} {k : Nat} (r : Rm A (k + 1)) : Rm A.in1 k := ⟨r.hand, by have := r.dep; show A.depth + k ≤ 900; exact om314 this, by have := r.uni; show A.units + 1 + 10 * k ≤ 9000; exact om313 this⟩
/-- the state of a map over a list of texts -/
noncomputable def MapSt (g : Heap) (M TT I l : Addr) (vs : Array Value) (i : Nat) (h : Heap) : Prop := h.get? M = some (mapO TT (.ref 129)) ∧ h.IsTuple TT #[.ref I] ∧ h.IsListIter I l i ∧ h.IsList l vs ∧ g.StaysIn h
section
variable {prog : Program} {w : World} {A : Around} {E : Value → Shared → Prop} {s : Shared} {g : Heap}
theorem li_end {it l : Addr} {i : Nat} {items : Array Value} {Q : Value → Shared → Prop} (hh : A.handled = none) (hit : s.heap.IsListIter it l i) (hl : s.heap.IsList l items) (hx : items[i]? = none)
    (hE : ∀ h' e, Heap.ExtBut it s.heap h' → Shared.TypeIs { s with heap := h' } e "StopIteration" → E e { s with heap := h' }) : wpAny (model prog w) A (nextOf (.ref it)) Q E s :=
  wpAny_nextOf_list_end hh hit hl hx fun h' e k t => hE h' (.ref e) k t
end
section
variable {w : World} {A : Around} {E : Value → Shared → Prop} {s : Shared} {g : Heap}
theorem map_next {M TT I l : Addr} {vs : List Value} {us : List (List Nat)} {i : Nat} {Q : Option Value → Shared → Prop} (R : Rm A 6) (G : Gd w g) (hMI : M ≠ I) (hTI : TT ≠ I) (hlI : l ≠ I) (hgI : g.get? I = none) (hi : TsAre vs us) (st : MapSt g M TT I l vs.toArray i s.heap) (hlt : i < us.length)
    (h : ∀ u t h' tk, us[i]? = some u → MapSt g M TT I l vs.toArray (i + 1) h' → (∀ b o, b ≠ I → s.heap.get? b = some o → h'.get? b = some o) → Q (some (.str (T u) t)) { s with heap := h', toks := tk }) : wpAny (model PG w) A (pyNext (.ref M)) Q E s := by
  obtain ⟨hM, hT, hI, hl, hg⟩ := st
  obtain ⟨oT, hoT, hcT, nT, hdT⟩ := id hT
  obtain ⟨u, hu⟩ : ∃ u, us[i]? = some u := get_some hlt
  obtain ⟨t, hv⟩ := tsAre_get hi hu
  have hTy : s.TypeIs (.ref M) "map" := ⟨_, hM, rfl⟩
  unfold pyNext
  refine wpAny_bind (wpAny_attempt (wpAny_callSpecial?_slot (name := PySem.Str.ofString "__next__") hTy slot_map_next
    (wpAny_call_entry slot_map_next hTy entry_map_next ?_ (args_map_next _))))
  show wpAny _ _ (field (.ref M) 0 >>= _) _ _ s
  refine wpAny_bind (wpAny_field hM rfl (x := .ref TT) rfl ?_)
  show wpAny _ _ (seqItems? (.ref TT) >>= _) _ _ s
  refine wpAny_bind (wpAny_seqItems hoT hdT ?_)
  dsimp only
  refine wpAny_bind ?_
  rw [← Array.forIn_toList]
  simp only [List.forIn_cons, List.forIn_nil]
  refine wpAny_bind (wpAny_bind (wpAny_holding (wpAny_nextOf_list_item hI hl (x := .str (T u) t) (by simpa using hv) fun h' hI' hsb => ?_)))
  refine wpAny_pure ?_
  refine wpAny_pure ?_
  have k1 : ∀ b o, b ≠ I → s.heap.get? b = some o → h'.get? b = some o := fun b o hb e => hsb.extBut b o hb e
  have hM' := k1 _ _ hMI hM
  have hg' : g.StaysIn h' := fun b o e => k1 b o (fun q => by rw [q, hgI] at e; cases e) (hg b o e)
  refine wpAny_bind (wpAny_field hM' rfl (x := .ref 129) rfl ?_)
  refine wpAny_bind (wpAny_holding ?_)
  show wpAny _ _ (call (.ref 129) [.str (T u) t]) _ _ _
  refine wpAny_mono (fspath_spec (R.in1.less (by exact om312)) G hg' fun h'' tk k => ?_) (fun _ _ q => q) fun _ _ q => q.elim
  refine wpAny_bind (wpAny_letGo ?_)
  refine wpAny_pure ⟨_, rfl, wpAny_pure (h u t h'' tk hu ⟨k _ _ hM', ?_, ?_, ?_, fun b o e => k _ _ (hg' b o e)⟩ fun b o hb e => k _ _ (k1 b o hb e))⟩
  · exact ⟨oT, k _ _ (k1 _ _ hTI hoT), hcT, nT, hdT⟩
  · obtain ⟨o, ho, r⟩ := hI'; exact ⟨o, k _ _ ho, r⟩
  · obtain ⟨o, ho, r⟩ := hl; exact ⟨o, k _ _ (k1 _ _ hlI ho), r⟩
theorem map_end {M TT I l : Addr} {vs : List Value} {i : Nat} {Q : Option Value → Shared → Prop} (R : Rm A 6) (st : MapSt g M TT I l vs.toArray i s.heap) (hx : vs[i]? = none)
    (h : ∀ h', (∀ b o, b ≠ I → s.heap.get? b = some o → h'.get? b = some o) → Q none { s with heap := h' }) : wpAny (model PG w) A (pyNext (.ref M)) Q E s := by
  obtain ⟨hM, hT, hI, hl, hg⟩ := st
  obtain ⟨oT, hoT, hcT, nT, hdT⟩ := id hT
  have hTy : s.TypeIs (.ref M) "map" := ⟨_, hM, rfl⟩
  unfold pyNext
  refine wpAny_bind (wpAny_attempt (wpAny_callSpecial?_slot (name := PySem.Str.ofString "__next__") hTy slot_map_next
    (wpAny_call_entry slot_map_next hTy entry_map_next ?_ (args_map_next _))))
  show wpAny _ _ (field (.ref M) 0 >>= _) _ _ s
  refine wpAny_bind (wpAny_field hM rfl (x := .ref TT) rfl ?_)
  show wpAny _ _ (seqItems? (.ref TT) >>= _) _ _ s
  refine wpAny_bind (wpAny_seqItems hoT hdT ?_)
  dsimp only
  refine wpAny_bind ?_
  rw [← Array.forIn_toList]
  simp only [List.forIn_cons, List.forIn_nil]
  refine wpAny_bind (wpAny_bind (wpAny_holding (li_end R.in1.hand hI hl (by simpa using hx) fun h' e hb ht => ?_)))
  refine wpAny_bind (wpAny_isInstance (b := true) ht isSubtype_stop ?_)
  exact wpAny_pure (h h' fun b o hb' e => hb b o hb' e)
theorem map_walks {M TT I l : Addr} {vs : List Value} {us : List (List Nat)} (R : Rm A 6) (G : Gd w g) (hMI : M ≠ I) (hTI : TT ≠ I) (hlI : l ≠ I) (hgI : g.get? I = none) (hi : TsAre vs us) :
    Walks PG w A M (M :: TT :: I :: l :: (List.range g.objs.size).filter fun b => (g.get? b).isSome) [I] us.length (fun i v => ∃ u t, us[i]? = some u ∧ v = .str (T u) t) (fun i h => MapSt g M TT I l vs.toArray i h) where
  sub := fun b hb => by rw [List.mem_singleton.mp hb]; simp
  frame := fun i h h' st hk => by
    obtain ⟨hM, ⟨oT, hoT, rT⟩, ⟨oI, hoI, rI⟩, ⟨ol, hol, rl⟩, hg⟩ := st
    refine ⟨hk _ (by simp) _ hM, ⟨oT, hk _ (by simp) _ hoT, rT⟩, ⟨oI, hk _ (by simp) _ hoI, rI⟩, ⟨ol, hk _ (by simp) _ hol, rl⟩, fun b o e => hk b ?_ o (hg b o e)⟩
    have := Heap.lt_size e
    simp [this, e]
  item := fun i s Q E hlt st hQ => map_next R G hMI hTI hlI hgI hi st hlt fun u t h' tk hu st' k => hQ _ h' tk ⟨u, t, hu, rfl⟩ st' fun b o hb e => k b o (by simpa using hb) e
  done := fun s Q E st hQ => map_end R st (by rw [List.getElem?_eq_none_iff, tsAre_len hi]; exact Nat.le_refl _) fun h' k => hQ h' s.toks fun b o hb e => k b o (by simpa using hb) e
  self := fun i s Q E st hQ => by
    have hTy : s.TypeIs (.ref M) "map" := ⟨_, st.1, rfl⟩
    refine wpAny_pyIter_slot hTy slot_map_iter (wpAny_call_entry slot_map_iter hTy entry_map_iter ?_ (args_map_iter _))
    show wpAny _ _ (ret (.ref M)) _ _ s
    exact wpAny_pure ⟨_, rfl, "map", _, hTy, slot_map_next.lookup, hQ⟩
end
end
-- Mpc168
section
open PySem PySem.W PyProof.Rows PySem.Calls PySem.Builtin
set_option maxRecDepth 100000
section
variable {w : World} {A : Around} {E : Value → Shared → Prop} {s : Shared} {g : Heap}
theorem collect_map {M TT I l : Addr} {vs : List Value} {us : List (List Nat)} {Q : List Value → Shared → Prop} (R : Rm A 7) (G : Gd w g) (hMI : M ≠ I) (hTI : TT ≠ I) (hlI : l ≠ I) (hgI : g.get? I = none) (hi : TsAre vs us) (st : MapSt g M TT I l vs.toArray 0 s.heap) (hz : us.length ≤ 1000)
    (hQ : ∀ h' tk acc, (∀ b o, b ≠ I → s.heap.get? b = some o → h'.get? b = some o) → ItemsOf (fun i v => ∃ u t, us[i]? = some u ∧ v = .str (T u) t) acc us.length → Q acc.toList { s with heap := h', toks := tk }) : wpAny (model PG w) A (collect (.ref M)) Q E s := by
  have W := (map_walks (A := A.in1) R.in1 G hMI hTI hlI hgI hi).toS
  have hlt : ∀ b o, s.heap.get? b = some o → b < s.heap.objs.size := fun b o e => Heap.lt_size e
  have hfp : ∀ b ∈ (M :: TT :: I :: l :: (List.range g.objs.size).filter fun b => (g.get? b).isSome), b < s.heap.objs.size := fun b hb => by
    obtain ⟨hM, ⟨oT, hoT, rT⟩, ⟨oI, hoI, rI⟩, ⟨ol, hol, rl⟩, hg⟩ := st
    rcases List.mem_cons.mp hb with rfl | hb
    · exact hlt _ _ hM
    · rcases List.mem_cons.mp hb with rfl | hb
      · exact hlt _ _ hoT
      · rcases List.mem_cons.mp hb with rfl | hb
        · exact hlt _ _ hoI
        · rcases List.mem_cons.mp hb with rfl | hb
          · exact hlt _ _ hol
          · have := (List.mem_filter.mp hb).2
            obtain ⟨o, ho⟩ := Option.isSome_iff_exists.mp this
            exact hlt _ _ (hg _ _ ho)
  generalize hF : (M :: TT :: I :: l :: (List.range g.objs.size).filter fun b => (g.get? b).isSome) = fp at W hfp
  have hMf : M ∈ fp := by rw [← hF]; exact .head _
  have hTy : ∀ i (s : Shared), MapSt g M TT I l vs.toArray i s.heap → s.TypeIs (.ref M) "map" := fun i s st => ⟨_, st.1, rfl⟩
  have hSf : s.heap.objs.size ∉ fp := fun hm => Nat.lt_irrefl _ (hfp _ hm)
  have hSI : s.heap.objs.size ≠ M := fun e => hSf (e ▸ hMf)
  unfold collect
  refine wpAny_bind (wpAny_runValue (codeAny_builtin F.entry_proto_collect ?_))
  rw [Around.under_plainId F.plain_proto_collect _]
  show wpAny _ A.in1 (newList [] >>= fun l => again (.builtin "list.__iadd__" ⟨[l, .ref M], []⟩)) _ _ s
  refine wpAny_bind (wpAny_newObj_type ?_)
  refine wpAny_pure ⟨plainId_quiet F.plain_list_iadd _, codeAny_builtin F.entry_list_iadd ?_⟩
  rw [Around.under_plainId F.plain_list_iadd _]
  have st₁ := W.frame 0 s (s.heap.push { cls := .type "list", data := .seq ([] : List Value).toArray }) s.toks st (Nat.le_refl _) fun b _ o e => Heap.get?_push_of_some _ e
  show wpAny _ A.in1 (Builtin.List.listExtendWith (.ref s.heap.objs.size) (.ref M) (.ref s.heap.objs.size)) _ _ _
  unfold Builtin.List.listExtendWith
  refine wpAny_bind (wpAny_typeOf (hTy 0 _ st₁) ?_)
  have h1 : Builtin.List.listSameRef (.ref s.heap.objs.size) (.ref M) = false := by simp [Builtin.List.listSameRef, hSI]
  have h2 : (Value.type "map" == Value.type "list") = false := by decide
  have h3 : (Value.type "map" == Value.type "tuple") = false := by decide
  simp only [h1, h2, h3, Bool.or_false, Bool.false_eq_true, if_false]
  refine wpAny_bind (W.self 0 _ _ _ st₁ ?_)
  refine wpAny_bind (wpAny_holding ?_)
  unfold Builtin.List.listLengthHint
  refine wpAny_bind (wpAny_specialOf (hTy 0 _ st₁) map_no_len ?_)
  show wpAny _ A.in1 (specialOf (Value.ref M) (PySem.Str.ofString "__length_hint__") >>= _) _ _ _
  refine wpAny_bind (wpAny_specialOf (hTy 0 _ st₁) map_no_hint ?_)
  refine wpAny_pure ?_
  show wpAny _ A.in1 (rule "list.extend.makes-room" >>= fun _ => Builtin.List.listTouch (.ref s.heap.objs.size) >>= fun _ =>
    again (.builtin "list.extend.loop" ⟨[.ref s.heap.objs.size, .ref M, .ref s.heap.objs.size], []⟩)) _ _ _
  refine wpAny_bind (wpAny_rule ?_)
  have hS₁ : (s.heap.push { cls := .type "list", data := .seq ([] : List Value).toArray }).get? s.heap.objs.size = some { cls := .type "list", data := .seq ([] : List Value).toArray } := Heap.get?_push_size _ rfl
  refine wpAny_bind ?_
  show wpAny _ A.in1 (updateSeq s.heap.objs.size (·.push .none) >>= fun _ => updateSeq s.heap.objs.size (·.pop)) _ _ _
  refine wpAny_bind (wpAny_updateSeq hS₁ rfl ?_)
  have hS₂ := Heap.get?_update_self (Obj.mapSeq (·.push Value.none)) hS₁ rfl
  refine wpAny_updateSeq hS₂ rfl ?_
  have hS₃ := Heap.get?_update_self (Obj.mapSeq (·.pop)) hS₂ rfl
  have oth : ∀ b o, b ≠ s.heap.objs.size → (s.heap.push { cls := .type "list", data := .seq ([] : List Value).toArray }).get? b = some o →
      (((s.heap.push { cls := .type "list", data := .seq ([] : List Value).toArray }).update s.heap.objs.size (Obj.mapSeq (·.push Value.none))).update s.heap.objs.size (Obj.mapSeq (·.pop))).get? b = some o :=
    fun b o hb e => (Heap.get?_update_other _ _ (Ne.symm hb)).trans ((Heap.get?_update_other _ _ (Ne.symm hb)).trans e)
  refine wpAny_pure ⟨plainId_quiet F.plain_extend_loop _, codeAny_extend_loopS W (by show _ ≤ (2 ^ 24 : Nat); exact om212 hz) _ hSf _ us.length 0 _ _ _ rfl (Nat.zero_le _)
    (W.frame 0 ({ s with heap := s.heap.push { cls := .type "list", data := .seq ([] : List Value).toArray } } : Shared) _ s.toks st₁ (Nat.le_refl _) fun b hb o e => oth b o (fun h => hSf (h ▸ hb)) e) hS₃ (ItemsOf.nil _) fun s' acc' c' hm hS' hacc => ?_⟩
  show wpAny _ A (load s.heap.objs.size >>= _) _ _ s'
  refine wpAny_bind (wpAny_load hS' ?_)
  refine wpAny_pure ?_
  obtain ⟨e1, e2, e3, e4, e5⟩ := s'
  obtain ⟨m1, m2, m3, m4, m5⟩ := hm
  simp only at m2 m3 m4
  subst m2 m3 m4
  refine hQ _ _ _ (fun b o hb e => ?_) hacc
  have hbS : b ≠ s.heap.objs.size := Nat.ne_of_lt (Heap.lt_size e)
  exact m1 b o (by simp [hb, hbS]) (oth b o hbS (Heap.get?_push_of_some _ e))
end
theorem isL_upM {g h : Heap} {l : Addr} {vs : Array Value} (hl : g.IsList l vs) (k : g.StaysIn h) : h.IsList l vs := let ⟨o, ho, r⟩ := hl; ⟨o, k _ _ ho, r⟩
theorem ts_of : ∀ (vs : List Value) (us : List (List Nat)), vs.length = us.length → (∀ (i : Nat) (v : Value), vs[i]? = some v → ∃ (u : List Nat) (t : Tok), us[i]? = some u ∧ v = .str (T u) t) → TsAre vs us
  | [], [], _, _ => .nil
  | [], _ :: _, h, _ => by simp at h
  | _ :: _, [], h, _ => by simp at h
  | v :: vs, u :: us, h, hv => by
    obtain ⟨u', t, hu, rfl⟩ := hv 0 v rfl
    simp at hu; subst hu
    exact .cons (T u) t (ts_of vs us (by simpa using h) fun i v e => by simpa using hv (i + 1) v (by simpa using e))
theorem ts_of_items {acc : Array Value} {us : List (List Nat)} (h : ItemsOf (fun i v => ∃ u t, us[i]? = some u ∧ v = .str (T u) t) acc us.length) : TsAre acc.toList us :=
  ts_of _ _ (by simpa using h.1) fun i v e => h.2 i v (by simpa using e)
theorem tuple_new_map {w : World} {g : Heap} {M TT I l : Addr} {vs : List Value} {us : List (List Nat)} (G : Gd w g) (hMI : M ≠ I) (hTI : TT ≠ I) (hlI : l ≠ I) (hgI : g.get? I = none) (hi : TsAre vs us) (hz : us.length ≤ 1000) :
    MeetsIn PG w (Builtin.«tuple.__new__» ⟨[.type "tuple", .ref M], []⟩) (fun A R s => Rm A 8 ∧ MapSt g M TT I l vs.toArray 0 s.heap ∧
      ∀ (h' : Heap) tk (acc : Array Value), (∀ b o, b ≠ I → s.heap.get? b = some o → h'.get? b = some o) → ItemsOf (fun i v => ∃ u t, us[i]? = some u ∧ v = .str (T u) t) acc us.length →
        R (.ok (.ret (.ref h'.objs.size))) { s with heap := h'.push { cls := .type "tuple", data := .seq acc }, toks := tk }) :=
  .of_wp fun A R s h => by
    obtain ⟨hp, gg, d, tk, os⟩ := s; obtain ⟨hR, st, h⟩ := h
    have hsub := sub_tuple_self
    have hinit := init_tuple_lookup
    have hmh := madeHere_tuple
    have hT : Shared.TypeIs ⟨hp, gg, d, tk, os⟩ (.ref M) "map" := ⟨_, st.1, rfl⟩
    wp_walk using AutoSeq1.wpAny_loadPart' st.1, wpAny_typeOf hT, collect_map hR.in1 G hMI hTI hlI hgI hi st hz
    intro h' tk acc k hacc
    refine wpAny_bind (wpAny_pure ?_)
    show wpAny _ _ (Builtin.Tuple.tupleExact acc.toList.toArray >>= fun v => ret v) _ _ _
    unfold Builtin.Tuple.tupleExact
    have e : acc.toList.toArray = acc := by simp
    rw [e]
    refine wpAny_bind (wpAny_newObj_type ?_ (by show _ ≤ (2 ^ 24 : Nat); have := hacc.1; exact om315 hz this))
    exact wpAny_pure ⟨_, rfl, h h' tk acc k hacc⟩
section
variable {w : World} {A : Around} {E : Value → Shared → Prop} {s : Shared} {g : Heap} {env : Env} {m : Str → Option Value} {nx : List (Addr × Obj)}
theorem call_tuple_map {M TT I l : Addr} {oI : Obj} {vs : List Value} {us : List (List Nat)} {Q : Value → Shared → Prop} (S : St g env s.heap m ((I, oI) :: nx)) (R : Rm A 9) (G : Gd w g) (hMI : M ≠ I) (hTI : TT ≠ I) (hl : g.IsList l vs.toArray) (hi : TsAre vs us) (hz : us.length ≤ 1000)
    (hM : s.heap.get? M = some (mapO TT (.ref 129))) (hT : s.heap.IsTuple TT #[.ref I]) (hI : s.heap.IsListIter I l 0)
    (h : ∀ D h' tk vs', TsAre vs' us → St g env h' m ((D, { cls := .type "tuple", data := .seq vs'.toArray }) :: nx) → Q (.ref D) { s with heap := h', toks := tk }) :
    wpAny (model PG w) A (call (.type "tuple") [.ref M]) Q E s := by
  have hgI := S.freshN (I, oI) (.head _)
  have hlI : l ≠ I := fun q => by obtain ⟨o, ho, _⟩ := hl; rw [q, hgI] at ho; cases ho
  have hls : s.heap.IsList l vs.toArray := isL_upM hl S.keep
  refine callType_newIn F.called_tuple (by decide) (F.typeCall_tuple_1 _) (F.newCall_tuple_1 _) (fun obj => F.args_object_init_2 obj _) F.entry_tuple_new
    (tuple_new_map G hMI hTI hlI hgI hi hz) ⟨R.in1, ⟨hM, hT, hI, hls, S.keep⟩, fun h' tk acc k hacc => ⟨⟨_, Heap.get?_push_size _ rfl, rfl⟩, ?_⟩⟩
  have S1 := S.drop0 (h' := h') fun b o hb e => k b o hb e
  have S2 := S1.push { cls := .type "tuple", data := .seq acc } rfl
  have hts : TsAre acc.toList us := ts_of_items hacc
  have := h h'.objs.size _ tk acc.toList hts (by simpa using S2)
  exact this
end
end
-- Pl168
section
/-- a row of lists of texts -/
inductive PLs (g : Heap) : List Value → List (List PySem.Str) → Prop
  | nil : PLs g [] []
  | cons {a : Addr} {n : Nat} {vs ys : List Value} {xs : List PySem.Str} {rows : List (List PySem.Str)} (h : g.get? a = some (listOf vs.toArray n)) (hs : StrsAre vs xs) (r : PLs g ys rows) : PLs g (.ref a :: ys) (xs :: rows)
theorem PLs.mono {g g' : Heap} (k : g.StaysIn g') : ∀ {ys : List Value} {rows : List (List PySem.Str)}, PLs g ys rows → PLs g' ys rows
  | _, _, .nil => .nil
  | _, _, .cons h hs r => .cons (k _ _ h) hs (r.mono k)
theorem PLs.snoc {g : Heap} {a : Addr} {n : Nat} {vs : List Value} {xs : List PySem.Str} (h : g.get? a = some (listOf vs.toArray n)) (hs : StrsAre vs xs) : ∀ {ys : List Value} {rows : List (List PySem.Str)}, PLs g ys rows → PLs g (ys ++ [.ref a]) (rows ++ [xs])
  | _, _, .nil => .cons h hs .nil
  | _, _, .cons h' hs' r => .cons h' hs' (r.snoc h hs)
theorem PLs.two {g : Heap} {ys : List Value} {p q : List PySem.Str} (h : PLs g ys [p, q]) : ∃ a b na nb va vb, ys = [.ref a, .ref b] ∧ g.get? a = some (listOf va.toArray na) ∧ StrsAre va p ∧ g.get? b = some (listOf vb.toArray nb) ∧ StrsAre vb q := by
  cases h with
  | cons h1 s1 r => cases r with
    | cons h2 s2 r => cases r; exact ⟨_, _, _, _, _, _, rfl, h1, s1, h2, s2⟩
section
variable {prog : Program} {w : World} {A : Around} {E : Value → Shared → Prop} {s s₂ : Shared} {env : Env} {g : Heap} {m : Str → Option Value} {nx : List (Addr × Obj)}
  {elt target iter : Expr} {scope : Scope} {cl : List (Str × Addr)} {pos : Pos} {I : Addr} {oI : Obj} {n : Nat} {P : Nat → Value → Prop}
noncomputable abbrev compBlockS (M : Model) (A : Around) (E : Value → Shared → Prop) (elt target iter : Expr) (scope : Scope) (cl : List (Str × Addr)) (pos : Pos) (env : Env) (use : Option (Value → Sem Unit)) (Q : Value → Shared → Prop) (it : Value) (s₂ : Shared) : Prop :=
  wpAny M A (newSet (.type "set")) (fun acc s₃ => wpAny M A (newFunctionEnv scope env.globals cl [] env.qual none .none (some env)) (fun cenv s₄ =>
      codeAny M A (.compStart (.SetComp elt [⟨target, iter, [], 0⟩] scope pos) 0 it acc { cenv with scope := relabel scope env }) (compPost M A E use Q acc cenv.locals) s₄) E s₃) E s₂
theorem compS_eval {Q : Value → Shared → Prop} (hclos : closureFor scope env = pure cl) (hkind : scope.kind = .function) (hnames : ∀ y ∈ scope.names, y.2 = .local → scope.names.lookup y.1 = some .local) (hs : ∀ x, foldedSetIterable iter env x = pure x)
    (h : wpAny (model prog w) A (eval iter env) (fun xv s₁ => wpAny (model prog w) A (pyIter xv) (compBlockS (model prog w) A E elt target iter scope cl pos env none Q) E s₁) E s) :
    wpAny (model prog w) A (eval (.SetComp elt [⟨target, iter, [], 0⟩] scope pos) env) Q E s := by
  rw [arm_eval_SetComp]
  exact wpAny_comprehension_free (use := none) rfl hs hclos hkind hnames h
theorem compS_it {Q : Value → Shared → Prop} (J : Nat → List Value → Heap → Prop) (ps : List (Str × Value)) (S₂ : St g env s₂.heap m ((I, oI) :: nx)) (W : ItOk prog w A g s₂.heap I n P) (hcell : ∀ y ∈ scope.names, y.2 ≠ .cell) (hkind : scope.kind = .function)
    (hcl : cl.map (fun p => env.cells.lookup p.1) = cl.map (fun p => some p.2)) (hnd : (cl.map (·.1)).Nodup) (hkd : (cl.all fun p => (relabel scope env).names.lookup p.1 != some .local) = true)
    (hps : (ps.all fun p => !((relabel scope env).names.lookup p.1 == some .local)) = true) (hcov : (cl.all fun p => (ps.map (·.1)).contains p.1) = true)
    (hn : n ≤ 100000) (he : HasAll m ps) (hJ : J 0 [] g)
    (turn : ∀ i v m₁ g₁ h₁ tk₁ oI C tl, i < n → P i v → g.StaysIn g₁ → PlainIt oI → HasAll m₁ ps → J i [] g₁ → St g₁ (compEnvC scope cl C env) h₁ m₁ ((I, oI) :: tl) →
      wpAny (model prog w) A (letOwnedTupleGo target (.ref I) v) (fun _ s₁ => wpAny (model prog w) A (assign target (compEnvC scope cl C env) v) (fun _ s₃ =>
        wpAny (model prog w) A (eval elt (compEnvC scope cl C env)) (fun y s₄ => y = .bool true ∧ CNext s₂ g (compEnvC scope cl C env) I oI tl ps J i [] s₄) NoE s₃) NoE s₁) NoE { s₂ with heap := h₁, toks := tk₁ })
    (done : ∀ D g₁ h₁ tk₁, g.StaysIn g₁ → St g₁ env h₁ m ((D, setO w (decide (0 < n))) :: nx) → J n [] g₁ → Q (.ref D) { s₂ with heap := h₁, toks := tk₁ }) :
    compBlockS (model prog w) A E elt target iter scope cl pos env none Q (.ref I) s₂ :=
  set_run J ps hcell hkind hcl hnd hkd hps hcov S₂ W hn he hJ turn fun D C oC mC g₁ h₁ tk₁ kg hnC S hJ =>
    ⟨mC, hnC, fun h' hs => done D g₁ h' tk₁ kg (S.drop0 fun b o hb e => hs.extBut b o hb e) hJ⟩
theorem un_setO {D : Addr} {Q : List Value → Shared → Prop} (S : St g env s.heap m ((D, setO w true) :: nx)) (hh : A.handled = none) (h : ∀ h', St g env h' m nx → Q [.bool true] { s with heap := h' }) : wpAny (model prog w) A (unpackItems (.ref D) 1 none) Q E s := by
  refine un_set1 hh (S.at (i := 0) rfl) ⟨rfl, rfl, rfl⟩ rfl fun h' x => ?_
  have k : s.heap.StaysIn h' := fun b o e => x b o (Nat.ne_of_lt (Heap.lt_size e)) e
  exact h h' ((S.kept k).drop0 fun b o _ e => e)
end
section
variable {prog : Program} {w : World} {A : Around} {E : Value → Shared → Prop} {s : Shared} {env : Env} {g : Heap} {m : Str → Option Value} {nx : List (Addr × Obj)}
theorem assign_one_setO {y : PySem.Str} {py pos : Pos} {k : Nat} {D : Addr} {Q : Unit → Shared → Prop} (S : St g env s.heap m ((D, setO w true) :: nx)) (hh : A.handled = none)
    (h : ∀ h', St g env h' m nx → wpAny (model prog w) A (assign (.Name y py) env (.bool true)) Q E { s with heap := h' }) : wpAny (model prog w) A (assign (.Tuple [.Name y py] k pos) env (.ref D)) Q E s := by
  rw [assign_Tuple]
  refine wpAny_bind (wpAny_standAt ?_)
  unfold unpack
  refine wpAny_bind (wpAny_holding (un_setO S hh fun h' S' => ?_))
  show wpAny _ A (assignInOrder [assign (.Name y py) env] [.bool true]) Q E _
  have := h h' S'
  unfold assignInOrder
  exact wpAny_bind (wpAny_holding (wpAny_mono this (fun _ _ q => wpAny_pure q) fun _ _ q => q))
end
end
-- Cpt168
section
set_option maxRecDepth 100000 in
set_option maxHeartbeats 0 in
theorem cp_tail {w : World} {A : Around} {s : Shared} {g : Heap} {L : Addr} {cdv : Value} {m : PySem.Str → Option Value} {D b1 b2 : Addr} {vc vd : List Value} {nn nc nd N : Nat} {u v : List Nat} {t1 : Tok} {Q : Flow → Shared → Prop}
    (R' : ∀ env, Rm (A.deeper env) 1) (G : Gd w g) (S : St g (envOfC (Str.ofString "commonpath") cpScope L 162 cdv) s.heap m []) (e : HasAll m [("split_paths", .ref D), ("isabs", .bool true), ("sep", .str (T [47]) t1)])
    (hD : g.get? D = some (listOf [Value.ref b1, .ref b2].toArray nn)) (hb1 : g.get? b1 = some (listOf vc.toArray nc)) (hb2 : g.get? b2 = some (listOf vd.toArray nd)) (sc : StrsAre vc (u.map fun c => T [c])) (sd : StrsAre vd (v.map fun c => T [c]))
    (hu : u.length < 100) (hv : v.length < 100) (h1 : u.take N = v.take N) (h2 : N < u.length) (h3 : N < v.length) (h4 : u.getD N 0 < v.getD N 0)
    (hQ : ∀ h' tk t, g.StaysIn h' → Q (.ret (.str (way (u.take N)) t)) { s with heap := h', toks := tk }) :
    wpAny (model PG w) (A.deeper (envOfC (Str.ofString "commonpath") cpScope L 162 cdv)) (execs cpTail (envOfC (Str.ofString "commonpath") cpScope L 162 cdv)) Q NoE s := by
  have zB : Base s := trivial
  replace S := S.norm e
  clear e
  dsimp only [putAll, List.foldr_cons, List.foldr_nil] at S
  conv in cpTail => whnf
  obtain ⟨x, hx, hxN⟩ : ∃ x, x = u.getD N 0 ∧ u[N]? = some x := ⟨_, rfl, by simp [List.getD, h2]⟩
  obtain ⟨y, hy, hyN⟩ : ∃ y, y = v.getD N 0 ∧ v[N]? = some y := ⟨_, rfl, by simp [List.getD, h3]⟩
  rw [← hx, ← hy] at h4
  clear hx hy
  have hxy : ∀ j, j < N → (u.map fun c => T [c])[j]? = (v.map fun c => T [c])[j]? := fun j hj => by
    have this : (u.take N)[j]? = (v.take N)[j]? := by rw [h1]
    rw [List.getElem?_take, List.getElem?_take, if_pos hj, if_pos hj] at this
    rw [List.getElem?_map, List.getElem?_map, this]
  have hxm : (u.map fun c => T [c])[N]? = some (T [x]) := by rw [List.getElem?_map, hxN]; rfl
  have hym : (v.map fun c => T [c])[N]? = some (T [y]) := by rw [List.getElem?_map, hyN]; rfl
  have hpq : T [x] ≠ T [y] := fun e => by cases T_inj e; exact om78 h4
  have hlt : [x] < [y] := List.cons_lt_cons_iff.mpr (.inl h4)
  k_steps
  rename St _ _ _ _ _ => zS
  refine call_min2 zS (R' _).hand (by have := (R' (envOfC (Str.ofString "commonpath") cpScope L 162 cdv)).units; exact om77 this) ⟨_, hD, rfl, _, rfl⟩ hb1 hb2 sc sd hxy hxm hym hpq (decide_eq_false (List.lt_asymm hlt)) ?_
  clear zS
  intro h' tk' S
  k_steps
  rename St _ _ _ _ _ => zS
  refine call_max2 zS (R' _).hand (by have := (R' (envOfC (Str.ofString "commonpath") cpScope L 162 cdv)).units; exact om77 this) ⟨_, hD, rfl, _, rfl⟩ hb1 hb2 sc sd hxy hxm hym hpq (decide_eq_true hlt) ?_
  clear zS
  intro h' tk' S
  k_steps
  rename St _ _ _ _ _ => zS
  have hlen : vc.length = u.length := by have := StrsAre.length sc; simpa using this
  refine enum_St zS ⟨_, zS.keep _ _ hb1, rfl, _, rfl⟩ ?_
  clear zS
  intro e it oE oI h' S he hi
  refine wpAny_pyIter_enum he ?_
  refine for_enum (N := N) (fun i m₁ => HasAll m₁ [("common", .ref b1), ("s2", .ref b2), ("s1", .ref b1), ("isabs", .bool true), ("sep", .str (T [47]) t1)]) S (R' _).hand he hi ⟨_, hb1, rfl, _, rfl⟩ (by exact om76 h2 hlen) ⟨rfl, rfl, rfl, rfl, rfl, trivial⟩ rfl rfl ?_
  clear S he hi
  rintro i z t m₁ h₁ tk₁ oE oI hiN hz S e
  replace S := S.norm e
  clear e
  dsimp only [putAll, List.foldr_cons, List.foldr_nil] at S
  try dsimp only
  obtain ⟨c1, c2, ez, hc1, hc2, hcd⟩ : ∃ (c1 c2 : Nat), (∃ tz, z = .str (T [c1]) tz) ∧ u[i]? = some c1 ∧ v[i]? = some c2 ∧ ((c1 = c2 ∧ i < N) ∨ (c1 ≠ c2 ∧ i = N)) := by
    obtain ⟨yy, ty, rfl, hyy⟩ := StrsAre.item sc i z hz
    rw [List.getElem?_map] at hyy
    rcases Nat.lt_or_ge i N with hlt | hge
    · have := hxy i hlt
      rw [List.getElem?_map, List.getElem?_map] at this
      cases hui : u[i]? with
      | none => rw [hui] at hyy; cases hyy
      | some c =>
        rw [hui] at hyy this
        cases hvi : v[i]? with
        | none => rw [hvi] at this; cases this
        | some c' =>
          rw [hvi] at this
          have e2 := T_inj (Option.some.inj this)
          cases e2
          exact ⟨c, c, ⟨_, by rw [← Option.some.inj hyy]⟩, rfl, rfl, .inl ⟨rfl, hlt⟩⟩
    · have : i = N := by exact om75 hiN hge
      subst this
      rw [hxN] at hyy
      exact ⟨x, y, ⟨_, by rw [← Option.some.inj hyy]⟩, hxN, hyN, .inr ⟨by exact om74 h4, rfl⟩⟩
  obtain ⟨tz, rfl⟩ := ez
  clear hz
  k_steps
  rename St _ _ _ _ _ => zS
  obtain ⟨tv, hvi⟩ : ∃ tv, vd[i]? = some (.str (T [c2]) tv) := StrsAre.get sd i _ (by rw [List.getElem?_map, hc2]; rfl)
  refine item_listL (l := vd) ⟨_, zS.keep _ _ hb2, rfl, _, rfl⟩ (by exact om7) (by exact om73 hu h2 hiN) (by simpa using hvi) ?_
  k_steps
  · rename (_ != _) = true => q
    have hN : i = N := by
      rcases hcd with ⟨rfl, _⟩ | ⟨_, h⟩
      · simp at q
      · exact h
    subst hN
    rename St _ _ _ _ _ => zS
    refine ls_to (n := i) zS ⟨_, zS.keep _ _ hb1, rfl, _, rfl⟩ rfl (by exact om72 hu hlen) ?_ (by with_unfolding_all rfl) (by intro _; with_unfolding_all rfl)
    clear zS
    intro D2 h' S _
    k_steps
    (show EPost _ _ _ _ _ _ _ _ _ _ _ _ _ _); dsimp only [EPost]
    k_steps
    rename St _ _ _ _ _ => zS
    have hst : StrsAre (vc.take i) ((u.map fun c => T [c]).take i) := StrsAre.take' sc i
    have hjw := join_way (u.take i)
    have hul : (u.take i).length ≤ 100 := by rw [List.length_take]; exact om19 hu
    have hsz : (((u.take i).map fun c => T [c]).map (·.length)).sum + ((u.take i).map fun c => T [c]).length * (T [47]).length ≤ 16777216 := by
      have e1 : (((u.take i).map fun c => T [c]).map (·.length)).sum = (u.take i).length := by rw [List.map_map]; exact sum_ones _
      rw [e1, List.length_map, T_len]
      simp only [List.length_singleton]
      exact om71 hul
    refine join_list (ys := (u.take i).map fun c => T [c]) (zS.isList at0) (by rw [List.map_take]; exact hst) hsz ?_
    intro t' kk
    generalize u.take i = uc at hjw hul hQ ⊢
    generalize Txt.join (T [47]) (uc.map fun c => T [c]) = J at hjw ⊢
    k_steps
    rw [hjw.1]
    exact hQ _ _ _ zS.keep
  · rename (_ != _) = false => q
    have hN : i < N := by
      rcases hcd with ⟨_, h⟩ | ⟨h, _⟩
      · exact h
      · exact absurd (bne_eq_false_iff_eq.mp q) fun e => h (by cases T_inj e; rfl)
    rename St _ _ _ _ _ => zS
    (show EPost _ _ _ _ _ _ _ _ _ _ _ _ _ _); dsimp only [EPost]
    exact ⟨hN, _, _, _, rfl, zS, rfl, rfl, rfl, rfl, rfl, trivial⟩
end
-- Cp168
section
theorem way_abs (z : List Nat) : Value.bool (Txt.startswith (way z) (T [47])) = .bool true := by
  rw [sw_eq]
  congr 1
  unfold wayL
  cases z with
  | nil => rfl
  | cons a r => rfl
theorem part_at {z : List Nat} {j : Nat} {y : PySem.Str} (hy : (T [] :: z.map fun c => T [c])[j]? = some y) : (j = 0 ∧ y = T []) ∨ ∃ c, y = T [c] ∧ c ∈ z ∧ j ≠ 0 := by
  rcases j with _ | j
  · exact .inl ⟨rfl, by simpa using hy.symm⟩
  · rw [List.getElem?_cons_succ, List.getElem?_map] at hy
    cases hc : z[j]? with
    | none => rw [hc] at hy; cases hy
    | some c =>
      rw [hc] at hy
      exact .inr ⟨c, by simpa using hy.symm, List.mem_of_getElem? hc, by exact om70⟩
theorem parts_all (z : List Nat) {n : Nat} (hn : n = z.length + 1) : ((T [] :: z.map fun c => T [c]).take n).filter (fun x => decide (x ≠ T [])) = z.map fun c => T [c] := by
  rw [List.take_of_length_le (by simp [hn]), List.filter_cons_of_neg (by simp)]
  refine List.filter_eq_self.mpr fun x hx => ?_
  obtain ⟨c, _, rfl⟩ := List.mem_map.mp hx
  exact decide_eq_true fun e => by have := T_inj e; cases this
theorem parts_one (L : List PySem.Str) : (((T [] :: L).take (0 + 1)).filter fun x => decide (x ≠ T [])) = ((T [] :: L).take 0).filter fun x => decide (x ≠ T []) := by
  simp
theorem parts_step {L : List PySem.Str} {j c : Nat} (hy : L[j]? = some (T [c])) : ((L.take (j + 1)).filter fun x => decide (x ≠ T [])) = ((L.take j).filter fun x => decide (x ≠ T [])) ++ [T [c]] := by
  rw [List.take_add_one, hy, List.filter_append]
  exact congrArg (((L.take j).filter fun x => decide (x ≠ T [])) ++ ·) (List.filter_cons_of_pos (decide_eq_true fun e => by have := T_inj e; cases this))
theorem St.two {g h : Heap} {env : Env} {m : Str → Option Value} {D : Addr} {ys : List Value} {n : Nat} {A B : List PySem.Str} {P : Prop} (S : St g env h m [(D, listOf ys.toArray n)]) (hys : PLs g ys [A, B])
    (k : ∀ a1 a2 na nb va vb, St g env h m [(D, listOf [.ref a1, .ref a2].toArray n)] → g.get? a1 = some (listOf va.toArray na) → StrsAre va A → g.get? a2 = some (listOf vb.toArray nb) → StrsAre vb B → P) : P := by
  obtain ⟨a1, a2, na, nb, va, vb, rfl, ha1, sa1, ha2, sa2⟩ := PLs.two hys
  exact k a1 a2 na nb va vb S ha1 sa1 ha2 sa2
set_option maxRecDepth 100000 in
set_option maxHeartbeats 0 in
theorem common_spec {w : World} {A : Around} {s : Shared} {g : Heap} {lw : Addr} {u v : List Nat} {tu tv : Tok} {N : Nat} {Q : Value → Shared → Prop} (R : Rm A 12) (G : Gd w g) (st : g.StaysIn s.heap)
    (hw : LL s.heap lw [.str (way u) tu, .str (way v) tv]) (hsu : 47 ∉ u) (hsv : 47 ∉ v) (hdu : 46 ∉ u) (hdv : 46 ∉ v) (hu : u.length < 100) (hv : v.length < 100) (h1 : u.take N = v.take N) (h2 : N < u.length) (h3 : N < v.length) (h4 : u.getD N 0 < v.getD N 0)
    (hQ : ∀ h' tk' t, s.heap.StaysIn h' → Q (.str (way (u.take N)) t) { s with heap := h', toks := tk' }) :
    wpAny (model PG w) A (call (.ref 162) [.ref lw]) Q NoE s := by
  refine enter (binds := [("paths", .ref lw)]) [] G st (by simp) (by simp) (by k_dflt k_is) (by k_dflt k_is) R.room (BindsTo.of_eq rfl) rfl (by decide) (by decide) ?_ rfl rfl rfl
  intro g' L h₁ tk G' hk S
  have zB : Base s := trivial
  have R' : ∀ env, Rm (A.deeper env) 11 := fun _ => R.deeper
  have hext : ∀ h', g'.StaysIn h' → s.heap.StaysIn h' := fun h' k b o e => k b o (hk b o (by simp) e)
  have hkg : s.heap.StaysIn g' := fun b o e => hk b o (by simp) e
  have hfr : ∀ a, g'.get? a = none → s.heap.get? a = none := fun a e => by
    cases q : s.heap.get? a with
    | none => rfl
    | some o => rw [hk a o (by simp) q] at e; cases e
  clear st R hk
  dsimp only [bindAll, List.foldl_cons, List.foldl_nil] at S
  have hw' : LL g' lw _ := hw.up hkg
  clear hw
  k_steps
  rename St _ _ _ _ _ => zS
  refine call_map zS (hw'.up zS.keep).is ?_
  intro I TT M h₂ S₂ k₂ fI fT fM nIT nIM hM hT hI
  k_steps
  rename St _ _ _ _ _ => zS
  refine call_tuple_map (us := [wayL u, wayL v]) zS (Rm.less (R' _) (by decide)) G' (Ne.symm nIM) (Ne.symm nIT) hw'.is (StrsAre.cons _ _ (StrsAre.cons _ _ StrsAre.nil)) (by show (2 : Nat) ≤ 1000; exact om69) hM hT hI ?_
  intro D h₃ tk₃ vs' hts S₃
  have hvs : ∃ t1 t2, vs' = [.str (way u) t1, .str (way v) t2] := by
    cases hts with
    | cons _ _ a => cases a with
      | cons _ _ b => cases b; exact ⟨_, _, rfl⟩
  obtain ⟨t1, t2, rfl⟩ := hvs
  clear hts zS k₂ fI fT fM nIT nIM hM hT hI
  obtain ⟨g₀, kg0, S, hex0, _⟩ := St.rebase (nx := []) (extra := [_]) S₃
  have hDo := hex0 _ (.head _)
  have hD : ∀ h', g₀.StaysIn h' → IsTup h' D #[.str (way u) t1, .str (way v) t2] := fun h' k => ⟨_, k _ _ hDo, rfl, _, rfl⟩
  have G0 := G'.mono kg0
  clear S₃ hex0
  k_steps
  rename St _ _ _ _ _ => zS
  refine truthy_tuple (hD _ zS.keep) (by simp) ?_
  rw [show (!(#[Value.str (way u) t1, Value.str (way v) t2] : Array Value).isEmpty) = true from rfl]
  k_steps
  rename St _ _ _ _ _ => zS
  refine item_tuple (x := .str (way u) t1) (hD _ zS.keep) (by exact om68) (by exact om20) (j := 0) rfl rfl ?_
  k_steps
  refine comp_assign rfl rfl rfl (by decide) (by intro _; rfl) ?_
  k_steps
  rename St _ _ _ _ _ => zS
  refine it_tuple zS (R' _).hand (hD _ (fun _ _ e => e)) ?_
  clear zS
  intro I1 oI1 hp4 S W1 _
  refine comp_its (fun k ys g₁ => PLs g₁ ys ([T [] :: u.map fun c => T [c], T [] :: v.map fun c => T [c]].take k)) [(Str.ofString "sep", .str (T [47]) _), (Str.ofString "curdir", .str (T [46]) _)] S W1 (by decide) rfl rfl (by dsimp only [List.map]; decide) rfl rfl rfl (by simp) ⟨rfl, rfl, trivial⟩ .nil rfl rfl ?_ ?_
  · clear S W1
    rintro k x ys m₂ g₂ h₁ tk₁ oI2 C tl hk hP kg2 - e hys S
    replace S := S.norm e
    dsimp only [putAll, List.foldr_cons, List.foldr_nil] at S
    refine let_name ?_
    k_steps
    rw [CPost, if_pos rfl]
    have hx : ∃ z tz, x = .str (way z) tz ∧ z ≠ [] ∧ 47 ∉ z ∧ z.length < 100 ∧ [T [] :: u.map fun c => T [c], T [] :: v.map fun c => T [c]].take (k + 1) = [T [] :: u.map fun c => T [c], T [] :: v.map fun c => T [c]].take k ++ [T [] :: z.map fun c => T [c]] := by
      rcases k with _ | _ | k
      · exact ⟨u, t1, by simpa using hP.symm, fun e => by rw [e] at h2; simp at h2, hsu, hu, rfl⟩
      · exact ⟨v, t2, by simpa using hP.symm, fun e => by rw [e] at h3; simp at h3, hsv, hv, rfl⟩
      · exact absurd (show k + 1 + 1 < 2 from hk) (by exact om66)
    obtain ⟨z, tz, rfl, hz1, hz2, hz3, hzk⟩ := hx
    k_steps
    rename St _ _ _ _ _ => zS
    refine split_St zS rfl ?_ (by rw [T_len]; have := (wayL_len z).2; unfold sizeLine; exact om67 hz3 this)
    intro D2 l h5 tk5 el S5
    rw [split_way hz1 hz2] at el
    refine ⟨_, _, _, g₂, [(D2, _)], rfl, kg2, ⟨rfl, rfl, trivial⟩, S5.roll, fun g₃ k3 hex => ?_⟩
    try dsimp only
    rw [hzk, ← el]
    exact PLs.snoc (hex _ (.head _)) (strsAre_of_values l) (hys.mono k3)
  clear S W1
  rintro D1 ys g₁ h5 tk5 nn kg1 S hys
  refine St.two S hys ?_
  clear S hys
  intro a1 a2 na nb va vb S ha1 sa1 ha2 sa2
  k_steps
  refine compS_eval rfl rfl (by decide) (by intro _; rfl) ?_
  k_steps
  rename St _ _ _ _ _ => zS
  refine it_tuple zS (R' _).hand (hD _ kg1) ?_
  clear zS
  intro I2 oI2 hp6 S W1 _
  refine compS_it (fun k ys g₁ => True) [(Str.ofString "sep", .str (T [47]) _), (Str.ofString "curdir", .str (T [46]) _)] S W1 (by decide) rfl rfl (by dsimp only [List.map]; decide) rfl rfl rfl (by simp) ⟨rfl, rfl, trivial⟩ trivial ?_ ?_
  · clear S W1
    rintro k x m₂ g₂ h₁ tk₁ oI2 C tl hk hP kg2 - e - S
    replace S := S.norm e
    dsimp only [putAll, List.foldr_cons, List.foldr_nil] at S
    have hx : ∃ z tz, x = .str (way z) tz := by
      rcases k with _ | _ | k
      · exact ⟨u, t1, by simpa using hP.symm⟩
      · exact ⟨v, t2, by simpa using hP.symm⟩
      · exact absurd (show k + 1 + 1 < 2 from hk) (by exact om66)
    obtain ⟨z, tz, rfl⟩ := hx
    refine let_name ?_
    k_steps
    · exact way_abs z
    · rename St _ _ _ _ _ => zS
      exact ⟨_, _, _, g₂, [], rfl, kg2, ⟨rfl, rfl, trivial⟩, zS.cnil, fun _ _ _ => trivial⟩
  clear S W1
  rintro D3 g₂ h6 tk6 kg2 S -
  k_steps
  rename St _ _ _ _ _ => zS
  refine assign_one_setO zS (R' _).hand ?_
  clear zS
  intro h7 S
  k_steps
  rename St _ _ _ _ _ => zS
  obtain ⟨g₃, kg3, S, hex3, _⟩ := St.rebase (nx := []) (extra := [_]) zS
  have hD1 := hex3 _ (.head _)
  try dsimp only at hD1
  clear zS hex3
  refine comp_assign rfl rfl rfl (by decide) (by intro _; rfl) ?_
  k_steps
  rename St _ _ _ _ _ => zS
  refine it_list (vs := [.ref a1, .ref a2]) zS (R' _).hand ⟨_, hD1, rfl, _, rfl⟩ ?_
  clear zS
  intro I3 oI3 hp8 S W1 _
  refine comp_its (fun k ys g₁ => PLs g₁ ys ([u.map fun c => T [c], v.map fun c => T [c]].take k)) [(Str.ofString "curdir", .str (T [46]) _)] S W1 (by decide) rfl rfl (by dsimp only [List.map]; decide) rfl rfl rfl (by simp) ⟨rfl, trivial⟩ .nil rfl rfl ?_ ?_
  · clear S W1
    rintro k x ys m₂ g₄ h₁ tk₁ oI2 C tl hk hP kg4 - e hys S
    replace S := S.norm e
    dsimp only [putAll, List.foldr_cons, List.foldr_nil] at S
    have hx : ∃ (z : List Nat) (a : Addr) (n : Nat) (va : List Value), x = .ref a ∧ g₄.get? a = some (listOf va.toArray n) ∧ StrsAre va (T [] :: z.map fun c => T [c]) ∧ z.length < 100 ∧ 46 ∉ z ∧ [u.map fun c => T [c], v.map fun c => T [c]].take (k + 1) = [u.map fun c => T [c], v.map fun c => T [c]].take k ++ [z.map fun c => T [c]] := by
      rcases k with _ | _ | k
      · exact ⟨u, a1, na, va, by simpa using hP.symm, kg4 _ _ (kg3 _ _ (kg2 _ _ ha1)), sa1, hu, hdu, rfl⟩
      · exact ⟨v, a2, nb, vb, by simpa using hP.symm, kg4 _ _ (kg3 _ _ (kg2 _ _ ha2)), sa2, hv, hdv, rfl⟩
      · exact absurd (show k + 1 + 1 < 2 from hk) (by exact om66)
    obtain ⟨z, az, nz, vz, rfl, haz, sz, hz1, hz2, hzk⟩ := hx
    refine let_name ?_
    k_steps
    rw [CPost, if_pos rfl]
    refine comp_eval rfl rfl (by decide) (by intro _; rfl) ?_
    k_steps
    rename St _ _ _ _ _ => zS
    refine it_list (vs := vz) zS (R' _).hand ⟨_, haz, rfl, _, rfl⟩ ?_
    clear zS
    intro I4 oI4 hp9 S W1 _
    try dsimp only at S W1 ⊢
    have hvz : vz.length = z.length + 1 := by have := StrsAre.length sz; simpa using this
    have hvz2 : vz.length ≤ 100000 := by rw [hvz]; exact Nat.le_trans (Nat.succ_le_succ (Nat.le_of_lt hz1)) (by decide)
    refine comp_it (fun i zs g₁ => StrsAre zs (((T [] :: z.map fun c => T [c]).take i).filter fun x => decide (x ≠ T []))) [(Str.ofString "curdir", .str (T [46]) _)] S W1 (by decide) rfl (by dsimp only [List.map, compEnvC, List.lookup]; kernel_rfl) (by dsimp only [List.map]; decide) rfl rfl rfl hvz2 ⟨rfl, trivial⟩ .nil ?_ ?_
    · clear S W1
      rintro j x zs m₃ g₅ h₂ tk₂ oI3 C2 tl2 hj hP2 kg5 - e2 hzs S
      replace S := S.norm e2
      dsimp only [putAll, List.foldr_cons, List.foldr_nil] at S
      obtain ⟨y, ty, rfl, hy⟩ := StrsAre.item sz j x hP2
      rcases part_at hy with ⟨rfl, rfl⟩ | ⟨c, rfl, hc, hj0⟩
      · refine let_name ?_
        k_steps
        refine KXt.truthy (b := false) rfl (by rw [T_len]; simp) fun kk => ?_
        k_steps
        rename St _ _ _ _ _ => zS
        rw [CPost, if_neg Bool.false_ne_true]
        exact ⟨_, _, _, g₅, [], rfl, kg5, ⟨rfl, trivial⟩, zS.cnil, fun _ _ _ => by (try dsimp only); rw [parts_one]; exact hzs⟩
      · refine let_name ?_
        k_steps
        refine KXt.truthy (b := true) rfl (by rw [T_len]; simp) fun kk => ?_
        k_steps
        · rw [CPost, if_pos rfl]
          k_steps
          rename St _ _ _ _ _ => zS
          exact ⟨_, _, _, g₅, [], rfl, kg5, ⟨rfl, trivial⟩, zS.cnil, fun _ _ _ => by (try dsimp only); rw [parts_step hy]; exact kct_snoc hzs⟩
        · rename (_ != _) = false => q
          have q2 := T_inj (bne_eq_false_iff_eq.mp q)
          cases q2
          exact absurd hc hz2
    · clear S W1
      rintro D5 zs g₅ h₂ tk₂ n5 kg5 S hzs
      try dsimp only
      have hfil : ((T [] :: z.map fun c => T [c]).take vz.length).filter (fun x => decide (x ≠ T [])) = z.map fun c => T [c] := parts_all z hvz
      rw [hfil] at hzs
      refine ⟨_, _, _, g₅, [(D5, _)], rfl, fun b o e => kg5 _ _ (kg4 _ _ e), ⟨rfl, trivial⟩, S.roll, fun g₆ k6 hex => ?_⟩
      try dsimp only
      rw [hzk]
      exact PLs.snoc (hex _ (.head _)) hzs (hys.mono fun b o e => k6 _ _ (kg5 _ _ e))
  clear S W1
  rintro D4 ys g₄ h8 tk8 nn4 kg4 S hys
  refine St.two S hys ?_
  clear S hys
  intro b1 b2 nc nd vc vd S hb1 sb1 hb2 sb2
  try dsimp only
  obtain ⟨g₅, kg5, S5, hex5, _⟩ := St.rebase (nx := []) (extra := [_]) S
  have hD4 := hex5 _ (.head _)
  try dsimp only at hD4
  clear S hex5
  have kall : ∀ h', g₅.StaysIn h' → g'.StaysIn h' := fun h' k b o q => k _ _ (kg5 _ _ (kg4 _ _ (kg3 _ _ (kg2 _ _ (kg1 _ _ (kg0 _ _ q))))))
  refine cp_tail (u := u) (v := v) (N := N) (fun env => (R' env).less (by decide)) (G0.mono fun b o q => kg5 _ _ (kg4 _ _ (kg3 _ _ (kg2 _ _ (kg1 _ _ q))))) S5 ⟨rfl, rfl, rfl, trivial⟩ hD4 (kg5 _ _ hb1) (kg5 _ _ hb2) sb1 sb2 hu hv h1 h2 h3 h4 ?_
  intro h9 tk9 t9 k9
  exact hQ _ _ _ (hext _ (kall _ k9))
end
-- Ct168
section
noncomputable abbrev fitP (WS : List (List Nat)) (m : List Nat) (k : Nat) : Bool := (WS.getD k []).isPrefixOf m
noncomputable def fitsL (WS : List (List Nat)) (m : List Nat) : List Nat := (List.range WS.length).filter (fitP WS m)
inductive CutTo (WS : List (List Nat)) : List Nat → List Nat → List Nat → Prop
  | stop (m : List Nat) (h : fitsL WS m = []) : CutTo WS m [] m
  | step (m : List Nat) (k : Nat) (r ns rest : List Nat) (h : fitsL WS m = k :: r) (h2 : CutTo WS (m.drop (WS.getD k []).length) ns rest) : CutTo WS m (k :: ns) rest
inductive CtJ (WS : List (List Nat)) (ns rest : List Nat) (lw NL : Addr) (n' : Nat) (m₂ : PySem.Str → Option Value) (g₂ : Heap) (nx₂ : List (Addr × Obj)) : Prop
  | mk (n1 n2 msg' : List Nat) (FA : Addr) (vn vf : List Value) (k1 k2 : Nat) (t : Tok) (e1 : n' = n2.length) (e2 : ns = n1 ++ n2) (hc : CutTo WS msg' n2 rest) (hl : msg'.length < 100) (en : nx₂ = [(FA, listOf vf.toArray k2), (NL, listOf vn.toArray k1)]) (h1 : IntsAre vn (intsN n1)) (h2 : IntsAre vf (intsN (fitsL WS msg')))
      (ha : HasAll m₂ [("message", .str (T msg') t), ("words", .ref lw), ("numbers", .ref NL), ("fits", .ref FA)]) : CtJ WS ns rest lw NL n' m₂ g₂ nx₂
set_option maxRecDepth 100000 in
set_option maxHeartbeats 4000000 in
theorem ctold_spec {w : World} {A : Around} {s : Shared} {g : Heap} {lw : Addr} {vw : List Value} {WS : List (List Nat)} {msg ns rest : List Nat} {tm : Tok} {Q : Value → Shared → Prop} (R : Rm A 1) (G : Gd w g) (st : g.StaysIn s.heap)
    (hw : LL s.heap lw vw) (hiw : TsAre vw WS) (hz : WS.length < 100) (hws : ∀ u ∈ WS, u.length < 100) (hm : msg.length < 100) (hC : CutTo WS msg ns rest) (hns : ns.length < 100)
    (hQ : ∀ h' tk' a ln vn n t, s.heap.StaysIn h' → (newPart s.heap h').IsTuple a #[.ref ln, .str (way rest) t] → (newPart s.heap h').get? ln = some (listOf vn.toArray n) → IntsAre vn (intsN ns) → Q (.ref a) { s with heap := h', toks := tk' }) :
    wpAny (model PG w) A (call (.ref 198) [.str (T msg) tm, .ref lw]) Q NoE s := by
  refine enter (binds := [("message", .str (T msg) tm), ("words", .ref lw)]) [] G st (by simp) (by simp) (by k_dflt k_is) (by k_dflt k_is) R.room (BindsTo.of_eq rfl) rfl (by decide) (by decide) ?_ rfl rfl rfl
  intro g' L h₁ tk G' hk S
  have zB : Base s := trivial
  have R' : ∀ env, Rm (A.deeper env) 0 := fun _ => R.deeper
  have hext : ∀ h', g'.StaysIn h' → s.heap.StaysIn h' := fun h' k b o e => k b o (hk b o (by simp) e)
  have hkg : s.heap.StaysIn g' := fun b o e => hk b o (by simp) e
  have hfr : ∀ a, g'.get? a = none → s.heap.get? a = none := fun a e => by
    cases q : s.heap.get? a with
    | none => rfl
    | some o => rw [hk a o (by simp) q] at e; cases e
  clear st R hk
  dsimp only [bindAll, List.foldl_cons, List.foldl_nil] at S
  have hw' : LL g' lw vw := hw.up hkg
  clear hw
  k_steps
  refine comp_assign rfl rfl rfl (by decide) (by intro _; rfl) ?_
  k_steps
  rename St _ _ _ _ _ => zS
  have hvw : vw.length = WS.length := tsAre_len hiw
  refine len_list (hw'.up zS.keep).is (by simp; exact om82 hz hvw) ?_
  k_steps
  rename St _ _ _ _ _ => zS
  refine it_r1 zS at0 (n := WS.length) (by simp [hvw]) (by exact om81 hz) (R' _).hand ?_
  clear zS
  intro I oI h' S W _
  replace S := S.forget1
  refine comp_its (fun k ys g₁ => IntsAre ys (intsN ((List.range k).filter (fitP WS msg)))) [("message", .str (T msg) tm), ("words", .ref lw)] S W (by decide) rfl rfl (by dsimp only [List.map]; decide) rfl rfl rfl (by exact om80 hz) ⟨rfl, rfl, trivial⟩ .nil rfl rfl ?_ ?_
  · clear S W
    rintro k v ys m₂ g₂ h₁ tk₁ oI2 C tl hk ⟨tv, rfl⟩ kg2 - e hys S
    replace S := S.norm e
    dsimp only [putAll, List.foldr_cons, List.foldr_nil] at S
    have hw2 : LL g₂ lw vw := hw'.up kg2
    refine let_name ?_
    k_steps
    rename St _ _ _ _ _ => zS
    have hk' : WS[k]? = some WS[k] := List.getElem?_eq_getElem hk
    obtain ⟨tx, hvx⟩ := tsAre_get hiw hk'
    have hgd : WS.getD k [] = WS[k] := by simp [List.getD, hk']
    refine item_listL (hw2.up zS.keep).is (by exact om7) (by exact om79 hz hk) (by simpa using hvx) ?_
    k_steps
    rename St _ _ _ _ _ => zS
    rw [sw_eq]
    have hfit : fitP WS msg k = WS[k].isPrefixOf msg := by unfold fitP; rw [hgd]
    have hys' : intsN ((List.range (k + 1)).filter (fitP WS msg)) = if WS[k].isPrefixOf msg = true then intsN ((List.range k).filter (fitP WS msg)) ++ [(k : Int)] else intsN ((List.range k).filter (fitP WS msg)) := by
      rw [List.range_succ, List.filter_append, ← hfit]
      by_cases hp : fitP WS msg k = true
      · rw [if_pos hp, List.filter_cons_of_pos hp, List.filter_nil]; exact List.map_append
      · rw [if_neg hp, List.filter_cons_of_neg hp, List.filter_nil, List.append_nil]
    unfold CPost
    by_cases hp : WS[k].isPrefixOf msg = true
    · rw [if_pos hp]
      rw [if_pos hp] at hys'
      k_steps
      rename St _ _ _ _ _ => zS
      refine ⟨_, _, _, g₂, [], rfl, kg2, ⟨rfl, rfl, trivial⟩, zS.cnil, fun g₃ k3 hex => ?_⟩
      try dsimp only
      rw [hys']
      exact hys.append (.cons _ _ .nil)
    · rw [if_neg hp]
      rw [if_neg hp] at hys'
      refine ⟨_, _, _, g₂, [], rfl, kg2, ⟨rfl, rfl, trivial⟩, zS.cnil, fun g₃ k3 hex => ?_⟩
      try dsimp only
      rw [hys']
      exact hys
  · clear S W
    rintro FA ys g₂ h₁ tk₁ nn kg2 S hys
    k_steps
    rename_i NL _ _ _ _ _ _ _ _ _ _ _ _ _ _
    refine while_st (CtJ WS ns rest lw NL) S ⟨[], ns, msg, FA, [], ys, 0, nn, _, rfl, rfl, hC, hm, rfl, .nil, hys, rfl, rfl, rfl, rfl, trivial⟩ ?_
    clear S
    rintro n' m₂ g₃ nx₃ h₂ tk₂ kg3 S ⟨n1, n2, msg', FA, vn, vf, k1, k2, t, rfl, rfl, hC', hm', rfl, hvn, hvf, e⟩
    replace S := S.norm e
    dsimp only [putAll, List.foldr_cons, List.foldr_nil] at S
    have G3 : Gd w g₃ := G'.mono fun b o e => kg3 _ _ (kg2 _ _ e)
    have hw3 : LL g₃ lw vw := hw'.up fun b o e => kg3 _ _ (kg2 _ _ e)
    have hfl : (fitsL WS msg').length ≤ 100 := Nat.le_trans (List.length_filter_le _ _) (by simp; exact om87 hz)
    have hvfl : vf.length ≤ 100 := by have := hvf.length; rw [List.length_map] at this; exact om86 hfl this
    have hvnl : vn.length ≤ 100 := by have := hvn.length; rw [List.length_map] at this; rw [List.length_append] at hns; exact om85 hns this
    k_steps
    rename St _ _ _ _ _ => zS
    refine ne_intsK (zS.isList at1) hvf (zS.isList at0) .nil (Nat.lt_of_le_of_lt (Nat.add_le_add_left (by decide : 64 ≤ 100) _) (R' _).units) ?_
    cases hC' with
    | stop _ h0 =>
      rw [h0]
      k_steps
      rename St _ _ _ _ _ => zS
      have hjw := join_way rest
      refine join_str zS (R' _).hand (by simp; exact om84 hm') (by decide) ?_
      clear zS
      intro h' tk t' S _
      rw [show (T rest).cps.toList = rest by simp]
      k_steps
      rename St _ _ _ _ _ => zS
      rw [hjw.1] at zS
      have hgg : g'.StaysIn g₃ := fun b o e => kg3 _ _ (kg2 _ _ e)
      have hnw : ∀ a, g₃.get? a = none → s.heap.get? a = none := fun a e => hfr a (by
        cases q : g'.get? a with
        | none => rfl
        | some o => rw [hgg _ _ q] at e; cases e)
      rw [List.append_nil] at hQ
      exact hQ _ _ _ NL vn k1 _ (hext _ fun b o e => zS.keep _ _ (hgg _ _ e)) ⟨_, newPart_get (zS.at at0) (hnw _ (zS.freshN _ (mem_fst_of_get at0))), rfl, _, rfl⟩ (newPart_get (zS.at at3) (hnw _ (zS.freshN _ (mem_fst_of_get at3)))) hvn
    | step _ k r n2' _ h0 h2 =>
      rw [h0] at hvf ⊢
      obtain ⟨tk0, vr, rfl, hvr⟩ := hvf.cons_inv
      rw [show decide (intsN (k :: r) = []) = false from decide_eq_false (by simp)]
      k_steps
      rename St _ _ _ _ _ => zS
      refine led_item zS at1 (by exact om21) (by exact om20) rfl ?_ (by with_unfolding_all rfl)
      k_steps
      rename St _ _ _ _ _ => zS
      refine led_item zS at1 (by exact om21) (by exact om20) rfl ?_ (by with_unfolding_all rfl)
      have hkm : k ∈ fitsL WS msg' := by rw [h0]; exact .head _
      obtain ⟨hkr, hkp⟩ := List.mem_filter.mp hkm
      have hkl : k < WS.length := List.mem_range.mp hkr
      have hk' : WS[k]? = some WS[k] := List.getElem?_eq_getElem hkl
      obtain ⟨tx, hvx⟩ := tsAre_get hiw hk'
      have hgd : WS.getD k [] = WS[k] := by simp [List.getD, hk']
      have hpre : WS[k].length ≤ msg'.length := by
        have h1 : (WS.getD k []).isPrefixOf msg' = true := hkp
        rw [hgd] at h1
        exact (List.isPrefixOf_iff_prefix.mp h1).length_le
      k_steps
      rename St _ _ _ _ _ => zS
      refine item_listL (hw3.up zS.keep).is (by exact om7) (by exact om79 hz hkl) (by simpa using hvx) ?_
      k_steps
      rename St _ _ _ _ _ => zS
      refine sl_from (n := WS[k].length) zS rfl hpre ?_ (by with_unfolding_all rfl) (by intro _; with_unfolding_all rfl) (by walk_at "m_size")
      rw [hgd] at h2
      have hm2 : (msg'.drop WS[k].length).length < 100 := by rw [List.length_drop]; exact om83 hm'
      generalize msg'.drop WS[k].length = msg2 at h2 hm2 ⊢
      clear zS
      intro h' t' kk S _
      k_steps
      refine comp_assign rfl rfl rfl (by decide) (by intro _; rfl) ?_
      k_steps
      rename St _ _ _ _ _ => zS
      refine len_list (hw3.up zS.keep).is (by simp; exact om82 hz hvw) ?_
      k_steps
      rename St _ _ _ _ _ => zS
      refine it_r1 zS at0 (n := WS.length) (by simp [hvw]) (by exact om81 hz) (R' _).hand ?_
      clear zS
      intro I oI h' S W _
      replace S := S.forget1
      refine comp_its (fun k ys g₁ => IntsAre ys (intsN ((List.range k).filter (fitP WS msg2)))) [("message", .str (T msg2) _), ("words", .ref lw)] S W (by decide) rfl rfl (by dsimp only [List.map]; decide) rfl rfl rfl (by exact om80 hz) ⟨rfl, rfl, trivial⟩ .nil rfl rfl ?_ ?_
      · clear S W
        rintro k v ys m₂ g₄ h₁ tk₁ oI2 C tl hk ⟨tv, rfl⟩ kg4 - e hys S
        replace S := S.norm e
        dsimp only [putAll, List.foldr_cons, List.foldr_nil] at S
        have hw4 : LL g₄ lw vw := hw3.up kg4
        refine let_name ?_
        k_steps
        rename St _ _ _ _ _ => zS
        have hk' : WS[k]? = some WS[k] := List.getElem?_eq_getElem hk
        obtain ⟨tx, hvx⟩ := tsAre_get hiw hk'
        have hgd : WS.getD k [] = WS[k] := by simp [List.getD, hk']
        refine item_listL (hw4.up zS.keep).is (by exact om7) (by exact om79 hz hk) (by simpa using hvx) ?_
        k_steps
        rename St _ _ _ _ _ => zS
        rw [sw_eq]
        have hfit : fitP WS msg2 k = WS[k].isPrefixOf msg2 := by unfold fitP; rw [hgd]
        have hys' : intsN ((List.range (k + 1)).filter (fitP WS msg2)) = if WS[k].isPrefixOf msg2 = true then intsN ((List.range k).filter (fitP WS msg2)) ++ [(k : Int)] else intsN ((List.range k).filter (fitP WS msg2)) := by
          rw [List.range_succ, List.filter_append, ← hfit]
          by_cases hp : fitP WS msg2 k = true
          · rw [if_pos hp, List.filter_cons_of_pos hp, List.filter_nil]; exact List.map_append
          · rw [if_neg hp, List.filter_cons_of_neg hp, List.filter_nil, List.append_nil]
        unfold CPost
        by_cases hp : WS[k].isPrefixOf msg2 = true
        · rw [if_pos hp]
          rw [if_pos hp] at hys'
          k_steps
          rename St _ _ _ _ _ => zS
          refine ⟨_, _, _, g₄, [], rfl, kg4, ⟨rfl, rfl, trivial⟩, zS.cnil, fun g₃ k3 hex => ?_⟩
          try dsimp only
          rw [hys']
          exact hys.append (.cons _ _ .nil)
        · rw [if_neg hp]
          rw [if_neg hp] at hys'
          refine ⟨_, _, _, g₄, [], rfl, kg4, ⟨rfl, rfl, trivial⟩, zS.cnil, fun g₃ k3 hex => ?_⟩
          try dsimp only
          rw [hys']
          exact hys
      · clear S W
        rintro FA2 ys g₄ h₁ tk₁ nn kg4 S hys
        replace S := S.forget1.forget1
        k_steps
        (show WPost _ _ _ _ _ _ _ _); dsimp only [WPost]
        refine ⟨_, _, _, g₄, _, n2'.length, rfl, fun b o e => kg4 _ _ (kg3 _ _ e), S, by simp, n1 ++ [k], n2', msg2, FA2, _, ys, k1 + 1, nn, _, rfl, by simp, h2, hm2, rfl, ?_, hys, rfl, rfl, rfl, rfl, trivial⟩
        rw [show intsN (n1 ++ [k]) = intsN n1 ++ [(k : Int)] from List.map_append]
        exact hvn.append (.cons _ _ .nil)
end
-- By168
section
open PySem PySem.W PyProof.Rows PySem.Calls PySem.Builtin PySem.Builtin.Bytes
set_option maxRecDepth 100000
noncomputable abbrev baObj (b : Array UInt8) : Obj := { cls := .type "bytearray", data := .bytearray b }
section
variable {prog : Program} {w : World} {A : Around} {E : Value → Shared → Prop} {s : Shared}
theorem wpAny_write {a : Addr} {b : Array UInt8} {f : Array UInt8 → Array UInt8} {Q : Unit → Shared → Prop} (ho : s.heap.get? a = some (baObj b)) (hz : (f b).size ≤ sizeLine)
    (h : Q () { s with heap := s.heap.update a (Obj.mapBytearray f) }) : wpAny (model prog w) A (write (.ref a) f) Q E s := by
  show wpAny _ A (updateBytearray a f) Q E s
  unfold updateBytearray
  refine wpAny_bind (wpAny_load ho ?_)
  dsimp only
  refine wpAny_bind (wpAny_update ho ?_)
  refine wpAny_lookBehind (o := baObj (f b)) (Heap.get?_update_self _ ho rfl) ?_ h
  show (if (f b).size > sizeLine then some "bytearray:memory" else none) = none
  rw [if_neg (Nat.not_lt.mpr hz)]
theorem ba_upd {h : Heap} {a : Addr} {b : Array UInt8} {f : Array UInt8 → Array UInt8} (ho : h.get? a = some (baObj b)) : (h.update a (Obj.mapBytearray f)).get? a = some (baObj (f b)) := Heap.get?_update_self (Obj.mapBytearray f) ho rfl
noncomputable abbrev u8s (ns : List Nat) : List UInt8 := ns.map fun n => n.toUInt8
theorem wpAny_payload {a : Addr} {b : Array UInt8} {Q : Array UInt8 → Shared → Prop} (ho : s.heap.get? a = some (baObj b)) (h : Q b s) : wpAny (model prog w) A (payload (.ref a)) Q E s := by
  unfold payload
  refine wpAny_bind ?_
  show wpAny _ A (payload? (.ref a)) _ _ s
  unfold payload?
  refine wpAny_bind (wpAny_load ho ?_)
  exact wpAny_pure (wpAny_pure h)
theorem wpAny_mkB {b : Array UInt8} {Q : Value → Shared → Prop} (hz : b.size ≤ 1000000) (h : ∀ t, Q (.bytes b t) { s with toks := s.toks + 1 }) : wpAny (model prog w) A (mkBytes b) Q E s := by
  unfold mkBytes
  rw [if_neg (by show ¬ b.size > (2 ^ 24 : Nat); exact om43 hz)]
  exact wpAny_bind (wpAny_fresh (wpAny_pure (h _)))
end
end
-- Bz168
section
open PySem PySem.W PyProof.Rows PySem.Calls PySem.Builtin PySem.Builtin.Bytes
set_option maxRecDepth 100000
theorem bytes_u8s (ns : List Nat) : byteArr (intsN ns) = (u8s ns).toArray := by
  unfold byteArr u8s intsN
  rw [List.map_map]
  rfl
section
variable {prog : Program} {w : World} {A : Around} {E : Value → Shared → Prop} {s : Shared} {g : Heap} {env : Env} {m : Str → Option Value} {nx : List (Addr × Obj)}
theorem call_bytes_list {l : Addr} {vs : List Value} {ns : List Nat} {Q : Value → Shared → Prop} (S : St g env s.heap m nx) (hh : A.handled = none) (hl : s.heap.IsList l vs.toArray) (hi : IntsAre vs (intsN ns)) (h256 : ∀ x ∈ ns, x < 256) (hz : ns.length ≤ 10000)
    (h : ∀ h' tk t, St g env h' m nx → s.heap.StaysIn h' → Q (.bytes (u8s ns).toArray t) { s with heap := h', toks := tk }) : wpAny (model prog w) A (call (.type "bytes") [.ref l]) Q E s :=
  call_bytes_ints hl hi (fun x hx => by
    obtain ⟨y, hy, rfl⟩ := List.mem_map.mp hx
    exact ⟨Int.natCast_nonneg y, Int.ofNat_lt.mpr (h256 y hy)⟩) (by rw [hi.length, List.length_map]; exact Nat.le_trans hz (by decide)) hh fun h' t tk k => by rw [bytes_u8s]; exact h h' tk t (S.kept k) k
end
end
-- Bb168
section
open PySem PySem.W PyProof.Rows PySem.Calls PySem.Builtin PySem.Builtin.Bytes
set_option maxRecDepth 100000
theorem ba_no_bytes : typeLookup (.type "bytearray") "__bytes__" = pure none := by rw [typeLookup_type, builtinLookup_eq_fast]; kernel_rfl
theorem ba_no_index : typeLookup (.type "bytearray") "__index__" = pure none := by rw [typeLookup_type, builtinLookup_eq_fast]; kernel_rfl
theorem ba_buffer : typeLookup (.type "bytearray") "__buffer__" = pure (some (.builtin "bytearray.__buffer__")) := by rw [typeLookup_type, builtinLookup_eq_fast]; kernel_rfl
theorem ba_release : typeLookup (.type "bytearray") "__release_buffer__" = pure (some (.builtin "bytearray.__release_buffer__")) := by rw [typeLookup_type, builtinLookup_eq_fast]; kernel_rfl
section
variable {prog : Program} {w : World} {A : Around} {E : Value → Shared → Prop} {s : Shared}
theorem slotOwn_ba {a : Addr} {b : Array UInt8} {name : String} {id : String} {Q : Bool → Shared → Prop} (ho : s.heap.get? a = some (baObj b)) (hl : typeLookup (.type "bytearray") (name : Str) = pure (some (.builtin id))) (he : id.endsWith ("." ++ name) = true) (hd : id.dropRight (name.length + 1) = "bytearray")
    (h : Q true s) : wpAny (model prog w) A (slotIsOwn (.ref a) name) Q E s := by
  have hT : s.TypeIs (.ref a) "bytearray" := ⟨_, ho, rfl⟩
  unfold slotIsOwn
  refine wpAny_bind (wpAny_specialOf hT hl ?_)
  dsimp only
  rw [he]
  simp only [Bool.not_true, Bool.false_eq_true, if_false]
  rw [hd]
  exact wpAny_isInstance hT F.sub_bytearray_bytearray h
theorem ownRelease_ba {a : Addr} {b : Array UInt8} {Q : Bool → Shared → Prop} (ho : s.heap.get? a = some (baObj b)) (h : Q false s) : wpAny (model prog w) A (ownRelease (.ref a)) Q E s := by
  unfold ownRelease
  exact wpAny_bind (slotOwn_ba ho ba_release (by decide +kernel) (by decide +kernel) (wpAny_pure h))
end
theorem bytes_new_ba (a : Addr) (b : Array UInt8) : Meets (Builtin.«bytes.__new__» ⟨[.type "bytes", .ref a], []⟩) (fun _ R s => s.heap.get? a = some (baObj b) ∧ b.size ≤ 10000 ∧ (∀ tk t, R (.ok (.ret (.bytes b t))) { s with toks := tk })) := by
  intro prog w A R s h
  obtain ⟨ho, hz, hR⟩ := h
  have hsub := F.bm_called.sub
  have hT : s.TypeIs (.ref a) "bytearray" := ⟨_, ho, rfl⟩
  obtain ⟨hp, g, d, tk, os⟩ := s
  wp_walk
  refine wpAny_of_eq ba_no_bytes ?_
  wp_walk using AutoSeq1.wpAny_loadPart' ho
  refine wpAny_of_eq ba_no_index ?_
  wp_walk
  refine wpAny_of_eq ba_buffer ?_
  dsimp only
  refine wpAny_bind (slotOwn_ba ho ba_buffer (by decide +kernel) (by decide +kernel) ?_)
  simp only [Bool.not_true, Bool.false_eq_true, if_false]
  refine wpAny_bind (wpAny_specialOf hT ba_buffer ?_)
  refine wpAny_bind (ownRelease_ba ho ?_)
  simp only [Bool.false_eq_true, if_false]
  refine wpAny_bind (wpAny_payload ho ?_)
  refine wpAny_pure ?_
  dsimp only
  refine wpAny_bind (wpAny_rule ?_)
  refine wpAny_bind (wpAny_mkB (by exact om5 hz) fun t => ?_)
  show wpAny _ _ (ret (.bytes b t)) _ _ _
  exact wpAny_pure (hR _ _)
section
variable {prog : Program} {w : World} {A : Around} {E : Value → Shared → Prop} {s : Shared} {g : Heap} {env : Env} {m : Str → Option Value} {nx : List (Addr × Obj)}
theorem call_bytes_ba {a : Addr} {b : Array UInt8} {Q : Value → Shared → Prop} (ho : s.heap.get? a = some (baObj b)) (hz : b.size ≤ 10000)
    (h : ∀ tk t, Q (.bytes b t) { s with toks := tk }) : wpAny (model prog w) A (call (.type "bytes") [.ref a]) Q E s :=
  callType_new F.bm_called (by decide) (F.bm_typeCall _) (F.bm_newCall _) (fun obj => F.args_object_init_2 obj _) F.bm_entry (bytes_new_ba a b)
    ⟨ho, hz, fun tk t => ⟨rfl, h tk t⟩⟩
end
end
-- Ba168
section
open PySem PySem.W PyProof.Rows PySem.Calls PySem.Builtin PySem.Builtin.Bytes
set_option maxRecDepth 100000
theorem slot_ba_setitem : Slot "bytearray" "__setitem__" "bytearray.__setitem__" :=
  .of (owner := "bytearray") (n := "__setitem__") (by rw [typeLookup_type, builtinLookup_eq_fast]; kernel_rfl) (by decide +kernel) (by decide +kernel) (by decide +kernel)
    (by first | exact .inl (by decide +kernel) | exact .inr (by decide +kernel)) (by rw [isSubtype_type]; kernel_rfl)
theorem entry_ba_setitem : entryFor table "bytearray.__setitem__" = some Builtin.«bytearray.__setitem__» := entryFor_of_tree (by kernel_rfl)
theorem args_ba_setitem (a b c : Value) : argsOk "bytearray.__setitem__" ⟨[a, b, c], []⟩ := by unfold argsOk; kernel_rfl
section
variable {prog : Program} {w : World} {A : Around} {E : Value → Shared → Prop} {s : Shared} {g : Heap} {env : Env} {m : Str → Option Value} {nx : List (Addr × Obj)}
theorem subscript_int {k : Int} {t : Tok} {Q : Option Int → Shared → Prop} (h0 : 0 ≤ k) (hk : k < 2 ^ 62) (h : Q (some k) s) : wpAny (model prog w) A (subscript? (.int k t)) Q E s := by
  unfold subscript?
  refine wpAny_bind (wpAny_specialOf (T := "int") (v := .int k t) rfl int_index ?_)
  simp only [Option.isNone_some, Bool.false_eq_true, if_false]
  refine wpAny_bind (wpAny_pure ?_)
  have hf : fitsIndex k = true := by unfold fitsIndex; simp; exact om4 h0 hk
  rw [hf]
  simp only [Bool.not_true, Bool.false_eq_true, if_false]
  exact wpAny_pure h
theorem ba_set {a : Addr} {b : Array UInt8} {k c : Int} {t u : Tok} {Q : Unit → Shared → Prop} (ho : s.heap.get? a = some (baObj b)) (h0 : 0 ≤ k) (hk : k < b.size) (hz : b.size ≤ 10000) (hc : 0 ≤ c ∧ c < 256)
    (hQ : Q () { s with heap := s.heap.update a (Obj.mapBytearray (·.setIfInBounds k.toNat c.toNat.toUInt8)) }) : wpAny (model prog w) A (setItem (.ref a) (.int k t) (.int c u)) Q E s := by
  have hT : s.TypeIs (.ref a) "bytearray" := ⟨_, ho, rfl⟩
  unfold setItem
  try with_reducible refine wpAny_holding ?_
  first | refine wpAny_bind (wpAny_pure ?_) | skip
  refine wpAny_bind (wpAny_sequenceKey hT (by decide) ?_)
  refine wpAny_bind (wpAny_callSpecial?_slot (name := Str.ofString "__setitem__") hT slot_ba_setitem
    (wpAny_call_entry slot_ba_setitem hT entry_ba_setitem ?_ (args_ba_setitem _ _ _)))
  unfold Builtin.«bytearray.__setitem__»
  simp only [List.isEmpty_nil, Bool.not_true, Bool.false_eq_true, if_false]
  refine wpAny_bind (subscript_int h0 (by exact om3 hk hz) ?_)
  dsimp only
  refine wpAny_bind (m := byteValue (.int c u)) ?_
  unfold byteValue
  refine wpAny_bind (wpAny_pure ?_)
  rw [if_neg (by simp; exact hc)]
  refine wpAny_pure ?_
  refine wpAny_bind (wpAny_payload ho ?_)
  have hs : seqIndex? k b.size = some k.toNat := by
    unfold seqIndex?
    have e1 : ¬ (k < 0) := by exact om2 h0
    simp only [e1, if_false]
    rw [if_pos (by simp; exact om1 h0 hk)]
  rw [hs]
  dsimp only
  refine wpAny_bind (wpAny_write ho (by show _ ≤ (2 ^ 24 : Nat); simp; exact om0 hz) ?_)
  exact wpAny_pure ⟨_, rfl, wpAny_pure hQ⟩
end
end
-- Ch168
section
theorem flat_len_W {W : Nat} : ∀ {cs : List (List Nat)}, (∀ c ∈ cs, c.length = W) → cs.flatten.length = cs.length * W
  | [], _ => by simp
  | c :: r, h => by
    rw [List.flatten_cons, List.length_append, flat_len_W fun d hd => h d (.tail _ hd), h c (.head _), List.length_cons, Nat.add_mul]; exact om61
theorem flat_get_W {W : Nat} : ∀ {cs : List (List Nat)} {i j : Nat} {c : List Nat}, (∀ c ∈ cs, c.length = W) → cs[i]? = some c → j < W → cs.flatten[i * W + j]? = c[j]?
  | [], _, _, _, _, h, _ => by simp at h
  | d :: r, 0, j, c, h, e, hj => by
    simp at e; subst e
    rw [List.flatten_cons, Nat.zero_mul, Nat.zero_add, List.getElem?_append_left (by rw [h d (.head _)]; exact hj)]
  | d :: r, i + 1, j, c, h, e, hj => by
    rw [List.flatten_cons, List.getElem?_append_right (by rw [h d (.head _), Nat.add_mul]; exact om60), h d (.head _)]
    have : (i + 1) * W + j - W = i * W + j := by rw [Nat.add_mul]; exact om59
    rw [this]
    exact flat_get_W (fun c hc => h c (.tail _ hc)) (by simpa using e) hj
theorem flat_chunk {W : Nat} : ∀ {cs : List (List Nat)} {i : Nat} {c : List Nat}, (∀ c ∈ cs, c.length = W) → cs[i]? = some c → (cs.flatten.drop (i * W)).take (i * W + W - i * W) = c
  | [], _, _, _, h => by simp at h
  | d :: r, 0, c, h, e => by
    simp at e; subst e
    have hd := h d (.head _)
    rw [List.flatten_cons, Nat.zero_mul, List.drop_zero, Nat.zero_add, Nat.sub_zero, List.take_append_of_le_length (by exact om41 hd), List.take_of_length_le (by exact om58 hd)]
  | d :: r, i + 1, c, h, e => by
    have hd := h d (.head _)
    have e1 : (i + 1) * W = d.length + i * W := by rw [Nat.add_mul, hd]; exact om53
    rw [List.flatten_cons, e1, List.drop_append, List.drop_of_length_le (by exact om57), List.nil_append]
    have e2 : d.length + i * W - d.length = i * W := by exact om56
    have e3 : d.length + i * W + W - (d.length + i * W) = i * W + W - i * W := by exact om55
    rw [e2, e3]
    exact flat_chunk (fun c hc => h c (.tail _ hc)) (by simpa using e)
noncomputable def outC (cs : List (List Nat)) (W i : Nat) : List Nat := ((cs.take i).map List.reverse).flatten ++ List.replicate ((cs.length - i) * W) 0
noncomputable def inC (cs : List (List Nat)) (W i : Nat) (c : List Nat) (j : Nat) : List Nat := ((cs.take i).map List.reverse).flatten ++ (List.replicate (W - j) 0 ++ ((c.take j).reverse ++ List.replicate ((cs.length - (i + 1)) * W) 0))
section
variable {cs : List (List Nat)} {W i j : Nat} {c : List Nat}
theorem rev_len (h : ∀ c ∈ cs, c.length = W) (hi : i ≤ cs.length) : ((cs.take i).map List.reverse).flatten.length = i * W := by
  rw [flat_len_W (W := W)]
  · rw [List.length_map, List.length_take, Nat.min_eq_left hi]
  · intro c hc
    obtain ⟨d, hd, rfl⟩ := List.mem_map.mp hc
    rw [List.length_reverse]; exact h d (List.mem_of_mem_take hd)
theorem outC_zero : outC cs W 0 = List.replicate (cs.length * W) 0 := by simp [outC]
theorem outC_end : outC cs W cs.length = (cs.map List.reverse).flatten := by simp [outC]
theorem inC_start (hi : i < cs.length) : inC cs W i c 0 = outC cs W i := by
  unfold inC outC
  have : (cs.length - i) * W = W + (cs.length - (i + 1)) * W := by
    have e : cs.length - i = (cs.length - (i + 1)) + 1 := by exact om54 hi
    rw [e, Nat.add_mul]; exact om53
  rw [this, ← List.replicate_append_replicate]; simp
theorem inC_end (hi : cs[i]? = some c) (hc : c.length = W) : inC cs W i c W = outC cs W (i + 1) := by
  unfold inC outC
  rw [List.take_add_one, hi, List.map_append, List.flatten_append]
  simp [List.take_of_length_le (Nat.le_of_eq hc)]
theorem inC_len (h : ∀ c ∈ cs, c.length = W) (hi : i < cs.length) (hc : c.length = W) (hj : j ≤ W) : (inC cs W i c j).length = cs.length * W := by
  unfold inC
  rw [List.length_append, rev_len h (Nat.le_of_lt hi)]
  simp only [List.length_append, List.length_replicate, List.length_reverse, List.length_take]
  have e : cs.length * W = i * W + W + (cs.length - (i + 1)) * W := by
    have e : cs.length = i + 1 + (cs.length - (i + 1)) := by exact om52 hi
    conv => lhs; rw [e, Nat.add_mul, Nat.add_mul]
    exact om51
  exact om50 hc e
theorem inC_set {x : Nat} (h : ∀ c ∈ cs, c.length = W) (hi : i < cs.length) (hx : c[j]? = some x) (hj : j < W) : (inC cs W i c j).set (i * W + (W - 1 - j)) x = inC cs W i c (j + 1) := by
  unfold inC
  rw [List.set_append_right _ _ (by rw [rev_len h (Nat.le_of_lt hi)]; exact om49), rev_len h (Nat.le_of_lt hi)]
  congr 1
  have e1 : W - j = (W - 1 - j) + 1 := by exact om48 hj
  have e2 : W - (j + 1) = W - 1 - j := by exact om47
  rw [show i * W + (W - 1 - j) - i * W = W - 1 - j by exact om46, e1, List.replicate_succ', List.append_assoc, List.set_append_right _ _ (by simp)]
  rw [e2, List.take_add_one, hx]
  simp
end
theorem u8_set (l : List Nat) (k x : Nat) : (u8s l).toArray.setIfInBounds k x.toUInt8 = (u8s (l.set k x)).toArray := by
  rw [List.setIfInBounds_toArray, show u8s (l.set k x) = (u8s l).set k x.toUInt8 from List.map_set]
section
variable {prog : Program} {w : World} {A : Around} {E : Value → Shared → Prop} {s : Shared} {g : Heap} {env : Env} {m : Str → Option Value} {nx : List (Addr × Obj)}
theorem led_bset {i : Nat} {a : Addr} {l : List Nat} {k c : Int} {t u : Tok} {n x : Nat} {Q : Unit → Shared → Prop} (S : St g env s.heap m nx) (hi : nx[i]? = some (a, baObj (u8s l).toArray)) (hk : k = n) (hn : n < l.length) (hz : l.length ≤ 10000) (hc : c = x) (hx : x < 256)
    (h : ∀ h', St g env h' m (nx.set i (a, baObj (u8s (l.set n x)).toArray)) → Q () { s with heap := h' }) : wpAny (model prog w) A (setItem (.ref a) (.int k t) (.int c u)) Q E s := by
  subst hk hc
  have ho := S.at hi
  refine ba_set ho (by exact om7) (by simp; exact hn) (by simp; exact hz) ⟨by exact om7, by exact om38 hx⟩ (h _ (S.upd hi (fun b y hb e => ?_) ?_))
  · exact (Heap.get?_update_other _ _ (Ne.symm hb)).trans e
  · rw [ba_upd ho, Int.toNat_natCast, Int.toNat_natCast, u8_set]
theorem bytes_item {value slice : Expr} {l : List Nat} {k : Int} {t u : Tok} {n x : Nat} {Q : Value → Shared → Prop} (hk : k = n) (hx : l[n]? = some x) (h256 : x < 256) (hz : l.length ≤ 100000) (h : ∀ t tk, Q (.int x t) { s with toks := tk })
    (hs : subscripted slice false (.bytes (u8s l).toArray t) (.int k u) = operate [.bytes (u8s l).toArray t, .int k u] (getItem (.bytes (u8s l).toArray t) (.int k u))) :
    wpAny (model prog w) A (subscriptTail value slice (.bytes (u8s l).toArray t) (.int k u)) Q E s := by
  subst hk
  have hn : n < l.length := (List.getElem?_eq_some_iff.mp hx).1
  refine tail_any (typeIs_bytes s _ t) FB.slot_bytes_getitem.lookup (getItem_bytes (by simp; exact om45 hz) (by exact om7) (by simp; exact hn) ?_) hs
  have e : ((u8s l).getD (n : Int).toNat 0).toNat = x := by
    rw [Int.toNat_natCast, List.getD_eq_getElem?_getD, List.getElem?_map, hx]
    simp; exact h256
  rw [e]; exact h _ _
end
end
-- Bl168
section
open PySem PySem.W PyProof.Rows PySem.Calls PySem.Builtin PySem.Builtin.Bytes
set_option maxRecDepth 100000
section
variable {prog : Program} {w : World} {A : Around} {E : Value → Shared → Prop} {s : Shared}
theorem sliceParts_mid {sl : Addr} {x y : Int} {tx ty : Tok} {Q : Value × Value × Value → Shared → Prop} (hs : s.heap.get? sl = some { cls := .type "slice", data := .fields #[.int x tx, .int y ty, .none] })
    (h : Q (rawInt x, rawInt y, .none) s) : wpAny (model prog w) A (sliceParts (.ref sl)) Q E s := by
  unfold sliceParts
  dsimp only
  have ix : ∀ (k : Int) (t : Tok) (Q : Value → Shared → Prop), Q (rawInt k) s → wpAny (model prog w) A (do
      if (Value.int k t == Value.none) = true then pure Value.none
      else do
        if (← specialOf (Value.int k t) "__index__").isNone then
          rule "bytes.slice.part-no-index"; raiseError "TypeError" "slice indices must be integers or None or have an __index__ method"
        return rawInt (← asIndex (Value.int k t))) Q E s := fun k t Q hQ => by
    rw [if_neg (by show ¬ false = true; decide)]
    refine wpAny_bind (wpAny_specialOf (T := "int") (v := .int k t) rfl int_index ?_)
    exact wpAny_bind (wpAny_pure (wpAny_pure hQ))
  refine wpAny_bind (wpAny_field hs rfl rfl ?_)
  refine wpAny_bind (wpAny_pure ?_)
  rw [if_neg (by show ¬ false = true; decide)]
  refine wpAny_bind (wpAny_field hs rfl rfl ?_)
  refine wpAny_bind (ix x tx _ ?_)
  refine wpAny_bind (wpAny_field hs rfl rfl ?_)
  refine wpAny_bind (ix y ty _ ?_)
  exact wpAny_pure h
theorem sliceIdx_mid {x y : Int} {n : Nat} {Q : Int × Int × Int → Shared → Prop} (hx : 0 ≤ x) (hxy : x ≤ y) (hy : y ≤ n) (h : Q (x, y, 1) s) : wpAny (model prog w) A (sliceIndices (rawInt x) (rawInt y) .none n) Q E s := by
  unfold sliceIndices
  refine wpAny_bind (wpAny_pure ?_)
  dsimp only
  rw [if_neg (by decide)]
  have e1 : ¬ x < 0 := by exact om2 hx
  have e2 : ¬ y < 0 := by exact om17 hx hxy
  have clip : ∀ (k : Int) (dflt : Int) (Q : Int → Shared → Prop), ¬ k < 0 → k ≤ n → Q k s → wpAny (model prog w) A (if (rawInt k == Value.none) = true then pure dflt
      else do
        let i ← asIndex (rawInt k)
        if (1 : Int) > 0 then pure (max 0 (min (if i < 0 then i + (n : Int) else i) (n : Int))) else pure (max (-1) (min (if i < 0 then i + (n : Int) else i) ((n : Int) - 1)))) Q E s := fun k dflt Q h0 hn hQ => by
    rw [if_neg (by show ¬ false = true; decide)]
    refine wpAny_bind (wpAny_pure ?_)
    rw [if_pos (by decide), if_neg h0]
    have : max 0 (min k (n : Int)) = k := by exact om16 h0 hn
    rw [this]
    exact wpAny_pure hQ
  refine wpAny_bind (clip x _ _ e1 (by exact om15 hxy hy) ?_)
  refine wpAny_bind (clip y _ _ e2 hy ?_)
  exact wpAny_pure h
theorem sliced_mid {b : Array UInt8} {x y : Int} (hx : 0 ≤ x) (hxy : x ≤ y) (hy : y ≤ b.size) : sliced b x y 1 = b.extract x.toNat y.toNat := by
  obtain ⟨X, rfl⟩ := Int.eq_ofNat_of_zero_le hx
  obtain ⟨Y, rfl⟩ := Int.eq_ofNat_of_zero_le (Int.le_trans hx hxy)
  have fm : ∀ c, X + c ≤ b.size → (List.range c).filterMap (fun k => b[X + k]?) = (b.toList.drop X).take c := by
    intro c
    induction c with
    | zero => intro _; simp
    | succ c ih =>
      intro hc
      rw [List.range_succ, List.filterMap_append, ih (by exact om14 hc), List.take_add_one]
      congr 1
      have h1 : b[X + c]? = some b[X + c] := Array.getElem?_eq_getElem (by exact om13 hc)
      have h2 : (b.toList.drop X)[c]? = some b[X + c] := by rw [List.getElem?_drop]; simpa using h1
      rw [h2]
      simp [h1]
  have hc : (if (1 : Int) > 0 then (if (X : Int) < Y then ((Y : Int) - X + 1 - 1) / 1 else 0) else (if (X : Int) > Y then ((X : Int) - Y - 1 - 1) / (-1) else 0)).toNat = Y - X := by
    rw [if_pos (by decide)]
    by_cases h : (X : Int) < Y
    · rw [if_pos h]; exact om12
    · rw [if_neg h]; exact om11 h
  unfold sliced sliceRange
  dsimp only
  rw [hc, List.filterMap_map]
  have e : ((fun x : Nat => b[x]?) ∘ fun k : Nat => ((X : Int) + 1 * (k : Int)).toNat) = fun k => b[X + k]? := by
    funext k
    show b[((X : Int) + 1 * (k : Int)).toNat]? = _
    rw [show ((X : Int) + 1 * (k : Int)).toNat = X + k by exact om10]
  rw [e, fm _ (by exact om9 hy hxy), Int.toNat_natCast, Int.toNat_natCast]
  refine Array.toList_inj.mp ?_
  rw [Array.toList_extract, List.extract_eq_take_drop]
theorem getItem_bslice {b : Array UInt8} {sl : Addr} {x y : Int} {t tx ty : Tok} {Q : Value → Shared → Prop} (hs : s.heap.get? sl = some { cls := .type "slice", data := .fields #[.int x tx, .int y ty, .none] }) (hx : 0 ≤ x) (hxy : x ≤ y) (hy : y ≤ b.size) (hz : b.size ≤ 10000)
    (h : ∀ t' tk, Q (.bytes (b.extract x.toNat y.toNat) t') { s with toks := tk }) : wpAny (model prog w) A (getItem (.bytes b t) (.ref sl)) Q E s := by
  have hTs : s.TypeIs (.ref sl) "slice" := ⟨_, hs, rfl⟩
  unfold getItem
  try with_reducible refine wpAny_holding ?_
  first | refine wpAny_bind (wpAny_pure ?_) | skip
  try refine wpAny_bind (wpAny_sequenceKey (typeIs_bytes s b t) (by decide) ?_)
  refine wpAny_bind (wpAny_callSpecial?_slot (name := Str.ofString "__getitem__") (typeIs_bytes s b t) FB.slot_bytes_getitem
    (wpAny_call_entry FB.slot_bytes_getitem (typeIs_bytes s b t) FB.entry_bytes_getitem ?_ (FB.args_bytes_getitem_2 _ _)))
  unfold Builtin.«bytes.__getitem__»
  wp_walk
  refine wpAny_of_eq slice_no_index ?_
  dsimp only [Option.isNone]
  rw [if_pos rfl]
  refine wpAny_pure ?_
  dsimp only
  refine wpAny_bind (wpAny_typeOf hTs ?_)
  rw [if_neg (by decide)]
  refine wpAny_bind (sliceParts_mid hs ?_)
  refine wpAny_bind (sliceIdx_mid hx hxy hy ?_)
  dsimp only
  have fin : wpAny (model prog w) A.in1 (mkBytes (sliced b x y 1) >>= fun r => ret r) (fun fin s' => ∃ v, fin = Fin.done (Flow.ret v) ∧ wpAny (model prog w) A (pure v) Q E s') E s := by
    rw [sliced_mid hx hxy hy]
    refine wpAny_bind (wpAny_mkB (by simp; exact om8 hz) fun t' => wpAny_pure ⟨_, rfl, wpAny_pure (h _ _)⟩)
  split
  · rename_i hc
    simp only [Bool.and_eq_true, beq_iff_eq] at hc
    refine wpAny_bind (wpAny_typeOf (typeIs_bytes s b t) ?_)
    rw [if_pos (by decide)]
    refine wpAny_bind (wpAny_rule (wpAny_pure ⟨_, rfl, wpAny_pure ?_⟩))
    have e : b.extract x.toNat y.toNat = b := by
      rw [hc.1.1.1, hc.1.2]; simp
    have := h t s.toks
    rw [e] at this
    exact this
  · exact fin
end
section
variable {prog : Program} {w : World} {A : Around} {E : Value → Shared → Prop} {s : Shared} {g : Heap} {env : Env} {m : Str → Option Value} {nx : List (Addr × Obj)} {value slice : Expr} {l : List Nat} {t : Tok} {Q : Value → Shared → Prop}
theorem bs_mid {x y : Int} {tx ty : Tok} {a b : Nat} (S : St g env s.heap m nx) (hx : x = a) (hy : y = b) (hab : a ≤ b) (hb : b ≤ l.length) (hz : l.length ≤ 10000) (h : ∀ h' t' k, St g env h' m nx → s.heap.StaysIn h' → Q (.bytes (u8s ((l.drop a).take (b - a))).toArray t') { s with heap := h', toks := k })
    (hs : subscripted slice false (.bytes (u8s l).toArray t) (.ref s.heap.objs.size) = operate [.ref s.heap.objs.size, .bytes (u8s l).toArray t] (getItem (.bytes (u8s l).toArray t) (.ref s.heap.objs.size))) :
    wpAny (model prog w) A (subscriptTail value slice (.bytes (u8s l).toArray t) (.ref s.heap.objs.size)) Q E { s with heap := s.heap.push { cls := .type "slice", data := .fields #[.int x tx, .int y ty, .none] } } := by
  subst hx hy
  have k : s.heap.StaysIn (s.heap.push { cls := .type "slice", data := .fields #[.int (a : Int) tx, .int (b : Int) ty, .none] }) := fun _ _ e => Heap.get?_push_of_some _ e
  refine tail_any (typeIs_bytes _ _ t) FB.slot_bytes_getitem.lookup (getItem_bslice (Heap.get?_push_size _ rfl) (by exact om7) (by exact om6 hab) (by simp; exact hb) (by simp; exact hz) fun t' tk => ?_) hs
  have e : (u8s l).toArray.extract (a : Int).toNat (b : Int).toNat = (u8s ((l.drop a).take (b - a))).toArray := by
    refine Array.toList_inj.mp ?_
    rw [Array.toList_extract, List.extract_eq_take_drop, Int.toNat_natCast, Int.toNat_natCast]
    show ((u8s l).drop a).take (b - a) = _
    rw [← List.map_drop, ← List.map_take]
  rw [e]
  exact h _ _ _ (S.kept k) k
theorem it_bytes (S : St g env s.heap m nx) (hh : A.handled = none) (h256 : ∀ x ∈ l, x < 256)
    (h : ∀ I oI h', St g env h' m ((I, oI) :: nx) → ItOk prog w A g h' I l.length (fun i v => ∃ (x : Nat) (t : Tok), l[i]? = some x ∧ v = .int x t) → s.heap.get? I = none → Q (.ref I) { s with heap := h' }) : wpAny (model prog w) A (pyIter (.bytes (u8s l).toArray t)) Q E s := by
  have hno : s.heap.get? s.heap.objs.size = none := by cases q : s.heap.get? s.heap.objs.size with | none => rfl | some o => exact absurd (Heap.lt_size q) (Nat.lt_irrefl _)
  have W := KBw.walks (prog := prog) (w := w) (A := A) hh s.heap.objs.size (u8s l).toArray t
  have hz : (u8s l).toArray.size = l.length := by simp
  rw [hz] at W
  refine KBw.pyIter_bytes (h s.heap.objs.size _ _ (S.push _ rfl) ⟨⟨[s.heap.objs.size], _, W.weaken (fun i v ⟨c, u, hc, e⟩ => ?_), ?_, fun b hb => .inl (List.mem_singleton.mp hb), ⟨_, Heap.get?_push_size _ rfl, rfl, rfl⟩⟩⟩ hno)
  · rw [List.getElem?_toArray, List.getElem?_map] at hc
    obtain ⟨x, hx, rfl⟩ := Option.map_eq_some_iff.mp hc
    refine ⟨x, u, hx, ?_⟩
    rw [e]
    have := h256 x (List.mem_of_getElem? hx)
    have e2 : (x.toUInt8).toNat = x := by simp; exact this
    rw [e2]
  · intro i h' q
    obtain ⟨o, ho, hc, _⟩ := q
    exact ⟨o, ho, _, hc, by decide⟩
end
end
-- Sp168
section
set_option maxRecDepth 100000 in
set_option maxHeartbeats 4000000 in
theorem split_spec {w : World} {A : Around} {s : Shared} {g : Heap} {u : List Nat} {c : Nat} {t1 : Tok} {Q : Value → Shared → Prop} (R : Rm A 2) (G : Gd w g) (st : g.StaysIn s.heap) (hc : c ≠ 47) (hu : u.length < 1000) (h47 : ∀ x ∈ u, x ≠ 47)
    (hQ : ∀ h' tk' a t u', s.heap.StaysIn h' → h'.get? a = some { cls := .type "tuple", data := .seq #[.str (way u) t, .str (T [c]) u'] } → s.heap.get? a = none → Q (.ref a) { s with heap := h', toks := tk' }) :
    wpAny (model PG w) A (call (.ref 157) [.str (way (u ++ [c])) t1]) Q NoE s := by
  obtain ⟨k, hk1, hk2⟩ : ∃ k, wayL (u ++ [c]) = k ++ [47] ++ [c] ∧ k = (if u = [] then [] else wayL u) := ⟨_, by rw [wayL_snoc]; split <;> simp, rfl⟩
  have hkl : k.length < 3000 := by have := wayL_len u; rw [hk2]; split <;> simp <;> exact om451 hu this
  rw [show way (u ++ [c]) = T (k ++ [47] ++ [c]) by rw [way, hk1]]
  refine enter (binds := [("p", .str (T (k ++ [47] ++ [c])) t1)]) [] G st (by simp) (by simp) (by k_dflt k_is) (by k_dflt k_is) R.room (BindsTo.of_eq rfl) rfl (by decide) (by decide) ?_ rfl rfl rfl
  intro g' L h₁ tk G' hk S
  have zB : Base s := trivial
  have R' : ∀ env, Rm (A.deeper env) 1 := fun _ => R.deeper
  have hext : ∀ h', g'.StaysIn h' → s.heap.StaysIn h' := fun h' k b o e => k b o (hk b o (by simp) e)
  have hfr : ∀ a, g'.get? a = none → s.heap.get? a = none := fun a e => by
    cases q : s.heap.get? a with
    | none => rfl
    | some o => rw [hk a o (by simp) q] at e; cases e
  clear G st R hk
  dsimp only [bindAll, List.foldl_cons, List.foldl_nil] at S
  have et : (k ++ [47] ++ [c]).take (k.length + 1) = k ++ [47] := by rw [List.take_append_of_le_length (by simp), List.take_of_length_le (by simp)]
  have ed : (k ++ [47] ++ [c]).drop (k.length + 1) = [c] := by rw [List.drop_append_of_le_length (by simp), List.drop_of_length_le (by simp)]; rfl
  k_steps
  rename St _ _ _ _ _ => zS
  refine sl_to (n := k.length + 1) zS (by rw [rf_way _ _ hc]; rfl) ?_ (by with_unfolding_all rfl) (by intro _; with_unfolding_all rfl) (by walk_at "m_size")
  rw [et]
  clear zS
  intro h' t' kk S' _
  k_steps
  rename St _ _ _ _ _ => zS
  refine sl_from (n := k.length + 1) zS (by rw [rf_way _ _ hc]; rfl) (by simp) ?_ (by with_unfolding_all rfl) (by intro _; with_unfolding_all rfl) (by walk_at "m_size")
  rw [ed]
  clear zS
  intro h' t' kk S' _
  k_steps
  refine KXt.truthy_pos (K := k.length + 1) (by rw [T_len]; simp) (by rw [T_len]; simp) (by exact om450 hkl) fun kk => ?_
  k_steps
  refine mul_T (n := k.length + 1) (by simp) (by exact om442) (by exact om449 hkl) fun t' kk => ?_
  k_steps
  · refine SCL.rstripChars (hsz := by walk_at "m_size") ?_
    have hu0 : u ≠ [] := by
      intro q
      rename (_ != _) = true => hne
      rw [hk2, if_pos q] at hne
      exact absurd hne (by decide)
    have hkw : k = wayL u := by rw [hk2, if_neg hu0]
    rw [rs_way (hkw ▸ wayL_last hu0 h47)]
    intro t' kk _
    k_steps
    rename St _ _ _ _ _ => zS
    have ea := zS.at (i := 0) rfl
    rw [hkw] at ea
    exact hQ _ _ _ _ _ (hext _ zS.keep) ea (hfr _ (zS.freshN _ (.head _)))
  · have hu0 : u = [] := by
      refine Classical.byContradiction fun hu0 => ?_
      rename (_ != _) = false => hne
      have hkw : k = wayL u := by rw [hk2, if_neg hu0]
      have e1 : k ++ [47] = List.replicate (k.length + 1) 47 := T_inj (by simpa using hne)
      rw [List.replicate_succ'] at e1
      have e2 := List.append_inj_left e1 (by simp)
      refine wayL_last hu0 h47 ?_
      rw [← hkw, e2, List.getLast?_replicate]
      have : k.length ≠ 0 := by rw [hkw]; have := wayL_len u; exact om448 this
      simp [this]
    rename St _ _ _ _ _ => zS
    have ea := zS.at (i := 0) rfl
    have hkw : k ++ [47] = wayL u := by rw [hk2, if_pos hu0, hu0]; rfl
    rw [hkw] at ea
    exact hQ _ _ _ _ _ (hext _ zS.keep) ea (hfr _ (zS.freshN _ (.head _)))
theorem sp_call {w : World} {A : Around} {s : Shared} {g : Heap} {env : Env} {m : Str → Option Value} {nx : List (Addr × Obj)} {u : List Nat} {c : Nat} {t1 : Tok} {Q : Value → Shared → Prop} (S : St g env s.heap m nx) (G : Gd w g) (R : Rm A 2) (hc : c ≠ 47) (hu : u.length < 1000) (h47 : ∀ x ∈ u, x ≠ 47)
    (h : ∀ h' tk' a t t', St g env h' m nx → h'.IsTuple a [.str (way u) t, .str (T [c]) t'].toArray → Q (.ref a) { s with heap := h', toks := tk' }) : wpAny (model PG w) A (call (.ref 157) [.str (way (u ++ [c])) t1]) Q NoE s :=
  split_spec R G S.keep hc hu h47 fun h' tk' a t t' k e _ => h h' tk' a t t' (S.kept k) ⟨_, e, rfl, _, rfl⟩
end
-- Rd168
section
noncomputable def valN (c : List Nat) : Nat := c.foldl (fun n x => n * 2 + (x - 48)) 0
theorem valN_snoc (c : List Nat) (x : Nat) : valN (c ++ [x]) = valN c * 2 + (x - 48) := by unfold valN; rw [List.foldl_append]; rfl
theorem valN_lt (c : List Nat) (h : ∀ x ∈ c, 48 ≤ x ∧ x ≤ 49) : valN c < 2 ^ c.length := by
  have key : ∀ (n : Nat) (c : List Nat), c.length = n → (∀ x ∈ c, 48 ≤ x ∧ x ≤ 49) → valN c < 2 ^ n := by
    intro n
    induction n with
    | zero => intro c hc _; rw [List.length_eq_zero_iff.mp hc]; decide
    | succ n ih =>
      intro c hc hb
      rcases List.eq_nil_or_concat c with rfl | ⟨d, x, rfl⟩
      · simp at hc
      · rw [List.concat_eq_append] at hc hb ⊢
        have h1 := ih d (by simpa using hc) fun y hy => hb y (by simp [hy])
        have h2 := hb x (by simp)
        rw [valN_snoc, Nat.pow_succ]
        exact om352 h1 h2
  exact key _ c rfl h
theorem flat_le {l : List (List Nat)} {f : List Nat → List Nat} {n : Nat} (h : ∀ c ∈ l, (f c).length ≤ n) : (l.flatMap f).length ≤ l.length * n := by
  induction l with
  | nil => simp
  | cons c r ih =>
    rw [List.flatMap_cons, List.length_append, List.length_cons, Nat.add_mul]
    have h1 := h c (.head _)
    have h2 := ih fun d hd => h d (.tail _ hd)
    exact om351 h1 h2
theorem way_half (u : List Nat) : (((wayL u).length : Nat) : Int).fdiv 2 = (u.length : Nat) := by
  rw [Int.fdiv_eq_ediv_of_nonneg _ (by decide)]
  unfold wayL
  split
  · rename_i h; subst h; rfl
  · rw [flat_len]; exact om350
inductive RdA (WS cs : List (List Nat)) (W : Nat) (lw : Addr) (b : Array UInt8) (t tw : Tok) (i : Nat) (m₁ : PySem.Str → Option Value) (g₁ : Heap) (nx₁ : List (Addr × Obj)) : Prop
  | mk (tm : Tok) (en : nx₁ = []) (ha : HasAll m₁ [("row", .bytes b t), ("width", .int W tw), ("ways", .ref lw), ("message", .str (T ((cs.take i).flatMap fun c => WS.getD (valN c) [])) tm)]) : RdA WS cs W lw b t tw i m₁ g₁ nx₁
theorem RdA.of {WS cs : List (List Nat)} {W : Nat} {lw : Addr} {b : Array UInt8} {t tw : Tok} {i : Nat} {m₁ : PySem.Str → Option Value} {g₁ : Heap} {nx₁ : List (Addr × Obj)} {M : List Nat} (e : ((cs.take i).flatMap fun c => WS.getD (valN c) []) = M) (tm : Tok) (en : nx₁ = []) (ha : HasAll m₁ [("row", .bytes b t), ("width", .int W tw), ("ways", .ref lw), ("message", .str (T M) tm)]) : RdA WS cs W lw b t tw i m₁ g₁ nx₁ := by subst e; exact ⟨tm, en, ha⟩
inductive RdB (msg : List Nat) (cs : List (List Nat)) (c : List Nat) (W iW : Nat) (lw I : Addr) (oI : Obj) (t tw : Tok) (j : Nat) (m₁ : PySem.Str → Option Value) (g₁ : Heap) (nx₁ : List (Addr × Obj)) : Prop
  | mk (tk tnu tm : Tok) (en : nx₁ = [(I, oI)]) (ha : HasAll m₁ [("row", .bytes (u8s cs.flatten).toArray t), ("width", .int W tw), ("ways", .ref lw), ("message", .str (T msg) tm), ("k", .int iW tk), ("number", .int (valN (c.take j)) tnu)]) : RdB msg cs c W iW lw I oI t tw j m₁ g₁ nx₁
inductive RdC (msg : List Nat) (cs : List (List Nat)) (u : List Nat) (W iW : Nat) (lw I : Addr) (oI : Obj) (t tw : Tok) (j : Nat) (m₁ : PySem.Str → Option Value) (g₁ : Heap) (nx₁ : List (Addr × Obj)) : Prop
  | mk (tk tw1 tl tm : Tok) (ua ub : List Nat) (ea : ua = u.take (u.length - j)) (eb : ub = u.drop (u.length - j)) (en : nx₁ = [(I, oI)]) (ha : HasAll m₁ [("row", .bytes (u8s cs.flatten).toArray t), ("width", .int W tw), ("ways", .ref lw), ("message", .str (T msg) tm), ("k", .int iW tk), ("way", .str (way ua) tw1), ("letters", .str (T ub) tl)]) : RdC msg cs u W iW lw I oI t tw j m₁ g₁ nx₁
set_option maxRecDepth 100000 in
set_option maxHeartbeats 4000000 in
theorem read_spec {w : World} {A : Around} {s : Shared} {g : Heap} {lw : Addr} {vw : List Value} {WS cs : List (List Nat)} {W : Nat} {t tw : Tok} {Q : Value → Shared → Prop} (R : Rm A 3) (G : Gd w g) (st : g.StaysIn s.heap)
    (hw : LL s.heap lw vw) (hiw : TsAre vw (WS.map wayL)) (hz : WS.length < 100) (hws : ∀ u ∈ WS, u.length < 100 ∧ ∀ c ∈ u, c ≠ 47) (hW : 0 < W ∧ W ≤ 10) (hcs : ∀ c ∈ cs, c.length = W) (hl : cs.length ≤ 100) (hbit : ∀ c ∈ cs, ∀ x ∈ c, 48 ≤ x ∧ x ≤ 49) (hval : ∀ c ∈ cs, valN c < WS.length)
    (hQ : ∀ h' tk' t, s.heap.StaysIn h' → Q (.str (T (cs.flatMap fun c => WS.getD (valN c) [])) t) { s with heap := h', toks := tk' }) :
    wpAny (model PG w) A (call (.ref 210) [.bytes (u8s cs.flatten).toArray t, .int W tw, .ref lw]) Q NoE s := by
  have hfl : cs.flatten.length = cs.length * W := flat_len_W hcs
  have hNW : cs.length * W ≤ 1000 := Nat.mul_le_mul hl hW.2
  have hlen : (u8s cs.flatten).toArray.size = cs.length * W := by rw [List.size_toArray, List.length_map, hfl]
  refine enter (binds := [("row", .bytes (u8s cs.flatten).toArray t), ("width", .int W tw), ("ways", .ref lw)]) [] G st (by simp) (by simp) (by k_dflt k_is) (by k_dflt k_is) R.room (BindsTo.of_eq rfl) rfl (by decide) (by decide) ?_ rfl rfl rfl
  intro g' L h₁ tk G' hk S
  have zB : Base s := trivial
  have R' : ∀ env, Rm (A.deeper env) 2 := fun _ => R.deeper
  have hext : ∀ h', g'.StaysIn h' → s.heap.StaysIn h' := fun h' k b o e => k b o (hk b o (by simp) e)
  have hkg : s.heap.StaysIn g' := fun b o e => hk b o (by simp) e
  have hfr : ∀ a, g'.get? a = none → s.heap.get? a = none := fun a e => by
    cases q : s.heap.get? a with
    | none => rfl
    | some o => rw [hk a o (by simp) q] at e; cases e
  clear st R hk
  dsimp only [bindAll, List.foldl_cons, List.foldl_nil] at S
  have hw' : LL g' lw vw := hw.up hkg
  clear hw
  generalize hb : (u8s cs.flatten).toArray = b at hlen S
  k_steps
  rename St _ _ _ _ _ => zS
  refine range3 (n := cs.length * W) (c := W) zS (by rw [hlen]) rfl (by exact om34 hW) (by exact om32 hW) (by exact om33 hNW) ?_
  clear zS
  intro r h' tk t1 u1 v1 S _
  k_steps
  rename St _ _ _ _ _ => zS
  refine it_r3 zS at0 (N := cs.length) (by exact om34 hW) rfl (by exact om33 hNW) (by exact om32 hW) (R' _).hand ?_
  clear zS
  intro I oI h' S W' _
  replace S := S.forget1
  have hmsg : ∀ i, ((cs.take i).flatMap fun c => WS.getD (valN c) []).length ≤ 100 * 100 := fun i => by
    have h1 := flat_le (l := cs.take i) (f := fun c => WS.getD (valN c) []) (n := 100) fun c hc => by
      have hv := hval c (List.mem_of_mem_take hc)
      have : WS.getD (valN c) [] = WS[valN c] := by simp [List.getD, hv]
      rw [this]; exact Nat.le_of_lt (hws _ (List.getElem_mem hv)).1
    exact Nat.le_trans h1 (Nat.mul_le_mul_right 100 (by rw [List.length_take]; exact om349 hl))
  refine for_it (RdA WS cs W lw b t tw) S W' ⟨_, rfl, rfl, rfl, rfl, rfl, trivial⟩ ?_ ?_
  · clear S W'
    rintro i v m₁ g₁ nx₁ h₁ tk₁ oI hi ⟨ti, rfl⟩ kg - S ⟨tm, rfl, e⟩
    replace S := S.norm e
    dsimp only [putAll, List.foldr_cons, List.foldr_nil] at S
    obtain ⟨c, hc⟩ : ∃ c, cs[i]? = some c := get_some hi
    have hcm := List.mem_of_getElem? hc
    have G1 : Gd w g₁ := G'.mono kg
    have hw1 : LL g₁ lw vw := hw'.up kg
    have hiW : (i + 1) * W ≤ cs.length * W := Nat.mul_le_mul_right W hi
    rw [Nat.add_mul, Nat.one_mul] at hiW
    refine let_name ?_
    k_steps
    rename St _ _ _ _ _ => zS
    subst hb
    refine bs_mid (a := i * W) (b := i * W + W) zS rfl rfl (by exact om57) (by rw [hfl]; exact hiW) (by rw [hfl]; exact om28 hNW) ?_ (by with_unfolding_all rfl)
    rw [flat_chunk hcs hc]
    clear zS
    intro h' tb k S _
    k_steps
    rename St _ _ _ _ _ => zS
    refine it_bytes zS (R' _).hand (fun x hx => by have := hbit c hcm x hx; exact om285 this) ?_
    clear zS
    intro I2 oI2 h' S W2 _
    have hvb : ∀ j, valN (c.take j) < 2 ^ 10 := fun j => by
      have h1 := valN_lt (c.take j) fun x hx => hbit c hcm x (List.mem_of_mem_take hx)
      have h2 : (c.take j).length ≤ 10 := by rw [List.length_take, hcs c hcm]; exact om348 hW
      exact Nat.lt_of_lt_of_le h1 (Nat.pow_le_pow_right (by decide) h2)
    refine for_it (RdB ((cs.take i).flatMap fun c => WS.getD (valN c) []) cs c W (i * W) lw I oI t tw) S W2 ⟨_, _, _, rfl, rfl, rfl, rfl, rfl, rfl, rfl, trivial⟩ ?_ ?_
    · clear S W2
      rintro j v m₂ g₂ nx₂ h₁ tk₁ oI2 hj ⟨x, tj, hx, rfl⟩ kg2 - S ⟨tk, tnu, tm, rfl, e⟩
      replace S := S.norm e
      dsimp only [putAll, List.foldr_cons, List.foldr_nil] at S
      have hxb := hbit c hcm x (List.mem_of_getElem? hx)
      have hvj := hvb j
      have hvn : (((valN (c.take j) : Nat) : Int) * 2 + (x : Int) - 48) = ((valN (c.take (j + 1)) : Nat) : Int) := by
        unfold valN
        rw [List.take_add_one, hx, List.foldl_append]
        simp only [Option.toList, List.foldl_cons, List.foldl_nil]
        exact om347 hxb
      generalize valN (c.take j) = nj at hvj hvn S
      refine let_name ?_
      k_steps
      rename St _ _ _ _ _ => zS
      rw [hvn] at zS
      (show FPost _ _ _ _ _ _ _ _ _ _); dsimp only [FPost]
      exact ⟨_, _, _, _, [(I, oI)], [], rfl, kg2, zS, fun g₃ k3 _ => ⟨_, _, _, rfl, rfl, rfl, rfl, rfl, rfl, rfl, trivial⟩⟩
    · clear S W2
      rintro m₂ g₂ nx₂ h₁ tk₁ kg2 S ⟨tk, tnu, tm, rfl, e⟩
      rw [List.take_length] at e
      replace S := S.norm e
      dsimp only [putAll, List.foldr_cons, List.foldr_nil] at S
      have hw2 : LL g₂ lw vw := hw1.up kg2
      have G2 : Gd w g₂ := G1.mono kg2
      have hvc := hval c hcm
      obtain ⟨u, hu⟩ : ∃ u, WS[valN c]? = some u := get_some hvc
      have hum := List.mem_of_getElem? hu
      have hu1 := hws u hum
      obtain ⟨tx, hvx⟩ := tsAre_get (i := valN c) hiw (u := wayL u) (by rw [List.getElem?_map, hu]; rfl)
      have hnew : ((cs.take (i + 1)).flatMap fun c => WS.getD (valN c) []) = ((cs.take i).flatMap fun c => WS.getD (valN c) []) ++ u := by
        rw [List.take_add_one, hc, List.flatMap_append]; simp [List.getD, hu]
      have hml := hmsg i
      have hwl := wayL_len u
      k_steps
      rename St _ _ _ _ _ => zS
      refine item_listL (hw2.up zS.keep).is (by exact om7) (by exact om79 hz hvc) (by simpa using hvx) ?_
      k_steps
      rename St _ _ _ _ _ => zS
      refine it_r1 zS at0 (n := u.length) (way_half u) (by omega) (R' _).hand ?_
      clear zS
      intro I3 oI3 h' S W3 _
      replace S := S.forget1
      have hcsl := hcs
      refine for_it (RdC ((cs.take i).flatMap fun c => WS.getD (valN c) []) cs u W (i * W) lw I oI t tw) S W3 ⟨_, _, _, _, u, [], by simp, by simp, rfl, rfl, rfl, rfl, rfl, rfl, rfl, rfl, trivial⟩ ?_ ?_
      · clear S W3
        rintro j v m₃ g₃ nx₃ h₁ tk₁ oI3 hj ⟨tj, rfl⟩ kg3 - S ⟨tk, tw1, tl, tm, ua, ub, eua, eub, rfl, e⟩
        replace S := S.norm e
        dsimp only [putAll, List.foldr_cons, List.foldr_nil] at S
        have G3 : Gd w g₃ := G2.mono kg3
        obtain ⟨c', hc'⟩ : ∃ c', u[u.length - (j + 1)]? = some c' := get_some (by exact om346 hj)
        have et : u.take (u.length - j) = u.take (u.length - (j + 1)) ++ [c'] := by
          rw [show u.length - j = u.length - (j + 1) + 1 by exact om54 hj, List.take_add_one, hc']; rfl
        have ed : u.drop (u.length - (j + 1)) = c' :: u.drop (u.length - j) := by
          have hlt : u.length - (j + 1) < u.length := by exact om346 hj
          rw [List.drop_eq_getElem_cons hlt, show u.length - (j + 1) + 1 = u.length - j by exact om345 hj]
          have := List.getElem?_eq_getElem hlt
          rw [hc'] at this; cases this; rfl
        rw [← eua] at et
        rw [← eub] at ed
        have hdl : ub.length ≤ 100 := by rw [eub, List.length_drop]; omega
        rw [et] at S
        refine let_name ?_
        k_steps
        rename St _ _ _ _ _ => zS
        refine sp_call zS G3 ((R' _).less (by decide)) (hu1.2 c' (List.mem_of_getElem? hc')) (by rw [List.length_take]; omega) (fun x hx => hu1.2 x (List.mem_of_mem_take hx)) ?_
        clear zS
        intro h' tk' a t2 t3 S ht
        k_steps
        refine as_tup (vs := [.str (way (u.take (u.length - (j + 1)))) t2, .str (T [c']) t3]) S (R' _).hand ht rfl rfl ?_
        clear S
        intro h' S _
        k_steps
        rename St _ _ _ _ _ => zS
        rw [T_app] at zS
        (show FPost _ _ _ _ _ _ _ _ _ _); dsimp only [FPost]
        exact ⟨_, _, _, _, [(I, oI)], [], rfl, kg3, zS, fun g₃ k3 _ => ⟨_, _, _, _, u.take (u.length - (j + 1)), c' :: ub, rfl, ed.symm, rfl, rfl, rfl, rfl, rfl, rfl, rfl, rfl, trivial⟩⟩
      · clear S W3
        rintro m₃ g₃ nx₃ h₁ tk₁ kg3 S ⟨tk, tw1, tl, tm, ua, ub, eua, eub, rfl, e⟩
        rw [Nat.sub_self, List.take_zero] at eua
        rw [Nat.sub_self, List.drop_zero] at eub
        subst eua eub
        replace S := S.norm e
        dsimp only [putAll, List.foldr_cons, List.foldr_nil] at S
        have G3 : Gd w g₃ := G2.mono kg3
        generalize hM : ((cs.take i).flatMap fun c => WS.getD (valN c) []) = M at S hml hnew
        k_steps
        rename St _ _ _ _ _ => zS
        rw [T_app] at zS
        (show FPost _ _ _ _ _ _ _ _ _ _); dsimp only [FPost]
        refine ⟨_, _, _, _, [], [], rfl, fun b o e => kg3 _ _ (kg2 _ _ (kg _ _ e)), zS, fun g₃ k3 _ => ?_⟩
        try dsimp only
        exact RdA.of hnew _ rfl ⟨rfl, rfl, rfl, rfl, trivial⟩
  · clear S W'
    rintro m₁ g₁ nx₁ h₁ tk₁ kg S ⟨tm, rfl, e⟩
    rw [List.take_of_length_le (Nat.le_refl _)] at e
    replace S := S.norm e
    dsimp only [putAll, List.foldr_cons, List.foldr_nil] at S
    try dsimp only
    k_steps
    rename St _ _ _ _ _ => zS
    exact hQ _ _ _ (hext _ fun b o e => zS.keep _ _ (kg _ _ e))
end
-- La2
section
noncomputable def bitN (n p : Nat) : Nat := 48 + n / 2 ^ p % 2
theorem bit_int (n p : Nat) : (48 : Int) + ((n : Int).fdiv (2 ^ p)).fmod 2 = (bitN n p : Nat) := by
  rw [Int.fdiv_eq_ediv_of_nonneg _ (Int.le_of_lt (Int.pow_pos (by decide))), Int.fmod_eq_emod_of_nonneg _ (by decide)]
  have : ((2 : Int) ^ p) = ((2 ^ p : Nat) : Int) := by norm_cast
  rw [this]
  unfold bitN
  omega
noncomputable abbrev bitsN (pl : Nat → Nat) (W n : Nat) : List Nat := (List.range W).map fun j => bitN n (pl j)
theorem flatBits_len (pl : Nat → Nat) (W : Nat) : ∀ l : List Nat, (l.flatMap (bitsN pl W)).length = l.length * W
  | [] => by simp
  | x :: r => by rw [List.flatMap_cons, List.length_append, flatBits_len pl W r, List.length_map, List.length_range, List.length_cons, Nat.add_mul]; exact om61
set_option maxRecDepth 100000 in
set_option maxHeartbeats 4000000 in
theorem laid_spec {w : World} {A : Around} {s : Shared} {g : Heap} {ln ap : Addr} {vn : List Value} {ns : List Nat} {a b c : Int} {t u v : Tok} {W : Nat} {pl : Nat → Nat} {Q : Value → Shared → Prop} (R : Rm A 1) (G : Gd w g) (st : g.StaysIn s.heap)
    (hn : LL s.heap ln vn) (hi : IntsAre vn (intsN ns)) (hnl : ns.length < 100) (hnb : ∀ n ∈ ns, n < 1000) (hr : IsRange s.heap ap a b c t u v) (hsm : Builtin.Range.small a b c = true) (hsz : Builtin.Range.rangeSize a b c = (W : Int)) (hW : W ≤ 10) (hpl : ∀ j, j < W → a + j * c = (pl j : Int) ∧ pl j < 10)
    (hQ : ∀ h' tk' t, s.heap.StaysIn h' → Q (.bytes (u8s (ns.flatMap (bitsN pl W))).toArray t) { s with heap := h', toks := tk' }) :
    wpAny (model PG w) A (call (.ref 203) [.ref ln, .ref ap]) Q NoE s := by
  refine enter (binds := [("numbers", .ref ln), ("places", .ref ap)]) [] G st (by simp) (by simp) (by k_dflt k_is) (by k_dflt k_is) R.room (BindsTo.of_eq rfl) rfl (by decide) (by decide) ?_ rfl rfl rfl
  intro g' L h₁ tk G' hk S
  have zB : Base s := trivial
  have R' : ∀ env, Rm (A.deeper env) 0 := fun _ => R.deeper
  have hext : ∀ h', g'.StaysIn h' → s.heap.StaysIn h' := fun h' k b o e => k b o (hk b o (by simp) e)
  have hkg : s.heap.StaysIn g' := fun b o e => hk b o (by simp) e
  have hfr : ∀ a, g'.get? a = none → s.heap.get? a = none := fun a e => by
    cases q : s.heap.get? a with
    | none => rfl
    | some o => rw [hk a o (by simp) q] at e; cases e
  clear st R hk
  dsimp only [bindAll, List.foldl_cons, List.foldl_nil] at S
  have hn' : LL g' ln vn := hn.up hkg
  have hr' : IsRange g' ap a b c t u v := hkg _ _ hr
  clear hn hr
  k_steps
  refine comp2_eval rfl rfl (by decide) (by intro _; rfl) ?_
  k_steps
  rename St _ _ _ _ _ => zS
  refine it_list (vs := vn) zS (R' _).hand hn'.is ?_
  clear zS
  intro I oI h' S W' _
  have hvl : vn.length = ns.length := by have := hi.length; simpa using this
  refine comp2_run (n := vn.length) (k := W) (P0 := fun i v => vn[i]? = some v) (P1 := fun j v => ∃ t, v = .int (a + j * c) t) (fun i j ys => IntsAre ys (intsN ((ns.take i).flatMap (bitsN pl W) ++ (List.range j).map fun j => bitN (ns.getD i 0) (pl j)))) [("places", .ref ap)] (by decide) rfl rfl (by dsimp only [List.map]; decide) rfl rfl rfl (by intro _ _; rfl) (R' _).hand S W' ?_ ⟨rfl, trivial⟩ .nil ?_ ?_ ?_ ?_
  · have : vn.length * W ≤ 100 * 10 := Nat.mul_le_mul (by exact om225 hnl hvl) hW
    exact om224 hW this
  · intro i ys hi' hys
    obtain ⟨n, hn2⟩ : ∃ n, ns[i]? = some n := get_some (by exact om223 hvl hi')
    rw [show ns.getD i 0 = n by simp [List.getD, hn2]] at hys
    rw [List.take_add_one, hn2, List.flatMap_append]
    simpa using hys
  · intro i j ys hi' hj hys
    have h1 := hys.length
    rw [h1, List.length_map, List.length_append, flatBits_len, List.length_map, List.length_range, List.length_take]
    exact Nat.add_le_add_right (Nat.mul_le_mul_right W (Nat.min_le_left _ _)) j
  · clear S W'
    intro i v ys m₁ h₁ tk₁ oI C tl hi' hP hys _ e S
    replace S := S.norm e
    dsimp only [putAll, List.foldr_cons, List.foldr_nil] at S
    obtain ⟨n, hn2⟩ : ∃ n, ns[i]? = some n := get_some (by exact om223 hvl hi')
    obtain ⟨tn, hvn⟩ : ∃ t, vn[i]? = some (.int (n : Int) t) := IntsAre.get hi i n (by rw [List.getElem?_map, hn2]; rfl)
    rw [hvn] at hP
    cases hP
    refine let_name ?_
    k_steps
    rename St _ _ _ _ _ => zS
    refine it_range zS (R' _).hand (zS.keep _ _ hr') hsm hsz ?_
    clear zS
    intro I1 oI1 h' S W1 _
    refine ⟨I1, oI1, _, _, _, [("number", .int n _)], rfl, rfl, ⟨rfl, rfl, trivial⟩, S, W1, ?_⟩
    clear S W1
    intro j uv ys m₃ h₃ tk₃ oI1 tl' hj ⟨tu, hu⟩ hys _ e S
    replace S := S.norm e
    dsimp only [putAll, List.foldr_cons, List.foldr_nil, List.nil_append, List.cons_append] at S
    subst hu
    have hp2 := (hpl j hj).2
    rw [(hpl j hj).1]
    generalize hpj : pl j = p at hp2 ⊢
    have hd : (0 : Int) < 2 ^ p := Int.pow_pos (by decide)
    have hd2 : (2 : Int) ^ p ≤ 1024 := by
      have h1 : 2 ^ p ≤ 2 ^ 10 := Nat.pow_le_pow_right (by decide) (Nat.le_of_lt hp2)
      have h2 : ((2 : Int) ^ p) = ((2 ^ p : Nat) : Int) := by norm_cast
      rw [h2]; exact_mod_cast h1
    refine let_name ?_
    k_steps
    rw [Int.toNat_natCast]
    have hn1 := hnb n (List.mem_of_getElem? hn2)
    refine floordiv_int (by exact om222 hd) ?_ (.inl (PyProof.noPylong_small (by omega)))
    k_steps
    rename St _ _ _ _ _ => zS
    rw [bit_int]
    refine ⟨_, _, _, rfl, ⟨rfl, rfl, trivial⟩, zS, ?_⟩
    try dsimp only at hys ⊢
    rw [show ns.getD i 0 = n by simp [List.getD, hn2]] at hys ⊢
    rw [List.range_succ, List.map_append, ← List.append_assoc]
    rw [show ∀ l : List Nat, intsN (l ++ List.map (fun j => bitN n (pl j)) [j]) = intsN l ++ [((bitN n p : Nat) : Int)] from fun l => by simp [hpj]]
    exact hys.append (.cons _ _ .nil)
  · intro D C oC mC ys h₁ tk₁ nn hnC S hys
    refine ⟨mC, hnC, fun h' hs => ?_⟩
    replace S := S.drop0 fun b o hb e => hs.extBut b o hb e
    k_steps
    rename St _ _ _ _ _ => zS
    rw [List.take_of_length_le (by exact om41 hvl), List.range_zero, List.map_nil, List.append_nil] at hys
    refine call_bytes_list zS (R' _).hand (zS.isList at0) hys (fun x hx => ?_) ?_ fun h' tk t S k => hQ _ _ _ (hext _ S.keep)
    · obtain ⟨n, _, hx⟩ := List.mem_flatMap.mp hx
      obtain ⟨j, _, rfl⟩ := List.mem_map.mp hx
      unfold bitN; exact om221
    · rw [flatBits_len]
      have : ns.length * W ≤ 100 * 10 := Nat.mul_le_mul (by exact om87 hnl) hW
      exact om220 this
end
-- Hm168
section
theorem wgetD_of {WS : List (List Nat)} {k : Nat} (h : k < WS.length) : WS.getD k [] = WS[k] := by simp [List.getD, h]
theorem fits_nil {WS : List (List Nat)} {u : List Nat} (h : ∀ w ∈ WS, ¬ w <+: u) : fitsL WS u = [] := by
  unfold fitsL
  refine List.filter_eq_nil_iff.mpr fun k hk => ?_
  have hk' := List.mem_range.mp hk
  rw [fitP, wgetD_of hk', List.isPrefixOf_iff_prefix]
  exact h _ (List.getElem_mem hk')
theorem filter_head {p : Nat → Bool} {n i : Nat} (hi : i < n) (hp : p i = true) (hl : ∀ k, k < i → p k = false) : ∃ r, (List.range n).filter p = i :: r := by
  obtain ⟨d, rfl⟩ : ∃ d, n = i + (1 + d) := ⟨n - i - 1, by exact om199 hi⟩
  refine ⟨((List.range (1 + d)).map (i + ·)).tail.filter p, ?_⟩
  rw [List.range_add, List.filter_append]
  have e1 : (List.range i).filter p = [] := List.filter_eq_nil_iff.mpr fun k hk => by
    rw [hl k (List.mem_range.mp hk)]; exact Bool.false_ne_true
  rw [e1, List.nil_append, Nat.add_comm 1 d, List.range_succ_eq_map, List.map_cons, List.tail_cons]
  exact List.filter_cons_of_pos hp
theorem idx_first {WS : List (List Nat)} {w : List Nat} (h : w ∈ WS) : WS.idxOf w < WS.length ∧ WS[WS.idxOf w]? = some w ∧ ∀ k, (hk : k < WS.length) → WS[k] = w → WS.idxOf w ≤ k := by
  have h1 := List.idxOf_lt_length_iff.mpr h
  refine ⟨h1, ?_, ?_⟩
  · rw [List.getElem?_eq_getElem h1, List.getElem_idxOf]
  · intro k hk e
    induction WS generalizing k with
    | nil => simp at hk
    | cons a l ih =>
      rw [List.idxOf_cons]
      cases q : a == w with
      | true => simp
      | false =>
        cases k with
        | zero => rw [List.getElem_cons_zero] at e; rw [e] at q; simp at q
        | succ k =>
          have hm : w ∈ l := by
            rcases List.mem_cons.mp h with rfl | h
            · simp at q
            · exact h
          have := ih hm (List.idxOf_lt_length_iff.mpr hm) k (by simpa using hk) (by simpa using e)
          simp only [cond_false]; exact om158 this
section
variable {WS : List (List Nat)} (hne : ∀ w ∈ WS, w ≠ []) (hpf : ∀ u ∈ WS, ∀ v ∈ WS, u <+: v → u = v)
include hne hpf
theorem cut_gen : ∀ (msg ns u : List Nat), (∀ w ∈ WS, ¬ w <+: u) → ∃ ns' rest, msg.foldl (cutStep WS) (ns, u) = (ns ++ ns', rest) ∧ CutTo WS (u ++ msg) ns' rest
  | [], ns, u, h => ⟨[], u, by simp, by rw [List.append_nil]; exact .stop u (fits_nil h)⟩
  | c :: msg, ns, u, h => by
    rw [List.foldl_cons]
    unfold cutStep
    dsimp only
    by_cases hm : u ++ [c] ∈ WS
    · rw [if_pos hm]
      obtain ⟨ns', rest, e, hC⟩ := cut_gen msg (ns ++ [WS.idxOf (u ++ [c])]) [] fun w hw q => hne w hw (List.prefix_nil.mp q)
      refine ⟨WS.idxOf (u ++ [c]) :: ns', rest, ?_, ?_⟩
      · show List.foldl (cutStep WS) _ _ = _
        rw [e]; simp
      · obtain ⟨h1, h2, h3⟩ := idx_first hm
        have hg : WS.getD (WS.idxOf (u ++ [c])) [] = u ++ [c] := by
          unfold List.getD; rw [h2]; rfl
        have hu : (u ++ [c]) <+: (u ++ c :: msg) := ⟨msg, by simp⟩
        obtain ⟨r, hr⟩ := filter_head (p := fitP WS (u ++ c :: msg)) h1 (by rw [fitP, hg]; exact List.isPrefixOf_iff_prefix.mpr hu) (fun k hk => by
          have hkl : k < WS.length := by exact om196 h1 hk
          cases q : fitP WS (u ++ c :: msg) k with
          | false => rfl
          | true =>
            rw [fitP, wgetD_of hkl, List.isPrefixOf_iff_prefix] at q
            have : WS[k] = u ++ [c] := by
              rcases Nat.le_total WS[k].length (u ++ [c]).length with hl | hl
              · exact hpf _ (List.getElem_mem hkl) _ hm (List.prefix_of_prefix_length_le q hu hl)
              · exact (hpf _ hm _ (List.getElem_mem hkl) (List.prefix_of_prefix_length_le hu q hl)).symm
            have := h3 k hkl this
            exact (om198 hk this).elim)
        refine .step _ _ r ns' rest hr ?_
        rw [hg]
        have : (u ++ c :: msg).drop (u ++ [c]).length = msg := by
          rw [show u ++ c :: msg = (u ++ [c]) ++ msg by simp, List.drop_left]
        rw [this]
        simpa using hC
    · rw [if_neg hm]
      obtain ⟨ns', rest, e, hC⟩ := cut_gen msg ns (u ++ [c]) fun w hw q => by
        rcases pre_snoc q with q | q
        · exact h w hw q
        · exact hm (q ▸ hw)
      refine ⟨ns', rest, e, ?_⟩
      simpa using hC
theorem cut_told (msg : List Nat) : CutTo WS msg (msg.foldl (cutStep WS) ([], [])).1 (msg.foldl (cutStep WS) ([], [])).2 := by
  obtain ⟨ns', rest, e, h⟩ := cut_gen hne hpf msg [] [] fun w hw q => hne w hw (List.prefix_nil.mp q)
  rw [e]; simpa using h
end
theorem cutTo_read {WS : List (List Nat)} {m ns rest : List Nat} (h : CutTo WS m ns rest) : (ns.flatMap fun k => WS.getD k []) ++ rest = m ∧ (∀ k ∈ ns, k < WS.length) ∧ ∀ c ∈ rest, c ∈ m := by
  induction h with
  | stop m h => exact ⟨rfl, fun k hk => (nomatch hk), fun c hc => hc⟩
  | step m k r ns rest h h2 ih =>
    have hk : k ∈ fitsL WS m := by rw [h]; exact .head _
    obtain ⟨hk1, hk2⟩ := List.mem_filter.mp hk
    rw [fitP, List.isPrefixOf_iff_prefix] at hk2
    obtain ⟨t, ht⟩ := hk2
    refine ⟨?_, fun j hj => ?_, fun c hc => List.mem_of_mem_drop (ih.2.2 c hc)⟩
    · rw [List.flatMap_cons, List.append_assoc, ih.1]
      rw [← ht, List.drop_left]
    · rcases List.mem_cons.mp hj with rfl | hj
      · exact List.mem_range.mp hk1
      · exact ih.2.1 j hj
theorem bits_rev (W n : Nat) : bitsN (fun j => W - 1 - j) W n = (bitsN (fun j => j) W n).reverse := by
  unfold bitsN
  refine List.ext_getElem (by simp) fun i h1 h2 => ?_
  simp only [List.length_map, List.length_range] at h1
  rw [List.getElem_reverse]
  simp
theorem bits_val {W n : Nat} (hW : W = 2 ∨ W = 3 ∨ W = 4) (hn : n < 2 ^ W) : valN (bitsN (fun j => j) W n).reverse = n := by
  rcases hW with rfl | rfl | rfl
  · revert n; decide
  · revert n; decide
  · revert n; decide
theorem bits_range {pl : Nat → Nat} {W n x : Nat} (h : x ∈ bitsN pl W n) : 48 ≤ x ∧ x ≤ 49 := by
  obtain ⟨j, _, rfl⟩ := List.mem_map.mp h
  unfold bitN; exact om197
/-- two words that part -/
theorem part_of {u v : List Nat} (h : u < v) (hp : ¬ u <+: v) : ∃ N, u.take N = v.take N ∧ N < u.length ∧ N < v.length ∧ u.getD N 0 < v.getD N 0 := by
  rcases List.lt_iff_exists.mp h with ⟨h1, _⟩ | ⟨i, h1, h2, h3, h4⟩
  · exact absurd (List.prefix_iff_eq_take.mpr h1) hp
  · refine ⟨i, ?_, h1, h2, by simpa [List.getD, h1, h2] using h4⟩
    refine List.ext_getElem? fun j => ?_
    rw [List.getElem?_take, List.getElem?_take]
    by_cases hj : j < i
    · rw [if_pos hj, if_pos hj, List.getElem?_eq_getElem (by exact om196 h1 hj), List.getElem?_eq_getElem (by exact om196 h2 hj), h3 j hj]
    · rw [if_neg hj, if_neg hj]
theorem part_take {u v : List Nat} {N : Nat} (h : u.take N = v.take N) (h2 : N < u.length) (h3 : N < v.length) (h4 : u.getD N 0 < v.getD N 0) : (∀ k, k < N → u.take (k + 1) = v.take (k + 1)) ∧ u.take (N + 1) ≠ v.take (N + 1) := by
  refine ⟨fun k hk => ?_, fun e => ?_⟩
  · have := congrArg (List.take (k + 1)) h
    rw [List.take_take, List.take_take, Nat.min_eq_left (by exact om195 hk)] at this
    exact this
  · have e1 : (u.take (N + 1)).getD N 0 = u.getD N 0 := by simp [List.getD, List.getElem?_take]
    have e2 : (v.take (N + 1)).getD N 0 = v.getD N 0 := by simp [List.getD, List.getElem?_take]
    rw [e, e2] at e1; exact om194 h4 e1
theorem lsorted_one {l l' : List (List Nat)} (hp : l.Perm l') (h : l.Pairwise (· < ·)) (h' : l'.Pairwise (· < ·)) : l = l' :=
  List.Perm.eq_of_pairwise (fun a b _ _ h1 h2 => absurd (List.lt_trans h1 h2) (List.lt_irrefl a)) h h' hp
/-- the ways in order are the ways of the words in order -/
theorem ways_sorted {L SL SW : List (List Nat)} (h1 : SL.Perm L) (h2 : SL.Pairwise (· < ·)) (h3 : SW.Perm (L.map wayL)) (h4 : SW.Pairwise (· < ·)) : SW = SL.map wayL := by
  refine lsorted_one (h3.trans (h1.map wayL).symm) h4 ?_
  rw [List.pairwise_map]
  exact h2.imp fun h => (wayL_lt _ _).mpr h
end
-- Nd168
section
open PySem PySem.W PyProof.Rows PySem.Calls PySem.Builtin PySem.Builtin.Bytes
set_option maxRecDepth 100000
noncomputable def codeN (M : Model) (A : Around) (c : Code) (R : Result → Shared → Prop) (s : Shared) : Prop :=
  ∀ Γ p, Γ.code = c → Γ.Below A → CleanB Γ.below → wpCode M Γ R p s
section
variable {α β : Type} {M : Model} {A : Around} {E : Value → Shared → Prop} {s : Shared}
theorem codeN_of {c : Code} {R : Result → Shared → Prop} (h : codeAny M A c R s) : codeN M A c R s := fun Γ p hc hΓ _ => h Γ p hc hΓ
/-- a step that needs no look at the stack, then one that does -/
theorem wpN_step {m : Sem α} {f : α → Sem β} {Q : β → Shared → Prop} (h : wpAny M A m (fun a s' => wpN M A (f a) Q E s') E s) : wpN M A (m >>= f) Q E s := wpN_bind (wpN_of h)
theorem wpN_last {m : Sem α} {f : α → Sem β} {Q : β → Shared → Prop} (h : wpN M A m (fun a s' => wpAny M A (f a) Q E s') E s) : wpN M A (m >>= f) Q E s := wpN_bind (wpN_mono h (fun _ _ q => wpN_of q) fun _ _ q => q)
theorem wpN_holding {vs : List Value} {m : Sem α} {Q : α → Shared → Prop} (h : wpN M A m Q E s) : wpN M A (holding vs m) Q E s := fun Γ p hΓ h1 h2 => by rw [Sem.wp_holding]; exact h Γ p hΓ h1 h2
theorem wpN_keep {vs : List Value} {m : Sem α} {Q : α → Shared → Prop} (h : wpN M A m Q E s) : wpN M A (m.keep vs) Q E s := fun Γ p hΓ h1 h2 => by rw [Sem.wp_keep]; exact h Γ p hΓ h1 h2
theorem wpN_call {f : Value} {pos : List Value} {Q : Value → Shared → Prop}
    (hc : codeN M A (.call f ⟨pos, []⟩) (fun r s' => match r with | .ok (.ret v) => Q v s' | .ok _ => False | .error e => E e s') s) : wpN M A (call f pos []) Q E s := fun Γ p hΓ h1 h2 => by
  show Sem.wp M Γ (runValue (.call f ⟨pos, []⟩)) _ _ p s
  rw [Sem.wp_runValue]
  refine hc _ p rfl (hΓ.enter _ none p (by intro x; cases x)) fun x hx => ?_
  rcases List.mem_cons.mp hx with rfl | hx
  · exact h1
  · exact h2 x hx
theorem codeN_of_tree {c : Code} {R : Result → Shared → Prop} (hd : decC c = false)
    (h : wpN M (A.under c) (M.den c) (fun fin s' => match fin with | .done f => R (.ok f) s' | .again c' => c'.quiet = true ∧ codeN M A c' R s') (fun e s' => R (.error e) s') s) : codeN M A c R s := fun Γ p hc hΓ hb => by
  rw [wpCode_iff_wp, hc]
  refine Sem.wp_mono M Γ _ (fun fin p' s' h' => ?_) (fun _ _ _ h' => h') p s (h Γ p (hc ▸ hΓ.in) (hc ▸ hd) hb)
  cases fin with
  | done f => exact h'
  | again c' => exact ⟨h'.1, h'.2 (Γ.goto c') p' rfl (hΓ.goto c') hb⟩
theorem codeN_mono {c : Code} {R R' : Result → Shared → Prop} (h : codeN M A c R s) (hR : ∀ r s, R r s → R' r s) : codeN M A c R' s := fun Γ p hc hΓ hb => wpCode_mono hR (h Γ p hc hΓ hb)
theorem wpN_stackAny {f : Code × Pos → Bool} {Q : Bool → Shared → Prop} (hg : A.guards = some []) (hf : ∀ c p, c.isGuard = false → decC c = false → f (c, p) = false) (h : Q false s) : wpN M A (do return (← stack).any f) Q E s := fun Γ p hΓ h1 h2 => by
  show Q (((Γ.code, p) :: Γ.below).any f) s
  have hgu : guardsOf ((Γ.code, p) :: Γ.below) = [] := by rw [guardsOf_cons]; exact hΓ.2.2.2.1 [] hg
  have : ((Γ.code, p) :: Γ.below).any f = false := by
    rw [List.any_eq_false]
    intro x hx
    have hng : x.1.isGuard = false := by
      cases q : x.1.isGuard with
      | false => rfl
      | true =>
        have : x.1 ∈ guardsOf ((Γ.code, p) :: Γ.below) := by
          unfold guardsOf
          exact List.mem_filter.mpr ⟨List.mem_map_of_mem (f := Prod.fst) hx, q⟩
        rw [hgu] at this; cases this
    have hnd : decC x.1 = false := by
      rcases List.mem_cons.mp hx with rfl | hx
      · exact h1
      · exact h2 x hx
    have := hf x.1 x.2 hng hnd
    simp [this]
  rw [this]; exact h
end
section
variable {prog : Program} {w : World} {A : Around} {E : Value → Shared → Prop} {s : Shared} {env : Env}
theorem codeN_builtin {id : String} {args : Args} {b : Builtin} {R : Result → Shared → Prop} (hd : decC (.builtin id args) = false) (hb : entryFor table id = some b)
    (h : wpN (model prog w) (A.under (.builtin id args)) (b args)
      (fun fin s' => match fin with | .done f => R (.ok f) s' | .again c' => c'.quiet = true ∧ codeN (model prog w) A c' R s') (fun e s' => R (.error e) s') s) : codeN (model prog w) A (.builtin id args) R s := by
  refine codeN_of_tree hd ?_
  show wpN _ _ (match entryFor table id with | some b => b args | none => unsupported ((withoutEnding? id "#data").getD id)) _ _ s
  rw [hb]; exact h
theorem codeN_func {body : List Stmt} {R : Result → Shared → Prop} (h : wpN (model prog w) (A.deeper env) (execs body env) (fun f s' => R (.ok (.ret (match f with | .ret v => v | _ => .none))) s') NoE s) : codeN (model prog w) A (.func body env) R s := by
  refine codeN_of_tree rfl ?_
  show wpN _ (A.deeper env) (do point; match ← (execs body env).onRaise (leaving env) with | .ret v => ret v | _ => ret .none) _ _ s
  refine wpN_step (wpAny_point (wpN_last ?_))
  intro Γ p hΓ h1 h2
  rw [Sem.wp_onRaise]
  refine Sem.wp_mono _ Γ _ (fun f p' s' h' => ?_) (fun _ _ _ h' => h'.elim) p s (h Γ p hΓ h1 h2)
  cases f <;> exact wpAny_pure h'
theorem wpN_execs_cons {st : Stmt} {rest : List Stmt} {Q : Flow → Shared → Prop} {M : Model}
    (h : wpN M A (exec st env) (fun f s' => match f with | .next => wpN M A (execs rest env) Q E s' | f => Q f s') E s) : wpN M A (execs (st :: rest) env) Q E s := fun Γ p hΓ h1 h2 => by
  rw [execs_cons, Sem.wp_bind']
  refine Sem.wp_mono M Γ _ (fun f p' s' h' => ?_) (fun _ _ _ h' => h') _ _ (h Γ p hΓ h1 h2)
  cases f <;> first | exact h' Γ p' hΓ h1 h2 | exact h'
theorem execs_app {M : Model} {Q : Flow → Shared → Prop} {l2 : List Stmt} {Γ : Ctx} (hΓ : Γ.In A) (h1 : decC Γ.code = false) (h2 : CleanB Γ.below) : ∀ (l1 : List Stmt) (p : Pos) (s : Shared),
    Sem.wp M Γ (execs l1 env) (fun f _ s' => match f with | .next => wpN M A (execs l2 env) Q E s' | f => Q f s') (fun e _ s' => E e s') p s → Sem.wp M Γ (execs (l1 ++ l2) env) (fun f _ s' => Q f s') (fun e _ s' => E e s') p s
  | [], p, s, h => by
    rw [execs_nil] at h
    exact (show wpN M A (execs l2 env) Q E s from h) Γ p hΓ h1 h2
  | st :: l1, p, s, h => by
    rw [execs_cons, Sem.wp_bind'] at h
    rw [List.cons_append, execs_cons, Sem.wp_bind']
    refine Sem.wp_mono M Γ _ (fun f p' s' q => ?_) (fun _ _ _ q => q) p s h
    cases f with
    | next => exact execs_app hΓ h1 h2 l1 p' s' q
    | _ => exact q
theorem wpN_execs_append {M : Model} {Q : Flow → Shared → Prop} {l1 l2 : List Stmt} (h : wpAny M A (execs l1 env) (fun f s' => match f with | .next => wpN M A (execs l2 env) Q E s' | f => Q f s') E s) : wpN M A (execs (l1 ++ l2) env) Q E s :=
  fun Γ p hΓ h1 h2 => execs_app hΓ h1 h2 l1 p s (h Γ p hΓ)
end
end
-- Nb168
section
open PySem PySem.W PyProof.Rows PySem.Calls PySem.Builtin PySem.Builtin.Bytes
set_option maxRecDepth 100000
theorem mro_ba : mroOf (.type "bytearray") = pure [.type "bytearray", .type "object"] := by rw [mroOf_type]; kernel_rfl
theorem lookup_ba_new : typeLookup (.type "bytearray") "__new__" = pure (some (.builtin "bytearray.__new__")) := by rw [typeLookup_type, builtinLookup_eq_fast]; kernel_rfl
theorem slot_ba_init : Slot "bytearray" "__init__" "bytearray.__init__" :=
  .of (owner := "bytearray") (n := "__init__") (by rw [typeLookup_type, builtinLookup_eq_fast]; kernel_rfl) (by decide +kernel) (by decide +kernel) (by decide +kernel)
    (by first | exact .inl (by decide +kernel) | exact .inr (by decide +kernel)) (by rw [isSubtype_type]; kernel_rfl)
theorem called_ba : TypeCalled "bytearray" "bytearray.__new__" "bytearray.__init__" :=
  ⟨by decide +kernel, by decide +kernel, ⟨_, _, mro_ba⟩, madeBy_type mro_ba lookup_ba_new (by decide +kernel), by decide +kernel, by rw [isSubtype_type]; kernel_rfl, slot_ba_init⟩
theorem typeCall_ba_1 (a : Value) : checkTypeCall "bytearray" ⟨[a], []⟩ = pure () := by kernel_rfl
theorem newCall_ba_1 (a : Value) : checkBuiltinCall "bytearray.__new__" ⟨[.type "bytearray", a], []⟩ = pure () := by kernel_rfl
theorem entry_ba_new : entryFor table "bytearray.__new__" = some Builtin.«list.__new__» :=
  entryFor_alias (id' := "list.__new__") (by kernel_rfl) (by first | rfl | decide +kernel) (by decide +kernel) (by kernel_rfl)
theorem plain_ba_new : plainId "bytearray.__new__" = true := by decide +kernel
theorem entry_ba_init : entryFor table "bytearray.__init__" = some Builtin.«bytearray.__init__» := entryFor_of_tree (by kernel_rfl)
theorem args_ba_init (a b : Value) : argsOk "bytearray.__init__" ⟨[a, b], []⟩ := by unfold argsOk; kernel_rfl
set_option maxRecDepth 1000000 in
set_option maxHeartbeats 4000000 in
theorem owner_ba_new : ("bytearray.__new__".splitOn ".__new__").headD "" = "bytearray" := by simp +decide [String.splitOn, String.splitOnAux]
section
variable {prog : Program} {w : World} {A : Around} {E : Value → Shared → Prop} {s : Shared}
theorem code_ba_new (a : Value) {Q₁ : Value → Shared → Prop}
    (h : Q₁ (.ref s.heap.objs.size) { s with heap := s.heap.push (baObj #[]) }) :
    codeAny (model prog w) A (.call (.builtin "bytearray.__new__") ⟨[.type "bytearray", a], []⟩) (wants Q₁ E) s := by
  refine codeAny_of_tree ?_
  show wpAny _ A.in1 (do checkBuiltinCall "bytearray.__new__" ⟨[.type "bytearray", a], []⟩; again (.builtin "bytearray.__new__" ⟨[.type "bytearray", a], []⟩)) _ _ s
  refine wpAny_bind (wpAny_of_eq (newCall_ba_1 a) (wpAny_pure ⟨plainId_quiet plain_ba_new _, codeAny_builtin_stack entry_ba_new rfl fun p st => ?_⟩))
  rw [Around.under_plainId plain_ba_new _]
  have hsub := F.sub_bytearray_bytearray
  have hown := owner_ba_new
  obtain ⟨hp, g, d, tk, os⟩ := s
  simp only [hown]
  wp_walk
  exact h
theorem exported_not {v : Value} {Q : Bool → Shared → Prop} (hg : A.guards = some []) (h : Q false s) : wpN (model prog w) A (exported v) Q E s := by
  unfold exported
  refine wpN_stackAny hg (fun c p h1 h2 => ?_) h
  have g1 : ∀ {id : String} {as : PySem.Args} {x : String}, c = .builtin id as → guardIds.contains x = true → id ≠ x := fun e q r => by
    rw [e, r, show (Code.builtin _ _).isGuard = _ from q] at h1; cases h1
  cases c with
  | builtin id as =>
    have n1 := g1 rfl (show guardIds.contains "bytearray.__contains__" = true by decide)
    have n2 := g1 rfl (show guardIds.contains "bytearray.__mod__" = true by decide)
    have n3 := g1 rfl (show guardIds.contains "bytearray.__rmod__" = true by decide)
    have n4 := g1 rfl (show guardIds.contains "_struct.pack_into.held" = true by decide)
    have n5 := g1 rfl (show guardIds.contains "bytearray.find.held" = true by decide)
    obtain ⟨ps, kw⟩ := as
    unfold PySem.Builtin.Bytes.exported.match_1
    show (dite (id = "bytearray.__contains__") _ _ : Bool) = false
    rw [dif_neg n1]
    rw [dif_neg n2]
    rw [dif_neg n3]
    rw [dif_neg n4]
    rw [dif_neg n5]
    cases ps with
    | nil => rfl
    | cons v vs => exact (congrArg (_ && ·) (show decodersThatHold.contains id = false from h2)).trans (Bool.and_false _)
  | _ => rfl
theorem ba_init {a : Addr} {n : Nat} {k : Int} {t : Tok} {Q : PySem.Fin → Shared → Prop} (ho : s.heap.get? a = some (baObj #[])) (hg : A.guards = some []) (hk : k = n) (hn : n ≤ 10000)
    (h : ∀ h', h'.get? a = some (baObj (Array.replicate n 0)) → (∀ b o, b ≠ a → s.heap.get? b = some o → h'.get? b = some o) → Q (.done (.ret .none)) { s with heap := h' }) :
    wpN (model prog w) A (Builtin.«bytearray.__init__» ⟨[.ref a, .int k t], []⟩) Q E s := by
  unfold Builtin.«bytearray.__init__»
  dsimp only
  refine wpN_step (ownRelease_ba ho ?_)
  simp only [Bool.false_eq_true, if_false]
  refine wpN_step ?_
  wp_walk
  refine wpN_step ?_
  wp_walk
  refine wpN_step ?_
  wp_walk
  refine wpN_bind ?_
  unfold orM
  refine wpN_bind (exported_not hg ?_)
  refine wpN_of ?_
  dsimp only [toBool]
  unfold exportsOf
  refine wpAny_bind (wpAny_bind (wpAny_load ho ?_))
  refine wpAny_pure (wpAny_pure ?_)
  rw [if_neg (by decide)]
  refine wpN_of ?_
  refine wpAny_bind (wpAny_write ho (by decide) ?_)
  dsimp only [List.getElem?_cons_zero]
  wp_walk
  refine wpAny_of_eq int_index ?_
  wp_walk
  have e1 : fitsIndex k = true := by unfold fitsIndex; simp; exact om321 hk hn
  have e2 : ¬ k < 0 := by exact om320 hk
  have e3 : (k == 2 ^ 63 - 1) = false := by rw [beq_eq_false_iff_ne]; exact om319 hk hn
  have e4 : tooLong k.toNat = false := by unfold tooLong; rw [decide_eq_false]; show ¬ k.toNat > (2 ^ 24 : Nat); exact om318 hk hn
  have ek : k.toNat = n := by exact om139 hk
  rw [e1, if_neg (by decide), if_neg e2, e3, if_neg (by decide), e4, if_neg (by decide)]
  refine wpAny_bind (wpAny_rule ?_)
  have ho1 := ba_upd (f := fun _ => #[]) ho
  have k1 : ∀ b o, b ≠ a → s.heap.get? b = some o → (s.heap.update a (Obj.mapBytearray fun _ => #[])).get? b = some o := fun b o hb e => (Heap.get?_update_other _ _ (Ne.symm hb)).trans e
  by_cases hpos : k > 0
  · rw [if_pos hpos]
    refine wpAny_bind (wpAny_write ho1 (by show _ ≤ (2 ^ 24 : Nat); simp; exact om317 hk hn) ?_)
    rw [ek]
    exact wpAny_pure (h _ (ba_upd ho1) fun b o hb e => (Heap.get?_update_other _ _ (Ne.symm hb)).trans (k1 b o hb e))
  · rw [if_neg hpos]
    have : n = 0 := by exact om316 hk hpos
    subst this
    exact wpAny_pure (h _ ho1 k1)
end
end
-- Nc168
section
open PySem PySem.W PyProof.Rows PySem.Calls PySem.Builtin PySem.Builtin.Bytes
set_option maxRecDepth 100000
section
variable {prog : Program} {w : World} {A : Around} {E : Value → Shared → Prop} {s : Shared} {g : Heap} {env : Env} {m : Str → Option Value} {nx : List (Addr × Obj)}
theorem wpN_slot {self : Value} {T : String} {name : Str} {id : String} {args : List Value} {Q : Option Value → Shared → Prop} (hT : s.TypeIs self T) (h : Slot T name id)
    (hc : wpN (model prog w) A (call (.builtin id) (self :: args) []) (fun v => Q (some v)) E s) : wpN (model prog w) A (callSpecial? self name args []) Q E s := by
  simp only [callSpecial?]
  refine wpN_step (wpAny_specialOf hT h.lookup ?_)
  simp only [h.bind]
  refine wpN_holding (wpN_step (wpAny_pure (wpN_last (wpN_mono hc (fun v s' h' => wpAny_pure h') fun _ _ h' => h'))))
theorem call_ba {n : Nat} {k : Int} {t : Tok} {Q : Value → Shared → Prop} (S : St g env s.heap m nx) (hg : A.guards = some []) (hk : k = n) (hn : n ≤ 10000)
    (h : ∀ a h', St g env h' m ((a, baObj (Array.replicate n 0)) :: nx) → s.heap.get? a = none → s.heap.StaysIn h' → Q (.ref a) { s with heap := h' }) :
    wpN (model prog w) A (call (.type "bytearray") [.int k t] []) Q E s := by
  refine wpN_call (codeN_of_tree rfl ?_)
  show wpN _ _ (callAny (.type "bytearray") _) _ _ _
  refine wpN_of (wpAny_pure ⟨Code.quiet_builtin _ (by decide +kernel), codeN_builtin (show decodersThatHold.contains "type.__call__" = false by decide) F.entry_type_call ?_⟩)
  rw [Around.under_plain (weight_type_call_type "bytearray" [.int k t] []) rfl]
  unfold Builtin.«type.__call__»
  dsimp only
  rw [if_neg (by decide)]
  rw [called_ba.canCreate, if_neg (by decide)]
  refine wpN_step (wpAny_of_eq (typeCall_ba_1 _) ?_)
  refine wpN_step (wpAny_of_eq mro_ba ?_)
  rw [if_neg (by decide)]
  refine wpN_step (wpAny_of_eq called_ba.made ?_)
  dsimp only
  refine wpN_step (wpAny_pure ?_)
  refine wpN_step (wpAny_holding (wpAny_call (codeAny_mono (code_ba_new (E := NoE) (Q₁ := fun obj s₁ => obj = .ref s.heap.objs.size ∧ s₁ = { s with heap := s.heap.push (baObj #[]) }) _ ⟨rfl, rfl⟩) fun r s₁ hr => ?_)))
  cases r with
  | error e => exact hr.elim
  | ok fl =>
    cases fl with
    | ret obj =>
      obtain ⟨rfl, rfl⟩ := hr
      have ho : (s.heap.push (baObj #[])).get? s.heap.objs.size = some (baObj #[]) := Heap.get?_push_size _ rfl
      have hT : Shared.TypeIs { s with heap := s.heap.push (baObj #[]) } (.ref s.heap.objs.size) "bytearray" := ⟨_, ho, rfl⟩
      dsimp only
      refine wpN_step (wpAny_isInstance hT F.sub_bytearray_bytearray ?_)
      rw [if_neg (by decide)]
      refine wpN_bind (wpN_holding (wpN_slot hT slot_ba_init (wpN_call ?_)))
      refine codeN_of_tree rfl ?_
      show wpN _ A.in1.in1 (do checkBuiltinCall "bytearray.__init__" ⟨[.ref s.heap.objs.size, .int k t], []⟩; again (.builtin "bytearray.__init__" ⟨[.ref s.heap.objs.size, .int k t], []⟩)) _ _ _
      refine wpN_step (slot_ba_init.check _ _ _ _ _ _ _ _ hT (args_ba_init _ _) ?_)
      refine wpN_of (wpAny_pure ⟨plainId_quiet slot_ba_init.plain _, codeN_builtin (show decodersThatHold.contains "bytearray.__init__" = false by decide) entry_ba_init ?_⟩)
      rw [Around.under_plainId slot_ba_init.plain _]
      refine ba_init ho hg hk hn fun h' ho' hk' => ?_
      dsimp only
      rw [if_neg (by decide)]
      refine wpN_of (wpAny_pure ?_)
      have S1 := S.push (baObj #[]) rfl
      refine h _ h' ?_ ?_ fun b o e => hk' b o ?_ (Heap.get?_push_of_some _ e)
      · exact S1.upd (i := 0) rfl (fun b x hb e => hk' b x hb e) ho'
      · cases q : s.heap.get? s.heap.objs.size with
        | none => rfl
        | some o => exact absurd (Heap.lt_size q) (Nat.lt_irrefl _)
      · exact Nat.ne_of_lt (Heap.lt_size e)
    | _ => exact hr.elim
end
end
-- Ne168
section
set_option maxRecDepth 100000
section
variable {M : Model} {A : Around} {E : Value → Shared → Prop} {s : Shared} {env : Env}
theorem wpN_Assign_Name {x : Str} {pos' : Pos} {value : Expr} {pos : Pos} {Q : Flow → Shared → Prop}
    (h : wpN M A (eval value env) (fun v s₁ => wpAny M A (storeName env x v) (fun _ => Q .next) E s₁) E s)
    (hs : swapsWith value (some (.Name x pos')) pos.line env = pure false := by rfl) : wpN M A (exec (.Assign [.Name x pos'] value pos) env) Q E s := fun Γ p hΓ h1 h2 => by
  simp only [exec_Assign_Name env x pos' value pos hs, Sem.wp_bind', Sem.wp_cmd_standAt, Sem.wp_bindName, Sem.wp_pure']
  exact Sem.wp_mono M Γ _ (fun v _ s₁ h₁ => h₁ Γ _ hΓ) (fun _ _ _ h' => h') _ _ (h Γ _ hΓ h1 h2)
theorem wpN_Call_Name {id : Str} {p pos : Pos} {args : List Expr} {Q : Value → Shared → Prop}
    (h : wpAny M A (eval (.Name id p) env) (fun f s₁ => wpN M A (callWith pos f [] (backTo pos (starEach args env)) []) Q E s₁) E s) : wpN M A (eval (.Call (.Name id p) args [] pos) env) Q E s := by
  rw [arm_eval_Call_Name']
  exact wpN_step h
theorem wpN_callWith {P : Heap → Prop} {pos : Pos} {f : Value} {args : List (Bool × Sem Value)} {Q : Value → Shared → Prop} (hplain : (args.any (·.1) || ([] : List (Option Str × Sem Value)).any (·.1.isNone)) = false)
    (hk : ∀ h, P h → ∃ k, (k = Keeper.frame ∨ k = Keeper.machine ∨ k = Keeper.boundFrame) ∧ Looks M h (keeperOf f) k)
    (h : wpAny M A (evalArgs f true args []) (fun a s₁ => P s₁.heap ∧ a.kw = [] ∧ wpN M A (call f a.pos []) Q E s₁) E s) : wpN M A (callWith pos f [] args []) Q E s := by
  unfold callWith
  refine wpN_step (wpAny_holding (wpAny_mono h (fun a s₁ h₁ => wpN_step (wpAny_standAt ?_)) fun _ _ x => x))
  obtain ⟨k, hk', L⟩ := hk _ h₁.1
  simp only [hplain, h₁.2.1]
  refine wpN_step (L.here ?_)
  have tail : ∀ {t : Sem Value}, wpN M A t Q E s₁ → wpN M A (t >>= fun r => holding [r] point >>= fun _ => pure r) Q E s₁ :=
    fun ht => wpN_last (wpN_mono ht (fun r s₂ hr => wpAny_bind (wpAny_holding (wpAny_point (wpAny_pure hr)))) fun _ _ x => x)
  have hc := h₁.2.2
  have marked (mk : Value) : wpN M A (callMarked mk f ([] ++ a.pos) []) Q E s₁ := by unfold callMarked; exact wpN_keep hc
  rcases hk' with rfl | rfl | rfl <;> dsimp only <;> first | exact tail hc | (split <;> first | exact tail hc | exact tail (marked _))
theorem wpN_callOwn {w : World} {g : Heap} {pos : Pos} {f : Value} {e : Expr} {rest : List Expr} {Q : Value → Shared → Prop} (G : Gd w g) (hk : keepIn (hd.heap_1 w.params) f = true)
    (h : wpAny M A (spliced (backTo pos (starEach (e :: rest) env))) (fun vs s₁ => g.StaysIn s₁.heap ∧ wpN M A (call f vs []) Q E s₁) E s)
    (he : starEach (e :: rest) env = (false, eval e env) :: starEach rest env := by rfl) (hplain : (backTo pos (starEach rest env)).any (·.1) = false := by rfl) : wpN M A (callWith pos f [] (backTo pos (starEach (e :: rest) env)) []) Q E s := by
  rw [he] at h ⊢
  refine wpN_callWith (by show ((false || (backTo pos (starEach rest env)).any (·.1)) || false) = false; rw [hplain]; rfl) (keeps_K hk) (evalArgs_plain (wpAny_mono h (fun vs s₁ q => ?_) fun _ _ q => q))
  exact ⟨G.k.keeps q.1, rfl, q.2⟩
end
end
-- Nf168
section
set_option maxRecDepth 100000
section
variable {prog : Program} {w : World} {A : Around} {E : Value → Shared → Prop} {s : Shared}
theorem codeN_call_function {a : Addr} {args : Args} {o : Obj} {fd : FuncData} {body : List Stmt} {R : Result → Shared → Prop} (hroom : A.depth < recursionLimit) (ho : s.heap.get? a = some o)
    (hd' : o.data = .func fd) (hco : fd.scope.isCoroutine = false) (hgen : fd.scope.isGenerator = false) (hbody : fd.body = .stmts body) (hcd : s.heap.CodeRec fd.code fd.qualname)
    (h : wpAny (model prog w) A.in1 (bindArgs fd args) (fun binds s₁ =>
      wpAny (model prog w) A.in1 (newFunctionEnv fd.scope fd.globals fd.closure binds (fd.qualname ++ ".<locals>.") (some a) fd.code none fd.builtins)
        (fun env s₂ => s₂.heap.NoLimit ∧ codeN (model prog w) A (.func body env) R s₂) (fun e s' => R (.error e) s') s₁) (fun e s' => R (.error e) s') s) :
    codeN (model prog w) A (.call (.ref a) args) R s := by
  refine codeN_of_tree rfl ?_
  show wpN _ A.in1 (callAny (.ref a) args) _ _ s
  simp only [callAny]
  refine wpN_step (wpAny_load ho ?_)
  obtain ⟨c, oc, vs, tq, hc, hoc, hdc, hq⟩ := hcd
  simp only [hd', callFunction, hco, hgen, hbody, hc]
  rw [hc] at h
  refine wpN_step (m := field (.ref c) 1) (wpAny_field hoc hdc hq (wpN_step (wpAny_pure ?_)))
  exact wpN_step (wpAny_mono h (fun binds s₁ h₁ => wpN_step (wpAny_mono h₁ (fun env s₂ h₂ => wpN_step (wpAny_enterFrame h₂.1 hroom (wpN_of (wpAny_pure (And.intro rfl h₂.2))))) fun _ _ h' => h')) fun _ _ h' => h')
theorem wpN_callType {env : Env} {pos : Pos} {T : String} {e : Expr} {rest : List Expr} {Q : Value → Shared → Prop}
    (h : wpAny (model prog w) A (spliced (backTo pos (starEach (e :: rest) env))) (fun vs s₁ => wpN (model prog w) A (call (.type T) vs []) Q E s₁) E s)
    (he : starEach (e :: rest) env = (false, eval e env) :: starEach rest env := by rfl) (hplain : (backTo pos (starEach rest env)).any (·.1) = false := by rfl) : wpN (model prog w) A (callWith pos (.type T) [] (backTo pos (starEach (e :: rest) env)) []) Q E s := by
  rw [he] at h ⊢
  exact wpN_callWith (P := fun _ => True) (by show ((false || (backTo pos (starEach rest env)).any (·.1)) || false) = false; rw [hplain]; rfl) (fun h _ => ⟨_, .inr (.inl rfl), Looks.now⟩) (evalArgs_plain (wpAny_mono h (fun vs s₁ q => ⟨trivial, rfl, q⟩) fun _ _ q => q))
end
section
variable {w : World} {A : Around} {s : Shared} {g : Heap} {name qual : Str} {params : Arguments} {body : List Stmt} {scope : Scope} {dV kV doc pm cdv ct oc : Value} {an od : Option Addr} {osl : Array (Option Value)} {f : Addr}
  {args : List Value} {binds : List (Str × Value)} {Q : Value → Shared → Prop}
/-- the entering of a def of the text, on a clean stack -/
theorem enterN (D : List (Addr × Obj)) (G : Gd w g) (st : g.StaysIn s.heap) (hD : ∀ p ∈ D, s.heap.get? p.1 = some p.2 ∧ g.get? p.1 = none) (hnd : (D.map (·.1)).Nodup)
    (ho : (hd.heap_1 w.params).lookup f = some ⟨oc, od, .func (fnOf name qual params body scope dV kV doc pm an cdv ct), osl⟩) (hcd : codeIn (hd.heap_1 w.params) cdv qual = true) (hroom : A.depth < recursionLimit)
    (hbind : BindsTo s (fnOf name qual params body scope dV kV doc pm an cdv ct) ⟨args, []⟩ binds)
    (hkind : (binds.all fun y => scope.names.lookup y.1 == some .local || scope.names.lookup y.1 == some .cell) = true)
    (hnc : ((cellsFrom 0 scope.names []).map (·.1)).Nodup) (hlc : ∀ x ∈ (cellsFrom 0 scope.names []).map (·.1), scope.names.lookup x ≠ some .local)
    (h : ∀ g' L h₁ tk, Gd w g' → (∀ b o, b ∉ D.map (·.1) → s.heap.get? b = some o → g'.get? b = some o) → St g' (envOfC qual scope L f cdv) h₁ (bindAll binds) D →
      wpN (model PG w) (A.deeper (envOfC qual scope L f cdv)) (execs body (envOfC qual scope L f cdv)) (fun fl s' => Q (match fl with | .ret v => v | _ => .none) s') NoE { s with heap := h₁, toks := tk })
    (hco : scope.isCoroutine = false) (hgen : scope.isGenerator = false) (hk : scope.kind = .function) : wpN (model PG w) A (call (.ref f) args []) Q NoE s := by
  obtain ⟨_, _, _, T⟩ := G.t
  have X : (hd.heap_1 w.params).In s.heap := G.k.keeps st
  refine wpN_call (codeN_call_function hroom (X _ _ ho) rfl hco hgen rfl (codeRec_of X hcd) (hbind _ _ _ _ ?_))
  refine wpAny_newFunctionEnv_cells hk (kindsX hkind _) fun env' he s' x => ?_
  subst he
  refine ⟨(T.nolimit.keeps st).keeps x.toInCall.keep, codeN_func ?_⟩
  obtain ⟨h₁, tk, rfl, _⟩ := x.done
  have hk₁ := x.toInCall.keep
  have hdn : ∀ b o, g.get? b = some o → b ∉ D.map (·.1) := fun b o e q => by
    obtain ⟨p, hp, rfl⟩ := List.mem_map.mp q
    rw [(hD p hp).2] at e; cases e
  have g1 : g.StaysIn (hideAll s.heap (D.map (·.1))) := fun b o e => hide_off (st b o e) (hdn b o e)
  have nm : (cellsFrom (s.heap.objs.size + 1) scope.names []).map (·.1) = (cellsFrom 0 scope.names []).map (·.1) := cellsFrom_names scope.names _ _ [] [] rfl
  have big : ∀ a, s.heap.objs.size ≤ a → (hideAll s.heap (D.map (·.1))).get? a = none := fun a ha => by
    cases q : (hideAll s.heap (D.map (·.1))).get? a with
    | none => rfl
    | some o => exact absurd (Heap.lt_size (of_hideAll _ q)) (Nat.not_lt.mpr ha)
  refine wpN_mono (h (hideAll s.heap (D.map (·.1))) s.heap.objs.size h₁ tk (G.mono g1) (fun b o n e => hide_off e n) ?_) (fun _ _ q => q) fun _ _ q => q.elim
  have kd : ∀ y c, (y, c) ∈ cellsFrom (s.heap.objs.size + 1) scope.names [] → (envOfC qual scope s.heap.objs.size f cdv).kindOf y ≠ some .local := fun y c hm => hlc y (nm ▸ List.mem_map_of_mem (f := Prod.fst) hm)
  have c1 : ∀ y c, (y, c) ∈ cellsFrom (s.heap.objs.size + 1) scope.names [] → (cellsFrom (s.heap.objs.size + 1) scope.names []).lookup y = some c := fun y c hm => lookup_of_mem_nodup (nm ▸ hnc) hm
  exact {
    ns := ⟨_, x.toInCall.ns, fun y hy => bindL_at _ hy binds _ _ rfl⟩
    cell := fun y c e => by
      have q : h₁.IsCell c (bindC (envOfC qual scope s.heap.objs.size f cdv).kindOf binds (fun _ => none) y) := x.cell y c e
      rw [bindC_at _ (kd y c (mem_of_lookup e)) binds _ (fun _ => none) rfl] at q
      exact q
    led := fun p hp => hk₁ _ _ (hD p hp).1
    apart := hnd
    apartC := x.apart
    free := fun p hp => ⟨Nat.ne_of_lt (Heap.lt_size (hD p hp).1), fun y c hm e => absurd (x.above y c hm) (by rw [← e]; exact Nat.not_lt.mpr (Nat.le_of_lt (Heap.lt_size (hD p hp).1)))⟩
    keep := fun b o e => hk₁ b o (of_hideAll _ e)
    freshL := big _ (Nat.le_refl _)
    freshC := fun y c hm => big _ (Nat.le_of_lt (x.above y c hm))
    freshN := fun p hp => hideAll_none _ (List.mem_map_of_mem (f := Prod.fst) hp)
    nLC := fun y c hm => Nat.ne_of_gt (x.above y c hm)
    kinds := kd
    cells1 := c1 }
end
end
-- Bs168
section
inductive BsJ (cs : List (List Nat)) (W : Nat) (D : Addr) (b : Array UInt8) (t tw : Tok) (i : Nat) (m₁ : PySem.Str → Option Value) (g₁ : Heap) (nx₁ : List (Addr × Obj)) : Prop
  | mk (en : nx₁ = [(D, baObj (u8s (outC cs W i)).toArray)]) (ha : HasAll m₁ [("data", .bytes b t), ("width", .int W tw), ("swapped_data", .ref D)]) : BsJ cs W D b t tw i m₁ g₁ nx₁
inductive BsK (cs : List (List Nat)) (W : Nat) (D : Addr) (b : Array UInt8) (t tw : Tok) (I : Addr) (oI : Obj) (i : Nat) (c : List Nat) (j : Nat) (m₁ : PySem.Str → Option Value) (g₁ : Heap) (nx₁ : List (Addr × Obj)) : Prop
  | mk (ti : Tok) (en : nx₁ = [(I, oI), (D, baObj (u8s (inC cs W i c j)).toArray)]) (ha : HasAll m₁ [("data", .bytes b t), ("width", .int W tw), ("swapped_data", .ref D), ("i", .int (i * W : Nat) ti)]) : BsK cs W D b t tw I oI i c j m₁ g₁ nx₁
set_option maxRecDepth 100000 in
set_option maxHeartbeats 4000000 in
theorem swap_spec {w : World} {A : Around} {s : Shared} {g : Heap} {cs : List (List Nat)} {W : Nat} {t tw : Tok} {Q : Value → Shared → Prop} (R : Rm A 1) (hgu : A.guards = some []) (G : Gd w g) (st : g.StaysIn s.heap)
    (hW : 0 < W ∧ W ≤ 10) (hcs : ∀ c ∈ cs, c.length = W) (hl : cs.length ≤ 100) (h256 : ∀ c ∈ cs, ∀ x ∈ c, x < 256)
    (hQ : ∀ h' tk' t, s.heap.StaysIn h' → Q (.bytes (u8s (cs.map List.reverse).flatten).toArray t) { s with heap := h', toks := tk' }) :
    wpN (model PG w) A (call (.ref 169) [.bytes (u8s cs.flatten).toArray t, .int W tw] []) Q NoE s := by
  have hlen : (u8s cs.flatten).toArray.size = cs.length * W := by rw [List.size_toArray, List.length_map, flat_len_W hcs]
  have hNW : cs.length * W ≤ 1000 := Nat.mul_le_mul hl hW.2
  generalize hb : (u8s cs.flatten).toArray = b at hlen ⊢
  refine enterN (binds := [("data", .bytes b t), ("width", .int W tw)]) [] G st (by simp) (by simp) (by k_dflt k_is) (by k_dflt k_is) R.room (BindsTo.of_eq rfl) rfl (by decide) (by decide) ?_ rfl rfl rfl
  intro g' L h₁ tk G' hk S
  have zB : Base s := trivial
  have R' : ∀ env, Rm (A.deeper env) 0 := fun _ => R.deeper
  have hgu' : ∀ env, (A.deeper env).guards = some [] := fun _ => hgu
  have hext : ∀ h', g'.StaysIn h' → s.heap.StaysIn h' := fun h' k b o e => k b o (hk b o (by simp) e)
  clear G st R hk hgu
  dsimp only [bindAll, List.foldl_cons, List.foldl_nil] at S
  refine wpN_execs_cons (wpN_Assign_Name (wpN_Call_Name ?_))
  k_steps
  refine wpN_callType ?_
  k_steps
  rename St _ _ _ _ _ => zS
  refine call_ba (n := cs.length * W) zS (hgu' _) (by rw [hlen]) (by exact om28 hNW) ?_
  clear zS
  intro D h' S _ _
  k_steps
  refine wpN_of ?_
  k_steps
  rename St _ _ _ _ _ => zS
  refine range3 (n := cs.length * W) (c := W) zS (by rw [hlen]) rfl (by exact om34 hW) (by exact om32 hW) (by exact om33 hNW) ?_
  clear zS
  intro r h' tk t1 u1 v1 S _
  k_steps
  rename St _ _ _ _ _ => zS
  refine it_r3 zS at0 (N := cs.length) (by exact om34 hW) rfl (by exact om33 hNW) (by exact om32 hW) (R' _).hand ?_
  clear zS
  intro I oI h' S W' _
  replace S := S.forget1
  refine for_it (BsJ cs W D b t tw) S W' ⟨?_, rfl, rfl, rfl, trivial⟩ ?_ ?_
  · rw [outC_zero]; simp
  · clear S W'
    rintro i v m₁ g₁ nx₁ h₁ tk₁ oI hi ⟨ti, rfl⟩ kg - S ⟨rfl, e⟩
    replace S := S.norm e
    dsimp only [putAll, List.foldr_cons, List.foldr_nil] at S
    obtain ⟨c, hc⟩ : ∃ c, cs[i]? = some c := get_some hi
    have hcm := List.mem_of_getElem? hc
    have G1 : Gd w g₁ := G'.mono kg
    refine let_name ?_
    k_steps
    rename St _ _ _ _ _ => zS
    refine it_r1 zS at0 (n := W) rfl (by exact om32 hW) (R' _).hand ?_
    clear zS
    intro I2 oI2 h' S W2 _
    replace S := S.forget1
    rw [← inC_start (c := c) hi] at S
    refine for_it (BsK cs W D b t tw I oI i c) S W2 ⟨_, rfl, rfl, rfl, rfl, rfl, trivial⟩ ?_ ?_
    · clear S W2
      rintro j v m₂ g₂ nx₂ h₁ tk₁ oI2 hj ⟨tj, rfl⟩ kg2 - S ⟨ti, rfl, e⟩
      replace S := S.norm e
      dsimp only [putAll, List.foldr_cons, List.foldr_nil] at S
      obtain ⟨x, hx⟩ : ∃ x, c[j]? = some x := get_some (by rw [hcs c hcm]; exact hj)
      have hx256 := h256 c hcm x (List.mem_of_getElem? hx)
      have hflen : cs.flatten.length = cs.length * W := flat_len_W hcs
      refine let_name ?_
      k_steps
      subst hb
      refine bytes_item (n := i * W + j) rfl ((flat_get_W hcs hc hj).trans hx) hx256 (by exact om31 hNW hflen) (fun t' tk' => ?_) (by with_unfolding_all rfl)
      k_steps
      rename St _ _ _ _ _ => zS
      refine led_bset zS at2 (n := i * W + (W - 1 - j)) (x := x) ?_ ?_ ?_ rfl hx256 ?_
      · have : ((i * W + (W - 1 - j) : Nat) : Int) = ((i * W : Nat) : Int) + ((W - 1 - j : Nat) : Int) := rfl
        exact om30 hj
      · rw [inC_len hcs hi (hcs c hcm) (Nat.le_of_lt hj)]
        have : (i + 1) * W ≤ cs.length * W := Nat.mul_le_mul_right W hi
        rw [Nat.add_mul] at this
        exact om29 hW this
      · rw [inC_len hcs hi (hcs c hcm) (Nat.le_of_lt hj)]; exact om28 hNW
      clear zS
      intro h' S
      rw [inC_set hcs hi hx hj] at S
      simp only [List.set_cons_zero, List.set_cons_succ] at S
      k_steps
      rename St _ _ _ _ _ => zS
      (show FPost _ _ _ _ _ _ _ _ _ _); dsimp only [FPost]
      exact ⟨_, _, _, _, [(I, oI), (D, _)], [], rfl, kg2, zS, fun g₃ k3 _ => ⟨_, rfl, rfl, rfl, rfl, rfl, trivial⟩⟩
    · clear S W2
      rintro m₂ g₂ nx₂ h₁ tk₁ kg2 S ⟨ti, rfl, e⟩
      rw [inC_end hc (hcs c hcm)] at S
      k_steps
      (show FPost _ _ _ _ _ _ _ _ _ _); dsimp only [FPost]
      exact ⟨_, _, _, _, [(D, _)], [], rfl, fun b o e => kg2 _ _ (kg _ _ e), S, fun g₃ k3 _ => ⟨rfl, e.1, e.2.1, e.2.2.1, trivial⟩⟩
  · clear S W'
    rintro m₁ g₁ nx₁ h₁ tk₁ kg S ⟨rfl, e⟩
    replace S := S.norm e
    dsimp only [putAll, List.foldr_cons, List.foldr_nil] at S
    have G1 : Gd w g₁ := G'.mono kg
    rw [outC_end] at S
    try dsimp only
    k_steps
    rename St _ _ _ _ _ => zS
    have hfl : ((cs.map List.reverse).flatten).length = cs.length * W := by
      have := rev_len (W := W) hcs (Nat.le_refl cs.length)
      rwa [List.take_of_length_le (Nat.le_refl _)] at this
    refine call_bytes_ba (zS.at at0) (by rw [List.size_toArray, List.length_map, hfl]; exact om28 hNW) fun tk t => ?_
    exact hQ _ _ _ (hext _ fun b o e => zS.keep _ _ (kg _ _ e))
end
-- Rs168
section
open PySem PySem.W PyProof.Rows PySem.Calls PySem.Builtin
set_option maxRecDepth 100000
theorem not_long (i : Int) (h : -10 ≤ i) (h2 : i ≤ 10) : ¬ (i.natAbs.log2 ≥ bitsLine) := by
  have hb : bitsLine = 134217728 := by first | rfl | decide
  rw [hb]
  have : i.natAbs < 2 ^ 4 := by show i.natAbs < 16; omega
  by_cases hz : i.natAbs = 0
  · rw [hz]; decide
  · have := (Nat.log2_lt hz).mpr this
    exact om360 this
section
variable {prog : Program} {w : World} {A : Around} {E : Value → Shared → Prop} {s : Shared}
theorem grown10 {i : Int} {Q : Value → Shared → Prop} (h1 : -10 ≤ i) (h2 : i ≤ 10) (h : Q (.int i s.toks) { s with toks := s.toks + 1 }) : wpAny (model prog w) A (mkIntGrown i) Q E s := by
  unfold mkIntGrown
  rw [if_neg (not_long i h1 h2)]
  exact wpAny_mkInt h
theorem getItem_rrev {r sl : Addr} {n : Nat} {t u v tz : Tok} {Q : Value → Shared → Prop} (hr : IsRange s.heap r 0 n 1 t u v) (hs : s.heap.get? sl = some { cls := .type "slice", data := .fields #[.none, .none, .int (-1) tz] }) (hn : n = 2 ∨ n = 3 ∨ n = 4)
    (h : ∀ t' u' v' tk, Q (.ref s.heap.objs.size) { s with heap := s.heap.push { cls := .type "range", data := .fields #[.int ((n : Int) - 1) t', .int (-1) u', .int (-1) v'] }, toks := tk }) : wpAny (model prog w) A (getItem (.ref r) (.ref sl)) Q E s := by
  have hTs : s.TypeIs (.ref sl) "slice" := ⟨_, hs, rfl⟩
  have hT : s.TypeIs (.ref r) "range" := ⟨_, hr, rfl⟩
  unfold getItem
  try with_reducible refine wpAny_holding ?_
  first | refine wpAny_bind (wpAny_pure ?_) | skip
  try refine wpAny_bind (wpAny_sequenceKey hT (by decide) ?_)
  refine wpAny_bind (wpAny_callSpecial?_slot (name := Str.ofString "__getitem__") hT F.slot_range_getitem
    (wpAny_call_entry F.slot_range_getitem hT F.entry_range_getitem ?_ (F.args_range_getitem_2 _ _)))
  unfold Builtin.«range.__getitem__»
  obtain ⟨hp, g, d, tk, os⟩ := s
  wp_walk using AutoSeq1.wpAny_loadPart' hr, AutoSeq1.wpAny_loadPart' hs
  refine wpAny_of_eq (by first | exact int_index | exact int_index.lookup) ?_
  dsimp only [Option.isNone]
  rw [if_neg Bool.false_ne_true]
  refine wpAny_bind (wpAny_of_eq (a := (-1 : Int)) rfl (wpAny_pure ?_))
  dsimp only [Option.getD]
  rw [if_neg (by decide)]
  refine wpAny_bind (m := Slice.slicePartIndex .none) (slicePart_none ?_)
  refine wpAny_bind (m := Slice.slicePartIndex .none) (slicePart_none ?_)
  have hsz : Range.rangeSize 0 (n : Int) 1 = n := by rcases hn with rfl | rfl | rfl <;> decide
  have had : Slice.sliceAdjust none none (-1) (n : Int) = ((n : Int) - 1, -1) := by rcases hn with rfl | rfl | rfl <;> decide
  rw [hsz, had]
  dsimp only
  refine wpAny_bind (wpAny_roomForPylong (.inl (PyProof.noPylong_small (by omega))) ?_)
  refine wpAny_bind (grown10 (by exact om359) (by exact om358 hn) ?_)
  refine wpAny_bind (grown10 (by exact om357) (by exact om356) ?_)
  refine wpAny_bind (grown10 (by exact om355) (by exact om354) ?_)
  refine wpAny_bind (wpAny_newObj_type ?_)
  refine wpAny_pure ⟨_, rfl, wpAny_pure ?_⟩
  have e1 : (0 + ((n : Int) - 1) * 1) = (n : Int) - 1 := by exact om353
  rw [e1]
  exact h _ _ _ _
end
section
variable {prog : Program} {w : World} {A : Around} {E : Value → Shared → Prop} {s : Shared} {g : Heap} {env : Env} {m : PySem.Str → Option Value} {nx : List (Addr × Obj)} {value slice : Expr} {Q : Value → Shared → Prop}
theorem rrev_St {i n : Nat} {r : Addr} {t u v tz : Tok} (S : St g env s.heap m nx) (hi : nx[i]? = some (r, rangeObj 0 n 1 t u v)) (hn : n = 2 ∨ n = 3 ∨ n = 4)
    (h : ∀ D h' t' u' v' tk, St g env h' m ((D, rangeObj ((n : Int) - 1) (-1) (-1) t' u' v') :: nx) → Q (.ref D) { s with heap := h', toks := tk })
    (hs : subscripted slice false (.ref r) (.ref s.heap.objs.size) = operate [.ref r, .ref s.heap.objs.size] (getItem (.ref r) (.ref s.heap.objs.size))) :
    wpAny (model prog w) A (subscriptTail value slice (.ref r) (.ref s.heap.objs.size)) Q E { s with heap := s.heap.push { cls := .type "slice", data := .fields #[.none, .none, .int (-1) tz] } } := by
  have S1 := S.push { cls := .type "slice", data := .fields #[.none, .none, .int (-1) tz] } rfl
  have hr := S1.led (r, rangeObj 0 n 1 t u v) (.tail _ (mem_fst_of_get hi))
  refine tail_any ⟨_, hr, rfl⟩ F.slot_range_getitem.lookup (getItem_rrev hr (Heap.get?_push_size _ rfl) hn fun t' u' v' tk => ?_) hs
  exact h _ _ t' u' v' tk (S1.push _ rfl).forget1
end
end
-- Sw168
section
theorem St.newAt {g h h' : Heap} {env : Env} {m : Str → Option Value} {nx : List (Addr × Obj)} (S : St g env h m nx) (k : h.StaysIn h') {D : Addr} {o : Obj} (hD : h.objs.size ≤ D) (ho : h'.get? D = some o) : St g env h' m ((D, o) :: nx) := by
  have hnone : h.get? D = none := by
    cases q : h.get? D with
    | none => rfl
    | some o => exact absurd (Heap.lt_size q) (Nat.not_lt.mpr hD)
  have S' := S.kept k
  exact { S' with
    led := fun p hp => by
      rcases List.mem_cons.mp hp with rfl | hp
      · exact ho
      · exact S'.led p hp
    apart := by
      refine List.nodup_cons.mpr ⟨fun hm => ?_, S.apart⟩
      obtain ⟨p, hp, e⟩ := List.mem_map.mp hm
      have := S.led p hp
      rw [e, hnone] at this; cases this
    free := fun p hp => by
      rcases List.mem_cons.mp hp with rfl | hp
      · exact ⟨Nat.ne_of_gt (Nat.lt_of_lt_of_le S.lt hD), fun x c hc => Nat.ne_of_gt (Nat.lt_of_lt_of_le (S.cell x c (S.cells1 x c hc)).lt hD)⟩
      · exact S.free p hp
    freshN := fun p hp => by
      rcases List.mem_cons.mp hp with rfl | hp
      · cases q : g.get? D with
        | none => rfl
        | some o => have := S.keep _ _ q; rw [hnone] at this; cases this
      · exact S.freshN p hp }
theorem rising_pw : ∀ (r : List PySem.Str) (p : PySem.Str), risingS p r = true → (p :: r).Pairwise fun a b => a.cps.toList ≤ b.cps.toList
  | [], p, _ => by simp
  | x :: r, p, h => by
    unfold risingS at h
    rw [Bool.and_eq_true] at h
    have h1 : p.cps.toList ≤ x.cps.toList := by
      have := h.1
      rw [ltCps_eq] at this
      simpa using this
    have ih := rising_pw r x h.2
    refine List.pairwise_cons.mpr ⟨fun b hb => ?_, ih⟩
    rcases List.mem_cons.mp hb with rfl | hb
    · exact h1
    · exact List.le_trans h1 ((List.pairwise_cons.mp ih).1 b hb)
theorem sorted_lt {ss : List PySem.Str} (h : sortedS ss = true) (hn : (ss.map fun x : PySem.Str => x.cps.toList).Nodup) : (ss.map fun x : PySem.Str => x.cps.toList).Pairwise (· < ·) := by
  have h1 : (ss.map fun x : PySem.Str => x.cps.toList).Pairwise (· ≤ ·) := by
    rw [List.pairwise_map]
    cases ss with
    | nil => exact .nil
    | cons p r => exact rising_pw r p h
  refine (h1.and (List.nodup_iff_pairwise_ne.mp hn)).imp fun {a b} ⟨h1, h2⟩ => ?_
  rcases Classical.em (a < b) with h | h
  · exact h
  · exact absurd (List.le_antisymm h1 (List.not_lt.mp h)) h2
section
variable {prog : Program} {w : World} {A : Around} {E : Value → Shared → Prop} {s : Shared} {g : Heap} {env : Env} {m : PySem.Str → Option Value} {nx : List (Addr × Obj)}
theorem sorted_ts {l : Addr} {vs : List Value} {us : List (List Nat)} {Q : Value → Shared → Prop} (S : St g env s.heap m nx) (hl : s.heap.IsList l vs.toArray) (hi : TsAre vs us) (hnd : us.Nodup) (h64 : us.length < 64)
    (h : ∀ D h' vs' us' e, St g env h' m ((D, listOf vs'.toArray e) :: nx) → s.heap.StaysIn h' → TsAre vs' us' → us'.Perm us → us'.Pairwise (· < ·) → Q (.ref D) { s with heap := h' }) :
    wpAny (model prog w) A (call (.builtin "sorted") [.ref l]) Q E s := by
  refine sorted_strs hl hi (by rw [tsAre_len hi]; exact h64) fun out ss' a1 a2 a3 => ?_
  obtain ⟨e, he⟩ := sortedAll_at s.heap vs out
  have eT : (ss'.map fun x : PySem.Str => x.cps.toList).map T = ss' := by
    rw [List.map_map]
    refine (List.map_congr_left fun x _ => ?_).trans (List.map_id _)
    show T x.cps.toList = x
    unfold T; simp
  have hp : (ss'.map fun x : PySem.Str => x.cps.toList).Perm us := by
    have := a2.map fun x : PySem.Str => x.cps.toList
    rw [List.map_map] at this
    have e2 : ((fun x : PySem.Str => x.cps.toList) ∘ T) = id := by funext u; simp
    rw [e2, List.map_id] at this
    exact this
  refine h _ _ out.toList _ e (S.newAt (fun _ _ => sortedAll_old) (Nat.le_succ _) he) (fun _ _ => sortedAll_old) (by unfold TsAre; rw [eT]; exact a1) hp ?_
  have hnd' := hp.nodup_iff.mpr hnd
  exact sorted_lt a3 hnd'
end
end
section
theorem lines1 : True := by
  k_with "eval ListComp" => (k_dflt (refine' comp_eval (by exact rfl) (by exact rfl) (by decide) (by intro _; rfl) ?_))
  trivial
-- LwA168
section
noncomputable def lawBody : List Stmt := (fnAt 34).1
noncomputable def lawScope : Scope := (fnAt 34).2
noncomputable def lawSeg (i k : Nat) : List Stmt := (lawBody.drop i).take k
noncomputable abbrev lawEnv (L : Addr) (cdv : Value) : Env := envOfC (Str.ofString "law") lawScope L 222 cdv
noncomputable def drawnOf (ns : List Int) : List Int := (ns.take 5).map (fun x => x.fmod (10 ^ 6)) ++ [1, 1, 1, 2, 0].drop (ns.take 5).length
set_option maxRecDepth 100000 in
set_option maxHeartbeats 0 in
theorem segA1 {w : World} {A : Around} {s : Shared} {g : Heap} {L : Addr} {cdv : Value} {m : PySem.Str → Option Value} {ls : Addr} {vs : List Value} {ns : List Int} {Q : Flow → Shared → Prop}
    (R' : ∀ env, Rm (A.deeper env) 9) (G : Gd w g) (S : St g (lawEnv L cdv) s.heap m []) (e : HasAll m [("script", .ref ls)]) (hls : g.IsList ls vs.toArray) (hi : IntsAre vs ns) (hz : ns.length ≤ 63)
    (hQ : ∀ h' tk m' g' D dv, g.StaysIn g' → St g' (lawEnv L cdv) h' m' [] → HasAll m' [("script", .ref ls), ("drawn", .ref D)] → g'.get? D = some (listOf dv.toArray 0) → IntsAre dv (drawnOf ns) → Q .next { s with heap := h', toks := tk }) :
    wpAny (model PG w) (A.deeper (lawEnv L cdv)) (execs (lawSeg 0 1) (lawEnv L cdv)) Q NoE s := by
  have zB : Base s := trivial
  replace S := S.norm e
  clear e
  dsimp only [putAll, List.foldr_cons, List.foldr_nil] at S
  conv in lawSeg 0 1 => { whnf; arg 2; whnf }
  k_steps
  rename St _ _ _ _ _ => zS
  have hvl : vs.length = ns.length := hi.length
  refine ls_to (n := 5) zS ((isL_up hls zS.keep)) rfl (by exact om264 hz hvl) ?_ (by with_unfolding_all rfl) (by intro _; with_unfolding_all rfl)
  clear zS
  intro D1 h' S _
  obtain ⟨g1, kg1, S, hex, _⟩ := St.rebase (nx := []) (extra := [_]) S
  have hD1 := hex _ (.head _)
  try dsimp only at hD1
  clear hex
  refine it_list (vs := vs.take 5) S (R' _).hand ⟨_, hD1, rfl, _, rfl⟩ ?_
  clear S
  intro I1 oI1 h' S W1 _
  try dsimp only at S W1 ⊢
  refine comp_it (fun k ys g₁ => IntsAre ys (((ns.take 5).take k).map fun x => x.fmod (10 ^ 6))) [] S W1 (by decide) rfl rfl (by decide) rfl rfl rfl (by rw [List.length_take]; exact om265) trivial .nil ?_ ?_
  · clear S W1
    rintro k x ys m₂ g₂ h₁ tk₁ oI2 C tl hk hP kg2 - e hys S
    obtain ⟨n, tn, rfl, hn⟩ := IntsAre.at (IntsAre.take hi 5) k x hP
    refine let_name ?_
    k_steps
    rw [CPost, if_pos rfl]
    k_steps
    rename St _ _ _ _ _ => zS
    refine ⟨_, _, _, g₂, [], rfl, kg2, trivial, zS.cnil, fun _ _ _ => ?_⟩
    try dsimp only
    rw [List.take_add_one, hn, Option.toList_some, List.map_append, List.map_cons, List.map_nil]
    exact hys.append (.cons _ _ .nil)
  clear S W1
  rintro D2 ys g2 h₂ tk₂ n2 kg2 S hys
  try dsimp only
  have G2 : Gd w g2 := G.mono fun b o q => kg2 _ _ (kg1 _ _ q)
  k_steps
  rename St _ _ _ _ _ => zS
  refine ls_to (n := 5) zS ((isL_up hls fun b o q => zS.keep _ _ (kg2 _ _ (kg1 _ _ q)))) rfl (by exact om264 hz hvl) ?_ (by with_unfolding_all rfl) (by intro _; with_unfolding_all rfl)
  clear zS
  intro D3 h' S _
  k_steps
  rename St _ _ _ _ _ => zS
  refine led_len zS at0 (by rw [List.length_take]; exact om263) ?_
  intro t'
  k_steps
  rename St _ _ _ _ _ => zS
  refine kba_turn (value' := .Name (Str.ofString "_") ⟨0, 0, 0, 0⟩) (fun _ => rfl) ?_
  refine ls_from (n := (vs.take 5).length) zS (zS.isList at1) rfl (by show (5 : Nat) ≤ 10000; exact om262) ?_ (by with_unfolding_all rfl) (by intro _; with_unfolding_all rfl)
  clear zS
  intro D4 h' S _
  k_steps
  rename St _ _ _ _ _ => zS
  rw [List.take_of_length_le (show (ns.take 5).length ≤ (vs.take 5).length by rw [List.length_take, List.length_take, hvl]; exact Nat.le_refl _)] at hys
  have hyl : ys.length = (vs.take 5).length := by have := hys.length; rw [List.length_map] at this; rw [this, List.length_take, List.length_take, hvl]
  have hvn : (vs.take 5).length = (ns.take 5).length := by rw [List.length_take, List.length_take, hvl]
  refine add_st zS (zS.isList at3) (zS.isList at0) (by rw [hyl, List.length_drop, List.length_take]; show _ + (5 - _) ≤ 10000; exact om261) ?_
  clear zS
  intro D5 h' S _
  have hdr : IntsAre (ys ++ List.drop (List.take 5 vs).length [Value.int 1 tk₂, Value.int 1 (tk₂ + 1), Value.int 1 (tk₂ + 1 + 1), Value.int 2 (tk₂ + 1 + 1 + 1), Value.int 0 (tk₂ + 1 + 1 + 1 + 1)]) (drawnOf ns) := by
    rw [hvn]
    exact hys.append (IntsAre.drop (.cons _ _ (.cons _ _ (.cons _ _ (.cons _ _ (.cons _ _ .nil))))) _)
  generalize ys ++ List.drop (List.take 5 vs).length [Value.int 1 tk₂, Value.int 1 (tk₂ + 1), Value.int 1 (tk₂ + 1 + 1), Value.int 2 (tk₂ + 1 + 1 + 1), Value.int 0 (tk₂ + 1 + 1 + 1 + 1)] = dv at S hdr
  obtain ⟨g3, kg3, S, hex, _⟩ := St.rebase (nx := []) (extra := [_, _, _, _, _]) S
  have hD5 := hex _ (.head _)
  try dsimp only at hD5
  clear hex
  k_steps
  rename St _ _ _ _ _ => zS
  exact hQ _ _ _ g3 D5 dv (fun b o q => kg3 _ _ (kg2 _ _ (kg1 _ _ q))) zS ⟨rfl, rfl, trivial⟩ hD5 hdr
end
-- LwB168
section
noncomputable def wsOf (ns : List Int) : List Int := (((drawnOf ns).drop 2).take (2 + ((drawnOf ns).getD 0 0 % 2).toNat)).map fun x => 1 + x.fmod 9
noncomputable def opOf (ns : List Int) : Nat := 2 + ((drawnOf ns).getD 1 0 % 3).toNat
theorem drawn_len (ns : List Int) : (drawnOf ns).length = 5 := by
  unfold drawnOf
  rw [List.length_append, List.length_map, List.length_drop, List.length_take]
  show min 5 _ + (5 - min 5 _) = 5
  exact om274
set_option maxRecDepth 100000 in
set_option maxHeartbeats 0 in
theorem segA2 {w : World} {A : Around} {s : Shared} {g : Heap} {L : Addr} {cdv : Value} {m : PySem.Str → Option Value} {ls D : Addr} {dv : List Value} {ns : List Int} {Q : Flow → Shared → Prop}
    (R' : ∀ env, Rm (A.deeper env) 9) (G : Gd w g) (S : St g (lawEnv L cdv) s.heap m []) (e : HasAll m [("script", .ref ls), ("drawn", .ref D)]) (hD : g.get? D = some (listOf dv.toArray 0)) (hi : IntsAre dv (drawnOf ns))
    (hQ : ∀ h' tk m' g' W wv nw tn, g.StaysIn g' → St g' (lawEnv L cdv) h' m' [] → HasAll m' [("script", .ref ls), ("weights", .ref W), ("openings", .int (opOf ns) tn)] → g'.get? W = some (listOf wv.toArray nw) → IntsAre wv (wsOf ns) → Q .next { s with heap := h', toks := tk }) :
    wpAny (model PG w) (A.deeper (lawEnv L cdv)) (execs (lawSeg 1 2) (lawEnv L cdv)) Q NoE s := by
  have zB : Base s := trivial
  replace S := S.norm e
  clear e
  dsimp only [putAll, List.foldr_cons, List.foldr_nil] at S
  conv in lawSeg 1 2 => { whnf; arg 2; whnf; arg 2; whnf }
  have hdl := drawn_len ns
  have hvl : dv.length = 5 := by rw [hi.length, hdl]
  obtain ⟨d0, hd0⟩ : ∃ x, (drawnOf ns)[0]? = some x := get_some (by exact om273 hdl)
  obtain ⟨d1, hd1⟩ : ∃ x, (drawnOf ns)[1]? = some x := get_some (by exact om272 hdl)
  obtain ⟨u0, hv0⟩ := IntsAre.get hi 0 d0 hd0
  obtain ⟨u1, hv1⟩ := IntsAre.get hi 1 d1 hd1
  have hg0 : (drawnOf ns).getD 0 0 = d0 := by simp [List.getD, hd0]
  have hg1 : (drawnOf ns).getD 1 0 = d1 := by simp [List.getD, hd1]
  k_steps
  rename St _ _ _ _ _ => zS
  refine item_listL (l := dv) ⟨_, zS.keep _ _ hD, rfl, _, rfl⟩ (by exact om21) (by exact om20) (by simpa using hv0) ?_
  k_steps
  rename St _ _ _ _ _ => zS
  refine ls_mid (a := 2) (b := 4 + (d0 % 2).toNat) zS ((isL_up ⟨_, hD, rfl, _, rfl⟩ zS.keep)) rfl (by rw [Int.fmod_eq_emod_of_nonneg _ (by decide)]; exact om271) (by exact om270 hvl) ?_ (by with_unfolding_all rfl) (by intro _; with_unfolding_all rfl)
  clear zS
  intro D1 h' S _
  have hi2 : IntsAre ((dv.drop 2).take (4 + (d0 % 2).toNat - 2)) (((drawnOf ns).drop 2).take (2 + ((drawnOf ns).getD 0 0 % 2).toNat)) := by
    rw [hg0, show 4 + (d0 % 2).toNat - 2 = 2 + (d0 % 2).toNat by exact om269]
    exact (hi.drop 2).take _
  have hwl : ((dv.drop 2).take (4 + (d0 % 2).toNat - 2)).length ≤ 5 := by rw [List.length_take, List.length_drop]; exact om268
  have hws : wsOf ns = (((drawnOf ns).drop 2).take (2 + ((drawnOf ns).getD 0 0 % 2).toNat)).map fun x => 1 + x.fmod 9 := rfl
  generalize (dv.drop 2).take (4 + (d0 % 2).toNat - 2) = xv at S hi2 hwl
  generalize ((drawnOf ns).drop 2).take (2 + ((drawnOf ns).getD 0 0 % 2).toNat) = xn at hi2 hws
  obtain ⟨g1, kg1, S, hex, _⟩ := St.rebase (nx := []) (extra := [_]) S
  have hD1 := hex _ (.head _)
  try dsimp only at hD1
  clear hex
  k_steps
  refine it_list (vs := xv) S (R' _).hand ⟨_, hD1, rfl, _, rfl⟩ ?_
  clear S
  intro I1 oI1 h' S W1 _
  try dsimp only at S W1 ⊢
  refine comp_it (fun k ys g₁ => IntsAre ys ((xn.take k).map fun x => 1 + x.fmod 9)) [] S W1 (by decide) rfl rfl (by decide) rfl rfl rfl (by exact om267 hwl) trivial .nil ?_ ?_
  · clear S W1
    rintro k x ys m₂ g₂ h₁ tk₁ oI2 C tl hk hP kg2 - e hys S
    obtain ⟨n, tn, rfl, hn⟩ := IntsAre.at hi2 k x hP
    refine let_name ?_
    k_steps
    rw [CPost, if_pos rfl]
    k_steps
    rename St _ _ _ _ _ => zS
    refine ⟨_, _, _, g₂, [], rfl, kg2, trivial, zS.cnil, fun _ _ _ => ?_⟩
    try dsimp only
    rw [List.take_add_one, hn, Option.toList_some, List.map_append, List.map_cons, List.map_nil]
    exact hys.append (.cons _ _ .nil)
  clear S W1
  rintro W ys g2 h₂ tk₂ n2 kg2 S hys
  try dsimp only
  rw [List.take_of_length_le (by rw [hi2.length]; exact Nat.le_refl _), ← hws] at hys
  have G2 : Gd w g2 := G.mono fun b o q => kg2 _ _ (kg1 _ _ q)
  k_steps
  rename St _ _ _ _ _ => zS
  refine item_listL (l := dv) ⟨_, zS.keep _ _ (kg2 _ _ (kg1 _ _ hD)), rfl, _, rfl⟩ (by exact om27) (by exact om26) (by simpa using hv1) ?_
  k_steps
  rename St _ _ _ _ _ => zS
  have hop : 2 + d1.fmod 3 = (opOf ns : Int) := by
    unfold opOf
    rw [hg1, Int.fmod_eq_emod_of_nonneg _ (by decide)]
    exact om266
  rw [hop] at zS
  obtain ⟨g3, kg3, S, hex, _⟩ := St.rebase (nx := []) (extra := [_]) zS
  have hW := hex _ (.head _)
  try dsimp only at hW
  refine hQ _ _ _ g3 W ys _ _ (fun b o q => kg3 _ _ (kg2 _ _ (kg1 _ _ q))) S ⟨rfl, rfl, rfl, trivial⟩ hW hys
end
-- LwC168
section
/-- a list of rows in the ground, with these keys -/
structure RL (g : Heap) (a : Addr) (ks : List (Int × Str)) : Prop where
  ex : ∃ (xs : List Row) (n : Nat), g.get? a = some (listOf (xs.map Row.val).toArray n) ∧ (∀ r ∈ xs, r.In g) ∧ xs.map Row.key = ks
theorem RL.up {g h : Heap} {a : Addr} {ks : List (Int × Str)} (x : RL g a ks) (k : g.StaysIn h) : RL h a ks := by
  obtain ⟨xs, n, h1, h2, h3⟩ := x.ex
  exact ⟨xs, n, k _ _ h1, fun r hr => (h2 r hr).keeps k, h3⟩
theorem RL.new {g₂ h h' : Heap} {a : Addr} {xs : List Row} {n : Nat} (kn : ∀ b o, (newPart h h').get? b = some o → g₂.get? b = some o) (h1 : (newPart h h').get? a = some (listOf (xs.map Row.val).toArray n)) (h2 : ∀ r ∈ xs, r.In (newPart h h')) {ks : List (Int × Str)} (h3 : xs.map Row.key = ks) : RL g₂ a ks :=
  ⟨xs, n, kn _ _ h1, fun r hr => (h2 r hr).keeps kn, h3⟩
set_option maxRecDepth 100000 in
set_option maxHeartbeats 0 in
theorem segC1 {w : World} {A : Around} {s : Shared} {g : Heap} {L : Addr} {cdv : Value} {m : PySem.Str → Option Value} {ls W : Addr} {wv : List Value} {nw n : Nat} {tn : Tok} {ws : List Int} {Q : Flow → Shared → Prop}
    (R' : ∀ env, Rm (A.deeper env) 9) (G : Gd w g) (S : St g (lawEnv L cdv) s.heap m []) (e : HasAll m [("script", .ref ls), ("weights", .ref W), ("openings", .int n tn)]) (hW : g.get? W = some (listOf wv.toArray nw)) (hi : IntsAre wv ws)
    (hn : 2 ≤ ws.length ∧ ws.length ≤ 3) (hpos : ∀ x ∈ ws, 0 < x ∧ x < 10 ∧ x ≤ ws.sum) (hsum : 0 < ws.sum ∧ ws.sum < 100) (hn4 : 2 ≤ n ∧ n ≤ 4) (hbig : ws.sum ^ n ≤ 1000000)
    (hQ : ∀ h' tk m' g' oa ob pa pb tn, g.StaysIn g' → St g' (lawEnv L cdv) h' m' [] → HasAll m' [("script", .ref ls), ("weights", .ref W), ("openings", .int n tn), ("opened", .ref oa), ("words", .ref ob), ("opened_told", .ref pa), ("words_told", .ref pb)] →
      RL g' oa ((opN ws n).map keyW) → RL g' ob ((wdN ws n).map keyW) → RL g' pa ((opN ws n).map keyT) → RL g' pb ((wdN ws n).map keyT) → Q .next { s with heap := h', toks := tk }) :
    wpAny (model PG w) (A.deeper (lawEnv L cdv)) (execs (lawSeg 3 2) (lawEnv L cdv)) Q NoE s := by
  have zB : Base s := trivial
  replace S := S.norm e
  clear e
  dsimp only [putAll, List.foldr_cons, List.foldr_nil] at S
  conv in lawSeg 3 2 => { whnf; arg 2; whnf; arg 2; whnf }
  k_steps
  rename St _ _ _ _ _ => zS
  refine grown_spec (n := n) ((R' _).less (by decide)) G zS.keep (isL_up ⟨_, hW, rfl, _, rfl⟩ zS.keep) hi hn hpos hsum rfl (by exact om275 hn4) hbig ?_
  intro h' tk' a oa ob os qs na nb k ha hoa hob hos hqs hro hrq
  obtain ⟨g1, kg1, kn1, S⟩ := St.adopt zS k
  clear zS
  have ha1 : g1.IsTuple a #[.ref oa, .ref ob] := isT_up ha kn1
  have hO := RL.new (ks := (opN ws n).map keyW) kn1 hoa hos (hro.map fun x y h => h.1)
  have hWd := RL.new (ks := (wdN ws n).map keyW) kn1 hob hqs (hrq.map fun x y h => h.1)
  clear ha hoa hob hos hqs hro hrq kn1 k
  have G1 : Gd w g1 := G.mono kg1
  try dsimp only
  refine as_tup (vs := [.ref oa, .ref ob]) S (R' _).hand (isT_up ha1 S.keep) rfl rfl ?_
  clear S
  intro h' S _
  try dsimp only
  k_steps
  rename St _ _ _ _ _ => zS
  have hT := told_ok (ws := ws) (n := n) (fun x hx => ⟨(hpos x hx).1, (hpos x hx).2.2⟩) hsum.1 hn hbig hn4
  refine told_spec (n := n) ((R' _).less (by decide)) G1 zS.keep (isL_up ⟨_, kg1 _ _ hW, rfl, _, rfl⟩ zS.keep) hi hn hpos hsum rfl (by exact om275 hn4) hbig hT ?_
  intro h' tk' a2 pa pb os qs na nb k ha hoa hob hos hqs hro hrq
  obtain ⟨g2, kg2, kn2, S⟩ := St.adopt zS k
  clear zS
  have ha2 : g2.IsTuple a2 #[.ref pa, .ref pb] := isT_up ha kn2
  have hOt := RL.new (ks := (opN ws n).map keyT) kn2 hoa hos hro
  have hWt := RL.new (ks := (wdN ws n).map keyT) kn2 hob hqs hrq
  clear ha hoa hob hos hqs hro hrq kn2 k
  have G2 : Gd w g2 := G1.mono kg2
  try dsimp only
  refine as_tup (vs := [.ref pa, .ref pb]) S (R' _).hand (isT_up ha2 S.keep) rfl rfl ?_
  clear S
  intro h' S _
  try dsimp only
  k_steps
  rename St _ _ _ _ _ => zS
  exact hQ _ _ _ g2 oa ob pa pb tn (fun b o q => kg2 _ _ (kg1 _ _ q)) zS ⟨rfl, rfl, rfl, rfl, rfl, rfl, rfl, trivial⟩ (hO.up kg2) (hWd.up kg2) hOt hWt
end
-- LwD168
section
set_option maxRecDepth 100000 in
set_option maxHeartbeats 0 in
theorem segD {w : World} {A : Around} {s : Shared} {g : Heap} {L : Addr} {cdv : Value} {m : PySem.Str → Option Value} {oa pa : Addr} {K : List (Int × List Nat)} {Q : Flow → Shared → Prop}
    (R' : ∀ env, Rm (A.deeper env) 9) (G : Gd w g) (S : St g (lawEnv L cdv) s.heap m []) (e : HasAll m [("opened", .ref oa), ("opened_told", .ref pa)]) (hO : RL g oa (K.map keyW)) (hP : RL g pa (K.map keyT))
    (hK : K.length < 100) (hKl : ∀ p ∈ K, p.2.length < 100)
    (hQ : ∀ h' tk g', g.StaysIn g' → St g' (lawEnv L cdv) h' m [] → Q .next { s with heap := h', toks := tk }) :
    wpAny (model PG w) (A.deeper (lawEnv L cdv)) (execs (lawSeg 5 1) (lawEnv L cdv)) Q NoE s := by
  have zB : Base s := trivial
  rw [← putAll_eq e] at S
  dsimp only [putAll, List.foldr_cons, List.foldr_nil] at S
  conv in lawSeg 5 1 => { whnf; arg 2; whnf }
  obtain ⟨⟨xs, nx, hox, hxr, hxk⟩⟩ := hO
  obtain ⟨⟨ys, ny, hpy, hyr, hyk⟩⟩ := hP
  have hyl : ys.length = K.length := by simpa using congrArg List.length hyk
  k_steps
  rename St _ _ _ _ _ => zS
  refine it_list (vs := ys.map Row.val) zS (R' _).hand ⟨_, hpy, rfl, _, rfl⟩ ?_
  clear zS
  intro I1 oI1 h' S W1 _
  try dsimp only at S W1 ⊢
  refine comp_it (fun k zs g₁ => ∃ rs : List Row, zs = rs.map Row.val ∧ (∀ r ∈ rs, r.In g₁) ∧ rs.map Row.key = (K.take k).map keyW) [] S W1 (by decide) rfl rfl (by decide) rfl rfl rfl (by simp; exact om277 hK hyl) trivial ⟨[], rfl, (fun r hr => nomatch hr), rfl⟩ ?_ ?_
  · clear S W1
    rintro k v zs m₂ g₂ h₁ tk₁ oI2 C tl hk hP kg2 hpl e2 ⟨rs, rfl, hrs, hrk⟩ S
    rw [List.getElem?_map] at hP
    obtain ⟨r, hr⟩ : ∃ r, ys[k]? = some r := get_some (by simpa using hk)
    rw [hr] at hP
    cases hP
    obtain ⟨p, hp⟩ : ∃ p, K[k]? = some p := get_some (by rw [← hyl]; simpa using hk)
    have hrkey : r.key = keyT p := by
      have h1 : (ys.map Row.key)[k]? = (K.map keyT)[k]? := by rw [hyk]
      rw [List.getElem?_map, List.getElem?_map, hr, hp] at h1
      exact Option.some.inj h1
    obtain ⟨t1, t2, hrt⟩ := (hyr r (List.mem_of_getElem? hr)).keeps kg2
    have e1 : r.less = p.1 := congrArg Prod.fst hrkey
    have e2 : r.way = T p.2 := congrArg Prod.snd hrkey
    rw [e1, e2] at hrt
    refine let_tup (vs := [.int p.1 t1, .str (T p.2) t2]) S hpl (R' _).hand (isT_up hrt S.keep) rfl rfl ?_
    clear S
    intro h' S _
    try dsimp only
    k_steps
    rw [CPost, if_pos rfl]
    have hjw := join_way p.2
    have hpl2 : p.2.length < 100 := hKl p (List.mem_of_getElem? hp)
    obtain ⟨pi, u⟩ := p
    try dsimp only at hjw hpl2 e1 e2 hrt hrkey ⊢
    k_steps
    rename St _ _ _ _ _ => zS
    refine join_str zS (R' _).hand (by simp; exact om84 hpl2) (by decide) ?_
    clear zS
    intro h' tk t' S _
    rw [show (T u).cps.toList = u by simp]
    generalize Txt.join (T [47]) (u.map fun c => (⟨#[c]⟩ : PySem.Str)) = J at hjw ⊢
    k_steps
    rename Addr => a'
    rename St _ _ _ _ _ => zS
    rw [hjw.1] at zS
    refine ⟨_, _, _, g₂, [_], rfl, kg2, trivial, zS.roll, fun g₃ k3 hex => ?_⟩
    have hnew := hex _ (.head _)
    refine ⟨rs ++ [⟨a', pi, way u⟩], by simp, ?_, ?_⟩
    · intro r hr
      rcases List.mem_append.mp hr with hr | hr
      · exact (hrs r hr).keeps k3
      · rw [List.mem_singleton.mp hr]
        exact ⟨_, _, _, hnew, rfl, _, rfl⟩
    · rw [List.map_append, hrk, List.take_add_one, hp]
      simp
  clear S W1
  rintro D zs g2 h₂ tk₂ n2 kg2 S ⟨rs, rfl, hrs, hrk⟩
  try dsimp only
  rw [List.take_of_length_le (by rw [List.length_map]; exact om41 hyl)] at hrk
  have kg : g.StaysIn g2 := kg2
  refine rows_ne (os := xs) (qs := rs) (isL_up ⟨_, hox, rfl, _, rfl⟩ fun b o q => S.keep _ _ (kg _ _ q)) (S.isList at0) (fun r hr => (hxr r hr).keeps fun b o q => S.keep _ _ (kg _ _ q)) (fun r hr => (hrs r hr).keeps S.keep) (hxk.trans hrk.symm) (by have := (R' (lawEnv L cdv)).units; exact om276 this) ?_
  k_steps
  rename St _ _ _ _ _ => zS
  have zS' : St g2 (lawEnv L cdv) _ (putAll [("opened", .ref oa), ("opened_told", .ref pa)] m) [] := zS.forget0
  rw [putAll_eq e] at zS'
  exact hQ _ _ g2 kg zS'
end
-- LwE168
section
set_option maxRecDepth 100000 in
set_option maxHeartbeats 0 in
theorem segE {w : World} {A : Around} {s : Shared} {g : Heap} {L : Addr} {cdv : Value} {m : PySem.Str → Option Value} {oa pa : Addr} {K : List (Int × List Nat)} {Q : Flow → Shared → Prop}
    (R' : ∀ env, Rm (A.deeper env) 9) (G : Gd w g) (S : St g (lawEnv L cdv) s.heap m []) (e : HasAll m [("words", .ref oa), ("words_told", .ref pa)]) (hO : RL g oa (K.map keyW)) (hP : RL g pa (K.map keyT))
    (hK : K.length < 100) (hKl : ∀ p ∈ K, p.2.length < 100)
    (hQ : ∀ h' tk g', g.StaysIn g' → St g' (lawEnv L cdv) h' m [] → Q .next { s with heap := h', toks := tk }) :
    wpAny (model PG w) (A.deeper (lawEnv L cdv)) (execs (lawSeg 6 1) (lawEnv L cdv)) Q NoE s := by
  have zB : Base s := trivial
  rw [← putAll_eq e] at S
  dsimp only [putAll, List.foldr_cons, List.foldr_nil] at S
  conv in lawSeg 6 1 => { whnf; arg 2; whnf }
  obtain ⟨⟨xs, nx, hox, hxr, hxk⟩⟩ := hO
  obtain ⟨⟨ys, ny, hpy, hyr, hyk⟩⟩ := hP
  have hyl : ys.length = K.length := by simpa using congrArg List.length hyk
  k_steps
  rename St _ _ _ _ _ => zS
  refine it_list (vs := ys.map Row.val) zS (R' _).hand ⟨_, hpy, rfl, _, rfl⟩ ?_
  clear zS
  intro I1 oI1 h' S W1 _
  try dsimp only at S W1 ⊢
  refine comp_it (fun k zs g₁ => ∃ rs : List Row, zs = rs.map Row.val ∧ (∀ r ∈ rs, r.In g₁) ∧ rs.map Row.key = (K.take k).map keyW) [] S W1 (by decide) rfl rfl (by decide) rfl rfl rfl (by simp; exact om277 hK hyl) trivial ⟨[], rfl, (fun r hr => nomatch hr), rfl⟩ ?_ ?_
  · clear S W1
    rintro k v zs m₂ g₂ h₁ tk₁ oI2 C tl hk hP kg2 hpl e2 ⟨rs, rfl, hrs, hrk⟩ S
    rw [List.getElem?_map] at hP
    obtain ⟨r, hr⟩ : ∃ r, ys[k]? = some r := get_some (by simpa using hk)
    rw [hr] at hP
    cases hP
    obtain ⟨p, hp⟩ : ∃ p, K[k]? = some p := get_some (by rw [← hyl]; simpa using hk)
    have hrkey : r.key = keyT p := by
      have h1 : (ys.map Row.key)[k]? = (K.map keyT)[k]? := by rw [hyk]
      rw [List.getElem?_map, List.getElem?_map, hr, hp] at h1
      exact Option.some.inj h1
    obtain ⟨t1, t2, hrt⟩ := (hyr r (List.mem_of_getElem? hr)).keeps kg2
    have e1 : r.less = p.1 := congrArg Prod.fst hrkey
    have e2 : r.way = T p.2 := congrArg Prod.snd hrkey
    rw [e1, e2] at hrt
    refine let_tup (vs := [.int p.1 t1, .str (T p.2) t2]) S hpl (R' _).hand (isT_up hrt S.keep) rfl rfl ?_
    clear S
    intro h' S _
    try dsimp only
    k_steps
    rw [CPost, if_pos rfl]
    have hjw := join_way p.2
    have hpl2 : p.2.length < 100 := hKl p (List.mem_of_getElem? hp)
    obtain ⟨pi, u⟩ := p
    try dsimp only at hjw hpl2 e1 e2 hrt hrkey ⊢
    k_steps
    rename St _ _ _ _ _ => zS
    refine join_str zS (R' _).hand (by simp; exact om84 hpl2) (by decide) ?_
    clear zS
    intro h' tk t' S _
    rw [show (T u).cps.toList = u by simp]
    generalize Txt.join (T [47]) (u.map fun c => (⟨#[c]⟩ : PySem.Str)) = J at hjw ⊢
    k_steps
    rename Addr => a'
    rename St _ _ _ _ _ => zS
    rw [hjw.1] at zS
    refine ⟨_, _, _, g₂, [_], rfl, kg2, trivial, zS.roll, fun g₃ k3 hex => ?_⟩
    have hnew := hex _ (.head _)
    refine ⟨rs ++ [⟨a', pi, way u⟩], by simp, ?_, ?_⟩
    · intro r hr
      rcases List.mem_append.mp hr with hr | hr
      · exact (hrs r hr).keeps k3
      · rw [List.mem_singleton.mp hr]
        exact ⟨_, _, _, hnew, rfl, _, rfl⟩
    · rw [List.map_append, hrk, List.take_add_one, hp]
      simp
  clear S W1
  rintro D zs g2 h₂ tk₂ n2 kg2 S ⟨rs, rfl, hrs, hrk⟩
  try dsimp only
  rw [List.take_of_length_le (by rw [List.length_map]; exact om41 hyl)] at hrk
  have kg : g.StaysIn g2 := kg2
  refine rows_ne (os := xs) (qs := rs) (isL_up ⟨_, hox, rfl, _, rfl⟩ fun b o q => S.keep _ _ (kg _ _ q)) (S.isList at0) (fun r hr => (hxr r hr).keeps fun b o q => S.keep _ _ (kg _ _ q)) (fun r hr => (hrs r hr).keeps S.keep) (hxk.trans hrk.symm) (by have := (R' (lawEnv L cdv)).units; exact om276 this) ?_
  k_steps
  rename St _ _ _ _ _ => zS
  have zS' : St g2 (lawEnv L cdv) _ (putAll [("words", .ref oa), ("words_told", .ref pa)] m) [] := zS.forget0
  rw [putAll_eq e] at zS'
  exact hQ _ _ g2 kg zS'
end
-- LwF168
section
theorem join_nil : ∀ u : List Nat, Txt.join (T []) (u.map fun c => T [c]) = T u
  | [] => rfl
  | [c] => rfl
  | c :: d :: r => by
    have h1 := join_nil (d :: r)
    unfold Txt.join at h1 ⊢
    rw [StrLaws.glued_eq_join] at h1 ⊢
    show T [c] ++ T [] ++ Str.join (T []) ((d :: r).map fun c => T [c]) = _
    rw [h1, T_app, T_app]; rfl
noncomputable def tailOf (ns : List Int) (k : Nat) : List Nat := ((ns.drop 5).take 20).map fun x : Int => 97 + ((x.fmod (10 ^ 6)).fmod ((k : Nat) : Int)).toNat
noncomputable def msgOf (ns : List Int) (k : Nat) : List Nat := [97, 98, 99].take k ++ tailOf ns k
set_option maxRecDepth 100000 in
set_option maxHeartbeats 0 in
theorem segF {w : World} {A : Around} {s : Shared} {g : Heap} {L : Addr} {cdv : Value} {m : PySem.Str → Option Value} {ls W : Addr} {vs wv : List Value} {ns ws : List Int} {nw : Nat} {Q : Flow → Shared → Prop}
    (R' : ∀ env, Rm (A.deeper env) 9) (G : Gd w g) (S : St g (lawEnv L cdv) s.heap m []) (e : HasAll m [("script", .ref ls), ("weights", .ref W)]) (hls : g.IsList ls vs.toArray) (hi : IntsAre vs ns) (hz : ns.length ≤ 63)
    (hW : g.get? W = some (listOf wv.toArray nw)) (hiw : IntsAre wv ws) (hn : 2 ≤ ws.length ∧ ws.length ≤ 3)
    (hQ : ∀ h' tk g' tm, g.StaysIn g' → St g' (lawEnv L cdv) h' (setN m "message" (.str (T (msgOf ns ws.length)) tm)) [] → Q .next { s with heap := h', toks := tk }) :
    wpAny (model PG w) (A.deeper (lawEnv L cdv)) (execs (lawSeg 7 1) (lawEnv L cdv)) Q NoE s := by
  have zB : Base s := trivial
  rw [← putAll_eq e] at S
  dsimp only [putAll, List.foldr_cons, List.foldr_nil] at S
  conv in lawSeg 7 1 => { whnf; arg 2; whnf }
  have hwl : wv.length = ws.length := hiw.length
  have hvl : vs.length = ns.length := hi.length
  k_steps
  rename St _ _ _ _ _ => zS
  refine len_list (isL_up ⟨_, hW, rfl, _, rfl⟩ zS.keep) (by simp; exact om135 hn hwl) ?_
  k_steps
  rename St _ _ _ _ _ => zS
  refine sl_to (n := ws.length) zS (by simp [hwl]) ?_ (by with_unfolding_all rfl) (by intro _; with_unfolding_all rfl) (by walk_at "m_size")
  clear zS
  intro h' t' k S _
  k_steps
  rename St _ _ _ _ _ => zS
  refine ls_mid (a := 5) (b := 25) zS (isL_up hls zS.keep) rfl rfl (by exact om264 hz hvl) ?_ (by with_unfolding_all rfl) (by intro _; with_unfolding_all rfl)
  clear zS
  intro D1 h' S _
  have hi2 : IntsAre ((vs.drop 5).take (25 - 5)) ((ns.drop 5).take 20) := (hi.drop 5).take 20
  have hwl2 : ((vs.drop 5).take (25 - 5)).length ≤ 20 := by rw [List.length_take]; exact om282
  have htl : tailOf ns ws.length = ((ns.drop 5).take 20).map fun x : Int => 97 + ((x.fmod (10 ^ 6)).fmod ((ws.length : Nat) : Int)).toNat := rfl
  generalize (vs.drop 5).take (25 - 5) = xv at S hi2 hwl2
  generalize (ns.drop 5).take 20 = xn at hi2 htl
  obtain ⟨g1, kg1, S, hex, _⟩ := St.rebase (nx := []) (extra := [_]) S
  have hD1 := hex _ (.head _)
  try dsimp only at hD1
  clear hex
  k_steps
  refine it_list (vs := xv) S (R' _).hand ⟨_, hD1, rfl, _, rfl⟩ ?_
  clear S
  intro I1 oI1 h' S W1 _
  try dsimp only at S W1 ⊢
  refine comp_it (fun k ys g₁ => StrsAre ys (((xn.take k).map fun x : Int => 97 + ((x.fmod (10 ^ 6)).fmod ((ws.length : Nat) : Int)).toNat).map fun c => T [c])) [("weights", .ref W)] S W1 (by decide) rfl rfl (by dsimp only [List.map]; decide) rfl rfl rfl (by exact om281 hwl2) ⟨rfl, trivial⟩ .nil ?_ ?_
  · clear S W1
    rintro k x ys m₂ g₂ h₁ tk₁ oI2 C tl hk hP kg2 - e2 hys S
    replace S := S.norm e2
    dsimp only [putAll, List.foldr_cons, List.foldr_nil] at S
    obtain ⟨n, tn, rfl, hn2⟩ := IntsAre.at hi2 k x hP
    have G2 : Gd w g₂ := G.mono fun b o q => kg2 _ _ (kg1 _ _ q)
    refine let_name ?_
    k_steps
    rw [CPost, if_pos rfl]
    k_steps
    rename St _ _ _ _ _ => zS
    refine len_list (isL_up ⟨_, hW, rfl, _, rfl⟩ fun b o q => zS.keep _ _ (kg2 _ _ (kg1 _ _ q))) (by simp; exact om135 hn hwl) ?_
    rw [show ((wv.toArray.size : Nat) : Int) = ((ws.length : Nat) : Int) by simp [hwl]]
    k_steps
    rw [show (10 : Int) ^ Int.toNat 6 = 10 ^ 6 from rfl]
    obtain ⟨j, hj, hjl⟩ : ∃ j : Nat, (n.fmod (10 ^ 6)).fmod ((ws.length : Nat) : Int) = (j : Int) ∧ j < ws.length := by
      have h1 := Int.fmod_nonneg_of_pos (n.fmod (10 ^ 6)) (show (0 : Int) < ((ws.length : Nat) : Int) by exact om280 hn)
      have h2 := Int.fmod_lt_of_pos (n.fmod (10 ^ 6)) (show (0 : Int) < ((ws.length : Nat) : Int) by exact om280 hn)
      exact ⟨_, (Int.toNat_of_nonneg h1).symm, by exact om279 hn h2⟩
    rw [hj]
    refine item_T (n := j) (c := 97 + j) rfl (by rcases j with _ | _ | _ | j <;> first | rfl | exact (om129 hn hjl).elim) (by exact om128 hn hjl) ?_ (by with_unfolding_all rfl) (by intro _; with_unfolding_all rfl)
    intro t' k'
    rename St _ _ _ _ _ => zS
    refine ⟨_, _, _, g₂, [], rfl, kg2, ⟨rfl, trivial⟩, zS.cnil, fun _ _ _ => ?_⟩
    try dsimp only
    rw [List.take_add_one, hn2, Option.toList_some, List.map_append, List.map_cons, List.map_nil, List.map_append, List.map_cons, List.map_nil, hj, Int.toNat_natCast]
    exact kct_snoc hys
  clear S W1
  rintro D ys g2 h₂ tk₂ n2 kg2 S hys
  try dsimp only
  rw [List.take_of_length_le (by rw [hi2.length]; exact Nat.le_refl _), ← htl] at hys
  have hzl : (tailOf ns ws.length).length ≤ 20 := by rw [htl, List.length_map, ← hi2.length]; exact hwl2
  have hmg : msgOf ns ws.length = [97, 98, 99].take ws.length ++ tailOf ns ws.length := rfl
  generalize tailOf ns ws.length = tl at hys hzl hmg
  have hsz : ((tl.map fun c => T [c]).map (·.length)).sum + (tl.map fun c => T [c]).length * (T []).length ≤ 16777216 := by
    have e1 : ((tl.map fun c => T [c]).map (·.length)).sum = tl.length := by rw [List.map_map]; exact sum_ones _
    rw [e1, T_len]
    simp only [List.length_nil, Nat.mul_zero]
    exact om278 hzl
  k_steps
  rename St _ _ _ _ _ => zS
  refine join_list (ys := tl.map fun c => T [c]) (zS.isList at0) hys hsz ?_
  intro t' kk
  rw [join_nil]
  have h3 : (List.take ws.length [97, 98, 99]).length ≤ 3 := by rw [List.length_take]; exact Nat.min_le_right _ _
  k_steps
  rename St _ _ _ _ _ => zS
  rw [T_app, ← hmg] at zS
  have em : putAll [("script", .ref ls), ("weights", .ref W)] m = m := putAll_eq e
  have zS' : St g2 (lawEnv L cdv) _ (setN (putAll [("script", .ref ls), ("weights", .ref W)] m) (Str.ofString "message") _) [] := zS.forget0
  rw [em] at zS'
  exact hQ _ _ g2 _ (fun b o q => kg2 _ _ (kg1 _ _ q)) zS'
end
-- LwG168
section
set_option maxRecDepth 100000 in
set_option maxHeartbeats 0 in
theorem segG {w : World} {A : Around} {s : Shared} {g : Heap} {L : Addr} {cdv : Value} {m : PySem.Str → Option Value} {oa : Addr} {ks : List (Int × PySem.Str)} {Q : Flow → Shared → Prop}
    (R' : ∀ env, Rm (A.deeper env) 9) (G : Gd w g) (S : St g (lawEnv L cdv) s.heap m []) (e : HasAll m [("words", .ref oa)]) (hO : RL g oa ks) (hK : ks.length < 100)
    (hQ : ∀ h' tk g' D vs n, g.StaysIn g' → St g' (lawEnv L cdv) h' (fun z => if z = "ways" then some (.ref D) else m z) [] → g'.get? D = some (listOf vs.toArray n) → StrsAre vs (ks.map (·.2)) → Q .next { s with heap := h', toks := tk }) :
    wpAny (model PG w) (A.deeper (lawEnv L cdv)) (execs (lawSeg 8 1) (lawEnv L cdv)) Q NoE s := by
  have zB : Base s := trivial
  rw [← putAll_eq e] at S
  dsimp only [putAll, List.foldr_cons, List.foldr_nil] at S
  conv in lawSeg 8 1 => { whnf; arg 2; whnf }
  obtain ⟨⟨xs, nx, hox, hxr, hxk⟩⟩ := hO
  have hxl : xs.length = ks.length := by simpa using congrArg List.length hxk
  k_steps
  rename St _ _ _ _ _ => zS
  refine it_list (vs := xs.map Row.val) zS (R' _).hand ⟨_, hox, rfl, _, rfl⟩ ?_
  clear zS
  intro I1 oI1 h' S W1 _
  try dsimp only at S W1 ⊢
  refine comp_it (fun k zs g₁ => StrsAre zs ((ks.map (·.2)).take k)) [] S W1 (by decide) rfl rfl (by decide) rfl rfl rfl (by simp; exact om277 hK hxl) trivial .nil ?_ ?_
  · clear S W1
    rintro k v zs m₂ g₂ h₁ tk₁ oI2 C tl hk hP kg2 hpl e2 hzs S
    rw [List.getElem?_map] at hP
    obtain ⟨r, hr⟩ : ∃ r, xs[k]? = some r := get_some (by simpa using hk)
    rw [hr] at hP
    cases hP
    have hrkey : (ks.map (·.2))[k]? = some r.way := by
      rw [← hxk, List.getElem?_map, List.getElem?_map, hr]; rfl
    obtain ⟨t1, t2, hrt⟩ := (hxr r (List.mem_of_getElem? hr)).keeps kg2
    refine let_tup (vs := [.int r.less t1, .str r.way t2]) S hpl (R' _).hand (isT_up hrt S.keep) rfl rfl ?_
    clear S
    intro h' S _
    try dsimp only
    k_steps
    rw [CPost, if_pos rfl]
    k_steps
    rename St _ _ _ _ _ => zS
    refine ⟨_, _, _, g₂, [], rfl, kg2, trivial, zS.cnil, fun _ _ _ => ?_⟩
    try dsimp only
    rw [List.take_add_one, hrkey]
    exact kct_snoc hzs
  clear S W1
  rintro D zs g2 h₂ tk₂ n2 kg2 S hzs
  try dsimp only
  rw [List.take_of_length_le (by rw [List.length_map, List.length_map]; exact om41 hxl)] at hzs
  k_steps
  rename St _ _ _ _ _ => zS
  obtain ⟨g3, kg3, S3, hex, _⟩ := St.rebase (nx := []) (extra := [_]) zS
  have hD := hex _ (.head _)
  have em : putAll [("words", .ref oa)] m = m := putAll_eq e
  have zS' : St g3 (lawEnv L cdv) _ (setN (putAll [("words", .ref oa)] m) (Str.ofString "ways") _) [] := S3
  rw [em] at zS'
  exact hQ _ _ g3 D zs _ (fun b o q => kg3 _ _ (kg2 _ _ q)) zS' hD hzs
end
-- LwH168
section
set_option maxRecDepth 100000 in
set_option maxHeartbeats 0 in
theorem segH {w : World} {A : Around} {s : Shared} {g : Heap} {L : Addr} {cdv : Value} {m : PySem.Str → Option Value} {oa : Addr} {ks : List (Int × PySem.Str)} {Q : Flow → Shared → Prop}
    (R' : ∀ env, Rm (A.deeper env) 9) (G : Gd w g) (S : St g (lawEnv L cdv) s.heap m []) (e : HasAll m [("words_told", .ref oa)]) (hO : RL g oa ks) (hK : ks.length < 100)
    (hQ : ∀ h' tk g' D vs n, g.StaysIn g' → St g' (lawEnv L cdv) h' (fun z => if z = "letters" then some (.ref D) else m z) [] → g'.get? D = some (listOf vs.toArray n) → StrsAre vs (ks.map (·.2)) → Q .next { s with heap := h', toks := tk }) :
    wpAny (model PG w) (A.deeper (lawEnv L cdv)) (execs (lawSeg 9 1) (lawEnv L cdv)) Q NoE s := by
  have zB : Base s := trivial
  rw [← putAll_eq e] at S
  dsimp only [putAll, List.foldr_cons, List.foldr_nil] at S
  conv in lawSeg 9 1 => { whnf; arg 2; whnf }
  obtain ⟨⟨xs, nx, hox, hxr, hxk⟩⟩ := hO
  have hxl : xs.length = ks.length := by simpa using congrArg List.length hxk
  k_steps
  rename St _ _ _ _ _ => zS
  refine it_list (vs := xs.map Row.val) zS (R' _).hand ⟨_, hox, rfl, _, rfl⟩ ?_
  clear zS
  intro I1 oI1 h' S W1 _
  try dsimp only at S W1 ⊢
  refine comp_it (fun k zs g₁ => StrsAre zs ((ks.map (·.2)).take k)) [] S W1 (by decide) rfl rfl (by decide) rfl rfl rfl (by simp; exact om277 hK hxl) trivial .nil ?_ ?_
  · clear S W1
    rintro k v zs m₂ g₂ h₁ tk₁ oI2 C tl hk hP kg2 hpl e2 hzs S
    rw [List.getElem?_map] at hP
    obtain ⟨r, hr⟩ : ∃ r, xs[k]? = some r := get_some (by simpa using hk)
    rw [hr] at hP
    cases hP
    have hrkey : (ks.map (·.2))[k]? = some r.way := by
      rw [← hxk, List.getElem?_map, List.getElem?_map, hr]; rfl
    obtain ⟨t1, t2, hrt⟩ := (hxr r (List.mem_of_getElem? hr)).keeps kg2
    refine let_tup (vs := [.int r.less t1, .str r.way t2]) S hpl (R' _).hand (isT_up hrt S.keep) rfl rfl ?_
    clear S
    intro h' S _
    try dsimp only
    k_steps
    rw [CPost, if_pos rfl]
    k_steps
    rename St _ _ _ _ _ => zS
    refine ⟨_, _, _, g₂, [], rfl, kg2, trivial, zS.cnil, fun _ _ _ => ?_⟩
    try dsimp only
    rw [List.take_add_one, hrkey]
    exact kct_snoc hzs
  clear S W1
  rintro D zs g2 h₂ tk₂ n2 kg2 S hzs
  try dsimp only
  rw [List.take_of_length_le (by rw [List.length_map, List.length_map]; exact om41 hxl)] at hzs
  k_steps
  rename St _ _ _ _ _ => zS
  obtain ⟨g3, kg3, S3, hex, _⟩ := St.rebase (nx := []) (extra := [_]) zS
  have hD := hex _ (.head _)
  have em : putAll [("words_told", .ref oa)] m = m := putAll_eq e
  have zS' : St g3 (lawEnv L cdv) _ (setN (putAll [("words_told", .ref oa)] m) (Str.ofString "letters") _) [] := S3
  rw [em] at zS'
  exact hQ _ _ g3 D zs _ (fun b o q => kg3 _ _ (kg2 _ _ q)) zS' hD hzs
end
-- LwI168
section
noncomputable def widthOf (k : Nat) : Nat := 2 + k / 5 + k / 9
set_option maxRecDepth 100000 in
set_option maxHeartbeats 0 in
theorem segI {w : World} {A : Around} {s : Shared} {g : Heap} {L : Addr} {cdv : Value} {m : PySem.Str → Option Value} {wa la : Addr} {vw vl : List Value} {WS : List (List Nat)} {msg ns rest : List Nat} {tm : Tok} {nw nl : Nat} {Q : Flow → Shared → Prop}
    (R' : ∀ env, Rm (A.deeper env) 9) (G : Gd w g) (S : St g (lawEnv L cdv) s.heap m []) (e : HasAll m [("message", .str (T msg) tm), ("ways", .ref wa), ("letters", .ref la)])
    (hwa : g.get? wa = some (listOf vw.toArray nw)) (hiw : TsAre vw (WS.map wayL)) (hla : g.get? la = some (listOf vl.toArray nl)) (hil : TsAre vl WS) (hz : WS.length < 100) (hws : ∀ u ∈ WS, u.length < 100) (hm : msg.length < 100) (h47 : ∀ c ∈ msg, c ≠ 47)
    (hst : msg.foldl (cutStep WS) ([], []) = (ns, rest)) (hC : CutTo WS msg ns rest) (hns : ns.length < 100)
    (hQ : ∀ h' tk m' g' ln vn n tm tr tw, g.StaysIn g' → St g' (lawEnv L cdv) h' m' [] → HasAll m' [("message", .str (T msg) tm), ("ways", .ref wa), ("letters", .ref la), ("numbers", .ref ln), ("rest", .str (way rest) tr), ("width", .int (widthOf WS.length : Nat) tw)] →
      g'.get? ln = some (listOf vn.toArray n) → IntsAre vn (intsN ns) → Q .next { s with heap := h', toks := tk }) :
    wpAny (model PG w) (A.deeper (lawEnv L cdv)) (execs (lawSeg 10 3) (lawEnv L cdv)) Q NoE s := by
  have zB : Base s := trivial
  replace S := S.norm e
  clear e
  dsimp only [putAll, List.foldr_cons, List.foldr_nil] at S
  conv in lawSeg 10 3 => { whnf; arg 2; whnf; arg 2; whnf; arg 2; whnf }
  k_steps
  rename St _ _ _ _ _ => zS
  refine cut_spec (WS := WS) ((R' _).less (by decide)) G zS.keep ⟨_, zS.keep _ _ hwa⟩ hiw hz hm h47 ?_
  rw [hst]
  intro h' tk' a ln vn n t k ha hn hin
  obtain ⟨g1, kg1, kn1, S⟩ := St.adopt zS k
  clear zS
  have ha1 : g1.IsTuple a #[.ref ln, .str (way rest) t] := isT_up ha kn1
  have hn1 := kn1 _ _ hn
  clear ha hn kn1 k
  have G1 : Gd w g1 := G.mono kg1
  try dsimp only
  refine as_tup (vs := [.ref ln, .str (way rest) t]) S (R' _).hand (isT_up ha1 S.keep) rfl rfl ?_
  clear S
  intro h' S _
  try dsimp only
  k_steps
  rename St _ _ _ _ _ => zS
  rename Addr => ta
  refine ctold_spec (WS := WS) ((R' _).less (by decide)) G1 zS.keep ⟨_, zS.keep _ _ (kg1 _ _ hla)⟩ hil hz hws hm hC hns ?_
  intro h' tk' a2 ln2 vn2 n2 t2 k ha hn hin2
  obtain ⟨g2, kg2, kn2, S⟩ := St.adopt zS k
  clear zS
  have ha2 : g2.IsTuple a2 #[.ref ln2, .str (way rest) t2] := isT_up ha kn2
  have hn2 := kn2 _ _ hn
  clear ha hn kn2 k
  have G2 : Gd w g2 := G1.mono kg2
  have hnl : vn.length = vn2.length := by rw [hin.length, hin2.length]
  have hu := (R' (lawEnv L cdv)).units
  have hst2 : ∀ t : Tok, SeqAt.EqAt (A.deeper (lawEnv L cdv)).in1 { s with heap := h', toks := tk' } (.str (way rest) t) (.str (way rest) t2) true := fun t => by
    have := eqAt_str (A.deeper (lawEnv L cdv)).in1 { s with heap := h', toks := tk' } (way rest) (way rest) t t2
    rw [beq_self_eq_true] at this; exact this
  refine tups_ne (s := { s with heap := h', toks := tk' }) ⟨_, S.at at0, rfl, _, rfl⟩ (isT_up ha2 S.keep) (by exact om284 hu) (lists_eqAt (xs := vn) (ys := vn2) (isL_up ⟨_, kg2 _ _ hn1, rfl, _, rfl⟩ S.keep) (isL_up ⟨_, hn2, rfl, _, rfl⟩ S.keep) hnl (by show (A.deeper (lawEnv L cdv)).units + 1 < cLine; exact om77 hu) (ints_eqAt hin hin2)) (hst2 _) ?_
  have hvl : vw.length = WS.length := by rw [tsAre_len hiw, List.length_map]
  k_steps
  rename St _ _ _ _ _ => zS
  refine len_list (isL_up ⟨_, kg2 _ _ (kg1 _ _ hwa), rfl, _, rfl⟩ zS.keep) (by simp; exact om82 hz hvl) ?_
  rw [show ((vw.toArray.size : Nat) : Int) = ((WS.length : Nat) : Int) by simp [hvl]]
  k_steps
  rename St _ _ _ _ _ => zS
  refine len_list (isL_up ⟨_, kg2 _ _ (kg1 _ _ hwa), rfl, _, rfl⟩ zS.keep) (by simp; exact om82 hz hvl) ?_
  rw [show ((vw.toArray.size : Nat) : Int) = ((WS.length : Nat) : Int) by simp [hvl]]
  k_steps
  rename St _ _ _ _ _ => zS
  have hwd : 2 + ((WS.length : Nat) : Int).fdiv 5 + ((WS.length : Nat) : Int).fdiv 9 = ((widthOf WS.length : Nat) : Int) := by
    rw [Int.fdiv_eq_ediv_of_nonneg _ (by decide), Int.fdiv_eq_ediv_of_nonneg _ (by decide)]
    unfold widthOf; exact om283
  rw [hwd] at zS
  exact hQ _ _ _ g2 ln vn n _ _ _ (fun b o q => kg2 _ _ (kg1 _ _ q)) zS.forget0 ⟨rfl, rfl, rfl, rfl, rfl, rfl, trivial⟩ (kg2 _ _ hn1) hin
end
-- LwJ168
section
/-- the numbers as they are sent: the highest figure first -/
noncomputable def sentOf (W : Nat) (ns : List Nat) : List (List Nat) := (ns.map (bitsN (fun j => j) W)).map List.reverse
set_option maxRecDepth 100000 in
set_option maxHeartbeats 0 in
theorem segJ {w : World} {A : Around} {s : Shared} {g : Heap} {L : Addr} {cdv : Value} {m : PySem.Str → Option Value} {ln : Addr} {vn : List Value} {ns : List Nat} {W n : Nat} {tw : Tok} {Q : Flow → Shared → Prop}
    (R' : ∀ env, Rm (A.deeper env) 9) (hgu : A.guards = some []) (G : Gd w g) (S : St g (lawEnv L cdv) s.heap m []) (e : HasAll m [("numbers", .ref ln), ("width", .int (W : Nat) tw)])
    (hn : g.get? ln = some (listOf vn.toArray n)) (hi : IntsAre vn (intsN ns)) (hnl : ns.length < 100) (hnb : ∀ n ∈ ns, n < 1000) (hW : 2 ≤ W ∧ W ≤ 4)
    (hQ : ∀ h' tk g' t, g.StaysIn g' → St g' (lawEnv L cdv) h' (setN m "sent" (.bytes (u8s (sentOf W ns).flatten).toArray t)) [] → Q .next { s with heap := h', toks := tk }) :
    wpN (model PG w) (A.deeper (lawEnv L cdv)) (execs (lawSeg 13 1) (lawEnv L cdv)) Q NoE s := by
  have zB : Base s := trivial
  rw [← putAll_eq e] at S
  dsimp only [putAll, List.foldr_cons, List.foldr_nil] at S
  conv in lawSeg 13 1 => { whnf; arg 2; whnf }
  refine wpN_execs_cons (wpN_Assign_Name (wpN_Call_Name ?_))
  k_steps
  refine wpN_callOwn G (by k_dflt k_is) ?_
  k_steps
  rename St _ _ _ _ _ => zS
  rename Addr => ra
  have hW3 : W = 2 ∨ W = 3 ∨ W = 4 := by exact om290 hW
  refine laid_spec (pl := fun j => j) (W := W) ((R' _).less (by decide)) G zS.keep ⟨_, zS.keep _ _ hn⟩ hi hnl hnb (zS.at at0) (by rcases hW3 with rfl | rfl | rfl <;> decide) (by rcases hW3 with rfl | rfl | rfl <;> decide) (by exact om289 hW) (fun j hj => ⟨by exact om288, by exact om287 hW hj⟩) ?_
  intro h' tk' t k
  have S := zS.kept k
  clear zS k
  try dsimp only
  k_steps
  rename St _ _ _ _ _ => zS
  have hfl : ns.flatMap (bitsN (fun j => j) W) = (ns.map (bitsN (fun j => j) W)).flatten := rfl
  rw [hfl]
  refine swap_spec (cs := ns.map (bitsN (fun j => j) W)) (W := W) ((R' _).less (by decide)) hgu G zS.keep (by exact om286 hW) (fun c hc => ?_) (by rw [List.length_map]; exact om87 hnl) (fun c hc x hx => ?_) ?_
  · obtain ⟨n, _, rfl⟩ := List.mem_map.mp hc
    rw [List.length_map, List.length_range]
  · obtain ⟨n, _, rfl⟩ := List.mem_map.mp hc
    have := bits_range hx
    exact om285 this
  intro h' tk' t k
  have S := zS.kept k
  clear zS k
  try dsimp only
  k_steps
  refine wpN_of ?_
  k_steps
  rename St _ _ _ _ _ => zS
  have em : putAll [("numbers", .ref ln), ("width", .int (W : Nat) tw)] m = m := putAll_eq e
  have zS' : St g (lawEnv L cdv) _ (setN (putAll [("numbers", .ref ln), ("width", .int (W : Nat) tw)] m) (Str.ofString "sent") _) [] := zS.forget0
  rw [em] at zS'
  exact hQ _ _ g _ (fun _ _ q => q) zS'
end
-- LwK168
section
set_option maxRecDepth 100000 in
set_option maxHeartbeats 0 in
theorem segK {w : World} {A : Around} {s : Shared} {g : Heap} {L : Addr} {cdv : Value} {m : PySem.Str → Option Value} {ln : Addr} {vn : List Value} {ns : List Nat} {W n : Nat} {tw ts : Tok} {Q : Flow → Shared → Prop}
    (R' : ∀ env, Rm (A.deeper env) 9) (G : Gd w g) (S : St g (lawEnv L cdv) s.heap m []) (e : HasAll m [("numbers", .ref ln), ("width", .int (W : Nat) tw), ("sent", .bytes (u8s (sentOf W ns).flatten).toArray ts)])
    (hn : g.get? ln = some (listOf vn.toArray n)) (hi : IntsAre vn (intsN ns)) (hnl : ns.length < 100) (hnb : ∀ n ∈ ns, n < 1000) (hW : 2 ≤ W ∧ W ≤ 4)
    (hQ : ∀ h' tk g', g.StaysIn g' → St g' (lawEnv L cdv) h' m [] → Q .next { s with heap := h', toks := tk }) :
    wpAny (model PG w) (A.deeper (lawEnv L cdv)) (execs (lawSeg 14 1) (lawEnv L cdv)) Q NoE s := by
  have zB : Base s := trivial
  rw [← putAll_eq e] at S
  dsimp only [putAll, List.foldr_cons, List.foldr_nil] at S
  conv in lawSeg 14 1 => { whnf; arg 2; whnf }
  generalize hb : (u8s (sentOf W ns).flatten).toArray = b at S e
  have hW3 : W = 2 ∨ W = 3 ∨ W = 4 := by exact om290 hW
  k_steps
  refine call_type_of (Tx := "bytes") (typeIs_bytes _ _ _) (by decide +kernel) ?_
  k_steps
  rename St _ _ _ _ _ => zS
  refine rrev_St zS at0 hW3 ?_ (by with_unfolding_all rfl)
  clear zS
  intro D h' t' u' v' tk S
  k_steps
  rename St _ _ _ _ _ => zS
  refine laid_spec (pl := fun j => W - 1 - j) (W := W) ((R' _).less (by decide)) G zS.keep ⟨_, zS.keep _ _ hn⟩ hi hnl hnb (zS.at at0) (by rcases hW3 with rfl | rfl | rfl <;> decide) (by rcases hW3 with rfl | rfl | rfl <;> decide) (by exact om289 hW) (fun j hj => ⟨by omega, by exact om291 hW⟩) ?_
  intro h' tk' t k
  have S := zS.kept k
  clear zS k
  try dsimp only
  have hfl : ns.flatMap (bitsN (fun j => W - 1 - j) W) = (sentOf W ns).flatten := by
    unfold sentOf
    rw [List.map_map]
    show (ns.map _).flatten = _
    congr 1
    exact List.map_congr_left fun n _ => bits_rev W n
  rw [hfl, hb]
  k_steps
  · rename (_ != _) = true => q
    exact absurd q (by simp)
  · k_steps
    rename St _ _ _ _ _ => zS
    have zS' : St g (lawEnv L cdv) _ (putAll [("numbers", .ref ln), ("width", .int (W : Nat) tw), ("sent", .bytes b ts)] m) [] := zS.forget0.forget0
    rw [putAll_eq e] at zS'
    exact hQ _ _ g (fun _ _ q => q) zS'
end
-- LwL168
section
set_option maxRecDepth 100000 in
set_option maxHeartbeats 0 in
theorem segL {w : World} {A : Around} {s : Shared} {g : Heap} {L : Addr} {cdv : Value} {m : PySem.Str → Option Value} {wa : Addr} {vw : List Value} {WS : List (List Nat)} {ns rest msg : List Nat} {W nw : Nat} {tw ts tm tr : Tok} {Q : Flow → Shared → Prop}
    (R' : ∀ env, Rm (A.deeper env) 9) (G : Gd w g) (S : St g (lawEnv L cdv) s.heap m []) (e : HasAll m [("width", .int (W : Nat) tw), ("sent", .bytes (u8s (sentOf W ns).flatten).toArray ts), ("ways", .ref wa), ("rest", .str (way rest) tr), ("message", .str (T msg) tm)])
    (hwa : g.get? wa = some (listOf vw.toArray nw)) (hiw : TsAre vw (WS.map wayL)) (hz : WS.length < 100) (hws : ∀ u ∈ WS, u.length < 100 ∧ ∀ c ∈ u, c ≠ 47) (hW : 2 ≤ W ∧ W ≤ 4) (hWn : WS.length ≤ 2 ^ W)
    (hnl : ns.length < 100) (hns : ∀ n ∈ ns, n < WS.length) (hml : msg.length < 100) (hC : (ns.flatMap fun k => WS.getD k []) ++ rest = msg)
    (hQ : ∀ h' tk, St g (lawEnv L cdv) h' m [] → Q .next { s with heap := h', toks := tk }) :
    wpAny (model PG w) (A.deeper (lawEnv L cdv)) (execs (lawSeg 15 1) (lawEnv L cdv)) Q NoE s := by
  have zB : Base s := trivial
  rw [← putAll_eq e] at S
  dsimp only [putAll, List.foldr_cons, List.foldr_nil] at S
  conv in lawSeg 15 1 => { whnf; arg 2; whnf }
  have hW3 : W = 2 ∨ W = 3 ∨ W = 4 := by exact om290 hW
  have hval : ∀ n ∈ ns, valN (bitsN (fun j => j) W n).reverse = n := fun n hn => bits_val hW3 (Nat.lt_of_lt_of_le (hns n hn) hWn)
  have hcs : ∀ c ∈ sentOf W ns, ∃ n ∈ ns, c = (bitsN (fun j => j) W n).reverse := fun c hc => by
    unfold sentOf at hc
    obtain ⟨d, hd, rfl⟩ := List.mem_map.mp hc
    obtain ⟨n, hn, rfl⟩ := List.mem_map.mp hd
    exact ⟨n, hn, rfl⟩
  have hread : ((sentOf W ns).flatMap fun c => WS.getD (valN c) []) = ns.flatMap fun k => WS.getD k [] := by
    unfold sentOf
    rw [List.map_map]
    show ((ns.map _).map _).flatten = (ns.map _).flatten
    rw [List.map_map]
    congr 1
    exact List.map_congr_left fun n hn => by show WS.getD (valN (bitsN (fun j => j) W n).reverse) [] = _; rw [hval n hn]
  have hFl : (ns.flatMap fun k => WS.getD k []).length + rest.length = msg.length := by rw [← hC, List.length_append]
  generalize (ns.flatMap fun k => WS.getD k []) = F at hC hread hFl
  k_steps
  rename St _ _ _ _ _ => zS
  refine read_spec (cs := sentOf W ns) (W := W) (WS := WS) ((R' _).less (by decide)) G zS.keep ⟨_, zS.keep _ _ hwa⟩ hiw hz hws (by exact om286 hW) (fun c hc => ?_) (by unfold sentOf; rw [List.length_map, List.length_map]; exact om87 hnl) (fun c hc x hx => ?_) (fun c hc => ?_) ?_
  · obtain ⟨n, _, rfl⟩ := hcs c hc
    rw [List.length_reverse, List.length_map, List.length_range]
  · obtain ⟨n, _, rfl⟩ := hcs c hc
    exact bits_range (List.mem_reverse.mp hx)
  · obtain ⟨n, hn, rfl⟩ := hcs c hc
    rw [hval n hn]; exact hns n hn
  rw [hread]
  intro h' tk' t k
  have S := zS.kept k
  clear zS k
  try dsimp only
  k_steps
  rename St _ _ _ _ _ => zS
  refine sl_way zS (by exact om292 hml hFl) ?_ (by with_unfolding_all rfl) (by intro _; with_unfolding_all rfl)
  clear zS
  intro h' t' kk S _
  try dsimp only
  have hadd : T F ++ T rest = T msg := by rw [T_app, hC]
  k_steps
  · rename (_ != _) = true => q
    rw [hadd] at q
    exact absurd q (by simp)
  · k_steps
    rename St _ _ _ _ _ => zS
    have zS' : St g (lawEnv L cdv) _ (putAll [("width", .int (W : Nat) tw), ("sent", .bytes (u8s (sentOf W ns).flatten).toArray ts), ("ways", .ref wa), ("rest", .str (way rest) tr), ("message", .str (T msg) tm)] m) [] := zS
    rw [putAll_eq e] at zS'
    exact hQ _ _ zS'
end
-- LwM168
section
/-- what two rows of letters both begin with -/
noncomputable def cpl : List Nat → List Nat → List Nat
  | a :: u, b :: v => if a = b then a :: cpl u v else []
  | _, _ => []
theorem cpl_take : ∀ (N : Nat) (u v : List Nat), u.take N = v.take N → N < u.length → N < v.length → u.getD N 0 < v.getD N 0 → cpl u v = u.take N
  | 0, a :: u, b :: v, _, _, _, h => by
    unfold cpl
    rw [if_neg (by simp at h; exact om310 h)]; rfl
  | N + 1, a :: u, b :: v, h, h1, h2, h3 => by
    rw [List.take_succ_cons, List.take_succ_cons, List.cons.injEq] at h
    unfold cpl
    rw [if_pos h.1, cpl_take N u v h.2 (by simpa using h1) (by simpa using h2) (by simpa using h3), List.take_succ_cons]
  | N, [], v, _, h1, _, _ => by simp at h1
  | N, a :: u, [], _, _, h2, _ => by simp at h2
theorem two_of {α : Type} {l : List α} {k : Nat} {x y : α} (hx : l[k]? = some x) (hy : l[k + 1]? = some y) {n : Nat} (hn : n = 2) : (l.drop k).take n = [x, y] := by
  subst hn
  refine List.ext_getElem? fun i => ?_
  rw [List.getElem?_take, List.getElem?_drop]
  rcases i with _ | _ | i
  · simpa using hx
  · simpa using hy
  · rw [if_neg (by exact om66)]; rfl
theorem nodup_wayL {l : List (List Nat)} (h : l.Nodup) : (l.map wayL).Nodup := by
  rw [List.nodup_iff_pairwise_ne, List.pairwise_map]
  exact (List.nodup_iff_pairwise_ne.mp h).imp fun h q => h (wayL_inj q)
/-- what is known of the words in order -/
structure InOrder (SL WS : List (List Nat)) : Prop where
  perm : SL.Perm WS
  lt : SL.Pairwise (· < ·)
  pf : ∀ u ∈ WS, ∀ v ∈ WS, u <+: v → u = v
  ok : ∀ u ∈ WS, u.length < 100 ∧ ∀ c ∈ u, 97 ≤ c
theorem InOrder.part {SL WS : List (List Nat)} (O : InOrder SL WS) {k : Nat} {u v : List Nat} (hu : SL[k]? = some u) (hv : SL[k + 1]? = some v) : ∃ N, u.take N = v.take N ∧ N < u.length ∧ N < v.length ∧ u.getD N 0 < v.getD N 0 := by
  have hlt : u < v := by
    have h1 := (List.getElem?_eq_some_iff.mp hu)
    have h2 := (List.getElem?_eq_some_iff.mp hv)
    have := List.pairwise_iff_getElem.mp O.lt k (k + 1) h1.1 h2.1 (by exact om217)
    rw [h1.2, h2.2] at this; exact this
  refine part_of hlt fun hp => ?_
  have := O.pf u (O.perm.mem_iff.mp (List.mem_of_getElem? hu)) v (O.perm.mem_iff.mp (List.mem_of_getElem? hv)) hp
  rw [this] at hlt
  exact List.lt_irrefl _ hlt
set_option maxRecDepth 100000 in
set_option maxHeartbeats 0 in
theorem segM {w : World} {A : Around} {s : Shared} {g : Heap} {L : Addr} {cdv : Value} {m : PySem.Str → Option Value} {wa : Addr} {vw : List Value} {WS SL : List (List Nat)} {nw : Nat} {Q : Flow → Shared → Prop}
    (R' : ∀ env, Rm (A.deeper env) 20) (G : Gd w g) (S : St g (lawEnv L cdv) s.heap m []) (e : HasAll m [("ways", .ref wa)])
    (hwa : g.get? wa = some (listOf vw.toArray nw)) (hiw : TsAre vw (WS.map wayL)) (O : InOrder SL WS) (hnd : WS.Nodup) (hz : 2 ≤ WS.length ∧ WS.length < 60)
    (hQ : ∀ h' tk g' D vs n, g.StaysIn g' → St g' (lawEnv L cdv) h' (fun z => if z = "both" then some (.ref D) else m z) [] → g'.get? D = some (listOf vs.toArray n) → TsAre vs ((List.range (WS.length - 1)).map fun k => wayL (cpl (SL.getD k []) (SL.getD (k + 1) []))) → Q .next { s with heap := h', toks := tk }) :
    wpAny (model PG w) (A.deeper (lawEnv L cdv)) (execs (lawSeg 16 1) (lawEnv L cdv)) Q NoE s := by
  have zB : Base s := trivial
  rw [← putAll_eq e] at S
  dsimp only [putAll, List.foldr_cons, List.foldr_nil] at S
  conv in lawSeg 16 1 => { whnf; arg 2; whnf }
  have hvl : vw.length = WS.length := by rw [tsAre_len hiw, List.length_map]
  have hSl : SL.length = WS.length := O.perm.length_eq
  k_steps
  refine comp_assign rfl rfl rfl (by decide) (by intro _; rfl) ?_
  k_steps
  rename St _ _ _ _ _ => zS
  refine len_list (isL_up ⟨_, hwa, rfl, _, rfl⟩ zS.keep) (by simp; exact om309 hz hvl) ?_
  rw [show ((vw.toArray.size : Nat) : Int) = ((WS.length : Nat) : Int) by simp [hvl]]
  k_steps
  rename St _ _ _ _ _ => zS
  refine it_range (n := WS.length - 1) zS (R' _).hand (zS.at at0) (small_one (by exact om308) (by exact om307) (by exact om306) (by exact om305 hz)) (by rw [rangeSize_one]; split <;> (first | exact om303 hz | exact om304 (by assumption))) ?_
  clear zS
  intro I1 oI1 h' S W1 _
  replace S := S.forget1
  try dsimp only at S W1 ⊢
  refine comp_its (fun k zs g₁ => TsAre zs ((List.range k).map fun k => wayL (cpl (SL.getD k []) (SL.getD (k + 1) [])))) [("ways", .ref wa)] S W1 (by decide) rfl rfl (by dsimp only [List.map]; decide) rfl rfl rfl (by exact om302 hz) ⟨rfl, trivial⟩ .nil rfl rfl ?_ ?_
  · clear S W1
    rintro k v zs m₂ g₂ h₁ tk₁ oI2 C tl hk ⟨tv, rfl⟩ kg2 hpl e2 hzs S
    replace S := S.norm e2
    dsimp only [putAll, List.foldr_cons, List.foldr_nil] at S
    have G2 : Gd w g₂ := G.mono kg2
    refine let_name ?_
    k_steps
    rw [CPost, if_pos rfl]
    k_steps
    rename St _ _ _ _ _ => zS
    refine sorted_ts (us := WS.map wayL) zS (isL_up ⟨_, hwa, rfl, _, rfl⟩ fun b o q => zS.keep _ _ (kg2 _ _ q)) hiw (nodup_wayL hnd) (by rw [List.length_map]; exact om301 hz) ?_
    clear zS
    intro SD h' vs' us' ee S _ hts hperm hsort
    have hus := ways_sorted O.perm O.lt hperm hsort
    subst hus
    obtain ⟨u, hu⟩ : ∃ u, SL[k]? = some u := get_some (by exact om300 hSl hk)
    obtain ⟨v, hv⟩ : ∃ v, SL[k + 1]? = some v := get_some (by exact om299 hSl hk)
    obtain ⟨N, p1, p2, p3, p4⟩ := O.part hu hv
    obtain ⟨tu, hvu⟩ := tsAre_get hts (i := k) (u := wayL u) (by rw [List.getElem?_map, hu]; rfl)
    obtain ⟨tw, hvv⟩ := tsAre_get hts (i := k + 1) (u := wayL v) (by rw [List.getElem?_map, hv]; rfl)
    have hvsl : vs'.length = SL.length := by rw [tsAre_len hts, List.length_map]
    have hou := O.ok u (O.perm.mem_iff.mp (List.mem_of_getElem? hu))
    have hov := O.ok v (O.perm.mem_iff.mp (List.mem_of_getElem? hv))
    k_steps
    rename St _ _ _ _ _ => zS
    refine kba_turn (value' := .Name (Str.ofString "_") ⟨0, 0, 0, 0⟩) (fun _ => rfl) ?_
    refine ls_mid (a := k) (b := k + 2) zS (zS.isList at0) (by exact om298) (by exact om297) (by exact om296 hz hSl hvsl) ?_ (by with_unfolding_all rfl) (by intro _; with_unfolding_all rfl)
    clear zS
    intro D2 h' S _
    rw [two_of hvu hvv (by exact om295)] at S
    k_steps
    rename St _ _ _ _ _ => zS
    refine common_spec (u := u) (v := v) (N := N) ((R' _).less (by decide)) G2 zS.keep ⟨_, zS.at at0⟩ (fun q => absurd (hou.2 _ q) (by exact om294)) (fun q => absurd (hov.2 _ q) (by exact om294)) (fun q => absurd (hou.2 _ q) (by exact om293)) (fun q => absurd (hov.2 _ q) (by exact om293)) hou.1 hov.1 p1 p2 p3 p4 ?_
    intro h' tk' t kk
    have S := (zS.kept kk).forget0.forget0
    clear zS kk
    refine ⟨_, _, _, g₂, [], rfl, kg2, ⟨rfl, trivial⟩, S.cnil, fun _ _ _ => ?_⟩
    try dsimp only
    rw [List.range_succ, List.map_append, List.map_cons, List.map_nil, show SL.getD k [] = u by simp [List.getD, hu], show SL.getD (k + 1) [] = v by simp [List.getD, hv], cpl_take N u v p1 p2 p3 p4]
    unfold TsAre
    rw [List.map_append, List.map_cons, List.map_nil]
    exact kct_snoc hzs
  clear S W1
  rintro D zs g2 h₂ tk₂ n2 kg2 S hzs
  try dsimp only
  k_steps
  obtain ⟨g3, kg3, S3, hex, _⟩ := St.rebase (nx := []) (extra := [_]) S
  have hD := hex _ (.head _)
  have em : putAll [("ways", .ref wa)] m = m := putAll_eq e
  have zS' : St g3 (lawEnv L cdv) _ (setN (putAll [("ways", .ref wa)] m) (Str.ofString "both") _) [] := S3
  rw [em] at zS'
  exact hQ _ _ g3 D zs _ (fun b o q => kg3 _ _ (kg2 _ _ q)) zS' hD hzs
end
-- LwN168
section
set_option maxRecDepth 100000 in
set_option maxHeartbeats 0 in
theorem segN {w : World} {A : Around} {s : Shared} {g : Heap} {L : Addr} {cdv : Value} {m : PySem.Str → Option Value} {wa la ba : Addr} {vw vl vb : List Value} {WS SL : List (List Nat)} {nw nl nb : Nat} {Q : Flow → Shared → Prop}
    (R' : ∀ env, Rm (A.deeper env) 20) (G : Gd w g) (S : St g (lawEnv L cdv) s.heap m []) (e : HasAll m [("ways", .ref wa), ("letters", .ref la), ("both", .ref ba)])
    (hwa : g.get? wa = some (listOf vw.toArray nw)) (hiw : TsAre vw (WS.map wayL)) (hla : g.get? la = some (listOf vl.toArray nl)) (hil : TsAre vl WS) (hba : g.get? ba = some (listOf vb.toArray nb)) (hib : TsAre vb ((List.range (WS.length - 1)).map fun k => wayL (cpl (SL.getD k []) (SL.getD (k + 1) [])))) (O : InOrder SL WS) (hnd : WS.Nodup) (hz : 2 ≤ WS.length ∧ WS.length < 60)
    (hQ : ∀ h' tk g', St g' (lawEnv L cdv) h' m [] → g.StaysIn g' → Q (.ret (.bool true)) { s with heap := h', toks := tk }) :
    wpAny (model PG w) (A.deeper (lawEnv L cdv)) (execs (lawSeg 17 1) (lawEnv L cdv)) Q NoE s := by
  have zB : Base s := trivial
  rw [← putAll_eq e] at S
  dsimp only [putAll, List.foldr_cons, List.foldr_nil] at S
  conv in lawSeg 17 1 => { whnf; arg 2; whnf }
  have hvl : vw.length = WS.length := by rw [tsAre_len hiw, List.length_map]
  have hSl : SL.length = WS.length := O.perm.length_eq
  k_steps
  rename St _ _ _ _ _ => zS
  refine len_list (isL_up ⟨_, hwa, rfl, _, rfl⟩ zS.keep) (by simp; exact om309 hz hvl) ?_
  rw [show ((vw.toArray.size : Nat) : Int) = ((WS.length : Nat) : Int) by simp [hvl]]
  k_steps
  rename St _ _ _ _ _ => zS
  refine it_range (n := WS.length - 1) zS (R' _).hand (zS.at at0) (small_one (by exact om308) (by exact om307) (by exact om306) (by exact om305 hz)) (by rw [rangeSize_one]; split <;> (first | exact om303 hz | exact om304 (by assumption))) ?_
  clear zS
  intro I1 oI1 h' S W1 _
  replace S := S.forget1
  try dsimp only at S W1 ⊢
  refine comp_it (fun k zs g₁ => TsAre zs ((List.range k).map fun k => wayL (cpl (SL.getD k []) (SL.getD (k + 1) [])))) [("letters", .ref la)] S W1 (by decide) rfl rfl (by dsimp only [List.map]; decide) rfl rfl rfl (by exact om302 hz) ⟨rfl, trivial⟩ .nil ?_ ?_
  · clear S W1
    rintro k v zs m₂ g₂ h₁ tk₁ oI2 C tl hk ⟨tv, rfl⟩ kg2 hpl e2 hzs S
    replace S := S.norm e2
    dsimp only [putAll, List.foldr_cons, List.foldr_nil] at S
    have G2 : Gd w g₂ := G.mono kg2
    refine let_name ?_
    k_steps
    rw [CPost, if_pos rfl]
    k_steps
    rename St _ _ _ _ _ => zS
    refine sorted_ts (us := WS) zS (isL_up ⟨_, hla, rfl, _, rfl⟩ fun b o q => zS.keep _ _ (kg2 _ _ q)) hil hnd (by exact om301 hz) ?_
    clear zS
    intro SD h' vs' us' ee S _ hts hperm hsort
    have hus := lsorted_one (hperm.trans O.perm.symm) hsort O.lt
    rw [hus] at hts
    obtain ⟨u, hu⟩ : ∃ u, SL[k]? = some u := get_some (by exact om300 hSl hk)
    obtain ⟨v, hv⟩ : ∃ v, SL[k + 1]? = some v := get_some (by exact om299 hSl hk)
    obtain ⟨N, p1, p2, p3, p4⟩ := O.part hu hv
    obtain ⟨tu, hvu⟩ := tsAre_get hts (i := k) (u := u) hu
    obtain ⟨tw, hvv⟩ := tsAre_get hts (i := k + 1) (u := v) hv
    have hvsl : vs'.length = SL.length := tsAre_len hts
    have hou := O.ok u (O.perm.mem_iff.mp (List.mem_of_getElem? hu))
    have hov := O.ok v (O.perm.mem_iff.mp (List.mem_of_getElem? hv))
    k_steps
    rename St _ _ _ _ _ => zS
    refine kba_turn (value' := .Name (Str.ofString "_") ⟨0, 0, 0, 0⟩) (fun _ => rfl) ?_
    refine ls_mid (a := k) (b := k + 2) zS (zS.isList at0) (by exact om298) (by exact om297) (by exact om296 hz hSl hvsl) ?_ (by with_unfolding_all rfl) (by intro _; with_unfolding_all rfl)
    clear zS
    intro D2 h' S _
    rw [two_of hvu hvv (by exact om295)] at S
    k_steps
    rename St _ _ _ _ _ => zS
    obtain ⟨p5, p6⟩ := part_take p1 p2 p3 p4
    refine both_spec (u := u) (v := v) (N := N) ((R' _).less (by decide)) G2 zS.keep ⟨_, zS.at at0⟩ hou.1 hov.1 (by omega) p5 p6 ?_
    intro h' tk' t kk
    have S := (zS.kept kk).forget0.forget0
    clear zS kk
    refine ⟨_, _, _, g₂, [], rfl, kg2, ⟨rfl, trivial⟩, S.cnil, fun _ _ _ => ?_⟩
    try dsimp only
    rw [List.range_succ, List.map_append, List.map_cons, List.map_nil, show SL.getD k [] = u by simp [List.getD, hu], show SL.getD (k + 1) [] = v by simp [List.getD, hv], cpl_take N u v p1 p2 p3 p4]
    unfold TsAre
    rw [List.map_append, List.map_cons, List.map_nil]
    exact kct_snoc hzs
  clear S W1
  rintro D zs g2 h₂ tk₂ n2 kg2 S hzs
  try dsimp only
  k_steps
  have hu := (R' (lawEnv L cdv)).units
  refine lists_eq (xs := vb) (ys := zs) (isL_up ⟨_, hba, rfl, _, rfl⟩ fun b o q => S.keep _ _ (kg2 _ _ q)) (S.isList at0) (by rw [tsAre_len hib, tsAre_len hzs]) (by exact om284 hu) (strs_eqAt hib hzs) ?_
  have zS' : St g2 (lawEnv L cdv) _ (putAll [("ways", .ref wa), ("letters", .ref la), ("both", .ref ba)] m) [] := S.forget0
  rw [putAll_eq e] at zS'
  exact hQ _ _ g2 zS' kg2
end
-- Lf168
section
theorem ws_len (ns : List Int) : 2 ≤ (wsOf ns).length ∧ (wsOf ns).length ≤ 3 := by
  unfold wsOf
  rw [List.length_map, List.length_take, List.length_drop, drawn_len]
  exact om251
theorem ws_item (ns : List Int) : ∀ x ∈ wsOf ns, 0 < x ∧ x < 10 := by
  intro x hx
  unfold wsOf at hx
  obtain ⟨y, _, rfl⟩ := List.mem_map.mp hx
  have h1 := Int.fmod_nonneg_of_pos y (show (0 : Int) < 9 by decide)
  have h2 := Int.fmod_lt_of_pos y (show (0 : Int) < 9 by decide)
  exact om250 h1 h2
theorem sum_le : ∀ (l : List Int), (∀ x ∈ l, 0 < x ∧ x < 10) → 0 ≤ l.sum ∧ l.sum ≤ 9 * l.length ∧ ∀ x ∈ l, x ≤ l.sum
  | [], _ => ⟨Int.le_refl _, Int.le_refl _, fun x hx => nomatch hx⟩
  | a :: l, h => by
    obtain ⟨h1, h2, h3⟩ := sum_le l fun x hx => h x (.tail _ hx)
    have ha := h a (.head _)
    rw [List.sum_cons, List.length_cons]
    refine ⟨by exact om249 h1 ha, by push_cast; exact om248 h2 ha, fun x hx => ?_⟩
    rcases List.mem_cons.mp hx with rfl | hx
    · exact om247 h1
    · have := h3 x hx; exact om246 ha this
theorem ws_pos (ns : List Int) : ∀ x ∈ wsOf ns, 0 < x ∧ x < 10 ∧ x ≤ (wsOf ns).sum := fun x hx =>
  ⟨(ws_item ns x hx).1, (ws_item ns x hx).2, (sum_le _ (ws_item ns)).2.2 x hx⟩
theorem ws_sum (ns : List Int) : 0 < (wsOf ns).sum ∧ (wsOf ns).sum ≤ 27 := by
  obtain ⟨h1, h2, h3⟩ := sum_le _ (ws_item ns)
  have hl := ws_len ns
  refine ⟨?_, by exact om245 h2 hl⟩
  obtain ⟨x, hx⟩ : ∃ x, x ∈ wsOf ns := by
    cases q : wsOf ns with
    | nil => rw [q] at hl; simp at hl
    | cons x l => exact ⟨x, .head _⟩
  have := ws_pos ns x hx
  exact om244 this
theorem op_le (ns : List Int) : 2 ≤ opOf ns ∧ opOf ns ≤ 4 := by unfold opOf; exact om243
theorem ws_big (ns : List Int) : (wsOf ns).sum ^ opOf ns ≤ 1000000 := by
  obtain ⟨h1, h2⟩ := ws_sum ns
  obtain ⟨S, hS⟩ := Int.eq_ofNat_of_zero_le (Int.le_of_lt h1)
  have hn := op_le ns
  rw [hS] at h1 h2 ⊢
  have h3 : S ^ opOf ns ≤ 27 ^ 4 := Nat.le_trans (Nat.pow_le_pow_left (by exact om242 h2) _) (Nat.pow_le_pow_right (by exact om241) hn.2)
  have h4 : ((S : Int) ^ opOf ns) = ((S ^ opOf ns : Nat) : Int) := by norm_cast
  rw [h4]
  have : (27 : Nat) ^ 4 ≤ 1000000 := by decide
  exact om240 h3
theorem msg_ok (ns : List Int) : (msgOf ns (wsOf ns).length).length < 100 ∧ ∀ c ∈ msgOf ns (wsOf ns).length, c ≠ 47 := by
  have hl := ws_len ns
  unfold msgOf
  refine ⟨?_, fun c hc => ?_⟩
  · unfold tailOf
    rw [List.length_append, List.length_map, List.length_take, List.length_take]
    exact om239 hl
  · rcases List.mem_append.mp hc with hc | hc
    · have := List.mem_of_mem_take hc
      simp at this
      exact om238 this
    · unfold tailOf at hc
      obtain ⟨x, _, rfl⟩ := List.mem_map.mp hc
      exact om237
theorem width_ok {k : Nat} (h : 3 ≤ k ∧ k ≤ 9) : (2 ≤ widthOf k ∧ widthOf k ≤ 4) ∧ k ≤ 2 ^ widthOf k := by
  obtain ⟨h1, h2⟩ := h
  have : k = 3 ∨ k = 4 ∨ k = 5 ∨ k = 6 ∨ k = 7 ∨ k = 8 ∨ k = 9 := by exact om236 h1 h2
  rcases this with rfl | rfl | rfl | rfl | rfl | rfl | rfl <;> decide
theorem order_of {l : List (List Nat)} (h : l.Nodup) : ∃ SL : List (List Nat), SL.Perm l ∧ SL.Pairwise (· < ·) := by
  refine ⟨l.mergeSort fun a b => decide (a ≤ b), List.mergeSort_perm l _, ?_⟩
  have h1 := List.pairwise_mergeSort (le := fun a b : List Nat => decide (a ≤ b)) (fun a b c h1 h2 => by
    simp only [decide_eq_true_eq] at *
    exact List.le_trans h1 h2) (fun a b => by
    simp only [Bool.or_eq_true, decide_eq_true_eq]
    exact List.le_total a b) l
  have h2 : (l.mergeSort fun a b => decide (a ≤ b)).Nodup := (List.mergeSort_perm l _).nodup_iff.mpr h
  refine (h1.and (List.nodup_iff_pairwise_ne.mp h2)).imp fun {a b} ⟨h1, h2⟩ => ?_
  simp only [decide_eq_true_eq] at h1
  rcases Classical.em (a < b) with h | h
  · exact h
  · exact absurd (List.le_antisymm h1 (List.not_lt.mp h)) h2
theorem op_words {ws : List Int} {n : Nat} (hw : ∀ x ∈ ws, 0 < x ∧ x ≤ ws.sum) (hs : 0 < ws.sum) (hk : 1 ≤ ws.length) (hbig : ws.sum ^ n ≤ 1000000) (hn : n ≤ 4) : (opN ws n).length < 100 ∧ ∀ p ∈ opN ws n, p.2.length < 100 := by
  have G := grow_ok hw hs hk hbig n
  refine ⟨by rw [G.len]; exact om232 hn, fun p hp => ?_⟩
  obtain ⟨j, hj, h⟩ := G.layO p hp
  rw [(lay_snd ws n j).2 p h]; exact om235 hn hj
theorem wpN_execs_appendN {M : Model} {A : Around} {E : Value → Shared → Prop} {s : Shared} {env : Env} {Q : Flow → Shared → Prop} {l1 l2 : List Stmt} (h : wpN M A (execs l1 env) (fun f s' => match f with | .next => wpN M A (execs l2 env) Q E s' | f => Q f s') E s) : wpN M A (execs (l1 ++ l2) env) Q E s :=
  fun Γ p hΓ h1 h2 => execs_app hΓ h1 h2 l1 p s (h Γ p hΓ h1 h2)
end
-- Law168
section
set_option maxRecDepth 100000 in
set_option maxHeartbeats 0 in
theorem law_spec {w : World} {A : Around} {s : Shared} {g : Heap} {ls : Addr} {vs : List Value} {ns : List Int} {Q : Value → Shared → Prop} (R : Rm A 30) (hgu : A.guards = some []) (G : Gd w g) (st : g.StaysIn s.heap)
    (hls : s.heap.IsList ls vs.toArray) (hi : IntsAre vs ns) (hz : ns.length ≤ 63) (hQ : ∀ h' tk', s.heap.StaysIn h' → Q (.bool true) { s with heap := h', toks := tk' }) :
    wpN (model PG w) A (call (.ref 222) [.ref ls] []) Q NoE s := by
  refine enterN (binds := [("script", .ref ls)]) [] G st (by simp) (by simp) (by k_dflt k_is) (by k_dflt k_is) R.room (BindsTo.of_eq rfl) rfl (by decide) (by decide) ?_ rfl rfl rfl
  intro g' L h₁ tk G' hk S
  have R' : ∀ env, Rm (A.deeper env) 20 := fun _ => (R.less (by decide : 21 ≤ 30)).deeper
  have R9 : ∀ env, Rm (A.deeper env) 9 := fun env => (R' env).less (by decide)
  have hext : ∀ h', g'.StaysIn h' → s.heap.StaysIn h' := fun h' k b o e => k b o (hk b o (by simp) e)
  have hls' : g'.IsList ls vs.toArray := isL_up hls fun b o e => hk b o (by simp) e
  clear st R hk hls G
  dsimp only [bindAll, List.foldl_cons, List.foldl_nil] at S
  show wpN (model PG w) (A.deeper (lawEnv L (.ref 221))) (execs (lawSeg 0 1 ++ (lawSeg 1 2 ++ (lawSeg 3 2 ++ (lawSeg 5 1 ++ (lawSeg 6 1 ++ (lawSeg 7 1 ++ (lawSeg 8 1 ++ (lawSeg 9 1 ++ (lawSeg 10 3 ++ (lawSeg 13 1 ++ (lawSeg 14 1 ++ (lawSeg 15 1 ++ (lawSeg 16 1 ++ lawSeg 17 1))))))))))))) (lawEnv L (.ref 221))) _ NoE _
  replace S : St g' (lawEnv L (.ref 221)) h₁ (fun z => if z = "script" then some (.ref ls) else none) [] := S
  -- the plain facts
  have hn := ws_len ns
  have hpos := ws_pos ns
  have hs27 := ws_sum ns
  have hop := op_le ns
  have hbig := ws_big ns
  have hmsg := msg_ok ns
  have hw : ∀ x ∈ wsOf ns, 0 < x ∧ x ≤ (wsOf ns).sum := fun x hx => ⟨(hpos x hx).1, (hpos x hx).2.2⟩
  have hopw := op_words (ws := wsOf ns) (n := opOf ns) hw hs27.1 (by exact om144 hn) hbig hop.2
  have hwl := wd_len' hw hs27.1 hn hbig hop
  have hww := wd_words hw hs27.1 hn hbig hop
  have hwn := wd_snd hw hs27.1 hn hbig hop
  have hwk : ∀ p ∈ wdN (wsOf ns) (opOf ns), p.2.length < 100 := fun p hp => by
    have := (hww.1 p.2 (List.mem_map_of_mem (f := fun p : Int × List Nat => p.2) hp)).2.1
    exact om232 this
  have k1 : ((wdN (wsOf ns) (opOf ns)).map keyW).map (fun p => p.2) = (((wdN (wsOf ns) (opOf ns)).map (fun p => p.2)).map wayL).map T := by
    rw [List.map_map, List.map_map, List.map_map]; rfl
  have k2 : ((wdN (wsOf ns) (opOf ns)).map keyT).map (fun p => p.2) = ((wdN (wsOf ns) (opOf ns)).map (fun p => p.2)).map T := by
    rw [List.map_map, List.map_map]; rfl
  have hWSl : ((wdN (wsOf ns) (opOf ns)).map (fun p => p.2)).length = (wdN (wsOf ns) (opOf ns)).length := List.length_map ..
  generalize hWS : (wdN (wsOf ns) (opOf ns)).map (fun p => p.2) = WS at hww hwn k1 k2 hWSl
  have hwid := width_ok (k := WS.length) (by exact om233 hwl hWSl)
  have hlet : ∀ u ∈ WS, u.length < 100 ∧ ∀ c ∈ u, 97 ≤ c := fun u hu => ⟨by have := (hww.1 u hu).2.1; exact om232 this, fun c hc => ((hww.1 u hu).2.2 c hc).1⟩
  obtain ⟨SL, hSp, hSs⟩ := order_of hwn
  have O : InOrder SL WS := ⟨hSp, hSs, hww.2, hlet⟩
  generalize hmg : msgOf ns (wsOf ns).length = msg at hmsg
  have hC := cut_told (fun u hu => (hww.1 u hu).1) hww.2 msg
  have hco := cut_ok (WS := WS) msg ([], []) (fun k hk => nomatch hk)
  generalize hst : msg.foldl (cutStep WS) ([], []) = cr at hC hco
  obtain ⟨nm, rest⟩ := cr
  dsimp only at hC hco
  have hrd := cutTo_read hC
  simp only [List.length_nil, Nat.zero_add] at hco
  -- the walk
  refine wpN_execs_append (segA1 R9 G' S ⟨rfl, trivial⟩ hls' hi hz ?_)
  clear S
  intro h₁ tk m₁ g1 D dv kg1 S e1 hD hdv
  refine wpN_execs_append (segA2 R9 (G'.mono kg1) S e1 hD hdv ?_)
  clear S e1 hD hdv
  intro h₂ tk m₂ g2 W wv nw tn kg2 S e2 hW hwv
  have G2 : Gd w g2 := G'.mono fun b o q => kg2 _ _ (kg1 _ _ q)
  have hls2 : g2.IsList ls vs.toArray := isL_up hls' fun b o q => kg2 _ _ (kg1 _ _ q)
  refine wpN_execs_append (segC1 R9 G2 S e2 hW hwv hn hpos ⟨hs27.1, by exact om231 hs27⟩ hop hbig ?_)
  clear S e2
  intro h₃ tk m₃ g3 oa ob pa pb tn3 kg3 S e3 r1 r2 r3 r4
  have G3 : Gd w g3 := G2.mono kg3
  refine wpN_execs_append (segD R9 G3 S ⟨e3.2.2.2.1, e3.2.2.2.2.2.1, trivial⟩ r1 r3 hopw.1 hopw.2 ?_)
  clear S
  intro h₄ tk g4 kg4 S
  refine wpN_execs_append (segE R9 (G3.mono kg4) S ⟨e3.2.2.2.2.1, e3.2.2.2.2.2.2.1, trivial⟩ (r2.up kg4) (r4.up kg4) (by exact om230 hwl) hwk ?_)
  clear S
  intro h₅ tk g5 kg5 S
  have kg35 : g3.StaysIn g5 := fun b o q => kg5 _ _ (kg4 _ _ q)
  have kg25 : g2.StaysIn g5 := fun b o q => kg35 _ _ (kg3 _ _ q)
  have G5 : Gd w g5 := G2.mono kg25
  refine wpN_execs_append (segF R9 G5 S ⟨e3.1, e3.2.1, trivial⟩ (isL_up hls2 kg25) hi hz (kg25 _ _ hW) hwv hn ?_)
  clear S
  intro h₆ tk g6 tm kg6 S
  rw [hmg] at S
  have G6 : Gd w g6 := G5.mono kg6
  refine wpN_execs_append (segG R9 G6 S ⟨e3.2.2.2.2.1, trivial⟩ (r2.up fun b o q => kg6 _ _ (kg35 _ _ q)) (by rw [List.length_map]; exact om230 hwl) ?_)
  clear S
  intro h₇ tk g7 wa vw nwa kg7 S hwa hiw
  rw [k1] at hiw
  have G7 : Gd w g7 := G6.mono kg7
  refine wpN_execs_append (segH R9 G7 S ⟨e3.2.2.2.2.2.2.1, trivial⟩ (r4.up fun b o q => kg7 _ _ (kg6 _ _ (kg35 _ _ q))) (by rw [List.length_map]; exact om230 hwl) ?_)
  clear S
  intro h₈ tk g8 la vl nla kg8 S hla hil
  rw [k2] at hil
  have G8 : Gd w g8 := G7.mono kg8
  refine wpN_execs_append (segI (WS := WS) (msg := msg) (ns := nm) (rest := rest) R9 G8 S ⟨rfl, rfl, rfl, trivial⟩ (kg8 _ _ hwa) hiw hla hil (by exact om228 hwl hWSl) (fun u hu => (hlet u hu).1) hmsg.1 hmsg.2 hst hC (by omega) ?_)
  clear S
  intro h₉ tk m₉ g9 ln vn nln tm9 tr9 tw9 kg9 S e9 hln hiln
  have G9 : Gd w g9 := G8.mono kg9
  refine wpN_execs_appendN (segJ (W := widthOf WS.length) (ns := nm) R9 hgu G9 S ⟨e9.2.2.2.1, e9.2.2.2.2.2.1, trivial⟩ hln hiln (by omega) (fun n hn => by have := hrd.2.1 n hn; exact om229 hwl hWSl this) hwid.1 ?_)
  clear S
  intro h₁₀ tk g10 ts kg10 S
  have G10 : Gd w g10 := G9.mono kg10
  refine wpN_execs_append (segK (W := widthOf WS.length) (ns := nm) R9 G10 S ⟨e9.2.2.2.1, e9.2.2.2.2.2.1, rfl, trivial⟩ (kg10 _ _ hln) hiln (by omega) (fun n hn => by have := hrd.2.1 n hn; exact om229 hwl hWSl this) hwid.1 ?_)
  clear S
  intro h₁₁ tk g11 kg11 S
  have G11 : Gd w g11 := G10.mono kg11
  have kw : g8.StaysIn g11 := fun b o q => kg11 _ _ (kg10 _ _ (kg9 _ _ q))
  refine wpN_execs_append (segL (W := widthOf WS.length) (ns := nm) (rest := rest) (msg := msg) (WS := WS) R9 G11 S ⟨e9.2.2.2.2.2.1, rfl, e9.2.1, e9.2.2.2.2.1, e9.1, trivial⟩ (kw _ _ (kg8 _ _ hwa)) hiw (by exact om228 hwl hWSl) (fun u hu => ⟨(hlet u hu).1, fun c hc => by have := (hlet u hu).2 c hc; exact om227 this⟩) hwid.1 hwid.2 (by omega) hrd.2.1 hmsg.1 hrd.1 ?_)
  clear S
  intro h₁₂ tk S
  refine wpN_execs_append (segM (WS := WS) (SL := SL) R' G11 S ⟨e9.2.1, trivial⟩ (kw _ _ (kg8 _ _ hwa)) hiw O hwn (by exact om226 hwl hWSl) ?_)
  clear S
  intro h₁₃ tk g13 ba vb nb kg13 S hba hib
  refine wpN_of (segN (WS := WS) (SL := SL) R' (G11.mono kg13) S ⟨e9.2.1, e9.2.2.1, rfl, trivial⟩ (kg13 _ _ (kw _ _ (kg8 _ _ hwa))) hiw (kg13 _ _ (kw _ _ hla)) hil hba hib O hwn (by exact om226 hwl hWSl) ?_)
  intro h' tk' g14 S kg14
  exact hQ _ _ (hext _ fun b o q => S.keep _ _ (kg14 _ _ (kg13 _ _ (kw _ _ (kg8 _ _ (kg7 _ _ (kg6 _ _ (kg25 _ _ (kg2 _ _ (kg1 _ _ q))))))))))
end
-- Fin168
section
set_option maxRecDepth 100000 in
set_option maxHeartbeats 8000000 in
theorem law_holds : PySem.Challenge.rw_pd0168_01.Holds := holds_law (by kernel_rfl) fun _ => hd (by
  intro w s₀ s₁ mg mb G Y fa o pm cd doc dV kV ho h2 hcd hD hmg hg args vals as hpre hlay hrd hwl hlo
  have KX := kIn_of Y
  have T := topRead_of G.T
  have GG : Gd w s₁.heap := ⟨KX, ⟨_, _, _, T⟩⟩
  clear h2 hcd hD Y
  have hfa : fa = 222 := by
    have := mg_of (n := "law") (v := Value.ref 222) KX T.g (by k_dflt k_is)
    have h3 : mg "law" = some (.ref fa) := hmg
    rw [h3] at this
    cases this; rfl
  clear hmg T G ho
  subst hfa
  wrow_args hpre hlay hrd hwl hlo
  rename ¬ _ < _ => hlen
  rename IntsAre _ _ => hI
  rename Heap.IsList _ _ _ => hL
  refine wpN_mono (law_spec (w := w) (A := callerA) (Q := fun v s' => ∃ h' tk, v = .bool true ∧ s' = { s₁ with heap := h', toks := tk } ∧ s₁.heap.StaysIn h') ⟨rfl, by decide, by decide⟩ rfl GG (fun _ _ q => q) hL hI (by exact om94 hlen) fun h' tk' k => ⟨h', tk', rfl, rfl, k⟩) ?_ (fun _ _ q => q.elim)
  rintro v s' ⟨h', tk', rfl, rfl, k⟩
  refine ⟨.inl ⟨_, .bool true, [], rfl, fun _ => rfl, .bool true, ?_, fun _ => ⟨.nil, fun a ha => nomatch ha⟩⟩, .of_keep k, rfl, .of_eq hg⟩
  wrow_post)
end
end
end Mine
set_option maxRecDepth 100000 in
theorem PySem.Challenge.cw_pd0168_01_holds : PySem.Challenge.rw_pd0168_01.Holds := by
  exact Mine.law_holds
