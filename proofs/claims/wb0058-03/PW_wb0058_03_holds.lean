import PyProof.Rows.All
import PyProof.MeetsSeq3
import PyProof.StrLawsReplace
import KE.KLam
import KE.KSortAsk
import OpenK.XSeg
import Wide.FinOn
import OpenK.AllK
import Wide.All
import Lean
import PySem.Challenge.RW_wb0058_03
set_option genInjectivity false
set_option genSizeOf false
set_option maxRecDepth 100000
set_option Elab.async false
set_option linter.unusedSectionVars false
set_option linter.unusedVariables false
set_option linter.unusedSimpArgs false
open PySem PySem.W PySem.Calls PyProof.Rows
section
set_option maxHeartbeats 4000000
namespace Mine
set_option hygiene false in
local macro_rules | `(tactic| o_head $_:term) => `(tactic| exact h)
theorem kSeed (h : PySem.Challenge.rw_wb0058_03.row.Holds) : PySem.Challenge.rw_wb0058_03.row.Holds := by km_head
noncomputable abbrev q3 : Program := view PySem.Challenge.pw_wb0058_03 [1,2,3,4,5,6,8,9,11,12,13,14,15,16,18,19,20,21,22,23,24,25,26,27]
abbrev loose3 : List Str := [Str.ofString "_SelectorContext", Str.ofString "_special_chars_map"]
noncomputable abbrev as3 : List Addr := [2,3,15,17,18,20,21,22,24,25,27,28,29,31,32,34,35,36,38,39,41,42,43,45,46,48,49,57,59,60,62,63,64,65,66,67,68,72,76,78,79,81,82,83,85,86,88,89,90,92,93,95,96,97,99,100,102,103,104,106,107,109,110,111,113,114,116,117,118,120,121,123,124,125,127,128,130,131,132,134,135,137,138,139,141,142,144,145,146,148,149,151,152,153,155,156,158,159,160,163,164,165,168,169,170,173,174,175,178,179,180,183,184]
noncomputable abbrev k3 : Params → Frag := kSeed.heap_1
theorem as3_eq : ∀ P, as3 = (k3 P).map (·.1) := fun P => by kernel_rfl
noncomputable abbrev H3 : Hook := kmHook k3 as3 as3_eq [30,37,44,181]
noncomputable abbrev r3 : OpenRow := PySem.Challenge.rw_wb0058_03.row
noncomputable abbrev X3 (s : Shared) : Bool := xlAt q3 [] s && recOk (RowW.records r3.toRowW) s
noncomputable def P3 (w : World) : Prop := (openEnds treeTable r3.prog w 4470).map (fun s => (openSeen q3 loose3 (importedModules r3.prog.main.body) X3 true s, Hook.obs H3 s)) = some (openGood q3 loose3, Hook.val H3 w)
theorem left4 {P : World → Prop} (r1 r2 : String) (h1 : ∀ w : World, P ((w.withFollow r1 false).withFollow r2 false)) (h2 : ∀ w : World, P ((w.withFollow r1 false).withFollow r2 true))
    (h3 : ∀ w : World, P ((w.withFollow r1 true).withFollow r2 false)) (h4 : ∀ w : World, P ((w.withFollow r1 true).withFollow r2 true)) (w : World) : P w :=
  byRow2 r2 (P := P) (byRow2 r1 (P := fun w => P (w.withFollow r2 false)) h1 h3) (byRow2 r1 (P := fun w => P (w.withFollow r2 true)) h2 h4) w
theorem leaf1 (w : World) : P3 ((w.withFollow "comprehension-iter-twice" false).withFollow "special-get-raises" false) := by
  delta P3 openEnds fencedOpening topFrom
  rewrite [PySem.W.Fast.te14082659384304107361, PySem.W.Fast.te10274390034422433532, PySem.W.Fast.te14289696077712309145, PySem.W.Fast.te4187177175401517315, PySem.W.Fast.te1435165496053646825, PySem.W.Fast.te14364793385576792824]
  kernel_rfl
theorem leaf2 (w : World) : P3 ((w.withFollow "comprehension-iter-twice" false).withFollow "special-get-raises" true) := by
  delta P3 openEnds fencedOpening topFrom
  rewrite [PySem.W.Fast.te14082659384304107361, PySem.W.Fast.te10274390034422433532, PySem.W.Fast.te14289696077712309145, PySem.W.Fast.te4187177175401517315, PySem.W.Fast.te1435165496053646825, PySem.W.Fast.te14364793385576792824]
  kernel_rfl
theorem leaf3 (w : World) : P3 ((w.withFollow "comprehension-iter-twice" true).withFollow "special-get-raises" false) := by
  delta P3 openEnds fencedOpening topFrom
  rewrite [PySem.W.Fast.te14082659384304107361, PySem.W.Fast.te10274390034422433532, PySem.W.Fast.te14289696077712309145, PySem.W.Fast.te4187177175401517315, PySem.W.Fast.te1435165496053646825, PySem.W.Fast.te14364793385576792824]
  kernel_rfl
theorem leaf4 (w : World) : P3 ((w.withFollow "comprehension-iter-twice" true).withFollow "special-get-raises" true) := by
  delta P3 openEnds fencedOpening topFrom
  rewrite [PySem.W.Fast.te14082659384304107361, PySem.W.Fast.te10274390034422433532, PySem.W.Fast.te14289696077712309145, PySem.W.Fast.te4187177175401517315, PySem.W.Fast.te1435165496053646825, PySem.W.Fast.te14364793385576792824]
  kernel_rfl
theorem leftAll : ∀ w, P3 w := left4 (P := P3) "comprehension-iter-twice" "special-get-raises" leaf1 leaf2 leaf3 leaf4
theorem law_said : PySem.Challenge.rw_wb0058_03.wellSaid = true := by
  rewrite [PySem.W.Fast.te9446332074065402090]
  kernel_rfl
theorem hd (walk : ∀ (w : World) (s₀ s₁ : Shared) (mg mb : Str → Option Value), Ground q3 loose3 r3.toRowW.records (XL q3 []) w s₀ mg mb s₁.heap → H3.says w s₁.heap → ∀ a, mg (Str.ofString "law") = some (.ref a) → s₁.gens = #[] →
    ∀ (args : List WData) (vals : List Value) (as : List Addr), r3.toRowW.claim.pre args = true → WData.layableAll args = true → ReadsAllW r3.toRowW.records (classAt s₀.heap) s₁.heap vals args as → WellAll w.params s₁.heap vals args → (∀ a ∈ as, (a == sysModules) = false) →
      wpAny (model r3.toRowW.prog w) callerA (PySem.call (.ref a) vals) (fun v s' => GoodWG r3.toRowW.claim (classAt s₀.heap) (ExcName.means s₀.heap) args s₁ (.ok (.ret v)) s')
        (fun e s' => GoodWG r3.toRowW.claim (classAt s₀.heap) (ExcName.means s₀.heap) args s₁ (.error e) s') s₁) : PySem.Challenge.rw_wb0058_03.Holds := by
  refine holds_law law_said fun said => ?_
  refine holds_open (q := q3) (loose := loose3) (Xt := X3) (XP := XL q3 []) (Yf := Hook.obs H3) (Ya := Hook.val H3) (YP := Hook.says H3) (N := 4470) leftAll (Hook.of H3) (Hook.keeps H3) (fun s e => xl_of s (Bool.and_eq_true_iff.mp e).1) XL.keeps (by rfl) (by rfl) (by rfl) (fun s e => recFacts_of (Bool.and_eq_true_iff.mp e).2) (by rfl) (by first | assumption | decide +kernel) (by decide +kernel) ⟨rfl, rfl, rfl, rfl, rfl, by decide +kernel⟩ ?hw ?hc
  case hw => w_witness2
  case hc => exact fun w s₀ s₁ mg mb G Y a o pm cd doc dV kV _ _ _ _ hmg hg => walk w s₀ s₁ mg mb G Y a hmg hg
end Mine
end
namespace Mine
theorem cps {G : Prop} (h : ∀ P : Prop, (G → P) → P) : G := h G id
theorem Runs.size_le {M : Model} {Γ : PySem.Ctx} {p : Pos} {t : Sem Fin} {fs : List Frame} {s s' : Shared} {e : End} (h : Runs M Γ p t fs s e s') : s.heap.objs.size ≤ s'.heap.objs.size := by
  induction h <;> (try simp only [Shared.setGen, Heap.size_update, Heap.size_push] at *) <;> lia
theorem Returns.size_le {M : Model} {Γ : PySem.Ctx} {p : Pos} {s s' : Shared} {r : Result} (h : Returns M Γ p s r s') : s.heap.objs.size ≤ s'.heap.objs.size := Runs.size_le h
theorem Wakes.size_le {M : Model} {Γ : PySem.Ctx} {p : Pos} {g : Nat} {r : Resume} {s s' : Shared} {res : GenResult} (h : Wakes M Γ p g r s res s') : s.heap.objs.size ≤ s'.heap.objs.size := by
  unfold Wakes at h
  split at h
  · exact h.elim
  · split at h
    · obtain ⟨e₁, s₁, hr, _, _, rfl⟩ := h; exact (Runs.size_le hr : (s.setGen g .running).heap.objs.size ≤ s₁.heap.objs.size)
    · rw [h.2]; exact Nat.le_refl _
    · rw [h.2]; exact Nat.le_refl _
  · obtain ⟨e₁, s₁, hr, _, _, rfl⟩ := h; exact (Runs.size_le hr : (s.setGen g .running).heap.objs.size ≤ s₁.heap.objs.size)
  · rw [h.2]; exact Nat.le_refl _
  · rw [h.2]; exact Nat.le_refl _
theorem wp_size {α : Type} (M : Model) (Γ : PySem.Ctx) (n : Nat) (t : Sem α) : ∀ (Q : α → Pos → Shared → Prop) (E : Value → Pos → Shared → Prop) (p : Pos) (s : Shared), n ≤ s.heap.objs.size → Sem.wp M Γ t Q E p s →
    Sem.wp M Γ t (fun a p' s' => n ≤ s'.heap.objs.size ∧ Q a p' s') (fun e p' s' => n ≤ s'.heap.objs.size ∧ E e p' s') p s := by
  induction t with
  | pure a => intro Q E p s hn h; exact ⟨hn, h⟩
  | raise e => intro Q E p s hn h; exact ⟨hn, h⟩
  | unsupported _ => intro Q E p s _ h; exact h
  | finish _ => intro Q E p s _ h; exact h
  | rule _ k ih => intro Q E p s hn h; exact ih () Q E p s hn h
  | «at» p' k ih => intro Q E p s hn h; exact ih () Q E p' s hn h
  | load a _ k ih => intro Q E p s hn h; obtain ⟨o, ho, h⟩ := h; exact ⟨o, ho, ih o Q E p s hn h⟩
  | update a _ f k ih => intro Q E p s hn h; exact ⟨h.1, ih () Q E p _ (by show n ≤ (s.heap.update a f).objs.size; rw [Heap.size_update]; exact hn) h.2⟩
  | loadIfAlive a k ih => intro Q E p s hn h; exact ih _ Q E p s hn h
  | point _ k ih => intro Q E p s hn h; exact ih () Q E p s hn h
  | register _ _ => intro Q E p s _ h; exact h
  | alloc o k ih => intro Q E p s hn h; exact ih _ Q E p _ (by show n ≤ (s.heap.push o).objs.size; rw [Heap.size_push]; lia) h
  | fresh k ih => intro Q E p s hn h; exact ih _ Q E p _ hn h
  | ask k ih => intro Q E p s hn h; exact ih _ Q E p s hn h
  | choose src m k ih => intro Q E p s hn h; exact ⟨h.1, ih _ Q E p _ hn h.2⟩
  | os q _ k ih => intro Q E p s hn h; exact ih _ Q E p _ hn h
  | call c hd _ _ k ih => intro Q E p s hn h; obtain ⟨r, s', hr, h⟩ := h; exact ⟨r, s', hr, ih r Q E p s' (Nat.le_trans hn (Returns.size_le hr)) h⟩
  | handled own k ih => intro Q E p s hn h; exact ih _ Q E p s hn h
  | genState g k ih => intro Q E p s hn h; obtain ⟨st, hs, h⟩ := h; exact ⟨st, hs, ih _ Q E p s hn h⟩
  | newGen c k ih => intro Q E p s hn h; exact ih _ Q E p _ hn h
  | resume g r _ k ih => intro Q E p s hn h; obtain ⟨res, s', hw, h⟩ := h; exact ⟨res, s', hw, ih res Q E p s' (Nat.le_trans hn (Wakes.size_le hw)) h⟩
  | yield _ _ _ _ => intro Q E p s _ h; exact h
  | stack k ih => intro Q E p s hn h; exact ih _ Q E p s hn h
  | fork _ _ => intro Q E p s _ h; exact h
  | thread k ih => intro Q E p s hn h; exact ih _ Q E p s hn h
  | await _ _ _ _ _ => intro Q E p s _ h; exact h
theorem wpAny_size {α : Type} {M : Model} {A : Around} {s : Shared} {t : Sem α} {Q : α → Shared → Prop} {E : Value → Shared → Prop}
    (h : wpAny M A t (fun a s' => s.heap.objs.size ≤ s'.heap.objs.size → Q a s') (fun e s' => s.heap.objs.size ≤ s'.heap.objs.size → E e s') s) : wpAny M A t Q E s := by
  have h' : wpAny M A t (fun a s' => s.heap.objs.size ≤ s'.heap.objs.size ∧ (s.heap.objs.size ≤ s'.heap.objs.size → Q a s')) (fun e s' => s.heap.objs.size ≤ s'.heap.objs.size ∧ (s.heap.objs.size ≤ s'.heap.objs.size → E e s')) s :=
    fun Γ p hΓ => wp_size M Γ _ t _ _ p s (Nat.le_refl _) (h Γ p hΓ)
  exact wpAny_mono h' (fun _ _ x => x.2 x.1) (fun _ _ x => x.2 x.1)
noncomputable def tabN {α : Type} : List (Nat × α) → Nat → Option α
  | [], _ => none
  | q :: r, f => if f = q.1 then some q.2 else tabN r f
theorem tabN_all {α : Type} {P : Nat → α → Prop} : ∀ {l : List (Nat × α)}, (∀ q ∈ l, P q.1 q.2) → ∀ f t, tabN l f = some t → P f t
  | [], _, _, _, e => nomatch e
  | q :: r, h, f, t, e => by
    by_cases hf : f = q.1
    · subst hf
      have e' : (if q.1 = q.1 then some q.2 else tabN r q.1) = some t := e
      rw [if_pos rfl] at e'
      cases e'
      exact h q List.mem_cons_self
    · have e' : (if f = q.1 then some q.2 else tabN r f) = some t := e
      rw [if_neg hf] at e'
      exact tabN_all (fun x hx => h x (List.mem_cons_of_mem _ hx)) f t e'
noncomputable abbrev lim : Nat := 1048576
inductive D where
  | nil
  | bool (b : Bool)
  | int (i : Int)
  | str (l : List Nat)
  | list (l : List D)
  | tup (l : List D)
  | dict (ks vs : List D)
  | thing (ns : List Nat) (vs : List D)
  | lam (id : Nat) (caps : List D)
deriving Inhabited
structure LSpec where
  params : Arguments
  body : FuncBody
  scope : Scope
  qual : Str
  fr : List Nat
structure Bs where
  prog : Program
  w : World
  h₀ : Heap
  mg : Str → Option Value
  mb : Str → Option Value
  C : Addr
  nm : Nat → Str
  CT : Nat → Option (Addr × Addr)
  qf : Nat → Str
  pq : Nat → Str
  LS : Nat → Option LSpec
noncomputable def isCodeO (o : Obj) : Prop := o.cls = .type "code" ∧ ∃ vs, o.data = .fields vs
noncomputable def Bs.cd (B : Bs) (f : Nat) : Value := match B.CT f with
  | some p => .ref p.1
  | none => .none
noncomputable def Bs.T (B : Bs) (P : Addr) : Prop := ∃ f c, B.CT f = some (c, P)
inductive CodeOf (h : Heap) (v : Value) (q : Str) : Prop
  | mk (c : Addr) (o : Obj) (vs : Array Value) (t : Tok) (e : v = .ref c) (g : h.get? c = some o) (ic : isCodeO o) (d : o.data = .fields vs) (x : vs[1]? = some (.str q t))
noncomputable def Bs.TI (B : Bs) (h : Heap) : Prop := ∀ f c P, B.CT f = some (c, P) → ∃ ps, h.get? P = some (PySem.W.tabObj ps) ∧ TriplesOk ps.toList ∧ ∀ pos v, codeAmong pos ps.toList = some v → CodeOf h v (B.qf f)
structure LamAt (B : Bs) (L : LSpec) (cv : List Value) (h : Heap) (W : Addr → Prop) (fd : FuncData) : Prop where
  params : fd.params = L.params
  body : fd.body = L.body
  scope : fd.scope = L.scope
  glob : fd.globals = mainGlobals
  blt : fd.builtins = builtinsNs
  dfl : fd.defaults = .none ∧ fd.kwdefaults = .none
  qual : fd.qualname = L.qual
  code : CodeOf h fd.code L.qual
  len : cv.length = L.fr.length
  only : ∀ x c, fd.closure.lookup (B.nm x) = some c → x ∈ L.fr
  keys : (fd.closure.map (·.1)).Nodup
  nms : ∀ z ∈ fd.closure, ∃ x, z.1 = B.nm x
  apart : fd.closure.Pairwise fun x y => x.2 ≠ y.2
  cells : ∀ (i x : Nat) (v : Value), L.fr[i]? = some x → cv[i]? = some v → ∃ c, fd.closure.lookup (B.nm x) = some c ∧ ¬ W c ∧ h.IsCell c (some v)
inductive Bs.Lam (B : Bs) (id : Nat) (cv : List Value) (h : Heap) (W : Addr → Prop) (a : Addr) : Prop
  | mk (L : LSpec) (fo : Obj) (fd : FuncData) (ls : B.LS id = some L) (g : h.get? a = some fo) (d : fo.data = .func fd) (w : ¬ W a) (l : LamAt B L cv h W fd)
variable (B : Bs)
noncomputable abbrev Bs.M : Model := model B.prog B.w
noncomputable def keyOf (P : Params) : Value → Int
  | .str x _ => PyData.keyHash P x
  | .int i _ => reduceHash i
  | _ => 0
noncomputable def ents (P : Params) (kv dv : List Value) : List DictEntry := (kv.zip dv).map fun p => ⟨keyOf P p.1, p.1, p.2⟩
inductive SeqRep (T : String) (h : Heap) (W : Addr → Prop) (len : Nat) (v : Value) (P : List Value → Prop) : Prop
  | mk (a : Addr) (vs : Array Value) (n : Nat) (e : v = .ref a) (w : ¬ W a) (g : h.get? a = some { cls := .type T, dict := none, data := .seq vs n, slots := #[] }) (l : len ≤ lim) (r : P vs.toList)
inductive DictRep (h : Heap) (W : Addr → Prop) (ks : List D) (len : Nat) (v : Value) (P : List Value → Prop) : Prop
  | mk (a : Addr) (xs : List Str) (dv : List Value) (e : v = .ref a) (w : ¬ W a) (s : (a == sysModules) = false) (d : h.DictOf (PySem.strKind B.prog B.w) a (xs.zip dv)) (k : ks = xs.map (fun x => D.str x.cps.toList)) (hl : xs.length = dv.length) (l : len ≤ lim) (r : P dv)
inductive ThingRep (h : Heap) (W : Addr → Prop) (ns : List Nat) (len : Nat) (v : Value) (P : List Value → Prop) : Prop
  | mk (a dx : Addr) (n : Nat) (ts : List Tok) (dv : List Value) (e : v = .ref a) (w : ¬ W a) (g : h.get? a = some (instObj B.C dx)) (wx : ¬ W dx)
      (gx : h.get? dx = some { cls := .type "dict", dict := none, data := .dict (ents B.w.params ((ns.zip ts).map fun p => Value.str (B.nm p.1) p.2) dv).toArray n, slots := #[] }) (l1 : ts.length = ns.length) (l2 : len = ns.length) (r : P dv)
inductive LamRep (h : Heap) (W : Addr → Prop) (id : Nat) (v : Value) (P : List Value → Prop) : Prop
  | mk (a : Addr) (cv : List Value) (e : v = .ref a) (w : ¬ W a) (l : B.Lam id cv h W a) (r : P cv)
inductive ConsRep (vs : List Value) (P : Value → Prop) (Q : List Value → Prop) : Prop
  | mk (v : Value) (r : List Value) (e : vs = v :: r) (p : P v) (q : Q r)
mutual
noncomputable def Rep (h : Heap) (W : Addr → Prop) : D → Value → Prop
  | .nil, v => v = .none
  | .bool b, v => v = .bool b
  | .int i, v => ∃ t, v = .int i t
  | .str l, v => (∃ t, v = .str ⟨l.toArray⟩ t) ∧ l.length ≤ lim
  | .list ds, v => SeqRep "list" h W ds.length v (RepAll h W ds)
  | .tup ds, v => SeqRep "tuple" h W ds.length v (RepAll h W ds)
  | .dict ks ds, v => DictRep B h W ks ds.length v (RepAll h W ds)
  | .thing ns ds, v => ThingRep B h W ns ds.length v (RepAll h W ds)
  | .lam id caps, v => LamRep B h W id v (RepAll h W caps)
noncomputable def RepAll (h : Heap) (W : Addr → Prop) : List D → List Value → Prop
  | [], vs => vs = []
  | d :: ds, vs => ConsRep vs (Rep h W d) (RepAll h W ds)
end
structure Eff (s s' : Shared) : Prop where
  keep : ∀ b o, ¬ B.T b → s.heap.get? b = some o → s'.heap.get? b = some o
  ck : ∀ b o, isCodeO o → s.heap.get? b = some o → s'.heap.get? b = some o
  size : s.heap.objs.size ≤ s'.heap.objs.size
  ti : B.TI s.heap → B.TI s'.heap
  gens : ∀ (i : Nat) (x : GenState), s.gens[i]? = some x → s'.gens[i]? = some x
  bare : AllBare s.gens → AllBare s'.gens
  os : s'.os = s.os
structure Good (s : Shared) : Prop where
  base : ∀ b o, ¬ B.T b → B.h₀.get? b = some o → s.heap.get? b = some o
  size : B.h₀.objs.size ≤ s.heap.objs.size
  ti : B.TI s.heap
structure Room (A : Around) (k : Nat) : Prop where
  handled : A.handled = none
  depth : A.depth + k < 950
  units : A.units + 3 * k + 300 < cLine
inductive Ent where
  | fz (d : D)
  | sealed (d : D)
  | own (l : List D)
  | ownD (ks : List Int)
noncomputable abbrev REnv := Nat → Option Ent
structure Kinds where
  k : Nat → Option NameKind
  f : Nat
noncomputable instance : CoeFun Kinds fun _ => Nat → Option NameKind := ⟨Kinds.k⟩
inductive LocL (pe : Env) (h : Heap) (x : Nat) (v : Value) : Prop
  | mk (k : pe.kindOf (B.nm x) = some .local) (m : Str → Option Value) (n : h.Ns pe.locals m) (e : m (B.nm x) = some v)
inductive LocC (pe : Env) (h : Heap) (x : Nat) (v : Value) : Prop
  | mk (k : pe.kindOf (B.nm x) = some .cell ∨ pe.kindOf (B.nm x) = some .free) (c : Addr) (e : pe.cells.lookup (B.nm x) = some c) (hc : h.IsCell c (some v))
noncomputable def Loc (pe : Env) (h : Heap) (x : Nat) (v : Value) : Prop := LocL B pe h x v ∨ LocC B pe h x v
inductive OwnRep (h : Heap) (Wc W : Addr → Prop) (l : List D) (v : Value) : Prop
  | mk (a : Addr) (vs : Array Value) (n : Nat) (e : v = .ref a) (w : W a) (wc : ¬ Wc a) (g : h.get? a = some { cls := .type "list", dict := none, data := .seq vs n, slots := #[] }) (hl : l.length ≤ lim) (r : RepAll B h W l vs.toList)
inductive OwnDRep (L : Addr) (h : Heap) (Wc W : Addr → Prop) (ks : List Int) (v : Value) : Prop
  | mk (a : Addr) (e : v = .ref a) (w : W a) (wc : ¬ Wc a) (ne : a ≠ L) (sm : (a == sysModules) = false) (d : h.DictOf (PySem.intKind B.prog B.w) a (ks.map fun k => (k, Value.none)))
noncomputable def EntRel (L : Addr) (h : Heap) (Wc W : Addr → Prop) : Ent → Value → Prop
  | .fz d, v => Rep B h W d v
  | .sealed d, v => Rep B h W d v
  | .own l, v => OwnRep B h Wc W l v
  | .ownD ks, v => OwnDRep B L h Wc W ks v
noncomputable def isSealed (ρ : REnv) (x : Nat) : Prop := ∃ d, ρ x = some (.sealed d)
structure Ctx (Γ : Kinds) (Wc W : Addr → Prop) (pe : Env) (ρ : REnv) (s : Shared) : Prop where
  good : Good B s
  fn : pe.scope.kind = .function
  glob : pe.globals = mainGlobals
  blt : pe.builtins = builtinsNs
  tW : ∀ b, B.T b → Wc b
  cW : ∀ b, Wc b → W b
  wlt : ∀ b, W b → b < s.heap.objs.size
  loc : ∃ m, s.heap.Ns pe.locals m
  locW : W pe.locals ∧ ¬ Wc pe.locals
  ow : ∀ b, W b → ¬ Wc b → B.h₀.objs.size ≤ b
  code : Γ.f = 0 ∨ (pe.code = B.cd Γ.f ∧ pe.qual = B.pq Γ.f)
  kinds : ∀ x k, Γ x = some k → pe.kindOf (B.nm x) = some k ∧ (k = .cell ∨ k = .free → ∃ c, pe.cells.lookup (B.nm x) = some c)
  cells : ∀ x c, pe.cells.lookup (B.nm x) = some c → (∃ v, s.heap.IsCell c v) ∧ ¬ B.T c
  apart : pe.cells.Pairwise fun x y => x.2 ≠ y.2
  cellW : ∀ x c, pe.cells.lookup (B.nm x) = some c → isSealed ρ x ∨ (W c ∧ ¬ Wc c)
  vars : ∀ x e, ρ x = some e → ∃ v, Loc B pe s.heap x v ∧ EntRel B pe.locals s.heap Wc W e v
  sealedW : ∀ x, isSealed ρ x → ∃ c, pe.cells.lookup (B.nm x) = some c ∧ ¬ W c
  owns : ∀ x y l l' a, ρ x = some (.own l) → ρ y = some (.own l') → Loc B pe s.heap x (.ref a) → Loc B pe s.heap y (.ref a) → x = y
inductive Tg where
  | name (x : Nat) (p : Pos)
  | tup (xs : List (Nat × Pos)) (k : Nat) (p : Pos)
mutual
inductive E where
  | int (i : Int) (p : Pos)
  | str (l : List Nat) (p : Pos)
  | nil (p : Pos)
  | bool (b : Bool) (p : Pos)
  | name (x : Nat) (p : Pos)
  | bin (a : E) (op : Operator) (b : E) (p : Pos)
  | cmp (a : E) (op : CmpOp) (b : E) (p : Pos)
  | cmp2 (a : E) (o1 : CmpOp) (b : E) (o2 : CmpOp) (c : E) (p : Pos)
  | bop (op : BoolOp) (es : List E) (p : Pos)
  | not (a : E) (p : Pos)
  | neg (i : Int) (cp p : Pos)
  | ife (t a b : E) (p : Pos)
  | idx (a i : E) (p : Pos)
  | slc (a : E) (lo hi : Option E) (sp p : Pos)
  | rev (a : E) (cp np sp p : Pos)
  | list (es : List E) (p : Pos)
  | tup (es : List E) (k : Nat) (p : Pos)
  | attr (a : E) (f : Nat) (p : Pos)
  | comp (elt : E) (gs : List Gn) (sc : List (Nat × NameKind)) (p : Pos)
  | dcomp (k v : E) (gs : List Gn) (sc : List (Nat × NameKind)) (p : Pos)
  | call (f : Nat) (es : List E) (fp p : Pos)
  | callv (f : Nat) (es : List E) (fp p : Pos)
  | calle (f : E) (es : List E) (p : Pos)
  | blt (f : Nat) (es : List E) (fp p : Pos)
  | meth (a : E) (m : Nat) (es : List E) (ap p : Pos)
  | lam (id f : Nat) (ps : List (Nat × Pos)) (body : E) (sc : List (Nat × NameKind)) (p : Pos)
inductive Gn where
  | mk (t : Tg) (it : E) (ifs : List E)
end
inductive St where
  | asg (x : Nat) (e : E) (xp p : Pos)
  | own (x : Nat) (e : E) (xp p : Pos)
  | asgT (xs : List (Nat × Pos)) (k : Nat) (e : E) (tp p : Pos)
  | augN (x : Nat) (op : Operator) (e : E) (xp p : Pos)
  | augI (x : Nat) (i : E) (op : Operator) (e : E) (xp sp p : Pos)
  | setI (x : Nat) (i : E) (e : E) (xp sp p : Pos)
  | app (x : Nat) (e : E) (xp ap cp p : Pos)
  | raw (ss : List Stmt)
  | defS (x id f : Nat) (ps : List (Nat × Pos)) (body : List Stmt) (sc : List (Nat × NameKind)) (gen : Bool) (p : Pos)
  | forS (t : Tg) (it : E) (body : List St) (p : Pos)
  | whl (c : E) (body : List St) (p : Pos)
  | ifS (c : E) (a b : List St) (p : Pos)
  | ret (e : E) (p : Pos)
  | tryS (body : List St) (hs : List ExceptHandler) (p : Pos)
  | frz (x : Nat)
  | seal (x : Nat)
  | sub (x : Nat) (a b : List Nat) (q1 q2 q3 q4 q5 q6 q7 q8 q9 q10 q11 : Pos)
section
variable (nm : Nat → Str)
noncomputable def scOf (sc : List (Nat × NameKind)) (more : List (Str × Const) := []) : Scope := { kind := .function, names := sc.map fun q => (nm q.1, q.2), isGenerator := false, isCoroutine := false, more := more }
noncomputable def Tg.py : Tg → PySem.Expr
  | .name x p => .Name (nm x) p
  | .tup xs k p => .Tuple (xs.map fun q => .Name (nm q.1) q.2) k p
noncomputable def paramsOf (ps : List (Nat × Pos)) : Arguments := { posonlyargs := [], args := ps.map fun q => { arg := nm q.1, annotation := none, pos := q.2 }, vararg := none, kwonlyargs := [], kw_defaults := [], kwarg := none, defaults := [] }
mutual
noncomputable def E.py : E → PySem.Expr
  | .int i p => .Constant (.int i) 0 p
  | .str l p => .Constant (.str ⟨l.toArray⟩) 0 p
  | .nil p => .Constant .none 0 p
  | .bool b p => .Constant (.bool b) 0 p
  | .name x p => .Name (nm x) p
  | .bin a op b p => .BinOp a.py op b.py p
  | .cmp a op b p => .Compare a.py [op] [b.py] p
  | .cmp2 a o1 b o2 c p => .Compare a.py [o1, o2] [b.py, c.py] p
  | .bop op es p => .BoolOp op (pyL es) p
  | .not a p => .UnaryOp .Not a.py p
  | .neg i cp p => .UnaryOp .USub (.Constant (.int i) 0 cp) p
  | .ife t a b p => .IfExp t.py a.py b.py p
  | .idx a i p => .Subscript a.py i.py p
  | .slc a lo hi sp p => .Subscript a.py (.Slice (pyO lo) (pyO hi) none sp) p
  | .rev a cp np sp p => .Subscript a.py (.Slice none none (some (.UnaryOp .USub (.Constant (.int 1) 0 cp) np)) sp) p
  | .list es p => .List (pyL es) p
  | .tup es k p => .Tuple (pyL es) k p
  | .attr a f p => .Attribute a.py (nm f) p
  | .comp elt gs sc p => .ListComp elt.py (pyG gs) (scOf nm sc) p
  | .dcomp k v gs sc p => .DictComp k.py v.py (pyG gs) (scOf nm sc) p
  | .call f es fp p => .Call (.Name (nm f) fp) (pyL es) [] p
  | .callv f es fp p => .Call (.Name (nm f) fp) (pyL es) [] p
  | .calle f es p => .Call f.py (pyL es) [] p
  | .blt f es fp p => .Call (.Name (nm f) fp) (pyL es) [] p
  | .meth a m es ap p => .Call (.Attribute a.py (nm m) ap) (pyL es) [] p
  | .lam _ _ ps body sc p => .Lambda (paramsOf nm ps) body.py (scOf nm sc) p
noncomputable def pyL : List E → List PySem.Expr
  | [] => []
  | e :: r => e.py :: pyL r
noncomputable def pyO : Option E → Option PySem.Expr
  | none => none
  | some e => some e.py
noncomputable def pyG : List Gn → List Comprehension
  | [] => []
  | .mk t it ifs :: r => { target := t.py nm, iter := it.py, ifs := pyL ifs, is_async := 0 } :: pyG r
end
mutual
noncomputable def St.py : St → List Stmt
  | .asg x e xp p => [.Assign [.Name (nm x) xp] (e.py nm) p]
  | .own x e xp p => [.Assign [.Name (nm x) xp] (e.py nm) p]
  | .asgT xs k e tp p => [.Assign [.Tuple (xs.map fun q => .Name (nm q.1) q.2) k tp] (e.py nm) p]
  | .augN x op e xp p => [.AugAssign (.Name (nm x) xp) op (e.py nm) p]
  | .augI x i op e xp sp p => [.AugAssign (.Subscript (.Name (nm x) xp) (i.py nm) sp) op (e.py nm) p]
  | .setI x i e xp sp p => [.Assign [.Subscript (.Name (nm x) xp) (i.py nm) sp] (e.py nm) p]
  | .app x e xp ap cp p => [.Expr (.Call (.Attribute (.Name (nm x) xp) (Str.ofString "append") ap) [e.py nm] [] cp) p]
  | .raw ss => ss
  | .defS x id f ps body sc gen p => [.FunctionDef (nm x) (paramsOf nm ps) body [] none [] { scOf nm sc with isGenerator := gen } none (nm x) p]
  | .forS t it body p => [.For (t.py nm) (it.py nm) (pyS body) [] p]
  | .whl c body p => [.While (c.py nm) (pyS body) [] p]
  | .ifS c a b p => [.If (c.py nm) (pyS a) (pyS b) p]
  | .ret e p => [.Return (some (e.py nm)) p]
  | .tryS body hs p => [.Try (pyS body) hs [] [] p]
  | .frz _ => []
  | .seal _ => []
  | .sub x a b q1 q2 q3 q4 q5 q6 q7 q8 q9 q10 q11 => [.If (.Compare (.Constant (.str ⟨a.toArray⟩) 0 q1) [.In] [.Name (nm x) q2] q3)
      [.Assign [.Name (nm x) q4] (.Call (.Attribute (.Name (nm x) q5) (Str.ofString "replace") q6) [.Constant (.str ⟨a.toArray⟩) 0 q7, .Constant (.str ⟨b.toArray⟩) 0 q8] [] q9) q10] [] q11]
noncomputable def pyS : List St → List Stmt
  | [] => []
  | s :: r => s.py ++ pyS r
end
end
noncomputable def E.isName : E → Bool
  | .name .. => true
  | _ => false
noncomputable def E.isBase : E → Bool
  | .name .. => true
  | .str .. => true
  | .idx .. => true
  | _ => false
noncomputable def E.isCall : E → Bool
  | .call .. => true
  | _ => false
inductive R where
  | d (x : D)
  | own (l : List D)
  | it (l : List D)
noncomputable def R.asD : R → Option D
  | .d x => some x
  | _ => none
noncomputable def R.asB : R → Option D
  | .d x => some x
  | .own l => some (.list l)
  | _ => none
noncomputable def R.asI : R → Option (List D)
  | .d (.list l) => some l
  | .d (.tup l) => some l
  | .d (.str l) => some (l.map fun c => .str [c])
  | .it l => some l
  | _ => none
structure Phi where
  call : Nat → List D → Option D
  lam : Nat → List D → Option D
  gen : Nat → List D → Option (List D)
noncomputable def REnv.set (ρ : REnv) (x : Nat) (e : Ent) : REnv := fun y => if y = x then some e else ρ y
noncomputable def bindT : Tg → D → REnv → Option REnv
  | .name x _, d, ρ => some (ρ.set x (.fz d))
  | .tup xs _ _, .tup ds, ρ => if xs.length = ds.length then some ((xs.zip ds).foldl (fun ρ q => ρ.set q.1.1 (.fz q.2)) ρ) else none
  | _, _, _ => none
noncomputable def Tg.fit (sc : List (Nat × NameKind)) (ρ : REnv) : Tg → Bool
  | .name x _ => (sc.lookup x == some .local || sc.lookup x == some .cell) && (ρ x).isNone
  | .tup xs _ _ => decide ((xs.map (·.1)).Nodup) && xs.all fun q => (sc.lookup q.1 == some .local || sc.lookup q.1 == some .cell) && (ρ q.1).isNone
noncomputable def evLoop {α : Type} (sc : List (Nat × NameKind)) (t : Tg) (body : REnv → Option (List α)) (ρ : REnv) : List D → Option (List α)
  | [] => some []
  | d :: r => if t.fit sc ρ then do
    let ρ' ← bindT t d ρ
    let x ← body ρ'
    let y ← evLoop sc t body ρ r
    some (x ++ y)
    else none
noncomputable def D.pd : Nat → D → Option PyData
  | 0, _ => none
  | n + 1, d => match d with
    | .nil => some .none
    | .bool b => some (.bool b)
    | .int i => some (.int i)
    | .list l => (l.mapM (D.pd n)).map .list
    | .tup l => (l.mapM (D.pd n)).map .tuple
    | _ => none
noncomputable def D.int? : D → Option Int
  | .int i => some i
  | _ => none
noncomputable def D.str? : D → Option (List Nat)
  | .str l => some l
  | _ => none
noncomputable def D.list? : D → Option (List D)
  | .list l => some l
  | _ => none
theorem int?_eq {d : D} {i : Int} (h : d.int? = some i) : d = .int i := by cases d <;> first | (cases h; rfl) | cases h
theorem str?_eq {d : D} {l : List Nat} (h : d.str? = some l) : d = .str l := by cases d <;> first | (cases h; rfl) | cases h
theorem list?_eq {d : D} {l : List D} (h : d.list? = some l) : d = .list l := by cases d <;> first | (cases h; rfl) | cases h
theorem ob_some {α β : Type} {x : Option α} {f : α → Option β} {b : β} (h : x.bind f = some b) : ∃ a, x = some a ∧ f a = some b := Option.bind_eq_some_iff.mp h
theorem om_some {α β : Type} {x : Option α} {f : α → β} {b : β} (h : x.map f = some b) : ∃ a, x = some a ∧ f a = b := Option.map_eq_some_iff.mp h
theorem if_some {α : Type} {c : Prop} [Decidable c] {a z : α} (h : (if c then some a else none) = some z) : c ∧ a = z := by
  by_cases hc : c
  · rw [if_pos hc] at h; exact ⟨hc, Option.some.inj h⟩
  · rw [if_neg hc] at h; cases h
theorem ifb_some {α : Type} {c : Prop} [Decidable c] {a : Option α} {z : α} (h : (if c then a else none) = some z) : c ∧ a = some z := by
  by_cases hc : c
  · rw [if_pos hc] at h; exact ⟨hc, h⟩
  · rw [if_neg hc] at h; cases h
noncomputable def D.eq (a b : D) : Option Bool := match a.str? with
  | some x => b.str?.map (x == ·)
  | none => (D.pd 5 a).bind fun p => (D.pd 5 b).bind fun q => some (PyData.eqv p q)
noncomputable def D.isIn (x : D) (l : List D) : Option Bool := do
  let p ← D.pd 5 x
  let q ← l.mapM (D.pd 4)
  some (q.any fun y => PyData.eqv y p)
noncomputable def D.isStr (k : List Nat) : D → Bool
  | .str x => x == k
  | _ => false
noncomputable def D.dget (ks vs : List D) (k : List Nat) : Option D := ((ks.zip vs).find? fun q => q.1.isStr k).map (·.2)
noncomputable def D.isNil : D → Option Bool
  | .nil => some true
  | .lam .. => none
  | .thing .. => none
  | _ => some false
noncomputable def D.memb (a b : D) : Option Bool := match b with
  | .list l => D.isIn a l
  | .tup l => D.isIn a l
  | .dict ks vs => a.str?.map fun x => (D.dget ks vs x).isSome
  | _ => none
noncomputable def D.cmp (op : CmpOp) (a b : D) : Option Bool := match op with
  | .Eq => D.eq a b
  | .NotEq => (D.eq a b).map (!·)
  | .Lt => a.int?.bind fun x => b.int?.map fun y => decide (x < y)
  | .LtE => a.int?.bind fun x => b.int?.map fun y => decide (x ≤ y)
  | .In => D.memb a b
  | .NotIn => b.list?.bind fun l => (D.isIn a l).map (!·)
  | .IsNot => match b with
    | .nil => (D.isNil a).map (!·)
    | _ => none
  | _ => none
noncomputable def mkS (l : List Nat) : Option D := if l.length ≤ lim then some (.str l) else none
noncomputable def mkL (l : List D) : Option D := if l.length ≤ lim then some (.list l) else none
noncomputable def D.add (a b : D) : Option D := match a with
  | .int x => b.int?.map fun y => .int (x + y)
  | .str x => b.str?.bind fun y => mkS (x ++ y)
  | .list x => b.list?.bind fun y => mkL (x ++ y)
  | _ => none
noncomputable def D.bin (op : Operator) (a b : D) : Option D := match op with
  | .Add => D.add a b
  | .FloorDiv => a.int?.bind fun x => b.int?.bind fun y => if 0 < y ∧ y < 1073741824 then some (.int (Int.fdiv x y)) else none
  | .Mod => a.int?.bind fun x => b.int?.bind fun y => if 0 < y then some (.int (Int.fmod x y)) else none
  | .Mult => a.str?.bind fun x => b.int?.bind fun n => if 0 ≤ n ∧ n ≤ 16 ∧ x.length ≤ 65536 then mkS (List.replicate n.toNat x).flatten else none
  | .Pow => a.int?.bind fun x => b.int?.bind fun n => if 0 ≤ x ∧ x ≤ 16 ∧ 0 ≤ n ∧ n ≤ 16 then some (.int (x ^ n.toNat)) else none
  | _ => none
noncomputable def seqAt (n : Nat) (i : Int) : Option Nat := if 0 ≤ i then (if i < n then some i.toNat else none) else (if 0 ≤ i + n then some (i + n).toNat else none)
noncomputable def D.item (a i : D) : Option D := match a with
  | .list l => i.int?.bind fun i => (seqAt l.length i).bind (l[·]?)
  | .tup l => i.int?.bind fun i => (seqAt l.length i).bind (l[·]?)
  | .str l => i.int?.bind fun i => ((seqAt l.length i).bind (l[·]?)).map fun c => .str [c]
  | .dict ks vs => i.str?.bind fun k => D.dget ks vs k
  | _ => none
noncomputable def cutL {α : Type} (lo hi : Option Int) (l : List α) : List α := (l.drop (lo.elim 0 (clipAt l.length))).take (hi.elim l.length (clipAt l.length) - lo.elim 0 (clipAt l.length))
noncomputable def D.bnd : Option D → Option (Option Int)
  | none => some none
  | some (.int i) => if -(lim : Int) ≤ i ∧ i ≤ lim then some (some i) else none
  | _ => none
noncomputable def D.cut (l h : Option Int) : D → Option D
  | .list x => some (.list (cutL l h x))
  | .str x => some (.str (cutL l h x))
  | _ => none
noncomputable def D.slice (a : D) (lo hi : Option D) : Option D := (D.bnd lo).bind fun l => (D.bnd hi).bind fun h => D.cut l h a
noncomputable def D.rev (a : D) : Option D := a.list?.map fun l => .list l.reverse
noncomputable def D.len (a : D) : Option Nat := match a with
  | .list l => some l.length
  | .tup l => some l.length
  | .str l => some l.length
  | _ => none
noncomputable def D.fld (f : Nat) : D → Option D
  | .thing ns vs => if ns.length = vs.length ∧ (f = 19 ∨ f = 20 ∨ f = 21) then ((ns.zip vs).find? (fun q => q.1 == f)).map (·.2) else none
  | _ => none
noncomputable def D.truth : D → Option Bool
  | .bool b => some b
  | _ => none
noncomputable def leI : List Int → List Int → Bool
  | [], _ => true
  | _ :: _, [] => false
  | a :: r, b :: t => if a = b then leI r t else decide (a < b)
noncomputable def D.ints : List D → Option (List Int)
  | [] => some []
  | .int i :: r => (D.ints r).map (i :: ·)
  | _ => none
noncomputable def D.intss : List D → Option (List (List Int))
  | [] => some []
  | .list l :: r => do
    let x ← D.ints l
    let y ← D.intss r
    some (x :: y)
  | _ => none
noncomputable def insBy {α : Type} (le : α → α → Bool) (x : α) : List α → List α
  | [] => [x]
  | y :: r => if le x y then x :: y :: r else y :: insBy le x r
noncomputable def sortBy {α : Type} (le : α → α → Bool) : List α → List α
  | [] => []
  | x :: r => insBy le x (sortBy le r)
noncomputable def D.sorted (l : List D) : Option D := if 64 ≤ l.length then none else match l with
  | [] => some (.list [])
  | .int _ :: _ => (D.ints l).map fun x => .list ((sortBy (fun a b => decide (a ≤ b)) x).map .int)
  | _ => if l.length = 4 then (D.intss l).map fun x => .list ((sortBy leI x).map fun y => .list (y.map .int)) else none
noncomputable def D.chr (a : D) : Option D := a.int?.bind fun i => if 0 ≤ i ∧ i < 55296 then some (.str [i.toNat]) else none
noncomputable def oneOf : List Nat → Option Nat
  | [c] => some c
  | _ => none
noncomputable def D.ord (a : D) : Option D := a.str?.bind fun l => (oneOf l).map fun (c : Nat) => .int (c : Int)
noncomputable def bltF : Nat → Option (D → Option D) := tabN [(0, fun a => a.len.map fun (n : Nat) => D.int (n : Int)), (1, D.chr), (2, D.ord), (3, fun a => a.list?.bind D.sorted)]
noncomputable def D.builtin (f : Nat) (as : List D) : Option D := match as with
  | [a] => (bltF f).bind fun g => g a
  | _ => none
noncomputable def D.mfind (a b : D) : Option D := a.str?.bind fun x => b.str?.map fun y => .int (Txt.find ⟨x.toArray⟩ ⟨y.toArray⟩)
noncomputable def D.msplit (a b : D) : Option D := a.str?.bind fun x => b.str?.bind fun y => if y.length = 1 ∧ x.length < 1000 then some (.list ((Txt.split ⟨x.toArray⟩ ⟨y.toArray⟩).map fun z => .str z.cps.toList)) else none
noncomputable def metF : Nat → Option (D → D → Option D) := tabN [(10, D.mfind), (11, D.msplit)]
noncomputable def D.method (a : D) (m : Nat) (as : List D) : Option D := match as with
  | [b] => (metF m).bind fun g => g a b
  | _ => none
noncomputable def kindsIn (Γ : Kinds) (sc : List (Nat × NameKind)) : Kinds := ⟨fun x => (sc.lookup x).map fun k => if k = .free ∧ Γ x = some .cell then .cell else k, Γ.f⟩
noncomputable def scOk (Γ : Kinds) (sc : List (Nat × NameKind)) : Bool := decide ((sc.map (·.1)).Nodup) && sc.all fun q => match q.2 with
  | .free => Γ q.1 == some .cell || Γ q.1 == some .free
  | .local => true
  | .cell => true
  | .globalImplicit => true
  | _ => false
noncomputable def REnv.cut (ρ : REnv) (sc : List (Nat × NameKind)) : REnv := fun x => if sc.lookup x = some .free then ρ x else none
noncomputable def mkD (l : List (D × D)) : Option D := if l.length ≤ 64 ∧ (l.all fun q => match q.1 with | .str _ => true | _ => false) ∧ (l.map fun q => match q.1 with | .str x => x | _ => []).Nodup then some (.dict (l.map (·.1)) (l.map (·.2))) else none
noncomputable def freeOf (sc : List (Nat × NameKind)) : List Nat := (sc.filter fun q => q.2 == .free).map (·.1)
section
variable (Φ : Phi)
mutual
noncomputable def ev (Γ : Kinds) (ρ : REnv) : E → Option R
  | .int i _ => some (.d (.int i))
  | .str l _ => (mkS l).map .d
  | .nil _ => some (.d .nil)
  | .bool b _ => some (.d (.bool b))
  | .name x _ => match ρ x with
    | some (.fz d) => some (.d d)
    | some (.sealed d) => some (.d d)
    | some (.own l) => some (.own l)
    | _ => none
  | .bin a op b _ => do
    let x ← (← ev Γ ρ a).asB
    let y ← (← ev Γ ρ b).asB
    (D.bin op x y).map .d
  | .cmp a op b _ => do
    let x ← (← ev Γ ρ a).asB
    let y ← (← ev Γ ρ b).asB
    (D.cmp op x y).map fun c => .d (.bool c)
  | .cmp2 a o1 b o2 c _ => do
    let x ← (← ev Γ ρ a).asB
    let y ← (← ev Γ ρ b).asB
    let t ← D.cmp o1 x y
    if t then do
      let z ← (← ev Γ ρ c).asB
      (D.cmp o2 y z).map fun c => .d (.bool c)
    else some (.d (.bool false))
  | .bop op es _ => match op, es with
    | .Or, [a, b] => do
      let x ← (← ev Γ ρ a).asD
      match x with
      | .bool true => some (.d (.bool true))
      | .bool false => ev Γ ρ b
      | _ => none
    | _, _ => none
  | .not _ _ => none
  | .neg i _ _ => some (.d (.int (-i)))
  | .ife t a b _ => do
    let c ← evT Γ ρ t
    if c then ev Γ ρ a else ev Γ ρ b
  | .idx a i _ => do
    let x ← (← ev Γ ρ a).asB
    let y ← (← ev Γ ρ i).asD
    (D.item x y).map .d
  | .slc a lo hi _ _ => do
    let x ← (← ev Γ ρ a).asB
    let l ← evO Γ ρ lo
    let h ← evO Γ ρ hi
    (D.slice x l h).map .d
  | .rev a _ _ _ _ => do
    let x ← (← ev Γ ρ a).asB
    x.rev.map .d
  | .list es _ => do
    let l ← evL Γ ρ es
    (mkL l).map .d
  | .tup es _ _ => do
    let l ← evL Γ ρ es
    if l.length ≤ lim then some (.d (.tup l)) else none
  | .attr a f _ => if a.isName then do
    let x ← (← ev Γ ρ a).asD
    (D.fld f x).map .d
    else none
  | .comp elt gs sc _ => if scOk Γ sc then match gs with
      | .mk t it ifs :: r => do
        let items ← (← ev Γ ρ it).asI
        let l ← evLoop sc t (fun ρ' => do
          let c ← evC (kindsIn Γ sc) ρ' ifs
          if c then evG sc (kindsIn Γ sc) r (fun ρ'' => do (← ev (kindsIn Γ sc) ρ'' elt).asD) ρ' else some []) (ρ.cut sc) items
        (mkL l).map .d
      | [] => none
    else none
  | .dcomp k v gs sc _ => if scOk Γ sc then match gs with
      | [.mk t it []] => do
        let items ← (← ev Γ ρ it).asI
        let l ← evLoop sc t (fun ρ' => do
          let a ← (← ev (kindsIn Γ sc) ρ' k).asD
          let b ← (← ev (kindsIn Γ sc) ρ' v).asD
          some [(a, b)]) (ρ.cut sc) items
        (mkD l).map .d
      | _ => none
    else none
  | .call f es _ _ => do
    let l ← evL Γ ρ es
    if Γ f = some .globalImplicit then (Φ.call f l).map .d else none
  | .callv f es _ _ => match ρ f with
    | some (.fz (.lam id caps)) => do
      let l ← evL Γ ρ es
      match Φ.lam id (caps ++ l) with
      | some d => some (.d d)
      | none => (Φ.gen id (caps ++ l)).map .it
    | _ => none
  | .calle f es _ => if !f.isCall then none else do
    match (← ev Γ ρ f).asD with
    | some (.lam id caps) => do
      let l ← evL Γ ρ es
      match Φ.lam id (caps ++ l) with
      | some d => some (.d d)
      | none => (Φ.gen id (caps ++ l)).map .it
    | _ => none
  | .blt f es _ _ => if Γ f = some .globalImplicit then (match f, es with
      | 5, [e] => do
        let d ← (← ev Γ ρ e).asD
        match d with
        | .int n => if 0 ≤ n ∧ n ≤ lim then some (.it ((List.range n.toNat).map fun (i : Nat) => .int (i : Int))) else none
        | _ => none
      | 4, [e] => do
        match ← ev Γ ρ e with
        | .it l => (mkL l).map .d
        | _ => none
      | f, [e] => do
        let x ← (← ev Γ ρ e).asB
        (D.builtin f [x]).map .d
      | _, _ => none) else none
  | .meth a m es ap p => if a.isBase && ap.endLine == p.line then match es with
    | [e] => do
      let x ← (← ev Γ ρ a).asD
      let y ← (← ev Γ ρ e).asD
      (D.method x m [y]).map .d
    | _ => none
    else none
  | .lam id f _ _ sc _ => if scOk Γ sc ∧ f ≠ 0 ∧ Γ.f = f then do
      let caps ← (freeOf sc).mapM fun x => match ρ x with | some (.sealed d) => some d | _ => none
      some (.d (.lam id caps))
    else none
noncomputable def evL (Γ : Kinds) (ρ : REnv) : List E → Option (List D)
  | [] => some []
  | e :: r => do
    let x ← (← ev Γ ρ e).asD
    let y ← evL Γ ρ r
    some (x :: y)
noncomputable def evO (Γ : Kinds) (ρ : REnv) : Option E → Option (Option D)
  | none => some none
  | some e => do
    let x ← (← ev Γ ρ e).asD
    some (some x)
noncomputable def evT (Γ : Kinds) (ρ : REnv) : E → Option Bool
  | .cmp a op b _ => do
    let x ← (← ev Γ ρ a).asB
    let y ← (← ev Γ ρ b).asB
    D.cmp op x y
  | .cmp2 a o1 b o2 c _ => do
    let x ← (← ev Γ ρ a).asB
    let y ← (← ev Γ ρ b).asB
    let t ← D.cmp o1 x y
    if t then do
      let z ← (← ev Γ ρ c).asB
      D.cmp o2 y z
    else some false
  | .bop op es _ => evB Γ ρ op es
  | .not a _ => do
    let t ← evT Γ ρ a
    some (!t)
  | .name x _ => match ρ x with
    | some (.fz d) => d.truth
    | _ => none
  | .call f es _ _ => do
    let l ← evL Γ ρ es
    if Γ f = some .globalImplicit then (match Φ.call f l with
      | some (.bool b) => some b
      | _ => none) else none
  | _ => none
noncomputable def evB (Γ : Kinds) (ρ : REnv) (op : BoolOp) : List E → Option Bool
  | [] => some (op == .And)
  | e :: r => do
    let t ← evT Γ ρ e
    match op, t with
    | .And, false => some false
    | .Or, true => some true
    | _, _ => evB Γ ρ op r
noncomputable def evC (Γ : Kinds) (ρ : REnv) : List E → Option Bool
  | [] => some true
  | e :: r => do
    let t ← evT Γ ρ e
    if t then evC Γ ρ r else some false
noncomputable def evG (sc : List (Nat × NameKind)) (Γ : Kinds) : List Gn → (REnv → Option D) → REnv → Option (List D)
  | [], emit, ρ => (emit ρ).map fun d => [d]
  | .mk t it ifs :: r, emit, ρ => do
    let items ← (← ev Γ ρ it).asI
    evLoop sc t (fun ρ' => do
      let c ← evC Γ ρ' ifs
      if c then evG sc Γ r emit ρ' else some []) ρ items
end
end
theorem x_py_comp {nm : Nat → Str} {elt gs sc p} : (E.comp elt gs sc p).py nm = .ListComp (elt.py nm) (pyG nm gs) (scOf nm sc) p := rfl
theorem x_py_calle {nm : Nat → Str} {f es p} : (E.calle f es p).py nm = .Call (f.py nm) (pyL nm es) [] p := rfl
section
variable {Φ : Phi} {Γ : Kinds} {ρ : REnv}
theorem x_evL_nil  : evL Φ Γ ρ [] = (some []) := rfl
theorem x_evL_cons {e r} : evL Φ Γ ρ (e :: r) = (do
    let x ← (← ev Φ Γ ρ e).asD
    let y ← evL Φ Γ ρ r
    some (x :: y)) := rfl
theorem x_evO_none  : evO Φ Γ ρ none = (some none) := rfl
theorem x_evO_some {e} : evO Φ Γ ρ (some e) = (do
    let x ← (← ev Φ Γ ρ e).asD
    some (some x)) := rfl
theorem x_evB_nil {op } : evB Φ Γ ρ op [] = (some (op == .And)) := rfl
theorem x_evB_cons {op e r} : evB Φ Γ ρ op (e :: r) = (do
    let t ← evT Φ Γ ρ e
    match op, t with
    | .And, false => some false
    | .Or, true => some true
    | _, _ => evB Φ Γ ρ op r) := rfl
theorem x_evC_nil  : evC Φ Γ ρ [] = (some true) := rfl
theorem x_evC_cons {e r} : evC Φ Γ ρ (e :: r) = (do
    let t ← evT Φ Γ ρ e
    if t then evC Φ Γ ρ r else some false) := rfl
theorem x_evG_nil {sc ρ emit} : evG Φ sc Γ [] emit ρ = ((emit ρ).map fun d => [d]) := rfl
theorem x_evG_cons {sc ρ t it ifs r emit} : evG Φ sc Γ (.mk t it ifs :: r) emit ρ = (do
    let items ← (← ev Φ Γ ρ it).asI
    evLoop sc t (fun ρ' => do
      let c ← evC Φ Γ ρ' ifs
      if c then evG Φ sc Γ r emit ρ' else some []) ρ items) := rfl
theorem x_evLoop_nil {α : Type} {sc t ρ} {body : REnv → Option (List α)} : evLoop sc t body ρ [] = some [] := rfl
theorem x_evLoop_cons {α : Type} {sc t ρ d r} {body : REnv → Option (List α)} : evLoop sc t body ρ (d :: r) = (if t.fit sc ρ then do
    let ρ' ← bindT t d ρ
    let x ← body ρ'
    let y ← evLoop sc t body ρ r
    some (x ++ y)
    else none) := rfl
theorem x_pyL_nil {nm : Nat → Str} : pyL nm [] = [] := rfl
theorem x_pyL_cons {nm : Nat → Str} {e r} : pyL nm (e :: r) = e.py nm :: pyL nm r := rfl
theorem x_ev_int {i u1} : ev Φ Γ ρ (.int i u1) = (some (.d (.int i))) := rfl
theorem x_ev_str {l u1} : ev Φ Γ ρ (.str l u1) = ((mkS l).map .d) := rfl
theorem x_ev_nil {u1} : ev Φ Γ ρ (.nil u1) = (some (.d .nil)) := rfl
theorem x_ev_bool {b u1} : ev Φ Γ ρ (.bool b u1) = (some (.d (.bool b))) := rfl
theorem x_ev_name {x u1} : ev Φ Γ ρ (.name x u1) = (match ρ x with
    | some (.fz d) => some (.d d)
    | some (.sealed d) => some (.d d)
    | some (.own l) => some (.own l)
    | _ => none) := rfl
theorem x_ev_bin {a op b u1} : ev Φ Γ ρ (.bin a op b u1) = (do
    let x ← (← ev Φ Γ ρ a).asB
    let y ← (← ev Φ Γ ρ b).asB
    (D.bin op x y).map .d) := rfl
theorem x_ev_cmp {a op b u1} : ev Φ Γ ρ (.cmp a op b u1) = (do
    let x ← (← ev Φ Γ ρ a).asB
    let y ← (← ev Φ Γ ρ b).asB
    (D.cmp op x y).map fun c => .d (.bool c)) := rfl
theorem x_ev_cmp2 {a o1 b o2 c u1} : ev Φ Γ ρ (.cmp2 a o1 b o2 c u1) = (do
    let x ← (← ev Φ Γ ρ a).asB
    let y ← (← ev Φ Γ ρ b).asB
    let t ← D.cmp o1 x y
    if t then do
      let z ← (← ev Φ Γ ρ c).asB
      (D.cmp o2 y z).map fun c => .d (.bool c)
    else some (.d (.bool false))) := rfl
theorem x_ev_bop {op es u1} : ev Φ Γ ρ (.bop op es u1) = (match op, es with
    | .Or, [a, b] => do
      let x ← (← ev Φ Γ ρ a).asD
      match x with
      | .bool true => some (.d (.bool true))
      | .bool false => ev Φ Γ ρ b
      | _ => none
    | _, _ => none) := by rcases es with _ | ⟨a, _ | ⟨b, _ | ⟨c, r⟩⟩⟩ <;> cases op <;> rfl
theorem x_ev_not {u1 u2} : ev Φ Γ ρ (.not u1 u2) = (none) := rfl
theorem x_ev_neg {i u1 u2} : ev Φ Γ ρ (.neg i u1 u2) = (some (.d (.int (-i)))) := rfl
theorem x_ev_ife {t a b u1} : ev Φ Γ ρ (.ife t a b u1) = (do
    let c ← evT Φ Γ ρ t
    if c then ev Φ Γ ρ a else ev Φ Γ ρ b) := rfl
theorem x_ev_idx {a i u1} : ev Φ Γ ρ (.idx a i u1) = (do
    let x ← (← ev Φ Γ ρ a).asB
    let y ← (← ev Φ Γ ρ i).asD
    (D.item x y).map .d) := rfl
theorem x_ev_slc {a lo hi u1 u2} : ev Φ Γ ρ (.slc a lo hi u1 u2) = (do
    let x ← (← ev Φ Γ ρ a).asB
    let l ← evO Φ Γ ρ lo
    let h ← evO Φ Γ ρ hi
    (D.slice x l h).map .d) := rfl
theorem x_ev_rev {a u1 u2 u3 u4} : ev Φ Γ ρ (.rev a u1 u2 u3 u4) = (do
    let x ← (← ev Φ Γ ρ a).asB
    x.rev.map .d) := rfl
theorem x_ev_list {es u1} : ev Φ Γ ρ (.list es u1) = (do
    let l ← evL Φ Γ ρ es
    (mkL l).map .d) := rfl
theorem x_ev_tup {es u1 u2} : ev Φ Γ ρ (.tup es u1 u2) = (do
    let l ← evL Φ Γ ρ es
    if l.length ≤ lim then some (.d (.tup l)) else none) := rfl
theorem x_ev_attr {a f u1} : ev Φ Γ ρ (.attr a f u1) = (if a.isName then do
    let x ← (← ev Φ Γ ρ a).asD
    (D.fld f x).map .d
    else none) := rfl
theorem x_ev_comp {elt gs sc u1} : ev Φ Γ ρ (.comp elt gs sc u1) = (if scOk Γ sc then match gs with
      | .mk t it ifs :: r => do
        let items ← (← ev Φ Γ ρ it).asI
        let l ← evLoop sc t (fun ρ' => do
          let c ← evC Φ (kindsIn Γ sc) ρ' ifs
          if c then evG Φ sc (kindsIn Γ sc) r (fun ρ'' => do (← ev Φ (kindsIn Γ sc) ρ'' elt).asD) ρ' else some []) (ρ.cut sc) items
        (mkL l).map .d
      | [] => none
    else none) := by rcases gs with _ | ⟨⟨t, it, ifs⟩, r⟩ <;> rfl
theorem x_ev_dcomp {k v gs sc u1} : ev Φ Γ ρ (.dcomp k v gs sc u1) = (if scOk Γ sc then match gs with
      | [.mk t it []] => do
        let items ← (← ev Φ Γ ρ it).asI
        let l ← evLoop sc t (fun ρ' => do
          let a ← (← ev Φ (kindsIn Γ sc) ρ' k).asD
          let b ← (← ev Φ (kindsIn Γ sc) ρ' v).asD
          some [(a, b)]) (ρ.cut sc) items
        (mkD l).map .d
      | _ => none
    else none) := by rcases gs with _ | ⟨⟨t, it, _ | ⟨a, b⟩⟩, _ | ⟨g, r⟩⟩ <;> rfl
theorem x_ev_call {f es u1 u2} : ev Φ Γ ρ (.call f es u1 u2) = (do
    let l ← evL Φ Γ ρ es
    if Γ f = some .globalImplicit then (Φ.call f l).map .d else none) := rfl
theorem x_ev_callv {f es u1 u2} : ev Φ Γ ρ (.callv f es u1 u2) = (match ρ f with
    | some (.fz (.lam id caps)) => do
      let l ← evL Φ Γ ρ es
      match Φ.lam id (caps ++ l) with
      | some d => some (.d d)
      | none => (Φ.gen id (caps ++ l)).map .it
    | _ => none) := rfl
theorem x_ev_calle {f es u1} : ev Φ Γ ρ (.calle f es u1) = (if !f.isCall then none else do
    match (← ev Φ Γ ρ f).asD with
    | some (.lam id caps) => do
      let l ← evL Φ Γ ρ es
      match Φ.lam id (caps ++ l) with
      | some d => some (.d d)
      | none => (Φ.gen id (caps ++ l)).map .it
    | _ => none) := rfl
theorem x_ev_blt {f es u1 u2} : ev Φ Γ ρ (.blt f es u1 u2) = (if Γ f = some .globalImplicit then (match f, es with
      | 5, [e] => do
        let d ← (← ev Φ Γ ρ e).asD
        match d with
        | .int n => if 0 ≤ n ∧ n ≤ lim then some (.it ((List.range n.toNat).map fun (i : Nat) => .int (i : Int))) else none
        | _ => none
      | 4, [e] => do
        match ← ev Φ Γ ρ e with
        | .it l => (mkL l).map .d
        | _ => none
      | f, [e] => do
        let x ← (← ev Φ Γ ρ e).asB
        (D.builtin f [x]).map .d
      | _, _ => none) else none) := by rcases es with _ | ⟨e, _ | ⟨e2, r⟩⟩ <;> rcases f with _ | _ | _ | _ | _ | _ | f <;> rfl
theorem x_ev_meth {a m es ap p} : ev Φ Γ ρ (.meth a m es ap p) = (if a.isBase && ap.endLine == p.line then match es with
    | [e] => do
      let x ← (← ev Φ Γ ρ a).asD
      let y ← (← ev Φ Γ ρ e).asD
      (D.method x m [y]).map .d
    | _ => none
    else none) := by rcases es with _ | ⟨e, _ | ⟨e2, r⟩⟩ <;> rfl
theorem x_ev_lam {id f u1 u2 sc u3} : ev Φ Γ ρ (.lam id f u1 u2 sc u3) = (if scOk Γ sc ∧ f ≠ 0 ∧ Γ.f = f then do
      let caps ← (freeOf sc).mapM fun x => match ρ x with | some (.sealed d) => some d | _ => none
      some (.d (.lam id caps))
    else none) := rfl
theorem x_evT_cmp {a op b u1} : evT Φ Γ ρ (.cmp a op b u1) = (do
    let x ← (← ev Φ Γ ρ a).asB
    let y ← (← ev Φ Γ ρ b).asB
    D.cmp op x y) := rfl
theorem x_evT_cmp2 {a o1 b o2 c u1} : evT Φ Γ ρ (.cmp2 a o1 b o2 c u1) = (do
    let x ← (← ev Φ Γ ρ a).asB
    let y ← (← ev Φ Γ ρ b).asB
    let t ← D.cmp o1 x y
    if t then do
      let z ← (← ev Φ Γ ρ c).asB
      D.cmp o2 y z
    else some false) := rfl
theorem x_evT_bop {op es u1} : evT Φ Γ ρ (.bop op es u1) = (evB Φ Γ ρ op es) := rfl
theorem x_evT_not {a u1} : evT Φ Γ ρ (.not a u1) = (do
    let t ← evT Φ Γ ρ a
    some (!t)) := rfl
theorem x_evT_name {x u1} : evT Φ Γ ρ (.name x u1) = (match ρ x with
    | some (.fz d) => d.truth
    | _ => none) := rfl
theorem x_evT_call {f es u1 u2} : evT Φ Γ ρ (.call f es u1 u2) = (do
    let l ← evL Φ Γ ρ es
    if Γ f = some .globalImplicit then (match Φ.call f l with
      | some (.bool b) => some b
      | _ => none) else none) := rfl
theorem x_ev_blt5 {e u1 u2} : ev Φ Γ ρ (.blt 5 [e] u1 u2) = (if Γ 5 = some .globalImplicit then (do
        let d ← (← ev Φ Γ ρ e).asD
        match d with
        | .int n => if 0 ≤ n ∧ n ≤ lim then some (.it ((List.range n.toNat).map fun (i : Nat) => .int (i : Int))) else none
        | _ => none) else none) := rfl
theorem x_ev_blt4 {e u1 u2} : ev Φ Γ ρ (.blt 4 [e] u1 u2) = (if Γ 4 = some .globalImplicit then (do
        match ← ev Φ Γ ρ e with
        | .it l => (mkL l).map .d
        | _ => none) else none) := rfl
theorem x_ev_bltg {f e u1 u2} (h4 : f ≠ 4) (h5 : f ≠ 5) : ev Φ Γ ρ (.blt f [e] u1 u2) = if Γ f = some .globalImplicit then (do let x ← (← ev Φ Γ ρ e).asB; (D.builtin f [x]).map .d) else none := by
  rw [x_ev_blt]; rcases f with _ | _ | _ | _ | _ | _ | f <;> first | rfl | exact absurd rfl h4 | exact absurd rfl h5
theorem x_ev_blt_no {f es u1 u2} (h : ∀ e, es ≠ [e]) : ev Φ Γ ρ (.blt f es u1 u2) = none := by
  rcases es with _ | ⟨e, _ | ⟨e2, r⟩⟩
  · rw [x_ev_blt]; rcases f with _ | _ | _ | _ | _ | _ | f <;> exact ite_self none
  · exact absurd rfl (h e)
  · rw [x_ev_blt]; rcases f with _ | _ | _ | _ | _ | _ | f <;> exact ite_self none
theorem x_ev_meth1 {a m e ap p} : ev Φ Γ ρ (.meth a m [e] ap p) = (if a.isBase && ap.endLine == p.line then (do
      let x ← (← ev Φ Γ ρ a).asD
      let y ← (← ev Φ Γ ρ e).asD
      (D.method x m [y]).map .d)
    else none) := rfl
theorem x_ev_bop2 {a b u1} : ev Φ Γ ρ (.bop .Or [a, b] u1) = (do
      let x ← (← ev Φ Γ ρ a).asD
      match x with
      | .bool true => some (.d (.bool true))
      | .bool false => ev Φ Γ ρ b
      | _ => none) := rfl
theorem x_ev_comp1 {elt t it ifs r sc u1} : ev Φ Γ ρ (.comp elt (.mk t it ifs :: r) sc u1) = (if scOk Γ sc then (do
        let items ← (← ev Φ Γ ρ it).asI
        let l ← evLoop sc t (fun ρ' => do
          let c ← evC Φ (kindsIn Γ sc) ρ' ifs
          if c then evG Φ sc (kindsIn Γ sc) r (fun ρ'' => do (← ev Φ (kindsIn Γ sc) ρ'' elt).asD) ρ' else some []) (ρ.cut sc) items
        (mkL l).map .d)
    else none) := rfl
theorem x_ev_dcomp1 {k v t it sc u1} : ev Φ Γ ρ (.dcomp k v [.mk t it []] sc u1) = (if scOk Γ sc then (do
        let items ← (← ev Φ Γ ρ it).asI
        let l ← evLoop sc t (fun ρ' => do
          let a ← (← ev Φ (kindsIn Γ sc) ρ' k).asD
          let b ← (← ev Φ (kindsIn Γ sc) ρ' v).asD
          some [(a, b)]) (ρ.cut sc) items
        (mkD l).map .d)
    else none) := rfl
end
end Mine
namespace Mine
variable {B : Bs}
noncomputable def bltVal : Nat → Option Value := tabN [(0, .builtin "len"), (1, .builtin "chr"), (2, .builtin "ord"), (3, .builtin "sorted"), (4, .type "list"), (5, .type "range"), (6, .builtin "isinstance"), (7, .type "str"), (8, .type "set"), (9, .builtin "min")]
noncomputable def mName : Nat → Option String := tabN [(10, "find"), (11, "split"), (12, "join"), (13, "replace"), (14, "translate"), (15, "endswith"), (16, "append"), (17, "extend"), (18, "pop")]
structure Bs.Ok (B : Bs) : Prop where
  inj : ∀ x y, B.nm x = B.nm y → x = y
  tilow : ∀ b, B.T b → b < B.h₀.objs.size
  hd : ∀ f c P, B.CT f = some (c, P) → CodeHd B.h₀ c P ∧ ¬ B.T c ∧ mainGlobals ≠ P ∧ B.h₀.BuiltinsAt B.mg P ∧ (∀ bm, B.mg "__builtins__" = some (.ref bm) → ¬ B.T bm)
  ctinj : ∀ f f' c c' P, B.CT f = some (c, P) → B.CT f' = some (c', P) → f = f' ∧ c = c'
  g : B.h₀.Ns mainGlobals B.mg
  b : B.h₀.Ns builtinsNs B.mb
  gT : ¬ B.T mainGlobals
  bT : ¬ B.T builtinsNs
  nolimit : B.h₀.NoLimit
  csT : ¬ B.T cStatics
  sysm : sysModules < B.h₀.objs.size
  blts : ∀ f v, bltVal f = some v → B.mg (B.nm f) = none ∧ B.mb (B.nm f) = some v
  mnm : ∀ m x, mName m = some x → B.nm m = Str.ofString x
  dbg : ∀ x, (B.nm x == ("__debug__" : Str)) = false
  cld : ∀ x, (B.nm x == ("__classdict__" : Str)) = false
  attr : ∀ (A : Around) (s : Shared) (a dx : Addr) (n : Nat) (ns : List Nat) (ts : List Tok) (dv : List Value) (f : Nat) (v : Value) (E : Value → Shared → Prop) (Q : Value → Shared → Prop), Good B s → s.heap.get? a = some (instObj B.C dx) →
    s.heap.get? dx = some { cls := .type "dict", dict := none, data := .dict (ents B.w.params ((ns.zip ts).map fun p => Value.str (B.nm p.1) p.2) dv).toArray n, slots := #[] } → ts.length = ns.length → dv.length = ns.length →
    ((ns.zip dv).find? fun q => q.1 == f) = some (f, v) → (f = 19 ∨ f = 20 ∨ f = 21) → handedIn v = true → (∀ t, Q v { s with toks := t }) → wpAny B.M A (getAttr (.ref a) (B.nm f) true) Q E s
theorem CodeOf.keep {h h' : Heap} {v : Value} {q : Str} (x : CodeOf h v q) (k : ∀ b o, isCodeO o → h.get? b = some o → h'.get? b = some o) : CodeOf h' v q :=
  let ⟨c, o, vs, t, e, g, ic, d, r⟩ := x; ⟨c, o, vs, t, e, k c o ic g, ic, d, r⟩
theorem Bs.Ok.tikeep (O : B.Ok) (h h' : Heap) (x : B.TI h) (k : ∀ b o, (B.T b ∨ isCodeO o) → h.get? b = some o → h'.get? b = some o) : B.TI h' := by
  intro f c P e
  obtain ⟨ps, h1, h2, h3⟩ := x f c P e
  exact ⟨ps, k _ _ (.inl ⟨f, c, e⟩) h1, h2, fun pos v q => (h3 pos v q).keep fun b o ic => k b o (.inr ic)⟩
theorem Bs.Ok.lamkeep (O : B.Ok) (id : Nat) (cv : List Value) (h : Heap) (W : Addr → Prop) (a : Addr) (h' : Heap) (W' : Addr → Prop) (x : B.Lam id cv h W a) (k : ∀ b o, (¬ W b ∨ isCodeO o) → h.get? b = some o → h'.get? b = some o) (kW : ∀ b, W' b → W b ∨ h.get? b = none) : B.Lam id cv h' W' a := by
  obtain ⟨L, fo, fd, e, g, d, nw, l⟩ := x
  refine ⟨L, fo, fd, e, k _ _ (.inl nw) g, d, fun q => (kW a q).elim nw fun z => (by rw [g] at z; exact nomatch z), l.params, l.body, l.scope, l.glob, l.blt, l.dfl, l.qual, l.code.keep fun b o ic => k b o (.inr ic), l.len, l.only, l.keys, l.nms, l.apart, fun i x v h1 h2 => ?_⟩
  obtain ⟨c, h3, h4, o, h5, h6⟩ := l.cells i x v h1 h2
  exact ⟨c, h3, fun q => (kW c q).elim h4 fun z => (by rw [h5] at z; exact nomatch z), o, k _ _ (.inl h4) h5, h6⟩
theorem Bs.Ok.lamthere (O : B.Ok) (id : Nat) (cv : List Value) (h : Heap) (W : Addr → Prop) (a : Addr) (x : B.Lam id cv h W a) : (h.get? a).isSome := by
  obtain ⟨L, fo, fd, e, g, _⟩ := x
  rw [g]; rfl
theorem Bs.Ok.lamfun (O : B.Ok) (id : Nat) (cv : List Value) (h : Heap) (W : Addr → Prop) (a : Addr) (x : B.Lam id cv h W a) : ∃ fo fd, h.get? a = some fo ∧ fo.data = .func fd := by
  obtain ⟨L, fo, fd, e, g, d, _⟩ := x
  exact ⟨fo, fd, g, d⟩
section
variable (O : B.Ok)
include O
mutual
theorem Rep.move {h h' : Heap} {W W' : Addr → Prop} (k : ∀ b o, (¬ W b ∨ isCodeO o) → h.get? b = some o → h'.get? b = some o) (kW : ∀ b, W' b → W b ∨ h.get? b = none) : ∀ (d : D) (v : Value), Rep B h W d v → Rep B h' W' d v
  | .nil, _, r => r
  | .bool _, _, r => r
  | .int _, _, r => r
  | .str _, _, r => r
  | .list ds, v, r => by
    simp only [Rep] at r ⊢
    obtain ⟨a, vs, n, e, hw, hg, hl, ha⟩ := r
    exact ⟨a, vs, n, e, fun q => (kW a q).elim hw fun z => (by rw [hg] at z; exact nomatch z), k a _ (.inl hw) hg, hl, RepAll.move k kW ds _ ha⟩
  | .tup ds, v, r => by
    simp only [Rep] at r ⊢
    obtain ⟨a, vs, n, e, hw, hg, hl, ha⟩ := r
    exact ⟨a, vs, n, e, fun q => (kW a q).elim hw fun z => (by rw [hg] at z; exact nomatch z), k a _ (.inl hw) hg, hl, RepAll.move k kW ds _ ha⟩
  | .dict ks ds, v, r => by
    simp only [Rep] at r ⊢
    obtain ⟨a, xs, dv, e, hw, hs, ⟨o, es, ep, hg, rest⟩, hk, hl, hlim, h2⟩ := r
    exact ⟨a, xs, dv, e, fun q => (kW a q).elim hw fun z => (by rw [hg] at z; exact nomatch z), hs, ⟨o, es, ep, k a _ (.inl hw) hg, rest⟩, hk, hl, hlim, RepAll.move k kW ds _ h2⟩
  | .thing ns ds, v, r => by
    simp only [Rep] at r ⊢
    obtain ⟨a, dx, n, ts, dv, e, hw, hg, hw2, hg2, h1, h2, h3⟩ := r
    exact ⟨a, dx, n, ts, dv, e, fun q => (kW a q).elim hw fun z => (by rw [hg] at z; exact nomatch z), k a _ (.inl hw) hg, fun q => (kW dx q).elim hw2 fun z => (by rw [hg2] at z; cases z), k dx _ (.inl hw2) hg2, h1, h2, RepAll.move k kW ds _ h3⟩
  | .lam id caps, v, r => by
    simp only [Rep] at r ⊢
    obtain ⟨a, cv, e, hw, hl, hc⟩ := r
    refine ⟨a, cv, e, fun q => (kW a q).elim hw fun z => ?_, O.lamkeep _ _ _ _ _ _ _ hl k kW, RepAll.move k kW caps _ hc⟩
    have := O.lamthere _ _ _ _ _ hl
    rw [z] at this; cases this
theorem RepAll.move {h h' : Heap} {W W' : Addr → Prop} (k : ∀ b o, (¬ W b ∨ isCodeO o) → h.get? b = some o → h'.get? b = some o) (kW : ∀ b, W' b → W b ∨ h.get? b = none) : ∀ (ds : List D) (vs : List Value), RepAll B h W ds vs → RepAll B h' W' ds vs
  | [], _, r => r
  | d :: ds, vs, r => by
    simp only [RepAll] at r ⊢
    obtain ⟨v, t, e, h1, h2⟩ := r
    exact ⟨v, t, e, Rep.move k kW d v h1, RepAll.move k kW ds t h2⟩
end
end
theorem RepAll.length {h : Heap} {W : Addr → Prop} : ∀ {ds : List D} {vs : List Value}, RepAll B h W ds vs → vs.length = ds.length
  | [], _, r => by simp only [RepAll] at r; subst r; rfl
  | d :: ds, vs, r => by
    simp only [RepAll] at r
    obtain ⟨v, t, rfl, _, h2⟩ := r
    rw [List.length_cons, List.length_cons, RepAll.length h2]
theorem RepAll.nil {h : Heap} {W : Addr → Prop} : RepAll B h W [] [] := by simp [RepAll]
theorem RepAll.cons {h : Heap} {W : Addr → Prop} {d : D} {ds : List D} {v : Value} {vs : List Value} (a : Rep B h W d v) (b : RepAll B h W ds vs) : RepAll B h W (d :: ds) (v :: vs) := by
  simp only [RepAll]; exact ⟨v, vs, rfl, a, b⟩
theorem RepAll.append {h : Heap} {W : Addr → Prop} : ∀ {ds es : List D} {vs us : List Value}, RepAll B h W ds vs → RepAll B h W es us → RepAll B h W (ds ++ es) (vs ++ us)
  | [], _, _, _, r, q => by simp only [RepAll] at r; subst r; exact q
  | d :: ds, es, vs, us, r, q => by
    simp only [RepAll] at r
    obtain ⟨v, t, rfl, h1, h2⟩ := r
    exact RepAll.cons h1 (RepAll.append h2 q)
theorem RepAll.get {h : Heap} {W : Addr → Prop} : ∀ {ds : List D} {vs : List Value} {i : Nat} {d : D}, RepAll B h W ds vs → ds[i]? = some d → ∃ v, vs[i]? = some v ∧ Rep B h W d v
  | [], _, _, _, _, e => by simp at e
  | d :: ds, vs, 0, d', r, e => by
    simp only [RepAll] at r
    obtain ⟨v, t, rfl, h1, h2⟩ := r
    simp only [List.getElem?_cons_zero, Option.some.injEq] at e
    subst e
    exact ⟨v, rfl, h1⟩
  | d :: ds, vs, i + 1, d', r, e => by
    simp only [RepAll] at r
    obtain ⟨v, t, rfl, h1, h2⟩ := r
    exact RepAll.get (i := i) h2 (by simpa using e)
theorem RepAll.drop {h : Heap} {W : Addr → Prop} : ∀ {ds : List D} {vs : List Value} (k : Nat), RepAll B h W ds vs → RepAll B h W (ds.drop k) (vs.drop k)
  | _, _, 0, r => by simpa using r
  | [], vs, k + 1, r => by simp only [RepAll] at r; subst r; simp [RepAll]
  | d :: ds, vs, k + 1, r => by
    simp only [RepAll] at r
    obtain ⟨v, t, rfl, h1, h2⟩ := r
    simpa using RepAll.drop k h2
theorem RepAll.take {h : Heap} {W : Addr → Prop} : ∀ {ds : List D} {vs : List Value} (k : Nat), RepAll B h W ds vs → RepAll B h W (ds.take k) (vs.take k)
  | _, _, 0, _ => by simp [RepAll]
  | [], vs, k + 1, r => by simp only [RepAll] at r; subst r; simp [RepAll]
  | d :: ds, vs, k + 1, r => by
    simp only [RepAll] at r
    obtain ⟨v, t, rfl, h1, h2⟩ := r
    exact RepAll.cons h1 (RepAll.take k h2)
theorem RepAll.reverse {h : Heap} {W : Addr → Prop} : ∀ {ds : List D} {vs : List Value}, RepAll B h W ds vs → RepAll B h W ds.reverse vs.reverse
  | [], _, r => by simp only [RepAll] at r; subst r; simp [RepAll]
  | d :: ds, vs, r => by
    simp only [RepAll] at r
    obtain ⟨v, t, rfl, h1, h2⟩ := r
    rw [List.reverse_cons, List.reverse_cons]
    exact RepAll.append (RepAll.reverse h2) (RepAll.cons h1 RepAll.nil)
theorem Rep.handed {h : Heap} {W : Addr → Prop} {d : D} {v : Value} (r : Rep B h W d v) : handedIn v = true := by
  cases d <;> simp only [Rep] at r
  case nil => subst r; rfl
  case bool => subst r; rfl
  case int => obtain ⟨_, rfl⟩ := r; rfl
  case str => obtain ⟨⟨_, rfl⟩, _⟩ := r; rfl
  case list => obtain ⟨_, _, _, rfl, _⟩ := r; rfl
  case tup => obtain ⟨_, _, _, rfl, _⟩ := r; rfl
  case dict => obtain ⟨_, _, _, rfl, _⟩ := r; rfl
  case thing => obtain ⟨_, _, _, _, _, rfl, _⟩ := r; rfl
  case lam => obtain ⟨_, _, rfl, _⟩ := r; rfl
theorem rep_i {h : Heap} {W : Addr → Prop} {i : Int} {t : Tok} : Rep B h W (.int i) (.int i t) := ⟨t, rfl⟩
theorem rep_s {h : Heap} {W : Addr → Prop} {l : List Nat} {t : Tok} (hl : l.length ≤ lim) : Rep B h W (.str l) (.str ⟨l.toArray⟩ t) := ⟨⟨t, rfl⟩, hl⟩
theorem intE {h : Heap} {W : Addr → Prop} {i : Int} {v : Value} (r : Rep B h W (.int i) v) : ∃ t, v = .int i t := r
theorem strE {h : Heap} {W : Addr → Prop} {l : List Nat} {v : Value} (r : Rep B h W (.str l) v) : ∃ t, v = .str ⟨l.toArray⟩ t ∧ l.length ≤ lim := let ⟨⟨t, e⟩, hl⟩ := r; ⟨t, e, hl⟩
theorem Eff.refl (s : Shared) : Eff B s s := ⟨fun _ _ _ e => e, fun _ _ _ e => e, Nat.le_refl _, id, fun _ _ e => e, id, rfl⟩
theorem Eff.trans {s s' s'' : Shared} (a : Eff B s s') (b : Eff B s' s'') : Eff B s s'' :=
  ⟨fun x o t e => b.keep x o t (a.keep x o t e), fun x o t e => b.ck x o t (a.ck x o t e), Nat.le_trans a.size b.size, fun t => b.ti (a.ti t), fun i x e => b.gens i x (a.gens i x e), fun t => b.bare (a.bare t), b.os.trans a.os⟩
theorem Eff.toks {s : Shared} (t : Nat) : Eff B s { s with toks := t } := ⟨fun _ _ _ e => e, fun _ _ _ e => e, Nat.le_refl _, id, fun _ _ e => e, id, rfl⟩
theorem Eff.heap (O : B.Ok) {s : Shared} {h' : Heap} (t : Nat) (k : ∀ b o, s.heap.get? b = some o → h'.get? b = some o) (hs : s.heap.objs.size ≤ h'.objs.size) : Eff B s { s with heap := h', toks := t } :=
  ⟨fun b o _ e => k b o e, fun b o _ e => k b o e, hs, fun x => O.tikeep _ _ x fun b o _ e => k b o e, fun _ _ e => e, id, rfl⟩
theorem Eff.push (O : B.Ok) {s : Shared} (o : Obj) (t : Nat) : Eff B s { s with heap := s.heap.push o, toks := t } :=
  Eff.heap O t (fun _ _ e => Heap.get?_push_of_some o e) (by rw [Heap.size_push]; lia)
theorem Eff.kW {s s' : Shared} {W : Addr → Prop} (e : Eff B s s') (tW : ∀ b, B.T b → W b) : ∀ b o, (¬ W b ∨ isCodeO o) → s.heap.get? b = some o → s'.heap.get? b = some o :=
  fun b o n q => n.elim (fun n => e.keep b o (fun t => n (tW b t)) q) fun n => e.ck b o n q
theorem Good.move {s s' : Shared} (g : Good B s) (e : Eff B s s') : Good B s' :=
  ⟨fun b o t x => e.keep b o t (g.base b o t x), Nat.le_trans g.size e.size, e.ti g.ti⟩
theorem Rep.eff (O : B.Ok) {s s' : Shared} {W : Addr → Prop} {d : D} {v : Value} (tW : ∀ b, B.T b → W b) (r : Rep B s.heap W d v) (e : Eff B s s') : Rep B s'.heap W d v :=
  Rep.move O (e.kW tW) (fun _ q => .inl q) d v r
theorem RepAll.eff (O : B.Ok) {s s' : Shared} {W : Addr → Prop} {d : List D} {v : List Value} (tW : ∀ b, B.T b → W b) (r : RepAll B s.heap W d v) (e : Eff B s s') : RepAll B s'.heap W d v :=
  RepAll.move O (e.kW tW) (fun _ q => .inl q) d v r
theorem Rep.less (O : B.Ok) {h : Heap} {W W' : Addr → Prop} {d : D} {v : Value} (r : Rep B h W d v) (k : ∀ b, W' b → W b) : Rep B h W' d v :=
  Rep.move O (fun _ _ _ x => x) (fun b q => .inl (k b q)) d v r
theorem RepAll.less (O : B.Ok) {h : Heap} {W W' : Addr → Prop} {d : List D} {v : List Value} (r : RepAll B h W d v) (k : ∀ b, W' b → W b) : RepAll B h W' d v :=
  RepAll.move O (fun _ _ _ x => x) (fun b q => .inl (k b q)) d v r
theorem Heap.Ns.moved {h h' : Heap} {a : Addr} {m : Str → Option Value} (n : h.Ns a m) (k : ∀ o, h.get? a = some o → h'.get? a = some o) : h'.Ns a m :=
  let ⟨o, es, ep, e, r⟩ := n; ⟨o, es, ep, k _ e, r⟩
theorem Heap.IsCell.moved {h h' : Heap} {a : Addr} {v : Option Value} (n : h.IsCell a v) (k : ∀ o, h.get? a = some o → h'.get? a = some o) : h'.IsCell a v :=
  let ⟨o, e, r⟩ := n; ⟨o, k _ e, r⟩
theorem Ns.uniq {h : Heap} {a : Addr} {m m' : Str → Option Value} (n : h.Ns a m) (n' : h.Ns a m') : m = m' := by
  obtain ⟨o, es, ep, e, hd, _, hm⟩ := n
  obtain ⟨o', es', ep', e', hd', _, hm'⟩ := n'
  obtain rfl := Option.some.inj (e.symm.trans e')
  rw [hd] at hd'; cases hd'
  funext x; rw [← hm, ← hm']
theorem IsCell.uniq {h : Heap} {a : Addr} {m m' : Option Value} (n : h.IsCell a m) (n' : h.IsCell a m') : m = m' := by
  obtain ⟨o, e, hd⟩ := n
  obtain ⟨o', e', hd'⟩ := n'
  obtain rfl := Option.some.inj (e.symm.trans e')
  rw [hd] at hd'; cases hd'; rfl
theorem Loc.uniq {pe : Env} {h : Heap} {x : Nat} {v v' : Value} (l : Loc B pe h x v) (l' : Loc B pe h x v') : v = v' := by
  rcases l with ⟨k, m, n, e⟩ | ⟨k, c, e, hc⟩ <;> rcases l' with ⟨k', m', n', e'⟩ | ⟨k', c', e', hc'⟩
  · rw [Ns.uniq n n'] at e; obtain rfl := Option.some.inj (e.symm.trans e'); rfl
  · rw [k] at k'; rcases k' with k' | k' <;> cases k'
  · rw [k'] at k; rcases k with k | k <;> cases k
  · obtain rfl := Option.some.inj (e.symm.trans e')
    have := IsCell.uniq hc hc'; obtain rfl := Option.some.inj this; rfl
section
variable {Γ : Kinds} {Wc W : Addr → Prop} {pe : Env} {ρ : REnv} {s s' : Shared}
theorem Ctx.cellT (X : Ctx B Γ Wc W pe ρ s) {x : Nat} {c : Addr} (e : pe.cells.lookup (B.nm x) = some c) : ¬ B.T c := by
  rcases X.cellW x c e with q | q
  · obtain ⟨c', e', hw⟩ := X.sealedW x q
    obtain rfl := Option.some.inj (e.symm.trans e')
    exact fun t => hw (X.cW _ (X.tW _ t))
  · exact fun t => q.2 (X.tW _ t)
theorem Ctx.locmove (X : Ctx B Γ Wc W pe ρ s) (e : Eff B s s') {x : Nat} {v : Value} (l : Loc B pe s.heap x v) : Loc B pe s'.heap x v := by
  rcases l with ⟨k, m, n, q⟩ | ⟨k, c, q, hc⟩
  · exact .inl ⟨k, m, Heap.Ns.moved n fun o y => e.keep _ _ (fun t => X.locW.2 (X.tW _ t)) y, q⟩
  · exact .inr ⟨k, c, q, Heap.IsCell.moved hc fun o y => e.keep _ _ (X.cellT q) y⟩
theorem Ctx.move (O : B.Ok) (X : Ctx B Γ Wc W pe ρ s) (e : Eff B s s') : Ctx B Γ Wc W pe ρ s' where
  good := X.good.move e
  fn := X.fn
  glob := X.glob
  blt := X.blt
  tW := X.tW
  cW := X.cW
  wlt := fun b q => Nat.lt_of_lt_of_le (X.wlt b q) e.size
  loc := let ⟨m, n⟩ := X.loc; ⟨m, Heap.Ns.moved n fun o y => e.keep _ _ (fun t => X.locW.2 (X.tW _ t)) y⟩
  locW := X.locW
  ow := X.ow
  code := X.code
  kinds := X.kinds
  cells := fun x c q => let ⟨⟨v, hv⟩, ht⟩ := X.cells x c q; ⟨⟨v, Heap.IsCell.moved hv fun o y => e.keep _ _ ht y⟩, ht⟩
  apart := X.apart
  cellW := X.cellW
  vars := fun x en q => by
    obtain ⟨v, l, r⟩ := X.vars x en q
    refine ⟨v, X.locmove e l, ?_⟩
    cases en with
    | fz d => exact Rep.eff O (fun b t => X.cW _ (X.tW _ t)) r e
    | sealed d => exact Rep.eff O (fun b t => X.cW _ (X.tW _ t)) r e
    | own l =>
      obtain ⟨a, vs, n, rfl, hw, hc, hg, hl, ha⟩ := r
      exact ⟨a, vs, n, rfl, hw, hc, e.keep _ _ (fun t => hc (X.tW _ t)) hg, hl, RepAll.eff O (fun b t => X.cW _ (X.tW _ t)) ha e⟩
    | ownD ks =>
      obtain ⟨a, rfl, hw, hc, hnl, hs, hd⟩ := r
      exact ⟨a, rfl, hw, hc, hnl, hs, PySem.Heap.DictOf.at hd fun o q => e.keep _ _ (fun t => hc (X.tW _ t)) q⟩
  sealedW := X.sealedW
  owns := fun x y l l' a hx hy h1 h2 => by
    obtain ⟨v, lx, _⟩ := X.vars x _ hx
    obtain ⟨v', ly, _⟩ := X.vars y _ hy
    have e1 := Loc.uniq h1 (X.locmove e lx)
    have e2 := Loc.uniq h2 (X.locmove e ly)
    subst e1; subst e2
    exact X.owns x y l l' a hx hy lx ly
end
end Mine
namespace Mine
variable {B : Bs} {K : Nat}
inductive SeqB (h : Heap) (len : Nat) (v : Value) (P : List Value → Prop) : Prop
  | mk (a : Addr) (vs : Array Value) (n : Nat) (e : v = .ref a) (g : h.get? a = some { cls := .type "list", dict := none, data := .seq vs n, slots := #[] }) (l : len ≤ lim) (r : P vs.toList)
noncomputable def RepB (B : Bs) (h : Heap) (W : Addr → Prop) (d : D) (v : Value) : Prop := match d with
  | .list ds => SeqB h ds.length v (RepAll B h W ds)
  | d => Rep B h W d v
theorem Rep.b {h : Heap} {W : Addr → Prop} {d : D} {v : Value} (r : Rep B h W d v) : RepB B h W d v := by
  cases d with
  | list ds => simp only [Rep] at r; obtain ⟨a, vs, n, e, _, g, l, q⟩ := r; exact ⟨a, vs, n, e, g, l, q⟩
  | _ => exact r
theorem intB {h : Heap} {W : Addr → Prop} {i : Int} {v : Value} (r : RepB B h W (.int i) v) : ∃ t, v = .int i t := r
theorem strB {h : Heap} {W : Addr → Prop} {l : List Nat} {v : Value} (r : RepB B h W (.str l) v) : ∃ t, v = .str ⟨l.toArray⟩ t ∧ l.length ≤ lim := strE (B := B) (h := h) (W := W) r
theorem RepB.eff (O : B.Ok) {s s' : Shared} {W : Addr → Prop} {d : D} {v : Value} (tW : ∀ b, B.T b → W b) (hT : ∀ a, v = .ref a → ¬ B.T a) (r : RepB B s.heap W d v) (e : Eff B s s') : RepB B s'.heap W d v := by
  cases d with
  | list ds =>
    obtain ⟨a, vs, n, rfl, g, l, ra⟩ := r
    exact ⟨a, vs, n, rfl, e.keep _ _ (hT a rfl) g, l, RepAll.eff O tW ra e⟩
  | _ => exact Rep.eff O tW r e
structure Pv where
  a : Addr → Prop
  g : Nat → Prop
structure EffP (B : Bs) (p : Pv) (s s' : Shared) : Prop where
  keep : ∀ b o, ¬ B.T b → ¬ p.a b → s.heap.get? b = some o → s'.heap.get? b = some o
  ck : ∀ b o, isCodeO o → s.heap.get? b = some o → s'.heap.get? b = some o
  size : s.heap.objs.size ≤ s'.heap.objs.size
  ti : B.TI s.heap → B.TI s'.heap
  gens : ∀ (i : Nat) (x : GenState), ¬ p.g i → s.gens[i]? = some x → s'.gens[i]? = some x
  gsize : s.gens.size ≤ s'.gens.size
  bare : AllBare s.gens → AllBare s'.gens
  os : s'.os = s.os
noncomputable def okTy (T : String) : Bool := ["list_iterator", "tuple_iterator", "str_iterator", "str_ascii_iterator", "range_iterator", "generator"].contains T
structure IterOk (B : Bs) (K : Nat) (F : Addr → Prop) (it : Addr) (I : List D → Pv → Shared → Prop) : Prop where
  sub : ∀ l p s, I l p s → ∀ b, p.a b → ¬ F b ∧ ¬ B.T b ∧ b < s.heap.objs.size
  subg : ∀ l p s, I l p s → ∀ i, p.g i → i < s.gens.size
  ft : ∀ l p s, I l p s → ∀ b, F b → ¬ B.T b
  ty : ∀ l p s, I l p s → ∃ T, s.TypeIs (.ref it) T ∧ okTy T = true
  stay : ∀ l p s s', I l p s → (∀ b o, ¬ B.T b → (F b ∨ p.a b) → s.heap.get? b = some o → s'.heap.get? b = some o) → (∀ b o, isCodeO o → s.heap.get? b = some o → s'.heap.get? b = some o) → s.heap.objs.size ≤ s'.heap.objs.size →
    (∀ (i : Nat) (x : GenState), p.g i → s.gens[i]? = some x → s'.gens[i]? = some x) → Good B s' → I l p s'
  next : ∀ d l p s A E (Q : Option Value → Shared → Prop), I (d :: l) p s → Good B s → Room A (K - 4) →
    (∀ v s' p', EffP B p s s' → (∀ b, p.a b → p'.a b) → (∀ b, p'.a b → p.a b ∨ s.heap.objs.size ≤ b) → p'.g = p.g → Rep B s'.heap (fun b => ¬ F b) d v → I l p' s' → Q (some v) s') →
    wpAny B.M A (pyNext (.ref it)) Q E s
  done : ∀ p s A E (Q : Option Value → Shared → Prop), I [] p s → Good B s → Room A (K - 4) → (∀ s', EffP B p s s' → Q none s') → wpAny B.M A (pyNext (.ref it)) Q E s
  self : ∀ l p s A E (Q : Value → Shared → Prop), I l p s → Good B s → Room A (K - 4) → Q (.ref it) s → wpAny B.M A (pyIter (.ref it)) Q E s
inductive RangeRep (W : Addr → Prop) (v : Value) (l : List D) (s' : Shared) : Prop
  | mk (r : Addr) (n : Int) (t u z : Tok) (e : v = .ref r) (w : ¬ W r) (h : IsRange s'.heap r 0 n 1 t u z) (h0 : 0 ≤ n) (hl : n ≤ lim) (el : l = (List.range n.toNat).map fun (i : Nat) => D.int (i : Int))
inductive GenRep (B : Bs) (K : Nat) (s : Shared) (W : Addr → Prop) (v : Value) (l : List D) (s' : Shared) : Prop
  | mk (a : Addr) (F : Addr → Prop) (p : Pv) (I : List D → Pv → Shared → Prop) (e : v = .ref a) (ty : ∀ l p s, I l p s → s.TypeIs (.ref a) "generator") (ok : IterOk B K F a I) (i : I l p s') (f : ∀ b, F b → ¬ W b ∧ b < s'.heap.objs.size) (pa : ∀ b, p.a b → s.heap.objs.size ≤ b) (pg : ∀ i, p.g i → s.gens.size ≤ i) (hl : l.length ≤ lim)
noncomputable def ItRep (B : Bs) (K : Nat) (s : Shared) (W : Addr → Prop) (v : Value) (l : List D) (s' : Shared) : Prop := RangeRep W v l s' ∨ GenRep B K s W v l s'
noncomputable def RPost (B : Bs) (K : Nat) (s : Shared) (W : Addr → Prop) (r : R) (v : Value) (s' : Shared) : Prop := match r with
  | .d x => Rep B s'.heap W x v
  | .own l => RepB B s'.heap W (.list l) v ∧ ∀ a, v = .ref a → ¬ B.T a
  | .it l => ItRep B K s W v l s'
noncomputable abbrev noE : Value → Shared → Prop := fun _ _ => False
inductive Contract (B : Bs) (K : Nat) (f : Nat) (args : List D) (d : D) : Prop
  | mk (fa : Addr) (fo : Obj) (fd : FuncData) (m : B.mg (B.nm f) = some (.ref fa)) (t : ¬ B.T fa) (g : B.h₀.get? fa = some fo) (e : fo.data = .func fd) (r : ∀ A s W vals, Good B s → Room A K → (∀ b, B.T b → W b) → (∀ b, W b → b < s.heap.objs.size) → RepAll B s.heap W args vals →
      codeAny B.M A (.call (.ref fa) ⟨vals, []⟩) (fun r s' => ∃ v, r = .ok (.ret v) ∧ Eff B s s' ∧ Rep B s'.heap W d v) s)
noncomputable def ContractL (B : Bs) (K : Nat) (id : Nat) (caps args : List D) (d : D) : Prop :=
  ∀ fa cv A s W vals, Good B s → Room A K → (∀ b, B.T b → W b) → (∀ b, W b → b < s.heap.objs.size) → B.Lam id cv s.heap W fa → RepAll B s.heap W caps cv → RepAll B s.heap W args vals →
    codeAny B.M A (.call (.ref fa) ⟨vals, []⟩) (fun r s' => ∃ v, r = .ok (.ret v) ∧ Eff B s s' ∧ Rep B s'.heap W d v) s
noncomputable def ContractG (B : Bs) (K : Nat) (id : Nat) (caps args : List D) (l : List D) : Prop :=
  ∀ fa cv A s W vals, Good B s → Room A K → (∀ b, B.T b → W b) → (∀ b, W b → b < s.heap.objs.size) → B.Lam id cv s.heap W fa → RepAll B s.heap W caps cv → RepAll B s.heap W args vals →
    codeAny B.M A (.call (.ref fa) ⟨vals, []⟩) (fun r s' => ∃ v, r = .ok (.ret v) ∧ Eff B s s' ∧ ItRep B K s W v l s') s
structure PhiOk (B : Bs) (K : Nat) (Φ : Phi) : Prop where
  call : ∀ f args d, Φ.call f args = some d → Contract B K f args d
  lam : ∀ id caps args d, Φ.lam id (caps ++ args) = some d → ContractL B K id caps args d
  gen : ∀ id caps args l, Φ.lam id (caps ++ args) = none → Φ.gen id (caps ++ args) = some l → ContractG B K id caps args l
noncomputable def Snd (B : Bs) (K : Nat) (Φ : Phi) (e : E) : Prop := ∀ Γ ρ r, ev Φ Γ ρ e = some r → ∀ Wc W pe A s, Ctx B Γ Wc W pe ρ s → Room A K →
  wpAny B.M A (eval (e.py B.nm) pe) (fun v s' => Eff B s s' ∧ RPost B K s W r v s') noE s
noncomputable def SndT (B : Bs) (K : Nat) (Φ : Phi) (e : E) : Prop := ∀ Γ ρ b, evT Φ Γ ρ e = some b → ∀ Wc W pe A s, Ctx B Γ Wc W pe ρ s → Room A K →
  wpAny B.M A (isTrue (e.py B.nm) pe (eval (e.py B.nm) pe)) (fun c s' => Eff B s s' ∧ c = b) noE s
theorem Ctx.tW' {Γ : Kinds} {Wc W : Addr → Prop} {pe : Env} {ρ : REnv} {s : Shared} (X : Ctx B Γ Wc W pe ρ s) : ∀ b, B.T b → W b := fun b t => X.cW b (X.tW b t)
theorem Rep.notT {h : Heap} {W : Addr → Prop} (tW : ∀ b, B.T b → W b) {d : D} {v : Value} (r : Rep B h W d v) : ∀ a, v = .ref a → ¬ B.T a := by
  intro a e t
  subst e
  cases d <;> simp only [Rep] at r
  case nil => cases r
  case bool => cases r
  case int => obtain ⟨_, q⟩ := r; cases q
  case str => obtain ⟨⟨_, q⟩, _⟩ := r; cases q
  case list => obtain ⟨_, _, _, q, hw, _⟩ := r; cases q; exact hw (tW _ t)
  case tup => obtain ⟨_, _, _, q, hw, _⟩ := r; cases q; exact hw (tW _ t)
  case dict => obtain ⟨_, _, _, q, hw, _⟩ := r; cases q; exact hw (tW _ t)
  case thing => obtain ⟨_, _, _, _, _, q, hw, _⟩ := r; cases q; exact hw (tW _ t)
  case lam => obtain ⟨_, _, q, hw, _⟩ := r; cases q; exact hw (tW _ t)
theorem RPost.asB {s s' : Shared} {W : Addr → Prop} (tW : ∀ b, B.T b → W b) {r : R} {v : Value} {x : D} (e : r.asB = some x) (p : RPost B K s W r v s') : RepB B s'.heap W x v ∧ ∀ a, v = .ref a → ¬ B.T a := by
  cases r with
  | d y => obtain rfl := Option.some.inj e; exact ⟨Rep.b p, Rep.notT tW p⟩
  | own l => obtain rfl := Option.some.inj e; exact p
  | it l => cases e
theorem RPost.asD {s s' : Shared} {W : Addr → Prop} {r : R} {v : Value} {x : D} (e : r.asD = some x) (p : RPost B K s W r v s') : Rep B s'.heap W x v := by
  cases r with
  | d y => obtain rfl := Option.some.inj e; exact p
  | own l => cases e
  | it l => cases e
section
variable {Φ : Phi} {K : Nat} (O : B.Ok)
include O
theorem snd_int {i : Int} {p : Pos} : Snd B K Φ (.int i p) := by
  intro Γ ρ r h Wc W pe A s X R
  simp only [x_ev_int, Option.some.injEq] at h
  subst h
  exact wpAny_Constant_int ⟨Eff.toks _, by simp only [RPost, Rep]; exact ⟨_, rfl⟩⟩
theorem snd_str {l : List Nat} {p : Pos} : Snd B K Φ (.str l p) := by
  intro Γ ρ r h Wc W pe A s X R
  simp only [x_ev_str, mkS, Option.map_eq_some_iff] at h
  obtain ⟨d, h, rfl⟩ := h
  split at h
  · obtain rfl := Option.some.inj h
    refine Constant_str ⟨Eff.toks _, ?_⟩
    exact ⟨⟨_, rfl⟩, by assumption⟩
  · exact nomatch h
theorem snd_nil {p : Pos} : Snd B K Φ (.nil p) := by
  intro Γ ρ r h Wc W pe A s X R
  simp only [x_ev_nil, Option.some.injEq] at h
  subst h
  show wpAny _ _ (pure Value.none) _ _ _
  exact wpAny_pure ⟨Eff.refl _, by simp only [RPost, Rep]⟩
theorem Ctx.name {Γ : Kinds} {Wc W : Addr → Prop} {pe : Env} {ρ : REnv} {s : Shared} {A : Around} {E : Value → Shared → Prop} (X : Ctx B Γ Wc W pe ρ s) {x : Nat} {v : Value} {Q : Value → Shared → Prop} (l : Loc B pe s.heap x v) (h : Q v s)
    (hd : (B.nm x == ("__classdict__" : Str)) = false) : wpAny B.M A (loadName pe (B.nm x)) Q E s := by
  rcases l with ⟨k, m, n, q⟩ | ⟨k | k, c, q, hc⟩
  · exact wpAny_loadName_local X.fn k n q h
  · exact wpAny_loadName_cell X.fn k q hc h
  · exact wpAny_loadName_free X.fn k q hc h hd
end
end Mine
namespace Mine
variable {B : Bs}
theorem mapM_nil {α β : Type} {f : α → Option β} : ([] : List α).mapM f = some [] := by simp
theorem mapM_cons_some {α β : Type} {f : α → Option β} {a : α} {l : List α} {r : List β} (h : (a :: l).mapM f = some r) : ∃ b t, f a = some b ∧ l.mapM f = some t ∧ r = b :: t := by
  rw [List.mapM_cons] at h
  cases hb : f a with
  | none => rw [hb] at h; cases h
  | some b =>
    rw [hb] at h
    cases ht : l.mapM f with
    | none => rw [ht] at h; exact nomatch h
    | some t => rw [ht] at h; obtain rfl := Option.some.inj h; exact ⟨b, t, rfl, rfl, rfl⟩
theorem reads_all_of {h : Heap} {W : Addr → Prop} {f : D → Option PyData} (hf : ∀ d p v, f d = some p → Rep B h W d v → (∃ as, Reads h v p as) ∧ p.canLay0 = true) : ∀ {l : List D} {ps : List PyData} {vs : List Value}, l.mapM f = some ps → RepAll B h W l vs → (∃ as, ReadsAll h vs ps as) ∧ PyData.canLayAll0 ps = true
  | [], ps, vs, e, r => by
    obtain rfl := Option.some.inj (mapM_nil.symm.trans e)
    simp only [RepAll] at r; subst r
    exact ⟨⟨_, .nil⟩, rfl⟩
  | d :: l, ps, vs, e, r => by
    obtain ⟨p, t, e1, e2, rfl⟩ := mapM_cons_some e
    simp only [RepAll] at r
    obtain ⟨v, u, rfl, r1, r2⟩ := r
    obtain ⟨⟨as, ra⟩, c1⟩ := hf d p v e1 r1
    obtain ⟨⟨bs, rb⟩, c2⟩ := reads_all_of hf e2 r2
    exact ⟨⟨_, .cons ra rb⟩, by simp [PyData.canLayAll0, c1, c2]⟩
theorem depth_all_of {f : D → Option PyData} {n : Nat} (hf : ∀ d p, f d = some p → p.depth ≤ n) : ∀ {l : List D} {ps : List PyData}, l.mapM f = some ps → PyData.depthAll ps ≤ n
  | [], ps, e => by obtain rfl := Option.some.inj (mapM_nil.symm.trans e); simp [PyData.depthAll]
  | d :: l, ps, e => by
    obtain ⟨p, t, e1, e2, rfl⟩ := mapM_cons_some e
    exact Nat.max_le.mpr ⟨hf d p e1, depth_all_of hf e2⟩
theorem pd_depth : ∀ (n : Nat) (d : D) (p : PyData), D.pd n d = some p → p.depth ≤ n
  | 0, _, _, e => nomatch (show none = some _ from e)
  | n + 1, d, p, e => by
    cases d
    case nil => cases e; exact Nat.zero_le _
    case bool => cases e; exact Nat.zero_le _
    case int => cases e; exact Nat.zero_le _
    case list l =>
      obtain ⟨ps, e1, rfl⟩ := om_some e
      exact Nat.succ_le_succ (depth_all_of (fun d p h => pd_depth n d p h) e1)
    case tup l =>
      obtain ⟨ps, e1, rfl⟩ := om_some e
      exact Nat.succ_le_succ (depth_all_of (fun d p h => pd_depth n d p h) e1)
    all_goals exact nomatch e
theorem pd_reads {h : Heap} {W : Addr → Prop} : ∀ (n : Nat) (d : D) (p : PyData) (v : Value), D.pd n d = some p → RepB B h W d v → (∃ as, Reads h v p as) ∧ p.canLay0 = true
  | 0, _, _, _, e, _ => nomatch (show none = some _ from e)
  | n + 1, d, p, v, e, r => by
    cases d
    case nil => cases e; cases (show v = .none from r); exact ⟨⟨_, .none⟩, rfl⟩
    case bool => cases e; cases (show v = .bool _ from r); exact ⟨⟨_, .bool _⟩, rfl⟩
    case int => cases e; obtain ⟨t, rfl⟩ := intB r; exact ⟨⟨_, .int _ _⟩, rfl⟩
    case list l =>
      obtain ⟨ps, e1, rfl⟩ := om_some e
      obtain ⟨a, vs, m, rfl, g, _, ra⟩ := r
      obtain ⟨⟨as, rd⟩, c⟩ := reads_all_of (fun d p v h1 h2 => pd_reads n d p v h1 (Rep.b h2)) e1 ra
      exact ⟨⟨_, .list g rfl rfl rd⟩, c⟩
    case tup l =>
      obtain ⟨ps, e1, rfl⟩ := om_some e
      simp only [RepB, Rep] at r
      obtain ⟨a, vs, m, rfl, _, g, _, ra⟩ := r
      obtain ⟨⟨as, rd⟩, c⟩ := reads_all_of (fun d p v h1 h2 => pd_reads n d p v h1 (Rep.b h2)) e1 ra
      exact ⟨⟨_, .tuple g rfl rfl rd⟩, c⟩
    all_goals exact nomatch e
section
variable {A : Around} {s : Shared} {W : Addr → Prop} {K : Nat} (O : B.Ok)
include O
theorem dget_rep {h : Heap} {k : List Nat} : ∀ {xs : List Str} {vs : List D} {dv : List Value}, xs.length = dv.length → RepAll B h W vs dv →
    match D.dget (xs.map fun x => D.str x.cps.toList) vs k with
    | some d => ∃ v, valueAt (xs.zip dv) ⟨k.toArray⟩ = some v ∧ Rep B h W d v
    | none => valueAt (xs.zip dv) ⟨k.toArray⟩ = none
  | [], vs, dv, hl, ra => by simp [D.dget, valueAt]
  | x :: xs, vs, [], hl, ra => by simp at hl
  | x :: xs, [], v :: dv, hl, ra => by simp [RepAll] at ra
  | x :: xs, d :: vs, v :: dv, hl, ra => by
    simp only [RepAll, List.cons.injEq] at ra
    obtain ⟨v', r', ⟨rfl, rfl⟩, rv, ra⟩ := ra
    have ih := dget_rep (k := k) (xs := xs) (by simpa using hl) ra
    by_cases e : x = ⟨k.toArray⟩
    · subst e
      simp only [D.dget, List.map_cons, List.zip_cons_cons, List.find?_cons, D.isStr, beq_self_eq_true, Option.map_some, valueAt, decide_true]
      exact ⟨_, rfl, rv⟩
    · have e1 : (x.cps.toList == k) = false := by
        rw [beq_eq_false_iff_ne]
        intro q
        apply e
        subst q
        cases x; rfl
      have e2 : decide (x = ⟨k.toArray⟩) = false := by simpa using e
      simp only [D.dget, List.map_cons, List.zip_cons_cons, List.find?_cons, D.isStr, e1, valueAt, e2] at ih ⊢
      exact ih
omit O in
theorem eq_inv {x y : D} {b : Bool} (h : D.eq x y = some b) : (∃ a c, x = .str a ∧ y = .str c ∧ (a == c) = b) ∨ ∃ p q, D.pd 5 x = some p ∧ D.pd 5 y = some q ∧ PyData.eqv p q = b := by
  unfold D.eq at h
  cases hx : x.str? with
  | some a =>
    rw [hx] at h
    obtain ⟨c, hc, e⟩ := om_some h
    exact .inl ⟨a, c, str?_eq hx, str?_eq hc, e⟩
  | none =>
    rw [hx] at h
    obtain ⟨p, hp, h⟩ := ob_some h
    obtain ⟨q, hq, h⟩ := ob_some h
    exact .inr ⟨p, q, hp, hq, Option.some.inj h⟩
theorem cmp_eq {x y : D} {b : Bool} {u v : Value} (h : D.eq x y = some b) (rx : RepB B s.heap W x u) (ry : RepB B s.heap W y v) (R : Room A K) {Q : Value → Shared → Prop} (hQ : Q (.bool b) s) :
    wpAny B.M A (compareOp .Eq u v) Q noE s := by
  rcases eq_inv h with ⟨a, c, rfl, rfl, rfl⟩ | ⟨p, q, e1, e2, rfl⟩
  · obtain ⟨t, rfl, _⟩ := strB rx
    obtain ⟨t', rfl, _⟩ := strB ry
    exact P.eq_str (by simpa using hQ)
  · obtain ⟨⟨as, ra⟩, c1⟩ := pd_reads 5 x p u e1 rx
    obtain ⟨⟨bs, rb⟩, c2⟩ := pd_reads 5 y q v e2 ry
    exact SeqAt.compareEq_reads ra rb c1 c2 (by have := pd_depth 5 x p e1; have := R.units; have : min p.depth q.depth ≤ p.depth := Nat.min_le_left _ _; lia) hQ
theorem cmp_ne {x y : D} {b : Bool} {u v : Value} (h : D.eq x y = some b) (rx : RepB B s.heap W x u) (ry : RepB B s.heap W y v) (R : Room A K) {Q : Value → Shared → Prop} (hQ : Q (.bool (!b)) s) :
    wpAny B.M A (compareOp .NotEq u v) Q noE s := by
  rcases eq_inv h with ⟨a, c, rfl, rfl, rfl⟩ | ⟨p, q, e1, e2, rfl⟩
  · obtain ⟨t, rfl, _⟩ := strB rx
    obtain ⟨t', rfl, _⟩ := strB ry
    exact P.ne_str (by simpa [bne] using hQ)
  · obtain ⟨⟨as, ra⟩, c1⟩ := pd_reads 5 x p u e1 rx
    obtain ⟨⟨bs, rb⟩, c2⟩ := pd_reads 5 y q v e2 ry
    exact SeqAt.compareNe_reads ra rb c1 c2 (by have := pd_depth 5 x p e1; have := R.units; have : min p.depth q.depth ≤ p.depth := Nat.min_le_left _ _; lia) hQ
omit O in
theorem cmp_ii {f : Int → Int → Bool} {x y : D} {b : Bool} {u v : Value} (h : (x.int?.bind fun i => y.int?.map fun j => f i j) = some b) (rx : RepB B s.heap W x u) (ry : RepB B s.heap W y v) :
    ∃ i j t t', u = .int i t ∧ v = .int j t' ∧ f i j = b := by
  obtain ⟨i, hi, h1⟩ := ob_some h
  obtain ⟨j, hj, h2⟩ := om_some h1
  have := int?_eq hi; subst this
  have := int?_eq hj; subst this
  obtain ⟨t, e⟩ := intB rx
  obtain ⟨t', e'⟩ := intB ry
  exact ⟨i, j, t, t', e, e', h2⟩
omit O in
theorem isIn_inv {x : D} {l : List D} {b : Bool} (h : D.isIn x l = some b) : ∃ p q, D.pd 5 x = some p ∧ D.pd 5 (.list l) = some (.list q) ∧ D.pd 5 (.tup l) = some (.tuple q) ∧ (q.any fun y => PyData.eqv y p) = b := by
  obtain ⟨p, hp, h⟩ := ob_some h
  obtain ⟨q, hq, h⟩ := ob_some h
  exact ⟨p, q, hp, (show (List.mapM (D.pd 4) l).map _ = _ from congrArg (Option.map PyData.list) hq), (show (List.mapM (D.pd 4) l).map _ = _ from congrArg (Option.map PyData.tuple) hq), Option.some.inj h⟩
theorem cmp_in {x y : D} {b : Bool} {u v : Value} (h : D.memb x y = some b) (rx : RepB B s.heap W x u) (ry : RepB B s.heap W y v) (R : Room A K) {Q : Value → Shared → Prop} (hQ : ∀ t, Q (.bool b) { s with toks := t }) :
    wpAny B.M A (compareOp .In u v) Q noE s := by
  cases y
  case list l =>
    obtain ⟨p, q, e1, e2, _, rfl⟩ := isIn_inv h
    obtain ⟨⟨as, ra⟩, c1⟩ := pd_reads 5 x p u e1 rx
    obtain ⟨⟨bs, rb⟩, c2⟩ := pd_reads 5 (.list l) (.list q) v e2 ry
    exact SeqAt.in_list_reads rb ra (by simpa [PyData.canLay0] using c2) c1 (by have := pd_depth 5 x p e1; have := R.units; have : min (PyData.depthAll q) p.depth ≤ p.depth := Nat.min_le_right _ _; lia) (hQ s.toks)
  case tup l =>
    obtain ⟨p, q, e1, _, e2, rfl⟩ := isIn_inv h
    obtain ⟨⟨as, ra⟩, c1⟩ := pd_reads 5 x p u e1 rx
    obtain ⟨⟨bs, rb⟩, c2⟩ := pd_reads 5 (.tup l) (.tuple q) v e2 ry
    exact SeqAt.in_tuple_reads rb ra (by simpa [PyData.canLay0] using c2) c1 (by have := pd_depth 5 x p e1; have := R.units; have : min (PyData.depthAll q) p.depth ≤ p.depth := Nat.min_le_right _ _; lia) (hQ s.toks)
  case dict ks vs =>
    obtain ⟨k, hk, rfl⟩ := om_some h
    have := str?_eq hk; subst this
    obtain ⟨t, rfl, _⟩ := strB rx
    simp only [RepB, Rep] at ry
    obtain ⟨d, xs, dv, rfl, hw, hs, hd, hks, hl, hlim, ra⟩ := ry
    subst hks
    have hv := dget_rep O (k := k) hl ra
    refine wpAny_in_of (knd := PySem.strKind B.prog B.w) (k := ⟨k.toArray⟩) (by simp [PySem.strKind, Value.isStrOf]) hs hd.mapOf ?_
    have e : (valueAt (xs.zip dv) ⟨k.toArray⟩).isSome = (D.dget (xs.map fun x => D.str x.cps.toList) vs k).isSome := by
      cases e : D.dget (xs.map fun x => D.str x.cps.toList) vs k with
      | some d => rw [e] at hv; obtain ⟨v, hv, _⟩ := hv; rw [hv]; rfl
      | none => rw [e] at hv; rw [hv]; rfl
    rw [e]
    exact hQ _
  all_goals cases h
omit O in
theorem isNil_same {x : D} {b : Bool} {u : Value} (h : D.isNil x = some b) (rx : RepB B s.heap W x u) : isSame u .none = pure b := by
  cases x
  case nil => obtain rfl := Option.some.inj h; cases (show u = .none from rx); rfl
  case bool => obtain rfl := Option.some.inj h; cases (show u = .bool _ from rx); rfl
  case int => obtain rfl := Option.some.inj h; obtain ⟨_, rfl⟩ := intB rx; rfl
  case str => obtain rfl := Option.some.inj h; obtain ⟨_, rfl, _⟩ := strB rx; rfl
  case list => obtain rfl := Option.some.inj h; obtain ⟨_, _, _, rfl, _⟩ := rx; rfl
  case tup => obtain rfl := Option.some.inj h; simp only [RepB, Rep] at rx; obtain ⟨_, _, _, rfl, _⟩ := rx; rfl
  case dict => obtain rfl := Option.some.inj h; simp only [RepB, Rep] at rx; obtain ⟨_, _, _, rfl, _⟩ := rx; rfl
  all_goals cases h
theorem cmp_ok {op : CmpOp} {x y : D} {b : Bool} {u v : Value} (h : D.cmp op x y = some b) (rx : RepB B s.heap W x u) (ry : RepB B s.heap W y v) (R : Room A K) {Q : Value → Shared → Prop} (hQ' : ∀ t, Q (.bool b) { s with toks := t }) :
    wpAny B.M A (compareOp op u v) Q noE s := by
  cases op
  case Eq => exact cmp_eq O h rx ry R (hQ' s.toks)
  case NotEq =>
    obtain ⟨c, h', rfl⟩ := om_some h
    exact cmp_ne O h' rx ry R (hQ' s.toks)
  case Lt =>
    obtain ⟨i, j, t, t', rfl, rfl, rfl⟩ := cmp_ii h rx ry
    exact P.lt_int (hQ' s.toks)
  case LtE =>
    obtain ⟨i, j, t, t', rfl, rfl, rfl⟩ := cmp_ii h rx ry
    exact P.le_int (hQ' s.toks)
  case In => exact cmp_in O h rx ry R hQ'
  case NotIn =>
    obtain ⟨l, hl, h1⟩ := ob_some h
    obtain ⟨c, h2, rfl⟩ := om_some h1
    have := list?_eq hl; subst this
    obtain ⟨p, q, e1, e2, _, rfl⟩ := isIn_inv h2
    obtain ⟨⟨as, ra⟩, c1⟩ := pd_reads 5 x p u e1 rx
    obtain ⟨⟨bs, rb⟩, c2⟩ := pd_reads 5 (.list l) (.list q) v e2 ry
    exact SeqAt.notIn_list_reads rb ra (by simpa [PyData.canLay0] using c2) c1 (by have := pd_depth 5 x p e1; have := R.units; have : min (PyData.depthAll q) p.depth ≤ p.depth := Nat.min_le_right _ _; lia) (hQ' s.toks)
  case IsNot =>
    cases y
    case nil =>
      obtain ⟨c, h1, rfl⟩ := om_some h
      cases (show v = .none from ry)
      show wpAny _ _ (isSame u .none >>= fun c => pure (Value.bool (!c))) _ _ _
      rw [isNil_same h1 rx]
      exact wpAny_bind (wpAny_pure (wpAny_pure (hQ' s.toks)))
    all_goals cases h
  all_goals cases h
end
end Mine
namespace Mine
variable {B : Bs}
theorem starEach_py (nm : Nat → Str) (e : E) (r : List PySem.Expr) (pe : Env) : starEach (e.py nm :: r) pe = (false, eval (e.py nm) pe) :: starEach r pe := by
  cases e <;> rfl
theorem sizeLine_lim {n : Nat} (h : n ≤ lim) : n ≤ sizeLine := by
  have : sizeLine = 16777216 := by decide
  unfold lim at h; lia
theorem str_app (a b : List Nat) : (⟨a.toArray⟩ ++ ⟨b.toArray⟩ : Str) = ⟨(a ++ b).toArray⟩ := by
  show Str.mk (a.toArray ++ b.toArray) = _
  simp
theorem reps_list (x : List Nat) : ∀ (k : Nat) (acc : List Nat), (List.replicate k x.toArray).foldl (· ++ ·) acc.toArray = (acc ++ (List.replicate k x).flatten).toArray
  | 0, acc => by simp
  | k + 1, acc => by
    rw [List.replicate_succ, List.foldl_cons, List.replicate_succ, List.flatten_cons]
    have := reps_list x k (acc ++ x)
    rw [← List.append_toArray] at this
    rw [this, List.append_assoc]
theorem txt_mul {x : List Nat} {n : Int} (h : 0 ≤ n) : Txt.mul ⟨x.toArray⟩ n = ⟨((List.replicate n.toNat x).flatten).toArray⟩ := by
  unfold Txt.mul
  by_cases h1 : n < 1
  · have : n = 0 := by lia
    subst this
    rw [if_pos h1]; simp [Str.empty]
  · rw [if_neg h1]
    split
    · rename_i hc
      rw [Bool.or_eq_true, beq_iff_eq, beq_iff_eq] at hc
      rcases hc with h | h
      · subst h; simp
      · have : x = [] := by simpa [Str.length] using h
        subst this; simp
    · exact congrArg Str.mk (by simpa using reps_list x n.toNat [])
section
variable {A : Around} {s : Shared} {W : Addr → Prop} {K : Nat} (O : B.Ok)
include O
theorem rep_new_list {h : Heap} (tW : ∀ b, W b → b < h.objs.size) {ds : List D} {vs : Array Value} (r : RepAll B h W ds vs.toList) (hl : ds.length ≤ lim) :
    Rep B (h.push { cls := .type "list", data := .seq vs }) W (.list ds) (.ref h.objs.size) := by
  exact ⟨_, vs, 0, rfl, fun q => Nat.lt_irrefl _ (tW _ q), Heap.get?_push_size _ rfl, hl, RepAll.move O (fun b o _ e => Heap.get?_push_of_some _ e) (fun b q => .inl q) _ _ r⟩
theorem rep_new_tup {h : Heap} (tW : ∀ b, W b → b < h.objs.size) {ds : List D} {vs : Array Value} (r : RepAll B h W ds vs.toList) (hl : ds.length ≤ lim) :
    Rep B (h.push { cls := .type "tuple", data := .seq vs }) W (.tup ds) (.ref h.objs.size) := by
  exact ⟨_, vs, 0, rfl, fun q => Nat.lt_irrefl _ (tW _ q), Heap.get?_push_size _ rfl, hl, RepAll.move O (fun b o _ e => Heap.get?_push_of_some _ e) (fun b q => .inl q) _ _ r⟩
theorem bin_ii {f : Int → Int → Option D} {x y z : D} {u v : Value} (h : (x.int?.bind fun i => y.int?.bind fun j => f i j) = some z) (rx : RepB B s.heap W x u) (ry : RepB B s.heap W y v) :
    ∃ i j t t', u = .int i t ∧ v = .int j t' ∧ f i j = some z := by
  obtain ⟨i, hi, h1⟩ := ob_some h
  obtain ⟨j, hj, h2⟩ := ob_some h1
  have := int?_eq hi; subst this
  have := int?_eq hj; subst this
  obtain ⟨t, e⟩ := intB rx
  obtain ⟨t', e'⟩ := intB ry
  exact ⟨i, j, t, t', e, e', h2⟩
theorem add_ok {x y z : D} {u v : Value} (h : D.add x y = some z) (rx : RepB B s.heap W x u) (ry : RepB B s.heap W y v) (tW : ∀ b, W b → b < s.heap.objs.size) :
    wpAny B.M A (binaryOp .Add u v) (fun r s' => Eff B s s' ∧ Rep B s'.heap W z r) noE s := by
  cases x
  case int i =>
    obtain ⟨j, hj, e⟩ := om_some h
    have := int?_eq hj; subst this; subst e
    obtain ⟨t, rfl⟩ := intB rx; obtain ⟨t', rfl⟩ := intB ry
    exact wpAny_add_int ⟨Eff.toks _, rep_i⟩
  case str a =>
    obtain ⟨b, hj, e⟩ := ob_some h
    obtain ⟨hl, rfl⟩ := if_some e
    have := str?_eq hj; subst this
    obtain ⟨t, rfl, _⟩ := strB rx; obtain ⟨t', rfl, _⟩ := strB ry
    exact SB.add (fun t' k => ⟨Eff.toks _, by rw [str_app]; exact rep_s hl⟩) (sizeLine_lim (by simpa [Str.length] using hl))
  case list a =>
    obtain ⟨b, hj, e⟩ := ob_some h
    obtain ⟨hl, rfl⟩ := if_some e
    have := list?_eq hj; subst this
    obtain ⟨p, xs, n, rfl, g1, l1, r1⟩ := rx; obtain ⟨q, ys, m, rfl, g2, l2, r2⟩ := ry
    refine P.add_list g1 g2 ⟨Eff.push O _ _, rep_new_list O tW (by rw [Array.toList_append]; exact RepAll.append r1 r2) hl⟩ (sizeLine_lim ?_)
    have e := RepAll.length (RepAll.append r1 r2)
    rw [List.length_append, Array.length_toList, Array.length_toList] at e
    exact e ▸ hl
  all_goals cases h
theorem bin_ok {op : Operator} {x y z : D} {u v : Value} (h : D.bin op x y = some z) (rx : RepB B s.heap W x u) (ry : RepB B s.heap W y v) (R : Room A K) (tW : ∀ b, W b → b < s.heap.objs.size) :
    wpAny B.M A (binaryOp op u v) (fun r s' => Eff B s s' ∧ Rep B s'.heap W z r) noE s := by
  cases op
  case Add => exact add_ok O h rx ry tW
  case FloorDiv =>
    obtain ⟨i, j, t, t', rfl, rfl, h1⟩ := bin_ii O h rx ry
    obtain ⟨hc, rfl⟩ := if_some h1
    exact floordiv_int (by lia) ⟨Eff.toks _, rep_i⟩ (.inl (PyProof.noPylong_small (by lia)))
  case Mod =>
    obtain ⟨i, j, t, t', rfl, rfl, h1⟩ := bin_ii O h rx ry
    obtain ⟨hc, rfl⟩ := if_some h1
    exact mod_int' (by lia) ⟨Eff.toks _, rep_i⟩
  case Pow =>
    obtain ⟨i, j, t, t', rfl, rfl, h1⟩ := bin_ii O h rx ry
    obtain ⟨hc, rfl⟩ := if_some h1
    exact pow_int_small (by lia) (by lia) (by lia) ⟨Eff.toks _, rep_i⟩
  case Mult =>
    obtain ⟨a, ha, h1⟩ := ob_some h
    obtain ⟨n, hn, h2⟩ := ob_some h1
    obtain ⟨hc, h3⟩ := ifb_some h2
    obtain ⟨hl, rfl⟩ := if_some h3
    have := str?_eq ha; subst this
    have := int?_eq hn; subst this
    obtain ⟨t, rfl, _⟩ := strB rx; obtain ⟨t', rfl⟩ := intB ry
    exact SB.mul (mulOk_of 65536 16 (by simpa [Str.length] using hc.2.2) (by lia) (by lia) (by lia) (by lia)) fun t' k => ⟨Eff.toks _, by rw [txt_mul hc.1]; exact rep_s hl⟩
  all_goals cases h
end
end Mine
namespace Mine
variable {B : Bs} {K : Nat}
section
variable {Φ : Phi} {K : Nat} (O : B.Ok)
include O
variable {Γ : Kinds} {ρ : REnv} {Wc W : Addr → Prop} {pe : Env} {A : Around} {s : Shared}
theorem useB {e : E} {r : R} {x : D} (hS : Snd B K Φ e) (h : ev Φ Γ ρ e = some r) (hx : r.asB = some x) (X : Ctx B Γ Wc W pe ρ s) (R : Room A K) {E : Value → Shared → Prop} {Q : Value → Shared → Prop}
    (k : ∀ v s', Eff B s s' → Ctx B Γ Wc W pe ρ s' → RepB B s'.heap W x v → (∀ a, v = .ref a → ¬ B.T a) → Q v s') : wpAny B.M A (eval (e.py B.nm) pe) Q E s :=
  wpAny_mono (hS Γ ρ r h Wc W pe A s X R) (fun v s' h' => let q := RPost.asB X.tW' hx h'.2; k v s' h'.1 (X.move O h'.1) q.1 q.2) fun _ _ f => f.elim
theorem useD {e : E} {r : R} {x : D} (hS : Snd B K Φ e) (h : ev Φ Γ ρ e = some r) (hx : r.asD = some x) (X : Ctx B Γ Wc W pe ρ s) (R : Room A K) {E : Value → Shared → Prop} {Q : Value → Shared → Prop}
    (k : ∀ v s', Eff B s s' → Ctx B Γ Wc W pe ρ s' → Rep B s'.heap W x v → Q v s') : wpAny B.M A (eval (e.py B.nm) pe) Q E s :=
  wpAny_mono (hS Γ ρ r h Wc W pe A s X R) (fun v s' h' => k v s' h'.1 (X.move O h'.1) (RPost.asD hx h'.2)) fun _ _ f => f.elim
theorem useT {e : E} {b : Bool} (hS : SndT B K Φ e) (h : evT Φ Γ ρ e = some b) (X : Ctx B Γ Wc W pe ρ s) (R : Room A K) {E : Value → Shared → Prop} {Q : Bool → Shared → Prop}
    (k : ∀ s', Eff B s s' → Ctx B Γ Wc W pe ρ s' → Q b s') : wpAny B.M A (isTrue (e.py B.nm) pe (eval (e.py B.nm) pe)) Q E s :=
  wpAny_mono (hS Γ ρ b h Wc W pe A s X R) (fun v s' h' => by obtain ⟨h1, rfl⟩ := h'; exact k s' h1 (X.move O h1)) fun _ _ f => f.elim
theorem py_marks (nm : Nat → Str) (e : E) (op : CmpOp) : behindInMarks op (e.py nm) = false := by cases e <;> rfl
theorem snd_name {x : Nat} {p : Pos} : Snd B K Φ (.name x p) := by
  intro Γ ρ r h Wc W pe A s X R
  have key : ∀ en, ρ x = some en → ∃ v, Loc B pe s.heap x v ∧ EntRel B pe.locals s.heap Wc W en v := X.vars x
  refine wpAny_Name ?_ (O.dbg x)
  simp only [x_ev_name] at h
  split at h
  · rename_i d hr
    obtain rfl := Option.some.inj h
    obtain ⟨v, l, rv⟩ := key _ hr
    exact Ctx.name O X l ⟨Eff.refl _, rv⟩ (O.cld x)
  · rename_i d hr
    obtain rfl := Option.some.inj h
    obtain ⟨v, l, rv⟩ := key _ hr
    exact Ctx.name O X l ⟨Eff.refl _, rv⟩ (O.cld x)
  · rename_i d hr
    obtain rfl := Option.some.inj h
    obtain ⟨v, l, rv⟩ := key _ hr
    refine Ctx.name O X l ⟨Eff.refl _, ?_⟩ (O.cld x)
    obtain ⟨a, vs, n, rfl, hw, hc, hg, hl, ha⟩ := rv
    exact ⟨⟨a, vs, n, rfl, hg, hl, ha⟩, fun b e t => by cases e; exact hc (X.tW _ t)⟩
  · exact nomatch h
theorem snd_bin {a b : E} {op : Operator} {p : Pos} (ha : Snd B K Φ a) (hb : Snd B K Φ b) : Snd B K Φ (.bin a op b p) := by
  intro Γ ρ r h Wc W pe A s X R
  simp only [x_ev_bin, Option.bind_eq_bind, Option.bind_eq_some_iff, Option.map_eq_some_iff] at h
  obtain ⟨r1, h1, x, hx, r2, h2, y, hy, z, hz, rfl⟩ := h
  refine wpAny_BinOp (useB O ha h1 hx X R fun u s1 e1 X1 q1 t1 => useB O hb h2 hy X1 R fun v s2 e2 X2 q2 t2 => ?_)
  refine wpAny_mono (bin_ok O hz (RepB.eff O X.tW' t1 q1 e2) q2 R X2.wlt) (fun z s3 h3 => ⟨(e1.trans e2).trans h3.1, h3.2⟩) fun _ _ f => f
theorem snd_cmp {a b : E} {op : CmpOp} {p : Pos} (ha : Snd B K Φ a) (hb : Snd B K Φ b) : Snd B K Φ (.cmp a op b p) := by
  intro Γ ρ r h Wc W pe A s X R
  simp only [x_ev_cmp, Option.bind_eq_bind, Option.bind_eq_some_iff, Option.map_eq_some_iff] at h
  obtain ⟨r1, h1, x, hx, r2, h2, y, hy, z, hz, rfl⟩ := h
  refine wpAny_Compare1 (useB O ha h1 hx X R fun u s1 e1 X1 q1 t1 => useB O hb h2 hy X1 R fun v s2 e2 X2 q2 t2 => ?_) (py_marks O _ _ _)
  exact cmp_ok O hz (RepB.eff O X.tW' t1 q1 e2) q2 R fun t => ⟨(e1.trans e2).trans (Eff.toks t), by simp only [RPost, Rep]⟩
theorem sndT_cmp {a b : E} {op : CmpOp} {p : Pos} (ha : Snd B K Φ a) (hb : Snd B K Φ b) : SndT B K Φ (.cmp a op b p) := by
  intro Γ ρ r h Wc W pe A s X R
  simp only [x_evT_cmp, Option.bind_eq_bind, Option.bind_eq_some_iff, Option.map_eq_some_iff] at h
  obtain ⟨r1, h1, x, hx, r2, h2, y, hy, hz⟩ := h
  refine wpAny_isTrue_Compare1 (useB O ha h1 hx X R fun u s1 e1 X1 q1 t1 => useB O hb h2 hy X1 R fun v s2 e2 X2 q2 t2 => ?_) (py_marks O _ _ _)
  exact cmp_ok O hz (RepB.eff O X.tW' t1 q1 e2) q2 R fun t => wpAny_truthy_bool ⟨(e1.trans e2).trans (Eff.toks t), rfl⟩
theorem py_marks2 (nm : Nat → Str) (a b : E) (o1 o2 : CmpOp) : lastMarks [o1, o2] [a.py nm, b.py nm] = false := by
  show behindInMarks o2 (b.py nm) = false
  cases b <;> rfl
theorem snd_cmp2 {a b c : E} {o1 o2 : CmpOp} {p : Pos} (ha : Snd B K Φ a) (hb : Snd B K Φ b) (hc : Snd B K Φ c) : Snd B K Φ (.cmp2 a o1 b o2 c p) := by
  intro Γ ρ r h Wc W pe A s X R
  simp only [x_ev_cmp2, Option.bind_eq_bind, Option.bind_eq_some_iff, Option.map_eq_some_iff] at h
  obtain ⟨r1, h1, x, hx, r2, h2, y, hy, t, ht, h⟩ := h
  refine Compare_chain (useB O ha h1 hx X R fun u s1 e1 X1 q1 t1 => chain_link (useB O hb h2 hy X1 R fun v s2 e2 X2 q2 t2 => ?_)) (py_marks2 O _ _ _ _ _)
  refine wpAny_mono (cmp_ok O ht (RepB.eff O X.tW' t1 q1 e2) q2 R (Q := fun c s' => c = .bool t ∧ ∃ k, s' = { s2 with toks := k }) fun k => ⟨rfl, k, rfl⟩) ?_ fun _ _ f => f
  rintro _ _ ⟨rfl, tk, rfl⟩
  have e2 := e2.trans (Eff.toks tk)
  have q2 := RepB.eff O X.tW' t2 q2 (Eff.toks tk)
  have X2 := X2.move O (Eff.toks tk)
  refine wpAny_truthy_bool ?_
  cases t with
  | false =>
    simp only [Bool.false_eq_true, if_false] at h ⊢
    obtain rfl := Option.some.inj h
    exact ⟨e1.trans e2, by simp only [RPost, Rep]⟩
  | true =>
    simp only [if_true, Option.bind_eq_some_iff, Option.map_eq_some_iff] at h ⊢
    obtain ⟨r3, h3, z, hz, t', ht', rfl⟩ := h
    refine chain_last (useB O hc h3 hz X2 R fun w s3 e3 X3 q3 t3 => ?_)
    exact cmp_ok O ht' (RepB.eff O X.tW' t2 q2 e3) q3 R fun t => ⟨((e1.trans e2).trans e3).trans (Eff.toks t), by simp only [RPost, Rep]⟩
theorem sndT_cmp2 {a b c : E} {o1 o2 : CmpOp} {p : Pos} (ha : Snd B K Φ a) (hb : Snd B K Φ b) (hc : Snd B K Φ c) : SndT B K Φ (.cmp2 a o1 b o2 c p) := by
  intro Γ ρ r h Wc W pe A s X R
  simp only [x_evT_cmp2, Option.bind_eq_bind, Option.bind_eq_some_iff, Option.map_eq_some_iff] at h
  obtain ⟨r1, h1, x, hx, r2, h2, y, hy, t, ht, h⟩ := h
  refine isTrue_chain (useB O ha h1 hx X R fun u s1 e1 X1 q1 t1 => test_link (useB O hb h2 hy X1 R fun v s2 e2 X2 q2 t2 => ?_)) (py_marks2 O _ _ _ _ _)
  refine wpAny_mono (cmp_ok O ht (RepB.eff O X.tW' t1 q1 e2) q2 R (Q := fun c s' => c = .bool t ∧ ∃ k, s' = { s2 with toks := k }) fun k => ⟨rfl, k, rfl⟩) ?_ fun _ _ f => f
  rintro _ _ ⟨rfl, tk, rfl⟩
  have e2 := e2.trans (Eff.toks tk)
  have q2 := RepB.eff O X.tW' t2 q2 (Eff.toks tk)
  have X2 := X2.move O (Eff.toks tk)
  refine wpAny_truthy_bool ?_
  cases t with
  | false =>
    simp only [Bool.false_eq_true, if_false] at h ⊢
    obtain rfl := Option.some.inj h
    exact ⟨e1.trans e2, rfl⟩
  | true =>
    simp only [if_true, Option.bind_eq_some_iff, Option.map_eq_some_iff] at h ⊢
    obtain ⟨r3, h3, z, hz, ht'⟩ := h
    refine test_last (useB O hc h3 hz X2 R fun w s3 e3 X3 q3 t3 => ?_)
    exact cmp_ok O ht' (RepB.eff O X.tW' t2 q2 e3) q3 R fun t => wpAny_truthy_bool ⟨((e1.trans e2).trans e3).trans (Eff.toks t), rfl⟩
theorem sndT_not {a : E} {p : Pos} (ha : SndT B K Φ a) : SndT B K Φ (.not a p) := by
  intro Γ ρ r h Wc W pe A s X R
  simp only [x_evT_not, Option.bind_eq_bind, Option.bind_eq_some_iff, Option.some.injEq] at h
  obtain ⟨t, h1, rfl⟩ := h
  exact isTrue_not (useT O ha h1 X R fun s1 e1 X1 => ⟨e1, rfl⟩)
theorem Eff.gsize {s s' : Shared} (e : Eff B s s') : s.gens.size ≤ s'.gens.size := by
  rcases Nat.lt_or_ge s'.gens.size s.gens.size with h | h
  · have := e.gens s'.gens.size s.gens[s'.gens.size] (by simp [h])
    simp at this
  · exact h
theorem RPost.back {s s1 s' : Shared} {W : Addr → Prop} {r : R} {v : Value} (e : Eff B s s1) (q : RPost B K s1 W r v s') : RPost B K s W r v s' := by
  cases r with
  | d x => exact q
  | own l => exact q
  | it l =>
    rcases q with q | ⟨a, F, p, I, h0, h1, h2, h3, h4, h5, h6, h7⟩
    · exact .inl q
    · exact .inr ⟨a, F, p, I, h0, h1, h2, h3, h4, fun b hb => Nat.le_trans e.size (h5 b hb), fun i hi => Nat.le_trans (Eff.gsize O e) (h6 i hi), h7⟩
theorem snd_ife {t a b : E} {p : Pos} (ht : SndT B K Φ t) (ha : Snd B K Φ a) (hb : Snd B K Φ b) : Snd B K Φ (.ife t a b p) := by
  intro Γ ρ r h Wc W pe A s X R
  simp only [x_ev_ife, Option.bind_eq_bind, Option.bind_eq_some_iff] at h
  obtain ⟨c, h1, h⟩ := h
  refine IfExp_ (useT O ht h1 X R fun s1 e1 X1 => ?_)
  cases c with
  | true => exact wpAny_mono (ha _ _ _ (by simpa using h) _ _ _ _ _ X1 R) (fun v s' h' => ⟨e1.trans h'.1, RPost.back O e1 h'.2⟩) fun _ _ f => f
  | false => exact wpAny_mono (hb _ _ _ (by simpa using h) _ _ _ _ _ X1 R) (fun v s' h' => ⟨e1.trans h'.1, RPost.back O e1 h'.2⟩) fun _ _ f => f
theorem seqAt_eq {n : Nat} {i : Int} : seqAt n i = seqIndex? i n := by
  unfold seqAt seqIndex?
  by_cases h : 0 ≤ i
  · have h' : ¬ i < 0 := by lia
    simp [h, h']
  · have h' : i < 0 := by lia
    simp only [h, if_false, h', if_true]
    by_cases h2 : 0 ≤ i + n
    · have : i + n < n := by lia
      simp [h2, this]
    · simp [h2]
theorem seqAt_lt {n j : Nat} {i : Int} (h : seqAt n i = some j) : j < n ∧ -(n : Int) ≤ i ∧ i < n ∧ (0 ≤ i → j = i.toNat) ∧ (i < 0 → j = (i + n).toNat) := by
  unfold seqAt at h
  split at h
  · split at h
    · obtain rfl := Option.some.inj h; lia
    · exact nomatch h
  · split at h
    · obtain rfl := Option.some.inj h; lia
    · exact nomatch h
theorem Str.len_mk (l : List Nat) : (⟨l.toArray⟩ : Str).length = l.length := by simp [Str.length]
theorem item_ok {x y z : D} {u v : Value} (h : D.item x y = some z) (rx : RepB B s.heap W x u) (ry : Rep B s.heap W y v) : 
    (∃ T id, s.TypeIs u T ∧ typeLookup (.type T) "__getitem__" = pure (some (.builtin id))) ∧ wpAny B.M A (getItem u v) (fun r s' => Eff B s s' ∧ Rep B s'.heap W z r) noE s := by
  cases x
  case list l =>
    obtain ⟨i, hi, h1⟩ := ob_some h
    obtain ⟨j, hj, hz⟩ := ob_some h1
    have := int?_eq hi; subst this
    obtain ⟨a, vs, n, rfl, hg, hl, ra⟩ := rx
    obtain ⟨t, rfl⟩ := intE ry
    obtain ⟨w, hw, rw⟩ := RepAll.get ra hz
    have hsz := RepAll.length ra
    rw [Array.length_toList] at hsz
    have L : s.heap.IsList a vs := ⟨_, hg, rfl, n, rfl⟩
    obtain ⟨q1, q2, q3, q4, q5⟩ := seqAt_lt O hj
    have hl' : (l.length : Int) ≤ 1048576 := by unfold lim at hl; lia
    refine ⟨⟨_, _, L.typeIs, slot_list_getitem.lookup⟩, ?_⟩
    rw [Array.getElem?_toList] at hw
    by_cases h0 : 0 ≤ i
    · exact wpAny_getItem_list L h0 (by lia) (by rw [← q4 h0]; exact hw) ⟨Eff.refl _, rw⟩
    · exact wpAny_getItem_list_neg L (by lia) (by lia) (by lia) (by rw [hsz, ← q5 (by lia)]; exact hw) ⟨Eff.refl _, rw⟩
  case tup l =>
    obtain ⟨i, hi, h1⟩ := ob_some h
    obtain ⟨j, hj, hz⟩ := ob_some h1
    have := int?_eq hi; subst this
    obtain ⟨a, vs, n, rfl, hw, hg, hl, ra⟩ := rx
    obtain ⟨t, rfl⟩ := intE ry
    obtain ⟨w, hw, rw⟩ := RepAll.get ra hz
    have hsz := RepAll.length ra
    rw [Array.length_toList] at hsz
    have L : IsTup s.heap a vs := ⟨_, hg, rfl, n, rfl⟩
    obtain ⟨q1, q2, q3, q4, q5⟩ := seqAt_lt O hj
    have hl' : (l.length : Int) ≤ 1048576 := by unfold lim at hl; lia
    refine ⟨⟨_, _, L.typeIs, slot_tuple_getitem.lookup⟩, ?_⟩
    rw [Array.getElem?_toList] at hw
    exact PyProof.Rows.getItem_tuple L (by lia) (by lia) (by rw [hsz, ← seqAt_eq O]; exact hj) hw ⟨Eff.refl _, rw⟩
  case str l =>
    obtain ⟨i, hi, h1⟩ := ob_some h
    obtain ⟨c, h2, rfl⟩ := om_some h1
    obtain ⟨j, hj, hz⟩ := ob_some h2
    have := int?_eq hi; subst this
    obtain ⟨t, rfl, hl⟩ := strB rx
    obtain ⟨t', rfl⟩ := intE ry
    obtain ⟨q1, q2, q3, q4, q5⟩ := seqAt_lt O hj
    have hl' : (l.length : Int) ≤ 1048576 := by unfold lim at hl; lia
    refine ⟨⟨_, _, typeIs_str _ _ _, PySem.F.slot_str_getitem.lookup⟩, P.getItem_str (c := c) ?_ ?_ ⟨Eff.toks _, rep_s (l := [c]) (show 1 ≤ lim by decide)⟩⟩
    · rw [decide_eq_false (by lia), decide_eq_false (by lia)]; rfl
    · rw [Str.len_mk O, ← seqAt_eq O, hj]
      simpa using hz
  case dict ks vs =>
    obtain ⟨k, hk, h1⟩ := ob_some h
    have := str?_eq hk; subst this
    obtain ⟨t, rfl, _⟩ := strE ry
    obtain ⟨d, xs, dv, rfl, hw, hs, hd, rfl, hl, hlim, ra⟩ := rx
    have hv := dget_rep O (k := k) hl ra
    rw [h1] at hv
    obtain ⟨v, hv, rv⟩ := hv
    refine ⟨⟨_, _, hd.typeIs, slot_dict_getitem.lookup⟩, ?_⟩
    exact wpAny_getItem_of (knd := PySem.strKind B.prog B.w) (k := ⟨k.toArray⟩) (by simp [PySem.strKind, Value.isStrOf]) hd.mapOf hv ⟨Eff.toks _, rv⟩
  all_goals cases h
theorem py_sub (nm : Nat → Str) (e : E) (o i : Value) : subscripted (e.py nm) false o i = operate [o, i] (getItem o i) := by cases e <;> rfl
theorem snd_idx {a i : E} {p : Pos} (ha : Snd B K Φ a) (hi : Snd B K Φ i) : Snd B K Φ (.idx a i p) := by
  intro Γ ρ r h Wc W pe A s X R
  simp only [x_ev_idx, Option.bind_eq_bind, Option.bind_eq_some_iff, Option.map_eq_some_iff] at h
  obtain ⟨r1, h1, x, hx, r2, h2, y, hy, z, hz, rfl⟩ := h
  refine Subscript_ (useB O ha h1 hx X R fun u s1 e1 X1 q1 t1 => useD O hi h2 hy X1 R fun v s2 e2 X2 q2 => ?_)
  obtain ⟨⟨T, id, hT, hl⟩, hw⟩ := item_ok (A := A) O hz (RepB.eff O X.tW' t1 q1 e2) q2
  exact tail_any hT hl (wpAny_mono hw (fun z s3 h3 => ⟨(e1.trans e2).trans h3.1, h3.2⟩) fun _ _ f => f) (py_sub O _ _ _ _)
theorem snd_neg {i : Int} {cp p : Pos} : Snd B K Φ (.neg i cp p) := by
  intro Γ ρ r h Wc W pe A s X R
  simp only [x_ev_neg, Option.some.injEq] at h
  subst h
  exact UnaryOp_ (wpAny_Constant_int (P.neg_int ⟨⟨fun _ _ _ e => e, fun _ _ _ e => e, Nat.le_refl _, id, fun _ _ e => e, id, rfl⟩, by simp only [RPost, Rep]; exact ⟨_, rfl⟩⟩))
theorem fld_get {h : Heap} {f : Nat} {z : D} : ∀ (ns : List Nat) (vs : List D) (dv : List Value) (g : Nat), RepAll B h W vs dv → ((ns.zip vs).find? fun q => q.1 == f) = some (g, z) →
    ∃ v, ((ns.zip dv).find? fun q => q.1 == f) = some (f, v) ∧ Rep B h W z v
  | [], _, _, _, _, e => by simp at e
  | _ :: _, [], _, _, _, e => by simp at e
  | n :: ns, v :: vs, dv, g, r, e => by
    simp only [RepAll] at r
    obtain ⟨v', dv', rfl, rv, ra⟩ := r
    simp only [List.zip_cons_cons, List.find?_cons] at e ⊢
    cases hn : n == f with
    | true =>
      have : n = f := by simpa using hn
      subst this
      simp only [hn, Option.some.injEq, Prod.mk.injEq] at e ⊢
      obtain ⟨_, rfl⟩ := e
      exact ⟨v', ⟨trivial, rfl⟩, rv⟩
    | false =>
      simp only [hn] at e ⊢
      exact fld_get ns vs dv' g ra e
omit O in
theorem isName_inv : ∀ {a : E}, a.isName = true → ∃ x p, a = .name x p := fun {a} h => by
  cases a <;> first | exact Bool.noConfusion (show false = true from h) | exact ⟨_, _, rfl⟩
omit O in
theorem fld_inv {f : Nat} {z : D} : ∀ {x : D}, D.fld f x = some z → ∃ ns vs, x = .thing ns vs ∧ ns.length = vs.length ∧ (f = 19 ∨ f = 20 ∨ f = 21) ∧ (ns.zip vs).find? (fun q => q.1 == f) = some (f, z) := fun {x} h => by
  cases x
  case thing ns vs =>
    obtain ⟨⟨h1, h2⟩, h3⟩ := ifb_some h
    obtain ⟨⟨f', z'⟩, hf, rfl⟩ := om_some h3
    have hff : f' = f := by simpa using List.find?_some hf
    subst hff
    exact ⟨ns, vs, rfl, h1, h2, hf⟩
  all_goals cases h
theorem snd_attr {a : E} {f : Nat} {p : Pos} (ha : Snd B K Φ a) : Snd B K Φ (.attr a f p) := by
  intro Γ ρ r h Wc W pe A s X R
  rw [x_ev_attr] at h
  obtain ⟨hn, h⟩ := ifb_some h
  obtain ⟨xn, pn, rfl⟩ := isName_inv hn
  simp only [Option.bind_eq_bind, Option.bind_eq_some_iff, Option.map_eq_some_iff] at h
  obtain ⟨r1, h1, x, hx, z, hz, rfl⟩ := h
  obtain ⟨ns, vs, rfl, hlen, hfr, hf⟩ := fld_inv hz
  refine Attribute_any_ (useD O ha h1 hx X R fun u s1 e1 X1 q1 => ?_) (by with_unfolding_all rfl)
  simp only [Rep] at q1
  obtain ⟨a, dx, n, ts, dv, rfl, hw, hg, hwx, hgx, l1, l2, ra⟩ := q1
  obtain ⟨v, hv, rv⟩ := fld_get O ns vs dv f ra hf
  exact O.attr A s1 a dx n ns ts dv f v _ _ X1.good hg hgx l1 ((RepAll.length ra).trans hlen.symm) hv hfr (Rep.handed rv) fun t => ⟨e1.trans (Eff.toks t), rv⟩
end
end Mine
namespace Mine
variable {B : Bs} {K : Nat}
theorem strIdx_eq (lo hi : Option Int) (n : Nat) : PySem.Builtin.Str.strSliceIndices lo hi 1 n = sliceRange ((lo.elim 0 (clipAt n) : Nat) : Int) ((hi.elim n (clipAt n) : Nat) : Int) 1 := by
  have h := sliceBounds_plain lo hi n
  unfold sliceBounds at h
  simp only [Option.getD_none, Prod.mk.injEq, show (1 : Int) > 0 by decide, if_true, and_true] at h
  unfold PySem.Builtin.Str.strSliceIndices
  simp only [show (1 : Int) > 0 by decide, if_true]
  rw [← h.1, ← h.2]
  cases lo <;> cases hi <;> rfl
theorem pick_runN (xs : Array Nat) (a : Nat) : ∀ k : Nat, ((List.range k).map (a + ·)).filterMap (xs[·]?) = (xs.toList.drop a).take k
  | 0 => by simp
  | k + 1 => by
    rw [List.range_succ, List.map_append, List.filterMap_append, pick_runN xs a k, List.take_add_one]
    congr 1
    simp only [List.map_cons, List.map_nil, List.getElem?_drop, Array.getElem?_toList]
    cases h : xs[a + k]? <;> simp [h]
theorem picked_cut (l : List Nat) (lo hi : Option Int) : (PySem.Builtin.Str.strSliceIndices lo hi 1 l.length).filterMap (l.toArray[·]?) = cutL lo hi l := by
  rw [strIdx_eq, sliceRange_one, pick_runN]
  rfl
theorem cutL_le {α : Type} (lo hi : Option Int) (l : List α) : (cutL lo hi l).length ≤ l.length := by
  unfold cutL
  rw [List.length_take, List.length_drop]; omega
theorem filterMap_all (c : Array Nat) : ∀ (is : List Nat), (∀ i ∈ is, i < c.size) → (is.filterMap (c[·]?)).length = is.length
  | [], _ => rfl
  | i :: is, h => by
    have hi : i < c.size := h i List.mem_cons_self
    rw [List.filterMap_cons]
    simp only [Array.getElem?_eq_getElem hi, List.length_cons]
    rw [filterMap_all c is fun j hj => h j (List.mem_cons_of_mem _ hj)]
theorem take_all_of {α : Type} {l : List α} (a b : Nat) (h : ((l.drop a).take b).length = l.length) : (l.drop a).take b = l := by
  rw [List.length_take, List.length_drop] at h
  by_cases h0 : l = []
  · subst h0; simp
  · have : 0 < l.length := List.length_pos_iff.mpr h0
    have ha : a = 0 := by omega
    subst ha
    rw [List.drop_zero]
    exact List.take_of_length_le (by omega)
theorem sliceIdx_len (lo hi : Option Int) (l : List Nat) : (PySem.Builtin.Str.strSliceIndices lo hi 1 l.length).length = (cutL lo hi l).length := by
  rw [← picked_cut l lo hi]
  refine (filterMap_all _ _ fun i hi => ?_).symm
  rw [strIdx_eq, sliceRange_one] at hi
  simp only [List.mem_map, List.mem_range] at hi
  obtain ⟨k, hk, rfl⟩ := hi
  have h1 : ∀ o : Option Int, o.elim l.length (clipAt l.length) ≤ l.length := fun o => by
    cases o with
    | none => exact Nat.le_refl _
    | some i =>
      have := clipAt_cast l.length i
      simp only [Option.elim]; omega
  have := h1 ‹_›
  rw [List.size_toArray]
  omega
theorem sliceMade_eq (l : List Nat) (t : Tok) (lo hi : Option (Int × Tok)) {Q : Value → Shared → Prop} {s : Shared} (hl : l.length ≤ lim)
    (h : ∀ t' k, Q (.str ⟨(cutL (lo.map (·.1)) (hi.map (·.1)) l).toArray⟩ t') { s with toks := k }) : (sliceMade ⟨l.toArray⟩ t lo hi none).post Q s := by
  have e : slicePicked ⟨l.toArray⟩ lo hi none = PySem.Builtin.Str.strSliceIndices (lo.map (·.1)) (hi.map (·.1)) 1 l.length := by
    unfold slicePicked
    rw [Str.length]; simp
  have hlen : (⟨l.toArray⟩ : Str).length = l.length := by simp [Str.length]
  unfold sliceMade
  rw [e, hlen, sliceIdx_len]
  split
  · rename_i hc
    simp only [Bool.and_eq_true, beq_iff_eq] at hc
    have : cutL (lo.map (·.1)) (hi.map (·.1)) l = l := take_all_of _ _ hc.2
    rw [this] at h
    exact h t s.toks
  · show (Made.str _).post Q s
    have e2 : ((PySem.Builtin.Str.strSliceIndices (lo.map (·.1)) (hi.map (·.1)) 1 l.length).filterMap ((⟨l.toArray⟩ : Str).cps[·]?)) = cutL (lo.map (·.1)) (hi.map (·.1)) l := picked_cut l _ _
    rw [e2]
    exact ⟨sizeLine_lim (by
      have := cutL_le (lo.map (·.1)) (hi.map (·.1)) l
      simp only [Str.length, List.size_toArray]; lia), h _ _⟩
section
variable {Φ : Phi} {K : Nat} (O : B.Ok)
include O
variable {Γ : Kinds} {ρ : REnv} {Wc W : Addr → Prop} {pe : Env} {A : Around} {s : Shared}
theorem useO {o : Option E} {d : Option D} {x : Option Int} (hS : ∀ e, o = some e → Snd B K Φ e) (h : evO Φ Γ ρ o = some d) (hx : D.bnd d = some x) (X : Ctx B Γ Wc W pe ρ s) (R : Room A K) {E : Value → Shared → Prop} {Q : Value → Shared → Prop}
    (k : ∀ (v : Option (Int × Tok)) s', Eff B s s' → Ctx B Γ Wc W pe ρ s' → v.map (·.1) = x → Q (partValue v) s') : wpAny B.M A (evalPart (pyO B.nm o) pe) Q E s := by
  cases o with
  | none =>
    simp only [x_evO_none, Option.some.injEq] at h
    subst h
    simp only [D.bnd, Option.some.injEq] at hx
    subst hx
    exact wpAny_pure (k none s (Eff.refl _) X rfl)
  | some e =>
    simp only [x_evO_some, Option.bind_eq_bind, Option.bind_eq_some_iff, Option.some.injEq] at h
    obtain ⟨r, h1, y, hy, rfl⟩ := h
    refine useD O (hS e rfl) h1 hy X R fun v s' e' X' q => ?_
    cases y <;> simp only [D.bnd, reduceCtorEq] at hx
    split at hx
    · obtain rfl := Option.some.inj hx
      simp only [Rep] at q
      obtain ⟨t, rfl⟩ := q
      exact k (some (_, t)) s' e' X' rfl
    · cases hx
theorem part_of (v : Option (Int × Tok)) : IsPart (partValue v) (v.map (·.1)) := by
  cases v with
  | none => exact .none
  | some q => exact .int _ _
omit O in
theorem cut_inv {l h : Option Int} {z : D} : ∀ {x : D}, D.cut l h x = some z → (∃ y, x = .list y ∧ z = .list (cutL l h y)) ∨ ∃ y, x = .str y ∧ z = .str (cutL l h y) := fun {x} e => by
  cases x
  case list y => obtain rfl := Option.some.inj e; exact .inl ⟨y, rfl, rfl⟩
  case str y => obtain rfl := Option.some.inj e; exact .inr ⟨y, rfl, rfl⟩
  all_goals cases e
theorem snd_slc {a : E} {lo hi : Option E} {sp p : Pos} (ha : Snd B K Φ a) (hlo : ∀ e, lo = some e → Snd B K Φ e) (hhi : ∀ e, hi = some e → Snd B K Φ e) : Snd B K Φ (.slc a lo hi sp p) := by
  intro Γ ρ r h Wc W pe A s X R
  simp only [x_ev_slc, Option.bind_eq_bind, Option.bind_eq_some_iff, Option.map_eq_some_iff] at h
  obtain ⟨r1, h1, x, hx, dl, hl, dh, hh, z, hz, rfl⟩ := h
  obtain ⟨il, hil, hz1⟩ := ob_some hz
  obtain ⟨ih, hih, hz2⟩ := ob_some hz1
  have hz := cut_inv hz2
  refine Subscript_ (useB O ha h1 hx X R fun u s1 e1 X1 q1 t1 => wpAny_Slice (useO O hlo hl hil X1 R fun vl s2 e2 X2 p2 => useO O hhi hh hih X2 R fun vh s3 e3 X3 p3 => ?_))
  rw [evalPart_none]
  refine wpAny_pure ?_
  have e13 := e2.trans e3
  have q3 := RepB.eff O X.tW' t1 q1 e13
  have eff := (e1.trans e13)
  rcases hz with ⟨l, rfl, rfl⟩ | ⟨l, rfl, rfl⟩
  · obtain ⟨a, vs, n, rfl, hg, hlim, ra⟩ := q3
    have L : ∀ o, (s3.heap.push o).IsList a vs := fun o => ⟨_, Heap.get?_push_of_some _ hg, rfl, n, rfl⟩
    have hsz := RepAll.length ra
    rw [Array.length_toList] at hsz
    refine tail_any (L _).typeIs slot_list_getitem.lookup (wpAny_getItem_list_slice (L _) (Heap.IsSliceOf.new ..) (part_of O vl) (part_of O vh) .none (by simp) ?_ (sizeLine_lim (by omega))) rfl
    rw [p2, p3, slicePick_plain]
    refine ⟨eff.trans ((Eff.push O _ s3.toks).trans (Eff.push O _ s3.toks)), ?_⟩
    refine rep_new_list O (fun b hb => by rw [Heap.size_push]; exact Nat.lt_succ_of_lt (X3.wlt b hb)) ?_ (Nat.le_trans (cutL_le _ _ _) hlim)
    rw [hsz]
    exact RepAll.move O (fun b o _ e => Heap.get?_push_of_some _ e) (fun b q => .inl q) _ _ (RepAll.take _ (RepAll.drop _ ra))
  · obtain ⟨t, rfl, hlim⟩ := strB q3
    refine tail_any (typeIs_str _ _ _) PySem.F.slot_str_getitem.lookup (wpAny_getItem_str_slice (l := vl) (u := vh) (st := none) ⟨_, Heap.get?_push_size _ rfl, rfl, rfl⟩ rfl ?_) rfl
    refine sliceMade_eq l t vl vh hlim fun t' k => ?_
    refine ⟨eff.trans (Eff.push O _ _), ?_⟩
    rw [p2, p3]
    exact rep_s (B := B) (h := s3.heap) (W := W) (Nat.le_trans (cutL_le _ _ _) hlim)
theorem pick_rev (vs : Array Value) : slicePick vs none none (some (-1)) = vs.toList.reverse.toArray := by
  have e : slicePick vs none none (some (-1)) = ((PySem.Builtin.Str.strSliceIndices none none (-1) vs.size).filterMap (vs[·]?)).toArray := rfl
  rw [e, picked_rev]
  congr 1
  have key : ∀ k, k ≤ vs.size → ((List.range k).map fun j => vs.size - 1 - j).filterMap (vs[·]?) = vs.toList.reverse.take k := by
    intro k
    induction k with
    | zero => intro _; simp
    | succ k ih =>
      intro hk
      rw [List.range_succ, List.map_append, List.filterMap_append, ih (by lia), List.take_add_one]
      congr 1
      have : vs.size - 1 - k < vs.size := by omega
      simp [List.getElem?_reverse, show k < vs.size by lia, List.filterMap_cons]
      rw [Array.getElem?_eq_getElem this]
  rw [key _ (Nat.le_refl _), List.take_of_length_le (by simp)]
theorem snd_rev {a : E} {cp np sp p : Pos} (ha : Snd B K Φ a) : Snd B K Φ (.rev a cp np sp p) := by
  intro Γ ρ r h Wc W pe A s X R
  simp only [x_ev_rev, Option.bind_eq_bind, Option.bind_eq_some_iff, Option.map_eq_some_iff] at h
  obtain ⟨r1, h1, x, hx, z, hz, rfl⟩ := h
  refine Subscript_ (useB O ha h1 hx X R fun u s1 e1 X1 q1 t1 => wpAny_Slice ?_)
  rw [evalPart_none]
  refine wpAny_pure (wpAny_pure ?_)
  rw [evalPart_some]
  refine UnaryOp_ (wpAny_Constant_int (P.neg_int ?_))
  obtain ⟨l, hl, rfl⟩ := om_some hz
  have := list?_eq hl; subst this
  obtain ⟨a, vs, n, rfl, hg, hlim, ra⟩ := q1
  have L : ∀ o, (s1.heap.push o).IsList a vs := fun o => ⟨_, Heap.get?_push_of_some _ hg, rfl, n, rfl⟩
  have hsz := RepAll.length ra
  rw [Array.length_toList] at hsz
  refine tail_any (L _).typeIs slot_list_getitem.lookup (wpAny_getItem_list_slice (L _) (Heap.IsSliceOf.new ..) .none .none (.int _ _) (by simp) ?_ (sizeLine_lim (by omega))) rfl
  rw [pick_rev O]
  refine ⟨e1.trans ((Eff.push O _ _).trans (Eff.push O _ _)), ?_⟩
  refine rep_new_list O (fun b hb => by rw [Heap.size_push]; exact Nat.lt_succ_of_lt (X1.wlt b hb)) ?_ (by rw [List.length_reverse]; exact hlim)
  exact RepAll.move O (fun b o _ e => Heap.get?_push_of_some _ e) (fun b q => .inl q) _ _ (RepAll.reverse ra)
noncomputable def SndL (B : Bs) (K : Nat) (Φ : Phi) (es : List E) : Prop := ∀ Γ ρ l, evL Φ Γ ρ es = some l → ∀ Wc W pe A s, Ctx B Γ Wc W pe ρ s → Room A K →
  wpAny B.M A (spliced (starEach (pyL B.nm es) pe)) (fun vs s' => Eff B s s' ∧ RepAll B s'.heap W l vs) noE s
theorem backTo_py (nm : Nat → Str) (p : Pos) (pe : Env) : ∀ es : List E, backTo p (starEach (pyL nm es) pe) = starEach (pyL nm es) pe
  | [] => rfl
  | e :: r => by
    rw [x_pyL_cons, starEach_py]
    have ih := backTo_py nm p pe r
    unfold backTo at ih ⊢
    rw [List.map_cons, ih]; rfl
theorem useL {es : List E} {l : List D} (hS : SndL B K Φ es) (h : evL Φ Γ ρ es = some l) (X : Ctx B Γ Wc W pe ρ s) (R : Room A K) {E : Value → Shared → Prop} {Q : List Value → Shared → Prop}
    (k : ∀ vs s', Eff B s s' → Ctx B Γ Wc W pe ρ s' → RepAll B s'.heap W l vs → Q vs s') : wpAny B.M A (spliced (starEach (pyL B.nm es) pe)) Q E s :=
  wpAny_mono (hS Γ ρ l h Wc W pe A s X R) (fun v s' h' => k v s' h'.1 (X.move O h'.1) h'.2) fun _ _ f => f.elim
theorem sndL_nil : SndL B K Φ [] := by
  intro Γ ρ l h Wc W pe A s X R
  simp only [x_evL_nil, Option.some.injEq] at h
  subst h
  exact wpAny_pure ⟨Eff.refl _, RepAll.nil⟩
theorem sndL_cons {e : E} {es : List E} (he : Snd B K Φ e) (hs : SndL B K Φ es) : SndL B K Φ (e :: es) := by
  intro Γ ρ l h Wc W pe A s X R
  simp only [x_evL_cons, Option.bind_eq_bind, Option.bind_eq_some_iff, Option.some.injEq] at h
  obtain ⟨r, h1, x, hx, y, hy, rfl⟩ := h
  rw [x_pyL_cons, starEach_py]
  exact Calls.spliced_cons (useD O he h1 hx X R fun v s1 e1 X1 q1 => useL O hs hy X1 R fun vs s2 e2 X2 q2 => ⟨e1.trans e2, RepAll.cons (Rep.eff O X.tW' q1 e2) q2⟩)
theorem snd_list {es : List E} {p : Pos} (hs : SndL B K Φ es) : Snd B K Φ (.list es p) := by
  intro Γ ρ r h Wc W pe A s X R
  simp only [x_ev_list, mkL, Option.bind_eq_bind, Option.bind_eq_some_iff, Option.map_eq_some_iff] at h
  obtain ⟨l, h1, d, hd, rfl⟩ := h
  split at hd
  · rename_i hl
    obtain rfl := Option.some.inj hd
    refine List_ ?_
    rw [backTo_py O]
    refine useL O hs h1 X R fun vs s1 e1 X1 q1 => ?_
    exact wpAny_newObj_type ⟨e1.trans (Eff.push O _ _), rep_new_list O X1.wlt (by simpa using q1) hl⟩ (by show vs.toArray.size ≤ sizeLine; rw [List.size_toArray, RepAll.length q1]; exact sizeLine_lim hl)
  · cases hd
theorem snd_tup {es : List E} {k : Nat} {p : Pos} (hs : SndL B K Φ es) : Snd B K Φ (.tup es k p) := by
  intro Γ ρ r h Wc W pe A s X R
  simp only [x_ev_tup, Option.bind_eq_bind, Option.bind_eq_some_iff] at h
  obtain ⟨l, h1, h⟩ := h
  split at h
  · rename_i hl
    obtain rfl := Option.some.inj h
    refine Tuple_ ?_
    rw [backTo_py O]
    refine useL O hs h1 X R fun vs s1 e1 X1 q1 => ?_
    exact wpAny_newObj_type ⟨e1.trans (Eff.push O _ _), rep_new_tup O X1.wlt (by simpa using q1) hl⟩ (by show vs.toArray.size ≤ sizeLine; rw [List.size_toArray, RepAll.length q1]; exact sizeLine_lim hl)
  · cases h
theorem sndT_name {x : Nat} {p : Pos} : SndT B K Φ (.name x p) := by
  intro Γ ρ b h Wc W pe A s X R
  simp only [x_evT_name] at h
  split at h
  · rename_i d hr
    cases d <;> simp only [D.truth, Option.some.injEq, reduceCtorEq] at h
    subst h
    refine isTrue_plain (e := .Name (B.nm x) p) (useD O (snd_name O (Φ := Φ) (K := K) (x := x) (p := p)) (x := .bool _) (r := .d (.bool _)) (by simp only [x_ev_name, hr]; rfl) rfl X R fun v s1 e1 X1 q1 => ?_)
    simp only [Rep] at q1
    subst q1
    exact wpAny_truthy_bool ⟨e1, rfl⟩
  · cases h
noncomputable def SndB (B : Bs) (K : Nat) (Φ : Phi) (op : BoolOp) (es : List E) : Prop := ∀ Γ ρ b, evB Φ Γ ρ op es = some b → ∀ Wc W pe A s p whole, Ctx B Γ Wc W pe ρ s → Room A K →
  wpAny B.M A (isTrue (.BoolOp op (pyL B.nm es) p) pe whole) (fun c s' => Eff B s s' ∧ c = b) noE s
theorem sndB_nil {op : BoolOp} : SndB B K Φ op [] := by
  intro Γ ρ b h Wc W pe A s p whole X R
  simp only [x_evB_nil, Option.some.injEq] at h
  subst h
  cases op
  · exact isTrue_and_nil ⟨Eff.refl _, rfl⟩
  · exact isTrue_or_nil ⟨Eff.refl _, rfl⟩
theorem sndB_cons {op : BoolOp} {e : E} {es : List E} (he : SndT B K Φ e) (hs : SndB B K Φ op es) : SndB B K Φ op (e :: es) := by
  intro Γ ρ b h Wc W pe A s p whole X R
  simp only [x_evB_cons, Option.bind_eq_bind, Option.bind_eq_some_iff] at h
  obtain ⟨t, h1, h⟩ := h
  rw [x_pyL_cons]
  cases op
  · refine isTrue_and (useT O he h1 X R fun s1 e1 X1 => ?_)
    cases t
    · obtain rfl := Option.some.inj h; exact ⟨e1, rfl⟩
    · exact wpAny_mono (hs Γ ρ b h Wc W pe A s1 p whole X1 R) (fun c s' h' => ⟨e1.trans h'.1, h'.2⟩) fun _ _ f => f
  · refine isTrue_or (useT O he h1 X R fun s1 e1 X1 => ?_)
    cases t
    · exact wpAny_mono (hs Γ ρ b h Wc W pe A s1 p whole X1 R) (fun c s' h' => ⟨e1.trans h'.1, h'.2⟩) fun _ _ f => f
    · obtain rfl := Option.some.inj h; exact ⟨e1, rfl⟩
theorem sndT_bop {op : BoolOp} {es : List E} {p : Pos} (hs : SndB B K Φ op es) : SndT B K Φ (.bop op es p) := by
  intro Γ ρ b h Wc W pe A s X R
  simp only [x_evT_bop] at h
  exact hs Γ ρ b h Wc W pe A s p _ X R
theorem snd_or {op : BoolOp} {es : List E} {p : Pos} (hes : ∀ e ∈ es, Snd B K Φ e) : Snd B K Φ (.bop op es p) := by
  intro Γ ρ r h Wc W pe A s X R
  rw [x_ev_bop] at h
  split at h
  case h_2 => cases h
  rename_i a b
  simp only [Option.bind_eq_bind, Option.bind_eq_some_iff] at h
  obtain ⟨r1, h1, x, hx, h⟩ := h
  refine BoolOp_or (useD O (hes a (by simp)) h1 hx X R fun v s1 e1 X1 q1 => ?_)
  split at h
  · obtain rfl := Option.some.inj h
    simp only [Rep] at q1
    subst q1
    exact wpAny_truthy_bool ⟨e1, by simp only [RPost, Rep]⟩
  · simp only [Rep] at q1
    subst q1
    refine wpAny_truthy_bool (BoolOp_one (wpAny_mono (hes b (by simp) Γ ρ r h Wc W pe A s1 X1 R) (fun v s' h' => ⟨e1.trans h'.1, RPost.back O e1 h'.2⟩) fun _ _ f => f))
  · cases h
noncomputable def SndC (B : Bs) (K : Nat) (Φ : Phi) (es : List E) : Prop := ∀ Γ ρ b, evC Φ Γ ρ es = some b → ∀ Wc W pe A s, Ctx B Γ Wc W pe ρ s → Room A K →
  wpAny B.M A (forIn (pyL B.nm es) true fun c r => if r = true then do let ok ← isTrue c pe (eval c pe); pure (ForInStep.yield ok) else pure (ForInStep.yield r)) (fun c s' => Eff B s s' ∧ c = b) noE s
theorem forIn_false : ∀ (es : List Expr) (pe : Env) (f : Expr → Sem Bool), (forIn es false fun c r => if r = true then do let ok ← f c; pure (ForInStep.yield ok) else pure (ForInStep.yield r)) = (pure false : Sem Bool)
  | [], _, _ => rfl
  | e :: es, pe, f => by
    rw [List.forIn_cons]
    exact forIn_false es pe f
theorem sndC_nil : SndC B K Φ [] := by
  intro Γ ρ b h Wc W pe A s X R
  simp only [x_evC_nil, Option.some.injEq] at h
  subst h
  exact wpAny_pure ⟨Eff.refl _, rfl⟩
theorem sndC_cons {e : E} {es : List E} (he : SndT B K Φ e) (hs : SndC B K Φ es) : SndC B K Φ (e :: es) := by
  intro Γ ρ b h Wc W pe A s X R
  simp only [x_evC_cons, Option.bind_eq_bind, Option.bind_eq_some_iff] at h
  obtain ⟨t, h1, h⟩ := h
  rw [x_pyL_cons, List.forIn_cons]
  simp only [if_true]
  refine wpAny_bind (wpAny_bind (useT O he h1 X R fun s1 e1 X1 => wpAny_pure ?_))
  cases t
  · simp only [Bool.false_eq_true, if_false, Option.some.injEq] at h
    subst h
    dsimp only
    rw [forIn_false O _ pe (fun c => isTrue c pe (eval c pe))]
    exact wpAny_pure ⟨e1, rfl⟩
  · simp only [if_true] at h
    exact wpAny_mono (hs Γ ρ b h Wc W pe A s1 X1 R) (fun c s' h' => ⟨e1.trans h'.1, h'.2⟩) fun _ _ f => f
end
end Mine
namespace Mine
variable {B : Bs} {K : Nat}
theorem evalArgs_any {M : Model} {A : Around} {E : Value → Shared → Prop} {s : Shared} {f : Value} {ts : List (Bool × Sem Value)} {Q : Args → Shared → Prop} (hp : ∀ x ∈ ts, x.1 = false)
    (h : wpAny M A (spliced ts) (fun vs s' => Q ⟨vs, []⟩ s') E s) : wpAny M A (evalArgs f true ts []) Q E s := by
  cases ts with
  | nil =>
    unfold evalArgs
    show wpAny M A (spliced [] >>= _) Q E s
    refine wpAny_bind (wpAny_mono h (fun vs s' h' => ?_) fun _ _ x => x)
    refine wpAny_holding ?_
    exact wpAny_bind (wpAny_pure (wpAny_bind (wpAny_pure (wpAny_pure h'))))
  | cons x r =>
    obtain ⟨b, t⟩ := x
    have : b = false := hp _ List.mem_cons_self
    subst this
    exact evalArgs_plain h
theorem plain_py (nm : Nat → Str) (pe : Env) : ∀ es : List E, ∀ x ∈ starEach (pyL nm es) pe, x.1 = false
  | [], x, h => nomatch (show x ∈ ([] : List (Bool × Sem Value)) from h)
  | e :: r, x, h => by
    rw [x_pyL_cons, starEach_py] at h
    rcases List.mem_cons.mp h with rfl | h
    · rfl
    · exact plain_py nm pe r x h
section
variable {Φ : Phi} {K : Nat} (O : B.Ok)
include O
variable {Γ : Kinds} {ρ : REnv} {Wc W : Addr → Prop} {pe : Env} {A : Around} {s : Shared}
theorem Ctx.ns (X : Ctx B Γ Wc W pe ρ s) : s.heap.Ns pe.globals B.mg := by
  rw [X.glob]
  exact Heap.Ns.moved O.g fun o e => X.good.base _ _ O.gT e
theorem Ctx.nb (X : Ctx B Γ Wc W pe ρ s) : s.heap.Ns pe.builtins B.mb := by
  rw [X.blt]
  exact Heap.Ns.moved O.b fun o e => X.good.base _ _ O.bT e
theorem ld_blt {f : Nat} {v : Value} {p : Pos} {E : Value → Shared → Prop} {Q : Value → Shared → Prop} (X : Ctx B Γ Wc W pe ρ s) (hk : Γ f = some .globalImplicit) (hb : bltVal f = some v) (h : Q v s) :
    wpAny B.M A (eval (.Name (B.nm f) p) pe) Q E s :=
  Name_function_global X.fn (X.kinds _ _ hk).1 (loadGlobal_builtin (X.ns O) (O.blts _ _ hb).1 (X.nb O) (O.blts _ _ hb).2 h) (O.dbg f)
theorem ld_def {f : Nat} {v : Value} {p : Pos} {E : Value → Shared → Prop} {Q : Value → Shared → Prop} (X : Ctx B Γ Wc W pe ρ s) (hk : Γ f = some .globalImplicit) (hb : B.mg (B.nm f) = some v) (h : Q v s) :
    wpAny B.M A (eval (.Name (B.nm f) p) pe) Q E s :=
  Name_function_global X.fn (X.kinds _ _ hk).1 (loadGlobal_global (X.ns O) hb h) (O.dbg f)
theorem call_at {fa : Addr} {fo : Obj} {fd : FuncData} {es : List E} {l : List D} {p : Pos} {E : Value → Shared → Prop} {Q : Value → Shared → Prop} (hS : SndL B K Φ es) (hl : evL Φ Γ ρ es = some l) (X : Ctx B Γ Wc W pe ρ s) (R : Room A K)
    (hT : ¬ B.T fa) (hg : s.heap.get? fa = some fo) (hd : fo.data = .func fd)
    (k : ∀ vs s', Eff B s s' → Ctx B Γ Wc W pe ρ s' → RepAll B s'.heap W l vs → codeAny B.M A (.call (.ref fa) ⟨vs, []⟩) (fun r s'' => ∃ v, r = .ok (.ret v) ∧ Q v s'') s') :
    wpAny B.M A (callWith p (.ref fa) [] (backTo p (starEach (pyL B.nm es) pe)) []) Q E s := by
  rw [backTo_py O]
  refine callWith_function (o := fo) (fd := fd) (evalArgs_any (plain_py _ _ _) (useL O hS hl X R fun vs s1 e1 X1 q1 => ⟨⟨e1.keep _ _ hT hg, hd⟩, ?_⟩))
  refine wpAny_call (codeAny_mono (k vs s1 e1 X1 q1) ?_)
  rintro r s2 ⟨v, rfl, hv⟩
  exact hv
theorem snd_call {f : Nat} {es : List E} {fp p : Pos} (P : PhiOk B K Φ) (hS : SndL B K Φ es) : Snd B K Φ (.call f es fp p) := by
  intro Γ ρ r h Wc W pe A s X R
  simp only [x_ev_call, Option.bind_eq_bind, Option.bind_eq_some_iff] at h
  obtain ⟨l, hl, h⟩ := h
  split at h
  · rename_i hk
    simp only [Option.map_eq_some_iff] at h
    obtain ⟨d, hd, rfl⟩ := h
    obtain ⟨fa, fo, fd, h1, h2, h3, h4, c⟩ := P.call _ _ _ hd
    refine wpAny_Call_Name_kw (ld_def O X hk h1 ?_)
    refine call_at O hS hl X R h2 (X.good.base _ _ h2 h3) h4 fun vs s1 e1 X1 q1 => ?_
    refine codeAny_mono (c A s1 W vs X1.good R X1.tW' X1.wlt q1) ?_
    rintro r s2 ⟨v, rfl, e2, q2⟩
    exact ⟨v, rfl, e1.trans e2, q2⟩
  · exact nomatch h
theorem sndT_call {f : Nat} {es : List E} {fp p : Pos} (P : PhiOk B K Φ) (hS : SndL B K Φ es) : SndT B K Φ (.call f es fp p) := by
  intro Γ ρ b h Wc W pe A s X R
  simp only [x_evT_call, Option.bind_eq_bind, Option.bind_eq_some_iff] at h
  obtain ⟨l, hl, h⟩ := h
  split at h
  case isFalse => exact nomatch h
  rename_i hk
  split at h
  case h_2 => exact nomatch h
  rename_i b' hb
  cases h
  refine isTrue_plain (e := .Call (.Name (B.nm f) fp) (pyL B.nm es) [] p) (useD O (snd_call O (Φ := Φ) P hS (f := f) (fp := fp) (p := p)) (r := .d (.bool b)) (x := .bool b) (by simp only [x_ev_call, hl, Option.bind_eq_bind, Option.bind_some, hk, if_true, hb, Option.map_some]) rfl X R fun v s1 e1 X1 q1 => ?_) rfl
  simp only [Rep] at q1
  subst q1
  exact wpAny_truthy_bool ⟨e1, rfl⟩
theorem lam_call {id : Nat} {caps l : List D} {r : Mine.R} {es : List E} {p : Pos} {f : Value} (P : PhiOk B K Φ) (hS : SndL B K Φ es) (X : Ctx B Γ Wc W pe ρ s) (R : Room A K) (hf : Rep B s.heap W (.lam id caps) f)
    (hl : evL Φ Γ ρ es = some l) (h : (match Φ.lam id (caps ++ l) with | some d => some (Mine.R.d d) | none => (Φ.gen id (caps ++ l)).map .it) = some r) :
    wpAny B.M A (callWith p f [] (backTo p (starEach (pyL B.nm es) pe)) []) (fun v s' => Eff B s s' ∧ RPost B K s W r v s') noE s := by
  simp only [Rep] at hf
  obtain ⟨fa, cv, rfl, hw, hlam, hc⟩ := hf
  have nT : ¬ B.T fa := fun t => hw (X.tW' _ t)
  have obj : ∃ fo fd, s.heap.get? fa = some fo ∧ fo.data = .func fd := O.lamfun _ _ _ _ _ hlam
  obtain ⟨fo, fd, hg, hd⟩ := obj
  refine call_at O hS hl X R nT hg hd fun vs s1 e1 X1 q1 => ?_
  have hc1 := RepAll.eff O X.tW' hc e1
  have hl1 : B.Lam id cv s1.heap W fa := O.lamkeep _ _ _ _ _ _ _ hlam (e1.kW X.tW') (fun b q => .inl q)
  split at h
  · rename_i d hd
    obtain rfl := Option.some.inj h
    refine codeAny_mono (P.lam _ _ _ _ hd fa cv A s1 W vs X1.good R X1.tW' X1.wlt hl1 hc1 q1) ?_
    rintro r s2 ⟨v, rfl, e2, q2⟩
    exact ⟨v, rfl, e1.trans e2, q2⟩
  · rename_i hn
    simp only [Option.map_eq_some_iff] at h
    obtain ⟨l', hg', rfl⟩ := h
    refine codeAny_mono (P.gen _ _ _ _ hn hg' fa cv A s1 W vs X1.good R X1.tW' X1.wlt hl1 hc1 q1) ?_
    rintro r s2 ⟨v, rfl, e2, q2⟩
    exact ⟨v, rfl, e1.trans e2, RPost.back O (r := .it l') e1 q2⟩
theorem snd_callv {f : Nat} {es : List E} {fp p : Pos} (P : PhiOk B K Φ) (hS : SndL B K Φ es) : Snd B K Φ (.callv f es fp p) := by
  intro Γ ρ r h Wc W pe A s X R
  simp only [x_ev_callv, Option.bind_eq_bind] at h
  split at h
  · rename_i id caps hr
    simp only [Option.bind_eq_some_iff] at h
    obtain ⟨l, hl, h⟩ := h
    obtain ⟨v, lv, rv⟩ := X.vars _ _ hr
    refine wpAny_Call_Name_kw (wpAny_Name (Ctx.name O X lv ?_ (O.cld f)) (O.dbg f))
    exact lam_call O P hS X R rv hl h
  · cases h
theorem arm_calle {f : E} (hf : f.isCall = true) (es : List E) (p : Pos) (pe : Env) (nm : Nat → Str) : eval (.Call (f.py nm) (pyL nm es) [] p) pe = (do callWith p (← eval (f.py nm) pe) [] (backTo p (starEach (pyL nm es) pe)) []) := by
  cases f <;> first | (cases hf; done) | rfl
theorem snd_calle {f : E} {es : List E} {p : Pos} (P : PhiOk B K Φ) (hf : Snd B K Φ f) (hS : SndL B K Φ es) : Snd B K Φ (.calle f es p) := by
  intro Γ ρ r h Wc W pe A s X R
  simp only [x_ev_calle] at h
  split at h
  · exact nomatch h
  rename_i hcall
  simp only [Option.bind_eq_bind, Option.bind_eq_some_iff] at h
  obtain ⟨rf, h1, h⟩ := h
  split at h
  · rename_i id caps hd
    simp only [Option.bind_eq_some_iff] at h
    obtain ⟨l, hl, h⟩ := h
    rw [x_py_calle, arm_calle O (by simpa using hcall)]
    refine wpAny_bind (useD O hf h1 hd X R fun v s1 e1 X1 q1 => ?_)
    refine wpAny_mono (lam_call O P hS X1 R q1 hl h) (fun v s2 h2 => ⟨e1.trans h2.1, RPost.back O e1 h2.2⟩) fun _ _ f => f
  · exact nomatch h
end
end Mine
namespace Mine
variable {B : Bs} {K : Nat}
theorem EffP.refl (p : Pv) (s : Shared) : EffP B p s s := ⟨fun _ _ _ _ e => e, fun _ _ _ e => e, Nat.le_refl _, id, fun _ _ _ e => e, Nat.le_refl _, id, rfl⟩
theorem EffP.trans {p p' : Pv} {s s' s'' : Shared} (a : EffP B p s s') (b : EffP B p' s' s'') (ha : ∀ x, p'.a x → p.a x ∨ s.heap.objs.size ≤ x) (hg : ∀ i, p'.g i → p.g i ∨ s.gens.size ≤ i) : EffP B p s s'' where
  keep := fun x o t n e => b.keep x o t (fun q => (ha x q).elim n fun z => absurd (Heap.lt_size e) (Nat.not_lt.mpr z)) (a.keep x o t n e)
  ck := fun x o t e => b.ck x o t (a.ck x o t e)
  size := Nat.le_trans a.size b.size
  ti := fun t => b.ti (a.ti t)
  gens := fun i x n e => b.gens i x (fun q => (hg i q).elim n fun z => by
    have := (Array.getElem?_eq_some_iff.mp e).1; lia) (a.gens i x n e)
  gsize := Nat.le_trans a.gsize b.gsize
  bare := fun t => b.bare (a.bare t)
  os := b.os.trans a.os
theorem Eff.toP {s s' : Shared} (e : Eff B s s') (p : Pv) : EffP B p s s' where
  keep := fun x o t _ q => e.keep x o t q
  ck := e.ck
  size := e.size
  ti := e.ti
  gens := fun i x _ q => e.gens i x q
  gsize := by
    rcases Nat.lt_or_ge s'.gens.size s.gens.size with h | h
    · have := e.gens s'.gens.size s.gens[s'.gens.size] (by simp [h])
      simp at this
    · exact h
  bare := e.bare
  os := e.os
theorem EffP.mono {p p' : Pv} {s s' : Shared} (e : EffP B p s s') (ha : ∀ b, p.a b → p'.a b) (hg : ∀ i, p.g i → p'.g i) : EffP B p' s s' :=
  ⟨fun b o t n q => e.keep b o t (fun x => n (ha b x)) q, e.ck, e.size, e.ti, fun i x n q => e.gens i x (fun y => n (hg i y)) q, e.gsize, e.bare, e.os⟩
theorem EffP.toEff {p : Pv} {s₀ s s' : Shared} (a : Eff B s₀ s) (e : EffP B p s s') (ha : ∀ b, p.a b → s₀.heap.objs.size ≤ b) (hg : ∀ i, p.g i → s₀.gens.size ≤ i) : Eff B s₀ s' where
  keep := fun b o t q => e.keep b o t (fun x => absurd (Heap.lt_size q) (Nat.not_lt.mpr (ha b x))) (a.keep b o t q)
  ck := fun b o t q => e.ck b o t (a.ck b o t q)
  size := Nat.le_trans a.size e.size
  ti := fun t => e.ti (a.ti t)
  gens := fun i x q => e.gens i x (fun y => by have := (Array.getElem?_eq_some_iff.mp q).1; have := hg i y; lia) (a.gens i x q)
  bare := fun t => e.bare (a.bare t)
  os := e.os.trans a.os
theorem EffP.kW {p : Pv} {s s' : Shared} {W : Addr → Prop} (e : EffP B p s s') (tW : ∀ b, B.T b → W b) (hp : ∀ b, p.a b → W b) : ∀ b o, (¬ W b ∨ isCodeO o) → s.heap.get? b = some o → s'.heap.get? b = some o :=
  fun b o n q => n.elim (fun n => e.keep b o (fun t => n (tW b t)) (fun z => n (hp b z)) q) fun n => e.ck b o n q
theorem Good.moveP {p : Pv} {s s' : Shared} (g : Good B s) (e : EffP B p s s') (h : ∀ b, p.a b → B.h₀.objs.size ≤ b) : Good B s' :=
  ⟨fun b o t x => e.keep b o t (fun q => absurd (Heap.lt_size x) (Nat.not_lt.mpr (h b q))) (g.base b o t x), Nat.le_trans g.size e.size, e.ti g.ti⟩
theorem let_go {A : Around} {E : Value → Shared → Prop} {s : Shared} {elts : List Expr} {k : Nat} {pos : Pos} {I : Addr} {v : Value} {T : String} {Q : Unit → Shared → Prop} (hT : s.TypeIs (.ref I) T) (ok : okTy T = true) (hQ : Q () s) :
    wpAny B.M A (letOwnedTupleGo (.Tuple elts k pos) (.ref I) v) Q E s := by
  obtain ⟨o, ho, hc⟩ := hT
  have key : ["enumerate", "zip", "dict_itemiterator", "dict_reverseitemiterator", "odict_iterator", "itertools.zip_longest", "itertools.pairwise"].contains T = false := by
    unfold okTy at ok
    simp only [List.contains_cons, List.contains_nil, Bool.or_false, Bool.or_eq_true, beq_iff_eq] at ok
    rcases ok with rfl | rfl | rfl | rfl | rfl | rfl <;> decide
  cases v with
  | ref t =>
    unfold letOwnedTupleGo
    refine wpAny_bind (wpAny_load ho ?_)
    rw [hc]
    split
    · rename_i name fs h1 h2
      cases h1
      rw [if_neg (by intro h; rw [key] at h; simp at h)]
      exact wpAny_pure hQ
    · exact wpAny_pure hQ
  | _ => exact wpAny_pure hQ
theorem let_go_name {A : Around} {E : Value → Shared → Prop} {s : Shared} {x : Str} {pos : Pos} {it v : Value} {Q : Unit → Shared → Prop} (hQ : Q () s) : wpAny B.M A (letOwnedTupleGo (.Name x pos) it v) Q E s := wpAny_pure hQ
structure WkI (B : Bs) (F : Addr → Prop) (I : Addr) (fp : List Addr) (n : Nat) (P : Nat → Value → Prop) (St : Nat → Heap → Prop) (ds : List D) (l : List D) (p : Pv) (s : Shared) : Prop where
  at' : ∃ i, i ≤ n ∧ l = ds.drop i ∧ St i s.heap
  pa : p.a = fun b => b = I
  pg : p.g = fun _ => False
  fp : ∀ b ∈ fp, b = I ∨ F b
  low : I < s.heap.objs.size ∧ ¬ B.T I ∧ ¬ F I
  ft : ∀ b, F b → ¬ B.T b
  len : ds.length = n
  its : ∀ j v d, ds[j]? = some d → P j v → Rep B s.heap (fun b => ¬ F b) d v
section
variable (O : B.Ok)
include O
theorem wk_ok {F : Addr → Prop} {I : Addr} {fp : List Addr} {n : Nat} {P : Nat → Value → Prop} {St : Nat → Heap → Prop} {ds : List D} (W : ∀ A : Around, A.handled = none → Walks B.prog B.w A I fp [I] n P St)
    (hty : ∀ i h, St i h → ∃ o T, h.get? I = some o ∧ o.cls = .type T ∧ okTy T = true) : IterOk B K F I (WkI B F I fp n P St ds) where
  sub := fun l p s h b hb => by rw [h.pa] at hb; subst hb; exact ⟨h.low.2.2, h.low.2.1, h.low.1⟩
  subg := fun l p s h i hi => by rw [h.pg] at hi; exact hi.elim
  ft := fun l p s h => h.ft
  ty := fun l p s h => by
    obtain ⟨i, _, _, st⟩ := h.at'
    obtain ⟨o, T, h1, h2, h3⟩ := hty i _ st
    exact ⟨T, ⟨o, h1, h2⟩, h3⟩
  stay := fun l p s s' h k ck hs _ g => by
    have kf : ∀ b ∈ fp, ∀ o, s.heap.get? b = some o → s'.heap.get? b = some o := fun b hb o e => by
      rcases h.fp b hb with rfl | hF
      · exact k _ _ h.low.2.1 (.inr (by rw [h.pa])) e
      · exact k _ _ (h.ft b hF) (.inl hF) e
    refine ⟨?_, h.pa, h.pg, h.fp, ⟨Nat.lt_of_lt_of_le h.low.1 hs, h.low.2⟩, h.ft, h.len, fun j v d e q => ?_⟩
    · obtain ⟨i, hi, hl, st⟩ := h.at'
      exact ⟨i, hi, hl, (W {} rfl).frame _ _ _ st kf⟩
    · exact Rep.move O (fun b o hb e => hb.elim (fun hb => k b o (h.ft b (Classical.not_not.mp hb)) (.inl (Classical.not_not.mp hb)) e) fun hb => ck b o hb e) (fun b q => .inl q) d v (h.its j v d e q)
  next := fun d l p s A E Q h g R k => by
    obtain ⟨i, hi, hl, st⟩ := h.at'
    have hd : ds[i]? = some d := by
      have := congrArg List.head? hl
      rw [List.head?_drop] at this
      rw [← this]; rfl
    have hlt : i < n := by
      rw [← h.len]
      exact (List.getElem?_eq_some_iff.mp hd).1
    refine Mine.wpAny_size ((W A R.handled).item i s _ _ hlt st fun v h' tk hP st' hk hsz => ?_)
    have keep : ∀ b o, b ≠ I → s.heap.get? b = some o → h'.get? b = some o := fun b o hb e => hk b o (by simpa using hb) e
    have nc : ∀ b o, isCodeO o → s.heap.get? b = some o → b ≠ I := fun b o hc e q => by
      subst q
      obtain ⟨oI, T, hoI, hcl, hok⟩ := hty _ _ st
      obtain rfl := Option.some.inj (hoI.symm.trans e)
      rw [hc.1] at hcl; cases hcl
      exact absurd hok (by decide)
    have hrep : ∀ j v d, ds[j]? = some d → P j v → Rep B h' (fun b => ¬ F b) d v := fun j v d e q =>
      Rep.move O (fun b o hb e => keep b o (fun x => hb.elim (fun hb => h.low.2.2 (x ▸ Classical.not_not.mp hb)) fun hb => nc b o hb e x) e) (fun b q => .inl q) d v (h.its j v d e q)
    refine k v _ p ⟨fun b o t n e => keep b o (fun x => n (by rw [h.pa]; exact x)) e, fun b o hc e => keep b o (nc b o hc e) e, hsz, fun t => ?_, fun _ _ _ e => e, Nat.le_refl _, id, rfl⟩ (fun _ q => q) (fun _ q => .inl q) rfl (hrep i v d hd hP) ?_
    · exact O.tikeep _ _ t fun b o tb e => keep b o (fun x => tb.elim (fun tb => h.low.2.1 (x ▸ tb)) fun hc => nc b o hc e x) e
    · refine ⟨⟨i + 1, hlt, ?_, st'⟩, h.pa, h.pg, h.fp, ⟨Nat.lt_of_lt_of_le h.low.1 hsz, h.low.2⟩, h.ft, h.len, hrep⟩
      have := congrArg List.tail hl
      rw [List.tail_drop] at this
      exact this
  done := fun p s A E Q h g R k => by
    obtain ⟨i, hi, hl, st⟩ := h.at'
    have : i = n := by
      have := congrArg List.length hl
      rw [List.length_drop, List.length_nil, h.len] at this
      lia
    subst this
    refine Mine.wpAny_size ((W A R.handled).done s _ _ st fun h' tk hk hsz => ?_)
    have keep : ∀ b o, b ≠ I → s.heap.get? b = some o → h'.get? b = some o := fun b o hb e => hk b o (by simpa using hb) e
    have nc : ∀ b o, isCodeO o → s.heap.get? b = some o → b ≠ I := fun b o hc e q => by
      subst q
      obtain ⟨oI, T, hoI, hcl, hok⟩ := hty _ _ st
      obtain rfl := Option.some.inj (hoI.symm.trans e)
      rw [hc.1] at hcl; cases hcl
      exact absurd hok (by decide)
    refine k _ ⟨fun b o t n e => keep b o (fun x => n (by rw [h.pa]; exact x)) e, fun b o hc e => keep b o (nc b o hc e) e, hsz, fun t => ?_, fun _ _ _ e => e, Nat.le_refl _, id, rfl⟩
    exact O.tikeep _ _ t fun b o tb e => keep b o (fun x => tb.elim (fun tb => h.low.2.1 (x ▸ tb)) fun hc => nc b o hc e x) e
  self := fun l p s A E Q h g R hQ => by
    obtain ⟨i, _, _, st⟩ := h.at'
    exact (W A R.handled).self i s Q E st hQ
end
end Mine
namespace Mine
variable {B : Bs} {K : Nat}
theorem range_size {n : Int} (h0 : 0 ≤ n) : Builtin.Range.rangeSize 0 n 1 = n.toNat := by
  unfold Builtin.Range.rangeSize
  simp only [show (1 : Int) > 0 by decide, if_true, Int.sub_zero, Int.ediv_one]
  split <;> lia
theorem range_small {n : Int} (h0 : 0 ≤ n) (hl : n ≤ 1048576) : Builtin.Range.small 0 n 1 = true := by
  unfold Builtin.Range.small
  rw [range_size h0]
  unfold Builtin.Range.rangeFitsLong
  simp only [show (1 : Int) > 0 by decide, if_true, Bool.and_eq_true, Bool.or_eq_true, decide_eq_true_eq, beq_iff_eq]
  lia
noncomputable abbrev Fz (W : Addr → Prop) (h : Heap) : Addr → Prop := fun b => ¬ W b ∧ b < h.objs.size
noncomputable def ItAt (B : Bs) (K : Nat) (s₀ : Shared) (W : Addr → Prop) (it : Addr) (F : Addr → Prop) (p : Pv) (I : List D → Pv → Shared → Prop) (items : List D) (s : Shared) : Prop :=
  IterOk B K F it I ∧ I items p s ∧ (∀ b, F b → ¬ W b ∧ b < s.heap.objs.size) ∧ (∀ b, p.a b → s₀.heap.objs.size ≤ b) ∧ (∀ i, p.g i → s₀.gens.size ≤ i)
section
variable (O : B.Ok)
include O
variable {Γ : Kinds} {ρ : REnv} {Wc W : Addr → Prop} {pe : Env} {A : Around} {s₀ s : Shared}
theorem RepAll.frozen {ds : List D} {vs : List Value} {W : Addr → Prop} {h : Heap} (r : RepAll B h W ds vs) : RepAll B h (fun b => ¬ Fz W h b) ds vs :=
  RepAll.move O (fun _ _ _ e => e) (fun b q => by
    by_cases w : W b
    · exact .inl w
    · refine .inr (Heap.get?_none_of_le ?_)
      rcases Nat.lt_or_ge b h.objs.size with z | z
      · exact absurd ⟨w, z⟩ q
      · exact z) _ _ r
theorem iter_new {o : Obj} {fp : List Addr} {n : Nat} {P : Nat → Value → Prop} {St : Nat → Heap → Prop} {items : List D} {T : String} (W' : ∀ A : Around, A.handled = none → Walks B.prog B.w A s.heap.objs.size fp [s.heap.objs.size] n P St)
    (hty : ∀ i h, St i h → ∃ o T, h.get? s.heap.objs.size = some o ∧ o.cls = .type T ∧ okTy T = true) (tW : ∀ b, B.T b → W b) (wlt : ∀ b, W b → b < s.heap.objs.size) (e₀ : Eff B s₀ s)
    (hfp : ∀ b ∈ fp, b = s.heap.objs.size ∨ (¬ W b ∧ b < s.heap.objs.size)) (hst : St 0 (s.heap.push o)) (hlen : items.length = n)
    (hits : ∀ j v d, items[j]? = some d → P j v → Rep B s.heap (fun b => ¬ Fz W s.heap b) d v) :
    ∃ F p I, ItAt B K s₀ W s.heap.objs.size F p I items { s with heap := s.heap.push o } := by
  refine ⟨Fz W s.heap, ⟨fun b => b = s.heap.objs.size, fun _ => False⟩, WkI B (Fz W s.heap) s.heap.objs.size fp n P St items, wk_ok O W' hty, ?_, ?_, ?_, ?_⟩
  · refine ⟨⟨0, Nat.zero_le _, rfl, hst⟩, rfl, rfl, hfp, ⟨by rw [Heap.size_push]; exact Nat.lt_succ_self _, fun t => Nat.lt_irrefl _ (wlt _ (tW _ t)), fun q => Nat.lt_irrefl _ q.2⟩, fun b q t => q.1 (tW _ t), hlen, fun j v d e q => ?_⟩
    exact Rep.move O (fun b o _ e => Heap.get?_push_of_some _ e) (fun b q => .inl q) d v (hits j v d e q)
  · intro b q
    exact ⟨q.1, by rw [Heap.size_push]; exact Nat.lt_succ_of_lt q.2⟩
  · intro b q
    subst q
    exact e₀.size
  · intro i q
    exact q.elim
theorem iter_new' {o : Obj} {fp : List Addr} {n : Nat} {P : Nat → Value → Prop} {St : Nat → Heap → Prop} {items : List D} (W' : ∀ A : Around, A.handled = none → Walks B.prog B.w A s.heap.objs.size fp [s.heap.objs.size] n P St)
    (hty : ∀ i h, St i h → ∃ o T, h.get? s.heap.objs.size = some o ∧ o.cls = .type T ∧ okTy T = true) (tW : ∀ b, B.T b → W b) (wlt : ∀ b, W b → b < s.heap.objs.size)
    (hfp : ∀ b ∈ fp, b = s.heap.objs.size ∨ (¬ W b ∧ b < s.heap.objs.size)) (hst : St 0 (s.heap.push o)) (hlen : items.length = n)
    (hits : ∀ j v d, items[j]? = some d → P j v → Rep B s.heap (fun b => ¬ Fz W s.heap b) d v) :
    ∃ I, IterOk B K (Fz W s.heap) s.heap.objs.size I ∧ I items ⟨fun b => b = s.heap.objs.size, fun _ => False⟩ { s with heap := s.heap.push o } := by
  refine ⟨WkI B (Fz W s.heap) s.heap.objs.size fp n P St items, wk_ok O W' hty, ?_⟩
  refine ⟨⟨0, Nat.zero_le _, rfl, hst⟩, rfl, rfl, hfp, ⟨by rw [Heap.size_push]; exact Nat.lt_succ_self _, fun t => Nat.lt_irrefl _ (wlt _ (tW _ t)), fun q => Nat.lt_irrefl _ q.2⟩, fun b q t => q.1 (tW _ t), hlen, fun j v d e q => ?_⟩
  exact Rep.move O (fun b o _ e => Heap.get?_push_of_some _ e) (fun b q => .inl q) d v (hits j v d e q)
theorem it_at {it : Addr} {s' : Shared} {I : List D → Pv → Shared → Prop} {items : List D} (e₀ : Eff B s₀ s) (hit : it = s.heap.objs.size) (e : Eff B s s') (ok : IterOk B K (Fz W s.heap) it I) (hI : I items ⟨fun b => b = it, fun _ => False⟩ s') :
    ItAt B K s₀ W it (Fz W s.heap) ⟨fun b => b = it, fun _ => False⟩ I items s' :=
  ⟨ok, hI, fun b q => ⟨q.1, Nat.lt_of_lt_of_le q.2 e.size⟩, fun b q => by subst q; rw [hit]; exact e₀.size, fun i q => q.elim⟩
omit O in
theorem asI_inv {items : List D} : ∀ {x : D}, (Mine.R.d x).asI = some items → (∃ l, x = .list l ∧ l = items) ∨ (∃ l, x = .tup l ∧ l = items) ∨ ∃ l, x = .str l ∧ (l.map fun c => D.str [c]) = items := fun {x} h => by
  cases x
  case list l => exact .inl ⟨l, rfl, Option.some.inj h⟩
  case tup l => exact .inr (.inl ⟨l, rfl, Option.some.inj h⟩)
  case str l => exact .inr (.inr ⟨l, rfl, Option.some.inj h⟩)
  all_goals exact nomatch h
theorem iter_okD {x : D} {v : Value} {items : List D} {E : Value → Shared → Prop} {Q : Value → Shared → Prop} (h : (Mine.R.d x).asI = some items) (tW : ∀ b, B.T b → W b) (wlt : ∀ b, W b → b < s.heap.objs.size) (rp : Rep B s.heap W x v)
    (k : ∀ I s', IterOk B K (Fz W s.heap) s.heap.objs.size I → I items ⟨fun b => b = s.heap.objs.size, fun _ => False⟩ s' → items.length ≤ lim → Eff B s s' → Q (.ref s.heap.objs.size) s') : wpAny B.M A (pyIter v) Q E s := by
    rcases asI_inv h with ⟨ds, rfl, rfl⟩ | ⟨ds, rfl, rfl⟩ | ⟨l, rfl, rfl⟩
    case inl =>
      simp only [Rep] at rp
      obtain ⟨a, vs, n, rfl, hw, hg, hl, ra⟩ := rp
      have hlt := Heap.lt_size hg
      have L : s.heap.IsList a vs := ⟨_, hg, rfl, n, rfl⟩
      refine wpAny_pyIter_list L ?_
      obtain ⟨I, ok, hI⟩ := iter_new' O (K := K) (s := s) (W := W) (o := { cls := .type "list_iterator", data := .fields #[.ref a, .int 0 0] }) (fun A hA => Walks.list hA s.heap.objs.size a (Nat.ne_of_lt hlt) vs)
        (fun i h st => by obtain ⟨⟨o, h1, h2, _⟩, _⟩ := st; exact ⟨o, _, h1, h2, by decide⟩) tW wlt (items := ds) (by
          intro b hb
          rcases List.mem_cons.mp hb with rfl | hb
          · exact .inl rfl
          · rcases List.mem_cons.mp hb with rfl | hb
            · exact .inr ⟨hw, hlt⟩
            · cases hb) ⟨⟨_, Heap.get?_push_size _ rfl, rfl, rfl⟩, L.push _⟩ (by have := RepAll.length ra; simpa using this.symm) (fun j v d e q => by
          obtain ⟨v', hv, rv⟩ := RepAll.get (RepAll.frozen O ra) e
          rw [Array.getElem?_toList] at hv
          obtain rfl := Option.some.inj (hv.symm.trans q); exact rv)
      exact k I _ ok hI hl (Eff.push O _ _)
    case inr.inl =>
      simp only [Rep] at rp
      obtain ⟨a, vs, n, rfl, hw, hg, hl, ra⟩ := rp
      have hlt := Heap.lt_size hg
      have L : s.heap.IsTuple a vs := ⟨_, hg, rfl, n, rfl⟩
      refine wpAny_pyIter_tuple L ?_
      obtain ⟨I, ok, hI⟩ := iter_new' O (K := K) (s := s) (W := W) (o := { cls := .type "tuple_iterator", data := .fields #[.ref a, .int 0 0] }) (fun A hA => Walks.tuple hA s.heap.objs.size a (Nat.ne_of_lt hlt) vs)
        (fun i h st => by obtain ⟨⟨o, h1, h2, _⟩, _⟩ := st; exact ⟨o, _, h1, h2, by decide⟩) tW wlt (items := ds) (by
          intro b hb
          rcases List.mem_cons.mp hb with rfl | hb
          · exact .inl rfl
          · rcases List.mem_cons.mp hb with rfl | hb
            · exact .inr ⟨hw, hlt⟩
            · cases hb) ⟨⟨_, Heap.get?_push_size _ rfl, rfl, rfl⟩, ⟨_, Heap.get?_push_of_some _ hg, rfl, n, rfl⟩⟩ (by have := RepAll.length ra; simpa using this.symm) (fun j v d e q => by
          obtain ⟨v', hv, rv⟩ := RepAll.get (RepAll.frozen O ra) e
          rw [Array.getElem?_toList] at hv
          obtain rfl := Option.some.inj (hv.symm.trans q); exact rv)
      exact k I _ ok hI hl (Eff.push O _ _)
    case inr.inr =>
      simp only [Rep] at rp
      obtain ⟨⟨t, rfl⟩, hl⟩ := rp
      have hsz : (⟨l.toArray⟩ : Str).cps.size = l.length := by simp
      have its : ∀ (j : Nat) (v : Value) (d : D), (l.map fun c => D.str [c])[j]? = some d → SignAt ⟨l.toArray⟩ j v → Rep B s.heap (fun b => ¬ Fz W s.heap b) d v := by
        rintro j v d e ⟨c, u, hc, rfl⟩
        simp only [List.getElem?_map, Option.map_eq_some_iff] at e
        obtain ⟨c', hc', rfl⟩ := e
        simp only [List.getElem?_toArray] at hc
        obtain rfl := Option.some.inj (hc'.symm.trans hc)
        exact ⟨⟨_, rfl⟩, by simp [lim]⟩
      cases ha : (⟨l.toArray⟩ : Str).cps.all (· < 128)
      · refine wpAny_pyIter_wide ha ?_
        obtain ⟨I, ok, hI⟩ := iter_new' O (K := K) (s := s) (W := W) (o := { cls := .type "str_iterator", data := .fields #[.str ⟨l.toArray⟩ t, .int 0 0] }) (fun A hA => Walks.strWide hA s.heap.objs.size _ t)
          (fun i h st => by obtain ⟨o, h1, h2, _⟩ := st; exact ⟨o, _, h1, h2, by decide⟩) tW wlt (items := l.map fun c => D.str [c]) (by
            intro b hb
            rcases List.mem_cons.mp hb with rfl | hb
            · exact .inl rfl
            · exact nomatch hb) ⟨_, Heap.get?_push_size _ rfl, rfl, rfl⟩ (by simp) its
        exact k I _ ok hI (by simpa using hl) (Eff.push O _ _)
      · refine wpAny_pyIter_ascii ha ?_
        obtain ⟨I, ok, hI⟩ := iter_new' O (K := K) (s := s) (W := W) (o := { cls := .type "str_ascii_iterator", data := .fields #[.str ⟨l.toArray⟩ t, .int 0 0] }) (fun A hA => Walks.strAscii hA s.heap.objs.size _ t)
          (fun i h st => by obtain ⟨o, h1, h2, _⟩ := st; exact ⟨o, _, h1, h2, by decide⟩) tW wlt (items := l.map fun c => D.str [c]) (by
            intro b hb
            rcases List.mem_cons.mp hb with rfl | hb
            · exact .inl rfl
            · exact nomatch hb) ⟨_, Heap.get?_push_size _ rfl, rfl, rfl⟩ (by simp) its
        exact k I _ ok hI (by simpa using hl) (Eff.push O _ _)
theorem iter_ok {r : Mine.R} {v : Value} {items : List D} {E : Value → Shared → Prop} {Q : Value → Shared → Prop} (h : r.asI = some items) (tW : ∀ b, B.T b → W b) (wlt : ∀ b, W b → b < s.heap.objs.size) (g : Good B s) (R : Room A (K - 4)) (e₀ : Eff B s₀ s) (rp : RPost B K s₀ W r v s)
    (k : ∀ it F p I s', ItAt B K s₀ W it F p I items s' → items.length ≤ lim → Eff B s s' → Q (.ref it) s') : wpAny B.M A (pyIter v) Q E s := by
  cases r with
  | own l => exact nomatch h
  | d x =>
    simp only [RPost] at rp
    exact iter_okD O (K := K) h tW wlt rp fun I s' ok hI hl e => k _ _ _ _ _ (it_at O e₀ rfl e ok hI) hl e
  | it l =>
    obtain rfl := Option.some.inj h
    rcases rp with ⟨r, n, t, u, z, rfl, hw, hr, h0, hl, rfl⟩ | ⟨a, F, p, I, rfl, hty, ok, hI, hF, hp, hg, hl⟩
    · have hl' : n ≤ 1048576 := hl
      have hrs : Builtin.Range.rangeSize 0 n 1 = n.toNat := range_size h0
      have hsm : Builtin.Range.small 0 n 1 = true := range_small h0 hl'
      refine wpAny_pyIter_range hr hsm ?_
      rw [hrs]
      obtain ⟨F, p, I, hI⟩ := iter_new O (s₀ := s₀) (s := s) (W := W) (o := { cls := .type "range_iterator", data := .fields #[rawInt 0, rawInt (n.toNat : Int), rawInt 1] }) (T := "") (fun A hA => Walks.range hA s.heap.objs.size 0 1 n.toNat)
        (fun i h st => ⟨_, _, st, rfl, by decide⟩) tW wlt e₀ (items := (List.range n.toNat).map fun (i : Nat) => D.int (i : Int)) (by
          intro b hb
          rcases List.mem_cons.mp hb with rfl | hb
          · exact .inl rfl
          · exact nomatch hb) (by show IsRangeIter _ _ _ _ _; simpa using Heap.get?_push_size _ rfl) (by simp) (by
          rintro j v d e ⟨t, rfl⟩
          simp only [List.getElem?_map, Option.map_eq_some_iff] at e
          obtain ⟨i, hi, rfl⟩ := e
          have : i = j := by
            have := List.getElem?_eq_some_iff.mp hi
            obtain ⟨h1, h2⟩ := this
            simpa using h2.symm
          subst this
          exact ⟨t, by simp⟩)
      exact k _ _ _ _ _ hI (by simp only [List.length_map, List.length_range]; unfold lim at hl ⊢; lia) (Eff.push O _ _)
    · exact ok.self _ _ _ _ _ _ hI g R (k a F p I s ⟨ok, hI, hF, hp, hg⟩ hl (Eff.refl _))
end
end Mine
namespace Mine
variable {B : Bs}
noncomputable abbrev ownP (W Wc : Addr → Prop) : Pv := ⟨fun b => W b ∧ ¬ Wc b, fun _ => False⟩
noncomputable abbrev zP (B : Bs) (pe : Env) (x : Nat) : Pv := ⟨fun b => b = pe.locals ∨ pe.cells.lookup (B.nm x) = some b, fun _ => False⟩
theorem ns_ne_list {h : Heap} {a b : Addr} {m : Str → Option Value} {vs : Array Value} {n : Nat} (x : h.Ns a m) (y : h.get? b = some { cls := .type "list", dict := none, data := .seq vs n, slots := #[] }) : b ≠ a := by
  rintro rfl
  obtain ⟨o, es, ep, e, hd, _⟩ := x
  obtain rfl := Option.some.inj (y.symm.trans e); cases hd
theorem ns_nc {h : Heap} {a : Addr} {m : Str → Option Value} (x : h.Ns a m) : ∀ o, h.get? a = some o → ¬ isCodeO o := by
  rintro o e ⟨_, vs, hv⟩
  obtain ⟨o', es, ep, e', hd, _⟩ := x
  obtain rfl := Option.some.inj (e.symm.trans e'); rw [hv] at hd; cases hd
theorem cell_nc {h : Heap} {a : Addr} {v : Option Value} (x : h.IsCell a v) : ∀ o, h.get? a = some o → ¬ isCodeO o := by
  rintro o e ⟨_, vs, hv⟩
  obtain ⟨o', e', hd⟩ := x
  obtain rfl := Option.some.inj (e.symm.trans e'); rw [hv] at hd; cases hd
theorem list_nc {h : Heap} {a : Addr} {vs : Array Value} {n : Nat} (x : h.get? a = some { cls := .type "list", dict := none, data := .seq vs n, slots := #[] }) : ∀ o, h.get? a = some o → ¬ isCodeO o := by
  rintro o e ⟨_, ws, hv⟩
  obtain rfl := Option.some.inj (x.symm.trans e); cases hv
theorem cell_ne_list {h : Heap} {a b : Addr} {m : Option Value} {vs : Array Value} {n : Nat} (x : h.IsCell a m) (y : h.get? b = some { cls := .type "list", dict := none, data := .seq vs n, slots := #[] }) : b ≠ a := by
  rintro rfl
  obtain ⟨o, e, hd⟩ := x
  obtain rfl := Option.some.inj (y.symm.trans e); cases hd
theorem dictOf_ne_list {K : Type} [DecidableEq K] {prog : Program} {w : World} {knd : KeyKind prog w K} {h : Heap} {a b : Addr} {kvs : List (K × Value)} {vs : Array Value} {n : Nat} (x : h.DictOf knd a kvs) (y : h.get? b = some { cls := .type "list", dict := none, data := .seq vs n, slots := #[] }) : a ≠ b := by
  rintro rfl
  obtain ⟨o, es, ep, e, _, hd, _⟩ := x
  obtain rfl := Option.some.inj (y.symm.trans e); cases hd
theorem dictOf_ne_cell {K : Type} [DecidableEq K] {prog : Program} {w : World} {knd : KeyKind prog w K} {h : Heap} {a b : Addr} {kvs : List (K × Value)} {v : Option Value} (x : h.DictOf knd a kvs) (y : h.IsCell b v) : a ≠ b := by
  rintro rfl
  obtain ⟨o, es, ep, e, _, hd, _⟩ := x
  obtain ⟨o', e', hd'⟩ := y
  obtain rfl := Option.some.inj (e.symm.trans e'); rw [hd] at hd'; cases hd'
theorem ns_ne_cell {h : Heap} {a b : Addr} {m : Str → Option Value} {v : Option Value} (x : h.Ns a m) (y : h.IsCell b v) : b ≠ a := by
  rintro rfl
  obtain ⟨o, es, ep, e, hd, _⟩ := x
  obtain ⟨o', e', hd'⟩ := y
  obtain rfl := Option.some.inj (e.symm.trans e'); rw [hd] at hd'; cases hd'
section
variable (O : B.Ok)
include O
variable {Γ : Kinds} {ρ : REnv} {Wc W : Addr → Prop} {pe : Env} {A : Around} {s : Shared}
theorem eff_at {h' : Heap} {t : Nat} {a : Addr} (ha : ¬ B.T a) (hc : ∀ o, s.heap.get? a = some o → ¬ isCodeO o) (hs : Heap.SameBut a s.heap h') : EffP B ⟨fun b => b = a, fun _ => False⟩ s { s with heap := h', toks := t } :=
  ⟨fun b o _ n e => hs.extBut b o n e, fun b o n e => hs.extBut b o (fun q => hc o (q ▸ e) n) e, by rw [hs.1]; exact Nat.le_refl _, fun x => O.tikeep _ _ x fun b o tb e => hs.extBut b o (fun q => tb.elim (fun tb => ha (q ▸ tb)) fun n => hc o (q ▸ e) n) e, fun _ _ _ e => e, Nat.le_refl _, id, rfl⟩
theorem Good.own {s' : Shared} (g : Good B s) (ow : ∀ b, W b → ¬ Wc b → B.h₀.objs.size ≤ b) (e : EffP B (ownP W Wc) s s') : Good B s' := g.moveP e fun b q => ow b q.1 q.2
theorem Ctx.change {ρ' : REnv} {h' : Heap} {t : Nat} {a : Addr} (X : Ctx B Γ Wc W pe ρ s) (ha : W a ∧ ¬ Wc a) (hnc : ∀ o, s.heap.get? a = some o → ¬ isCodeO o) (hs : Heap.SameBut a s.heap h')
    (hl : ∃ m, h'.Ns pe.locals m) (hc : ∀ x c, pe.cells.lookup (B.nm x) = some c → ∃ v, h'.IsCell c v)
    (hv : ∀ x e, ρ' x = some e → ∃ v, Loc B pe h' x v ∧ EntRel B pe.locals h' Wc W e v) (hse : ∀ x, isSealed ρ' x ↔ isSealed ρ x)
    (hown : ∀ x y l l' a, ρ' x = some (.own l) → ρ' y = some (.own l') → Loc B pe h' x (.ref a) → Loc B pe h' y (.ref a) → x = y) : Ctx B Γ Wc W pe ρ' { s with heap := h', toks := t } where
  good := Good.own O X.good X.ow ((eff_at O (fun t => ha.2 (X.tW _ t)) hnc hs).mono (fun b q => q ▸ ha) fun i q => q)
  fn := X.fn
  glob := X.glob
  blt := X.blt
  tW := X.tW
  cW := X.cW
  wlt := fun b q => by rw [show ({ s with heap := h', toks := t } : Shared).heap.objs.size = s.heap.objs.size from hs.1]; exact X.wlt b q
  loc := hl
  locW := X.locW
  ow := X.ow
  code := X.code
  kinds := X.kinds
  cells := fun x c q => ⟨hc x c q, (X.cells x c q).2⟩
  apart := X.apart
  cellW := fun x c q => by
    rcases X.cellW x c q with z | z
    · exact .inl ((hse x).mpr z)
    · exact .inr z
  vars := hv
  sealedW := fun x q => X.sealedW x ((hse x).mp q)
  owns := hown
theorem EntRel.keep {h h' : Heap} {e : Ent} {v : Value} (r : EntRel B pe.locals h Wc W e v) (k : ∀ b o, (¬ W b ∨ isCodeO o) → h.get? b = some o → h'.get? b = some o) (ko : ∀ a vs n, v = .ref a → h.get? a = some { cls := .type "list", dict := none, data := .seq vs n, slots := #[] } → h'.get? a = h.get? a)
    (kd : ∀ a o, a ≠ pe.locals → ∀ ks : List Int, h.DictOf (PySem.intKind B.prog B.w) a (ks.map fun k => (k, Value.none)) → h.get? a = some o → h'.get? a = some o) : EntRel B pe.locals h' Wc W e v := by
  cases e with
  | fz d => exact Rep.move O k (fun b q => .inl q) d v r
  | sealed d => exact Rep.move O k (fun b q => .inl q) d v r
  | own l =>
    obtain ⟨a, vs, n, rfl, h1, h2, h3, h4, h5⟩ := r
    exact ⟨a, vs, n, rfl, h1, h2, by rw [ko a vs n rfl h3]; exact h3, h4, RepAll.move O k (fun b q => .inl q) _ _ h5⟩
  | ownD ks =>
    obtain ⟨a, rfl, h1, h2, hnl, h3, h4⟩ := r
    exact ⟨a, rfl, h1, h2, hnl, h3, PySem.Heap.DictOf.at h4 fun o q => kd a o hnl ks h4 q⟩
theorem REnv.set_self (ρ : REnv) (x : Nat) (e : Ent) : ρ.set x e x = some e := by simp [REnv.set]
theorem REnv.set_ne (ρ : REnv) {x y : Nat} (e : Ent) (h : y ≠ x) : ρ.set x e y = ρ y := by simp [REnv.set, h]
theorem Ctx.storeE' {x : Nat} {en : Ent} {v : Value} {E : Value → Shared → Prop} {Q : Unit → Shared → Prop} (X : Ctx B Γ Wc W pe ρ s) (hk : Γ x = some .local ∨ Γ x = some .cell) (hs : ¬ isSealed ρ x) (hne : ∀ d, en ≠ .sealed d) (r : EntRel B pe.locals s.heap Wc W en v)
    (ho : ∀ l, en = .own l → ∀ y l' a, y ≠ x → ρ y = some (.own l') → v = .ref a → ¬ Loc B pe s.heap y (.ref a))
    (h : ∀ s', Ctx B Γ Wc W pe (ρ.set x en) s' → EffP B (zP B pe x) s s' → s'.heap.objs.size = s.heap.objs.size → Q () s') : wpAny B.M A (storeName pe (B.nm x) v) Q E s := by
  have hse : ∀ y, isSealed (ρ.set x en) y ↔ isSealed ρ y := by
    intro y
    by_cases hy : y = x
    · subst hy
      constructor
      · rintro ⟨d', e⟩; rw [REnv.set_self O] at e; exact absurd (Option.some.inj e) (hne d')
      · intro q; exact absurd q hs
    · unfold isSealed; rw [REnv.set_ne O _ _ hy]
  rcases hk with hk | hk
  · obtain ⟨kk, _⟩ := X.kinds _ _ hk
    obtain ⟨m, n⟩ := X.loc
    refine wpAny_storeName_local kk n (fun h' hn' hs' => ?_) (by rw [X.fn]; rfl)
    have keepW : ∀ b o, (¬ W b ∨ isCodeO o) → s.heap.get? b = some o → h'.get? b = some o := fun b o hw e => hs'.extBut b o (fun q => hw.elim (fun hw => hw (q ▸ X.locW.1)) fun hc => ns_nc n o (q ▸ e) hc) e
    have mv : ∀ y w, y ≠ x → Loc B pe s.heap y w → Loc B pe h' y w := by
      rintro y w hy (⟨k, m', n', e⟩ | ⟨k, c, e, hc⟩)
      · have := Ns.uniq n n'; subst this
        refine .inl ⟨k, _, hn', ?_⟩
        rw [if_neg (fun q => hy (O.inj _ _ q))]; exact e
      · exact .inr ⟨k, c, e, Heap.IsCell.moved hc fun o z => hs'.extBut _ o (ns_ne_cell n hc) z⟩
    refine h _ (Ctx.change O X X.locW (ns_nc n) hs' ⟨_, hn'⟩ (fun y c e => ?_) (fun y e hy => ?_) hse (fun y z l l' a hy hz ly lz => ?_)) ((eff_at O (fun q => X.locW.2 (X.tW _ q)) (ns_nc n) hs').mono (fun b q => .inl q) fun i q => q) hs'.1
    · obtain ⟨⟨w, hw⟩, _⟩ := X.cells y c e
      exact ⟨w, Heap.IsCell.moved hw fun o z => hs'.extBut _ o (ns_ne_cell n hw) z⟩
    · by_cases hyx : y = x
      · subst hyx
        rw [REnv.set_self O] at hy; obtain rfl := Option.some.inj hy
        exact ⟨v, .inl ⟨kk, _, hn', by simp⟩, EntRel.keep O r keepW (fun a vs k _ e => hs'.2 a (ns_ne_list n e)) fun a o hl ks hd q => hs'.extBut a o hl q⟩
      · rw [REnv.set_ne O _ _ hyx] at hy
        obtain ⟨w, lw, rw'⟩ := X.vars y e hy
        exact ⟨w, mv y w hyx lw, EntRel.keep O rw' keepW (fun a vs k _ e => hs'.2 a (ns_ne_list n e)) fun a o hl ks hd q => hs'.extBut a o hl q⟩
    · have lv : Loc B pe h' x v := .inl ⟨kk, _, hn', by simp⟩
      have clash : ∀ u l1 l2, en = .own l1 → u ≠ x → ρ u = some (.own l2) → Loc B pe h' x (.ref a) → Loc B pe h' u (.ref a) → False := fun u l1 l2 h1 hux hu hx1 hu1 => by
        have e1 := Loc.uniq hx1 lv
        obtain ⟨w, lw, _⟩ := X.vars u _ hu
        have e2 := Loc.uniq hu1 (mv u w hux lw)
        subst e2
        exact ho l1 h1 u l2 a hux hu e1.symm lw
      by_cases hyx : y = x
      · by_cases hzx : z = x
        · rw [hyx, hzx]
        · rw [hyx, REnv.set_self O] at hy
          rw [REnv.set_ne O _ _ hzx] at hz
          rw [hyx] at ly
          exact (clash z l l' (Option.some.inj hy) hzx hz ly lz).elim
      · by_cases hzx : z = x
        · rw [hzx, REnv.set_self O] at hz
          rw [REnv.set_ne O _ _ hyx] at hy
          rw [hzx] at lz
          exact (clash y l' l (Option.some.inj hz) hyx hy lz ly).elim
        · rw [REnv.set_ne O _ _ hyx] at hy
          rw [REnv.set_ne O _ _ hzx] at hz
          obtain ⟨w, lw, _⟩ := X.vars y _ hy
          obtain ⟨w', lw', _⟩ := X.vars z _ hz
          have e1 := Loc.uniq ly (mv y w hyx lw)
          have e2 := Loc.uniq lz (mv z w' hzx lw')
          subst e1; subst e2
          exact X.owns y z l l' a hy hz lw lw'
  · obtain ⟨kk, hcell⟩ := X.kinds _ _ hk
    obtain ⟨c, hc⟩ := hcell (.inl rfl)
    obtain ⟨⟨w₀, hw₀⟩, _⟩ := X.cells _ _ hc
    have hcW : W c ∧ ¬ Wc c := (X.cellW x c hc).resolve_left hs
    obtain ⟨m, n⟩ := X.loc
    refine wpAny_storeName_cell X.fn kk hc hw₀ (fun h' hc' hs' => ?_)
    have keepW : ∀ b o, (¬ W b ∨ isCodeO o) → s.heap.get? b = some o → h'.get? b = some o := fun b o hw e => hs'.extBut b o (fun q => hw.elim (fun hw => hw (q ▸ hcW.1)) fun hc => cell_nc hw₀ o (q ▸ e) hc) e
    have hcl : c ≠ pe.locals := ns_ne_cell n hw₀
    have hn' : h'.Ns pe.locals m := n.sameBut hs' (Ne.symm hcl)
    have cne : ∀ y c', B.nm y ≠ B.nm x → pe.cells.lookup (B.nm y) = some c' → c' ≠ c := by
      rintro y c' hne e rfl
      exact hne (name_of_addr X.apart (mem_of_lookup e) (mem_of_lookup hc))
    have mv : ∀ y w, y ≠ x → Loc B pe s.heap y w → Loc B pe h' y w := by
      rintro y w hy (⟨k, m', n', e⟩ | ⟨k, c', e, hc'⟩)
      · have := Ns.uniq n n'; subst this
        exact .inl ⟨k, _, hn', e⟩
      · exact .inr ⟨k, c', e, Heap.IsCell.moved hc' fun o z => hs'.extBut _ o (cne y c' (fun q => hy (O.inj _ _ q)) e) z⟩
    have ts : ({ s with heap := h' } : Shared) = { s with heap := h', toks := s.toks } := rfl
    rw [ts]
    refine h _ (Ctx.change O X hcW (cell_nc hw₀) hs' ⟨_, hn'⟩ (fun y c' e => ?_) (fun y e hy => ?_) hse (fun y z l l' a hy hz ly lz => ?_)) ((eff_at O (fun q => hcW.2 (X.tW _ q)) (cell_nc hw₀) hs').mono (fun b q => .inr (q ▸ hc)) fun i q => q) hs'.1
    · by_cases hcc : c' = c
      · subst hcc; exact ⟨_, hc'⟩
      · obtain ⟨⟨w, hw⟩, _⟩ := X.cells y c' e
        exact ⟨w, Heap.IsCell.moved hw fun o z => hs'.extBut _ o hcc z⟩
    · by_cases hyx : y = x
      · subst hyx
        rw [REnv.set_self O] at hy; obtain rfl := Option.some.inj hy
        exact ⟨v, .inr ⟨.inl kk, c, hc, hc'⟩, EntRel.keep O r keepW (fun a vs k _ e => hs'.2 a (cell_ne_list hw₀ e)) fun a o hl ks hd q => hs'.extBut a o (dictOf_ne_cell hd hw₀) q⟩
      · rw [REnv.set_ne O _ _ hyx] at hy
        obtain ⟨w, lw, rw'⟩ := X.vars y e hy
        exact ⟨w, mv y w hyx lw, EntRel.keep O rw' keepW (fun a vs k _ e => hs'.2 a (cell_ne_list hw₀ e)) fun a o hl ks hd q => hs'.extBut a o (dictOf_ne_cell hd hw₀) q⟩
    · have lv : Loc B pe h' x v := .inr ⟨.inl kk, c, hc, hc'⟩
      have clash : ∀ u l1 l2, en = .own l1 → u ≠ x → ρ u = some (.own l2) → Loc B pe h' x (.ref a) → Loc B pe h' u (.ref a) → False := fun u l1 l2 h1 hux hu hx1 hu1 => by
        have e1 := Loc.uniq hx1 lv
        obtain ⟨w, lw, _⟩ := X.vars u _ hu
        have e2 := Loc.uniq hu1 (mv u w hux lw)
        subst e2
        exact ho l1 h1 u l2 a hux hu e1.symm lw
      by_cases hyx : y = x
      · by_cases hzx : z = x
        · rw [hyx, hzx]
        · rw [hyx, REnv.set_self O] at hy
          rw [REnv.set_ne O _ _ hzx] at hz
          rw [hyx] at ly
          exact (clash z l l' (Option.some.inj hy) hzx hz ly lz).elim
      · by_cases hzx : z = x
        · rw [hzx, REnv.set_self O] at hz
          rw [REnv.set_ne O _ _ hyx] at hy
          rw [hzx] at lz
          exact (clash y l' l (Option.some.inj hz) hyx hy lz ly).elim
        · rw [REnv.set_ne O _ _ hyx] at hy
          rw [REnv.set_ne O _ _ hzx] at hz
          obtain ⟨w, lw, _⟩ := X.vars y _ hy
          obtain ⟨w', lw', _⟩ := X.vars z _ hz
          have e1 := Loc.uniq ly (mv y w hyx lw)
          have e2 := Loc.uniq lz (mv z w' hzx lw')
          subst e1; subst e2
          exact X.owns y z l l' a hy hz lw lw'
theorem Ctx.storeE {x : Nat} {en : Ent} {v : Value} {E : Value → Shared → Prop} {Q : Unit → Shared → Prop} (X : Ctx B Γ Wc W pe ρ s) (hk : Γ x = some .local ∨ Γ x = some .cell) (hs : ¬ isSealed ρ x) (hne : ∀ d, en ≠ .sealed d) (r : EntRel B pe.locals s.heap Wc W en v)
    (ho : ∀ l, en = .own l → ∀ y l' a, y ≠ x → ρ y = some (.own l') → v = .ref a → ¬ Loc B pe s.heap y (.ref a))
    (h : ∀ s', Ctx B Γ Wc W pe (ρ.set x en) s' → EffP B (zP B pe x) s s' → Q () s') : wpAny B.M A (storeName pe (B.nm x) v) Q E s :=
  Ctx.storeE' O X hk hs hne r ho fun s' X' e' _ => h s' X' e'
theorem Ctx.store {x : Nat} {d : D} {v : Value} {E : Value → Shared → Prop} {Q : Unit → Shared → Prop} (X : Ctx B Γ Wc W pe ρ s) (hk : Γ x = some .local ∨ Γ x = some .cell) (hs : ¬ isSealed ρ x) (r : Rep B s.heap W d v)
    (h : ∀ s', Ctx B Γ Wc W pe (ρ.set x (.fz d)) s' → EffP B (zP B pe x) s s' → Q () s') : wpAny B.M A (storeName pe (B.nm x) v) Q E s :=
  Ctx.storeE O X hk hs (fun _ e => by cases e) (en := .fz d) r (fun _ e => by cases e) h
theorem Ctx.moveP' {p : Pv} {s' : Shared} (X : Ctx B Γ Wc W pe ρ s) (e : EffP B p s s') (hp : ∀ b, p.a b → Wc b) (g' : Good B s') : Ctx B Γ Wc W pe ρ s' := by
  have kO : ∀ b o, ¬ Wc b → s.heap.get? b = some o → s'.heap.get? b = some o := fun b o n q => e.keep b o (fun t => n (X.tW _ t)) (fun t => n (hp _ t)) q
  have kW := e.kW X.tW' (fun b q => X.cW b (hp b q))
  have cWc : ∀ x c, pe.cells.lookup (B.nm x) = some c → ¬ Wc c := fun x c q => by
    rcases X.cellW x c q with z | z
    · obtain ⟨c', e', hw⟩ := X.sealedW x z
      obtain rfl := Option.some.inj (q.symm.trans e')
      exact fun t => hw (X.cW _ t)
    · exact z.2
  have mv : ∀ y w, Loc B pe s.heap y w → Loc B pe s'.heap y w := by
    rintro y w (⟨k, m', n', q⟩ | ⟨k, c', q, hc'⟩)
    · exact .inl ⟨k, _, Heap.Ns.moved n' fun o z => kO _ o X.locW.2 z, q⟩
    · exact .inr ⟨k, c', q, Heap.IsCell.moved hc' fun o z => kO _ o (cWc y c' q) z⟩
  exact {
    good := g'
    fn := X.fn
    glob := X.glob
    blt := X.blt
    tW := X.tW
    cW := X.cW
    wlt := fun b q => Nat.lt_of_lt_of_le (X.wlt b q) e.size
    loc := let ⟨m, n⟩ := X.loc; ⟨m, Heap.Ns.moved n fun o y => kO _ o X.locW.2 y⟩
    locW := X.locW
    ow := X.ow
    code := X.code
    kinds := X.kinds
    cells := fun x c q => let ⟨⟨v, hv⟩, ht⟩ := X.cells x c q; ⟨⟨v, Heap.IsCell.moved hv fun o y => kO _ o (cWc x c q) y⟩, ht⟩
    apart := X.apart
    cellW := X.cellW
    vars := fun x en q => by
      obtain ⟨v, l, r⟩ := X.vars x en q
      refine ⟨v, mv _ _ l, ?_⟩
      cases en with
      | fz d => exact Rep.move O kW (fun b q => .inl q) d v r
      | sealed d => exact Rep.move O kW (fun b q => .inl q) d v r
      | own l =>
        obtain ⟨a, vs, n, rfl, hw, hc, hg, hl, ha⟩ := r
        exact ⟨a, vs, n, rfl, hw, hc, kO _ _ hc hg, hl, RepAll.move O kW (fun b q => .inl q) _ _ ha⟩
      | ownD ks =>
        obtain ⟨a, rfl, hw, hc, hnl, hs, hd⟩ := r
        exact ⟨a, rfl, hw, hc, hnl, hs, PySem.Heap.DictOf.at hd fun o q => kO _ _ hc q⟩
    sealedW := X.sealedW
    owns := fun x y l l' a hx hy h1 h2 => by
      obtain ⟨v, lx, _⟩ := X.vars x _ hx
      obtain ⟨v', ly, _⟩ := X.vars y _ hy
      have e1 := Loc.uniq h1 (mv _ _ lx)
      have e2 := Loc.uniq h2 (mv _ _ ly)
      subst e1; subst e2
      exact X.owns x y l l' a hx hy lx ly }
theorem Ctx.moveP {p : Pv} {s' : Shared} (X : Ctx B Γ Wc W pe ρ s) (e : EffP B p s s') (hp : ∀ b, p.a b → Wc b) (h0 : ∀ b, p.a b → B.h₀.objs.size ≤ b) : Ctx B Γ Wc W pe ρ s' :=
  Ctx.moveP' O X e hp (X.good.moveP e h0)
end
end Mine
namespace Mine
variable {B : Bs}
noncomputable abbrev orP (W N : Addr → Prop) : Addr → Prop := fun b => W b ∨ N b
section
variable (O : B.Ok)
include O
variable {Γ : Kinds} {ρ : REnv} {Wc W : Addr → Prop} {pe : Env} {A : Around} {s : Shared}
theorem Ctx.grow' {p : Pv} {s' : Shared} {N : Addr → Prop} (X : Ctx B Γ Wc W pe ρ s) (e : EffP B p s s') (hp : ∀ b, p.a b → Wc b) (g' : Good B s') (hN : ∀ b, N b → s.heap.objs.size ≤ b ∧ b < s'.heap.objs.size) : Ctx B Γ (orP Wc N) (orP W N) pe ρ s' := by
  have X' := Ctx.moveP' O X e hp g'
  have kW := e.kW X.tW' (fun b q => X.cW b (hp b q))
  have nN : ∀ b, b < s.heap.objs.size → ¬ N b := fun b h n => Nat.lt_irrefl _ (Nat.lt_of_lt_of_le h (hN b n).1)
  have up : ∀ d v, Rep B s.heap W d v → Rep B s'.heap (orP W N) d v := fun d v r => Rep.move O kW (fun b q => q.elim .inl fun n => .inr (Heap.get?_none_of_le (hN b n).1)) d v r
  have cell_lt : ∀ x c, pe.cells.lookup (B.nm x) = some c → c < s.heap.objs.size := fun x c q => by
    obtain ⟨⟨v, hv⟩, _⟩ := X.cells x c q
    exact hv.lt
  exact {
    good := X'.good
    fn := X.fn
    glob := X.glob
    blt := X.blt
    tW := fun b t => .inl (X.tW b t)
    cW := fun b q => q.elim (fun z => .inl (X.cW b z)) .inr
    wlt := fun b q => q.elim (fun z => X'.wlt b z) fun n => (hN b n).2
    loc := X'.loc
    locW := ⟨.inl X.locW.1, fun q => q.elim X.locW.2 (nN _ (X.wlt _ X.locW.1))⟩
    ow := fun b q n => q.elim (fun z => X.ow b z fun w => n (.inl w)) fun z => absurd (.inr z) n
    code := X.code
    kinds := X.kinds
    cells := X'.cells
    apart := X.apart
    cellW := fun x c q => (X.cellW x c q).imp_right fun z => ⟨.inl z.1, fun w => w.elim z.2 (nN _ (cell_lt x c q))⟩
    vars := fun x en q => by
      obtain ⟨v, l, r⟩ := X'.vars x en q
      obtain ⟨v₀, l₀, r₀⟩ := X.vars x en q
      have kO : ∀ b o, ¬ Wc b → s.heap.get? b = some o → s'.heap.get? b = some o := fun b o n q => e.keep b o (fun t => n (X.tW _ t)) (fun t => n (hp _ t)) q
      have : v = v₀ := by
        refine Loc.uniq l ?_
        rcases l₀ with ⟨k, m', n', q'⟩ | ⟨k, c', q', hc'⟩
        · exact .inl ⟨k, _, Heap.Ns.moved n' fun o z => kO _ o X.locW.2 z, q'⟩
        · refine .inr ⟨k, c', q', Heap.IsCell.moved hc' fun o z => kO _ o ?_ z⟩
          rcases X.cellW x c' q' with z | z
          · obtain ⟨c'', e', hw⟩ := X.sealedW x z
            obtain rfl := Option.some.inj (q'.symm.trans e')
            exact fun t => hw (X.cW _ t)
          · exact z.2
      subst this
      refine ⟨v, l, ?_⟩
      cases en with
      | fz d => exact up d v r₀
      | sealed d => exact up d v r₀
      | own l =>
        obtain ⟨a, vs, n, rfl, hw, hc, hg, hl, ha⟩ := r₀
        refine ⟨a, vs, n, rfl, .inl hw, fun w => w.elim hc (nN _ (X.wlt _ hw)), kO _ _ hc hg, hl, ?_⟩
        exact RepAll.move O kW (fun b q => q.elim .inl fun n => .inr (Heap.get?_none_of_le (hN b n).1)) _ _ ha
      | ownD ks =>
        obtain ⟨a, rfl, hw, hc, hnl, hs, hd⟩ := r₀
        exact ⟨a, rfl, .inl hw, fun w => w.elim hc (nN _ (X.wlt _ hw)), hnl, hs, PySem.Heap.DictOf.at hd fun o q => kO _ _ hc q⟩
    sealedW := fun x q => let ⟨c, h1, h2⟩ := X.sealedW x q; ⟨c, h1, fun w => w.elim h2 (nN _ (cell_lt x c h1))⟩
    owns := X'.owns }
theorem Ctx.grow {p : Pv} {s' : Shared} {N : Addr → Prop} (X : Ctx B Γ Wc W pe ρ s) (e : EffP B p s s') (hp : ∀ b, p.a b → Wc b) (h0 : ∀ b, p.a b → B.h₀.objs.size ≤ b) (hN : ∀ b, N b → s.heap.objs.size ≤ b ∧ b < s'.heap.objs.size) : Ctx B Γ (orP Wc N) (orP W N) pe ρ s' :=
  Ctx.grow' O X e hp (X.good.moveP e h0) hN
theorem Ctx.weaken {ρ' : REnv} (X : Ctx B Γ Wc W pe ρ s) (h : ∀ y e, ρ' y = some e → ρ y = some e) (hs : ∀ y, isSealed ρ y → isSealed ρ' y) : Ctx B Γ Wc W pe ρ' s :=
  { X with
    cellW := fun x c q => (X.cellW x c q).imp_left (hs x)
    vars := fun x e q => X.vars x e (h x e q)
    sealedW := fun x q => X.sealedW x (let ⟨d, e⟩ := q; ⟨d, h x _ e⟩)
    owns := fun x y l l' a hx hy => X.owns x y l l' a (h x _ hx) (h y _ hy) }
theorem size_eff {s s' : Shared} (k : ∀ b o, s.heap.get? b = some o → s'.heap.get? b = some o) (hs : s.heap.objs.size ≤ s'.heap.objs.size) (g : s'.gens = s.gens) (os : s'.os = s.os) : Eff B s s' :=
  ⟨fun b o _ e => k b o e, fun b o _ e => k b o e, hs, fun t => O.tikeep _ _ t fun b o _ e => k b o e, fun i x e => by rw [g]; exact e, fun t => by rw [g]; exact t, os⟩
theorem EffP.own_trans {p : Pv} {s' s'' : Shared} (a : EffP B p s s') (b : EffP B p s' s'') : EffP B p s s'' := a.trans b (fun _ q => .inl q) (fun _ q => .inl q)
theorem stores_ok {Z : Addr → Prop} (hZW : ∀ b, Z b → W b) : ∀ (xs : List (Nat × Pos)) (ds : List D) (vs : List Value) (ρ : REnv) (s : Shared) (Q : Unit → Shared → Prop) (E : Value → Shared → Prop), xs.length = ds.length → Ctx B Γ Wc W pe ρ s →
    (∀ q ∈ xs, (Γ q.1 = some .local ∨ Γ q.1 = some .cell) ∧ ¬ isSealed ρ q.1) → (∀ q ∈ xs, ∀ b, (zP B pe q.1).a b → Z b) → RepAll B s.heap W ds vs →
    (∀ s', Ctx B Γ Wc W pe ((xs.zip ds).foldl (fun ρ q => ρ.set q.1.1 (.fz q.2)) ρ) s' → EffP B ⟨Z, fun _ => False⟩ s s' → Q () s') →
    wpAny B.M A (assignInOrder (((xs.map fun q => PySem.Expr.Name (B.nm q.1) q.2).map fun t => assign t pe)) vs) Q E s
  | [], [], vs, ρ, s, Q, E, _, X, _, _, _, k => by
    show wpAny _ _ (pure ()) _ _ _
    exact wpAny_pure (k s X (EffP.refl _ _))
  | [], _ :: _, _, _, _, _, _, h, _, _, _, _, _ => by simp at h
  | _ :: _, [], _, _, _, _, _, h, _, _, _, _, _ => by simp at h
  | (x, p) :: xs, d :: ds, vs, ρ, s, Q, E, hl, X, hx, hz, r, k => by
    simp only [RepAll] at r
    obtain ⟨v, vs', rfl, rv, ra⟩ := r
    show wpAny _ _ (do holding vs' (assign (.Name (B.nm x) p) pe v); assignInOrder ((xs.map fun q => PySem.Expr.Name (B.nm q.1) q.2).map fun t => assign t pe) vs') _ _ _
    have h1 := hx (x, p) List.mem_cons_self
    refine wpAny_bind (wpAny_holding (wpAny_assign_Name (Ctx.store O X h1.1 h1.2 rv fun s1 X1 e1 => ?_)))
    have e1 : EffP B ⟨Z, fun _ => False⟩ s s1 := e1.mono (hz (x, p) List.mem_cons_self) fun i q => q
    refine stores_ok hZW xs ds vs' _ s1 Q E (by simpa using hl) X1 (fun q hq => ⟨(hx q (List.mem_cons_of_mem _ hq)).1, ?_⟩) (fun q hq => hz q (List.mem_cons_of_mem _ hq)) ?_ fun s2 X2 e2 => k s2 X2 (e1.own_trans O e2)
    · have h2 := (hx q (List.mem_cons_of_mem _ hq)).2
      by_cases hqx : q.1 = x
      · rintro ⟨d', e⟩; rw [hqx, REnv.set_self O] at e; exact nomatch e
      · rintro ⟨d', e⟩; rw [REnv.set_ne O _ _ hqx] at e; exact h2 ⟨d', e⟩
    · exact RepAll.move O (e1.kW X.tW' hZW) (fun b q => .inl q) _ _ ra
theorem assignEach_names (nm : Nat → Str) (pe : Env) : ∀ xs : List (Nat × Pos), assignEach (xs.map fun q => PySem.Expr.Name (nm q.1) q.2) pe = (xs.map fun q => PySem.Expr.Name (nm q.1) q.2).map fun t => (false, assign t pe)
  | [] => rfl
  | q :: r => by
    show (false, assign (.Name (nm q.1) q.2) pe) :: assignEach (r.map fun q => PySem.Expr.Name (nm q.1) q.2) pe = _
    rw [assignEach_names nm pe r]; rfl
theorem findIdx_false {α : Type} : ∀ l : List α, ∀ f : α → Value → Sem Unit, (l.map fun t => ((false, f t) : Bool × (Value → Sem Unit))).findIdx? (·.1) = none
  | [], _ => rfl
  | a :: r, f => by rw [List.map_cons, List.findIdx?_cons]; simp [findIdx_false r f]
theorem untuple_ok {Z : Addr → Prop} {xs : List (Nat × Pos)} {ds : List D} {v : Value} {k : Nat} {p : Pos} {E : Value → Shared → Prop} {Q : Unit → Shared → Prop} (hh : A.handled = none) (hl : xs.length = ds.length) (X : Ctx B Γ Wc W pe ρ s)
    (hx : ∀ q ∈ xs, (Γ q.1 = some .local ∨ Γ q.1 = some .cell) ∧ ¬ isSealed ρ q.1) (hZW : ∀ b, Z b → W b) (hz : ∀ q ∈ xs, ∀ b, (zP B pe q.1).a b → Z b) (r : Rep B s.heap W (.tup ds) v)
    (kk : ∀ s', Ctx B Γ Wc W pe ((xs.zip ds).foldl (fun ρ q => ρ.set q.1.1 (.fz q.2)) ρ) s' → EffP B ⟨Z, fun _ => False⟩ s s' → Q () s') :
    wpAny B.M A (assign (.Tuple (xs.map fun q => .Name (B.nm q.1) q.2) k p) pe v) Q E s := by
  simp only [Rep] at r
  obtain ⟨a, vs, n, rfl, hw, hg, hlim, ra⟩ := r
  rw [arm_assign_Tuple]
  refine wpAny_bind (wpAny_standAt ?_)
  unfold unpack
  have hlen := RepAll.length ra
  rw [Array.length_toList] at hlen
  have hn : (assignEach (xs.map fun q => PySem.Expr.Name (B.nm q.1) q.2) pe).length = vs.size := by
    rw [assignEach_names O]; simp only [List.length_map]; lia
  rw [hn, show (assignEach (xs.map fun q => PySem.Expr.Name (B.nm q.1) q.2) pe).findIdx? (·.1) = none by rw [assignEach_names O]; exact findIdx_false O _ _]
  refine wpAny_bind (wpAny_holding (Mine.wpAny_size (wpAny_unpackItems_tuple hh ⟨_, hg, rfl, n, rfl⟩ fun h' he hsz => ?_)))
  have k : ∀ b o, s.heap.get? b = some o → h'.get? b = some o := fun b o e => he b o (Nat.ne_of_lt (Heap.lt_size e)) e
  have e1 : Eff B s { s with heap := h' } := size_eff O k hsz rfl rfl
  have : (assignEach (xs.map fun q => PySem.Expr.Name (B.nm q.1) q.2) pe).map (·.2) = (xs.map fun q => PySem.Expr.Name (B.nm q.1) q.2).map fun t => assign t pe := by
    rw [assignEach_names O, List.map_map]; rfl
  rw [this]
  refine stores_ok O hZW xs ds vs.toList ρ _ Q E hl (X.move O e1) hx hz (RepAll.eff O X.tW' ra e1) fun s2 X2 e2 => kk s2 X2 ?_
  exact (e1.toP _).trans e2 (fun _ q => .inl q) (fun _ q => .inl q)
theorem kindsIn_at {sc : List (Nat × NameKind)} {x : Nat} (h : sc.lookup x = some .local ∨ sc.lookup x = some .cell) : kindsIn Γ sc x = some .local ∨ kindsIn Γ sc x = some .cell := by
  show (sc.lookup x).map _ = _ ∨ (sc.lookup x).map _ = _
  rcases h with h | h <;> rw [h] <;> simp
theorem foldl_set_out : ∀ (l : List ((Nat × Pos) × D)) (ρ : REnv) (y : Nat), (∀ q ∈ l, q.1.1 ≠ y) → (l.foldl (fun ρ q => ρ.set q.1.1 (.fz q.2)) ρ) y = ρ y
  | [], _, _, _ => rfl
  | q :: r, ρ, y, h => by
    rw [List.foldl_cons, foldl_set_out r _ y fun q hq => h q (List.mem_cons_of_mem _ hq), REnv.set_ne O _ _ (Ne.symm (h q List.mem_cons_self))]
theorem foldl_set_sealed : ∀ (l : List ((Nat × Pos) × D)) (ρ : REnv) (y : Nat), isSealed (l.foldl (fun ρ q => ρ.set q.1.1 (.fz q.2)) ρ) y → isSealed ρ y
  | [], _, _, h => h
  | q :: r, ρ, y, h => by
    rw [List.foldl_cons] at h
    obtain ⟨d, e⟩ := foldl_set_sealed r _ y h
    by_cases hy : y = q.1.1
    · subst hy; rw [REnv.set_self O] at e; exact nomatch e
    · rw [REnv.set_ne O _ _ hy] at e; exact ⟨d, e⟩
theorem tg_ok {Z : Addr → Prop} {t : Tg} {d : D} {v : Value} {sc : List (Nat × NameKind)} {Γ₀ : Kinds} {ρ' : REnv} {E : Value → Shared → Prop} {Q : Unit → Shared → Prop} (hh : A.handled = none) (hf : t.fit sc ρ = true) (hb : bindT t d ρ = some ρ') (X : Ctx B (kindsIn Γ₀ sc) Wc W pe ρ s)
    (hZW : ∀ b, Z b → W b) (hz : ∀ x b, sc.lookup x = some .local ∨ sc.lookup x = some .cell → (zP B pe x).a b → Z b)
    (r : Rep B s.heap W d v) (k : ∀ s', Ctx B (kindsIn Γ₀ sc) Wc W pe ρ' s' → (∀ y e, ρ y = some e → ρ' y = some e) → (∀ y, isSealed ρ' y → isSealed ρ y) → EffP B ⟨Z, fun _ => False⟩ s s' → Q () s') :
    wpAny B.M A (assign (t.py B.nm) pe v) Q E s := by
  cases t with
  | name x p =>
    simp only [Tg.fit, Bool.and_eq_true, Bool.or_eq_true, beq_iff_eq, Option.isNone_iff_eq_none] at hf
    simp only [bindT, Option.some.injEq] at hb
    subst hb
    have ns : ¬ isSealed ρ x := fun ⟨d, e⟩ => by rw [hf.2] at e; exact nomatch e
    refine wpAny_assign_Name (Ctx.store O X (kindsIn_at O hf.1) ns r fun s1 X1 e1 => k s1 X1 (fun y e h => ?_) (fun y h => ?_) (e1.mono (fun b q => hz x b hf.1 q) fun i q => q))
    · have : y ≠ x := by rintro rfl; rw [hf.2] at h; exact nomatch h
      rw [REnv.set_ne O _ _ this]; exact h
    · obtain ⟨d', e⟩ := h
      by_cases hy : y = x
      · subst hy; rw [REnv.set_self O] at e; exact nomatch e
      · rw [REnv.set_ne O _ _ hy] at e; exact ⟨d', e⟩
  | tup xs kk p =>
    simp only [Tg.fit, Bool.and_eq_true, List.all_eq_true, Bool.or_eq_true, beq_iff_eq, Option.isNone_iff_eq_none] at hf
    cases d <;> simp only [bindT, reduceCtorEq] at hb
    rename_i ds
    split at hb
    · rename_i hl
      obtain rfl := Option.some.inj hb
      refine untuple_ok O hh hl X (fun q hq => ⟨kindsIn_at O (hf.2 q hq).1, fun ⟨d, e⟩ => by rw [(hf.2 q hq).2] at e; cases e⟩) hZW (fun q hq b => hz q.1 b (hf.2 q hq).1) r fun s1 X1 e1 => k s1 X1 (fun y e h => ?_) (fun y h => foldl_set_sealed O _ _ _ h) e1
      rw [foldl_set_out O]
      · exact h
      · rintro ⟨q, d⟩ hq rfl
        have := (hf.2 q (List.of_mem_zip hq).1).2
        rw [this] at h; exact nomatch h
    · exact nomatch hb
end
end Mine
namespace Mine
variable {B : Bs} {K : Nat}
theorem compTurn_last {elt : Expr} {gens : List Comprehension} {scope : Scope} {pos : Pos} {d : Nat} {it acc : Value} {env : Env} {t i : Expr} {fs : List Expr} (h : gens[d]? = some ⟨t, i, fs, 0⟩) (h' : gens[d + 1]? = none) :
    compTurn (.ListComp elt gens scope pos) d it acc env = (do
      standAt i.pos
      match ← pyNext it with
      | none => pure (.done .next)
      | some v =>
        letOwnedTupleGo t it v
        assign t env v
        let ok ← forIn fs true fun c r => if r = true then do let ok ← isTrue c env (eval c env); pure (ForInStep.yield ok) else pure (ForInStep.yield r)
        if ok then do
          (do let x ← eval elt env; let _ ← call (.builtin "list.append") [acc, x]; pure ())
          again (.compLoop (.ListComp elt gens scope pos) d it acc env)
        else again (.compLoop (.ListComp elt gens scope pos) d it acc env)) := by
  unfold compTurn
  simp only [h, h']
  rfl
theorem compTurn_more {elt : Expr} {gens : List Comprehension} {scope : Scope} {pos : Pos} {d : Nat} {it acc : Value} {env : Env} {t i t' i' : Expr} {fs fs' : List Expr} (h : gens[d]? = some ⟨t, i, fs, 0⟩) (h' : gens[d + 1]? = some ⟨t', i', fs', 0⟩) :
    compTurn (.ListComp elt gens scope pos) d it acc env = (do
      standAt i.pos
      match ← pyNext it with
      | none => pure (.done .next)
      | some v =>
        letOwnedTupleGo t it v
        assign t env v
        let ok ← forIn fs true fun c r => if r = true then do let ok ← isTrue c env (eval c env); pure (ForInStep.yield ok) else pure (ForInStep.yield r)
        if ok then do
          let x ← eval i' env
          standAt i'.pos
          let x ← foldedSetIterable i' env x
          let u ← holding [x] (pyIter x)
          let _ ← runOwn (.compStart (.ListComp elt gens scope pos) (d + 1) u acc env) env
          again (.compLoop (.ListComp elt gens scope pos) d it acc env)
        else again (.compLoop (.ListComp elt gens scope pos) d it acc env)) := by
  unfold compTurn
  simp only [h, h']
  rfl
section
variable (O : B.Ok)
include O
variable {Γ : Kinds} {ρ : REnv} {Wc W : Addr → Prop} {pe : Env} {A : Around} {s : Shared}
theorem py_fold (nm : Nat → Str) (e : E) (env : Env) (x : Value) : foldedSetIterable (e.py nm) env x = pure x := by cases e <;> rfl
theorem compStart_at {e : Expr} {d : Nat} {it : Addr} {acc : Value} {env : Env} {R : Result → Shared → Prop} {F : Addr → Prop} {I : List D → Pv → Shared → Prop} {l : List D} {p : Pv} {g : Comprehension}
    (hd : (clausesOf e)[d]? = some g) (ha : g.is_async = 0) (hf : (Code.compStart e d (.ref it) acc env).isFrame = false) (hu : A.under (.compStart e d (.ref it) acc env) = A) (hq : (Code.compLoop e d (.ref it) acc env).quiet = true)
    (ok : IterOk B K F it I) (hI : I l p s) (g0 : Good B s) (R20 : Room A (K - 4))
    (h : codeAny B.M A (.compLoop e d (.ref it) acc env) R s) : codeAny B.M A (.compStart e d (.ref it) acc env) R s := by
  refine codeAny_of_tree ?_
  rw [hu]
  have hden : B.M.den (.compStart e d (.ref it) acc env) = (compStart e d (.ref it) acc env).onRaise (fun x => do noteFrame x env; standAt theWindowsPlace) := by
    show (if (Code.compStart e d (.ref it) acc env).isFrame then _ else _) = _
    rw [hf]; rfl
  rw [hden]
  refine wpAny_notedAt ?_
  unfold compStart
  rw [hd]
  simp only [Option.elim, ha]
  show wpAny _ _ (ask >>= _) _ _ s
  refine wpAny_bind (wpAny_askSetting (wpAny_ite ?_))
  split
  · exact wpAny_bind (wpAny_pure (wpAny_pure ⟨hq, h⟩))
  · exact wpAny_bind (wpAny_rule (wpAny_bind (wpAny_standAt (wpAny_bind (ok.self _ _ _ _ _ _ hI g0 R20 (wpAny_pure ⟨hq, h⟩))))))
structure Grown (Wc W : Addr → Prop) (s : Shared) (Wc' W' : Addr → Prop) : Prop where
  w : ∀ b, W b → W' b
  c : ∀ b, Wc b → Wc' b
  new : ∀ b, W' b → W b ∨ s.heap.objs.size ≤ b
  own : ∀ b, (W' b ∧ ¬ Wc' b) ↔ (W b ∧ ¬ Wc b)
theorem Grown.refl (Wc W : Addr → Prop) (s : Shared) : Grown Wc W s Wc W := ⟨fun _ q => q, fun _ q => q, fun _ q => .inl q, fun _ => Iff.rfl⟩
theorem Grown.trans {Wc1 W1 Wc2 W2 : Addr → Prop} {s' : Shared} (a : Grown Wc W s Wc1 W1) (hs : s.heap.objs.size ≤ s'.heap.objs.size) (b : Grown Wc1 W1 s' Wc2 W2) : Grown Wc W s Wc2 W2 :=
  ⟨fun x q => b.w x (a.w x q), fun x q => b.c x (a.c x q), fun x q => (b.new x q).elim (a.new x) fun z => .inr (Nat.le_trans hs z), fun x => (b.own x).trans (a.own x)⟩
theorem Grown.or {N : Addr → Prop} (wlt : ∀ b, W b → b < s.heap.objs.size) (hN : ∀ b, N b → s.heap.objs.size ≤ b) : Grown Wc W s (orP Wc N) (orP W N) :=
  ⟨fun _ q => .inl q, fun _ q => .inl q, fun b q => q.imp_right (hN b), fun b => ⟨fun ⟨h1, h2⟩ => ⟨h1.elim id fun n => absurd (.inr n) h2, fun w => h2 (.inl w)⟩, fun ⟨h1, h2⟩ => ⟨.inl h1, fun w => w.elim h2 fun n => Nat.lt_irrefl _ (Nat.lt_of_lt_of_le (wlt b h1) (hN b n))⟩⟩⟩
theorem pyG_get (nm : Nat → Str) : ∀ (gs : List Gn) (d : Nat), (pyG nm gs)[d]? = (gs[d]?).map fun g => match g with | .mk t it ifs => ⟨t.py nm, it.py nm, pyL nm ifs, 0⟩
  | [], d => by simp [pyG]
  | .mk t it ifs :: r, 0 => by simp [pyG]
  | .mk t it ifs :: r, d + 1 => by simpa [pyG] using pyG_get nm r d
noncomputable abbrev tgt (Z : Addr → Prop) (p : Pv) (D₀ : Addr) : Pv := ⟨fun b => Z b ∨ p.a b ∨ b = D₀, p.g⟩
theorem RepAll.on {Wc' W' : Addr → Prop} {s' : Shared} {p : Pv} {D₀ : Addr} {Z : Addr → Prop} {ds : List D} {vs : List Value} (hZ : ∀ b, Z b → W b ∧ ¬ Wc b) (X : Ctx B Γ Wc W pe ρ s) (r : RepAll B s.heap W ds vs) (e : EffP B (tgt Z p D₀) s s') (hp : ∀ b, p.a b → Wc b) (hD : Wc D₀) (g : Grown Wc W s Wc' W') : RepAll B s'.heap W' ds vs :=
  RepAll.move O (e.kW X.tW' fun b z => z.elim (fun z => (hZ _ z).1) fun z => z.elim (fun z => X.cW _ (hp _ z)) fun z => X.cW _ (z ▸ hD)) (fun b q => (g.new b q).imp_right fun z => Heap.get?_none_of_le z) _ _ r
noncomputable def SndGs (B : Bs) (K : Nat) (Φ : Phi) (r : List Gn) : Prop := ∀ t it ifs, Gn.mk t it ifs ∈ r → Snd B K Φ it ∧ SndC B K Φ ifs
theorem drop_at {α : Type} {l : List α} {d : Nat} {x : α} {r : List α} (h : l.drop d = x :: r) : l[d]? = some x ∧ l.drop (d + 1) = r := by
  have h1 := congrArg List.head? h
  rw [List.head?_drop] at h1
  refine ⟨h1, ?_⟩
  have := congrArg List.tail h
  rw [List.tail_drop] at this
  exact this
theorem step_ok {K : Nat} {Φ : Phi} {sc : List (Nat × NameKind)} {Γ₀ : Kinds} {D₀ : Addr} {thenC elseC noneC : Sem Fin} {Post : Fin → Shared → Prop} {Ex : Value → Shared → Prop} {ip : Pos} {t : Tg} {ifs : List E} {it : Addr} {F : Addr → Prop} {I : List D → Pv → Shared → Prop}
    {x : D} {rest : List D} {ρ' : REnv} {c : Bool} {p : Pv} {o : Obj} {Z : Addr → Prop} (hZ : ∀ b, Z b → W b ∧ ¬ Wc b) (hz : ∀ x b, sc.lookup x = some .local ∨ sc.lookup x = some .cell → (zP B pe x).a b → Z b) (RK : Room A K) (R20 : Room A (K - 4)) (hifs : SndC B K Φ ifs) (ok : IterOk B K F it I) (X : Ctx B (kindsIn Γ₀ sc) Wc W pe ρ s) (hI : I (x :: rest) p s) (hF : ∀ b, F b → ¬ W b ∧ b < s.heap.objs.size)
    (hp : ∀ b, p.a b → Wc b ∧ B.h₀.objs.size ≤ b) (hfit : t.fit sc ρ = true) (hbind : bindT t x ρ = some ρ') (hc : evC Φ (kindsIn Γ₀ sc) ρ' ifs = some c) (hD : s.heap.get? D₀ = some o) (hDc : Wc D₀) (hD0 : B.h₀.objs.size ≤ D₀) (hDp : ¬ p.a D₀)
    (k : ∀ s3 Wc3 W3 p1, Ctx B (kindsIn Γ₀ sc) Wc3 W3 pe ρ' s3 → (∀ y e, ρ y = some e → ρ' y = some e) → (∀ y, isSealed ρ' y → isSealed ρ y) → Grown Wc W s Wc3 W3 → I rest p1 s3 → (∀ b, p1.a b → p.a b ∨ s.heap.objs.size ≤ b) → (∀ b, p1.a b → Wc3 b ∧ B.h₀.objs.size ≤ b) → p1.g = p.g → ¬ p1.a D₀ →
      EffP B (tgt Z p D₀) s s3 → s3.heap.get? D₀ = some o → (c = true → wpAny B.M A thenC Post Ex s3) ∧ (c = false → wpAny B.M A elseC Post Ex s3)) :
    wpAny B.M A (do
      standAt ip
      match ← pyNext (.ref it) with
      | none => noneC
      | some v =>
        letOwnedTupleGo (t.py B.nm) (.ref it) v
        assign (t.py B.nm) pe v
        let ok ← forIn (pyL B.nm ifs) true fun c r => if r = true then do let ok ← isTrue c pe (eval c pe); pure (ForInStep.yield ok) else pure (ForInStep.yield r)
        if ok then thenC else elseC) Post Ex s := by
  have nT : ¬ B.T D₀ := fun q => Nat.lt_irrefl _ (Nat.lt_of_lt_of_le (O.tilow _ q) hD0)
  have hDlt := Heap.lt_size hD
  refine wpAny_bind (wpAny_standAt (wpAny_bind (ok.next _ _ _ _ _ _ _ hI X.good R20 fun v s1 p1 e1 hsub hnew hg rv hI1 => ?_)))
  have hN : ∀ b, (p1.a b ∧ s.heap.objs.size ≤ b) → s.heap.objs.size ≤ b ∧ b < s1.heap.objs.size := fun b q => ⟨q.2, (ok.sub _ _ _ hI1 b q.1).2.2⟩
  have X1 := Ctx.grow O X e1 (fun b q => (hp b q).1) (fun b q => (hp b q).2) hN
  have g1 : Grown Wc W s (orP Wc fun b => p1.a b ∧ s.heap.objs.size ≤ b) (orP W fun b => p1.a b ∧ s.heap.objs.size ≤ b) := Grown.or O X.wlt fun b q => q.2
  have hp1 : ∀ b, p1.a b → (orP Wc fun b => p1.a b ∧ s.heap.objs.size ≤ b) b ∧ B.h₀.objs.size ≤ b := fun b q => by
    rcases hnew b q with z | z
    · exact ⟨.inl (hp b z).1, (hp b z).2⟩
    · exact ⟨.inr ⟨q, z⟩, Nat.le_trans X.good.size z⟩
  have hDp1 : ¬ p1.a D₀ := fun q => (hnew _ q).elim hDp fun z => Nat.lt_irrefl _ (Nat.lt_of_lt_of_le hDlt z)
  have hF1 : ∀ b, F b → ¬ (orP W fun b => p1.a b ∧ s.heap.objs.size ≤ b) b := fun b q z => z.elim (hF b q).1 fun z => Nat.lt_irrefl _ (Nat.lt_of_lt_of_le (hF b q).2 z.2)
  have rv1 : Rep B s1.heap (orP W fun b => p1.a b ∧ s.heap.objs.size ≤ b) x v := Rep.less O rv fun b q z => hF1 b z q
  generalize hWc1 : (orP Wc fun b => p1.a b ∧ s.heap.objs.size ≤ b) = Wc1 at *
  generalize hW1 : (orP W fun b => p1.a b ∧ s.heap.objs.size ≤ b) = W1 at *
  have let_ok : ∀ {Q : Unit → Shared → Prop}, Q () s1 → wpAny B.M A (letOwnedTupleGo (t.py B.nm) (.ref it) v) Q Ex s1 := fun hQ => by
    cases t with
    | name y q => exact let_go_name hQ
    | tup xs kk q =>
      obtain ⟨T, hT, hok⟩ := ok.ty _ _ _ hI1
      exact let_go hT hok hQ
  refine wpAny_bind (let_ok (wpAny_bind (tg_ok O (Z := Z) R20.handled hfit hbind X1 (fun b q => g1.w b (hZ b q).1) hz rv1 fun s2 X2 hmono hseal e2 => ?_)))
  refine wpAny_bind (wpAny_mono (hifs _ _ _ hc _ _ _ _ _ X2 RK) ?_ fun _ _ f => f.elim)
  rintro c' s3 ⟨e3, rfl⟩
  have X3 := X2.move O e3
  have e13 : EffP B ⟨Z, fun _ => False⟩ s1 s3 := e2.trans (e3.toP _) (fun _ q => .inl q) (fun _ q => .inl q)
  have et : EffP B (tgt Z p D₀) s s3 := by
    have q1 : EffP B (tgt Z p D₀) s s1 := e1.mono (fun b q => .inr (.inl q)) (fun i q => q)
    exact q1.trans e13 (fun b q => .inl (.inl q)) (fun i q => q.elim)
  have I3 : I rest p1 s3 := by
    refine ok.stay _ _ _ _ hI1 (fun b o nt q z => e13.keep b o nt (fun w => ?_) z) e13.ck e13.size (fun i y q z => e13.gens i y (fun w => w.elim) z) X3.good
    have w := (g1.own b).mpr (hZ b w)
    rcases q with q | q
    · exact hF1 b q w.1
    · exact w.2 (hp1 b q).1
  have hD3 : s3.heap.get? D₀ = some o := e13.keep D₀ o nT (fun w => (hZ _ w).2 hDc) (e1.keep D₀ o nT hDp hD)
  obtain ⟨kt, kf⟩ := k s3 Wc1 W1 p1 X3 hmono hseal g1 I3 hnew hp1 hg hDp1 et hD3
  cases c' with
  | true => exact kt rfl
  | false => exact kf rfl
theorem loop_of_turn {elt : Expr} {gens : List Comprehension} {scope : Scope} {pos : Pos} {d : Nat} {it acc : Value} {R : Result → Shared → Prop}
    (h : wpAny B.M A (compTurn (.ListComp elt gens scope pos) d it acc pe) (fun fin s' => match fin with | .done f => R (.ok f) s' | .again c' => c'.quiet = true ∧ codeAny B.M A c' R s') (notedBy B.M A pe fun e s' => R (.error e) s') s) :
    codeAny B.M A (.compLoop (.ListComp elt gens scope pos) d it acc pe) R s := by
  refine codeAny_of_tree ?_
  show wpAny _ A ((compTurn (.ListComp elt gens scope pos) d it acc pe).onRaise (fun x => do noteFrame x pe; theTreesLotGoes x)) _ _ s
  exact wpAny_noted h
theorem kept_nT {D₀ : Addr} (h : B.h₀.objs.size ≤ D₀) : ¬ B.T D₀ := fun q => Nat.lt_irrefl _ (Nat.lt_of_lt_of_le (O.tilow _ q) h)
structure AccAt (D₀ : Addr) (Wc W : Addr → Prop) (vs : Array Value) (n : Nat) (s : Shared) : Prop where
  at' : s.heap.get? D₀ = some { cls := .type "list", dict := none, data := .seq vs n, slots := #[] }
  c : Wc D₀
  hi : B.h₀.objs.size ≤ D₀
noncomputable def LoopK (B : Bs) (Z : Addr → Prop) (sc : List (Nat × NameKind)) (Γ₀ : Kinds) (pe : Env) (D₀ : Addr) (ρ : REnv) (l : List D) (Wc W : Addr → Prop) (p : Pv) (vs : Array Value) (R : Result → Shared → Prop) (s : Shared) : Prop :=
  ∀ s' Wc' W' vs' n', Ctx B (kindsIn Γ₀ sc) Wc' W' pe ρ s' → Grown Wc W s Wc' W' → s'.heap.get? D₀ = some { cls := .type "list", dict := none, data := .seq (vs ++ vs'.toArray) n', slots := #[] } → RepAll B s'.heap W' l vs' →
    EffP B (tgt Z p D₀) s s' → R (.ok .next) s'
theorem loop_done {Z : Addr → Prop} {sc : List (Nat × NameKind)} {Γ₀ : Kinds} {D₀ : Addr} {R : Result → Shared → Prop} {it : Addr} {F : Addr → Prop} {I : List D → Pv → Shared → Prop} {p : Pv} {vs : Array Value} {n : Nat} {ip : Pos} {f : Value → Sem Fin} {Ex : Value → Shared → Prop}
    (R20 : Room A (K - 4)) (ok : IterOk B K F it I) (X : Ctx B (kindsIn Γ₀ sc) Wc W pe ρ s) (hI : I [] p s) (hp : ∀ b, p.a b → Wc b ∧ B.h₀.objs.size ≤ b) (hA : AccAt (B := B) D₀ Wc W vs n s) (hDp : ¬ p.a D₀) (k : LoopK B Z sc Γ₀ pe D₀ ρ [] Wc W p vs R s) :
    wpAny B.M A (do
      standAt ip
      match ← pyNext (.ref it) with
      | none => pure (.done .next)
      | some v => f v) (fun fin s' => match fin with | .done f => R (.ok f) s' | .again c' => c'.quiet = true ∧ codeAny B.M A c' R s') Ex s := by
  refine wpAny_bind (wpAny_standAt (wpAny_bind (ok.done _ _ _ _ _ hI X.good R20 fun s1 e1 => wpAny_pure ?_)))
  refine k s1 Wc W [] n (Ctx.moveP O X e1 (fun b q => (hp b q).1) fun b q => (hp b q).2) (Grown.refl O _ _ _) ?_ RepAll.nil (e1.mono (fun b q => .inr (.inl q)) fun i q => q)
  have := e1.keep D₀ _ (kept_nT O hA.hi) hDp hA.at'
  simpa using this
theorem loop_again {Z : Addr → Prop} {sc : List (Nat × NameKind)} {Γ₀ : Kinds} {D₀ : Addr} {R : Result → Shared → Prop} {p p1 : Pv} {vs : Array Value} {l1 l2 : List D} {s1 : Shared} {Wc1 W1 : Addr → Prop} {vsa : List Value}
    (hZ : ∀ b, Z b → W b ∧ ¬ Wc b) (X : Ctx B (kindsIn Γ₀ sc) Wc W pe ρ s) (X1 : Ctx B (kindsIn Γ₀ sc) Wc1 W1 pe ρ s1) (g1 : Grown Wc W s Wc1 W1) (e1 : EffP B (tgt Z p D₀) s s1) (hp1 : ∀ b, p1.a b → Wc1 b) (hnew : ∀ b, p1.a b → p.a b ∨ s.heap.objs.size ≤ b) (hg : p1.g = p.g) (hDc : Wc D₀)
    (r1 : RepAll B s1.heap W1 l1 vsa) (k : LoopK B Z sc Γ₀ pe D₀ ρ (l1 ++ l2) Wc W p vs R s) : LoopK B Z sc Γ₀ pe D₀ ρ l2 Wc1 W1 p1 (vs ++ vsa.toArray) R s1 := by
  intro s' Wc' W' vs' n' X' g' hD' r' e'
  refine k s' Wc' W' (vsa ++ vs') n' X' (g1.trans O e1.size g') (by rw [hD']; simp) (RepAll.append (RepAll.on O (fun b q => (g1.own b).mpr (hZ b q)) X1 r1 e' hp1 (g1.c _ hDc) g') r') (e1.trans e' (fun b q => ?_) fun i q => .inl (by rw [← hg]; exact q))
  rcases q with q | q | q
  · exact .inl (.inl q)
  · exact (hnew b q).imp (fun z => .inr (.inl z)) id
  · exact .inl (.inr (.inr q))
theorem loop_ok {Z : Addr → Prop} {K : Nat} {Φ : Phi} {elt : E} {gens : List Gn} {sc : List (Nat × NameKind)} {pos : Pos} {Γ₀ : Kinds} {D₀ : Addr} (hz : ∀ x b, sc.lookup x = some .local ∨ sc.lookup x = some .cell → (zP B pe x).a b → Z b) (RK : Room A K) (R20 : Room A (K - 4)) (helt : Snd B K Φ elt) :
    ∀ (r : List Gn), SndGs B K Φ r → ∀ (t : Tg) (itE : E) (ifs : List E), SndC B K Φ ifs → ∀ (d : Nat), gens.drop d = .mk t itE ifs :: r →
    ∀ (it : Addr) (F : Addr → Prop) (I : List D → Pv → Shared → Prop), IterOk B K F it I → ∀ (items : List D) (ρ : REnv) (l : List D) (R : Result → Shared → Prop) (s : Shared) (Wc W : Addr → Prop) (p : Pv) (vs : Array Value) (n : Nat),
      evLoop sc t (fun ρ' => do
          let c ← evC Φ (kindsIn Γ₀ sc) ρ' ifs
          if c then evG Φ sc (kindsIn Γ₀ sc) r (fun ρ'' => do (← ev Φ (kindsIn Γ₀ sc) ρ'' elt).asD) ρ' else some []) ρ items = some l →
      (∀ b, Z b → W b ∧ ¬ Wc b) → Ctx B (kindsIn Γ₀ sc) Wc W pe ρ s → I items p s → (∀ b, F b → ¬ W b ∧ b < s.heap.objs.size) → (∀ b, p.a b → Wc b ∧ B.h₀.objs.size ≤ b) → AccAt (B := B) D₀ Wc W vs n s → ¬ p.a D₀ → vs.size + l.length ≤ lim →
      LoopK B Z sc Γ₀ pe D₀ ρ l Wc W p vs R s →
      codeAny B.M A (.compLoop (.ListComp (elt.py B.nm) (pyG B.nm gens) (scOf B.nm sc) pos) d (.ref it) (.ref D₀) pe) R s := by
  intro r
  induction r with
  | nil =>
    intro hgs t itE ifs hifs d hdrop it F I ok items
    obtain ⟨hd, hd1⟩ := drop_at O hdrop
    have h1 : (pyG B.nm gens)[d]? = some ⟨t.py B.nm, itE.py B.nm, pyL B.nm ifs, 0⟩ := by rw [pyG_get O, hd]; rfl
    have h2 : (pyG B.nm gens)[d + 1]? = none := by
      rw [pyG_get O]
      have := congrArg List.head? hd1
      rw [List.head?_drop] at this
      rw [this]; rfl
    induction items with
    | nil =>
      intro ρ l R s Wc W p vs n hev hZ X hI hF hp hA hDp hlim k
      simp only [x_evLoop_nil, Option.some.injEq] at hev
      subst hev
      refine loop_of_turn O ?_
      rw [compTurn_last h1 h2]
      exact loop_done O R20 ok X hI hp hA hDp k
    | cons x rest ihi =>
      intro ρ l R s Wc W p vs n hev hZ X hI hF hp hA hDp hlim k
      simp only [x_evLoop_cons] at hev
      split at hev
      case isFalse => exact nomatch hev
      rename_i hfit
      simp only [Option.bind_eq_bind, Option.bind_eq_some_iff, Option.some.injEq] at hev
      obtain ⟨ρ', hb, l1, ⟨c, hc, hbody⟩, l2, hrest, rfl⟩ := hev
      refine loop_of_turn O ?_
      rw [compTurn_last h1 h2]
      refine step_ok O hZ hz RK R20 hifs ok X hI hF hp hfit hb hc hA.at' hA.c hA.hi hDp fun s3 Wc3 W3 p1 X3 hmono hseal g3 I3 hnew hp1 hg hDp1 e3 hD3 => ?_
      have X3ρ := Ctx.weaken O X3 hmono hseal
      have F3 : ∀ b, F b → ¬ W3 b ∧ b < s3.heap.objs.size := fun b q => ⟨fun z => (g3.new b z).elim (hF b q).1 fun z => Nat.lt_irrefl _ (Nat.lt_of_lt_of_le (hF b q).2 z), Nat.lt_of_lt_of_le (hF b q).2 e3.size⟩
      refine ⟨fun hct => ?_, fun hcf => ?_⟩
      · subst hct
        simp only [if_true, x_evG_nil, Option.map_eq_some_iff, Option.bind_eq_bind, Option.bind_eq_some_iff] at hbody
        obtain ⟨y, ⟨re, he, hre⟩, rfl⟩ := hbody
        refine wpAny_bind (wpAny_bind (useD O helt he hre X3 RK fun w s4 e4 X4 q4 => wpAny_bind (wpAny_list_append_plain (items := vs) ⟨n, e4.keep _ _ (kept_nT O hA.hi) hD3⟩ (fun h' hl' hs' => wpAny_pure (wpAny_pure ⟨rfl, ?_⟩)) (sizeLine_lim (by simp only [List.length_append, List.length_cons, List.length_nil] at hlim; lia)))))
        obtain ⟨n', hl'⟩ := hl'
        have ea : EffP B ⟨fun b => b = D₀, fun _ => False⟩ s4 { s4 with heap := h' } :=
          eff_at O (t := s4.toks) (kept_nT O hA.hi) (list_nc (e4.keep _ _ (kept_nT O hA.hi) hD3)) hs'
        have X4ρ := X3ρ.move O e4
        have X5 : Ctx B (kindsIn Γ₀ sc) Wc3 W3 pe ρ { s4 with heap := h' } := Ctx.moveP O X4ρ ea (fun b q => q ▸ g3.c _ hA.c) (fun b q => q ▸ hA.hi)
        have e35 : EffP B ⟨fun b => b = D₀, fun _ => False⟩ s3 { s4 with heap := h' } := (e4.toP _).trans ea (fun b q => .inl q) (fun i q => .inl q)
        have e5 : EffP B (tgt Z p D₀) s { s4 with heap := h' } := e3.trans e35 (fun b q => .inl (.inr (.inr q))) (fun i q => q.elim)
        have I5 : I rest p1 { s4 with heap := h' } := by
          refine ok.stay _ _ _ _ I3 (fun b o nt q z => e35.keep b o nt (fun w => ?_) z) e35.ck e35.size (fun i y q z => e35.gens i y (fun w => w.elim) z) X5.good
          subst w
          rcases q with q | q
          · exact (F3 _ q).1 (g3.w _ (X.cW _ hA.c))
          · exact hDp1 q
        have r5 : RepAll B ({ s4 with heap := h' } : Shared).heap W3 [y] [w] := by
          exact RepAll.cons (Rep.move O (ea.kW X3.tW' fun b z => z ▸ g3.w _ (X.cW _ hA.c)) (fun b q => .inl q) _ _ q4) RepAll.nil
        refine ihi ρ l2 R _ Wc3 W3 p1 (vs ++ [w].toArray) n' hrest (fun b q => (g3.own b).mpr (hZ b q)) X5 I5 (fun b q => ⟨(F3 b q).1, Nat.lt_of_lt_of_le (F3 b q).2 e35.size⟩) hp1 ⟨?_, g3.c _ hA.c, hA.hi⟩ hDp1 ?_ (loop_again O hZ X X5 g3 e5 (fun b q => (hp1 b q).1) hnew hg hA.c r5 k)
        · rw [hl']; simp
        · simp only [Array.size_append, List.size_toArray, List.length_append, List.length_cons, List.length_nil] at hlim ⊢; lia
      · subst hcf
        simp only [Bool.false_eq_true, if_false, Option.some.injEq] at hbody
        subst hbody
        refine wpAny_pure ⟨rfl, ?_⟩
        have := loop_again O (l1 := []) (l2 := l2) (vsa := []) hZ X X3ρ g3 e3 (fun b q => (hp1 b q).1) hnew hg hA.c RepAll.nil k
        refine ihi ρ l2 R _ Wc3 W3 p1 vs n hrest (fun b q => (g3.own b).mpr (hZ b q)) X3ρ I3 F3 hp1 ⟨hD3, g3.c _ hA.c, hA.hi⟩ hDp1 (by simpa using hlim) ?_
        simpa using this
  | cons g r ihr =>
    obtain ⟨t', itE', ifs'⟩ := g
    intro hgs t itE ifs hifs d hdrop it F I ok items
    obtain ⟨hd, hd1⟩ := drop_at O hdrop
    obtain ⟨hd2, hd3⟩ := drop_at O hd1
    have h1 : (pyG B.nm gens)[d]? = some ⟨t.py B.nm, itE.py B.nm, pyL B.nm ifs, 0⟩ := by rw [pyG_get O, hd]; rfl
    have h2 : (pyG B.nm gens)[d + 1]? = some ⟨t'.py B.nm, itE'.py B.nm, pyL B.nm ifs', 0⟩ := by rw [pyG_get O, hd2]; rfl
    obtain ⟨hit', hifs'⟩ := hgs t' itE' ifs' List.mem_cons_self
    have hgs' : SndGs B K Φ r := fun a b c h => hgs a b c (List.mem_cons_of_mem _ h)
    induction items with
    | nil =>
      intro ρ l R s Wc W p vs n hev hZ X hI hF hp hA hDp hlim k
      simp only [x_evLoop_nil, Option.some.injEq] at hev
      subst hev
      refine loop_of_turn O ?_
      rw [compTurn_more h1 h2]
      exact loop_done O R20 ok X hI hp hA hDp k
    | cons x rest ihi =>
      intro ρ l R s Wc W p vs n hev hZ X hI hF hp hA hDp hlim k
      simp only [x_evLoop_cons] at hev
      split at hev
      case isFalse => exact nomatch hev
      rename_i hfit
      simp only [Option.bind_eq_bind, Option.bind_eq_some_iff, Option.some.injEq] at hev
      obtain ⟨ρ', hb, l1, ⟨c, hc, hbody⟩, l2, hrest, rfl⟩ := hev
      refine loop_of_turn O ?_
      rw [compTurn_more h1 h2]
      refine step_ok O hZ hz RK R20 hifs ok X hI hF hp hfit hb hc hA.at' hA.c hA.hi hDp fun s3 Wc3 W3 p1 X3 hmono hseal g3 I3 hnew hp1 hg hDp1 e3 hD3 => ?_
      have X3ρ := Ctx.weaken O X3 hmono hseal
      have F3 : ∀ b, F b → ¬ W3 b ∧ b < s3.heap.objs.size := fun b q => ⟨fun z => (g3.new b z).elim (hF b q).1 fun z => Nat.lt_irrefl _ (Nat.lt_of_lt_of_le (hF b q).2 z), Nat.lt_of_lt_of_le (hF b q).2 e3.size⟩
      refine ⟨fun hct => ?_, fun hcf => ?_⟩
      · subst hct
        simp only [if_true, x_evG_cons, Option.bind_eq_bind, Option.bind_eq_some_iff] at hbody
        obtain ⟨r4, h4, items', hi4, hloop⟩ := hbody
        refine wpAny_bind (wpAny_mono (hit' _ _ _ h4 _ _ _ _ _ X3 RK) ?_ fun _ _ f => f.elim)
        rintro v4 s4 ⟨e4, q4⟩
        have X4 := X3.move O e4
        refine wpAny_bind (wpAny_standAt ?_)
        rw [py_fold O]
        refine wpAny_bind (wpAny_pure (wpAny_bind (wpAny_holding (iter_ok O hi4 X4.tW' X4.wlt X4.good R20 e4 q4 fun it' F' p' I' s5 at5 hlen5 e5 => ?_))))
        obtain ⟨ok', hI', hF', hp', hg'⟩ := at5
        have e35 := e4.trans e5
        have hN : ∀ b, p'.a b → s3.heap.objs.size ≤ b ∧ b < s5.heap.objs.size := fun b q => ⟨hp' b q, (ok'.sub _ _ _ hI' b q).2.2⟩
        have X5 : Ctx B (kindsIn Γ₀ sc) (orP Wc3 p'.a) (orP W3 p'.a) pe ρ' s5 := Ctx.grow O X3 (e35.toP ⟨fun _ => False, fun _ => False⟩) (fun b q => q.elim) (fun b q => q.elim) hN
        have hD5 := e35.keep _ _ (kept_nT O hA.hi) hD3
        have hDp' : ¬ p'.a D₀ := fun q => Nat.lt_irrefl _ (Nat.lt_of_lt_of_le (Heap.lt_size hD3) (hp' _ q))
        refine wpAny_bind (wpAny_runOwn (h := none) (show codeAny B.M A _ _ s5 from ?_))
        refine compStart_at O (g := ⟨t'.py B.nm, itE'.py B.nm, pyL B.nm ifs', 0⟩) (by show (pyG B.nm gens)[d + 1]? = _; exact h2) rfl rfl rfl rfl ok' hI' X5.good R20 ?_
        refine ihr hgs' t' itE' ifs' hifs' (d + 1) hd1 it' F' I' ok' items' ρ' l1 _ s5 _ _ p' vs n hloop (fun b q => ((Grown.or O X3.wlt fun b q => hp' b q).own b).mpr ((g3.own b).mpr (hZ b q))) X5 hI' (fun b q => ⟨fun z => z.elim (hF' b q).1 fun z => (ok'.sub _ _ _ hI' b z).1 q, (hF' b q).2⟩) (fun b q => ⟨.inr q, Nat.le_trans X3.good.size (hp' b q)⟩) ⟨hD5, .inl (g3.c _ hA.c), hA.hi⟩ hDp' (by simp only [List.length_append] at hlim; lia) ?_
        intro s6 Wc6 W6 vsa n6 X6 g6 hD6 r6 e6
        have X6ρ := Ctx.weaken O X6 hmono hseal
        have g36 : Grown Wc3 W3 s3 Wc6 W6 := (Grown.or O X3.wlt fun b q => hp' b q).trans O e35.size g6
        have g06 : Grown Wc W s Wc6 W6 := g3.trans O e3.size g36
        have e06 : EffP B (tgt Z p D₀) s s6 := by
          refine (e3.trans (e35.toP ⟨fun _ => False, fun _ => False⟩) (fun b q => q.elim) (fun i q => q.elim)).trans e6 (fun b q => ?_) (fun i q => ?_)
          · rcases q with q | q | q
            · exact .inl (.inl q)
            · exact .inr (Nat.le_trans e3.size (hp' b q))
            · exact .inl (.inr (.inr q))
          · exact .inr (Nat.le_trans e3.gsize (hg' i q))
        have e36 : EffP B ⟨fun b => Z b ∨ s3.heap.objs.size ≤ b ∨ b = D₀, fun i => s3.gens.size ≤ i⟩ s3 s6 := by
          refine (e35.toP _).trans e6 (fun b q => ?_) (fun i q => .inr (hg' i q))
          rcases q with q | q | q
          · exact .inl (.inl q)
          · exact .inr (hp' b q)
          · exact .inl (.inr (.inr q))
        have I6 : I rest p1 s6 := by
          refine ok.stay _ _ _ _ I3 (fun b o nt q z => e36.keep b o nt (fun w => ?_) z) e36.ck e36.size (fun i y q z => e36.gens i y (fun w => ?_) z) X6.good
          · rcases w with w | w | w
            · have w := (g3.own b).mpr (hZ b w)
              rcases q with q | q
              · exact (F3 b q).1 w.1
              · exact w.2 (hp1 b q).1
            · rcases q with q | q
              · exact Nat.lt_irrefl _ (Nat.lt_of_lt_of_le (F3 b q).2 w)
              · exact Nat.lt_irrefl _ (Nat.lt_of_lt_of_le (ok.sub _ _ _ I3 b q).2.2 w)
            · subst w
              rcases q with q | q
              · exact (F3 _ q).1 (g3.w _ (X.cW _ hA.c))
              · exact hDp1 q
          · exact Nat.lt_irrefl _ (Nat.lt_of_lt_of_le (ok.subg _ _ _ I3 i q) w)
        refine wpAny_pure ⟨rfl, ?_⟩
        refine ihi ρ l2 R _ Wc6 W6 p1 (vs ++ vsa.toArray) n6 hrest (fun b q => (g06.own b).mpr (hZ b q)) X6ρ I6 (fun b q => ⟨fun z => (g06.new b z).elim (hF b q).1 fun z => Nat.lt_irrefl _ (Nat.lt_of_lt_of_le (hF b q).2 z), Nat.lt_of_lt_of_le (hF b q).2 e06.size⟩) (fun b q => ⟨g36.c b (hp1 b q).1, (hp1 b q).2⟩) ⟨hD6, g06.c _ hA.c, hA.hi⟩ hDp1 ?_
          (loop_again O hZ X X6ρ g06 e06 (fun b q => g36.c b (hp1 b q).1) hnew hg hA.c r6 k)
        have := RepAll.length r6
        simp only [Array.size_append, List.size_toArray, List.length_append] at hlim ⊢; lia
      · subst hcf
        simp only [Bool.false_eq_true, if_false, Option.some.injEq] at hbody
        subst hbody
        refine wpAny_pure ⟨rfl, ?_⟩
        have := loop_again O (l1 := []) (l2 := l2) (vsa := []) hZ X X3ρ g3 e3 (fun b q => (hp1 b q).1) hnew hg hA.c RepAll.nil k
        refine ihi ρ l2 R _ Wc3 W3 p1 vs n hrest (fun b q => (g3.own b).mpr (hZ b q)) X3ρ I3 F3 hp1 ⟨hD3, g3.c _ hA.c, hA.hi⟩ hDp1 (by simpa using hlim) ?_
        simpa using this
end
end Mine
namespace Mine
variable {B : Bs}
noncomputable abbrev named (nm : Nat → Str) (sc : List (Nat × NameKind)) : List (Str × NameKind) := sc.map fun q => (nm q.1, q.2)
section
variable (O : B.Ok)
include O
theorem lookup_named (x : Nat) : ∀ sc : List (Nat × NameKind), (named B.nm sc).lookup (B.nm x) = sc.lookup x
  | [] => rfl
  | (y, k) :: r => by
    show List.lookup (B.nm x) ((B.nm y, k) :: named B.nm r) = _
    rw [List.lookup_cons, List.lookup_cons]
    by_cases h : x = y
    · subst h; simp
    · have h1 : (x == y) = false := by simpa using h
      have h2 : (B.nm x == B.nm y) = false := by
        rw [beq_eq_false_iff_ne]; exact fun q => h (O.inj _ _ q)
      rw [h1, h2]; exact lookup_named x r
noncomputable def clOf (nm : Nat → Str) (pe : Env) : List (Nat × NameKind) → List (Str × Addr) → List (Str × Addr)
  | [], acc => acc
  | (x, k) :: r, acc => if k == .free then clOf nm pe r ((nm x, (pe.cells.lookup (nm x)).getD 0) :: acc) else clOf nm pe r acc
theorem closure_fold (nm : Nat → Str) (pe : Env) (f : Str × NameKind → List (Str × Addr) → Sem (ForInStep (List (Str × Addr)))) (hf : ∀ n k cs, f (n, k) cs = if k == .free then (do let c ← cellOf pe n; pure (.yield ((n, c) :: cs))) else pure (.yield cs)) :
    ∀ (sc : List (Nat × NameKind)) (acc : List (Str × Addr)), (∀ q ∈ sc, q.2 = .free → (pe.cells.lookup (nm q.1)).isSome) → forIn (named nm sc) acc f = pure (clOf nm pe sc acc)
  | [], acc, _ => rfl
  | (x, k) :: r, acc, h => by
    show forIn ((nm x, k) :: named nm r) acc f = _
    rw [List.forIn_cons, hf]
    unfold clOf
    by_cases hk : (k == .free) = true
    · rw [if_pos hk, if_pos hk]
      obtain ⟨c, hc⟩ := Option.isSome_iff_exists.mp (h (x, k) List.mem_cons_self (by simpa using hk))
      have : cellOf pe (nm x) = pure c := by unfold cellOf; rw [hc]
      rw [this, hc]
      exact closure_fold nm pe f hf r _ fun q hq => h q (List.mem_cons_of_mem _ hq)
    · rw [if_neg hk, if_neg hk]
      exact closure_fold nm pe f hf r _ fun q hq => h q (List.mem_cons_of_mem _ hq)
theorem closure_ok (pe : Env) (sc : List (Nat × NameKind)) (h : ∀ q ∈ sc, q.2 = .free → (pe.cells.lookup (B.nm q.1)).isSome) : closureFor (scOf B.nm sc) pe = pure (clOf B.nm pe sc []) := by
  unfold closureFor
  have := closure_fold O B.nm pe (fun x cs => match x with | (name, kind) => if kind == .free then (do let c ← cellOf pe name; pure (.yield ((name, c) :: cs))) else pure (.yield cs)) (fun _ _ _ => rfl) sc [] h
  exact (congrArg (fun t : Sem (List (Str × Addr)) => t >>= fun r => (pure r : Sem (List (Str × Addr))) >>= fun r => pure r) this).trans rfl
theorem clOf_lookup (pe : Env) (x : Nat) : ∀ (sc : List (Nat × NameKind)) (acc : List (Str × Addr)), (sc.map (·.1)).Nodup → (clOf B.nm pe sc acc).lookup (B.nm x) = if sc.lookup x = some .free then some ((pe.cells.lookup (B.nm x)).getD 0) else acc.lookup (B.nm x)
  | [], acc, _ => by simp [clOf]
  | (y, k) :: r, acc, hn => by
    simp only [List.map_cons, List.nodup_cons] at hn
    unfold clOf
    by_cases h : x = y
    · subst h
      have hr : r.lookup x = none := by
        rw [List.lookup_eq_none_iff]
        intro q hq
        rw [bne_iff_ne]; rintro rfl
        exact hn.1 (List.mem_map.mpr ⟨q, hq, rfl⟩)
      by_cases hk : (k == .free) = true
      · rw [if_pos hk, clOf_lookup pe x r _ hn.2, hr]
        have : k = .free := by simpa using hk
        subst this
        simp [List.lookup_cons]
      · rw [if_neg hk, clOf_lookup pe x r _ hn.2, hr]
        have : k ≠ .free := by simpa using hk
        simp [List.lookup_cons, this]
    · have h1 : (x == y) = false := by simpa using h
      have h2 : (B.nm x == B.nm y) = false := by
        rw [beq_eq_false_iff_ne]; exact fun q => h (O.inj _ _ q)
      by_cases hk : (k == .free) = true
      · rw [if_pos hk, clOf_lookup pe x r _ hn.2, List.lookup_cons, List.lookup_cons, h1, h2]
      · rw [if_neg hk, clOf_lookup pe x r _ hn.2, List.lookup_cons, h1]
theorem clOf_mem (pe : Env) : ∀ (sc : List (Nat × NameKind)) (acc : List (Str × Addr)) (n : Str) (c : Addr), (n, c) ∈ clOf B.nm pe sc acc → (n, c) ∈ acc ∨ ∃ q ∈ sc, q.2 = .free ∧ n = B.nm q.1 ∧ c = (pe.cells.lookup (B.nm q.1)).getD 0
  | [], acc, n, c, h => .inl h
  | (y, k) :: r, acc, n, c, h => by
    unfold clOf at h
    by_cases hk : (k == .free) = true
    · rw [if_pos hk] at h
      rcases clOf_mem pe r _ n c h with h | ⟨q, hq, e⟩
      · rcases List.mem_cons.mp h with h | h
        · cases h
          exact .inr ⟨(y, k), List.mem_cons_self, by simpa using hk, rfl, rfl⟩
        · exact .inl h
      · exact .inr ⟨q, List.mem_cons_of_mem _ hq, e⟩
    · rw [if_neg hk] at h
      rcases clOf_mem pe r _ n c h with h | ⟨q, hq, e⟩
      · exact .inl h
      · exact .inr ⟨q, List.mem_cons_of_mem _ hq, e⟩
theorem clOf_keys (pe : Env) : ∀ (sc : List (Nat × NameKind)) (acc : List (Str × Addr)), (sc.map (·.1)).Nodup → (acc.map (·.1)).Nodup → (∀ z ∈ acc, ∀ q ∈ sc, z.1 ≠ B.nm q.1) → ((clOf B.nm pe sc acc).map (·.1)).Nodup
  | [], acc, _, h, _ => h
  | (y, k) :: r, acc, hn, h, ha => by
    simp only [List.map_cons, List.nodup_cons] at hn
    unfold clOf
    by_cases hk : (k == .free) = true
    · rw [if_pos hk]
      refine clOf_keys pe r _ hn.2 ?_ ?_
      · rw [List.map_cons, List.nodup_cons]
        refine ⟨fun hm => ?_, h⟩
        obtain ⟨z, hz, e⟩ := List.mem_map.mp hm
        exact ha z hz (y, k) List.mem_cons_self e
      · intro z hz q hq
        rcases List.mem_cons.mp hz with rfl | hz
        · intro e
          exact hn.1 (List.mem_map.mpr ⟨q, hq, (O.inj _ _ e).symm⟩)
        · exact ha z hz q (List.mem_cons_of_mem _ hq)
    · rw [if_neg hk]
      exact clOf_keys pe r _ hn.2 h fun z hz q hq => ha z hz q (List.mem_cons_of_mem _ hq)
theorem clOf_apart {pe : Env} (hp : pe.cells.Pairwise fun x y => x.2 ≠ y.2) : ∀ (sc : List (Nat × NameKind)) (acc : List (Str × Addr)), (sc.map (·.1)).Nodup → (∀ q ∈ sc, q.2 = .free → (pe.cells.lookup (B.nm q.1)).isSome) →
    acc.Pairwise (fun x y => x.2 ≠ y.2) → (∀ z ∈ acc, ∃ n, pe.cells.lookup n = some z.2 ∧ ∀ q ∈ sc, n ≠ B.nm q.1) → (clOf B.nm pe sc acc).Pairwise fun x y => x.2 ≠ y.2
  | [], acc, _, _, h, _ => h
  | (y, k) :: r, acc, hn, hs, h, ha => by
    simp only [List.map_cons, List.nodup_cons] at hn
    unfold clOf
    by_cases hk : (k == .free) = true
    · rw [if_pos hk]
      obtain ⟨c, hc⟩ := Option.isSome_iff_exists.mp (hs (y, k) List.mem_cons_self (by simpa using hk))
      simp only [hc, Option.getD_some]
      refine clOf_apart hp r _ hn.2 (fun q hq => hs q (List.mem_cons_of_mem _ hq)) ?_ ?_
      · refine List.pairwise_cons.mpr ⟨fun z hz e => ?_, h⟩
        obtain ⟨n, h1, h2⟩ := ha z hz
        have e' : c = z.2 := e
        rw [← e'] at h1
        exact h2 (y, k) List.mem_cons_self (name_of_addr hp (mem_of_lookup h1) (mem_of_lookup hc))
      · intro z hz
        rcases List.mem_cons.mp hz with rfl | hz
        · refine ⟨B.nm y, hc, fun q hq e => ?_⟩
          exact hn.1 (List.mem_map.mpr ⟨q, hq, (O.inj _ _ e).symm⟩)
        · obtain ⟨n, h1, h2⟩ := ha z hz
          exact ⟨n, h1, fun q hq => h2 q (List.mem_cons_of_mem _ hq)⟩
    · rw [if_neg hk]
      refine clOf_apart hp r _ hn.2 (fun q hq => hs q (List.mem_cons_of_mem _ hq)) h fun z hz => ?_
      obtain ⟨n, h1, h2⟩ := ha z hz
      exact ⟨n, h1, fun q hq => h2 q (List.mem_cons_of_mem _ hq)⟩
theorem pushCells_size : ∀ (names : List (Str × NameKind)) (h : Heap), h.objs.size ≤ (pushCells h names).objs.size
  | [], _ => Nat.le_refl _
  | (_, k) :: r, h => by
    unfold pushCells
    split
    · exact Nat.le_trans (by rw [Heap.size_push]; lia) (pushCells_size r _)
    · exact pushCells_size r h
theorem cellsFrom_lookup (x : Nat) : ∀ (sc : List (Nat × NameKind)) (h : Heap) (acc : List (Str × Addr)), (sc.map (·.1)).Nodup →
    (sc.lookup x = some .cell → ∃ c, (cellsFrom h.objs.size (named B.nm sc) acc).lookup (B.nm x) = some c ∧ h.objs.size ≤ c ∧ c < (pushCells h (named B.nm sc)).objs.size ∧ (pushCells h (named B.nm sc)).IsCell c none) ∧
    (sc.lookup x ≠ some .cell → (cellsFrom h.objs.size (named B.nm sc) acc).lookup (B.nm x) = acc.lookup (B.nm x))
  | [], h, acc, _ => ⟨fun q => by simp at q, fun _ => rfl⟩
  | (y, k) :: r, h, acc, hn => by
    simp only [List.map_cons, List.nodup_cons] at hn
    show (_ → ∃ c, (cellsFrom h.objs.size ((B.nm y, k) :: named B.nm r) acc).lookup (B.nm x) = some c ∧ _ ≤ c ∧ c < (pushCells h ((B.nm y, k) :: named B.nm r)).objs.size ∧ (pushCells h ((B.nm y, k) :: named B.nm r)).IsCell c none) ∧ (_ → (cellsFrom h.objs.size ((B.nm y, k) :: named B.nm r) acc).lookup (B.nm x) = _)
    unfold cellsFrom pushCells
    by_cases hk : (k == .cell) = true
    · simp only [if_pos hk]
      have hkc : k = .cell := by simpa using hk
      subst hkc
      have ih := cellsFrom_lookup x r (h.push { cls := .type "cell", data := .cell none }) ((B.nm y, h.objs.size) :: acc) hn.2
      rw [Heap.size_push] at ih
      have hsz := pushCells_size O (named B.nm r) (h.push { cls := .type "cell", data := .cell none })
      rw [Heap.size_push] at hsz
      by_cases hxy : x = y
      · subst hxy
        have hr : r.lookup x = none := by
          rw [List.lookup_eq_none_iff]
          intro q hq
          rw [bne_iff_ne]; rintro rfl
          exact hn.1 (List.mem_map.mpr ⟨q, hq, rfl⟩)
        refine ⟨fun _ => ⟨h.objs.size, ?_, Nat.le_refl _, hsz, ?_⟩, fun q => ?_⟩
        · rw [ih.2 (by rw [hr]; simp)]; simp [List.lookup_cons]
        · exact ⟨_, pushCells_keeps _ _ _ _ (Heap.get?_push_size _ rfl), rfl⟩
        · simp [List.lookup_cons] at q
      · have h1 : (x == y) = false := by simpa using hxy
        have h2 : (B.nm x == B.nm y) = false := by
          rw [beq_eq_false_iff_ne]; exact fun q => hxy (O.inj _ _ q)
        refine ⟨fun q => ?_, fun q => ?_⟩
        · rw [List.lookup_cons, h1] at q
          obtain ⟨c, e1, e2, e3, e4⟩ := ih.1 q
          exact ⟨c, e1, Nat.le_of_succ_le e2, e3, e4⟩
        · rw [List.lookup_cons, h1] at q
          rw [ih.2 q, List.lookup_cons, h2]
    · simp only [if_neg hk]
      have hkc : k ≠ .cell := by simpa using hk
      have ih := cellsFrom_lookup x r h acc hn.2
      by_cases hxy : x = y
      · subst hxy
        have hr : r.lookup x = none := by
          rw [List.lookup_eq_none_iff]
          intro q hq
          rw [bne_iff_ne]; rintro rfl
          exact hn.1 (List.mem_map.mpr ⟨q, hq, rfl⟩)
        refine ⟨fun q => ?_, fun _ => ih.2 (by rw [hr]; simp)⟩
        simp [List.lookup_cons, hkc] at q
      · have h1 : (x == y) = false := by simpa using hxy
        rw [List.lookup_cons, h1]
        exact ih
theorem cellsFrom_apart : ∀ (names : List (Str × NameKind)) (n : Nat) (acc : List (Str × Addr)), (∀ z ∈ acc, z.2 < n) → acc.Pairwise (fun x y => x.2 ≠ y.2) → (cellsFrom n names acc).Pairwise fun x y => x.2 ≠ y.2
  | [], n, acc, _, h => h
  | (_, k) :: r, n, acc, hl, h => by
    unfold cellsFrom
    split
    · refine cellsFrom_apart r _ _ (fun z hz => ?_) (List.pairwise_cons.mpr ⟨fun z hz e => ?_, h⟩)
      · rcases List.mem_cons.mp hz with rfl | hz
        · exact Nat.lt_succ_self _
        · exact Nat.lt_succ_of_lt (hl z hz)
      · have e' : n = z.2 := e
        exact Nat.lt_irrefl _ (e' ▸ hl z hz)
    · exact cellsFrom_apart r _ _ hl h
end
end Mine
namespace Mine
variable {B : Bs}
section
variable (O : B.Ok)
include O
variable {Γ : Kinds} {ρ : REnv} {Wc W : Addr → Prop} {pe : Env} {A : Around} {s : Shared}
theorem relabel_lookup (pe : Env) (x : Nat) : ∀ sc : List (Nat × NameKind), ((named B.nm sc).map fun (n, k) => if (k == NameKind.free && pe.scope.kind == .function && pe.kindOf n == some .cell) then (n, NameKind.cell) else (n, k)).lookup (B.nm x) =
    (sc.lookup x).map fun k => if (k == NameKind.free && pe.scope.kind == .function && pe.kindOf (B.nm x) == some .cell) then .cell else k
  | [] => rfl
  | (y, k) :: r => by
    show List.lookup (B.nm x) ((if (k == NameKind.free && pe.scope.kind == .function && pe.kindOf (B.nm y) == some .cell) = true then (B.nm y, NameKind.cell) else (B.nm y, k)) :: _) = _
    by_cases h : x = y
    · subst h
      split <;> simp_all [List.lookup_cons]
    · have h1 : (x == y) = false := by simpa using h
      have h2 : (B.nm x == B.nm y) = false := by
        rw [beq_eq_false_iff_ne]; exact fun q => h (O.inj _ _ q)
      rw [List.lookup_cons (a := x), h1]
      split
      · rw [List.lookup_cons, h2]; exact relabel_lookup pe x r
      · rw [List.lookup_cons, h2]; exact relabel_lookup pe x r
theorem mem_of_lookupN {α : Type} : ∀ {l : List (Nat × α)} {x : Nat} {k : α}, l.lookup x = some k → (x, k) ∈ l
  | [], _, _, h => by simp at h
  | (y, k') :: r, x, k, h => by
    rw [List.lookup_cons] at h
    cases hb : x == y with
    | true => rw [hb] at h; obtain rfl := Option.some.inj h; rw [show x = y by simpa using hb]; exact List.mem_cons_self
    | false => rw [hb] at h; exact List.mem_cons_of_mem _ (mem_of_lookupN h)
theorem lookup_of_memN {α : Type} : ∀ {l : List (Nat × α)} {x : Nat} {k : α}, (l.map (·.1)).Nodup → (x, k) ∈ l → l.lookup x = some k
  | [], _, _, _, h => by simp at h
  | (y, k') :: r, x, k, hn, h => by
    simp only [List.map_cons, List.nodup_cons] at hn
    rcases List.mem_cons.mp h with h1 | h1
    · cases h1; simp [List.lookup_cons]
    · have : x ≠ y := by
        rintro rfl
        exact hn.1 (List.mem_map.mpr ⟨(x, k), h1, rfl⟩)
      rw [List.lookup_cons, show (x == y) = false by simpa using this]
      exact lookup_of_memN hn.2 h1
structure ScOk (Γ : Kinds) (sc : List (Nat × NameKind)) : Prop where
  nd : (sc.map (·.1)).Nodup
  free : ∀ x, sc.lookup x = some .free → Γ x = some .cell ∨ Γ x = some .free
  kinds : ∀ x k, sc.lookup x = some k → k = .free ∨ k = .local ∨ k = .cell ∨ k = .globalImplicit
theorem scOk_iff {sc : List (Nat × NameKind)} (h : scOk Γ sc = true) : ScOk Γ sc := by
  simp only [scOk, Bool.and_eq_true, decide_eq_true_eq, List.all_eq_true] at h
  refine ⟨h.1, fun x hx => ?_, fun x k hx => ?_⟩
  · have := h.2 _ (mem_of_lookupN O hx)
    simpa using this
  · have := h.2 _ (mem_of_lookupN O hx)
    cases k <;> simp_all
theorem env_fk {sc : List (Nat × NameKind)} (hsc : ScOk Γ sc) (X : Ctx B Γ Wc W pe ρ s) : ∀ x, sc.lookup x = some .free → (pe.kindOf (B.nm x) = some .cell ∨ pe.kindOf (B.nm x) = some .free) ∧ ∃ c, pe.cells.lookup (B.nm x) = some c := fun x hx => by
  rcases hsc.free x hx with h | h
  · exact ⟨.inl (X.kinds _ _ h).1, (X.kinds _ _ h).2 (.inl rfl)⟩
  · exact ⟨.inr (X.kinds _ _ h).1, (X.kinds _ _ h).2 (.inr rfl)⟩
theorem env_kin {sc : List (Nat × NameKind)} (hsc : ScOk Γ sc) (X : Ctx B Γ Wc W pe ρ s) : ∀ x kk, sc.lookup x = some kk → (if (kk == NameKind.free && pe.scope.kind == .function && pe.kindOf (B.nm x) == some .cell) = true then NameKind.cell else kk) = (if kk = .free ∧ Γ x = some .cell then .cell else kk) := fun x kk hx => by
  by_cases hf : kk = .free
  · subst hf
    rcases hsc.free x hx with h | h
    · rw [(X.kinds _ _ h).1, X.fn, h]; simp
    · rw [(X.kinds _ _ h).1, X.fn, h]; simp
  · simp [hf]
theorem env_clo {sc : List (Nat × NameKind)} (hsc : ScOk Γ sc) (hfk : ∀ x, sc.lookup x = some .free → (pe.kindOf (B.nm x) = some .cell ∨ pe.kindOf (B.nm x) = some .free) ∧ ∃ c, pe.cells.lookup (B.nm x) = some c) : ∀ x, (clOf B.nm pe sc []).lookup (B.nm x) = if sc.lookup x = some .free then pe.cells.lookup (B.nm x) else none := fun x => by
  rw [clOf_lookup O pe x sc [] hsc.nd]
  split
  · rename_i hx
    obtain ⟨c, hc⟩ := (hfk x hx).2
    rw [hc]; rfl
  · rfl
theorem comp_ctx {sc : List (Nat × NameKind)} {Q : Env → Shared → Prop} {cl : List (Str × Addr)} {h' : Heap} (hsc : ScOk Γ sc) (X : Ctx B Γ Wc W pe ρ s)
    (k : ∀ s' cenv, Ctx B (kindsIn Γ sc) Wc (orP W fun b => s.heap.objs.size ≤ b ∧ b < s'.heap.objs.size) { cenv with scope := relabel (scOf B.nm sc) pe } (ρ.cut sc) s' → Eff B s s' → (∀ x b, sc.lookup x = some .local ∨ sc.lookup x = some .cell → (zP B { cenv with scope := relabel (scOf B.nm sc) pe } x).a b → s.heap.objs.size ≤ b ∧ b < s'.heap.objs.size) → s.heap.objs.size ≤ cenv.locals → Q cenv s')
    (hcl : clOf B.nm pe sc [] = cl) (hh' : pushCells (s.heap.push { cls := .type "dict", data := .dict #[] }) (named B.nm sc) = h') (hL : (s.heap.push { cls := .type "dict", data := .dict #[] }).objs.size = s.heap.objs.size + 1)
    (hfk : ∀ x, sc.lookup x = some .free → (pe.kindOf (B.nm x) = some .cell ∨ pe.kindOf (B.nm x) = some .free) ∧ ∃ c, pe.cells.lookup (B.nm x) = some c) (hkin : ∀ x kk, sc.lookup x = some kk → (if (kk == NameKind.free && pe.scope.kind == .function && pe.kindOf (B.nm x) == some .cell) = true then NameKind.cell else kk) = (if kk = .free ∧ Γ x = some .cell then .cell else kk)) (hclo : ∀ x, cl.lookup (B.nm x) = if sc.lookup x = some .free then pe.cells.lookup (B.nm x) else none) :
    Q (newEnv (scOf B.nm sc) s.heap.objs.size pe.globals (cellsFrom (s.heap.objs.size + 1) (named B.nm sc) cl) pe.qual none .none (some pe) builtinsNs) { s with heap := h' } := by
  have hsz := pushCells_size O (named B.nm sc) (s.heap.push { cls := .type "dict", data := .dict #[] })
  rw [hh'] at hsz
  have keep : ∀ b o, s.heap.get? b = some o → h'.get? b = some o := fun b o e => hh' ▸ pushCells_keeps _ _ b o (Heap.get?_push_of_some _ e)
  have eff : Eff B s { s with heap := h' } := size_eff O keep (by show s.heap.objs.size ≤ h'.objs.size; lia) rfl rfl
  have cf := fun x => cellsFrom_lookup O x sc (s.heap.push { cls := .type "dict", data := .dict #[] }) cl hsc.nd
  rw [hL] at cf
  simp only [hh'] at cf
  have hcell : ∀ x c, (cellsFrom (s.heap.objs.size + 1) (named B.nm sc) cl).lookup (B.nm x) = some c → (sc.lookup x = some .cell ∧ s.heap.objs.size + 1 ≤ c ∧ c < h'.objs.size ∧ h'.IsCell c none) ∨ (sc.lookup x = some .free ∧ pe.cells.lookup (B.nm x) = some c) := fun x c e => by
    by_cases hx : sc.lookup x = some .cell
    · obtain ⟨c', e1, e2, e3, e4⟩ := (cf x).1 hx
      obtain rfl := Option.some.inj (e1.symm.trans e)
      exact .inl ⟨hx, e2, e3, e4⟩
    · rw [(cf x).2 hx, hclo] at e
      split at e
      · exact .inr ⟨by assumption, e⟩
      · exact nomatch e
  have nlt : ∀ b, b < s.heap.objs.size → ¬ (s.heap.objs.size ≤ b ∧ b < h'.objs.size) := fun b q z => Nat.lt_irrefl _ (Nat.lt_of_lt_of_le q z.1)
  have clt : ∀ x c, pe.cells.lookup (B.nm x) = some c → c < s.heap.objs.size := fun x c e => by
    obtain ⟨⟨v, hv⟩, _⟩ := X.cells x c e
    exact hv.lt
  have WcLt : ∀ b, Wc b → b < s.heap.objs.size := fun b q => X.wlt b (X.cW b q)
  have kind : ∀ x, (relabel (scOf B.nm sc) pe).names.lookup (B.nm x) = kindsIn Γ sc x := fun x => by
    show ((named B.nm sc).map _).lookup (B.nm x) = (sc.lookup x).map _
    rw [relabel_lookup O]
    cases hx : sc.lookup x with
    | none => rfl
    | some kk => simp only [Option.map_some]; rw [hkin x kk hx]
  have locOut : ∀ x v, sc.lookup x = some .free → Loc B pe s.heap x v → ∃ c, pe.cells.lookup (B.nm x) = some c ∧ s.heap.IsCell c (some v) := fun x v hx l => by
    rcases l with ⟨kk, _⟩ | ⟨kk, c, e, hc⟩
    · rcases (hfk x hx).1 with h | h <;> (rw [kk] at h; exact nomatch h)
    · exact ⟨c, e, hc⟩
  refine k { s with heap := h' } (newEnv (scOf B.nm sc) s.heap.objs.size pe.globals (cellsFrom (s.heap.objs.size + 1) (named B.nm sc) cl) pe.qual none .none (some pe) builtinsNs) ?_ eff (fun x b hx hb => by
    rcases hb with rfl | hb
    · exact ⟨Nat.le_refl _, by show s.heap.objs.size < h'.objs.size; lia⟩
    · rcases hcell x b hb with ⟨_, h1, h2, _⟩ | ⟨hf, _⟩
      · exact ⟨Nat.le_of_succ_le h1, h2⟩
      · rcases hx with hx | hx <;> (rw [hf] at hx; exact nomatch hx)) (Nat.le_refl _)
  have X' := X.move O eff
  have up : ∀ d v, Rep B s.heap W d v → Rep B h' (orP W fun b => s.heap.objs.size ≤ b ∧ b < h'.objs.size) d v := fun d v r =>
    Rep.move O (fun b o _ e => keep b o e) (fun b q => q.elim .inl fun z => .inr (Heap.get?_none_of_le z.1)) d v r
  exact {
    good := X'.good
    fn := rfl
    glob := X.glob
    blt := X.blt
    tW := X.tW
    cW := fun b q => .inl (X.cW b q)
    wlt := fun b q => q.elim (fun z => X'.wlt b z) fun z => z.2
    loc := by
      refine ⟨_, Heap.Ns.keeps (Heap.Ns.new s.heap (.type "dict")) fun b o e => ?_⟩
      exact hh' ▸ pushCells_keeps _ _ b o e
    locW := ⟨.inr ⟨Nat.le_refl _, by show s.heap.objs.size < h'.objs.size; lia⟩, fun q => Nat.lt_irrefl _ (WcLt _ q)⟩
    ow := fun b q n => q.elim (fun z => X.ow b z n) fun z => Nat.le_trans X.good.size z.1
    code := X.code
    kinds := fun x kk hx => by
      refine ⟨by show (relabel (scOf B.nm sc) pe).names.lookup (B.nm x) = _; rw [kind x, hx], fun hc => ?_⟩
      show ∃ c, (cellsFrom (s.heap.objs.size + 1) (named B.nm sc) cl).lookup (B.nm x) = some c
      replace hx : (sc.lookup x).map _ = some kk := hx
      cases hs : sc.lookup x with
      | none => rw [hs] at hx; cases hx
      | some k0 =>
        rw [hs] at hx
        simp only [Option.map_some, Option.some.injEq] at hx
        by_cases hf : k0 = .free
        · subst hf
          obtain ⟨c, hc⟩ := (hfk x hs).2
          refine ⟨c, ?_⟩
          rw [(cf x).2 (by rw [hs]; simp), hclo, if_pos hs]; exact hc
        · simp only [hf, false_and, if_false] at hx
          subst hx
          rcases hc with rfl | rfl
          · obtain ⟨c, e, _⟩ := (cf x).1 hs
            exact ⟨c, e⟩
          · exact absurd rfl hf
    cells := fun x c e => by
      rcases hcell x c e with ⟨_, h1, h2, h3⟩ | ⟨_, h1⟩
      · exact ⟨⟨_, h3⟩, fun t => Nat.lt_irrefl _ (Nat.lt_of_lt_of_le (WcLt _ (X.tW _ t)) (Nat.le_of_succ_le h1))⟩
      · obtain ⟨⟨v, hv⟩, ht⟩ := X.cells x c h1
        exact ⟨⟨v, Heap.IsCell.keeps hv keep⟩, ht⟩
    apart := by
      refine cellsFrom_apart O _ _ _ (fun z hz => ?_) ?_
      · obtain ⟨n, c⟩ := z
        rw [← hcl] at hz
        rcases clOf_mem O pe sc [] n c hz with h | ⟨q, hq, hf, rfl, hc⟩
        · cases h
        · obtain ⟨c', hc'⟩ := (hfk q.1 (by obtain ⟨a, b⟩ := q; cases hf; exact lookup_of_memN O hsc.nd hq)).2
          rw [hc'] at hc
          simp only [Option.getD_some] at hc
          subst hc
          exact Nat.lt_succ_of_lt (clt _ _ hc')
      · rw [← hcl]
        exact clOf_apart O X.apart sc [] hsc.nd (fun q hq hf => by
          obtain ⟨c', hc'⟩ := (hfk q.1 (by obtain ⟨a, b⟩ := q; cases hf; exact lookup_of_memN O hsc.nd hq)).2
          rw [hc']; rfl) List.Pairwise.nil (fun z hz => by exact nomatch hz)
    cellW := fun x c e => by
      rcases hcell x c e with ⟨_, h1, h2, h3⟩ | ⟨hf, h1⟩
      · exact .inr ⟨.inr ⟨Nat.le_of_succ_le h1, h2⟩, fun q => Nat.lt_irrefl _ (Nat.lt_of_lt_of_le (WcLt _ q) (Nat.le_of_succ_le h1))⟩
      · rcases X.cellW x c h1 with ⟨d, hd⟩ | z
        · exact .inl ⟨d, by unfold REnv.cut; rw [if_pos hf]; exact hd⟩
        · exact .inr ⟨.inl z.1, z.2⟩
    vars := fun x en hx => by
      unfold REnv.cut at hx
      split at hx
      · rename_i hf
        obtain ⟨v, l, r⟩ := X.vars x en hx
        obtain ⟨c, hc, hv⟩ := locOut x v hf l
        refine ⟨v, .inr ⟨?_, c, ?_, Heap.IsCell.keeps hv keep⟩, ?_⟩
        · show (relabel (scOf B.nm sc) pe).names.lookup (B.nm x) = _ ∨ (relabel (scOf B.nm sc) pe).names.lookup (B.nm x) = _
          rw [kind x]
          show (sc.lookup x).map _ = _ ∨ (sc.lookup x).map _ = _
          rw [hf]
          simp only [Option.map_some, true_and]
          split <;> simp
        · show (cellsFrom (s.heap.objs.size + 1) (named B.nm sc) cl).lookup (B.nm x) = some c
          rw [(cf x).2 (by rw [hf]; simp), hclo, if_pos hf]; exact hc
        · cases en with
          | fz d => exact up d v r
          | sealed d => exact up d v r
          | own l =>
            obtain ⟨a, vs, n, rfl, h1, h2, h3, h4, h5⟩ := r
            exact ⟨a, vs, n, rfl, .inl h1, h2, keep _ _ h3, h4, RepAll.move O (fun b o _ e => keep b o e) (fun b q => q.elim .inl fun z => .inr (Heap.get?_none_of_le z.1)) _ _ h5⟩
          | ownD ks =>
            obtain ⟨a, rfl, h1, h2, _, h3, h4⟩ := r
            exact ⟨a, rfl, .inl h1, h2, Nat.ne_of_lt (X.wlt _ h1), h3, PySem.Heap.DictOf.at h4 fun o q => keep _ _ q⟩
      · exact nomatch hx
    sealedW := fun x hx => by
      obtain ⟨d, hx⟩ := hx
      unfold REnv.cut at hx
      split at hx
      · rename_i hf
        obtain ⟨c, h1, h2⟩ := X.sealedW x ⟨d, hx⟩
        refine ⟨c, ?_, fun q => q.elim h2 (nlt _ (clt _ _ h1))⟩
        show (cellsFrom (s.heap.objs.size + 1) (named B.nm sc) cl).lookup (B.nm x) = some c
        rw [(cf x).2 (by rw [hf]; simp), hclo, if_pos hf]; exact h1
      · exact nomatch hx
    owns := fun x y l l' a hx hy lx ly => by
      unfold REnv.cut at hx hy
      split at hx
      case isFalse => exact nomatch hx
      rename_i hfx
      split at hy
      case isFalse => exact nomatch hy
      rename_i hfy
      obtain ⟨v, l1, _⟩ := X.vars x _ hx
      obtain ⟨v', l2, _⟩ := X.vars y _ hy
      have back : ∀ z w, sc.lookup z = some .free → Loc B pe s.heap z w → ∀ w', Loc B { newEnv (scOf B.nm sc) s.heap.objs.size pe.globals (cellsFrom (s.heap.objs.size + 1) (named B.nm sc) cl) pe.qual none .none (some pe) builtinsNs with scope := relabel (scOf B.nm sc) pe } h' z w' → w' = w := by
        intro z w hf l w' l'
        obtain ⟨c, hc, hv⟩ := locOut z w hf l
        refine Loc.uniq l' (.inr ⟨?_, c, ?_, Heap.IsCell.keeps hv keep⟩)
        · show (relabel (scOf B.nm sc) pe).names.lookup (B.nm z) = _ ∨ (relabel (scOf B.nm sc) pe).names.lookup (B.nm z) = _
          rw [kind z]
          show (sc.lookup z).map _ = _ ∨ (sc.lookup z).map _ = _
          rw [hf]
          simp only [Option.map_some, true_and]
          split <;> simp
        · show (cellsFrom (s.heap.objs.size + 1) (named B.nm sc) cl).lookup (B.nm z) = some c
          rw [(cf z).2 (by rw [hf]; simp), hclo, if_pos hf]; exact hc
      have e1 := back x v hfx l1 _ lx
      have e2 := back y v' hfy l2 _ ly
      subst e1; subst e2
      exact X.owns x y l l' a hx hy l1 l2 }
theorem comp_env {sc : List (Nat × NameKind)} {E : Value → Shared → Prop} {Q : Env → Shared → Prop} (hsc : ScOk Γ sc) (X : Ctx B Γ Wc W pe ρ s)
    (k : ∀ s' cenv, Ctx B (kindsIn Γ sc) Wc (orP W fun b => s.heap.objs.size ≤ b ∧ b < s'.heap.objs.size) { cenv with scope := relabel (scOf B.nm sc) pe } (ρ.cut sc) s' → Eff B s s' → (∀ x b, sc.lookup x = some .local ∨ sc.lookup x = some .cell → (zP B { cenv with scope := relabel (scOf B.nm sc) pe } x).a b → s.heap.objs.size ≤ b ∧ b < s'.heap.objs.size) → s.heap.objs.size ≤ cenv.locals → Q cenv s') :
    wpAny B.M A (newFunctionEnv (scOf B.nm sc) pe.globals (clOf B.nm pe sc []) [] pe.qual none .none (some pe)) Q E s := by
  simp only [newFunctionEnv, Option.isSome_some, if_true]
  refine wpAny_bind (wpAny_alloc ?_)
  refine wpAny_bind (wpAny_layCells _ (fun name kind cells => by cases hkc : kind == NameKind.cell <;> simp only [hkc]) _ _ _ _ ?_)
  rw [List.forIn_nil]
  refine wpAny_bind (wpAny_pure (wpAny_pure ?_))
  dsimp only
  rw [show (s.heap.push { cls := .type "dict", data := .dict #[] }).objs.size = s.heap.objs.size + 1 from Heap.size_push ..]
  rw [show (scOf B.nm sc).names = named B.nm sc from rfl]
  exact comp_ctx O hsc X k rfl rfl (Heap.size_push ..) (env_fk O hsc X) (env_kin O hsc X) (env_clo O hsc (env_fk O hsc X))
end
end Mine
namespace Mine
variable {B : Bs} {K : Nat}
section
variable (O : B.Ok)
include O
variable {Γ : Kinds} {ρ : REnv} {Wc W : Addr → Prop} {pe : Env} {A : Around} {s : Shared}
theorem closure_sc {sc : List (Nat × NameKind)} (hsc : ScOk Γ sc) (X : Ctx B Γ Wc W pe ρ s) : closureFor (scOf B.nm sc) pe = pure (clOf B.nm pe sc []) := by
  refine closure_ok O pe sc ?_
  rintro ⟨x, kk⟩ hq hf
  cases hf
  rcases hsc.free x (lookup_of_memN O hsc.nd hq) with h | h
  · obtain ⟨c, hc⟩ := (X.kinds _ _ h).2 (.inl rfl); rw [hc]; rfl
  · obtain ⟨c, hc⟩ := (X.kinds _ _ h).2 (.inr rfl); rw [hc]; rfl
theorem names_local {sc : List (Nat × NameKind)} (hsc : ScOk Γ sc) : ∀ x ∈ (scOf B.nm sc).names, x.2 = .local → (scOf B.nm sc).names.lookup x.1 = some .local := by
  intro y hy hk
  obtain ⟨q, hq, rfl⟩ := List.mem_map.mp hy
  show (named B.nm sc).lookup (B.nm q.1) = _
  rw [lookup_named O]
  obtain ⟨x, k⟩ := q
  cases hk
  exact lookup_of_memN O hsc.nd hq
theorem comp_walk {K : Nat} {Φ : Phi} {elt : E} {t : Tg} {itE : E} {ifs : List E} {r : List Gn} {sc : List (Nat × NameKind)} {p : Pos} {r1 : Mine.R} {items l : List D} {use : Option (Value → Sem Unit)} {Ex : Value → Shared → Prop} {Q : Value → Shared → Prop}
    (RK : Room A K) (R20 : Room A (K - 4)) (helt : Snd B K Φ elt) (hit : Snd B K Φ itE) (hifs : SndC B K Φ ifs) (hr : SndGs B K Φ r) (hsc : ScOk Γ sc) (X : Ctx B Γ Wc W pe ρ s) (h1 : ev Φ Γ ρ itE = some r1) (hi : r1.asI = some items)
    (hl : evLoop sc t (fun ρ' => do
          let c ← evC Φ (kindsIn Γ sc) ρ' ifs
          if c then evG Φ sc (kindsIn Γ sc) r (fun ρ'' => do (← ev Φ (kindsIn Γ sc) ρ'' elt).asD) ρ' else some []) (ρ.cut sc) items = some l) (hlim : l.length ≤ lim)
    (k : ∀ s' a C, Eff B s s' → Ctx B Γ Wc W pe ρ s' → Rep B s'.heap (orP W fun b => b = C) (.list l) (.ref a) → s.heap.objs.size ≤ a → s.heap.objs.size ≤ C → (∃ m, s'.heap.Ns C m) → C < s'.heap.objs.size → a ≠ C → compPost B.M A Ex use Q (.ref a) C (.ok .next) s') :
    wpAny B.M A (comprehension (.ListComp (elt.py B.nm) (pyG B.nm (.mk t itE ifs :: r)) (scOf B.nm sc) p) (scOf B.nm sc) pe (firstIterPos (pyG B.nm (.mk t itE ifs :: r)) p) (newList []) false (eval (itE.py B.nm) pe) use) Q Ex s := by
  refine wpAny_comprehension_free (use := use) (g := ⟨t.py B.nm, itE.py B.nm, pyL B.nm ifs, 0⟩) (gs := pyG B.nm r) rfl (fun x => py_fold O _ _ _ _) (closure_sc O hsc X) rfl (names_local O hsc) ?_
  refine wpAny_mono (hit _ _ _ h1 _ _ _ _ _ X RK) ?_ fun _ _ f => f.elim
  rintro v1 s1 ⟨e1, q1⟩
  have X1 := X.move O e1
  refine iter_ok O hi X1.tW' X1.wlt X1.good R20 e1 q1 fun it F pv I s2 at2 hlen2 e2 => ?_
  obtain ⟨ok, hI, hF, hp, hg⟩ := at2
  refine wpAny_newObj_type ?_
  have e03 : Eff B s { s2 with heap := s2.heap.push { cls := .type "list", data := .seq ([] : List Value).toArray } } := (e1.trans e2).trans (Eff.push O _ s2.toks)
  have hs3 : ({ s2 with heap := s2.heap.push { cls := .type "list", data := .seq ([] : List Value).toArray } } : Shared).heap.objs.size = s2.heap.objs.size + 1 := Heap.size_push ..
  have hsub := ok.sub _ _ _ hI
  have hN : ∀ b, (pv.a b ∨ b = s2.heap.objs.size) → s.heap.objs.size ≤ b ∧ b < ({ s2 with heap := s2.heap.push { cls := .type "list", data := .seq ([] : List Value).toArray } } : Shared).heap.objs.size := fun b q => by
    rw [hs3]
    rcases q with q | rfl
    · exact ⟨hp b q, Nat.lt_succ_of_lt (hsub b q).2.2⟩
    · exact ⟨(e1.trans e2).size, Nat.lt_succ_self _⟩
  have X3 := Ctx.grow O X (e03.toP ⟨fun _ => False, fun _ => False⟩) (fun b q => q.elim) (fun b q => q.elim) hN
  have hobj : ({ s2 with heap := s2.heap.push { cls := .type "list", data := .seq ([] : List Value).toArray } } : Shared).heap.get? s2.heap.objs.size = some { cls := .type "list", dict := none, data := .seq #[] 0, slots := #[] } := Heap.get?_push_size _ rfl
  have e23 : Eff B s2 { s2 with heap := s2.heap.push { cls := .type "list", data := .seq ([] : List Value).toArray } } := Eff.push O _ s2.toks
  generalize hS3 : ({ s2 with heap := s2.heap.push { cls := .type "list", data := .seq ([] : List Value).toArray } } : Shared) = s3 at *
  have hhi : B.h₀.objs.size ≤ s2.heap.objs.size := Nat.le_trans X.good.size (e1.trans e2).size
  refine comp_env O hsc X3 fun s4 cenv X4 e34 hz4 hL => ?_
  have e24 := e23.trans e34
  have e04 := e03.trans e34
  have hD4 := e34.keep _ _ (kept_nT O hhi) hobj
  have I4 : I items pv s4 := ok.stay _ _ _ _ hI (fun b o nt _ z => e24.keep b o nt z) e24.ck e24.size (fun i y _ z => e24.gens i y z) X4.good
  have hDp : ¬ pv.a s2.heap.objs.size := fun q => Nat.lt_irrefl _ (hsub _ q).2.2
  refine compStart_at O (g := ⟨t.py B.nm, itE.py B.nm, pyL B.nm ifs, 0⟩) rfl rfl rfl rfl rfl ok I4 X4.good R20 ?_
  have hs23 : s2.heap.objs.size < s3.heap.objs.size := by rw [hs3]; exact Nat.lt_succ_self _
  refine loop_ok O (Z := fun b => s3.heap.objs.size ≤ b ∧ b < s4.heap.objs.size) hz4 RK R20 helt r hr t itE ifs hifs 0 rfl it F I ok items (ρ.cut sc) l _ s4 _ _ pv #[] 0 hl ?_ X4 I4 ?_ ?_ ⟨hD4, .inr (.inr rfl), hhi⟩ hDp (by simpa using hlim) ?_
  · intro b q
    refine ⟨.inr q, fun w => ?_⟩
    exact Nat.lt_irrefl _ (Nat.lt_of_lt_of_le (X3.wlt b (X3.cW b w)) q.1)
  · intro b q
    obtain ⟨f1, f2⟩ := hF b q
    refine ⟨fun w => ?_, Nat.lt_of_lt_of_le f2 e24.size⟩
    rcases w with (w | w | w) | w
    · exact f1 w
    · exact (hsub b w).1 q
    · subst w; exact Nat.lt_irrefl _ f2
    · exact Nat.lt_irrefl _ (Nat.lt_of_lt_of_le (Nat.lt_trans f2 hs23) w.1)
  · intro b q
    exact ⟨.inr (.inl q), Nat.le_trans X.good.size (hp b q)⟩
  · intro s' Wc' W' vs' n' X' g' hD' r' e'
    have fin : Eff B s s' := EffP.toEff e04 e' (fun b q => by
      rcases q with q | q | rfl
      · exact Nat.le_trans e03.size q.1
      · exact hp b q
      · exact (e1.trans e2).size) (fun i q => hg i q)
    have hLW : (orP (orP W fun b => pv.a b ∨ b = s2.heap.objs.size) fun b => s3.heap.objs.size ≤ b ∧ b < s4.heap.objs.size) cenv.locals := X4.locW.1
    refine k s' s2.heap.objs.size cenv.locals fin (X.move O fin) ?_ (e1.trans e2).size (Nat.le_trans e03.size hL) X'.loc (X'.wlt _ X'.locW.1) (fun q => ?_)
    · simp only [Rep]
      refine ⟨_, _, n', rfl, fun w => ?_, by simpa using hD', hlim, ?_⟩
      · rcases w with w | w
        · exact Nat.lt_irrefl _ (Nat.lt_of_lt_of_le (X.wlt _ w) (e1.trans e2).size)
        · rw [← w] at hL
          exact Nat.lt_irrefl _ (Nat.lt_of_lt_of_le hs23 hL)
      · simp only [List.toList_toArray]
        exact RepAll.less O r' fun b q => q.elim (fun q => g'.w b (.inl (.inl q))) fun q => q ▸ g'.w _ hLW
    · rw [← q] at hL
      exact Nat.lt_irrefl _ (Nat.lt_of_lt_of_le hs23 hL)
theorem snd_comp {K : Nat} {Φ : Phi} {elt : E} {t : Tg} {itE : E} {ifs : List E} {r : List Gn} {sc : List (Nat × NameKind)} {p : Pos} (hK : 20 ≤ K) (helt : Snd B K Φ elt) (hit : Snd B K Φ itE) (hifs : SndC B K Φ ifs) (hr : SndGs B K Φ r) : Snd B K Φ (.comp elt (.mk t itE ifs :: r) sc p) := by
  intro Γ ρ rr h Wc W pe A s X R
  have R20 : Room A (K - 4) := ⟨R.handled, by have := R.depth; lia, by have := R.units; lia⟩
  simp only [x_ev_comp] at h
  split at h
  case isFalse => exact nomatch h
  rename_i hsc
  simp only [Option.bind_eq_bind, Option.bind_eq_some_iff, Option.map_eq_some_iff, mkL] at h
  obtain ⟨r1, h1, items, hi, l, hl, d, hd, rfl⟩ := h
  split at hd
  case isFalse => exact nomatch hd
  rename_i hlim
  obtain rfl := Option.some.inj hd
  rw [x_py_comp, arm_eval_ListComp]
  refine comp_walk O (use := none) R R20 helt hit hifs hr (scOk_iff O hsc) X h1 hi hl hlim fun s' a C e X' ra ha hC hns hlt hne => ?_
  obtain ⟨m, hm⟩ := hns
  refine ⟨m, hm, fun h' hs' => ?_⟩
  have ec : EffP B ⟨fun b => b = C, fun _ => False⟩ s' { s' with heap := h' } := by
    have := eff_at O (s := s') (h' := h') (t := s'.toks) (a := C) (fun t => Nat.lt_irrefl _ (Nat.lt_of_lt_of_le (X.wlt _ (X.tW' _ t)) hC)) (ns_nc hm) hs'
    exact this
  have ef : Eff B s { s' with heap := h' } := EffP.toEff e ec (fun b q => q ▸ hC) (fun i q => q.elim)
  refine ⟨ef, ?_⟩
  refine Rep.move O (ec.kW (fun b t => .inl (X.tW' _ t)) fun b w => .inr w) (fun b q => .inl (.inl q)) _ _ ra
end
end Mine
namespace Mine
variable {B : Bs}
theorem codeAmong_app {pos : Pos} {v : Value} (a b : Int) (c : Value) (l : List Value) (h : TriplesOk l) (hn : codeAmong pos (l ++ [rawInt a, rawInt b, c]) = some v) : codeAmong pos l = some v ∨ v = c := by
  fun_induction TriplesOk l with
  | case1 =>
    simp only [List.nil_append, codeAmong, rawInt] at hn
    split at hn
    · obtain rfl := Option.some.inj hn; exact .inr rfl
    · exact nomatch hn
  | case2 a' t b' u x rest ih =>
    simp only [List.cons_append, codeAmong] at hn ⊢
    split at hn
    · rename_i hc; rw [if_pos hc]; exact .inl hn
    · rename_i hc; rw [if_neg hc]; exact ih h hn
  | case3 l h1 h2 => exact h.elim
section
variable (O : B.Ok)
include O
variable {Γ : Kinds} {ρ : REnv} {Wc W : Addr → Prop} {pe : Env} {A : Around} {s : Shared}
structure MadeFn (B : Bs) (params : Arguments) (body : FuncBody) (scope : Scope) (qual : Str) (clos : List (Str × Addr)) (h : Heap) (fd : FuncData) : Prop where
  params : fd.params = params
  body : fd.body = body
  scope : fd.scope = scope
  glob : fd.globals = mainGlobals
  blt : fd.builtins = builtinsNs
  dfl : fd.defaults = .none ∧ fd.kwdefaults = .none
  qual : fd.qualname = qual
  clos : fd.closure = clos
  code : CodeOf h fd.code fd.qualname
theorem code_ok {f : Nat} {c P : Addr} {pos : Pos} {fl : Nat} {name : Str} {params : Arguments} {body : FuncBody} {scope : Scope} {E : Value → Shared → Prop} {Q : Value → Shared → Prop} (hCT : B.CT f = some (c, P)) (hcode : pe.code = .ref c) (g : Good B s)
    (k : ∀ v s', Eff B s s' → CodeOf s'.heap v (B.qf f) → Q v s') : wpAny B.M A (functionCode pe pos fl name (B.qf f) params scope body) Q E s := by
  obtain ⟨hd, ncT, hgP, _, _⟩ := O.hd f c P hCT
  have hd' : CodeHd s.heap c P := by
    obtain ⟨o, vs, file, tf, flags, tg, inF, text, tt, e, r⟩ := hd
    exact ⟨o, vs, file, tf, flags, tg, inF, text, tt, g.base _ _ ncT e, r⟩
  obtain ⟨ps, hP, ht, hcodes⟩ := g.ti f c P hCT
  cases hf : codeAmong pos ps.toList with
  | some v => exact wpAny_functionCode_hit hcode (hd'.code hP ht) hf (k v s (Eff.refl _) (hcodes _ _ hf))
  | none =>
    refine Mine.wpAny_size (wpAny_functionCodeX hcode (hd'.code hP ht) (hd'.tab hP) hf fun c' h' tk hx hge hlt hic hrec htb hnew hsz => ?_)
    have hnc : ∀ o, s.heap.get? P = some o → ¬ isCodeO o := fun o e ic => by obtain rfl := Option.some.inj (hP.symm.trans e); cases ic.1
    have hcode' : CodeOf h' (.ref c') (B.qf f) := by
      obtain ⟨P', _, _, ⟨o, vs, e1, e2, e3, _⟩, _⟩ := hnew
      obtain ⟨c'', o', vs', t, e, e1', e3', e4'⟩ := hrec
      cases e
      obtain rfl := Option.some.inj (e1.symm.trans e1')
      exact ⟨c', o, vs', t, rfl, e1, ⟨e2, vs', e3'⟩, e3', e4'⟩
    have PT : B.T P := ⟨f, c, hCT⟩
    refine k (.ref c') _ ⟨fun b o nt e => hx b o (fun q => nt (q ▸ PT)) e, fun b o ic e => hx b o (fun q => hnc o (q ▸ e) ic) e, hsz, fun _ => ?_, fun _ _ e => e, id, rfl⟩ hcode'
    intro f2 c2 P2 e2
    by_cases hPP : P2 = P
    · subst hPP
      obtain ⟨rfl, rfl⟩ := O.ctinj _ _ _ _ _ hCT e2
      refine ⟨_, htb.2, ?_, fun pos' v hv => ?_⟩
      · rw [show (ps ++ #[rawInt pos.line, rawInt pos.col, Value.ref c']).toList = ps.toList ++ [rawInt pos.line, rawInt pos.col, .ref c'] by simp]
        exact TriplesOk_snoc _ _ _ _ ht
      · rw [show (ps ++ #[rawInt pos.line, rawInt pos.col, Value.ref c']).toList = ps.toList ++ [rawInt pos.line, rawInt pos.col, .ref c'] by simp] at hv
        rcases codeAmong_app _ _ _ _ ht hv with q | rfl
        · exact (hcodes _ _ q).keep fun b o ic e => hx b o (fun q => hnc o (q ▸ e) ic) e
        · exact hcode'
    · obtain ⟨ps2, h1, h2, h3⟩ := g.ti f2 c2 P2 e2
      exact ⟨ps2, hx _ _ hPP h1, h2, fun pos' v hv => (h3 pos' v hv).keep fun b o ic e => hx b o (fun q => hnc o (q ▸ e) ic) e⟩
theorem make_fn {f : Nat} {c P : Addr} {clos : List (Str × Addr)} {pos : Pos} {fl : Nat} {name : Str} {params : Arguments} {body : FuncBody} {scope : Scope} {E : Value → Shared → Prop} {Q : Value → Shared → Prop} (hCT : B.CT f = some (c, P)) (hcode : pe.code = .ref c) (hge : pe.globals = mainGlobals)
    (hcl : closureFor scope pe = pure clos) (g : Good B s) (hdoc : ∀ b, body = .stmts b → docOf b = none)
    (k : ∀ s' fa fd, Eff B s s' → s.heap.objs.size ≤ fa → s'.heap.get? fa = some { cls := .type "function", data := .func fd } → MadeFn B params body scope (B.qf f) clos s'.heap fd → Q (.ref fa) s') :
    wpAny B.M A (makeFunction name (B.qf f) params body scope pe [] [] [] pos fl) Q E s := by
  obtain ⟨_, _, _, hb, hbT⟩ := O.hd f c P hCT
  rw [makeFunction_eq]
  simp only [List.zip_nil_right, List.filterMap_nil, List.isEmpty_nil, if_true, pure_bind]
  unfold makeTail
  rw [hcl, hge]
  refine wpAny_bind (wpAny_pure ?_)
  have main : ∀ (s1 : Shared) (ctv : Value), Eff B s s1 → Good B s1 → wpAny B.M A (do
      let cdv ← functionCode pe pos fl name (B.qf f) params scope body
      let bl ← builtinsFor mainGlobals pe.builtins
      let nm ← nsGet mainGlobals "__name__"
      let doc ← match body with
        | .stmts b => (match docOf b with | some s => mkText s | none => pure .none)
        | .expr _ => pure .none
      newObj (.type "function") (.func { name, qualname := B.qf f, params, body, scope, globals := mainGlobals, closure := clos, closureTuple := ctv, code := cdv, builtins := bl, defaults := .none, kwdefaults := .none, annotations := none, pyModule := nm.getD .none, doc := doc })) Q E s1 := by
    intro s1 ctv e1 g1
    refine wpAny_bind (code_ok O hCT hcode g1 fun cdv s2 e2 hc2 => ?_)
    have g2 := g1.move e2
    obtain ⟨bm, ob, hbm, hne0, _, hneP, hbo, hcls, hdict, hdata⟩ := hb
    have hg' : s2.heap.Ns mainGlobals B.mg := Heap.Ns.moved O.g fun o e => g2.base _ _ O.gT e
    refine wpAny_bind (wpAny_builtinsFor hg' hbm hne0 (g2.base _ _ (hbT bm hbm) hbo) hcls hdict hdata ?_)
    refine wpAny_bind (wpAny_nsGet hg' ?_)
    have fin : ∀ doc : Value, wpAny B.M A (newObj (.type "function") (.func { name, qualname := B.qf f, params, body, scope, globals := mainGlobals, closure := clos, closureTuple := ctv, code := cdv, builtins := builtinsNs, defaults := .none, kwdefaults := .none, annotations := none, pyModule := (B.mg "__name__").getD .none, doc := doc })) Q E s2 := by
      intro doc
      refine wpAny_newObj_type ?_ (by size_fits)
      have ef := (e1.trans e2).trans (Eff.push O { cls := .type "function", data := .func { name, qualname := B.qf f, params, body, scope, globals := mainGlobals, closure := clos, closureTuple := ctv, code := cdv, builtins := builtinsNs, defaults := .none, kwdefaults := .none, annotations := none, pyModule := (B.mg "__name__").getD .none, doc := doc } } s2.toks)
      exact k _ _ _ ef (e1.trans e2).size (Heap.get?_push_size _ rfl) ⟨rfl, rfl, rfl, rfl, rfl, ⟨rfl, rfl⟩, rfl, rfl, hc2.keep fun b o _ e => Heap.get?_push_of_some _ e⟩
    cases body with
    | expr e => exact wpAny_bind (wpAny_pure (fin _))
    | stmts b =>
      have hd := hdoc b rfl
      dsimp only
      rw [hd]
      exact wpAny_bind (wpAny_pure (fin _))
  cases clos with
  | nil =>
    exact wpAny_bind (wpAny_pure (main s .none (Eff.refl _) g))
  | cons q r =>
    exact wpAny_bind (wpAny_newTextTuple (main _ _ (Eff.push O _ s.toks) (g.move (Eff.push O _ s.toks))))
theorem snd_bool {K : Nat} {Φ : Phi} {b : Bool} {p : Pos} : Snd B K Φ (.bool b p) := by
  intro Γ ρ r h Wc W pe A s X R
  simp only [x_ev_bool, Option.some.injEq] at h
  subst h
  exact Constant_bool ⟨Eff.refl _, by simp only [RPost, Rep]⟩
structure LamOk (B : Bs) (id f : Nat) (ps : List (Nat × Pos)) (body : E) (sc : List (Nat × NameKind)) : Prop where
  ls : B.LS id = some ⟨paramsOf B.nm ps, .expr (body.py B.nm), scOf B.nm sc, B.qf f, freeOf sc⟩
  qf : B.qf f = B.pq f ++ ("<lambda>" : Str)
  ct : ∃ c P, B.CT f = some (c, P)
theorem caps_ok : ∀ (fr : List Nat) (caps : List D), fr.mapM (fun x => match ρ x with | some (.sealed d) => some d | _ => none) = some caps → Ctx B Γ Wc W pe ρ s → (∀ x ∈ fr, pe.kindOf (B.nm x) = some .cell ∨ pe.kindOf (B.nm x) = some .free) →
    ∃ cv : List Value, cv.length = fr.length ∧ RepAll B s.heap W caps cv ∧ ∀ (i x : Nat) (v : Value), fr[i]? = some x → cv[i]? = some v → ∃ c, pe.cells.lookup (B.nm x) = some c ∧ ¬ W c ∧ s.heap.IsCell c (some v)
  | [], caps, h, X, _ => by
    simp only [List.mapM_nil, Option.pure_def, Option.some.injEq] at h
    subst h
    exact ⟨[], rfl, RepAll.nil, fun i x v e => by simp at e⟩
  | x :: fr, caps, h, X, hk => by
    simp only [List.mapM_cons, Option.bind_eq_bind, Option.bind_eq_some_iff, Option.pure_def, Option.some.injEq] at h
    obtain ⟨d, hd, caps', hc, rfl⟩ := h
    obtain ⟨cv, h1, h2, h3⟩ := caps_ok fr caps' hc X fun y hy => hk y (List.mem_cons_of_mem _ hy)
    split at hd
    · rename_i d' hx
      obtain rfl := Option.some.inj hd
      obtain ⟨v, l, rv⟩ := X.vars x _ hx
      obtain ⟨c, e1, e2⟩ := X.sealedW x ⟨_, hx⟩
      refine ⟨v :: cv, by simp [h1], RepAll.cons rv h2, fun i y w hi hv => ?_⟩
      cases i with
      | zero =>
        simp only [List.getElem?_cons_zero, Option.some.injEq] at hi hv
        subst hi; subst hv
        refine ⟨c, e1, e2, ?_⟩
        rcases l with ⟨hl, m, n, _⟩ | ⟨_, c', e3, hc'⟩
        · rcases hk x List.mem_cons_self with q | q <;> (rw [hl] at q; exact nomatch q)
        · obtain rfl := Option.some.inj (e1.symm.trans e3); exact hc'
      | succ i => exact h3 i y w (by simpa using hi) (by simpa using hv)
    · cases hd
theorem mk_lam {id f fl : Nat} {name : Str} {params : Arguments} {body : FuncBody} {scope : Scope} {sc : List (Nat × NameKind)} {p : Pos} {caps : List D} (hls : B.LS id = some ⟨params, body, scope, B.qf f, freeOf sc⟩) (hct : ∃ c P, B.CT f = some (c, P))
    (hclos : closureFor scope pe = closureFor (scOf B.nm sc) pe) (hS : ScOk Γ sc) (hcode : pe.code = B.cd f) (hdoc : ∀ b, body = .stmts b → docOf b = none) (X : Ctx B Γ Wc W pe ρ s)
    (hcaps : (freeOf sc).mapM (fun x => match ρ x with | some (.sealed d) => some d | _ => none) = some caps) :
    wpAny B.M A (makeFunction name (B.qf f) params body scope pe [] [] [] p fl) (fun v s' => Eff B s s' ∧ Rep B s'.heap W (.lam id caps) v) noE s := by
  obtain ⟨c, P, hCT⟩ := hct
  have hcode : pe.code = .ref c := by rw [hcode]; unfold Bs.cd; rw [hCT]
  refine make_fn O hCT hcode X.glob (hclos.trans (closure_sc O hS X)) X.good hdoc fun s' fa fd e hfa hobj M => ?_
  refine ⟨e, ?_⟩
  have X' := X.move O e
  have hfr : ∀ x, sc.lookup x = some .free ↔ x ∈ freeOf sc := fun x => by
    unfold freeOf
    simp only [List.mem_map, List.mem_filter]
    constructor
    · intro hx
      exact ⟨(x, .free), ⟨mem_of_lookupN O hx, by simp⟩, rfl⟩
    · rintro ⟨⟨y, k⟩, ⟨hm, hk⟩, rfl⟩
      have : k = .free := by simpa using hk
      subst this
      exact lookup_of_memN O hS.nd hm
  obtain ⟨cv, h1, h2, h3⟩ := caps_ok O (freeOf sc) caps hcaps X' fun x hx => by
    rcases hS.free x ((hfr x).mpr hx) with h | h
    · exact .inl (X.kinds _ _ h).1
    · exact .inr (X.kinds _ _ h).1
  simp only [Rep]
  refine ⟨fa, cv, rfl, fun w => Nat.lt_irrefl _ (Nat.lt_of_lt_of_le (X.wlt _ w) hfa), ⟨_, _, fd, hls, hobj, rfl, fun w => Nat.lt_irrefl _ (Nat.lt_of_lt_of_le (X.wlt _ w) hfa), ?_⟩, h2⟩
  have hlook : ∀ x, (clOf B.nm pe sc []).lookup (B.nm x) = if sc.lookup x = some .free then some ((pe.cells.lookup (B.nm x)).getD 0) else none := fun x => by
    rw [clOf_lookup O pe x sc [] hS.nd]; rfl
  have hsome : ∀ q ∈ sc, q.2 = .free → (pe.cells.lookup (B.nm q.1)).isSome := by
    rintro ⟨x, kk⟩ hq hf'
    cases hf'
    rcases hS.free x (lookup_of_memN O hS.nd hq) with h | h
    · obtain ⟨c, hc⟩ := (X.kinds _ _ h).2 (.inl rfl); rw [hc]; rfl
    · obtain ⟨c, hc⟩ := (X.kinds _ _ h).2 (.inr rfl); rw [hc]; rfl
  refine ⟨M.params, M.body, M.scope, M.glob, M.blt, M.dfl, M.qual, M.qual ▸ M.code, h1, fun x c hx => ?_, ?_, ?_, ?_, fun i x v hi hv => ?_⟩
  · rw [M.clos, hlook] at hx
    split at hx
    · rename_i hx'; exact (hfr x).mp hx'
    · exact nomatch hx
  · rw [M.clos]
    exact clOf_keys O pe sc [] hS.nd List.Pairwise.nil fun z hz => by exact nomatch hz
  · intro z hz
    rw [M.clos] at hz
    obtain ⟨n, c⟩ := z
    rcases clOf_mem O pe sc [] n c hz with h | ⟨q, _, _, e, _⟩
    · exact nomatch h
    · exact ⟨q.1, e⟩
  · rw [M.clos]
    exact clOf_apart O X.apart sc [] hS.nd hsome List.Pairwise.nil fun z hz => by exact nomatch hz
  · obtain ⟨c, e1, e2, e3⟩ := h3 i x v hi hv
    refine ⟨c, ?_, e2, e3⟩
    rw [M.clos, hlook, if_pos ((hfr x).mpr (List.mem_of_getElem? hi)), e1]; rfl
theorem snd_lam {K : Nat} {Φ : Phi} {id f : Nat} {ps : List (Nat × Pos)} {body : E} {sc : List (Nat × NameKind)} {p : Pos} (hl : LamOk B id f ps body sc) : Snd B K Φ (.lam id f ps body sc p) := by
  intro Γ ρ r h Wc W pe A s X R
  simp only [x_ev_lam] at h
  split at h
  case isFalse => exact nomatch h
  rename_i hc
  obtain ⟨hsc, hf, hff⟩ := hc
  simp only [Option.bind_eq_bind, Option.bind_eq_some_iff, Option.some.injEq] at h
  obtain ⟨caps, hcaps, rfl⟩ := h
  rcases X.code with q | ⟨q1, q2⟩
  · exact absurd (hff.symm.trans q) hf
  rw [hff] at q1 q2
  show wpAny B.M A (makeFunction "<lambda>" (pe.qual ++ "<lambda>") (paramsOf B.nm ps) (.expr (body.py B.nm)) (scOf B.nm sc) pe [] [] [] p p.line) _ _ s
  rw [q2, ← hl.qf]
  exact mk_lam O hl.ls hl.ct rfl (scOk_iff O hsc) q1 (fun b e => by exact nomatch e) X hcaps
end
end Mine
namespace Mine
noncomputable def ltL : List Int → List Int → Bool
  | [], [] => false
  | [], _ :: _ => true
  | _ :: _, [] => false
  | a :: r, b :: t => if a = b then ltL r t else decide (a < b)
theorem leI_eq : ∀ x y, leI x y = !ltL y x
  | [], [] => rfl
  | [], _ :: _ => rfl
  | _ :: _, [] => rfl
  | a :: r, b :: t => by
    unfold leI ltL
    by_cases h : a = b
    · subst h; simp [leI_eq r t]
    · have h' : b ≠ a := fun e => h e.symm
      simp only [h, h', if_false]
      by_cases h2 : a < b
      · have : ¬ b < a := by lia
        simp [h2, this]
      · have : b < a := by lia
        simp [h2, this]
theorem ltL_irrefl : ∀ x, ltL x x = false
  | [] => rfl
  | a :: r => by simp [ltL, ltL_irrefl r]
theorem ltL_trans : ∀ x y z, ltL x y = true → ltL y z = true → ltL x z = true
  | [], [], _, h, _ => by cases h
  | [], _ :: _, [], _, h => by cases h
  | [], _ :: _, _ :: _, _, _ => rfl
  | _ :: _, [], _, h, _ => by cases h
  | _ :: _, _ :: _, [], _, h => by cases h
  | a :: r, b :: t, c :: u, h1, h2 => by
    unfold ltL at h1 h2 ⊢
    by_cases e1 : a = b
    · subst e1
      simp only [if_true] at h1
      by_cases e2 : a = c
      · subst e2; simp only [if_true] at h2 ⊢; exact ltL_trans r t u h1 h2
      · simp only [e2, if_false] at h2 ⊢; exact h2
    · simp only [e1, if_false, decide_eq_true_eq] at h1
      by_cases e2 : b = c
      · subst e2
        simp only [if_true] at h2
        simp only [e1, if_false, decide_eq_true_eq]; exact h1
      · simp only [e2, if_false, decide_eq_true_eq] at h2
        have : a ≠ c := by lia
        simp only [this, if_false, decide_eq_true_eq]; lia
theorem ltL_total : ∀ x y, ltL x y = false → ltL y x = false → x = y
  | [], [], _, _ => rfl
  | [], _ :: _, h, _ => by cases h
  | _ :: _, [], _, h => by cases h
  | a :: r, b :: t, h1, h2 => by
    unfold ltL at h1 h2
    by_cases e : a = b
    · subst e
      simp only [if_true] at h1 h2
      rw [ltL_total r t h1 h2]
    · have e' : b ≠ a := fun q => e q.symm
      simp only [e, e', if_false, decide_eq_false_iff_not] at h1 h2
      lia
theorem ltL_asymm {x y : List Int} (h : ltL x y = true) : ltL y x = false := by
  cases h2 : ltL y x with
  | false => rfl
  | true => rw [← ltL_irrefl x]; exact (ltL_trans x y x h h2).symm
theorem leI_total (x y : List Int) : leI x y = true ∨ leI y x = true := by
  rw [leI_eq, leI_eq]
  cases h : ltL y x with
  | false => exact .inl rfl
  | true => rw [ltL_asymm h]; exact .inr rfl
theorem leI_trans (x y z : List Int) (h1 : leI x y = true) (h2 : leI y z = true) : leI x z = true := by
  rw [leI_eq] at *
  simp only [Bool.not_eq_true'] at *
  cases h : ltL z x with
  | false => rfl
  | true =>
    cases h3 : ltL x y with
    | true => rw [ltL_trans z x y h h3] at h2; cases h2
    | false =>
      have := ltL_total x y h3 h1
      subst this
      rw [h] at h2; cases h2
theorem leI_antisymm {x y : List Int} (h1 : leI x y = true) (h2 : leI y x = true) : x = y := by
  rw [leI_eq] at *
  simp only [Bool.not_eq_true'] at *
  exact ltL_total x y h2 h1
noncomputable def askT {α : Type} (n : Nat) (c : Nat → Nat → Bool) : KasT α → Option α
  | .ret a => some a
  | .ask i j k => if i < n ∧ j < n then askT n c (k (c i j)) else none
theorem askT_wp {α : Type} {n : Nat} {c : Nat → Nat → Bool} {cmp : Nat → Nat → (Bool → Shared → Prop) → Shared → Prop} {Q : α → Shared → Prop} {s : Shared} (hc : ∀ i j C, i < n → j < n → C (c i j) s → cmp i j C s) : ∀ (t : KasT α) (a : α), askT n c t = some a → Q a s → t.kasWp cmp Q s
  | .ret b, a, h, q => by cases h; exact q
  | .ask i j k, a, h, q => by
    unfold askT at h
    split at h
    case isFalse => cases h
    rename_i hij
    exact hc i j _ hij.1 hij.2 (askT_wp hc (k (c i j)) a h q)
noncomputable def rk (a b c d : Nat) (i : Nat) : Nat := if i = 0 then a else if i = 1 then b else if i = 2 then c else d
noncomputable def okP (r : Nat → Nat) (p : Array Nat) : Bool := p.toList.isPerm (List.range 4) && decide ((p.toList.map r).Pairwise (· ≤ ·))
noncomputable def okAll (a b c d : Nat) : Bool := match askT 4 (fun i j => decide (rk a b c d i < rk a b c d j)) (kas_sort 4) with
  | some p => okP (rk a b c d) p
  | none => false
theorem okAll4 : ((List.range 5).all fun a => (List.range 5).all fun b => (List.range 5).all fun c => (List.range 5).all fun d => okAll a b c d) = true := by decide +kernel
theorem askT_congr {α : Type} {n : Nat} {c c' : Nat → Nat → Bool} (h : ∀ i j, i < n → j < n → c i j = c' i j) : ∀ t : KasT α, askT n c t = askT n c' t
  | .ret a => rfl
  | .ask i j k => by
    unfold askT
    by_cases hij : i < n ∧ j < n
    · rw [if_pos hij, if_pos hij, h i j hij.1 hij.2]
      exact askT_congr h _
    · rw [if_neg hij, if_neg hij]
open PySem.MeetsSeq PySem.MeetsSeq3
open AutoSeq1 (wpAny_loadPart')
theorem ints_none {vs : Array Value} {i : Nat} (h : IntsAre (vs.toList.drop i) []) : vs[((i : Nat) : Int).toNat]? = none ∧ vs.size ≤ i := by
  have e : vs.toList.drop i = [] := by
    generalize vs.toList.drop i = l at h
    cases h; rfl
  have : vs.size ≤ i := by
    have := congrArg List.length e
    simp at this
    lia
  exact ⟨by simp; lia, this⟩
theorem ints_some {vs : Array Value} {i : Nat} {p : Int} {x : List Int} (h : IntsAre (vs.toList.drop i) (p :: x)) : (∃ t, vs[((i : Nat) : Int).toNat]? = some (.int p t)) ∧ IntsAre (vs.toList.drop (i + 1)) x ∧ i < vs.size := by
  generalize hl : vs.toList.drop i = l at h
  cases h with
  | cons _ t hr =>
    rename_i vs'
    have hlt : i < vs.size := by
      have := congrArg List.length hl
      simp at this
      lia
    have h0 : vs.toList[i]? = some (.int p t) := by
      have := congrArg List.head? hl
      simpa [List.head?_drop] using this
    refine ⟨⟨t, by simpa using h0⟩, ?_, hlt⟩
    have : vs.toList.drop (i + 1) = vs' := by
      have := congrArg List.tail hl
      rw [List.tail_drop] at this
      exact this
    rw [this]; exact hr
theorem lt_loop (l b : Addr) (vs us : Array Value) (n n2 : Nat) : ∀ (x y : List Int) (i : Nat), i ≤ vs.size → i ≤ us.size → IntsAre (vs.toList.drop i) x → IntsAre (us.toList.drop i) y → Meets (Builtin.«list.__eq__.loop» ⟨[.ref l, .ref b, rawInt i, rawInt 0], []⟩)
      (fun _ R s => s.heap.get? l = some { cls := .type "list", dict := none, data := .seq vs n, slots := #[] } ∧ s.heap.get? b = some { cls := .type "list", dict := none, data := .seq us n2, slots := #[] } ∧
        R (.ok (.ret (.bool (ltL x y)))) s) := by
  intro x
  induction x with
  | nil =>
    intro y i iv iu IX IY prog w A R s h
    obtain ⟨hp, g, d, tk, os⟩ := s; obtain ⟨hl, hb, h⟩ := h
    obtain ⟨h1, h1'⟩ := ints_none IX
    wp_walk using wpAny_loadPart' hl, wpAny_loadPart' hb
    rw [h1]
    cases y with
    | nil =>
      obtain ⟨h2, h2'⟩ := ints_none IY
      rw [h2]
      wp_walk using wpAny_loadPart' hl, wpAny_loadPart' hb
      show R (.ok (.ret (.bool (decide (vs.size < us.size))))) _
      have e : decide (vs.size < us.size) = ltL [] [] := by simp [ltL]; lia
      rw [e]; exact h
    | cons q y =>
      obtain ⟨⟨t, h2⟩, h3, h4⟩ := ints_some IY
      rw [h2]
      wp_walk using wpAny_loadPart' hl, wpAny_loadPart' hb
      show R (.ok (.ret (.bool (decide (vs.size < us.size))))) _
      have e : decide (vs.size < us.size) = ltL [] (q :: y) := by simp [ltL]; lia
      rw [e]; exact h
  | cons p x ih =>
    intro y i iv iu IX IY prog w A R s h
    obtain ⟨hp, g, d, tk, os⟩ := s; obtain ⟨hl, hb, h⟩ := h
    obtain ⟨⟨t, h1⟩, h3, h4⟩ := ints_some IX
    wp_walk using wpAny_loadPart' hl, wpAny_loadPart' hb
    rw [h1]
    cases y with
    | nil =>
      obtain ⟨h2, h2'⟩ := ints_none IY
      rw [h2]
      wp_walk using wpAny_loadPart' hl, wpAny_loadPart' hb
      show R (.ok (.ret (.bool (decide (vs.size < us.size))))) _
      have e : decide (vs.size < us.size) = ltL (p :: x) [] := by simp [ltL]; lia
      rw [e]; exact h
    | cons q y =>
      obtain ⟨⟨t2, h2⟩, h5, h6⟩ := ints_some IY
      rw [h2]
      refine wpAny_bind (wpAny_eqBool_int ?_)
      by_cases e : p = q
      · subst e
        simp only [beq_self_eq_true, if_true]
        have hc : ((i : Int) + 1) = ((i + 1 : Nat) : Int) := by push_cast; rfl
        rw [hc]
        refine wpAny_pure ⟨plainId_quiet plain_eq_loop _, codeAny_builtin entry_eq_loop ?_⟩
        rw [Around.under_plainId plain_eq_loop _]
        exact ih y (i + 1) h4 h6 h3 h5 prog w A R _ ⟨hl, hb, by simpa [ltL] using h⟩
      · have hne : (p == q) = false := by simpa using e
        rw [hne]
        simp only [Bool.false_eq_true, if_false]
        wp_walk using wpAny_loadPart' hl, wpAny_loadPart' hb
        rw [h1, h2]
        dsimp only
        have hlt : ltL (p :: x) (q :: y) = decide (p < q) := by simp [ltL, e]
        rw [hlt] at h
        refine wpAny_bind (P.lt_int (show _ from ?_))
        exact wpAny_pure h
theorem list_lt (l b : Addr) (vs us : Array Value) (n n2 : Nat) {x y : List Int} (IX : IntsAre vs.toList x) (IY : IntsAre us.toList y) : Meets (Builtin.«list.__lt__» ⟨[.ref l, .ref b], []⟩)
      (fun _ R s => s.heap.get? l = some { cls := .type "list", dict := none, data := .seq vs n, slots := #[] } ∧ s.heap.get? b = some { cls := .type "list", dict := none, data := .seq us n2, slots := #[] } ∧
        R (.ok (.ret (.bool (ltL x y)))) s) := by
  intro prog w A R s h
  obtain ⟨hp, g, d, tk, os⟩ := s; obtain ⟨hl, hb, h⟩ := h
  have f3 := AutoSeq1.sub_list_list
  wp_walk using wpAny_loadPart' hl, wpAny_loadPart' hb
  exact ⟨plainId_quiet plain_eq_loop _, codeAny_builtin entry_eq_loop (by
    rw [Around.under_plainId plain_eq_loop _]
    exact lt_loop l b vs us n n2 x y 0 (Nat.zero_le _) (Nat.zero_le _) (by simpa using IX) (by simpa using IY) prog w A R _ ⟨hl, hb, h⟩)⟩
section
variable {prog : Program} {w : World} {A : Around} {E : Value → Shared → Prop} {s : Shared}
theorem keys_lt {l b : Addr} {vs us : Array Value} {n n2 : Nat} {x y : List Int} (hu : A.units < cLine) (IX : IntsAre vs.toList x) (IY : IntsAre us.toList y) (hl : s.heap.get? l = some { cls := .type "list", dict := none, data := .seq vs n, slots := #[] }) (hb : s.heap.get? b = some { cls := .type "list", dict := none, data := .seq us n2, slots := #[] })
    {Q : Bool → Shared → Prop} (h : Q (ltL x y) s) : wpAny (model prog w) A (keyLt' oneType' (.ref l) (.ref b)) Q E s := by
  rw [keyLt'_oneType, oneLt'_eq]
  simp only [if_true]
  refine wpAny_bind (wpAny_cRoomFor hu ?_)
  have tl : s.TypeIs (.ref l) "list" := ⟨_, hl, rfl⟩
  refine wpAny_bind (wpAny_callSpecialIfBound?_slot (name := "__lt__") (id := "list.__lt__") tl PySem.F.slot_list_lt ?_)
  exact PySem.call_meets PySem.F.slot_list_lt tl PySem.F.entry_list_lt (PySem.F.args_list_lt_2 _ _) (list_lt l b vs us n n2 IX IY) ⟨hl, hb, wpAny_truthy_bool h⟩
theorem sort4 {a : Addr} {vs : List Value} {n : Nat} {P : PySem.Fin → Shared → Prop} (ho : s.heap.get? a = some (seqObj "list" vs.toArray n)) (h4 : vs.length = 4) (hT : ∀ v ∈ vs, ∃ b ws m, v = .ref b ∧ b ≠ a ∧ s.heap.get? b = some { cls := .type "list", dict := none, data := .seq ws m, slots := #[] })
    (c : Nat → Nat → Bool) (hc : ∀ s' : Shared, (∀ b o, b ≠ a → s.heap.get? b = some o → s'.heap.get? b = some o) → ∀ i j C, i < 4 → j < 4 → C (c i j) s' → kas_ask prog w A oneType' vs i j C s') {p : Array Nat} (hp : askT 4 c (kas_sort 4) = some p)
    (k : P (.done (.ret .none)) { s with heap := sortedHeap s.heap a vs (List.toArray (p.toList.map fun i => vs.getD i Value.none)) }) : wpAny (model prog w) A (Builtin.«list.sort» ⟨[.ref a], []⟩) P E s := by
  have ha : a < s.heap.objs.size := Heap.lt_size ho
  obtain ⟨e1, ho1⟩ : ∃ e1, (s.heap.update a (Obj.mapSeq fun _ => (#[] : Array Value))).get? a = some (seqObj "list" #[] e1) := ⟨_, get?_update_seq ho fun _ => #[]⟩
  have ho6 : (((s.heap.update a (Obj.mapSeq fun _ => (#[] : Array Value))).push (seqObj "tuple" vs.toArray 0)).push (seqObj "list" #[] 0)).get? a = some (seqObj "list" #[] e1) := Heap.get?_push_of_some _ (Heap.get?_push_of_some _ ho1)
  have keep : ∀ b o, b ≠ a → s.heap.get? b = some o → (((s.heap.update a (Obj.mapSeq fun _ => (#[] : Array Value))).push (seqObj "tuple" vs.toArray 0)).push (seqObj "list" #[] 0)).get? b = some o := fun b o hb e => by
    refine Heap.get?_push_of_some _ (Heap.get?_push_of_some _ ?_)
    rw [Heap.get?_update_ne _ _ _ _ hb]; exact e
  rw [list_sort_plain]
  refine wpAny_bind (listItems_at ho rfl ?_)
  refine wpAny_bind (listUpdate_at ho rfl ?_ (by rw [List.size_toArray, sizeLine_eq]; lia) (Nat.zero_le _))
  refine wpAny_bind (seqEpoch_at ho1 rfl ?_)
  refine wpAny_bind (wpAny_newTuple ?_ (by show vs.length ≤ _; rw [sizeLine_eq]; lia))
  refine wpAny_bind (wpAny_newList ?_ (Nat.zero_le _))
  refine wpAny_holding ?_
  show wpAny (model prog w) A _ P E { s with heap := ((s.heap.update a (Obj.mapSeq fun _ => (#[] : Array Value))).push (seqObj "tuple" vs.toArray 0)).push (seqObj "list" #[] 0) }
  dsimp only
  have hn2 : ¬ vs.toArray.size < 2 := by rw [List.size_toArray]; lia
  rw [if_neg hn2, if_neg hn2]
  refine wpAny_bind (kas_kind (T := .type "list") (by lia) (fun v hv => ?_) (by decide) (by decide) ?_)
  · obtain ⟨b, ws, m, rfl, hb, hg⟩ := hT v hv
    exact (Looks.ld (keep _ _ hb hg)).andThen .now
  have est : SortSt.mk' oneType' (vs.toArray.zip vs.toArray) #[] 7 none = kas_st oneType' (pairsOf vs) (List.toArray (List.range vs.length)) := by
    have e := kas_range (pairsOf vs)
    rw [pairsOf_size] at e
    show SortSt.mk' oneType' (pairsOf vs) #[] 7 none = SortSt.mk' oneType' ((List.toArray (List.range vs.length)).map (kas_item (pairsOf vs))) #[] 7 none
    rw [e]
  have ask := askT_wp (cmp := kas_ask prog w A oneType' vs) (Q := fun p' s' => p' = p ∧ s' = { s with heap := ((s.heap.update a (Obj.mapSeq fun _ => (#[] : Array Value))).push (seqObj "tuple" vs.toArray 0)).push (seqObj "list" #[] 0) })
    (s := { s with heap := ((s.heap.update a (Obj.mapSeq fun _ => (#[] : Array Value))).push (seqObj "tuple" vs.toArray 0)).push (seqObj "list" #[] 0) }) (c := c) (n := 4) (fun i j C hi hj h => hc _ keep i j C hi hj h) (kas_sort 4) p hp ⟨rfl, rfl⟩
  rw [kas_ask_eq, ← h4] at ask
  have run := kas_runs (E := E) (Q := fun _ st' s' => arrOf st' = p.map (kas_item (pairsOf vs)) ∧ failedOf st' = none ∧ p.size = vs.length ∧ s' = { s with heap := ((s.heap.update a (Obj.mapSeq fun _ => (#[] : Array Value))).push (seqObj "tuple" vs.toArray 0)).push (seqObj "list" #[] 0) })
    (by lia) (by lia) (fun p' st' s' a1 a2 a3 a4 => by obtain ⟨rfl, rfl⟩ := a4; exact ⟨a2, a3, a1, rfl⟩) ask
  rw [← est] at run
  refine wpAny_bind (wpAny_mono run ?_ fun _ _ e => e)
  rintro ⟨⟨⟩, st'⟩ s' ⟨har, hf, hps, rfl⟩
  dsimp only
  have hout : (arrOf st').map (·.2) = List.toArray (p.toList.map fun i => vs.getD i Value.none) := by
    apply Array.toList_inj.mp
    rw [har, Array.map_map, Array.toList_map]
    exact List.map_congr_left fun i _ => by show (kas_item (pairsOf vs) i).2 = _; rw [kas_item_eq]
  have hsz : (List.toArray (p.toList.map fun i => vs.getD i Value.none)).size = vs.length := by rw [List.size_toArray, List.length_map, Array.length_toList, hps]
  rw [hout]
  refine wpAny_bind (seqEpoch_at ho6 rfl ?_)
  refine wpAny_bind (listUpdate_at ho6 rfl ?_ (Nat.zero_le _) (Nat.le_trans (Nat.le_of_eq hsz) (by rw [sizeLine_eq]; lia)))
  rw [hf]
  simp only [bne_self_eq_false, Bool.false_eq_true, if_false]
  exact wpAny_pure k
theorem sorted4 {l : Addr} {vs : List Value} {Q : Value → Shared → Prop} (hl : s.heap.IsList l vs.toArray) (h4 : vs.length = 4) (hT : ∀ v ∈ vs, ∃ b ws m, v = .ref b ∧ s.heap.get? b = some { cls := .type "list", dict := none, data := .seq ws m, slots := #[] })
    (c : Nat → Nat → Bool) (hc : ∀ s' : Shared, (∀ b o, s.heap.get? b = some o → s'.heap.get? b = some o) → ∀ i j C, i < 4 → j < 4 → C (c i j) s' → kas_ask prog w A.in1.in1 oneType' vs i j C s') {p : Array Nat} (hp : askT 4 c (kas_sort 4) = some p)
    (k : Q (.ref (s.heap.objs.size + 1)) { s with heap := sortedAll s.heap vs (List.toArray (p.toList.map fun i => vs.getD i Value.none)) }) : wpAny (model prog w) A (call (.builtin "sorted") [.ref l]) Q E s := by
  refine Calls.call_function_entry kind_sorted plain_sorted entry_sorted (args_sorted1 _) ?_
  unfold Builtin.«sorted»
  refine wpAny_bind (m := checkCount "sorted" 1 1 _) (wpAny_pure ?_)
  refine wpAny_bind (collect_list hl ?_ (by rw [sizeLine_eq]; lia))
  refine wpAny_bind (wpAny_newList ?_ (by rw [sizeLine_eq]; lia))
  have hsz : ((s.heap.push (seqObj "list" #[] 0)).update s.heap.objs.size (Obj.mapSeq (· ++ vs.toArray))).objs.size = s.heap.objs.size + 1 := by rw [Heap.size_update, size_push']
  have hoL : (((s.heap.push (seqObj "list" #[] 0)).update s.heap.objs.size (Obj.mapSeq (· ++ vs.toArray))).push (seqObj "list" vs.toArray 0)).get? (s.heap.objs.size + 1) = some (seqObj "list" vs.toArray 0) := by
    rw [← hsz]; exact Heap.get?_push_size _ rfl
  have keep : ∀ b o, s.heap.get? b = some o → (((s.heap.push (seqObj "list" #[] 0)).update s.heap.objs.size (Obj.mapSeq (· ++ vs.toArray))).push (seqObj "list" vs.toArray 0)).get? b = some o := fun b o q => by
    have hlt : b < s.heap.objs.size := Heap.lt_size q
    refine Heap.get?_push_of_some _ ?_
    rw [Heap.get?_update_ne _ _ _ _ (Nat.ne_of_lt hlt)]
    exact Heap.get?_push_of_some _ q
  show wpAny _ _ _ _ _ { s with heap := ((s.heap.push (seqObj "list" #[] 0)).update s.heap.objs.size (Obj.mapSeq (· ++ vs.toArray))).push (seqObj "list" vs.toArray 0) }
  rw [hsz]
  refine wpAny_bind (wpAny_holding (wpAny_call_entry slot_list_sort ⟨_, hoL, rfl⟩ entry_list_sort ?body (args_list_sort _)))
  case body =>
    refine sort4 (s := { s with heap := ((s.heap.push (seqObj "list" #[] 0)).update s.heap.objs.size (Obj.mapSeq (· ++ vs.toArray))).push (seqObj "list" vs.toArray 0) }) hoL h4 (fun v hv => ?_) c (fun s' hk i j C hi hj h => hc s' (fun b o e => hk b o ?_ (keep b o e)) i j C hi hj h) hp ⟨_, rfl, wpAny_pure ⟨_, rfl, k⟩⟩
    · obtain ⟨b, ws, m, rfl, hg⟩ := hT v hv
      exact ⟨b, ws, m, rfl, Nat.ne_of_lt (Nat.lt_succ_of_lt (Heap.lt_size hg)), keep _ _ hg⟩
    · exact Nat.ne_of_lt (Nat.lt_succ_of_lt (Heap.lt_size e))
noncomputable def rank4 (x : Nat → List Int) (i : Nat) : Nat := ((List.range 4).filter fun j => ltL (x j) (x i)).length
theorem rank_lt (x : Nat → List Int) {i j : Nat} (hi : i < 4) (hj : j < 4) : decide (rank4 x i < rank4 x j) = ltL (x i) (x j) := by
  have mono : ∀ i j, ltL (x j) (x i) = false → rank4 x i ≤ rank4 x j := fun i j h => by
    unfold rank4
    rw [← List.countP_eq_length_filter, ← List.countP_eq_length_filter]
    refine List.countP_mono_left fun k _ hk => ?_
    cases h2 : ltL (x i) (x j) with
    | true => exact ltL_trans _ _ _ hk h2
    | false => rw [← ltL_total _ _ h2 h]; exact hk
  cases h : ltL (x i) (x j) with
  | true =>
    refine decide_eq_true ?_
    unfold rank4
    have e : ((List.range 4).filter fun k => ltL (x k) (x j)).length = ((List.range 4).filter fun k => ltL (x k) (x j)).length := rfl
    rw [← List.countP_eq_length_filter, ← List.countP_eq_length_filter]
    have key : ∀ l : List Nat, i ∈ l → l.countP (fun k => ltL (x k) (x i)) < l.countP (fun k => ltL (x k) (x j)) := by
      intro l
      induction l with
      | nil => intro h; cases h
      | cons a l ih =>
        intro hm
        have le : l.countP (fun k => ltL (x k) (x i)) ≤ l.countP (fun k => ltL (x k) (x j)) := List.countP_mono_left fun k _ hk => ltL_trans _ _ _ hk h
        rw [List.countP_cons, List.countP_cons]
        by_cases ha : a = i
        · subst ha
          rw [ltL_irrefl, h]
          simp; lia
        · have := ih ((List.mem_cons.mp hm).resolve_left fun e => ha e.symm)
          have h3 : (if ltL (x a) (x i) = true then 1 else 0) ≤ (if ltL (x a) (x j) = true then 1 else 0) := by
            cases h4 : ltL (x a) (x i) with
            | false => simp
            | true => rw [ltL_trans _ _ _ h4 h]; exact Nat.le_refl _
          lia
    exact key _ (List.mem_range.mpr hi)
  | false =>
    refine decide_eq_false ?_
    have := mono j i h
    lia
end
end Mine
namespace Mine
variable {B : Bs}
section
variable (O : B.Ok)
include O
variable {Γ : Kinds} {ρ : REnv} {Wc W : Addr → Prop} {pe : Env} {A : Around} {s : Shared} {K : Nat} {Φ : Phi}
theorem ints_back : ∀ (x : List Int) (vs : List Value), RepAll B s.heap W (x.map .int) vs → IntsAre vs x
  | [], vs, r => by simp only [List.map_nil, RepAll] at r; subst r; exact .nil
  | i :: x, vs, r => by
    simp only [List.map_cons, RepAll] at r
    obtain ⟨v, vs', rfl, rv, ra⟩ := r
    simp only [Rep] at rv
    obtain ⟨t, rfl⟩ := rv
    exact .cons _ t (ints_back x vs' ra)
theorem ints_eq : ∀ (l : List D) (x : List Int), D.ints l = some x → l = x.map .int
  | [], x, h => by cases h; rfl
  | d :: l, x, h => by
    cases d
    case int i =>
      obtain ⟨y, hy, rfl⟩ := om_some h
      rw [ints_eq l y hy]; rfl
    all_goals exact nomatch h
theorem intss_eq : ∀ (l : List D) (x : List (List Int)), D.intss l = some x → l = x.map fun y => .list (y.map .int)
  | [], x, h => by cases h; rfl
  | d :: l, x, h => by
    cases d
    case list r =>
      obtain ⟨y, hy, h1⟩ := ob_some h
      obtain ⟨z, hz, h2⟩ := ob_some h1
      cases h2
      rw [intss_eq l z hz, ints_eq O _ y hy]; rfl
    all_goals exact nomatch h
theorem ints_of (l : List D) (x : List Int) (vs : List Value) (h : D.ints l = some x) (r : RepAll B s.heap W l vs) : IntsAre vs x := ints_back O x vs (ints_eq O l x h ▸ r)
theorem ints_len (l : List D) (x : List Int) (h : D.ints l = some x) : x.length = l.length := by rw [ints_eq O l x h, List.length_map]
theorem intss_len (l : List D) (x : List (List Int)) (h : D.intss l = some x) : x.length = l.length := by rw [intss_eq O l x h, List.length_map]
theorem rep_ints : ∀ (x : List Int) (vs : List Value), IntsAre vs x → RepAll B s.heap W (x.map .int) vs
  | [], _, h => by cases h; exact RepAll.nil
  | i :: x, _, h => by
    cases h with
    | cons n t h => exact RepAll.cons (by simp only [Rep]; exact ⟨t, rfl⟩) (rep_ints x _ h)
theorem insBy_perm {α : Type} (le : α → α → Bool) (x : α) : ∀ l : List α, (insBy le x l).Perm (x :: l)
  | [] => List.Perm.refl _
  | y :: r => by
    unfold insBy
    split
    · exact List.Perm.refl _
    · exact (List.Perm.cons y (insBy_perm le x r)).trans (List.Perm.swap x y r)
theorem sortBy_perm {α : Type} (le : α → α → Bool) : ∀ l : List α, (sortBy le l).Perm l
  | [] => List.Perm.refl _
  | x :: r => (insBy_perm O le x _).trans (List.Perm.cons x (sortBy_perm le r))
theorem insBy_sorted {α : Type} {le : α → α → Bool} (ht : ∀ a b, le a b = true ∨ le b a = true) (tr : ∀ a b c, le a b = true → le b c = true → le a c = true) (x : α) : ∀ l : List α, l.Pairwise (fun a b => le a b = true) → (insBy le x l).Pairwise fun a b => le a b = true
  | [], _ => by simp [insBy]
  | y :: r, h => by
    obtain ⟨h1, h2⟩ := List.pairwise_cons.mp h
    unfold insBy
    split
    · rename_i hc
      refine List.pairwise_cons.mpr ⟨fun z hz => ?_, h⟩
      rcases List.mem_cons.mp hz with rfl | hz
      · exact hc
      · exact tr _ _ _ hc (h1 z hz)
    · rename_i hc
      refine List.pairwise_cons.mpr ⟨fun z hz => ?_, insBy_sorted ht tr x r h2⟩
      rcases List.mem_cons.mp ((insBy_perm O le x r).mem_iff.mp hz) with rfl | hz
      · exact (ht y z).resolve_right hc
      · exact h1 z hz
theorem sortBy_sorted {α : Type} {le : α → α → Bool} (ht : ∀ a b, le a b = true ∨ le b a = true) (tr : ∀ a b c, le a b = true → le b c = true → le a c = true) : ∀ l : List α, (sortBy le l).Pairwise fun a b => le a b = true
  | [] => List.Pairwise.nil
  | x :: r => insBy_sorted O ht tr x _ (sortBy_sorted ht tr r)
theorem sorted_out_rep {vs : List Value} {out : Array Value} {ds : List D} (tW : ∀ b, B.T b → W b) (wlt : ∀ b, W b → b < s.heap.objs.size) (hl : ds.length ≤ lim) (r : RepAll B s.heap W ds out.toList) :
    Eff B s { s with heap := sortedAll s.heap vs out } ∧ Rep B (sortedAll s.heap vs out) W (.list ds) (.ref (s.heap.objs.size + 1)) := by
  have k : ∀ b o, s.heap.get? b = some o → (sortedAll s.heap vs out).get? b = some o := fun b o e => sortedAll_old e
  obtain ⟨e, he⟩ := sortedAll_at s.heap vs out
  have hlt := Heap.lt_size he
  refine ⟨size_eff O k (Nat.le_of_lt (Nat.lt_of_succ_lt hlt)) rfl rfl, ?_⟩
  exact ⟨_, out, e, rfl, fun w => Nat.lt_irrefl _ (Nat.lt_of_succ_lt (wlt _ w)), he, hl, RepAll.move O (fun b o _ e => k b o e) (fun b q => .inl q) _ _ r⟩
theorem rep_nth : ∀ (x : List (List Int)) (vs : List Value), RepAll B s.heap W (x.map fun y => .list (y.map .int)) vs → ∀ i, i < x.length → Rep B s.heap W (.list ((x.getD i []).map .int)) (vs.getD i Value.none)
  | [], vs, r, i, h => by cases h
  | y :: x, vs, r, i, h => by
    simp only [List.map_cons, RepAll] at r
    obtain ⟨v, vs', rfl, rv, ra⟩ := r
    cases i with
    | zero => simpa using rv
    | succ i => simpa using rep_nth x vs' ra i (by simpa using h)
theorem rep_pick {x : List (List Int)} {vs : List Value} (r : RepAll B s.heap W (x.map fun y => .list (y.map .int)) vs) : ∀ p : List Nat, (∀ i ∈ p, i < x.length) → RepAll B s.heap W ((p.map fun i => x.getD i []).map fun y => .list (y.map .int)) (p.map fun i => vs.getD i Value.none)
  | [], _ => RepAll.nil
  | i :: p, h => RepAll.cons (rep_nth O x vs r i (h i (List.mem_cons_self ..))) (rep_pick r p fun j hj => h j (List.mem_cons_of_mem _ hj))
theorem sorted_lists {l : Addr} {ds : List D} {x : List (List Int)} {vs : Array Value} {n : Nat} {E : Value → Shared → Prop} {Q : Value → Shared → Prop} (hx : D.intss ds = some x) (hg : s.heap.get? l = some { cls := .type "list", dict := none, data := .seq vs n, slots := #[] })
    (ra : RepAll B s.heap W ds vs.toList) (h4 : ds.length = 4) (R : Room A K)
    (k : ∀ out : Array Value, RepAll B s.heap W ((sortBy leI x).map fun y => .list (y.map .int)) out.toList → Q (.ref (s.heap.objs.size + 1)) { s with heap := sortedAll s.heap vs.toList out }) : wpAny B.M A (call (.builtin "sorted") [.ref l]) Q E s := by
  have hl4 : x.length = 4 := by rw [intss_len O _ _ hx, h4]
  have hds := intss_eq O _ _ hx
  subst hds
  have hv4 : vs.toList.length = 4 := by rw [RepAll.length ra]; exact h4
  have key : ∀ i, i < 4 → ∃ b ws m, vs.toList.getD i Value.none = .ref b ∧ s.heap.get? b = some { cls := .type "list", dict := none, data := .seq ws m, slots := #[] } ∧ IntsAre ws.toList (x.getD i []) := fun i hi => by
    have r := rep_nth O x vs.toList ra i (by lia)
    simp only [Rep] at r
    obtain ⟨b, ws, m, e, _, hg', _, ra'⟩ := r
    exact ⟨b, ws, m, e, hg', ints_back O _ _ ra'⟩
  let X : Nat → List Int := fun i => x.getD i []
  have r5 : ∀ i, rank4 X i < 5 := fun i => by
    unfold rank4
    have := List.length_filter_le (fun j => ltL (X j) (X i)) (List.range 4)
    simp only [List.length_range] at this
    lia
  have hall := okAll4
  simp only [List.all_eq_true, List.mem_range] at hall
  have h0 := hall _ (r5 0) _ (r5 1) _ (r5 2) _ (r5 3)
  have hrk : ∀ i, i < 4 → rk (rank4 X 0) (rank4 X 1) (rank4 X 2) (rank4 X 3) i = rank4 X i := fun i hi => by
    have : i = 0 ∨ i = 1 ∨ i = 2 ∨ i = 3 := by lia
    rcases this with rfl | rfl | rfl | rfl <;> rfl
  unfold okAll at h0
  rw [askT_congr (c' := fun i j => ltL (X i) (X j)) (fun i j hi hj => by rw [hrk i hi, hrk j hj]; exact rank_lt X hi hj)] at h0
  split at h0
  case h_2 => cases h0
  rename_i p hp
  unfold okP at h0
  rw [Bool.and_eq_true] at h0
  obtain ⟨hperm, hsort⟩ := h0
  have hperm := List.isPerm_iff.mp hperm
  have hsort := of_decide_eq_true hsort
  have hlt : ∀ i ∈ p.toList, i < 4 := fun i hi => by simpa using hperm.mem_iff.mp hi
  have hxs : (List.range 4).map (fun i => x.getD i []) = x := by
    refine List.ext_getElem (by simp [hl4]) fun i h1 h2 => ?_
    simp [List.getD, h2]
  have e : p.toList.map (fun i => x.getD i []) = sortBy leI x := by
    refine List.Perm.eq_of_pairwise (le := fun a b => leI a b = true) (fun a b _ _ => leI_antisymm) ?_ (sortBy_sorted O leI_total leI_trans x) ?_
    · rw [List.pairwise_map] at hsort ⊢
      refine hsort.imp_of_mem fun {i j} hi hj h => ?_
      rw [hrk i (hlt i hi), hrk j (hlt j hj)] at h
      rw [leI_eq, show ltL (x.getD j []) (x.getD i []) = decide (rank4 X j < rank4 X i) from (rank_lt X (hlt j hj) (hlt i hi)).symm]
      simp; lia
    · have h1 := hperm.map (fun i => x.getD i [])
      rw [hxs] at h1
      exact h1.trans (sortBy_perm O leI x).symm
  refine sorted4 (vs := vs.toList) ⟨_, hg, rfl, n, by simp⟩ hv4 (fun v hv => ?_) (fun i j => ltL (X i) (X j)) (fun s' hk i j C hi hj h => ?_) hp ?_
  · obtain ⟨i, hi, rfl⟩ := List.getElem_of_mem hv
    obtain ⟨b, ws, m, e1, e2, _⟩ := key i (by lia)
    have e3 : vs.toList.getD i Value.none = vs.toList[i] := by simp only [List.getD, List.getElem?_eq_getElem hi, Option.getD_some]
    rw [e3] at e1
    exact ⟨b, ws, m, e1, e2⟩
  · obtain ⟨b, ws, m, e1, e2, e3⟩ := key i hi
    obtain ⟨b', ws', m', e1', e2', e3'⟩ := key j hj
    unfold kas_ask
    rw [e1, e1']
    exact keys_lt (by have := R.units; show A.units + 1 + 1 < cLine; lia) e3 e3' (hk _ _ e2) (hk _ _ e2') h
  · refine k _ ?_
    rw [← e]
    exact rep_pick O ra _ (by rw [hl4]; exact hlt)
omit O in
theorem len_inv {n : Nat} : ∀ {x : D}, D.len x = some n → (∃ l, x = .str l ∧ n = l.length) ∨ (∃ l, x = .list l ∧ n = l.length) ∨ ∃ l, x = .tup l ∧ n = l.length := fun {x} e => by
  cases x
  case str l => obtain rfl := Option.some.inj e; exact .inl ⟨l, rfl, rfl⟩
  case list l => obtain rfl := Option.some.inj e; exact .inr (.inl ⟨l, rfl, rfl⟩)
  case tup l => obtain rfl := Option.some.inj e; exact .inr (.inr ⟨l, rfl, rfl⟩)
  all_goals cases e
omit O in
theorem lim63 {n : Nat} (h : n ≤ lim) : (n : Int) < 2 ^ 63 := by unfold lim at h; lia
omit O in
theorem blt_len {n : Nat} {x : D} {v : Value} {E : Value → Shared → Prop} {Q : Value → Shared → Prop} (hn : D.len x = some n) (rx : RepB B s.heap W x v) (k : ∀ t tk, Q (.int (n : Int) t) { s with toks := tk }) : wpAny B.M A (call (.builtin "len") [v]) Q E s := by
  rcases len_inv hn with ⟨l, rfl, rfl⟩ | ⟨ds, rfl, rfl⟩ | ⟨ds, rfl, rfl⟩
  · obtain ⟨t, rfl, hl⟩ := strB rx
    have hlen : (⟨l.toArray⟩ : Str).length = l.length := by simp [Str.length]
    refine P.len_str ?_ ?_
    · rw [hlen]; exact Int.not_le.mpr (lim63 hl)
    · rw [hlen]; exact k _ _
  · obtain ⟨a, vs, m, rfl, hg, hl, ra⟩ := rx
    have hsz := RepAll.length ra
    rw [Array.length_toList] at hsz
    refine len_list ⟨_, hg, rfl, m, rfl⟩ (by rw [hsz]; exact lim63 hl) ?_
    rw [hsz]; exact k _ _
  · obtain ⟨a, vs, m, rfl, hw, hg, hl, ra⟩ := rx
    have hsz := RepAll.length ra
    rw [Array.length_toList] at hsz
    refine PyProof.Rows.len_tuple ⟨_, hg, rfl, m, rfl⟩ (by rw [hsz]; exact lim63 hl) ?_
    rw [hsz]; exact k _ _
theorem blt_sorted {l : List D} {z : D} {v : Value} {E : Value → Shared → Prop} {Q : Value → Shared → Prop} (h : D.sorted l = some z) (rx : RepB B s.heap W (.list l) v) (tW : ∀ b, B.T b → W b) (wlt : ∀ b, W b → b < s.heap.objs.size) (R : Room A K) (hK : 16 ≤ K)
    (k : ∀ r s', Eff B s s' → Rep B s'.heap W z r → Q r s') : wpAny B.M A (call (.builtin "sorted") [v]) Q E s := by
  unfold D.sorted at h
  split at h
  · exact nomatch h
  rename_i h64
  obtain ⟨a, vs, m, rfl, hg, hl, ra⟩ := rx
  have L : s.heap.IsList a vs.toList.toArray := ⟨_, hg, rfl, m, by simp⟩
  have hsz := RepAll.length ra
  split at h
  · obtain rfl := Option.some.inj h
    simp only [RepAll] at ra
    refine sorted_ints L (by rw [ra]; exact .nil) (by rw [ra]; simp) fun out ns' h1 h2 h3 => ?_
    have hn : ns' = [] := List.Perm.eq_nil h2
    subst hn
    cases ho : out.toList with
    | cons => rw [ho] at h1; exact nomatch h1
    | nil =>
      obtain ⟨e1, r1⟩ := sorted_out_rep O (vs := vs.toList) (out := out) (ds := []) tW wlt (Nat.zero_le _) (by rw [ho]; exact RepAll.nil)
      exact k _ _ e1 r1
  · obtain ⟨x, hx, rfl⟩ := om_some h
    have hI := ints_of O _ _ _ hx ra
    refine sorted_ints L hI (by lia) fun out ns' h1 h2 h3 => ?_
    have e : ns' = sortBy (fun a b => decide (a ≤ b)) x := by
      refine List.Perm.eq_of_pairwise (le := (· ≤ ·)) (fun a b _ _ => Int.le_antisymm) h3 ?_ (h2.trans (sortBy_perm O _ x).symm)
      refine (sortBy_sorted O (le := fun a b => decide (a ≤ b)) (fun a b => ?_) (fun a b c h1 h2 => ?_) x).imp fun h => by simpa using h
      · simp only [decide_eq_true_eq]; lia
      · simp only [decide_eq_true_eq] at *; lia
    subst e
    have hlen : ((sortBy (fun a b => decide (a ≤ b)) x).map D.int).length ≤ lim := by
      rw [List.length_map, (sortBy_perm O _ x).length_eq, ints_len O _ _ hx]; exact hl
    obtain ⟨e1, r1⟩ := sorted_out_rep O (vs := vs.toList) (out := out) tW wlt hlen (rep_ints O _ _ h1)
    exact k _ _ e1 r1
  · obtain ⟨h4, h5⟩ := ifb_some h
    obtain ⟨x, hx, rfl⟩ := om_some h5
    refine sorted_lists O hx hg ra h4 R fun out ro => ?_
    have hlen : ((sortBy leI x).map fun y => D.list (y.map .int)).length ≤ lim := by
      rw [List.length_map, (sortBy_perm O _ x).length_eq, intss_len O _ _ hx]
      exact hl
    obtain ⟨e1, r1⟩ := sorted_out_rep O (vs := vs.toList) (out := out) tW wlt hlen ro
    exact k _ _ e1 r1
theorem blt_chr {x z : D} {v : Value} {E : Value → Shared → Prop} {Q : Value → Shared → Prop} (h : D.chr x = some z) (rx : RepB B s.heap W x v) (k : ∀ r s', Eff B s s' → Rep B s'.heap W z r → Q r s') : wpAny B.M A (call (.builtin "chr") [v]) Q E s := by
  obtain ⟨i, hi, h1⟩ := ob_some h
  obtain ⟨hc, rfl⟩ := if_some h1
  have := int?_eq hi; subst this
  obtain ⟨t, rfl⟩ := intB rx
  exact chr_of_range hc.1 (by lia) (k _ _ (Eff.toks _) (rep_s (l := [i.toNat]) (show 1 ≤ lim by decide)))
theorem blt_ord {x z : D} {v : Value} {E : Value → Shared → Prop} {Q : Value → Shared → Prop} (h : D.ord x = some z) (rx : RepB B s.heap W x v) (k : ∀ r s', Eff B s s' → Rep B s'.heap W z r → Q r s') : wpAny B.M A (call (.builtin "ord") [v]) Q E s := by
  obtain ⟨l, hl, h1⟩ := ob_some h
  obtain ⟨c, h2, rfl⟩ := om_some h1
  have := str?_eq hl; subst this
  obtain ⟨t, rfl, _⟩ := strB rx
  unfold oneOf at h2
  split at h2 <;> cases h2
  exact P.ord_of_char (k _ _ (Eff.toks _) rep_i)
theorem blt_ok {f : Nat} {x z : D} {u v : Value} {E : Value → Shared → Prop} {Q : Value → Shared → Prop} (hb : bltVal f = some u) (h : D.builtin f [x] = some z) (rx : RepB B s.heap W x v) (tW : ∀ b, B.T b → W b) (wlt : ∀ b, W b → b < s.heap.objs.size) (R : Room A K) (hK : 16 ≤ K)
    (k : ∀ r s', Eff B s s' → Rep B s'.heap W z r → Q r s') : wpAny B.M A (call u [v]) Q E s := by
  obtain ⟨g, hg, hz⟩ := ob_some (show (bltF f).bind (fun g => g x) = some z from h)
  refine tabN_all (P := fun f g => bltVal f = some u → g x = some z → wpAny B.M A (call u [v]) Q E s) ?_ f g hg hb hz
  refine List.forall_mem_cons.mpr ⟨fun hb hz => ?_, List.forall_mem_cons.mpr ⟨fun hb hz => ?_, List.forall_mem_cons.mpr ⟨fun hb hz => ?_, List.forall_mem_cons.mpr ⟨fun hb hz => ?_, fun _ hq => nomatch hq⟩⟩⟩⟩
  · obtain rfl := Option.some.inj hb
    obtain ⟨n, hn, rfl⟩ := om_some hz
    exact blt_len hn rx fun t tk => k _ _ (Eff.toks _) rep_i
  · obtain rfl := Option.some.inj hb; exact blt_chr O hz rx k
  · obtain rfl := Option.some.inj hb; exact blt_ord O hz rx k
  · obtain rfl := Option.some.inj hb
    obtain ⟨l, hl, hz⟩ := ob_some hz
    have := list?_eq hl; subst this
    exact blt_sorted O hz rx tW wlt R hK k
end
end Mine
namespace Mine
variable {B : Bs} {K : Nat}
theorem Room.less {A : Around} {k k' : Nat} (h : Room A k) (hk : k' ≤ k) : Room A k' := ⟨h.handled, by have := h.depth; lia, by have := h.units; lia⟩
theorem Room.in1 {A : Around} {k : Nat} (h : Room A (k + 1)) : Room A.in1 k := ⟨h.handled, by have := h.depth; show A.depth + k < 950; lia, by have := h.units; show A.units + 1 + 3 * k + 300 < cLine; lia⟩
section
variable (O : B.Ok)
include O
variable {Γ : Kinds} {ρ : REnv} {Wc W : Addr → Prop} {pe : Env} {A : Around} {s s₀ : Shared} {K : Nat} {Φ : Phi}
theorem RepAll.of_get {h : Heap} : ∀ (ds : List D) (vs : List Value), vs.length = ds.length → (∀ (i : Nat) d v, ds[i]? = some d → vs[i]? = some v → Rep B h W d v) → RepAll B h W ds vs
  | [], [], _, _ => RepAll.nil
  | [], _ :: _, h, _ => by simp at h
  | _ :: _, [], h, _ => by simp at h
  | d :: ds, v :: vs, h, k => RepAll.cons (k 0 d v rfl rfl) (RepAll.of_get ds vs (by simpa using h) fun i d v h1 h2 => k (i + 1) d v (by simpa using h1) (by simpa using h2))
theorem ext_loop {F : Addr → Prop} {it S : Addr} {I : List D → Pv → Shared → Prop} {res : Value} (ok : IterOk B K F it I) (R21 : Room A (K - 4 + 1)) (hSF : ¬ F S) (hS0 : B.h₀.objs.size ≤ S) :
    ∀ (l : List D) (p : Pv) (s : Shared) (acc : Array Value) (c : Nat) (R : Result → Shared → Prop), I l p s → Good B s → s.heap.get? S = some { cls := .type "list", dict := none, data := .seq acc c, slots := #[] } → ¬ p.a S → acc.size + l.length ≤ lim → (∀ b, p.a b → B.h₀.objs.size ≤ b) →
      (∀ s' acc' c', EffP B ⟨fun b => p.a b ∨ b = S, p.g⟩ s s' → s'.heap.get? S = some { cls := .type "list", dict := none, data := .seq (acc ++ acc'.toArray) c', slots := #[] } → RepAll B s'.heap (fun b => ¬ F b) l acc' → R (.ok (.ret res)) s') →
      codeAny B.M A (.builtin "list.extend.loop" ⟨[.ref S, .ref it, res], []⟩) R s := by
  intro l
  have R20 : Room A.in1 (K - 4) := R21.in1
  have nT := kept_nT O hS0
  induction l with
  | nil =>
    intro p s acc c R hI g hS hp hlim h0 k
    refine codeAny_builtin PySem.F.entry_extend_loop ?_
    rw [Around.under_plainId PySem.F.plain_extend_loop _]
    show wpAny _ A.in1 (pyNext (.ref it) >>= _) _ _ s
    refine wpAny_bind (ok.done _ _ _ _ _ hI g R20 fun s1 e1 => wpAny_pure ?_)
    refine k s1 [] c (e1.mono (fun b q => .inl q) fun i q => q) ?_ RepAll.nil
    simpa using e1.keep S _ nT hp hS
  | cons d l ih =>
    intro p s acc c R hI g hS hp hlim h0 k
    refine codeAny_builtin PySem.F.entry_extend_loop ?_
    rw [Around.under_plainId PySem.F.plain_extend_loop _]
    show wpAny _ A.in1 (pyNext (.ref it) >>= _) _ _ s
    refine wpAny_bind (ok.next _ _ _ _ _ _ _ hI g R20 fun v s1 p1 e1 hsub hnew hg rv hI1 => ?_)
    have hS1 := e1.keep S _ nT hp hS
    have hp1 : ¬ p1.a S := fun q => (hnew _ q).elim hp fun z => Nat.lt_irrefl _ (Nat.lt_of_lt_of_le (Heap.lt_size hS) z)
    show wpAny _ A.in1 (updateSeq S (·.push v) >>= _) _ _ _
    simp only [List.length_cons] at hlim
    have hlim' : lim + 1 ≤ sizeLine := by
      have : sizeLine = 16777216 := by decide
      rw [this]; decide
    refine wpAny_bind (wpAny_updateSeq hS1 rfl (wpAny_pure ⟨plainId_quiet PySem.F.plain_extend_loop _, ?_⟩) (by lia) (by show (acc.push v).size ≤ sizeLine + 1; rw [Array.size_push]; lia))
    have es : EffP B ⟨fun b => b = S, fun _ => False⟩ s1 { s1 with heap := s1.heap.update S (Obj.mapSeq (·.push v)) } := by
      have := eff_at O (s := s1) (h' := s1.heap.update S (Obj.mapSeq (·.push v))) (t := s1.toks) nT (list_nc hS1) (Heap.SameBut.update ..)
      exact this
    have e2 : EffP B ⟨fun b => p.a b ∨ b = S, p.g⟩ s { s1 with heap := s1.heap.update S (Obj.mapSeq (·.push v)) } :=
      (e1.mono (p' := ⟨fun b => p.a b ∨ b = S, p.g⟩) (fun b q => .inl q) fun i q => q).trans es (fun b q => .inl (.inr q)) fun i q => q.elim
    have g2 : Good B { s1 with heap := s1.heap.update S (Obj.mapSeq (·.push v)) } := g.moveP e2 fun b q => q.elim (h0 b) fun q => q ▸ hS0
    have hI2 : I l p1 { s1 with heap := s1.heap.update S (Obj.mapSeq (·.push v)) } := by
      refine ok.stay _ _ _ _ hI1 (fun b o nt q z => es.keep b o nt (fun w => ?_) z) es.ck es.size (fun i y q z => es.gens i y (fun w => w.elim) z) g2
      subst w
      exact q.elim hSF hp1
    have hS2 := Heap.get?_update_self (Obj.mapSeq (·.push v)) hS1 rfl
    refine ih p1 _ (acc.push v) _ R hI2 g2 hS2 hp1 (by rw [Array.size_push]; lia) (fun b q => (hnew b q).elim (h0 b) fun z => Nat.le_trans g.size z) fun s' acc' c' e' hS' r' => ?_
    have e3 : EffP B ⟨fun b => p.a b ∨ b = S, p.g⟩ s s' := e2.trans e' (fun b q => q.elim (fun q => (hnew b q).imp .inl id) fun q => .inl (.inr q)) fun i q => .inl (by rw [← hg]; exact q)
    refine k s' (v :: acc') c' e3 (by rw [hS']; simp) (RepAll.cons ?_ r')
    have e4 : EffP B ⟨fun b => p1.a b ∨ b = S, p1.g⟩ s1 s' := (es.mono (p' := ⟨fun b => p1.a b ∨ b = S, p1.g⟩) (fun b q => .inr q) fun i q => q.elim).trans e' (fun b q => .inl q) fun i q => .inl q
    refine Rep.move O (e4.kW (fun b t => fun f => ok.ft _ _ _ hI1 b f t) fun b q => fun f => ?_) (fun b q => .inl q) _ _ rv
    rcases q with q | q
    · exact (ok.sub _ _ _ hI1 b q).1 f
    · exact hSF (q ▸ f)
theorem ext_gen {F : Addr → Prop} {it S : Addr} {I : List D → Pv → Shared → Prop} {res : Value} {l : List D} {p : Pv} {s : Shared} {c : Nat} {R : Result → Shared → Prop} (ok : IterOk B K F it I) (hty : ∀ l p s, I l p s → s.TypeIs (.ref it) "generator") (R21 : Room A (K - 4 + 1)) (hSF : ¬ F S) (hS0 : B.h₀.objs.size ≤ S)
    (hI : I l p s) (g : Good B s) (hS : s.heap.get? S = some { cls := .type "list", dict := none, data := .seq #[] c, slots := #[] }) (hp : ¬ p.a S) (hSI : S ≠ it) (hlim : l.length ≤ lim) (h0 : ∀ b, p.a b → B.h₀.objs.size ≤ b)
    (k : ∀ s' acc' c', EffP B ⟨fun b => p.a b ∨ b = S, p.g⟩ s s' → s'.heap.get? S = some { cls := .type "list", dict := none, data := .seq acc' c', slots := #[] } → RepAll B s'.heap (fun b => ¬ F b) l acc'.toList → R (.ok (.ret res)) s') :
    wpAny B.M A.in1 (Builtin.List.listExtendWith (.ref S) (.ref it) res)
      (fun fin s' => match fin with | .done f => R (.ok f) s' | .again c' => c'.quiet = true ∧ codeAny B.M A c' R s') (fun e s' => R (.error e) s') s := by
  have nT := kept_nT O hS0
  have hT := hty _ _ _ hI
  unfold Builtin.List.listExtendWith
  refine wpAny_bind (wpAny_typeOf hT ?_)
  have h1 : Builtin.List.listSameRef (.ref S) (.ref it) = false := by simp [Builtin.List.listSameRef, hSI]
  have h2 : (Value.type "generator" == Value.type "list") = false := by decide
  have h3 : (Value.type "generator" == Value.type "tuple") = false := by decide
  simp only [h1, h2, h3, Bool.or_false, Bool.false_eq_true, if_false]
  refine wpAny_bind (ok.self _ _ _ _ _ _ hI g R21.in1 ?_)
  refine wpAny_bind (wpAny_holding ?_)
  unfold Builtin.List.listLengthHint
  refine wpAny_bind (wpAny_specialOf hT PySem.F.gen_no_len ?_)
  show wpAny _ A.in1 (specialOf (Value.ref it) (Str.ofString "__length_hint__") >>= _) _ _ _
  refine wpAny_bind (wpAny_specialOf hT PySem.F.gen_no_hint ?_)
  refine wpAny_pure ?_
  show wpAny _ A.in1 (rule "list.extend.makes-room" >>= fun _ => Builtin.List.listTouch (.ref S) >>= fun _ =>
    again (.builtin "list.extend.loop" ⟨[.ref S, .ref it, res], []⟩)) _ _ _
  refine wpAny_bind (wpAny_rule ?_)
  refine wpAny_bind ?_
  show wpAny _ A.in1 (updateSeq S (·.push .none) >>= fun _ => updateSeq S (·.pop)) _ _ _
  refine wpAny_bind (wpAny_updateSeq hS rfl ?_)
  have hS2 := Heap.get?_update_self (Obj.mapSeq (·.push Value.none)) hS rfl
  refine wpAny_updateSeq (hz := by seq_fits) hS2 rfl ?_
  have hS3 := Heap.get?_update_self (Obj.mapSeq (·.pop)) hS2 rfl
  generalize hh : ((s.heap.update S (Obj.mapSeq (·.push Value.none))).update S (Obj.mapSeq (·.pop))) = h' at hS3 ⊢
  have sb : Heap.SameBut S s.heap h' := hh ▸ (Heap.SameBut.update ..).trans (Heap.SameBut.update ..)
  have es : EffP B ⟨fun b => b = S, fun _ => False⟩ s { s with heap := h' } := eff_at O (t := s.toks) nT (list_nc hS) sb
  have g2 : Good B { s with heap := h' } := g.moveP es fun b q => q ▸ hS0
  have hI2 : I l p { s with heap := h' } := ok.stay _ _ _ _ hI (fun b o nt q z => es.keep b o nt (fun w => by subst w; exact q.elim hSF hp) z) es.ck es.size (fun i y q z => es.gens i y (fun w => w.elim) z) g2
  refine wpAny_pure ⟨plainId_quiet PySem.F.plain_extend_loop _, ext_loop O ok R21 hSF hS0 l p _ #[] _ R hI2 g2 hS3 hp (by simpa using hlim) h0 fun s' acc' c' e' hS' r' => ?_⟩
  refine k s' acc'.toArray c' ((es.mono (p' := ⟨fun b => p.a b ∨ b = S, p.g⟩) (fun b q => .inr q) fun i q => q.elim).trans e' (fun b q => .inl q) fun i q => .inl q) (by simpa using hS') (by simpa using r')
theorem list_it {l : List D} {v : Value} {E : Value → Shared → Prop} {Q : Value → Shared → Prop} (R : Room A K) (hK : 24 ≤ K) (rp : ItRep B K s₀ W v l s) (e₀ : Eff B s₀ s) (tW : ∀ b, B.T b → W b) (wlt : ∀ b, W b → b < s₀.heap.objs.size) (hs0 : B.h₀.objs.size ≤ s₀.heap.objs.size) (g : Good B s)
    (k : ∀ r s', Eff B s₀ s' → Rep B s'.heap W (.list l) r → Q r s') : wpAny B.M A (call (.type "list") [v]) Q E s := by
  rcases rp with ⟨r, n, t, u, z, rfl, hw, hr, h0, hl, rfl⟩ | ⟨it, F, p, I, rfl, hty, ok, hI, hF, hp, hg, hl⟩
  · have hl' : n ≤ 1048576 := hl
    have hrs : Builtin.Range.rangeSize 0 n 1 = n.toNat := range_size h0
    have hsm : Builtin.Range.small 0 n 1 = true := range_small h0 hl'
    refine Mine.wpAny_size (call_list_range R.handled hr hsm (n := n.toNat) hrs (by lia) fun h' tk acc' c' hk hS hitems hsz => ?_)
    have e1 : Eff B s { s with heap := h', toks := tk } := size_eff O hk hsz rfl rfl
    refine k _ _ (e₀.trans e1) ?_
    simp only [Rep]
    refine ⟨_, acc', c', rfl, fun w => ?_, hS, ?_, ?_⟩
    · exact Nat.lt_irrefl _ (Nat.lt_of_lt_of_le (wlt _ w) e₀.size)
    · simp only [List.length_map, List.length_range]; unfold lim; lia
    · refine RepAll.of_get O _ _ (by simp [hitems.1]) fun i d v hd hv => ?_
      simp only [List.getElem?_map, Option.map_eq_some_iff] at hd
      obtain ⟨j, hj, rfl⟩ := hd
      have : j = i := by
        obtain ⟨h1, h2⟩ := List.getElem?_eq_some_iff.mp hj
        simpa using h2.symm
      subst this
      rw [Array.getElem?_toList] at hv
      obtain ⟨t, rfl⟩ := hitems.2 _ _ hv
      exact ⟨t, by simp⟩
  · have hsub := ok.sub _ _ _ hI
    obtain ⟨oI, hoI, hcI⟩ := hty _ _ _ hI
    have hItlt := Heap.lt_size hoI
    have hA1 : Room A.in1 (K - 4 + 1) := (R.less (k' := K - 4 + 2) (by lia)).in1
    refine callType_codes (Q₁ := fun obj s₁ => obj = .ref s.heap.objs.size ∧ s₁ = { s with heap := s.heap.push { cls := .type "list", data := .seq #[] } }) PySem.F.called_list (PySem.F.typeCall_list_1 _) PySem.F.entry_list_init
      (code_list_new _ ⟨rfl, rfl⟩) fun obj s₁ h₁ => ?_
    obtain ⟨rfl, rfl⟩ := h₁
    have hS : (s.heap.push { cls := .type "list", data := .seq #[] }).get? s.heap.objs.size = some { cls := .type "list", dict := none, data := .seq #[] 0, slots := #[] } := Heap.get?_push_size _ rfl
    have e1 : Eff B s { s with heap := s.heap.push { cls := .type "list", data := .seq #[] } } := Eff.push O _ s.toks
    have g1 := g.move e1
    have hI1 : I l p { s with heap := s.heap.push { cls := .type "list", data := .seq #[] } } := ok.stay _ _ _ _ hI (fun b o nt q z => e1.keep b o nt z) e1.ck e1.size (fun i y q z => e1.gens i y z) g1
    have hSF : ¬ F s.heap.objs.size := fun q => Nat.lt_irrefl _ (hF _ q).2
    have hSp : ¬ p.a s.heap.objs.size := fun q => Nat.lt_irrefl _ (hsub _ q).2.2
    refine ⟨⟨_, hS, rfl⟩, PySem.F.args_list_init_2 _ _, ?_⟩
    show wpAny _ A.in1.in1 (do let old ← Builtin.List.listItems (.ref s.heap.objs.size); Builtin.List.listUpdate (.ref s.heap.objs.size) (fun _ => #[]); letGo old.toList.reverse; Builtin.List.listExtendWith (.ref s.heap.objs.size) (.ref it) .none) _ _ _
    refine wpAny_bind ?_
    unfold Builtin.List.listItems
    refine wpAny_bind (wpAny_seqItems hS rfl (wpAny_pure ?_))
    show wpAny _ A.in1.in1 (updateSeq s.heap.objs.size (fun _ => #[]) >>= fun _ => letGo (#[] : Array Value).toList.reverse >>= fun _ => Builtin.List.listExtendWith (.ref s.heap.objs.size) (.ref it) .none) _ _ _
    refine wpAny_bind (wpAny_updateSeq hS rfl ?_)
    have hS2 := Heap.get?_update_self (Obj.mapSeq (fun _ => (#[] : Array Value))) hS rfl
    have nT := kept_nT O g.size
    have es : EffP B ⟨fun b => b = s.heap.objs.size, fun _ => False⟩ { s with heap := s.heap.push { cls := .type "list", data := .seq #[] } } { s with heap := (s.heap.push { cls := .type "list", data := .seq #[] }).update s.heap.objs.size (Obj.mapSeq fun _ => (#[] : Array Value)) } :=
      eff_at O (s := { s with heap := s.heap.push { cls := .type "list", data := .seq #[] } }) (t := s.toks) nT (list_nc hS) (Heap.SameBut.update ..)
    have g2 := g1.moveP es fun b q => q ▸ g.size
    have hI2 := ok.stay _ _ _ _ hI1 (fun b o nt q z => es.keep b o nt (fun w => by subst w; exact q.elim hSF hSp) z) es.ck es.size (fun i y q z => es.gens i y (fun w => w.elim) z) g2
    refine wpAny_bind (wpAny_letGo ?_)
    refine ext_gen O ok hty hA1 hSF g.size hI2 g2 hS2 hSp (fun q => Nat.lt_irrefl _ (q ▸ hItlt)) hl (fun b q => Nat.le_trans hs0 (hp b q)) fun s' acc' c' e' hS' r' => ⟨rfl, ?_⟩
    · have e01 := e₀.trans e1
      have eF : Eff B s₀ s' := by
        refine EffP.toEff (p := ⟨fun b => p.a b ∨ b = s.heap.objs.size, p.g⟩) e01 ((es.mono (p' := ⟨fun b => p.a b ∨ b = s.heap.objs.size, p.g⟩) (fun b q => .inr q) fun i q => q.elim).trans e' (fun b q => .inl q) fun i q => .inl q) (fun b q => ?_) (fun i q => hg i q)
        rcases q with q | rfl
        · exact hp b q
        · exact e₀.size
      refine k _ _ eF ?_
      simp only [Rep]
      refine ⟨_, acc', c', rfl, fun w => Nat.lt_irrefl _ (Nat.lt_of_lt_of_le (wlt _ w) e₀.size), hS', hl, ?_⟩
      exact RepAll.less O r' fun b q f => (hF b f).1 q
end
end Mine
section
open PySem PySem.W PySem.Calls PyProof.Rows PySem.Builtin PySem.Builtin.Str
namespace Mine
variable {B : Bs} {K : Nat}
section
variable (O : B.Ok)
include O
variable {Γ : Kinds} {ρ : REnv} {Wc W : Addr → Prop} {pe : Env} {A : Around} {s s₀ : Shared} {K : Nat} {Φ : Phi}
theorem useR {e : E} {r : Mine.R} (hS : Snd B K Φ e) (h : ev Φ Γ ρ e = some r) (X : Ctx B Γ Wc W pe ρ s) (R : Room A K) {E : Value → Shared → Prop} {Q : Value → Shared → Prop}
    (k : ∀ v s', Eff B s s' → Ctx B Γ Wc W pe ρ s' → RPost B K s W r v s' → Q v s') : wpAny B.M A (eval (e.py B.nm) pe) Q E s :=
  wpAny_mono (hS Γ ρ r h Wc W pe A s X R) (fun v s' h' => k v s' h'.1 (X.move O h'.1) h'.2) fun _ _ f => f.elim
theorem tree1 {pe : Env} {p : Pos} (e : E) : backTo p (starEach (pyL B.nm [e]) pe) = [(false, eval (e.py B.nm) pe)] := by
  rw [backTo_py O, x_pyL_cons, starEach_py]; rfl
theorem snd_range {e : E} {fp p : Pos} (he : Snd B K Φ e) : Snd B K Φ (.blt 5 [e] fp p) := by
  intro Γ ρ r h Wc W pe A s X R
  rw [x_ev_blt5] at h
  obtain ⟨hk, h'⟩ := ifb_some h
  clear h
  obtain ⟨r1, h1, h⟩ := ob_some h'
  clear h'
  obtain ⟨d, hd, h'⟩ := ob_some h
  clear h
  split at h'
  case h_2 => exact nomatch h'
  obtain ⟨hn, rfl⟩ := if_some h'
  clear h'
  refine wpAny_Call_Name_kw (ld_blt O X hk rfl ?_)
  rw [tree1 O]
  refine callWith_type1 (useD O he h1 hd X R fun v s1 e1 X1 q1 => ?_)
  obtain ⟨t, rfl⟩ := intE q1
  exact call_range_1 ⟨e1.trans (Eff.push O _ _), .inl ⟨_, _, _, _, _, rfl, fun w => Nat.lt_irrefl _ (X1.wlt _ w), Heap.get?_push_size _ rfl, hn.1, hn.2, rfl⟩⟩
theorem snd_lst {e : E} {fp p : Pos} (hK : 24 ≤ K) (he : Snd B K Φ e) : Snd B K Φ (.blt 4 [e] fp p) := by
  intro Γ ρ r h Wc W pe A s X R
  rw [x_ev_blt4] at h
  obtain ⟨hk, h'⟩ := ifb_some h
  clear h
  obtain ⟨r1, h1, h⟩ := ob_some h'
  clear h'
  split at h
  case h_2 => exact nomatch h
  obtain ⟨d, hd, rfl⟩ := om_some h
  clear h
  obtain ⟨hl, rfl⟩ := if_some hd
  refine wpAny_Call_Name_kw (ld_blt O X hk rfl ?_)
  rw [tree1 O]
  refine callWith_type1 (useR O he h1 X R fun v s1 e1 X1 q1 => ?_)
  exact list_it O R hK q1 e1 X.tW' X.wlt X.good.size X1.good fun r s2 e2 q2 => ⟨e2, q2⟩
theorem snd_bltg {f : Nat} {e : E} {fp p : Pos} (h4 : f ≠ 4) (h5 : f ≠ 5) (hK : 24 ≤ K) (he : Snd B K Φ e) : Snd B K Φ (.blt f [e] fp p) := by
  intro Γ ρ r h Wc W pe A s X R
  rw [x_ev_bltg h4 h5] at h
  obtain ⟨hk, h'⟩ := ifb_some h
  clear h
  obtain ⟨r1, h1, h⟩ := ob_some h'
  clear h'
  obtain ⟨x, hx, h'⟩ := ob_some h
  clear h
  obtain ⟨z, hz, rfl⟩ := om_some h'
  clear h'
  obtain ⟨g, hg, _⟩ := ob_some (show (bltF f).bind (fun g => g x) = some z from hz)
  have hb := tabN_all (P := fun f _ => ∃ u, bltVal f = some (.builtin u)) (List.forall_mem_cons.mpr ⟨⟨_, rfl⟩, List.forall_mem_cons.mpr ⟨⟨_, rfl⟩, List.forall_mem_cons.mpr ⟨⟨_, rfl⟩, List.forall_mem_cons.mpr ⟨⟨_, rfl⟩, List.forall_mem_nil _⟩⟩⟩⟩) f g hg
  obtain ⟨u, hu⟩ := hb
  refine wpAny_Call_Name_kw (ld_blt O X hk hu ?_)
  rw [tree1 O]
  refine callWith_builtin1 (useB O he h1 hx X R fun v s1 e1 X1 q1 t1 => ?_)
  exact blt_ok O hu hz q1 X1.tW' X1.wlt R (Nat.le_trans (by decide) hK) fun r s2 e2 q2 => ⟨e1.trans e2, q2⟩
theorem snd_blt {f : Nat} {es : List E} {fp p : Pos} (hK : 24 ≤ K) (hes : ∀ e, es = [e] → Snd B K Φ e) : Snd B K Φ (.blt f es fp p) := by
  by_cases h : ∃ e, es = [e]
  · obtain ⟨e, rfl⟩ := h
    by_cases h4 : f = 4
    · subst h4; exact snd_lst O hK (hes e rfl)
    · by_cases h5 : f = 5
      · subst h5; exact snd_range O (hes e rfl)
      · exact snd_bltg O h4 h5 hK (hes e rfl)
  · intro Γ ρ r hr
    rw [x_ev_blt_no fun e q => h ⟨e, q⟩] at hr
    exact nomatch hr
theorem strs_rep : ∀ (xs : List Str) (tk : Nat), (∀ x ∈ xs, x.length ≤ lim) → RepAll B s.heap W (xs.map fun z => .str z.cps.toList) (strsFrom tk xs)
  | [], _, _ => RepAll.nil
  | x :: r, tk, h => RepAll.cons (by
      exact ⟨⟨tk, by cases x; simp⟩, by simpa [Str.length] using h x List.mem_cons_self⟩) (strs_rep r (tk + 1) fun y hy => h y (List.mem_cons_of_mem _ hy))
theorem split_parts_le (x y : Str) : ∀ z ∈ Txt.split x y, z.length ≤ x.length := by
  unfold Txt.split
  split
  · intro z hz; simp only [List.mem_singleton] at hz; subst hz; exact Nat.le_refl _
  · split
    · intro z hz; simp only [List.mem_singleton] at hz; subst hz; exact Nat.le_refl _
    · intro z hz
      unfold partsBetween at hz
      replace hz := List.mem_map.mp hz
      obtain ⟨⟨i, j⟩, _, rfl⟩ := hz
      show (x.cps.extract i j).size ≤ x.cps.size
      simp only [Array.size_extract]; lia
theorem split_ok {x y : List Nat} {t : Tok} {a : Sem Value} {pos : Pos} {E : Value → Shared → Prop} {Q : Value → Shared → Prop} (hx : x.length ≤ lim) (hy : y.length = 1)
    (h : wpAny B.M A a (fun v s₁ => ∃ u, v = .str ⟨y.toArray⟩ u ∧ ∀ obj tk, obj = { cls := .type "list", data := .seq (strsFrom tk (Txt.split ⟨x.toArray⟩ ⟨y.toArray⟩)).toArray } ∨ (∃ t', Txt.split ⟨x.toArray⟩ ⟨y.toArray⟩ = [⟨x.toArray⟩] ∧ obj = { cls := .type "list", data := .seq #[.str ⟨x.toArray⟩ t'] }) →
      ∀ k, Q (.ref s₁.heap.objs.size) { s₁ with heap := s₁.heap.push obj, toks := k }) E s) : MethodOnS B.prog B.w A E "split" (.str ⟨x.toArray⟩ t) pos [(false, a)] Q s := by
  have hlx : (⟨x.toArray⟩ : Str).length = x.length := by simp [Str.length]
  have hly : (⟨y.toArray⟩ : Str).length = 1 := by simp [Str.length, hy]
  refine ⟨"str", _, PySem.F.plainAttrs_str, PySem.F.slot_str_split, PySem.F.type_str_split, typeIs_str _ _ _, (fun _ e => nomatch e),
    method1_meets PySem.F.slot_str_split PySem.F.entry_str_split (wpAny_mono h (fun v s₁ h₁ => ?_) fun _ _ e => e)⟩
  obtain ⟨u, rfl, hq⟩ := h₁
  refine ⟨typeIs_str _ _ _, PySem.F.args_str_split_2 _ _, ?_⟩
  have hy0 : ((⟨y.toArray⟩ : Str).length == 0) = false := by rw [hly]; rfl
  have hsz : (⟨x.toArray⟩ : Str).length ≤ sizeLine := by rw [hlx]; exact sizeLine_lim hx
  cases h1 : (decide ((⟨x.toArray⟩ : Str).length < (⟨y.toArray⟩ : Str).length) || decide (strKind ⟨x.toArray⟩ < strKind ⟨y.toArray⟩))
  · cases hf : (occurrences ⟨x.toArray⟩ ⟨y.toArray⟩ 0 (⟨x.toArray⟩ : Str).length ((⟨x.toArray⟩ : Str).length + 1)).isEmpty
    · have he : Txt.split ⟨x.toArray⟩ ⟨y.toArray⟩ = partsBetween ⟨x.toArray⟩ (occurrences ⟨x.toArray⟩ ⟨y.toArray⟩ 0 (⟨x.toArray⟩ : Str).length ((⟨x.toArray⟩ : Str).length + 1)) (⟨y.toArray⟩ : Str).length := by
        unfold Txt.split
        rw [if_neg (by rw [h1]; simp), if_neg (by rw [hf]; simp)]
      have hn : (partsBetween ⟨x.toArray⟩ (occurrences ⟨x.toArray⟩ ⟨y.toArray⟩ 0 (⟨x.toArray⟩ : Str).length ((⟨x.toArray⟩ : Str).length + 1)) (⟨y.toArray⟩ : Str).length).length ≤ sizeLine := by
        rw [← he]
        have := split_le ⟨x.toArray⟩ ⟨y.toArray⟩
        rw [hlx] at this
        have : sizeLine = 16777216 := by decide
        unfold lim at hx; lia
      refine ⟨_, meets_str_split_sep _ _ t u h1 hy0 hf hsz hn, ?_⟩
      rw [← he]
      exact hq _ s₁.toks (.inl rfl) _
    · have he : Txt.split ⟨x.toArray⟩ ⟨y.toArray⟩ = [⟨x.toArray⟩] := by
        unfold Txt.split
        rw [if_neg (by rw [h1]; simp), if_pos hf]
      exact ⟨_, meets_str_split_not_found _ _ t u h1 hy0 hf, hq _ 0 (.inr ⟨t, he, rfl⟩) s₁.toks⟩
  · have he : Txt.split ⟨x.toArray⟩ ⟨y.toArray⟩ = [⟨x.toArray⟩] := by
      unfold Txt.split
      rw [if_pos h1]
    exact ⟨_, meets_str_split_cannot_occur _ _ t u h1, hq _ 0 (.inr ⟨t, he, rfl⟩) s₁.toks⟩
omit O in
theorem isBase_inv : ∀ {a : E}, a.isBase = true → ∃ (P : E → Prop), P a ∧ ∀ b, P b → ∀ (nm : Nat → Str) (n : Str) (env : Env) (w : Sem Value), attributeBase (b.py nm) n env w = w := fun {a} h => by
  cases a <;> first | exact Bool.noConfusion (show false = true from h) | exact ⟨fun b => b = _, rfl, fun b e nm n env w => by rw [e]; rfl⟩
omit O in
theorem py_base (nm : Nat → Str) {a : E} (h : a.isBase = true) (n : Str) (env : Env) (w : Sem Value) : attributeBase (a.py nm) n env w = w :=
  let ⟨_, h1, h2⟩ := isBase_inv h; h2 a h1 nm n env w
omit O in
theorem met_inv {m : Nat} {x y z : D} (h : D.method x m [y] = some z) : (m = 10 ∧ ∃ a b, x = .str a ∧ y = .str b ∧ z = .int (Txt.find ⟨a.toArray⟩ ⟨b.toArray⟩)) ∨
    m = 11 ∧ ∃ a b, x = .str a ∧ y = .str b ∧ (b.length = 1 ∧ a.length < 1000) ∧ z = .list ((Txt.split ⟨a.toArray⟩ ⟨b.toArray⟩).map fun z => .str z.cps.toList) := by
  obtain ⟨g, hg, hz⟩ := ob_some (show (metF m).bind (fun g => g x y) = some z from h)
  have key := tabN_all (P := fun m g => (m = 10 ∧ g = D.mfind) ∨ m = 11 ∧ g = D.msplit) (List.forall_mem_cons.mpr ⟨.inl ⟨rfl, rfl⟩, List.forall_mem_cons.mpr ⟨.inr ⟨rfl, rfl⟩, List.forall_mem_nil _⟩⟩) m g hg
  refine key.imp (fun ⟨hm, e⟩ => ⟨hm, ?_⟩) fun ⟨hm, e⟩ => ⟨hm, ?_⟩
  · subst e
    obtain ⟨a, ha, h1⟩ := ob_some hz
    obtain ⟨b, hb, h2⟩ := om_some h1
    exact ⟨a, b, str?_eq ha, str?_eq hb, h2.symm⟩
  · subst e
    obtain ⟨a, ha, h1⟩ := ob_some hz
    obtain ⟨b, hb, h2⟩ := ob_some h1
    obtain ⟨hc, h3⟩ := if_some h2
    exact ⟨a, b, str?_eq ha, str?_eq hb, hc, h3.symm⟩
theorem snd_meth {a : E} {m : Nat} {es : List E} {ap p : Pos} (ha : Snd B K Φ a) (hes : ∀ e, es = [e] → Snd B K Φ e) : Snd B K Φ (.meth a m es ap p) := by
  intro Γ ρ r h Wc W pe A s X R
  rw [x_ev_meth] at h
  obtain ⟨hc, h'⟩ := ifb_some h
  clear h
  simp only [Bool.and_eq_true] at hc
  split at h'
  · rename_i e
    simp only [Option.bind_eq_bind, Option.bind_eq_some_iff, Option.map_eq_some_iff] at h'
    obtain ⟨r1, h1, x, hx, r2, h2, y, hy, z, hz, rfl⟩ := h'
    rcases met_inv hz with ⟨rfl, x', y', rfl, rfl, rfl⟩ | ⟨rfl, x', y', rfl, rfl, hy1, rfl⟩
    · refine Call_method1 (py_base _ hc.1 _ _ _) (by rw [starEach_py]; rfl) hc.2 (useD O ha h1 hx X R fun u s1 e1 X1 q1 => ?_)
      obtain ⟨t, rfl, hl⟩ := strE q1
      rw [O.mnm 10 _ rfl]
      refine SB.find (useD O (hes e rfl) h2 hy X1 R fun v s2 e2 X2 q2 => ?_)
      obtain ⟨t', rfl, _⟩ := strE q2
      exact ⟨_, _, rfl, (e1.trans e2).trans (Eff.toks _), rep_i (B := B) (h := s2.heap) (W := W)⟩
    · refine Call_method1 (py_base _ hc.1 _ _ _) (by rw [starEach_py]; rfl) hc.2 (useD O ha h1 hx X R fun u s1 e1 X1 q1 => ?_)
      obtain ⟨t, rfl, hl⟩ := strE q1
      rw [O.mnm 11 _ rfl]
      refine split_ok O hl hy1.1 (useD O (hes e rfl) h2 hy X1 R fun v s2 e2 X2 q2 => ?_)
      obtain ⟨t', rfl, _⟩ := strE q2
      refine ⟨t', rfl, fun obj tk ho k => ?_⟩
      have hle : ∀ z ∈ Txt.split ⟨x'.toArray⟩ ⟨y'.toArray⟩, z.length ≤ lim := fun z hz => by
        have := split_parts_le O ⟨x'.toArray⟩ ⟨y'.toArray⟩ z hz
        have e : (⟨x'.toArray⟩ : Str).length = x'.length := by simp [Str.length]
        lia
      have hn : ((Txt.split ⟨x'.toArray⟩ ⟨y'.toArray⟩).map fun z => D.str z.cps.toList).length ≤ lim := by
        rw [List.length_map]
        have := split_le ⟨x'.toArray⟩ ⟨y'.toArray⟩
        have e : (⟨x'.toArray⟩ : Str).length = x'.length := by simp [Str.length]
        have h2 := hy1.2
        unfold lim; lia
      rcases ho with rfl | ⟨t'', he, rfl⟩
      · refine ⟨(e1.trans e2).trans (Eff.push O _ _), ?_⟩
        exact rep_new_list O X2.wlt (by simpa using strs_rep O (s := s2) _ tk hle) hn
      · refine ⟨(e1.trans e2).trans (Eff.push O _ _), ?_⟩
        rw [he] at hn ⊢
        exact rep_new_list O X2.wlt (RepAll.cons ⟨⟨t'', by simp⟩, by simpa using hl⟩ RepAll.nil) hn
  · exact nomatch h'
end
end Mine
end
namespace Mine
variable {B : Bs} {K : Nat}
theorem compTurn_dict {k v : Expr} {scope : Scope} {pos : Pos} {it : Value} {D₀ : Addr} {env : Env} {t i : Expr} :
    compTurn (.DictComp k v [⟨t, i, [], 0⟩] scope pos) 0 it (.ref D₀) env = (do
      standAt i.pos
      match ← pyNext it with
      | none => pure (.done .next)
      | some x =>
        letOwnedTupleGo t it x
        assign t env x
        let ok ← forIn ([] : List Expr) true fun c r => if r = true then do let ok ← isTrue c env (eval c env); pure (ForInStep.yield ok) else pure (ForInStep.yield r)
        if ok then do
          (do let kv ← eval k env
              let vv ← holding [kv] (eval v env)
              standAt { k.pos with endLine := v.pos.endLine, endCol := v.pos.endCol }
              holding [kv, vv] (dictSet D₀ kv vv))
          again (.compLoop (.DictComp k v [⟨t, i, [], 0⟩] scope pos) 0 it (.ref D₀) env)
        else again (.compLoop (.DictComp k v [⟨t, i, [], 0⟩] scope pos) 0 it (.ref D₀) env)) := by
  unfold compTurn
  rfl
noncomputable def keyStr : D → Str
  | .str x => ⟨x.toArray⟩
  | _ => ⟨#[]⟩
section
variable (O : B.Ok)
include O
variable {Γ : Kinds} {ρ : REnv} {Wc W : Addr → Prop} {pe : Env} {A : Around} {s s₀ : Shared} {K : Nat} {Φ : Phi}
theorem dloop_of_turn {k v : Expr} {gens : List Comprehension} {scope : Scope} {pos : Pos} {d : Nat} {it acc : Value} {R : Result → Shared → Prop}
    (h : wpAny B.M A (compTurn (.DictComp k v gens scope pos) d it acc pe) (fun fin s' => match fin with | .done f => R (.ok f) s' | .again c' => c'.quiet = true ∧ codeAny B.M A c' R s') (notedBy B.M A pe fun e s' => R (.error e) s') s) :
    codeAny B.M A (.compLoop (.DictComp k v gens scope pos) d it acc pe) R s := by
  refine codeAny_of_tree ?_
  show wpAny _ A ((compTurn (.DictComp k v gens scope pos) d it acc pe).onRaise (fun x => do noteFrame x pe; theTreesLotGoes x)) _ _ s
  exact wpAny_noted h
noncomputable def DLoopK (B : Bs) (Z : Addr → Prop) (sc : List (Nat × NameKind)) (Γ₀ : Kinds) (pe : Env) (D₀ : Addr) (ρ : REnv) (l : List (D × D)) (Wc W : Addr → Prop) (p : Pv) (kvs : List (Str × Value)) (R : Result → Shared → Prop) (s : Shared) : Prop :=
  ∀ s' Wc' W' dv, Ctx B (kindsIn Γ₀ sc) Wc' W' pe ρ s' → Grown Wc W s Wc' W' → s'.heap.DictOf (PySem.strKind B.prog B.w) D₀ (kvs ++ (l.map fun q => keyStr q.1).zip dv) → RepAll B s'.heap W' (l.map (·.2)) dv →
    EffP B (tgt Z p D₀) s s' → R (.ok .next) s'
theorem dict_nc {a : Addr} {kvs : List (Str × Value)} {h : Heap} (x : h.DictOf (PySem.strKind B.prog B.w) a kvs) : ∀ o, h.get? a = some o → ¬ isCodeO o := by
  rintro o e ⟨hc, _⟩
  obtain ⟨o', es, ep, e', hx, _⟩ := x
  obtain rfl := Option.some.inj (e.symm.trans e')
  have := hx.1
  rw [hc] at this
  exact absurd this (by decide)
theorem dloop_ok {Z : Addr → Prop} {kE vE itE : E} {t : Tg} {sc : List (Nat × NameKind)} {pos : Pos} {Γ₀ : Kinds} {D₀ : Addr} (hz : ∀ x b, sc.lookup x = some .local ∨ sc.lookup x = some .cell → (zP B pe x).a b → Z b) (RK : Room A K) (R20 : Room A (K - 4)) (hk : Snd B K Φ kE) (hv : Snd B K Φ vE)
    {it : Addr} {F : Addr → Prop} {I : List D → Pv → Shared → Prop} (ok : IterOk B K F it I) : ∀ (items : List D) (ρ : REnv) (l : List (D × D)) (R : Result → Shared → Prop) (s : Shared) (Wc W : Addr → Prop) (p : Pv) (kvs : List (Str × Value)),
      evLoop sc t (fun ρ' => do
          let a ← (← ev Φ (kindsIn Γ₀ sc) ρ' kE).asD
          let b ← (← ev Φ (kindsIn Γ₀ sc) ρ' vE).asD
          some [(a, b)]) ρ items = some l →
      (∀ b, Z b → W b ∧ ¬ Wc b) → Ctx B (kindsIn Γ₀ sc) Wc W pe ρ s → I items p s → (∀ b, F b → ¬ W b ∧ b < s.heap.objs.size) → (∀ b, p.a b → Wc b ∧ B.h₀.objs.size ≤ b) →
      s.heap.DictOf (PySem.strKind B.prog B.w) D₀ kvs → Wc D₀ → B.h₀.objs.size ≤ D₀ → ¬ p.a D₀ → kvs.length + l.length ≤ 64 → (∀ q ∈ l, ∃ x, q.1 = .str x) → (kvs.map (·.1) ++ l.map fun q => keyStr q.1).Nodup →
      DLoopK B Z sc Γ₀ pe D₀ ρ l Wc W p kvs R s →
      codeAny B.M A (.compLoop (.DictComp (kE.py B.nm) (vE.py B.nm) [⟨t.py B.nm, itE.py B.nm, [], 0⟩] (scOf B.nm sc) pos) 0 (.ref it) (.ref D₀) pe) R s := by
  intro items
  induction items with
  | nil =>
    intro ρ l R s Wc W p kvs hev hZ X hI hF hp hA hDc hD0 hDp hlim hkeys hnd k
    simp only [x_evLoop_nil, Option.some.injEq] at hev
    subst hev
    refine dloop_of_turn O ?_
    rw [compTurn_dict]
    refine wpAny_bind (wpAny_standAt (wpAny_bind (ok.done _ _ _ _ _ hI X.good R20 fun s1 e1 => wpAny_pure ?_)))
    refine k s1 Wc W [] (Ctx.moveP O X e1 (fun b q => (hp b q).1) fun b q => (hp b q).2) (Grown.refl O _ _ _) ?_ RepAll.nil (e1.mono (fun b q => .inr (.inl q)) fun i q => q)
    obtain ⟨o, es, ep, ho, r⟩ := hA
    simpa using ⟨o, es, ep, e1.keep D₀ _ (kept_nT O hD0) hDp ho, r⟩
  | cons x rest ih =>
    intro ρ l R s Wc W p kvs hev hZ X hI hF hp hA hDc hD0 hDp hlim hkeys hnd k
    simp only [x_evLoop_cons] at hev
    split at hev
    case isFalse => exact nomatch hev
    rename_i hfit
    simp only [Option.bind_eq_bind, Option.bind_eq_some_iff, Option.some.injEq] at hev
    obtain ⟨ρ', hb, l1, ⟨ra, hra, da, hda, rb, hrb, db, hdb, rfl⟩, l2, hrest, rfl⟩ := hev
    refine dloop_of_turn O ?_
    rw [compTurn_dict]
    obtain ⟨o, es, ep, ho, hrO⟩ := id hA
    refine step_ok O (K := K) (Φ := Φ) (ifs := []) hZ hz RK R20 (sndC_nil O) ok X hI hF hp hfit hb rfl ho hDc hD0 hDp fun s3 Wc3 W3 p1 X3 hmono hseal g3 I3 hnew hp1 hg hDp1 e3 hD3 => ⟨fun _ => ?_, fun h => by cases h⟩
    have X3ρ := Ctx.weaken O X3 hmono hseal
    have F3 : ∀ b, F b → ¬ W3 b ∧ b < s3.heap.objs.size := fun b q => ⟨fun z => (g3.new b z).elim (hF b q).1 fun z => Nat.lt_irrefl _ (Nat.lt_of_lt_of_le (hF b q).2 z), Nat.lt_of_lt_of_le (hF b q).2 e3.size⟩
    refine wpAny_bind (wpAny_bind (useD O hk hra hda X3 RK fun u s4 e4 X4 q4 => wpAny_bind (wpAny_holding (useD O hv hrb hdb X4 RK fun v s5 e5 X5 q5 => wpAny_bind (wpAny_standAt (wpAny_holding ?_))))))
    obtain ⟨key, hkey⟩ := hkeys (da, db) (by simp)
    cases hkey
    have q4' := Rep.eff O X3.tW' q4 e5
    simp only [Rep] at q4'
    obtain ⟨⟨tk, rfl⟩, _⟩ := q4'
    have e35 := e4.trans e5
    have hA5 : s5.heap.DictOf (PySem.strKind B.prog B.w) D₀ kvs := ⟨o, es, ep, e35.keep _ _ (kept_nT O hD0) hD3, hrO⟩
    have hnk : (⟨key.toArray⟩ : Str) ∉ kvs.map (·.1) := by
      intro hm
      rw [List.nodup_append] at hnd
      exact hnd.2.2 _ hm _ (by simp [keyStr]) rfl
    refine wpAny_dictSet_pairs (knd := PySem.strKind B.prog B.w) (k := ⟨key.toArray⟩) (by show (⟨key.toArray⟩ : Str) == ⟨key.toArray⟩; simp) hA5 (fun h' hd' hs' => wpAny_pure ⟨rfl, ?_⟩) (sizeLine_lim (by unfold lim; lia))
    have hst : stored kvs ⟨key.toArray⟩ v = kvs ++ [(⟨key.toArray⟩, v)] := by
      unfold stored
      rw [if_neg]
      rw [List.any_eq_true]
      rintro ⟨kv, hkv, he⟩
      exact hnk (List.mem_map.mpr ⟨kv, hkv, of_decide_eq_true he⟩)
    rw [hst] at hd'
    have ea : EffP B ⟨fun b => b = D₀, fun _ => False⟩ s5 { s5 with heap := h', toks := s5.toks + 1 } := eff_at O (kept_nT O hD0) (dict_nc O hA5) hs'
    have X5ρ := X3ρ.move O e35
    have X6 : Ctx B (kindsIn Γ₀ sc) Wc3 W3 pe ρ { s5 with heap := h', toks := s5.toks + 1 } := Ctx.moveP O X5ρ ea (fun b q => q ▸ g3.c _ hDc) (fun b q => q ▸ hD0)
    have e36 : EffP B ⟨fun b => b = D₀, fun _ => False⟩ s3 { s5 with heap := h', toks := s5.toks + 1 } := (e35.toP _).trans ea (fun b q => .inl q) (fun i q => .inl q)
    have e6 : EffP B (tgt Z p D₀) s { s5 with heap := h', toks := s5.toks + 1 } := e3.trans e36 (fun b q => .inl (.inr (.inr q))) (fun i q => q.elim)
    have I6 : I rest p1 { s5 with heap := h', toks := s5.toks + 1 } := by
      refine ok.stay _ _ _ _ I3 (fun b o nt q z => e36.keep b o nt (fun w => ?_) z) e36.ck e36.size (fun i y q z => e36.gens i y (fun w => w.elim) z) X6.good
      subst w
      rcases q with q | q
      · exact (F3 _ q).1 (g3.w _ (X.cW _ hDc))
      · exact hDp1 q
    have r6 : Rep B ({ s5 with heap := h', toks := s5.toks + 1 } : Shared).heap W3 db v := Rep.move O (ea.kW X3.tW' fun b z => z ▸ g3.w _ (X.cW _ hDc)) (fun b q => .inl q) _ _ q5
    refine ih ρ l2 R _ Wc3 W3 p1 (kvs ++ [(⟨key.toArray⟩, v)]) hrest (fun b q => (g3.own b).mpr (hZ b q)) X6 I6 (fun b q => ⟨(F3 b q).1, Nat.lt_of_lt_of_le (F3 b q).2 e36.size⟩) hp1 hd' (g3.c _ hDc) hD0 hDp1 ?_ (fun q hq => hkeys q (by simp [hq])) ?_ ?_
    · simp only [List.length_append, List.length_cons, List.length_nil] at hlim ⊢; lia
    · simpa [keyStr] using hnd
    · intro s' Wc' W' dv X' g' hD' r' e'
      refine k s' Wc' W' (v :: dv) X' (g3.trans O e6.size g') (by simpa [keyStr] using hD') (RepAll.cons ?_ r') (e6.trans e' (fun b q => ?_) fun i q => .inl (by rw [← hg]; exact q))
      · exact (RepAll.on O (ds := [db]) (vs := [v]) (fun b q => (g3.own b).mpr (hZ b q)) X6 (RepAll.cons r6 RepAll.nil) e' (fun b q => (hp1 b q).1) (g3.c _ hDc) g' : RepAll B s'.heap W' [db] [v]) |> fun z => by
          simp only [RepAll] at z
          obtain ⟨w, r, hw, hz, _⟩ := z
          cases hw; exact hz
      · rcases q with q | q | q
        · exact .inl (.inl q)
        · exact (hnew b q).imp (fun z => .inr (.inl z)) id
        · exact .inl (.inr (.inr q))
theorem snd_dcomp {kE vE : E} {t : Tg} {itE : E} {sc : List (Nat × NameKind)} {p : Pos} (hK : 20 ≤ K) (hk : Snd B K Φ kE) (hv : Snd B K Φ vE) (hit : Snd B K Φ itE) : Snd B K Φ (.dcomp kE vE [.mk t itE []] sc p) := by
  intro Γ ρ rr h Wc W pe A s X RK
  have R20 : Room A (K - 4) := RK.less (Nat.sub_le _ _)
  rw [x_ev_dcomp] at h
  split at h
  case isFalse => exact nomatch h
  rename_i hsc0
  have hsc := scOk_iff O hsc0
  simp only [Option.bind_eq_bind, Option.bind_eq_some_iff, Option.map_eq_some_iff, mkD] at h
  obtain ⟨r1, h1, items, hi, l, hl, d, hd, rfl⟩ := h
  split at hd
  case isFalse => exact nomatch hd
  rename_i hc
  obtain ⟨hlim, hkk, hndd⟩ := hc
  obtain rfl := Option.some.inj hd
  have hkeys : ∀ q ∈ l, ∃ x, q.1 = .str x := fun q hq => by
    have := List.all_eq_true.mp hkk q hq
    cases hq1 : q.1 <;> simp [hq1] at this
    exact ⟨_, rfl⟩
  have hnd : (l.map fun q => keyStr q.1).Nodup := by
    rw [List.Nodup, List.pairwise_map] at hndd ⊢
    refine hndd.imp_of_mem fun {a b} ha hb hne hq => hne ?_
    obtain ⟨x, hx⟩ := hkeys a ha
    obtain ⟨y, hy⟩ := hkeys b hb
    simp only [hx, hy, keyStr] at hq ⊢
    simpa using hq
  show wpAny B.M A (comprehension (.DictComp (kE.py B.nm) (vE.py B.nm) [⟨t.py B.nm, itE.py B.nm, [], 0⟩] (scOf B.nm sc) p) (scOf B.nm sc) pe _ newDict false (eval (itE.py B.nm) pe)) _ _ s
  refine wpAny_comprehension_free (use := none) (g := ⟨t.py B.nm, itE.py B.nm, [], 0⟩) (gs := []) rfl (fun x => py_fold O _ _ _ _) (closure_sc O hsc X) rfl (names_local O hsc) ?_
  refine wpAny_mono (hit _ _ _ h1 _ _ _ _ _ X RK) ?_ fun _ _ f => f.elim
  rintro v1 s1 ⟨e1, q1⟩
  have X1 := X.move O e1
  refine iter_ok O hi X1.tW' X1.wlt X1.good R20 e1 q1 fun it F pv I s2 at2 hlen2 e2 => ?_
  obtain ⟨ok, hI, hF, hp, hg⟩ := at2
  refine wpAny_newObj_type ?_
  have e03 : Eff B s { s2 with heap := s2.heap.push { cls := .type "dict", data := .dict #[] } } := (e1.trans e2).trans (Eff.push O _ s2.toks)
  have hs3 : ({ s2 with heap := s2.heap.push { cls := .type "dict", data := .dict #[] } } : Shared).heap.objs.size = s2.heap.objs.size + 1 := Heap.size_push ..
  have hsub := ok.sub _ _ _ hI
  have hN : ∀ b, (pv.a b ∨ b = s2.heap.objs.size) → s.heap.objs.size ≤ b ∧ b < ({ s2 with heap := s2.heap.push { cls := .type "dict", data := .dict #[] } } : Shared).heap.objs.size := fun b q => by
    rw [hs3]
    rcases q with q | rfl
    · exact ⟨hp b q, Nat.lt_succ_of_lt (hsub b q).2.2⟩
    · exact ⟨(e1.trans e2).size, Nat.lt_succ_self _⟩
  have X3 := Ctx.grow O X (e03.toP ⟨fun _ => False, fun _ => False⟩) (fun b q => q.elim) (fun b q => q.elim) hN
  have hobj : ({ s2 with heap := s2.heap.push { cls := .type "dict", data := .dict #[] } } : Shared).heap.DictOf (PySem.strKind B.prog B.w) s2.heap.objs.size [] := Heap.DictOf.new _
  have e23 : Eff B s2 { s2 with heap := s2.heap.push { cls := .type "dict", data := .dict #[] } } := Eff.push O _ s2.toks
  generalize hS3 : ({ s2 with heap := s2.heap.push { cls := .type "dict", data := .dict #[] } } : Shared) = s3 at *
  have hhi : B.h₀.objs.size ≤ s2.heap.objs.size := Nat.le_trans X.good.size (e1.trans e2).size
  refine comp_env O hsc X3 fun s4 cenv X4 e34 hz4 hL => ?_
  have e24 := e23.trans e34
  have e04 := e03.trans e34
  have hD4 : s4.heap.DictOf (PySem.strKind B.prog B.w) s2.heap.objs.size [] := by
    obtain ⟨o, es, ep, ho, r⟩ := hobj
    exact ⟨o, es, ep, e34.keep _ _ (kept_nT O hhi) ho, r⟩
  have I4 : I items pv s4 := ok.stay _ _ _ _ hI (fun b o nt _ z => e24.keep b o nt z) e24.ck e24.size (fun i y _ z => e24.gens i y z) X4.good
  have hDp : ¬ pv.a s2.heap.objs.size := fun q => Nat.lt_irrefl _ (hsub _ q).2.2
  refine compStart_at O (g := ⟨t.py B.nm, itE.py B.nm, [], 0⟩) rfl rfl rfl rfl rfl ok I4 X4.good R20 ?_
  have hs23 : s2.heap.objs.size < s3.heap.objs.size := by rw [hs3]; exact Nat.lt_succ_self _
  refine dloop_ok O (Z := fun b => s3.heap.objs.size ≤ b ∧ b < s4.heap.objs.size) hz4 RK R20 hk hv ok items (ρ.cut sc) l _ s4 _ _ pv [] hl ?_ X4 I4 ?_ ?_ hD4 (.inr (.inr rfl)) hhi hDp (by simpa using hlim) hkeys (by simpa using hnd) ?_
  · intro b q
    refine ⟨.inr q, fun w => ?_⟩
    exact Nat.lt_irrefl _ (Nat.lt_of_lt_of_le (X3.wlt b (X3.cW b w)) q.1)
  · intro b q
    obtain ⟨f1, f2⟩ := hF b q
    refine ⟨fun w => ?_, Nat.lt_of_lt_of_le f2 e24.size⟩
    rcases w with (w | w | w) | w
    · exact f1 w
    · exact (hsub b w).1 q
    · subst w; exact Nat.lt_irrefl _ f2
    · exact Nat.lt_irrefl _ (Nat.lt_of_lt_of_le (Nat.lt_trans f2 hs23) w.1)
  · intro b q
    exact ⟨.inr (.inl q), Nat.le_trans X.good.size (hp b q)⟩
  · intro s' Wc' W' dv X' g' hD' r' e'
    have fin : Eff B s s' := EffP.toEff e04 e' (fun b q => by
      rcases q with q | q | rfl
      · exact Nat.le_trans e03.size q.1
      · exact hp b q
      · exact (e1.trans e2).size) (fun i q => hg i q)
    have hLW : (orP (orP W fun b => pv.a b ∨ b = s2.heap.objs.size) fun b => s3.heap.objs.size ≤ b ∧ b < s4.heap.objs.size) cenv.locals := X4.locW.1
    obtain ⟨m, hm⟩ := X'.loc
    have hCs : s.heap.objs.size ≤ cenv.locals := Nat.le_trans e03.size hL
    refine ⟨m, hm, fun h' hs' => ?_⟩
    have ec : EffP B ⟨fun b => b = cenv.locals, fun _ => False⟩ s' { s' with heap := h' } :=
      eff_at O (s := s') (h' := h') (t := s'.toks) (a := cenv.locals) (fun t => Nat.lt_irrefl _ (Nat.lt_of_lt_of_le (X.wlt _ (X.tW' _ t)) hCs)) (ns_nc hm) hs'
    have ef : Eff B s { s' with heap := h' } := EffP.toEff fin ec (fun b q => q ▸ hCs) (fun i q => q.elim)
    refine ⟨ef, ?_⟩
    have hne : s2.heap.objs.size ≠ cenv.locals := fun q => by
      rw [← q] at hL
      exact Nat.lt_irrefl _ (Nat.lt_of_lt_of_le hs23 hL)
    simp only [RPost, Rep]
    have hlen := RepAll.length r'
    rw [List.length_map] at hlen
    refine ⟨s2.heap.objs.size, l.map fun q => keyStr q.1, dv, rfl, fun w => Nat.lt_irrefl _ (Nat.lt_of_lt_of_le (X.wlt _ w) (e1.trans e2).size), ?_, ?_, ?_, ?_, ?_, ?_⟩
    · have := O.sysm
      rw [beq_eq_false_iff_ne]
      intro q
      rw [q] at hhi
      exact Nat.lt_irrefl _ (Nat.lt_of_lt_of_le this hhi)
    · obtain ⟨o, es, ep, ho, rr⟩ := hD'
      refine ⟨o, es, ep, ec.keep _ _ (kept_nT O hhi) hne ho, ?_⟩
      simpa using rr
    · rw [List.map_map]
      refine List.map_congr_left fun q hq => ?_
      obtain ⟨x, hx⟩ := hkeys q hq
      simp [hx, keyStr]
    · simp [hlen]
    · rw [List.length_map]; unfold lim; lia
    · exact RepAll.move O (ec.kW (W := orP W fun b => b = cenv.locals) (fun b t => .inl (X.tW' _ t)) fun b w => .inr w) (fun b q => .inl (.inl q)) _ _ (RepAll.less O r' fun b q => q.elim (fun q => g'.w b (.inl (.inl q))) fun q => q ▸ g'.w _ hLW)
end
end Mine
namespace Mine
variable {B : Bs}
structure Lm where
  id : Nat
  f : Nat
  ps : List (Nat × Pos)
  body : E
  sc : List (Nat × NameKind)
mutual
noncomputable def E.lms : E → List Lm
  | .bin a _ b _ => a.lms ++ b.lms
  | .cmp a _ b _ => a.lms ++ b.lms
  | .cmp2 a _ b _ c _ => a.lms ++ (b.lms ++ c.lms)
  | .bop _ es _ => lmsL es
  | .not a _ => a.lms
  | .ife t a b _ => t.lms ++ (a.lms ++ b.lms)
  | .idx a i _ => a.lms ++ i.lms
  | .slc a lo hi _ _ => a.lms ++ (lmsO lo ++ lmsO hi)
  | .rev a _ _ _ _ => a.lms
  | .list es _ => lmsL es
  | .tup es _ _ => lmsL es
  | .attr a _ _ => a.lms
  | .comp elt gs _ _ => elt.lms ++ lmsG gs
  | .dcomp k v gs _ _ => k.lms ++ (v.lms ++ lmsG gs)
  | .call _ es _ _ => lmsL es
  | .callv _ es _ _ => lmsL es
  | .calle f es _ => f.lms ++ lmsL es
  | .blt _ es _ _ => lmsL es
  | .meth a _ es _ _ => a.lms ++ lmsL es
  | .lam id f ps body sc _ => [⟨id, f, ps, body, sc⟩]
  | _ => []
noncomputable def lmsL : List E → List Lm
  | [] => []
  | e :: r => e.lms ++ lmsL r
noncomputable def lmsO : Option E → List Lm
  | none => []
  | some e => e.lms
noncomputable def lmsG : List Gn → List Lm
  | [] => []
  | .mk _ it ifs :: r => it.lms ++ (lmsL ifs ++ lmsG r)
end
noncomputable def LmsOk (B : Bs) (l : List Lm) : Prop := ∀ x ∈ l, LamOk B x.id x.f x.ps x.body x.sc
noncomputable abbrev E.ok (B : Bs) (e : E) : Prop := LmsOk B e.lms
noncomputable abbrev okL (B : Bs) (es : List E) : Prop := LmsOk B (lmsL es)
noncomputable abbrev okO (B : Bs) (o : Option E) : Prop := LmsOk B (lmsO o)
noncomputable abbrev okG (B : Bs) (gs : List Gn) : Prop := LmsOk B (lmsG gs)
theorem lms1 {a b : List Lm} (h : LmsOk B (a ++ b)) : LmsOk B a := fun x hx => h x (List.mem_append_left _ hx)
theorem lms2 {a b : List Lm} (h : LmsOk B (a ++ b)) : LmsOk B b := fun x hx => h x (List.mem_append_right _ hx)
theorem lms0 : LmsOk B [] := fun x hx => nomatch hx
theorem okG_tl {g : Gn} {r : List Gn} (h : okG B (g :: r)) : okG B r := by cases g; exact lms2 (lms2 h)
section
variable (O : B.Ok) {K : Nat} {Φ : Phi}
include O
theorem sndL_of : ∀ es : List E, (∀ e ∈ es, Snd B K Φ e ∧ SndT B K Φ e) → SndL B K Φ es
  | [], _ => sndL_nil O
  | e :: r, h => sndL_cons O (h e List.mem_cons_self).1 (sndL_of r fun x hx => h x (List.mem_cons_of_mem _ hx))
theorem sndB_of (op : BoolOp) : ∀ es : List E, (∀ e ∈ es, Snd B K Φ e ∧ SndT B K Φ e) → SndB B K Φ op es
  | [], _ => sndB_nil O
  | e :: r, h => sndB_cons O (h e List.mem_cons_self).2 (sndB_of op r fun x hx => h x (List.mem_cons_of_mem _ hx))
theorem sndC_of : ∀ es : List E, (∀ e ∈ es, Snd B K Φ e ∧ SndT B K Φ e) → SndC B K Φ es
  | [], _ => sndC_nil O
  | e :: r, h => sndC_cons O (h e List.mem_cons_self).2 (sndC_of r fun x hx => h x (List.mem_cons_of_mem _ hx))
theorem noT {e : E} (h : ∀ Γ ρ, evT Φ Γ ρ e = none) : SndT B K Φ e := by
  intro Γ ρ b hb
  rw [h] at hb; exact nomatch hb
theorem noE' {e : E} (h : ∀ Γ ρ, ev Φ Γ ρ e = none) : Snd B K Φ e := by
  intro Γ ρ b hb
  rw [h] at hb; exact nomatch hb
noncomputable def GnS (B : Bs) (K : Nat) (Φ : Phi) : Gn → Prop
  | .mk _ it ifs => it.ok B → okL B ifs → Snd B K Φ it ∧ ∀ e ∈ ifs, Snd B K Φ e ∧ SndT B K Φ e
noncomputable def GsS (B : Bs) (K : Nat) (Φ : Phi) (gs : List Gn) : Prop := ∀ t it ifs, Gn.mk t it ifs ∈ gs → Snd B K Φ it ∧ ∀ e ∈ ifs, Snd B K Φ e ∧ SndT B K Φ e
theorem gsS_of {gs : List Gn} (h : GsS B K Φ gs) : SndGs B K Φ gs := fun t it ifs hm => ⟨(h t it ifs hm).1, sndC_of O ifs (h t it ifs hm).2⟩
theorem ev_comp0 {elt : E} {sc : List (Nat × NameKind)} {p : Pos} : Snd B K Φ (.comp elt [] sc p) := noE' O fun Γ _ => by rw [x_ev_comp]; split <;> rfl
theorem comp_of (hK : 24 ≤ K) {elt : E} {sc : List (Nat × NameKind)} {p : Pos} (h1 : Snd B K Φ elt) : ∀ gs : List Gn, GsS B K Φ gs → Snd B K Φ (.comp elt gs sc p)
  | [], _ => ev_comp0 O
  | .mk t it ifs :: r, h => snd_comp O (Nat.le_trans (by decide) hK) h1 (h t it ifs List.mem_cons_self).1 (sndC_of O ifs (h t it ifs List.mem_cons_self).2) (gsS_of O fun t' it' ifs' hm => h t' it' ifs' (List.mem_cons_of_mem _ hm))
theorem dcomp_no {k v : E} {gs : List Gn} {sc : List (Nat × NameKind)} {p : Pos} (h : ∀ t it, gs ≠ [.mk t it []]) : Snd B K Φ (.dcomp k v gs sc p) := noE' O fun Γ _ => by
  rw [x_ev_dcomp]
  split
  · split
    · exact absurd rfl (h _ _)
    · rfl
  · rfl
theorem dcomp_of (hK : 24 ≤ K) {k v : E} {sc : List (Nat × NameKind)} {p : Pos} (h1 : Snd B K Φ k) (h2 : Snd B K Φ v) : ∀ gs : List Gn, GsS B K Φ gs → Snd B K Φ (.dcomp k v gs sc p)
  | [], _ => dcomp_no O fun _ _ e => nomatch e
  | [.mk t it []], h => snd_dcomp O (Nat.le_trans (by decide) hK) h1 h2 (h t it [] List.mem_cons_self).1
  | .mk t it (a :: b) :: r, _ => dcomp_no O fun _ _ e => nomatch e
  | .mk t it [] :: g :: r, _ => dcomp_no O fun _ _ e => nomatch e
theorem snd (hK : 24 ≤ K) (P : PhiOk B K Φ) : ∀ e : E, e.ok B → Snd B K Φ e ∧ SndT B K Φ e :=
  E.rec (motive_1 := fun e => e.ok B → Snd B K Φ e ∧ SndT B K Φ e) (motive_2 := GnS B K Φ) (motive_3 := fun es => okL B es → ∀ e ∈ es, Snd B K Φ e ∧ SndT B K Φ e)
    (motive_4 := fun o => okO B o → ∀ e, o = some e → Snd B K Φ e) (motive_5 := fun gs => okG B gs → GsS B K Φ gs)
    (fun _ _ _ => ⟨snd_int O, noT O fun _ _ => rfl⟩)
    (fun _ _ _ => ⟨snd_str O, noT O fun _ _ => rfl⟩)
    (fun _ _ => ⟨snd_nil O, noT O fun _ _ => rfl⟩)
    (fun _ _ _ => ⟨snd_bool O, noT O fun _ _ => rfl⟩)
    (fun _ _ _ => ⟨snd_name O, sndT_name O⟩)
    (fun _ _ _ _ ia ib h => ⟨snd_bin O (ia (lms1 h)).1 (ib (lms2 h)).1, noT O fun _ _ => rfl⟩)
    (fun _ _ _ _ ia ib h => ⟨snd_cmp O (ia (lms1 h)).1 (ib (lms2 h)).1, sndT_cmp O (ia (lms1 h)).1 (ib (lms2 h)).1⟩)
    (fun _ _ _ _ _ _ ia ib ic h => ⟨snd_cmp2 O (ia (lms1 h)).1 (ib (lms1 (lms2 h))).1 (ic (lms2 (lms2 h))).1, sndT_cmp2 O (ia (lms1 h)).1 (ib (lms1 (lms2 h))).1 (ic (lms2 (lms2 h))).1⟩)
    (fun op es _ ies h => ⟨snd_or O (fun e he => (ies h e he).1), sndT_bop O (sndB_of O op es (ies h))⟩)
    (fun _ _ ia h => ⟨noE' O fun _ _ => rfl, sndT_not O (ia h).2⟩)
    (fun _ _ _ _ => ⟨snd_neg O, noT O fun _ _ => rfl⟩)
    (fun _ _ _ _ it ia ib h => ⟨snd_ife O (it (lms1 h)).2 (ia (lms1 (lms2 h))).1 (ib (lms2 (lms2 h))).1, noT O fun _ _ => rfl⟩)
    (fun _ _ _ ia ib h => ⟨snd_idx O (ia (lms1 h)).1 (ib (lms2 h)).1, noT O fun _ _ => rfl⟩)
    (fun _ _ _ _ _ ia il ih h => ⟨snd_slc O (ia (lms1 h)).1 (il (lms1 (lms2 h))) (ih (lms2 (lms2 h))), noT O fun _ _ => rfl⟩)
    (fun _ _ _ _ _ ia h => ⟨snd_rev O (ia h).1, noT O fun _ _ => rfl⟩)
    (fun es _ ies h => ⟨snd_list O (sndL_of O es (ies h)), noT O fun _ _ => rfl⟩)
    (fun es _ _ ies h => ⟨snd_tup O (sndL_of O es (ies h)), noT O fun _ _ => rfl⟩)
    (fun _ _ _ ia h => ⟨snd_attr O (ia h).1, noT O fun _ _ => rfl⟩)
    (fun _ gs _ _ ie ig h => ⟨comp_of O hK (ie (lms1 h)).1 gs (ig (lms2 h)), noT O fun _ _ => rfl⟩)
    (fun _ _ gs _ _ ik iv ig h => ⟨dcomp_of O hK (ik (lms1 h)).1 (iv (lms1 (lms2 h))).1 gs (ig (lms2 (lms2 h))), noT O fun _ _ => rfl⟩)
    (fun _ es _ _ ies h => ⟨snd_call O P (sndL_of O es (ies h)), sndT_call O P (sndL_of O es (ies h))⟩)
    (fun _ es _ _ ies h => ⟨snd_callv O P (sndL_of O es (ies h)), noT O fun _ _ => rfl⟩)
    (fun _ es _ ia ies h => ⟨snd_calle O P (ia (lms1 h)).1 (sndL_of O es (ies (lms2 h))), noT O fun _ _ => rfl⟩)
    (fun _ es _ _ ies h => ⟨snd_blt O hK (fun e he => by subst he; exact (ies h e List.mem_cons_self).1), noT O fun _ _ => rfl⟩)
    (fun _ _ es _ _ ia ies h => ⟨snd_meth O (ia (lms1 h)).1 (fun e he => by subst he; exact (ies (lms2 h) e List.mem_cons_self).1), noT O fun _ _ => rfl⟩)
    (fun _ _ _ _ _ _ _ h => ⟨snd_lam O (h _ List.mem_cons_self), noT O fun _ _ => rfl⟩)
    (fun _ _ ifs ii il h1 h2 => ⟨(ii h1).1, il h2⟩)
    (fun _ e he => nomatch he)
    (fun _ _ ia ir h e he => (List.mem_cons.mp he).elim (fun q => q ▸ ia (lms1 h)) fun q => ir (lms2 h) e q)
    (fun _ _ q => nomatch q)
    (fun _ ia h e q => Option.some.inj q ▸ (ia h).1)
    (fun _ _ _ _ hm => nomatch hm)
    (fun g _ ig ir h t it ifs hm => (List.mem_cons.mp hm).elim (fun q => by subst q; exact ig (lms1 h) (lms1 (lms2 h))) fun q => ir (okG_tl h) t it ifs q)
theorem sndM (hK : 24 ≤ K) (P : PhiOk B K Φ) : ∀ es : List E, okL B es → ∀ e ∈ es, Snd B K Φ e ∧ SndT B K Φ e
  | [], _, e, he => nomatch he
  | a :: r, h, e, he => (List.mem_cons.mp he).elim (fun q => q ▸ snd O hK P a (lms1 h)) fun q => sndM hK P r (lms2 h) e q
theorem sndG (hK : 24 ≤ K) (P : PhiOk B K Φ) : ∀ gs : List Gn, okG B gs → SndGs B K Φ gs
  | [], _, t, it, ifs, hm => nomatch hm
  | .mk t' it' ifs' :: r, h, t, it, ifs, hm => (List.mem_cons.mp hm).elim (fun q => by cases q; exact ⟨(snd O hK P it' (lms1 h)).1, sndC_of O ifs' (sndM O hK P ifs' (lms1 (lms2 h)))⟩) fun q => sndG hK P r (lms2 (lms2 h)) t it ifs q
end
end Mine
namespace Mine
inductive Out where
  | nx (ρ : REnv)
  | rt (d : D)
noncomputable def Kinds.mine (Γ : Kinds) (ρ : REnv) (x : Nat) : Bool := (Γ x == some .local || Γ x == some .cell) && (match ρ x with | some (.sealed _) => false | _ => true)
noncomputable def E.isDc : E → Bool
  | .dcomp .. => true
  | _ => false
noncomputable def E.notConst : E → Bool
  | .name .. => true
  | .call .. => true
  | .callv .. => true
  | .calle .. => true
  | .comp .. => true
  | .list .. => true
  | .blt .. => true
  | .meth .. => true
  | _ => false
noncomputable def setAll (xs : List (Nat × Pos)) (ds : List D) (ρ : REnv) : REnv := (xs.zip ds).foldl (fun ρ q => ρ.set q.1.1 (.fz q.2)) ρ
noncomputable def bindS (Γ : Kinds) : Tg → D → REnv → Option REnv
  | .name x _, d, ρ => if Γ.mine ρ x then some (ρ.set x (.fz d)) else none
  | .tup xs _ _, .tup ds, ρ => if xs.length = ds.length ∧ xs.all fun q => Γ.mine ρ q.1 then some (setAll xs ds ρ) else none
  | _, _, _ => none
noncomputable def evFor (Γ : Kinds) (t : Tg) (body : REnv → Option Out) : REnv → List D → Option Out
  | ρ, [] => some (.nx ρ)
  | ρ, d :: r => do
    let ρ1 ← bindS Γ t d ρ
    match ← body ρ1 with
    | .nx ρ2 => evFor Γ t body ρ2 r
    | .rt d => some (.rt d)
noncomputable def evWh (c : REnv → Option Bool) (body : REnv → Option Out) : Nat → REnv → Option Out
  | 0, _ => none
  | n + 1, ρ => do
    let t ← c ρ
    if t then (do
      match ← body ρ with
      | .nx ρ2 => evWh c body n ρ2
      | .rt d => some (.rt d))
    else some (.nx ρ)
noncomputable def addAt (l : List D) (j y : D) : Option (List D) := match j, y with
  | .int j, .int y => if 0 ≤ j ∧ j < l.length then (match l[j.toNat]? with
      | some (.int z) => some (l.set j.toNat (.int (z + y)))
      | _ => none) else none
  | _, _ => none
noncomputable def subL (t a b : List Nat) : List Nat := (Txt.replace ⟨t.toArray⟩ ⟨a.toArray⟩ ⟨b.toArray⟩).cps.toList
section
variable (Φ : Phi) (N : Nat) (Γ : Kinds)
mutual
noncomputable def evSt (ρ : REnv) : St → Option Out
  | .asg x e _ _ => do
    let d ← (← ev Φ Γ ρ e).asD
    if Γ.mine ρ x && !e.isDc then some (.nx (ρ.set x (.fz d))) else none
  | .own x e _ _ => match e with
    | .list es _ => do
      let l ← evL Φ Γ ρ es
      if Γ.mine ρ x ∧ l.length ≤ lim then some (.nx (ρ.set x (.own l))) else none
    | _ => none
  | .asgT xs _ e _ _ => match e with
    | .tup es _ _ => do
      let l ← evL Φ Γ ρ es
      if xs.length = l.length ∧ es.any E.notConst ∧ (xs.map (·.1)).Nodup ∧ xs.all (fun q => Γ.mine ρ q.1) ∧ l.length ≤ lim then some (.nx (setAll xs l ρ)) else none
    | _ => none
  | .augN x op e _ _ => match ρ x, op with
    | some (.fz d), .Add => do
      let y ← (← ev Φ Γ ρ e).asD
      match d with
      | .int _ => do
        let z ← D.bin .Add d y
        if Γ.mine ρ x then some (.nx (ρ.set x (.fz z))) else none
      | .str _ => do
        let z ← D.bin .Add d y
        if Γ.mine ρ x then some (.nx (ρ.set x (.fz z))) else none
      | _ => none
    | _, _ => none
  | .augI x i op e _ _ _ => match ρ x, op with
    | some (.own l), .Add => do
      let j ← (← ev Φ Γ ρ i).asD
      let y ← (← ev Φ Γ ρ e).asD
      (addAt l j y).map fun l' => .nx (ρ.set x (.own l'))
    | _, _ => none
  | .app x e _ ap cp _ => match ρ x with
    | some (.own l) => if ap.endLine == cp.line then do
        let y ← (← ev Φ Γ ρ e).asD
        if l.length < lim then some (.nx (ρ.set x (.own (l ++ [y])))) else none
      else none
    | _ => none
  | .setI .. => none
  | .raw _ => none
  | .defS x id f _ _ sc _ _ => if scOk Γ sc ∧ f ≠ 0 ∧ Γ.f = f ∧ Γ.mine ρ x then do
      let caps ← (freeOf sc).mapM fun x => match ρ x with | some (.sealed d) => some d | _ => none
      some (.nx (ρ.set x (.fz (.lam id caps))))
    else none
  | .forS t it body _ => do
    let items ← (← ev Φ Γ ρ it).asI
    evFor Γ t (fun ρ => evSs ρ body) ρ items
  | .whl c body _ => evWh (fun ρ => evT Φ Γ ρ c) (fun ρ => evSs ρ body) N ρ
  | .ifS c a b _ => do
    let t ← evT Φ Γ ρ c
    if t then evSs ρ a else evSs ρ b
  | .ret e _ => do
    let d ← (← ev Φ Γ ρ e).asD
    some (.rt d)
  | .tryS body hs _ => if hs.isEmpty then none else evSs ρ body
  | .frz x => match ρ x with
    | some (.own l) => some (.nx (ρ.set x (.fz (.list l))))
    | _ => none
  | .sub x a b _ _ _ _ _ q6 _ _ q9 _ _ => match ρ x with
    | some (.fz (.str t)) => if Γ.mine ρ x ∧ a ≠ b ∧ t.length + (t.length + 1) * b.length ≤ 16777216 ∧ (subL t a b).length ≤ lim ∧ q6.endLine = q9.line then
        some (.nx (if Txt.contains ⟨t.toArray⟩ ⟨a.toArray⟩ then ρ.set x (.fz (.str (subL t a b))) else ρ))
      else none
    | _ => none
  | .seal x => match ρ x with
    | some (.fz d) => if Γ x = some .cell then some (.nx (ρ.set x (.sealed d))) else none
    | _ => none
noncomputable def evSs (ρ : REnv) : List St → Option Out
  | [] => some (.nx ρ)
  | s :: r => do
    match ← evSt ρ s with
    | .nx ρ' => evSs ρ' r
    | .rt d => some (.rt d)
end
end
section
variable {Φ : Phi} {N : Nat} {Γ : Kinds} {ρ : REnv}
theorem x_evSs_nil  : evSs Φ N Γ ρ [] = (some (.nx ρ)) := rfl
theorem x_evSs_cons {s r} : evSs Φ N Γ ρ (s :: r) = (do
    match ← evSt Φ N Γ ρ s with
    | .nx ρ' => evSs Φ N Γ ρ' r
    | .rt d => some (.rt d)) := rfl
theorem x_evFor_nil {t body} : evFor Γ t body ρ [] = some (.nx ρ) := rfl
theorem x_evFor_cons {t body d r} : evFor Γ t body ρ (d :: r) = (do
    let ρ1 ← bindS Γ t d ρ
    match ← body ρ1 with
    | .nx ρ2 => evFor Γ t body ρ2 r
    | .rt d => some (.rt d)) := rfl
theorem x_evSt_asg {x e u1 u2} : evSt Φ N Γ ρ (.asg x e u1 u2) = (do
    let d ← (← ev Φ Γ ρ e).asD
    if Γ.mine ρ x && !e.isDc then some (.nx (ρ.set x (.fz d))) else none) := rfl
theorem x_evSt_own {x e u1 u2} : evSt Φ N Γ ρ (.own x e u1 u2) = (match e with
    | .list es _ => do
      let l ← evL Φ Γ ρ es
      if Γ.mine ρ x ∧ l.length ≤ lim then some (.nx (ρ.set x (.own l))) else none
    | _ => none) := rfl
theorem x_evSt_asgT {xs u1 e u2 u3} : evSt Φ N Γ ρ (.asgT xs u1 e u2 u3) = (match e with
    | .tup es _ _ => do
      let l ← evL Φ Γ ρ es
      if xs.length = l.length ∧ es.any E.notConst ∧ (xs.map (·.1)).Nodup ∧ xs.all (fun q => Γ.mine ρ q.1) ∧ l.length ≤ lim then some (.nx (setAll xs l ρ)) else none
    | _ => none) := rfl
theorem x_evSt_augN {x op e u1 u2} : evSt Φ N Γ ρ (.augN x op e u1 u2) = (match ρ x, op with
    | some (.fz d), .Add => do
      let y ← (← ev Φ Γ ρ e).asD
      match d with
      | .int _ => do
        let z ← D.bin .Add d y
        if Γ.mine ρ x then some (.nx (ρ.set x (.fz z))) else none
      | .str _ => do
        let z ← D.bin .Add d y
        if Γ.mine ρ x then some (.nx (ρ.set x (.fz z))) else none
      | _ => none
    | _, _ => none) := rfl
theorem x_evSt_augI {x i op e u1 u2 u3} : evSt Φ N Γ ρ (.augI x i op e u1 u2 u3) = (match ρ x, op with
    | some (.own l), .Add => do
      let j ← (← ev Φ Γ ρ i).asD
      let y ← (← ev Φ Γ ρ e).asD
      (addAt l j y).map fun l' => .nx (ρ.set x (.own l'))
    | _, _ => none) := rfl
theorem x_evSt_app {x e u1 ap cp u2} : evSt Φ N Γ ρ (.app x e u1 ap cp u2) = (match ρ x with
    | some (.own l) => if ap.endLine == cp.line then do
        let y ← (← ev Φ Γ ρ e).asD
        if l.length < lim then some (.nx (ρ.set x (.own (l ++ [y])))) else none
      else none
    | _ => none) := rfl
theorem x_evSt_raw {u1} : evSt Φ N Γ ρ (.raw u1) = (none) := rfl
theorem x_evSt_defS {x id f u1 u2 sc u3 u4} : evSt Φ N Γ ρ (.defS x id f u1 u2 sc u3 u4) = (if scOk Γ sc ∧ f ≠ 0 ∧ Γ.f = f ∧ Γ.mine ρ x then do
      let caps ← (freeOf sc).mapM fun x => match ρ x with | some (.sealed d) => some d | _ => none
      some (.nx (ρ.set x (.fz (.lam id caps))))
    else none) := rfl
theorem x_evSt_forS {t it body u1} : evSt Φ N Γ ρ (.forS t it body u1) = (do
    let items ← (← ev Φ Γ ρ it).asI
    evFor Γ t (fun ρ => evSs Φ N Γ ρ body) ρ items) := rfl
theorem x_evSt_whl {c body u1} : evSt Φ N Γ ρ (.whl c body u1) = (evWh (fun ρ => evT Φ Γ ρ c) (fun ρ => evSs Φ N Γ ρ body) N ρ) := rfl
theorem x_evSt_ifS {c a b u1} : evSt Φ N Γ ρ (.ifS c a b u1) = (do
    let t ← evT Φ Γ ρ c
    if t then evSs Φ N Γ ρ a else evSs Φ N Γ ρ b) := rfl
theorem x_evSt_ret {e u1} : evSt Φ N Γ ρ (.ret e u1) = (do
    let d ← (← ev Φ Γ ρ e).asD
    some (.rt d)) := rfl
theorem x_evSt_tryS {body hs u1} : evSt Φ N Γ ρ (.tryS body hs u1) = (if hs.isEmpty then none else evSs Φ N Γ ρ body) := rfl
theorem x_evSt_frz {x} : evSt Φ N Γ ρ (.frz x) = (match ρ x with
    | some (.own l) => some (.nx (ρ.set x (.fz (.list l))))
    | _ => none) := rfl
theorem x_evSt_sub {x a b u1 u2 u3 u4 u5 q6 u6 u7 q9 u8 u9} : evSt Φ N Γ ρ (.sub x a b u1 u2 u3 u4 u5 q6 u6 u7 q9 u8 u9) = (match ρ x with
    | some (.fz (.str t)) => if Γ.mine ρ x ∧ a ≠ b ∧ t.length + (t.length + 1) * b.length ≤ 16777216 ∧ (subL t a b).length ≤ lim ∧ q6.endLine = q9.line then
        some (.nx (if Txt.contains ⟨t.toArray⟩ ⟨a.toArray⟩ then ρ.set x (.fz (.str (subL t a b))) else ρ))
      else none
    | _ => none) := rfl
theorem x_evSt_seal {x} : evSt Φ N Γ ρ (.seal x) = (match ρ x with
    | some (.fz d) => if Γ x = some .cell then some (.nx (ρ.set x (.sealed d))) else none
    | _ => none) := rfl
end
end Mine
namespace Mine
variable {B : Bs}
structure SG (Wc W : Addr → Prop) (s : Shared) (Wc' W' : Addr → Prop) : Prop where
  c : ∀ b, Wc b → Wc' b
  new : ∀ b, W' b → W b ∨ s.heap.objs.size ≤ b
  own : ∀ b, W' b → ¬ Wc' b → (W b ∧ ¬ Wc b) ∨ s.heap.objs.size ≤ b
noncomputable def SK (B : Bs) (Γ : Kinds) (pe : Env) (Wc W : Addr → Prop) (s : Shared) (out : Out) (next : Shared → Prop) (ret : Value → Shared → Prop) : Prop := match out with
  | .nx ρ' => ∀ s' Wc' W', SG Wc W s Wc' W' → Ctx B Γ Wc' W' pe ρ' s' → EffP B (ownP W Wc) s s' → next s'
  | .rt d => ∀ v s', EffP B (ownP W Wc) s s' → Rep B s'.heap Wc d v → ret v s'
noncomputable def SndSt (B : Bs) (K : Nat) (Φ : Phi) (N : Nat) (st : St) : Prop := ∀ Γ ρ out, evSt Φ N Γ ρ st = some out → ∀ Wc W pe A s (Q : Flow → Shared → Prop) (E : Value → Shared → Prop) (rest : List Stmt), Ctx B Γ Wc W pe ρ s → Room A K →
  SK B Γ pe Wc W s out (fun s' => wpAny B.M A (execs rest pe) Q E s') (fun v s' => Q (.ret v) s') → wpAny B.M A (execs (St.py B.nm st ++ rest) pe) Q E s
noncomputable def SndSs (B : Bs) (K : Nat) (Φ : Phi) (N : Nat) (ss : List St) : Prop := ∀ Γ ρ out, evSs Φ N Γ ρ ss = some out → ∀ Wc W pe A s (Q : Flow → Shared → Prop) (E : Value → Shared → Prop), Ctx B Γ Wc W pe ρ s → Room A K →
  SK B Γ pe Wc W s out (fun s' => Q .next s') (fun v s' => Q (.ret v) s') → wpAny B.M A (execs (pyS B.nm ss) pe) Q E s
section
variable (O : B.Ok)
include O
variable {Γ : Kinds} {ρ : REnv} {Wc W : Addr → Prop} {pe : Env} {A : Around} {s s₀ : Shared} {K N : Nat} {Φ : Phi}
theorem SG.refl (Wc W : Addr → Prop) (s : Shared) : SG Wc W s Wc W := ⟨fun _ q => q, fun _ q => .inl q, fun _ a b => .inl ⟨a, b⟩⟩
theorem SG.trans {s' : Shared} {Wc1 W1 Wc2 W2 : Addr → Prop} (a : SG Wc W s Wc1 W1) (hs : s.heap.objs.size ≤ s'.heap.objs.size) (b : SG Wc1 W1 s' Wc2 W2) : SG Wc W s Wc2 W2 :=
  ⟨fun x q => b.c x (a.c x q), fun x q => (b.new x q).elim (a.new x) fun z => .inr (Nat.le_trans hs z), fun x q n => (b.own x q n).elim (fun z => a.own x z.1 z.2) fun z => .inr (Nat.le_trans hs z)⟩
theorem SG.eff {s' s'' : Shared} {Wc1 W1 : Addr → Prop} (a : SG Wc W s Wc1 W1) (e : EffP B (ownP W Wc) s s') (e' : EffP B (ownP W1 Wc1) s' s'') : EffP B (ownP W Wc) s s'' :=
  e.trans e' (fun b q => a.own b q.1 q.2) (fun i q => q.elim)
theorem SK.step {s' : Shared} {Wc1 W1 : Addr → Prop} {out : Out} {next : Shared → Prop} {ret : Value → Shared → Prop} (a : SG Wc W s Wc1 W1) (e : EffP B (ownP W Wc) s s') (X : Ctx B Γ Wc1 W1 pe ρ s') (k : SK B Γ pe Wc W s out next ret) : SK B Γ pe Wc1 W1 s' out next ret := by
  cases out with
  | nx ρ' => exact fun s2 Wc2 W2 g X2 e2 => k s2 Wc2 W2 (SG.trans O a e.size g) X2 (SG.eff O a e e2)
  | rt d => exact fun v s2 e2 r => k v s2 (SG.eff O a e e2) (Rep.less O r a.c)
theorem mine_iff {x : Nat} (h : Γ.mine ρ x = true) : (Γ x = some .local ∨ Γ x = some .cell) ∧ ¬ isSealed ρ x := by
  simp only [Kinds.mine, Bool.and_eq_true, Bool.or_eq_true, beq_iff_eq] at h
  refine ⟨h.1, fun ⟨d, e⟩ => ?_⟩
  rw [e] at h
  exact absurd h.2 (by simp)
theorem z_own {x : Nat} (X : Ctx B Γ Wc W pe ρ s) (hs : ¬ isSealed ρ x) : ∀ b, (zP B pe x).a b → W b ∧ ¬ Wc b := fun b q => by
  rcases q with rfl | q
  · exact X.locW
  · exact (X.cellW x b q).resolve_left hs
theorem ss_nil : SndSs B K Φ N [] := by
  intro Γ ρ out h Wc W pe A s Q E X R k
  simp only [x_evSs_nil, Option.some.injEq] at h
  subst h
  exact wpAny_execs_nil (k s Wc W (SG.refl O _ _ _) X (EffP.refl _ _))
theorem ss_cons {st : St} {ss : List St} (h1 : SndSt B K Φ N st) (h2 : SndSs B K Φ N ss) : SndSs B K Φ N (st :: ss) := by
  intro Γ ρ out h Wc W pe A s Q E X R k
  simp only [x_evSs_cons, Option.bind_eq_bind, Option.bind_eq_some_iff] at h
  obtain ⟨o1, ho1, h⟩ := h
  refine h1 Γ ρ o1 ho1 Wc W pe A s Q E (pyS B.nm ss) X R ?_
  cases o1 with
  | nx ρ' =>
    intro s1 Wc1 W1 g1 X1 e1
    exact h2 Γ ρ' out h Wc1 W1 pe A s1 Q E X1 R (SK.step O g1 e1 X1 k)
  | rt d =>
    replace h := Option.some.inj h
    subst h
    exact k
theorem py_noswap (nm : Nat → Str) (e : E) (hc : ∀ a b c d, e ≠ .comp a b c d) (hd : ∀ a b c d f, e ≠ .dcomp a b c d f) (t : Option Expr) (l : Nat) (env : Env) : swapsWith (e.py nm) t l env = pure false := by
  cases e <;> first | rfl | exact absurd rfl (hc _ _ _ _) | exact absurd rfl (hd _ _ _ _ _)
theorem asg_plain {x : Nat} {e : E} {d : D} {r : Mine.R} {xp p : Pos} {Q : Flow → Shared → Prop} {Ex : Value → Shared → Prop} {rest : List Stmt} (he : Snd B K Φ e) (h1 : ev Φ Γ ρ e = some r) (hd : r.asD = some d) (hm : Γ.mine ρ x = true) (X : Ctx B Γ Wc W pe ρ s) (R : Room A K)
    (hs : swapsWith (e.py B.nm) (some (.Name (B.nm x) xp)) p.line pe = pure false) (k : SK B Γ pe Wc W s (.nx (ρ.set x (.fz d))) (fun s' => wpAny B.M A (execs rest pe) Q Ex s') (fun v s' => Q (.ret v) s')) :
    wpAny B.M A (execs (.Assign [.Name (B.nm x) xp] (e.py B.nm) p :: rest) pe) Q Ex s := by
  obtain ⟨hk, hns⟩ := mine_iff O hm
  refine wpAny_execs_cons (wpAny_Assign_Name (useD O he h1 hd X R fun v s1 e1 X1 q1 => Ctx.store O X1 hk hns q1 fun s2 X2 e2 => ?_) hs)
  exact k s2 Wc W (SG.refl O _ _ _) X2 ((e1.toP _).trans e2 (fun b q => .inl (z_own O X1 hns b q)) fun i q => q.elim)
theorem st_asg {x : Nat} {e : E} {xp p : Pos} (hK : 20 ≤ K) (he : Snd B K Φ e) (hcomp : ∀ elt t it ifs r sc cp, e = .comp elt (.mk t it ifs :: r) sc cp → Snd B K Φ elt ∧ Snd B K Φ it ∧ SndC B K Φ ifs ∧ SndGs B K Φ r) : SndSt B K Φ N (.asg x e xp p) := by
  intro Γ ρ out h Wc W pe A s Q Ex rest X R k
  have R20 : Room A (K - 4) := R.less (Nat.sub_le _ _)
  simp only [x_evSt_asg, Option.bind_eq_bind, Option.bind_eq_some_iff] at h
  obtain ⟨r, h1, d, hd, h⟩ := h
  split at h
  case isFalse => exact nomatch h
  rename_i hm
  simp only [Bool.and_eq_true, Bool.not_eq_true'] at hm
  obtain ⟨hm, hdc⟩ := hm
  obtain rfl := Option.some.inj h
  show wpAny B.M A (execs (.Assign [.Name (B.nm x) xp] (e.py B.nm) p :: rest) pe) Q Ex s
  by_cases hc : ∃ a b c d, e = .comp a b c d
  · obtain ⟨elt, gs, sc, cp, rfl⟩ := hc
    have hsw : ∃ b, swapsWith ((E.comp elt gs sc cp).py B.nm) (some (.Name (B.nm x) xp)) p.line pe = pure b := ⟨_, rfl⟩
    obtain ⟨b, hb⟩ := hsw
    cases b with
    | false => exact asg_plain O he h1 hd hm X R hb k
    | true =>
      obtain ⟨hk, hns⟩ := mine_iff O hm
      rw [x_ev_comp] at h1
      split at h1
      case isFalse => exact nomatch h1
      rename_i hsc
      cases gs with
      | nil => cases h1
      | cons g rr =>
        obtain ⟨t, itE, ifs⟩ := g
        obtain ⟨k1, k2, k3, k4⟩ := hcomp _ _ _ _ _ _ _ rfl
        simp only [Option.bind_eq_bind, Option.bind_eq_some_iff, Option.map_eq_some_iff, mkL] at h1
        obtain ⟨r1, h2, items, hi, l, hl, d', hd', rfl⟩ := h1
        split at hd'
        case isFalse => exact nomatch hd'
        rename_i hlim
        obtain rfl := Option.some.inj hd'
        obtain rfl := Option.some.inj hd
        refine wpAny_execs_cons ?_
        rw [x_py_comp] at hb ⊢
        rw [exec_Assign_Name_used _ _ _ _ hb]
        refine wpAny_bind (wpAny_standAt (wpAny_bind ?_))
        show wpAny B.M A (do let _ ← comprehension (.ListComp (elt.py B.nm) (pyG B.nm (.mk t itE ifs :: rr)) (scOf B.nm sc) cp) (scOf B.nm sc) pe (firstIterPos (pyG B.nm (.mk t itE ifs :: rr)) cp) (newList []) false (eval (itE.py B.nm) pe) (some (assign (.Name (B.nm x) xp) pe))) _ _ s
        refine wpAny_bind (wpAny_mono (comp_walk O (use := some (assign (.Name (B.nm x) xp) pe)) (Ex := Ex) (Q := fun _ s' => wpAny B.M A (execs rest pe) Q Ex s') R R20 k1 k2 k3 k4 (scOk_iff O hsc) X h2 hi hl hlim fun s' a C e X' ra ha hC hns' hlt hne => ?_) (fun _ s' hq => wpAny_pure (wpAny_pure hq)) fun _ _ e => e)
        show wpAny B.M A (assign (.Name (B.nm x) xp) pe (.ref a)) _ _ s'
        have XC := Ctx.grow O X (e.toP ⟨fun _ => False, fun _ => False⟩) (fun b q => q.elim) (fun b q => q.elim) (N := fun b => b = C) (fun b q => by subst q; exact ⟨hC, hlt⟩)
        refine wpAny_assign_Name (Ctx.store O XC hk hns ra fun s2 X2 e2 => ?_)
        obtain ⟨m, hm'⟩ := hns'
        have zn : ¬ (zP B pe x).a C := fun q => (z_own O XC hns C q).2 (.inr rfl)
        have nTC : ¬ B.T C := fun t => Nat.lt_irrefl _ (Nat.lt_of_lt_of_le (X.wlt _ (X.tW' _ t)) hC)
        have hm2 : s2.heap.Ns C m := Heap.Ns.moved hm' fun o z => e2.keep C o nTC zn z
        refine ⟨m, hm2, fun h' hs' => ?_⟩
        have ec : EffP B ⟨fun b => b = C, fun _ => False⟩ s2 { s2 with heap := h' } := eff_at O (s := s2) (h' := h') (t := s2.toks) nTC (ns_nc hm2) hs'
        have X3 : Ctx B Γ _ _ pe _ { s2 with heap := h' } := Ctx.moveP O X2 ec (fun b q => .inr q) (fun b q => q ▸ Nat.le_trans X.good.size hC)
        refine k _ (orP Wc fun b => b = C) (orP W fun b => b = C) ⟨fun b q => .inl q, fun b q => q.imp_right fun (q : b = C) => q ▸ hC, fun b q n => .inl ⟨q.elim id fun z => absurd (.inr z) n, fun w => n (.inl w)⟩⟩ X3 ?_
        refine ((e.toP _).trans e2 (fun b q => .inl ?_) fun i q => q.elim).trans ec (fun b (q : b = C) => .inr (q ▸ hC)) fun i q => q.elim
        exact z_own O X hns b q
  · by_cases hc2 : ∃ a b c d f, e = .dcomp a b c d f
    · obtain ⟨a, b, c, dd, f, rfl⟩ := hc2
      cases hdc
    · exact asg_plain O he h1 hd hm X R (py_noswap O _ _ (fun a b c d q => hc ⟨a, b, c, d, q⟩) (fun a b c d f q => hc2 ⟨a, b, c, d, f, q⟩) _ _ _) k
theorem name_str {x : Nat} {p : Pos} {t : List Nat} (h : ρ x = some (.fz (.str t))) (X : Ctx B Γ Wc W pe ρ s) {E : Value → Shared → Prop} {Q : Value → Shared → Prop}
    (k : ∀ tk, t.length ≤ lim → Q (.str ⟨t.toArray⟩ tk) s) : wpAny B.M A (eval (.Name (B.nm x) p) pe) Q E s := by
  refine wpAny_Name ?_ (O.dbg x)
  obtain ⟨v, l, rv⟩ := X.vars x _ h
  refine Ctx.name O X l ?_ (O.cld x)
  simp only [EntRel, Rep] at rv
  obtain ⟨⟨tk, rfl⟩, hl⟩ := rv
  exact k tk hl
theorem replace_on {a b t : List Nat} {tk : Tok} {q7 q8 q9 : Pos} (hs : 0 < s.toks) (hab : a ≠ b) (hb : t.length + (t.length + 1) * b.length ≤ 16777216) {E : Value → Shared → Prop} {Q : Value → Shared → Prop}
    (k : ∀ t' n, Q (.str (Txt.replace ⟨t.toArray⟩ ⟨a.toArray⟩ ⟨b.toArray⟩) t') { s with toks := n }) :
    MethodOnS B.prog B.w A E (Str.ofString "replace") (.str ⟨t.toArray⟩ tk) q9 [(false, eval (.Constant (.str ⟨a.toArray⟩) 0 q7) pe), (false, eval (.Constant (.str ⟨b.toArray⟩) 0 q8) pe)] Q s := by
  refine ⟨"str", _, PySem.F.plainAttrs_str, PySem.F.slot_str_replace, PySem.F.type_str_replace, typeIs_str _ _ _, (fun _ e => nomatch e), ?_⟩
  refine Calls.callWith_builtin rfl (Calls.evalArgs_plain (Calls.spliced_cons (Constant_str (Calls.spliced_cons (Constant_str (Calls.spliced_nil ?_))))))
  refine wpAny_mono (SC.replace (x := ⟨t.toArray⟩) (y := ⟨a.toArray⟩) (z := ⟨b.toArray⟩) (t := tk) (u := s.toks) (v := s.toks + 1) (Q := Q) (E := E) (by show @Ne Nat _ _; lia) (by show @Ne Nat _ _; lia) (by show @Ne Nat _ _; lia) ?_ ?_ ?_) (fun _ _ h => h) fun _ _ h => h
  · simp only [beq_eq_false_iff_ne, ne_eq]
    intro e
    injection e with e
    exact hab (by simpa using congrArg Array.toList e)
  · simpa [Str.length] using hb
  · intro t' n
    exact k t' n
theorem sub_ok {x : Nat} {a b t : List Nat} {q1 q2 q3 q4 q5 q6 q7 q8 q9 q10 q11 : Pos} {Q : Flow → Shared → Prop} {Ex : Value → Shared → Prop} {rest : List Stmt} (h : ρ x = some (.fz (.str t))) (hm : Γ.mine ρ x = true) (hab : a ≠ b) (hb : t.length + (t.length + 1) * b.length ≤ 16777216)
    (hl : (subL t a b).length ≤ lim) (hline : (q6.endLine == q9.line) = true) (X : Ctx B Γ Wc W pe ρ s) (R : Room A K)
    (k : SK B Γ pe Wc W s (.nx (if Txt.contains ⟨t.toArray⟩ ⟨a.toArray⟩ then ρ.set x (.fz (.str (subL t a b))) else ρ)) (fun s' => wpAny B.M A (execs rest pe) Q Ex s') (fun v s' => Q (.ret v) s')) :
    wpAny B.M A (execs (St.py B.nm (.sub x a b q1 q2 q3 q4 q5 q6 q7 q8 q9 q10 q11) ++ rest) pe) Q Ex s := by
  obtain ⟨hk, hns⟩ := mine_iff O hm
  refine wpAny_execs_cons (wpAny_If (wpAny_isTrue_Compare1 (Constant_str ?_) rfl))
  have X1 : Ctx B Γ Wc W pe ρ { s with toks := s.toks + 1 } := X.move O (Eff.toks _)
  refine name_str O h X1 fun tk hlt => ?_
  refine SB.contains (wpAny_truthy_bool ?_)
  cases hc : Txt.contains ⟨t.toArray⟩ ⟨a.toArray⟩ with
  | false =>
    rw [hc] at k
    simp only [Bool.false_eq_true, if_false] at k ⊢
    exact wpAny_execs_nil (k _ Wc W (SG.refl O _ _ _) X1 ((Eff.toks _).toP _))
  | true =>
    rw [hc] at k
    simp only [if_true] at k ⊢
    refine wpAny_execs_cons (wpAny_Assign_Name (Call_method2 rfl rfl hline (name_str O h X1 fun tk' _ => replace_on O (by show 0 < s.toks + 1; lia) hab hb fun t' n => ?_)) rfl)
    have X2 : Ctx B Γ Wc W pe ρ { s with toks := n } := X.move O (Eff.toks _)
    refine Ctx.store O X2 hk hns (d := .str (subL t a b)) ?_ fun s3 X3 e3 => wpAny_execs_nil ?_
    · simp only [Rep]
      exact ⟨⟨t', by simp [subL]⟩, hl⟩
    · exact k s3 Wc W (SG.refl O _ _ _) X3 (((Eff.toks _).toP _).trans e3 (fun b q => .inl (z_own O X2 hns b q)) fun i q => q.elim)
theorem st_sub {x : Nat} {a b : List Nat} {q1 q2 q3 q4 q5 q6 q7 q8 q9 q10 q11 : Pos} : SndSt B K Φ N (.sub x a b q1 q2 q3 q4 q5 q6 q7 q8 q9 q10 q11) := by
  intro Γ ρ out h Wc W pe A s Q Ex rest X R k
  simp only [x_evSt_sub] at h
  split at h
  · rename_i t ht
    split at h
    · rename_i hc
      obtain rfl := Option.some.inj h
      exact sub_ok O ht hc.1 hc.2.1 hc.2.2.1 hc.2.2.2.1 (by simpa using hc.2.2.2.2) X R k
    · exact nomatch h
  · exact nomatch h
end
end Mine
namespace Mine
variable {B : Bs} {K : Nat}
section
variable (O : B.Ok)
include O
variable {Γ : Kinds} {ρ : REnv} {Wc W : Addr → Prop} {pe : Env} {A : Around} {s s₀ : Shared} {K N : Nat} {Φ : Phi}
theorem st_ret {e : E} {p : Pos} (he : Snd B K Φ e) : SndSt B K Φ N (.ret e p) := by
  intro Γ ρ out h Wc W pe A s Q Ex rest X R k
  simp only [x_evSt_ret, Option.bind_eq_bind, Option.bind_eq_some_iff, Option.some.injEq] at h
  obtain ⟨r, h1, d, hd, rfl⟩ := h
  exact wpAny_execs_cons (wpAny_Return_some (useD O he h1 hd X R fun v s1 e1 X1 q1 => k v s1 (e1.toP _) (Rep.less O q1 X.cW)))
theorem st_if {c : E} {a b : List St} {p : Pos} (hc : SndT B K Φ c) (ha : SndSs B K Φ N a) (hb : SndSs B K Φ N b) : SndSt B K Φ N (.ifS c a b p) := by
  intro Γ ρ out h Wc W pe A s Q Ex rest X R k
  simp only [x_evSt_ifS, Option.bind_eq_bind, Option.bind_eq_some_iff] at h
  obtain ⟨t, h1, h⟩ := h
  refine wpAny_execs_cons (wpAny_If (useT O hc h1 X R fun s1 e1 X1 => ?_))
  have k1 := SK.step O (SG.refl O Wc W s) (e1.toP _) X1 k
  cases t with
  | true =>
    simp only [if_true] at h ⊢
    exact ha _ _ _ h _ _ _ _ _ _ _ X1 R (by cases out <;> exact k1)
  | false =>
    simp only [Bool.false_eq_true, if_false] at h ⊢
    exact hb _ _ _ h _ _ _ _ _ _ _ X1 R (by cases out <;> exact k1)
theorem st_try {body : List St} {hs : List ExceptHandler} {p : Pos} (ha : SndSs B K Φ N body) : SndSt B K Φ N (.tryS body hs p) := by
  intro Γ ρ out h Wc W pe A s Q Ex rest X R k
  simp only [x_evSt_tryS] at h
  split at h
  · exact nomatch h
  rename_i hne
  cases hs with
  | nil => exact absurd rfl hne
  | cons h0 hr =>
    refine wpAny_execs_cons (wpAny_Try_except ?_)
    refine ha _ _ _ h _ _ _ _ _ _ _ X R ?_
    cases out with
    | nx ρ' => exact fun s' Wc' W' g X' e => wpAny_execs_nil (k s' Wc' W' g X' e)
    | rt d => exact k
noncomputable def FK (B : Bs) (Γ : Kinds) (pe : Env) (Wc W : Addr → Prop) (p : Pv) (s : Shared) (out : Out) (R : Result → Shared → Prop) : Prop := match out with
  | .nx ρ' => ∀ s' Wc' W', SG Wc W s Wc' W' → Ctx B Γ Wc' W' pe ρ' s' → EffP B ⟨fun b => (W b ∧ ¬ Wc b) ∨ p.a b, p.g⟩ s s' → R (.ok .next) s'
  | .rt d => ∀ v s', EffP B ⟨fun b => (W b ∧ ¬ Wc b) ∨ p.a b, p.g⟩ s s' → Rep B s'.heap Wc d v → R (.ok (.ret v)) s'
theorem bindS_ok {t : Tg} {d : D} {v : Value} {ρ' : REnv} {E : Value → Shared → Prop} {Q : Unit → Shared → Prop} (hh : A.handled = none) (hb : bindS Γ t d ρ = some ρ') (X : Ctx B Γ Wc W pe ρ s) (r : Rep B s.heap W d v)
    (k : ∀ s', Ctx B Γ Wc W pe ρ' s' → EffP B (ownP W Wc) s s' → Q () s') : wpAny B.M A (assign (t.py B.nm) pe v) Q E s := by
  cases t with
  | name x p =>
    simp only [bindS] at hb
    split at hb
    case isFalse => exact nomatch hb
    rename_i hm
    obtain rfl := Option.some.inj hb
    obtain ⟨hk, hns⟩ := mine_iff O hm
    exact wpAny_assign_Name (Ctx.store O X hk hns r fun s1 X1 e1 => k s1 X1 (e1.mono (z_own O X hns) fun i q => q))
  | tup xs kk p =>
    cases d <;> simp only [bindS, reduceCtorEq] at hb
    split at hb
    case isFalse => exact nomatch hb
    rename_i hm
    obtain rfl := Option.some.inj hb
    have hall := List.all_eq_true.mp hm.2
    exact untuple_ok O (Z := fun b => W b ∧ ¬ Wc b) hh hm.1 X (fun q hq => mine_iff O (hall q hq)) (fun b q => q.1) (fun q hq b z => z_own O X (mine_iff O (hall q hq)).2 b z) r fun s1 X1 e1 => k s1 X1 e1
theorem for_ok {t : Tg} {body : List St} (hbody : SndSs B K Φ N body) (RK : Room A K) (R20 : Room A (K - 4)) {it : Addr} {F : Addr → Prop} {I : List D → Pv → Shared → Prop} (ok : IterOk B K F it I) :
    ∀ (items : List D) (ρ : REnv) (out : Out) (R : Result → Shared → Prop) (s : Shared) (Wc W : Addr → Prop) (p : Pv), evFor Γ t (fun ρ => evSs Φ N Γ ρ body) ρ items = some out → Ctx B Γ Wc W pe ρ s → I items p s → (∀ b, F b → ¬ W b ∧ b < s.heap.objs.size) →
      (∀ b, p.a b → Wc b ∧ B.h₀.objs.size ≤ b) → FK B Γ pe Wc W p s out R → codeAny B.M A (.forLoop (t.py B.nm) (.ref it) (pyS B.nm body) [] pe) R s := by
  intro items
  induction items with
  | nil =>
    intro ρ out R s Wc W p hev X hI hF hp k
    simp only [x_evFor_nil, Option.some.injEq] at hev
    subst hev
    refine codeAny_of_tree ?_
    show wpAny _ A ((forTurn (t.py B.nm) (.ref it) (pyS B.nm body) [] pe).onRaise (fun x => do noteFrame x pe; theTreesLotGoes x)) _ _ s
    refine wpAny_noted ?_
    simp only [forTurn]
    refine wpAny_bind (wpAny_standAt (wpAny_bind (wpAny_onRaise (ok.done _ _ _ _ _ hI X.good R20 fun s1 e1 => ?_))))
    refine wpAny_pure ⟨rfl, codeAny_block (wpAny_execs_nil ?_)⟩
    exact k s1 Wc W (SG.refl O _ _ _) (Ctx.moveP O X e1 (fun b q => (hp b q).1) fun b q => (hp b q).2) (e1.mono (fun b q => .inr q) fun i q => q)
  | cons d rest ih =>
    intro ρ out R s Wc W p hev X hI hF hp k
    simp only [x_evFor_cons, Option.bind_eq_bind, Option.bind_eq_some_iff] at hev
    obtain ⟨ρ1, hb, o1, ho1, hrest⟩ := hev
    refine codeAny_of_tree ?_
    show wpAny _ A ((forTurn (t.py B.nm) (.ref it) (pyS B.nm body) [] pe).onRaise (fun x => do noteFrame x pe; theTreesLotGoes x)) _ _ s
    refine wpAny_noted ?_
    simp only [forTurn]
    refine wpAny_bind (wpAny_standAt (wpAny_bind (wpAny_onRaise (ok.next _ _ _ _ _ _ _ hI X.good R20 fun v s1 p1 e1 hsub hnew hg rv hI1 => ?_))))
    have hN : ∀ b, (p1.a b ∧ s.heap.objs.size ≤ b) → s.heap.objs.size ≤ b ∧ b < s1.heap.objs.size := fun b q => ⟨q.2, (ok.sub _ _ _ hI1 b q.1).2.2⟩
    have X1 := Ctx.grow O X e1 (fun b q => (hp b q).1) (fun b q => (hp b q).2) hN
    have g1 : Grown Wc W s (orP Wc fun b => p1.a b ∧ s.heap.objs.size ≤ b) (orP W fun b => p1.a b ∧ s.heap.objs.size ≤ b) := Grown.or O X.wlt fun b q => q.2
    have hp1 : ∀ b, p1.a b → (orP Wc fun b => p1.a b ∧ s.heap.objs.size ≤ b) b ∧ B.h₀.objs.size ≤ b := fun b q => by
      rcases hnew b q with z | z
      · exact ⟨.inl (hp b z).1, (hp b z).2⟩
      · exact ⟨.inr ⟨q, z⟩, Nat.le_trans X.good.size z⟩
    have hF1 : ∀ b, F b → ¬ (orP W fun b => p1.a b ∧ s.heap.objs.size ≤ b) b := fun b q z => z.elim (hF b q).1 fun z => Nat.lt_irrefl _ (Nat.lt_of_lt_of_le (hF b q).2 z.2)
    have rv1 : Rep B s1.heap (orP W fun b => p1.a b ∧ s.heap.objs.size ≤ b) d v := Rep.less O rv fun b q z => hF1 b z q
    generalize hWc1 : (orP Wc fun b => p1.a b ∧ s.heap.objs.size ≤ b) = Wc1 at *
    generalize hW1 : (orP W fun b => p1.a b ∧ s.heap.objs.size ≤ b) = W1 at *
    have let_ok : ∀ {E : Value → Shared → Prop} {Q : Unit → Shared → Prop}, Q () s1 → wpAny B.M A (letOwnedTupleGo (t.py B.nm) (.ref it) v) Q E s1 := fun hQ => by
      cases t with
      | name y q => exact let_go_name hQ
      | tup xs kk q =>
        obtain ⟨T, hT, hok⟩ := ok.ty _ _ _ hI1
        exact let_go hT hok hQ
    refine wpAny_bind (let_ok (wpAny_bind (bindS_ok O R20.handled hb X1 rv1 fun s2 X2 e2 => ?_)))
    have own1 : ∀ b, W1 b ∧ ¬ Wc1 b → W b ∧ ¬ Wc b := fun b q => (g1.own b).mp q
    have e02 : EffP B ⟨fun b => (W b ∧ ¬ Wc b) ∨ p.a b, p.g⟩ s s2 := (e1.mono (p' := ⟨fun b => (W b ∧ ¬ Wc b) ∨ p.a b, p.g⟩) (fun b q => .inr q) fun i q => q).trans e2 (fun b q => .inl (.inl (own1 b q))) fun i q => q.elim
    refine wpAny_bind (hbody _ _ _ ho1 _ _ _ _ _ _ _ X2 RK ?_)
    cases o1 with
    | rt d' =>
      simp only [Option.some.injEq] at hrest
      subst hrest
      intro v' s3 e3 r3
      exact wpAny_pure (k v' s3 (e02.trans e3 (fun b q => .inl (.inl (own1 b q))) fun i q => q.elim) (Rep.less O r3 g1.c))
    | nx ρ2 =>
      intro s3 Wc3 W3 g3 X3 e3
      have e13 : EffP B (ownP W1 Wc1) s1 s3 := e2.trans e3 (fun b q => .inl q) fun i q => q.elim
      have I3 : I rest p1 s3 := by
        refine ok.stay _ _ _ _ hI1 (fun b o nt q z => e13.keep b o nt (fun w => ?_) z) e13.ck e13.size (fun i y q z => e13.gens i y (fun w => w.elim) z) X3.good
        rcases q with q | q
        · exact hF1 b q w.1
        · exact w.2 (hp1 b q).1
      have F3 : ∀ b, F b → ¬ W3 b ∧ b < s3.heap.objs.size := fun b q => ⟨fun z => (g3.new b z).elim (hF1 b q) fun z => Nat.lt_irrefl _ (Nat.lt_of_lt_of_le (hF b q).2 (Nat.le_trans e02.size z)), Nat.lt_of_lt_of_le (hF b q).2 (Nat.le_trans e02.size e3.size)⟩
      have e03 := e02.trans e3 (fun b q => .inl (.inl (own1 b q))) fun i q => q.elim
      have sg03 : SG Wc W s Wc3 W3 := ⟨fun b q => g3.c b (g1.c b q), fun b q => (g3.new b q).elim (g1.new b) fun z => .inr (Nat.le_trans e02.size z), fun b q n => (g3.own b q n).elim (fun z => .inl (own1 b z)) fun z => .inr (Nat.le_trans e02.size z)⟩
      refine wpAny_pure ⟨rfl, ih ρ2 out R s3 Wc3 W3 p1 hrest X3 I3 F3 (fun b q => ⟨g3.c b (hp1 b q).1, (hp1 b q).2⟩) ?_⟩
      have back : ∀ {s4 : Shared}, EffP B ⟨fun b => (W3 b ∧ ¬ Wc3 b) ∨ p1.a b, p1.g⟩ s3 s4 → EffP B ⟨fun b => (W b ∧ ¬ Wc b) ∨ p.a b, p.g⟩ s s4 := fun e4 => e03.trans e4 (fun b q => by
        rcases q with q | q
        · exact (sg03.own b q.1 q.2).imp .inl id
        · exact (hnew b q).imp .inr id) fun i q => .inl (by rw [← hg]; exact q)
      cases out with
      | nx ρ' => exact fun s4 Wc4 W4 g4 X4 e4 => k s4 Wc4 W4 (SG.trans O sg03 e03.size g4) X4 (back e4)
      | rt d' => exact fun v' s4 e4 r4 => k v' s4 (back e4) (Rep.less O r4 sg03.c)
theorem st_for {t : Tg} {itE : E} {body : List St} {p : Pos} (hK : 20 ≤ K) (hit : Snd B K Φ itE) (hbody : SndSs B K Φ N body) : SndSt B K Φ N (.forS t itE body p) := by
  intro Γ ρ out h Wc W pe A s Q Ex rest X R k
  have R20 : Room A (K - 4) := R.less (Nat.sub_le _ _)
  simp only [x_evSt_forS, Option.bind_eq_bind, Option.bind_eq_some_iff] at h
  obtain ⟨r, h1, items, hi, h⟩ := h
  refine wpAny_execs_cons (wpAny_For (useR O hit h1 X R fun v s1 e1 X1 q1 => iter_ok O hi X1.tW' X1.wlt X1.good R20 e1 q1 fun it F pv I s2 at2 hlen2 e2 => ?_) (fun x => py_fold O _ _ _ _))
  obtain ⟨ok, hI, hF, hp, hg⟩ := at2
  have e02 := e1.trans e2
  have hsub := ok.sub _ _ _ hI
  have X2 := Ctx.grow O X (e02.toP ⟨fun _ => False, fun _ => False⟩) (fun b q => q.elim) (fun b q => q.elim) (N := pv.a) (fun b q => ⟨hp b q, (hsub b q).2.2⟩)
  have g2 : Grown Wc W s (orP Wc pv.a) (orP W pv.a) := Grown.or O X.wlt hp
  have sg : SG Wc W s (orP Wc pv.a) (orP W pv.a) := ⟨g2.c, g2.new, fun b q n => .inl ((g2.own b).mp ⟨q, n⟩)⟩
  refine for_ok O hbody R R20 ok items ρ out _ s2 _ _ pv h X2 hI (fun b q => ⟨fun z => z.elim (hF b q).1 fun z => (hsub b z).1 q, (hF b q).2⟩) (fun b q => ⟨.inr q, Nat.le_trans X.good.size (hp b q)⟩) ?_
  have back : ∀ {s4 : Shared}, EffP B ⟨fun b => ((orP W pv.a) b ∧ ¬ (orP Wc pv.a) b) ∨ pv.a b, pv.g⟩ s2 s4 → EffP B (ownP W Wc) s s4 := fun e4 => (e02.toP _).trans e4 (fun b q => by
    rcases q with q | q
    · exact .inl ((g2.own b).mp q)
    · exact .inr (hp b q)) fun i q => .inr (hg i q)
  cases out with
  | nx ρ' => exact fun s4 Wc4 W4 g4 X4 e4 => k s4 Wc4 W4 (SG.trans O sg e02.size g4) X4 (back e4)
  | rt d => exact fun v' s4 e4 r4 => k v' s4 (back e4) (Rep.less O r4 sg.c)
theorem whl_ok {c : E} {body : List St} (hc : SndT B K Φ c) (hbody : SndSs B K Φ N body) (RK : Room A K) : ∀ (n : Nat) (ρ : REnv) (out : Out) (R : Result → Shared → Prop) (s : Shared) (Wc W : Addr → Prop), evWh (fun ρ => evT Φ Γ ρ c) (fun ρ => evSs Φ N Γ ρ body) n ρ = some out →
    Ctx B Γ Wc W pe ρ s → SK B Γ pe Wc W s out (fun s' => R (.ok .next) s') (fun v s' => R (.ok (.ret v)) s') → codeAny B.M A (.whileLoop (c.py B.nm) (pyS B.nm body) [] pe) R s := by
  intro n
  induction n with
  | zero => intro ρ out R s Wc W hev; exact nomatch hev
  | succ n ih =>
    intro ρ out R s Wc W hev X k
    simp only [evWh, Option.bind_eq_bind, Option.bind_eq_some_iff] at hev
    obtain ⟨t, ht, hev⟩ := hev
    refine codeAny_of_tree ?_
    show wpAny _ A ((whileTurn (c.py B.nm) (pyS B.nm body) [] pe).onRaise (fun x => do noteFrame x pe; theTreesLotGoes x)) _ _ s
    refine wpAny_noted ?_
    unfold whileTurn
    refine wpAny_bind (useT O hc ht X RK fun s1 e1 X1 => ?_)
    have k1 := SK.step O (SG.refl O Wc W s) (e1.toP _) X1 k
    cases t with
    | false =>
      simp only [Bool.false_eq_true, if_false, Option.some.injEq] at hev ⊢
      subst hev
      exact wpAny_bind (wpAny_execs_nil (wpAny_pure (k1 s1 Wc W (SG.refl O _ _ _) X1 (EffP.refl _ _))))
    | true =>
      simp only [if_true, Option.bind_eq_some_iff] at hev ⊢
      obtain ⟨o1, ho1, hrest⟩ := hev
      refine wpAny_bind (hbody _ _ _ ho1 _ _ _ _ _ _ _ X1 RK ?_)
      cases o1 with
      | rt d =>
        simp only [Option.some.injEq] at hrest
        subst hrest
        exact fun v s2 e2 r2 => wpAny_pure (k1 v s2 e2 r2)
      | nx ρ2 => exact fun s2 Wc2 W2 g2 X2 e2 => wpAny_pure ⟨rfl, ih ρ2 out R s2 Wc2 W2 hrest X2 (SK.step O g2 e2 X2 k1)⟩
theorem st_whl {c : E} {body : List St} {p : Pos} (hc : SndT B K Φ c) (hbody : SndSs B K Φ N body) : SndSt B K Φ N (.whl c body p) := by
  intro Γ ρ out h Wc W pe A s Q Ex rest X R k
  simp only [x_evSt_whl] at h
  exact wpAny_execs_cons (wpAny_While (whl_ok O hc hbody R N ρ out _ s Wc W h X (by cases out <;> exact k)))
end
end Mine
namespace Mine
variable {B : Bs}
section
variable (O : B.Ok)
include O
variable {Γ : Kinds} {ρ : REnv} {Wc W : Addr → Prop} {pe : Env} {A : Around} {s s₀ : Shared} {K N : Nat} {Φ : Phi}
theorem Ctx.growOwn {s' : Shared} {N : Addr → Prop} (X : Ctx B Γ Wc W pe ρ s) (e : Eff B s s') (hN : ∀ b, N b → s.heap.objs.size ≤ b ∧ b < s'.heap.objs.size) : Ctx B Γ Wc (orP W N) pe ρ s' := by
  have Y := Ctx.grow O X (e.toP ⟨fun _ => False, fun _ => False⟩) (fun b q => q.elim) (fun b q => q.elim) hN
  have nWc : ∀ b, N b → ¬ Wc b := fun b n w => Nat.lt_irrefl _ (Nat.lt_of_lt_of_le (X.wlt b (X.cW b w)) (hN b n).1)
  exact { Y with
    tW := X.tW
    cW := fun b q => .inl (X.cW b q)
    locW := ⟨.inl X.locW.1, X.locW.2⟩
    ow := fun b q n => q.elim (fun z => X.ow b z n) fun z => Nat.le_trans X.good.size (hN b z).1
    cellW := fun x c q => (X.cellW x c q).imp_right fun z => ⟨.inl z.1, z.2⟩
    vars := fun x en q => by
      obtain ⟨v, l, r⟩ := Y.vars x en q
      refine ⟨v, l, ?_⟩
      cases en with
      | fz d => exact r
      | sealed d => exact r
      | own l =>
        obtain ⟨a, vs, n, e, h1, h2, h3, h4, h5⟩ := r
        exact ⟨a, vs, n, e, h1, fun w => h2 (.inl w), h3, h4, h5⟩
      | ownD ks =>
        obtain ⟨a, e, h1, h2, h3, h4, h5⟩ := r
        exact ⟨a, e, h1, fun w => h2 (.inl w), h3, h4, h5⟩ }
theorem st_own {x : Nat} {es : List E} {lp xp p : Pos} (hs : SndL B K Φ es) : SndSt B K Φ N (.own x (.list es lp) xp p) := by
  intro Γ ρ out h Wc W pe A s Q Ex rest X R k
  simp only [x_evSt_own, Option.bind_eq_bind, Option.bind_eq_some_iff] at h
  obtain ⟨l, h1, h⟩ := h
  split at h
  case isFalse => exact nomatch h
  rename_i hc
  obtain ⟨hm, hl⟩ := hc
  obtain rfl := Option.some.inj h
  obtain ⟨hk, hns⟩ := mine_iff O hm
  refine wpAny_execs_cons (wpAny_Assign_Name ?_ rfl)
  show wpAny B.M A (eval (.List (pyL B.nm es) lp) pe) _ _ s
  refine List_ ?_
  rw [backTo_py O]
  refine useL O hs h1 X R fun vs s1 e1 X1 q1 => ?_
  refine wpAny_newObj_type ?_ (by show vs.toArray.size ≤ sizeLine; rw [List.size_toArray, RepAll.length q1]; exact sizeLine_lim hl)
  have e2 : Eff B s1 { s1 with heap := s1.heap.push { cls := .type "list", data := .seq vs.toArray } } := Eff.push O _ s1.toks
  have hsz : ({ s1 with heap := s1.heap.push { cls := .type "list", data := .seq vs.toArray } } : Shared).heap.objs.size = s1.heap.objs.size + 1 := Heap.size_push ..
  have X2 := Ctx.growOwn O X1 e2 (N := fun b => b = s1.heap.objs.size) (fun b q => by rw [hsz, q]; exact ⟨Nat.le_refl _, Nat.lt_succ_self _⟩)
  have hfresh : ∀ b, W b → b < s1.heap.objs.size := X1.wlt
  refine Ctx.storeE O X2 hk hns (fun d e => by exact nomatch e) (en := .own l) ⟨_, vs.toArray, 0, rfl, .inr rfl, fun w => Nat.lt_irrefl _ (hfresh _ (X1.cW _ w)), Heap.get?_push_size _ rfl, hl, ?_⟩ (fun l' e y l2 a hy hρ hv hloc => ?_) fun s3 X3 e3 => ?_
  · simp only [List.toList_toArray]
    exact RepAll.move O (fun b o _ e => Heap.get?_push_of_some _ e) (fun b q => q.imp_right fun q => Heap.get?_none_of_le (Nat.le_of_eq q.symm)) _ _ q1
  · cases hv
    obtain ⟨w, lw, rw'⟩ := X1.vars y _ hρ
    have lw2 : Loc B pe (s1.heap.push { cls := .type "list", data := .seq vs.toArray }) y w := X1.locmove e2 lw
    have := Loc.uniq hloc lw2
    subst this
    obtain ⟨a', vs', n', e', hW', _⟩ := rw'
    cases e'
    exact Nat.lt_irrefl _ (hfresh _ hW')
  · have e13 := (e1.trans e2)
    refine k s3 Wc (orP W fun b => b = s1.heap.objs.size) ⟨fun b q => q, fun b q => q.imp_right fun (q : b = s1.heap.objs.size) => q ▸ e1.size, fun b q n => q.elim (fun z => .inl ⟨z, n⟩) fun (z : b = s1.heap.objs.size) => .inr (z ▸ e1.size)⟩ X3 ?_
    refine (e13.toP _).trans e3 (fun b q => ?_) fun i q => q.elim
    rcases q with rfl | q
    · exact .inl X.locW
    · have := (X.cellW x b (by exact q)).resolve_left hns
      exact .inl this
theorem st_frz {x : Nat} : SndSt B K Φ N (.frz x) := by
  intro Γ ρ out h Wc W pe A s Q Ex rest X R k
  simp only [x_evSt_frz] at h
  split at h
  case h_2 => cases h
  rename_i l hx
  obtain rfl := Option.some.inj h
  obtain ⟨v, lv, a, vs, n, rfl, hW, hWc, hg, hl, ra⟩ := X.vars x _ hx
  have hloc : ∀ m, s.heap.Ns pe.locals m → a ≠ pe.locals := fun m hm => ns_ne_list hm hg
  obtain ⟨m, hm⟩ := X.loc
  refine k s Wc (fun b => W b ∧ b ≠ a) ⟨fun b q => q, fun b q => .inl q.1, fun b q n => .inl ⟨q.1, n⟩⟩ ?_ (EffP.refl _ _)
  have hse : ∀ y, isSealed (ρ.set x (.fz (.list l))) y ↔ isSealed ρ y := by
    intro y
    by_cases hy : y = x
    · subst hy
      constructor
      · rintro ⟨d', e⟩; rw [REnv.set_self O] at e; cases e
      · rintro ⟨d', e⟩; rw [hx] at e; cases e
    · unfold isSealed; rw [REnv.set_ne O _ _ hy]
  exact { X with
    cW := fun b q => ⟨X.cW b q, fun e => hWc (e ▸ q)⟩
    wlt := fun b q => X.wlt b q.1
    locW := ⟨⟨X.locW.1, fun e => hloc m hm e.symm⟩, X.locW.2⟩
    ow := fun b q n => X.ow b q.1 n
    cellW := fun y c q => by
      rcases X.cellW y c q with z | z
      · exact .inl ((hse y).mpr z)
      · refine .inr ⟨⟨z.1, ?_⟩, z.2⟩
        rintro rfl
        obtain ⟨⟨w, hw⟩, _⟩ := X.cells y c q
        exact cell_ne_list hw hg rfl
    vars := fun y e hy => by
      by_cases hyx : y = x
      · subst hyx
        rw [REnv.set_self O] at hy; obtain rfl := Option.some.inj hy
        refine ⟨_, lv, ?_⟩
        exact ⟨a, vs, n, rfl, fun q => q.2 rfl, hg, hl, RepAll.less O ra fun b q => q.1⟩
      · rw [REnv.set_ne O _ _ hyx] at hy
        obtain ⟨w, lw, rw'⟩ := X.vars y e hy
        refine ⟨w, lw, ?_⟩
        cases e with
        | fz d => exact Rep.less O rw' fun b q => q.1
        | sealed d => exact Rep.less O rw' fun b q => q.1
        | own l2 =>
          obtain ⟨a2, vs2, n2, rfl, h1, h2, h3, h4, h5⟩ := rw'
          refine ⟨a2, vs2, n2, rfl, ⟨h1, ?_⟩, h2, h3, h4, RepAll.less O h5 fun b q => q.1⟩
          rintro rfl
          exact hyx (X.owns y x l2 l a2 hy hx lw lv)
        | ownD ks =>
          obtain ⟨a2, rfl, h1, h2, hnl, h3, h4⟩ := rw'
          refine ⟨a2, rfl, ⟨h1, ?_⟩, h2, hnl, h3, h4⟩
          rintro rfl
          exact dictOf_ne_list h4 hg rfl
    sealedW := fun y q => by
      obtain ⟨c, h1, h2⟩ := X.sealedW y ((hse y).mp q)
      exact ⟨c, h1, fun z => h2 z.1⟩
    owns := fun y z l1 l2 b hy hz ly lz => by
      have hyx : y ≠ x := by rintro rfl; rw [REnv.set_self O] at hy; cases hy
      have hzx : z ≠ x := by rintro rfl; rw [REnv.set_self O] at hz; exact nomatch hz
      rw [REnv.set_ne O _ _ hyx] at hy
      rw [REnv.set_ne O _ _ hzx] at hz
      exact X.owns y z l1 l2 b hy hz ly lz }
theorem st_seal {x : Nat} : SndSt B K Φ N (.seal x) := by
  intro Γ ρ out h Wc W pe A s Q Ex rest X R k
  simp only [x_evSt_seal] at h
  split at h
  case h_2 => exact nomatch h
  rename_i d hx
  split at h
  case isFalse => exact nomatch h
  rename_i hk
  obtain rfl := Option.some.inj h
  obtain ⟨kk, hc⟩ := X.kinds _ _ hk
  obtain ⟨c, hc⟩ := hc (.inl rfl)
  obtain ⟨⟨w, hw⟩, hcT⟩ := X.cells x c hc
  have hns : ¬ isSealed ρ x := fun ⟨d', e⟩ => by rw [hx] at e; exact nomatch e
  obtain ⟨hcW, hcWc⟩ := (X.cellW x c hc).resolve_left hns
  obtain ⟨m, hm⟩ := X.loc
  refine k s Wc (fun b => W b ∧ b ≠ c) ⟨fun b q => q, fun b q => .inl q.1, fun b q n => .inl ⟨q.1, n⟩⟩ ?_ (EffP.refl _ _)
  have hse : ∀ y, isSealed (ρ.set x (.sealed d)) y ↔ (isSealed ρ y ∨ y = x) := by
    intro y
    by_cases hy : y = x
    · subst hy
      exact ⟨fun _ => .inr rfl, fun _ => ⟨d, REnv.set_self O _ _ _⟩⟩
    · unfold isSealed; rw [REnv.set_ne O _ _ hy]; simp [hy]
  exact { X with
    cW := fun b q => ⟨X.cW b q, fun e => hcWc (e ▸ q)⟩
    wlt := fun b q => X.wlt b q.1
    locW := ⟨⟨X.locW.1, fun e => ns_ne_cell hm hw e.symm⟩, X.locW.2⟩
    ow := fun b q n => X.ow b q.1 n
    cellW := fun y c' q => by
      by_cases hy : y = x
      · exact .inl ((hse y).mpr (.inr hy))
      rcases X.cellW y c' q with z | z
      · exact .inl ((hse y).mpr (.inl z))
      · refine .inr ⟨⟨z.1, ?_⟩, z.2⟩
        rintro rfl
        exact hy (O.inj _ _ (name_of_addr X.apart (mem_of_lookup q) (mem_of_lookup hc)))
    vars := fun y e hy => by
      by_cases hyx : y = x
      · subst hyx
        rw [REnv.set_self O] at hy; obtain rfl := Option.some.inj hy
        obtain ⟨v, lv, rv⟩ := X.vars y _ hx
        exact ⟨v, lv, Rep.less O rv fun b q => q.1⟩
      · rw [REnv.set_ne O _ _ hyx] at hy
        obtain ⟨w', lw, rw'⟩ := X.vars y e hy
        refine ⟨w', lw, ?_⟩
        cases e with
        | fz d => exact Rep.less O rw' fun b q => q.1
        | sealed d => exact Rep.less O rw' fun b q => q.1
        | own l2 =>
          obtain ⟨a2, vs2, n2, rfl, h1, h2, h3, h4, h5⟩ := rw'
          refine ⟨a2, vs2, n2, rfl, ⟨h1, ?_⟩, h2, h3, h4, RepAll.less O h5 fun b q => q.1⟩
          rintro rfl
          exact cell_ne_list hw h3 rfl
        | ownD ks =>
          obtain ⟨a2, rfl, h1, h2, hnl, h3, h4⟩ := rw'
          refine ⟨a2, rfl, ⟨h1, ?_⟩, h2, hnl, h3, h4⟩
          rintro rfl
          exact dictOf_ne_cell h4 hw rfl
    sealedW := fun y q => by
      rcases (hse y).mp q with q | rfl
      · obtain ⟨c', h1, h2⟩ := X.sealedW y q
        exact ⟨c', h1, fun z => h2 z.1⟩
      · exact ⟨c, hc, fun z => z.2 rfl⟩
    owns := fun y z l1 l2 b hy hz ly lz => by
      have hyx : y ≠ x := by rintro rfl; rw [REnv.set_self O] at hy; exact nomatch hy
      have hzx : z ≠ x := by rintro rfl; rw [REnv.set_self O] at hz; exact nomatch hz
      rw [REnv.set_ne O _ _ hyx] at hy
      rw [REnv.set_ne O _ _ hzx] at hz
      exact X.owns y z l1 l2 b hy hz ly lz }
theorem Ctx.setOwn {x : Nat} {l l' : List D} {a : Addr} {vs vs' : Array Value} {n n' : Nat} {h' : Heap} {t : Nat} (X : Ctx B Γ Wc W pe ρ s) (hx : ρ x = some (.own l)) (lv : Loc B pe s.heap x (.ref a)) (hW : W a) (hWc : ¬ Wc a)
    (hg : s.heap.get? a = some { cls := .type "list", dict := none, data := .seq vs n, slots := #[] }) (hs : Heap.SameBut a s.heap h') (hg' : h'.get? a = some { cls := .type "list", dict := none, data := .seq vs' n', slots := #[] }) (hl : l'.length ≤ lim) (ra : RepAll B s.heap W l' vs'.toList) :
    Ctx B Γ Wc W pe (ρ.set x (.own l')) { s with heap := h', toks := t } ∧ EffP B (ownP W Wc) s { s with heap := h', toks := t } := by
  have keepW : ∀ b o, (¬ W b ∨ isCodeO o) → s.heap.get? b = some o → h'.get? b = some o := fun b o hw e => hs.extBut b o (fun q => hw.elim (fun hw => hw (q ▸ hW)) fun hc => list_nc hg o (q ▸ e) hc) e
  obtain ⟨m, hm⟩ := X.loc
  have hal : a ≠ pe.locals := ns_ne_list hm hg
  have hm' : h'.Ns pe.locals m := hm.sameBut hs (Ne.symm hal)
  have cne : ∀ y c, pe.cells.lookup (B.nm y) = some c → c ≠ a := fun y c q => by
    obtain ⟨⟨w, hw⟩, _⟩ := X.cells y c q
    exact Ne.symm (cell_ne_list hw hg)
  have mv : ∀ y w, Loc B pe s.heap y w → Loc B pe h' y w := by
    rintro y w (⟨k, m', n', e⟩ | ⟨k, c', e, hc'⟩)
    · have := Ns.uniq hm n'; subst this
      exact .inl ⟨k, _, hm', e⟩
    · exact .inr ⟨k, c', e, Heap.IsCell.moved hc' fun o z => hs.extBut _ o (cne y c' e) z⟩
  have hse : ∀ y, isSealed (ρ.set x (.own l')) y ↔ isSealed ρ y := by
    intro y
    by_cases hy : y = x
    · subst hy
      constructor
      · rintro ⟨d', e⟩; rw [REnv.set_self O] at e; exact nomatch e
      · rintro ⟨d', e⟩; rw [hx] at e; exact nomatch e
    · unfold isSealed; rw [REnv.set_ne O _ _ hy]
  have own_of : ∀ y l2, (ρ.set x (.own l')) y = some (.own l2) → ∃ l3, ρ y = some (.own l3) := fun y l2 h => by
    by_cases hy : y = x
    · subst hy; exact ⟨l, hx⟩
    · rw [REnv.set_ne O _ _ hy] at h; exact ⟨l2, h⟩
  refine ⟨Ctx.change O X ⟨hW, hWc⟩ (list_nc hg) hs ⟨m, hm'⟩ (fun y c q => ?_) (fun y e hy => ?_) hse (fun y z l1 l2 b hy hz ly lz => ?_), (eff_at O (fun q => hWc (X.tW _ q)) (list_nc hg) hs).mono (fun b q => q ▸ ⟨hW, hWc⟩) fun i q => q⟩
  · obtain ⟨⟨w, hw⟩, _⟩ := X.cells y c q
    exact ⟨w, Heap.IsCell.moved hw fun o z => hs.extBut _ o (cne y c q) z⟩
  · by_cases hyx : y = x
    · subst hyx
      rw [REnv.set_self O] at hy; obtain rfl := Option.some.inj hy
      exact ⟨_, mv _ _ lv, a, vs', n', rfl, hW, hWc, hg', hl, RepAll.move O keepW (fun b q => .inl q) _ _ ra⟩
    · rw [REnv.set_ne O _ _ hyx] at hy
      obtain ⟨w, lw, rw'⟩ := X.vars y e hy
      refine ⟨w, mv y w lw, ?_⟩
      cases e with
      | fz d => exact Rep.move O keepW (fun b q => .inl q) d w rw'
      | sealed d => exact Rep.move O keepW (fun b q => .inl q) d w rw'
      | own l2 =>
        obtain ⟨a2, vs2, n2, rfl, h1, h2, h3, h4, h5⟩ := rw'
        have : a2 ≠ a := by
          rintro rfl
          exact hyx (X.owns y x l2 l a2 hy hx lw lv)
        exact ⟨a2, vs2, n2, rfl, h1, h2, hs.extBut _ _ this h3, h4, RepAll.move O keepW (fun b q => .inl q) _ _ h5⟩
      | ownD ks =>
        obtain ⟨a2, rfl, h1, h2, hnl, h3, h4⟩ := rw'
        exact ⟨a2, rfl, h1, h2, hnl, h3, PySem.Heap.DictOf.at h4 fun o q => hs.extBut _ _ (dictOf_ne_list h4 hg) q⟩
  · obtain ⟨l3, hy'⟩ := own_of y l1 hy
    obtain ⟨l4, hz'⟩ := own_of z l2 hz
    obtain ⟨w, lw, _⟩ := X.vars y _ hy'
    obtain ⟨w', lw', _⟩ := X.vars z _ hz'
    have e1 := Loc.uniq ly (mv y w lw)
    have e2 := Loc.uniq lz (mv z w' lw')
    subst e1; subst e2
    exact X.owns y z l3 l4 b hy' hz' lw lw'
end
end Mine
namespace Mine
variable {B : Bs}
theorem setItem_plain {prog : Program} {w : World} {A : Around} {E : Value → Shared → Prop} {s : Shared} {l : Addr} {items : Array Value} {n : Nat} {k : Int} {t : Tok} {v : Value} {Q : Unit → Shared → Prop} (ho : s.heap.get? l = some { cls := .type "list", dict := none, data := .seq items n, slots := #[] })
    (h0 : 0 ≤ k) (hfit : k < 2 ^ 63) (hn : k < items.size)
    (hQ : Q () { s with heap := s.heap.update l (Obj.mapSeq (·.setIfInBounds k.toNat v)) }) : wpAny (model prog w) A (setItem (.ref l) (.int k t) v) Q E s := by
  have hl : s.heap.IsList l items := ⟨_, ho, rfl, n, rfl⟩
  unfold setItem
  try with_reducible refine wpAny_holding ?_
  first | refine wpAny_bind (wpAny_pure ?_) | skip
  refine wpAny_bind (wpAny_sequenceKey hl.typeIs (by decide) ?_)
  refine wpAny_bind (wpAny_callSpecial?_slot (name := Str.ofString "__setitem__") hl.typeIs slot_list_setitem
    (wpAny_call_entry slot_list_setitem hl.typeIs entry_list_setitem ?_ (args_list_setitem _ _ _)))
  show wpAny _ _ (Builtin.List.listSubscript? (.int k t) >>= _) _ _ s
  refine wpAny_bind (wpAny_listSubscript_int (fitsIndex_of h0 hfit) ?_)
  clear hfit
  obtain ⟨j, rfl⟩ := Int.eq_ofNat_of_zero_le h0
  have hj : j < items.size := by lia
  have hx' : items[j]? = some items[j] := Array.getElem?_eq_getElem hj
  show wpAny _ _ ((seqItemAt l j >>= fun r => pure (r.map (j, ·))) >>= _) _ _ s
  refine wpAny_bind (wpAny_bind (wpAny_seqItemAt ho rfl (wpAny_pure ?_)))
  rw [hx']
  show wpAny _ _ (setSeqItemAt l j v >>= _) _ _ s
  refine wpAny_bind (wpAny_setSeqItemAt ho rfl ?_)
  first
    | exact wpAny_bind (wpAny_pure (wpAny_pure ⟨.none, rfl, wpAny_pure hQ⟩))
    | exact wpAny_pure ⟨.none, rfl, wpAny_pure hQ⟩
section
variable (O : B.Ok)
include O
variable {Γ : Kinds} {ρ : REnv} {Wc W : Addr → Prop} {pe : Env} {A : Around} {s s₀ : Shared} {K N : Nat} {Φ : Phi}
theorem st_app {x : Nat} {e : E} {xp ap cp p : Pos} (he : Snd B K Φ e) : SndSt B K Φ N (.app x e xp ap cp p) := by
  intro Γ ρ out h Wc W pe A s Q Ex rest X R k
  simp only [x_evSt_app] at h
  split at h
  case h_2 => exact nomatch h
  rename_i l hx
  split at h
  case isFalse => exact nomatch h
  rename_i hline
  simp only [Option.bind_eq_bind, Option.bind_eq_some_iff] at h
  obtain ⟨r, h1, y, hy, h⟩ := h
  split at h
  case isFalse => exact nomatch h
  rename_i hl
  obtain rfl := Option.some.inj h
  obtain ⟨v, lv, a, vs, n, rfl, hW, hWc, hg, hl2, ra⟩ := X.vars x _ hx
  have hsz := RepAll.length ra
  rw [Array.length_toList] at hsz
  refine wpAny_execs_cons (wpAny_Expr ?_ (by unfold interactive; rw [X.fn]; rfl) rfl)
  refine wpAny_Call_append rfl (by rw [starEach_py]; rfl) hline (by rw [starEach_py]; rfl) ?_
  refine wpAny_Name (Ctx.name O X lv ?_ (O.cld x)) (O.dbg x)
  refine ⟨a, vs, rfl, ⟨_, n, hg, rfl, rfl, rfl⟩, useD O he h1 hy X R fun w s1 e1 X1 q1 => ?_⟩
  have nT : ¬ B.T a := fun t => hWc (X.tW _ t)
  have hg1 := e1.keep a _ nT hg
  refine wpAny_list_append_plain ⟨n, hg1⟩ (fun h' hl' hs' => ?_) (sizeLine_lim (by lia))
  obtain ⟨n', hg'⟩ := hl'
  have ra1 := RepAll.eff O X.tW' ra e1
  obtain ⟨X2, e2⟩ := Ctx.setOwn O (t := s1.toks) X1 hx (X.locmove e1 lv) hW hWc hg1 hs' hg' (l' := l ++ [y]) (by simp only [List.length_append, List.length_cons, List.length_nil]; lia) (by rw [Array.toList_push]; exact RepAll.append ra1 (RepAll.cons q1 RepAll.nil))
  exact k _ Wc W (SG.refl O _ _ _) X2 ((e1.toP _).trans e2 (fun b q => .inl q) fun i q => .inl q)
theorem inplace_ok {x y z : D} {u v : Value} {E : Value → Shared → Prop} {Q : Value → Shared → Prop} (h : D.add x y = some z) (hx : (∃ i, x = .int i) ∨ ∃ l, x = .str l) (rx : Rep B s.heap W x u) (ry : Rep B s.heap W y v)
    (k : ∀ r s', Eff B s s' → Rep B s'.heap W z r → Q r s') : wpAny B.M A (inplaceOp .Add u v) Q E s := by
  rcases hx with ⟨i, rfl⟩ | ⟨a, rfl⟩
  · obtain ⟨j, hj, rfl⟩ := om_some h
    have := int?_eq hj; subst this
    obtain ⟨t, rfl⟩ := intE rx; obtain ⟨t', rfl⟩ := intE ry
    exact wpAny_iadd_int (k _ _ (Eff.toks _) rep_i)
  · obtain ⟨b, hj, h1⟩ := ob_some h
    obtain ⟨hl, rfl⟩ := if_some h1
    have := str?_eq hj; subst this
    obtain ⟨t, rfl, _⟩ := strE rx; obtain ⟨t', rfl, _⟩ := strE ry
    exact SB.iadd (fun t' tk => k _ _ (Eff.toks _) (by rw [str_app]; exact rep_s hl)) (sizeLine_lim (by simpa [Str.length] using hl))
omit O in
theorem aug_inv {Γ : Kinds} {ρ : REnv} {x : Nat} {y : D} {out : Out} : ∀ {d : D}, (match d with
      | .int _ => do
        let z ← D.bin .Add d y
        if Γ.mine ρ x then some (Out.nx (ρ.set x (.fz z))) else none
      | .str _ => do
        let z ← D.bin .Add d y
        if Γ.mine ρ x then some (Out.nx (ρ.set x (.fz z))) else none
      | _ => none) = some out → ((∃ i, d = .int i) ∨ ∃ l, d = .str l) ∧ ∃ z, D.bin .Add d y = some z ∧ Γ.mine ρ x = true ∧ out = .nx (ρ.set x (.fz z)) := fun {d} h => by
  cases d
  case int i => obtain ⟨z, hz, h⟩ := ob_some h; obtain ⟨hm, rfl⟩ := if_some h; exact ⟨.inl ⟨_, rfl⟩, z, hz, hm, rfl⟩
  case str i => obtain ⟨z, hz, h⟩ := ob_some h; obtain ⟨hm, rfl⟩ := if_some h; exact ⟨.inr ⟨_, rfl⟩, z, hz, hm, rfl⟩
  all_goals exact nomatch h
theorem st_augN {x : Nat} {op : Operator} {e : E} {xp p : Pos} (he : Snd B K Φ e) : SndSt B K Φ N (.augN x op e xp p) := by
  intro Γ ρ out h Wc W pe A s Q Ex rest X R k
  have main : ∀ d r y z, ρ x = some (.fz d) → op = .Add → ev Φ Γ ρ e = some r → r.asD = some y → D.bin .Add d y = some z → ((∃ i, d = .int i) ∨ ∃ l, d = .str l) → Γ.mine ρ x = true → out = .nx (ρ.set x (.fz z)) →
      wpAny B.M A (execs (St.py B.nm (.augN x op e xp p) ++ rest) pe) Q Ex s := by
    intro d r y z hx hop h1 hy hz hd hm ho
    subst hop; subst ho
    obtain ⟨hk, hns⟩ := mine_iff O hm
    obtain ⟨v, lv, rv⟩ := X.vars x _ hx
    refine wpAny_execs_cons (wpAny_AugAssign_Name (Ctx.name O X lv (useD O he h1 hy X R fun w s1 e1 X1 q1 => ?_) (O.cld x)))
    refine inplace_ok O hz hd (Rep.eff O X.tW' rv e1) q1 fun r2 s2 e2 q2 => ?_
    have X2 := X1.move O e2
    refine Ctx.store O X2 hk hns q2 fun s3 X3 e3 => ?_
    exact k s3 Wc W (SG.refl O _ _ _) X3 (((e1.trans e2).toP _).trans e3 (fun b q => .inl (z_own O X hns b q)) fun i q => q.elim)
  simp only [x_evSt_augN] at h
  split at h
  case h_2 => exact nomatch h
  rename_i d hx
  simp only [Option.bind_eq_bind, Option.bind_eq_some_iff] at h
  obtain ⟨r, h1, y, hy, h⟩ := h
  obtain ⟨hd, z, hz, hm, ho⟩ := aug_inv h
  exact main _ r y z hx rfl h1 hy hz hd hm ho
omit O in
theorem addAt_inv {l l' : List D} {j y : D} (h : addAt l j y = some l') : ∃ a b z, j = .int a ∧ y = .int b ∧ (0 ≤ a ∧ a < l.length) ∧ l[a.toNat]? = some (.int z) ∧ l.set a.toNat (.int (z + b)) = l' := by
  unfold addAt at h
  split at h
  case h_2 => exact nomatch h
  obtain ⟨h1, h2⟩ := ifb_some h
  split at h2
  case h_2 => exact nomatch h2
  rename_i z hz
  exact ⟨_, _, z, rfl, rfl, h1, hz, Option.some.inj h2⟩
omit O in
theorem aug_py {nm : Nat → Str} (i : E) : ∀ ov iv new, augStore (i.py nm) ov iv new = (do holding [new, ov, iv] (setItem ov iv new); release [new, ov, iv] []; pure .next) := by
  cases i <;> exact fun _ _ _ => rfl
theorem st_augI {x : Nat} {i e : E} {op : Operator} {xp sp p : Pos} (hi : Snd B K Φ i) (he : Snd B K Φ e) : SndSt B K Φ N (.augI x i op e xp sp p) := by
  intro Γ ρ out h Wc W pe A s Q Ex rest X R k
  simp only [x_evSt_augI] at h
  split at h
  case h_2 => exact nomatch h
  rename_i l hx
  simp only [Option.bind_eq_bind, Option.bind_eq_some_iff, Option.map_eq_some_iff] at h
  obtain ⟨rj, hj1, j, hj, ry, hy1, y, hy, l', hadd, rfl⟩ := h
  obtain ⟨j, y, z, rfl, rfl, hlt, hz, rfl⟩ := addAt_inv hadd
  obtain ⟨v, lv, a, vs, n, rfl, hW, hWc, hg, hl2, ra⟩ := X.vars x _ hx
  have hsz := RepAll.length ra
  rw [Array.length_toList] at hsz
  have nT : ¬ B.T a := fun t => hWc (X.tW _ t)
  refine wpAny_execs_cons (wpAny_AugAssign_SubscriptAny ?_ (aug_py i))
  refine wpAny_Name (Ctx.name O X lv ?_ (O.cld x)) (O.dbg x)
  refine useD O hi hj1 hj X R fun w s1 e1 X1 q1 => ?_
  obtain ⟨t, rfl⟩ := intE q1
  have hg1 := e1.keep a _ nT hg
  obtain ⟨w, hw, rw'⟩ := RepAll.get (RepAll.eff O X.tW' ra e1) hz
  obtain ⟨tz, rfl⟩ := intE rw'
  have hj63 : j < 2 ^ 63 := by
    have : (l.length : Int) ≤ 1048576 := by unfold lim at hl2; lia
    lia
  refine wpAny_getItem_list ⟨_, hg1, rfl, n, rfl⟩ hlt.1 hj63 (by rw [← Array.getElem?_toList]; exact hw) ?_
  refine useD O he hy1 hy X1 R fun w2 s2 e2 X2 q2 => ?_
  obtain ⟨t2, rfl⟩ := intE q2
  refine wpAny_iadd_int ?_
  have e3 : Eff B s2 { s2 with toks := s2.toks + 1 } := Eff.toks _
  have X3 := X2.move O e3
  have e03 := (e1.trans e2).trans e3
  have hg3 : ({ s2 with toks := s2.toks + 1 } : Shared).heap.get? a = _ := e03.keep a _ nT hg
  refine setItem_plain hg3 hlt.1 hj63 (by lia) ?_
  have hg4 := Heap.get?_update_self (Obj.mapSeq (·.setIfInBounds j.toNat (Value.int (z + y) s2.toks))) hg3 rfl
  have ra3 := RepAll.eff O X.tW' ra e03
  have hjn : j.toNat < l.length := by lia
  have key : RepAll B ({ s2 with toks := s2.toks + 1 } : Shared).heap W (l.set j.toNat (.int (z + y))) (vs.setIfInBounds j.toNat (Value.int (z + y) s2.toks)).toList := by
    refine RepAll.of_get O _ _ (by simp [hsz]) fun i d v hd hv => ?_
    simp only [Array.toList_setIfInBounds] at hv
    rw [List.getElem?_set] at hd hv
    by_cases hi : j.toNat = i
    · simp only [hi, if_true] at hd hv
      split at hd
      · obtain rfl := Option.some.inj hd
        split at hv
        · obtain rfl := Option.some.inj hv; simp only [Rep]; exact ⟨_, rfl⟩
        · exact nomatch hv
      · exact nomatch hd
    · simp only [hi, if_false] at hd hv
      obtain ⟨v', hv', rv'⟩ := RepAll.get ra3 hd
      obtain rfl := Option.some.inj (hv.symm.trans hv')
      exact rv'
  obtain ⟨X4, e4⟩ := Ctx.setOwn O (t := s2.toks + 1) X3 hx (X.locmove e03 lv) hW hWc hg3 (Heap.SameBut.update ..) hg4 (l' := l.set j.toNat (.int (z + y))) (by rw [List.length_set]; exact hl2) key
  exact k _ Wc W (SG.refl O _ _ _) X4 ((e03.toP _).trans e4 (fun b q => .inl q) fun i q => .inl q)
end
end Mine
namespace Mine
variable {B : Bs}
section
variable (O : B.Ok)
include O
variable {Γ : Kinds} {ρ : REnv} {Wc W : Addr → Prop} {pe : Env} {A : Around} {s s₀ : Shared} {K N : Nat} {Φ : Phi}
theorem notConst_alone {e : E} (h : e.notConst = true) : constantsAlone 8 (e.py B.nm) = false := by
  cases e <;> first | exact O.dbg _ | rfl | exact Bool.noConfusion (show false = true from h)
theorem any_notConst : ∀ es : List E, es.any E.notConst = true → (pyL B.nm es).all (constantsAlone 8) = false
  | [], h => by simp at h
  | e :: r, h => by
    simp only [x_pyL_cons, List.all_cons]
    rw [List.any_cons, Bool.or_eq_true] at h
    rcases h with h | h
    · rw [notConst_alone O h]; rfl
    · rw [any_notConst r h]; simp
theorem swapped_names (pe : Env) (line : Nat) : ∀ xs : List (Nat × Pos), let ns := (xs.map fun q => PySem.Expr.Name (B.nm q.1) q.2).filterMap (fun
    | .Name id pos => if pe.kindOf id == some .local && pos.line == line then some id else none
    | _ => none); ns.length ≤ xs.length ∧ (ns.length = xs.length → ns = xs.map fun q => B.nm q.1)
  | [] => ⟨Nat.le_refl _, fun _ => rfl⟩
  | q :: r => by
    obtain ⟨h1, h2⟩ := swapped_names pe line r
    dsimp only at h1 h2 ⊢
    rw [List.map_cons, List.filterMap_cons]
    dsimp only
    split
    · rename_i h
      split at h
      · exact nomatch h
      · refine ⟨Nat.le_succ_of_le h1, fun e => ?_⟩
        simp only [List.length_cons] at e; lia
    · rename_i b h
      split at h
      · obtain rfl := Option.some.inj h
        refine ⟨by simp only [List.length_cons]; lia, fun e => ?_⟩
        simp only [List.length_cons] at e
        rw [h2 (by lia)]; rfl
      · exact nomatch h
theorem swapped_ok {xs : List (Nat × Pos)} {es : List E} {k k' : Nat} {tp p' : Pos} (h : es.any E.notConst = true) : swappedStores [.Tuple (xs.map fun q => .Name (B.nm q.1) q.2) k tp] (.Tuple (pyL B.nm es) k' p') pe = pure none ∨
    swappedStores [.Tuple (xs.map fun q => .Name (B.nm q.1) q.2) k tp] (.Tuple (pyL B.nm es) k' p') pe = pure (some (xs.map fun q => B.nm q.1)) := by
  unfold swappedStores
  dsimp only
  generalize hl : (((xs.map fun q => PySem.Expr.Name (B.nm q.1) q.2).head?.map (·.pos.line)).getD 0) = line
  have hn := swapped_names O pe line xs
  dsimp only at hn
  generalize hns : ((xs.map fun q => PySem.Expr.Name (B.nm q.1) q.2).filterMap (fun
    | .Name id pos => if pe.kindOf id == some .local && pos.line == line then some id else none
    | _ => none)) = ns at hn ⊢
  rw [any_notConst O es h]
  split
  · exact .inl rfl
  · split
    · exact .inl rfl
    · split
      · exact .inl rfl
      · rename_i h3
        split
        · exact .inl rfl
        · refine .inr ?_
          simp only [Bool.false_eq_true, if_false]
          have : ns.length = xs.length := by
            simp only [Bool.or_eq_true, bne_iff_ne, ne_eq, not_or, Decidable.not_not, List.length_map] at h3
            exact h3.1
          rw [hn.2 this]
theorem stores_none (env : Env) (v : Value) (st : List (Value → Sem Unit)) : assignStores env v none st = (assignAll v st >>= fun _ => (pure Flow.next : Sem Flow)) := rfl
theorem stores_some (env : Env) (v : Value) (names : List Str) (st : List (Value → Sem Unit)) : assignStores env v (some names) st = (rule "assign.swapped-stores" >>= fun _ => unpackItems v names.length none >>= fun items => assignInOrder (names.reverse.map fun n => bindName env n) items.reverse >>= fun _ => (pure Flow.next : Sem Flow)) := rfl
theorem fold_at : ∀ (l : List ((Nat × Pos) × D)) (ρ : REnv), (l.map (·.1.1)).Nodup → ∀ q ∈ l, (l.foldl (fun ρ q => ρ.set q.1.1 (.fz q.2)) ρ) q.1.1 = some (.fz q.2)
  | [], _, _, q, h => by exact nomatch h
  | a :: r, ρ, hn, q, h => by
    simp only [List.map_cons, List.nodup_cons] at hn
    rw [List.foldl_cons]
    rcases List.mem_cons.mp h with rfl | h
    · rw [foldl_set_out O, REnv.set_self O]
      intro z hz e
      exact hn.1 (List.mem_map.mpr ⟨z, hz, e⟩)
    · exact fold_at r _ hn.2 q h
theorem fold_rev (l : List ((Nat × Pos) × D)) (ρ : REnv) (hn : (l.map (·.1.1)).Nodup) : l.reverse.foldl (fun ρ q => ρ.set q.1.1 (.fz q.2)) ρ = l.foldl (fun ρ q => ρ.set q.1.1 (.fz q.2)) ρ := by
  funext y
  by_cases h : ∃ q ∈ l, q.1.1 = y
  · obtain ⟨q, hq, rfl⟩ := h
    rw [fold_at O l ρ hn q hq, fold_at O l.reverse ρ (by rw [List.map_reverse]; exact List.pairwise_reverse.mpr (List.Pairwise.imp Ne.symm hn)) q (List.mem_reverse.mpr hq)]
  · rw [foldl_set_out O, foldl_set_out O]
    · exact fun q hq e => h ⟨q, hq, e⟩
    · exact fun q hq e => h ⟨q, List.mem_reverse.mp hq, e⟩
theorem binds_ok {Z : Addr → Prop} (hZW : ∀ b, Z b → W b) : ∀ (l : List ((Nat × Pos) × D)) (vs : List Value) (ρ : REnv) (s : Shared) (Q : Unit → Shared → Prop) (E : Value → Shared → Prop), Ctx B Γ Wc W pe ρ s →
    (∀ q ∈ l, (Γ q.1.1 = some .local ∨ Γ q.1.1 = some .cell) ∧ ¬ isSealed ρ q.1.1) → (∀ q ∈ l, ∀ b, (zP B pe q.1.1).a b → Z b) → RepAll B s.heap W (l.map (·.2)) vs →
    (∀ s', Ctx B Γ Wc W pe (l.foldl (fun ρ q => ρ.set q.1.1 (.fz q.2)) ρ) s' → EffP B ⟨Z, fun _ => False⟩ s s' → Q () s') →
    wpAny B.M A (assignInOrder ((l.map fun q => B.nm q.1.1).map fun n => bindName pe n) vs) Q E s
  | [], vs, ρ, s, Q, E, X, _, _, r, k => by
    show wpAny _ _ (pure ()) _ _ _
    exact wpAny_pure (k s X (EffP.refl _ _))
  | a :: l, vs, ρ, s, Q, E, X, hx, hz, r, k => by
    simp only [List.map_cons, RepAll] at r
    obtain ⟨v, vs', rfl, rv, ra⟩ := r
    show wpAny _ _ (do holding vs' (bindName pe (B.nm a.1.1) v); assignInOrder ((l.map fun q => B.nm q.1.1).map fun n => bindName pe n) vs') _ _ _
    have h1 := hx a List.mem_cons_self
    refine wpAny_bind (wpAny_holding (wpAny_bindName (Ctx.store O X h1.1 h1.2 rv fun s1 X1 e1 => ?_)))
    have e1 : EffP B ⟨Z, fun _ => False⟩ s s1 := e1.mono (hz a List.mem_cons_self) fun i q => q
    refine binds_ok hZW l vs' _ s1 Q E X1 (fun q hq => ⟨(hx q (List.mem_cons_of_mem _ hq)).1, ?_⟩) (fun q hq => hz q (List.mem_cons_of_mem _ hq)) ?_ fun s2 X2 e2 => k s2 X2 (e1.own_trans O e2)
    · have h2 := (hx q (List.mem_cons_of_mem _ hq)).2
      by_cases hqx : q.1.1 = a.1.1
      · rintro ⟨d', e⟩; rw [hqx, REnv.set_self O] at e; exact nomatch e
      · rintro ⟨d', e⟩; rw [REnv.set_ne O _ _ hqx] at e; exact h2 ⟨d', e⟩
    · exact RepAll.move O (e1.kW X.tW' hZW) (fun b q => .inl q) _ _ ra
theorem st_asgT {xs : List (Nat × Pos)} {k : Nat} {es : List E} {k' : Nat} {p' tp p : Pos} (hs : SndL B K Φ es) : SndSt B K Φ N (.asgT xs k (.tup es k' p') tp p) := by
  intro Γ ρ out h Wc W pe A s Q Ex rest X R kk
  simp only [x_evSt_asgT, Option.bind_eq_bind, Option.bind_eq_some_iff] at h
  obtain ⟨l, h1, h⟩ := h
  split at h
  case isFalse => exact nomatch h
  rename_i hc
  obtain ⟨hlen, hany, hnd, hall, hl⟩ := hc
  obtain rfl := Option.some.inj h
  have hmine : ∀ q ∈ xs, (Γ q.1 = some .local ∨ Γ q.1 = some .cell) ∧ ¬ isSealed ρ q.1 := fun q hq => mine_iff O (List.all_eq_true.mp hall q hq)
  have hpy : St.py B.nm (.asgT xs k (.tup es k' p') tp p) ++ rest = .Assign [.Tuple (xs.map fun q => .Name (B.nm q.1) q.2) k tp] (.Tuple (pyL B.nm es) k' p') p :: rest := rfl
  rw [hpy]
  refine wpAny_execs_cons ?_
  rw [exec_Assign_arm]
  refine wpAny_bind (wpAny_standAt ?_)
  have hsw : swapsWithSole [.Tuple (xs.map fun q => .Name (B.nm q.1) q.2) k tp] (.Tuple (pyL B.nm es) k' p') p.line pe = pure false := rfl
  rw [hsw]
  refine wpAny_bind (wpAny_pure ?_)
  rw [if_neg (by decide)]
  refine wpAny_bind (Tuple_ ?_)
  rw [backTo_py O]
  refine useL O hs h1 X R fun vs s1 e1 X1 q1 => ?_
  refine wpAny_newObj_type ?_ (by show vs.toArray.size ≤ sizeLine; rw [List.size_toArray, RepAll.length q1]; exact sizeLine_lim hl)
  have rt := rep_new_tup O X1.wlt (vs := vs.toArray) (by simpa using q1) hl
  have e2 : Eff B s1 { s1 with heap := s1.heap.push { cls := .type "tuple", data := .seq vs.toArray } } := Eff.push O _ s1.toks
  have X2 := X1.move O e2
  have e02 := e1.trans e2
  have fin : ∀ s3, Ctx B Γ Wc W pe (setAll xs l ρ) s3 → EffP B (ownP W Wc) { s1 with heap := s1.heap.push { cls := .type "tuple", data := .seq vs.toArray } } s3 → wpAny B.M A (execs rest pe) Q Ex s3 := fun s3 X3 e3 =>
    kk s3 Wc W (SG.refl O _ _ _) X3 ((e02.toP _).trans e3 (fun b q => .inl q) fun i q => q.elim)
  rcases swapped_ok O (pe := pe) (xs := xs) (es := es) (k := k) (k' := k') (tp := tp) (p' := p') hany with hw | hw
  · rw [hw]
    refine wpAny_bind (wpAny_pure ?_)
    rw [stores_none O]
    refine wpAny_bind ?_
    have ha : assignAll (.ref s1.heap.objs.size) ((assignEach [PySem.Expr.Tuple (xs.map fun q => PySem.Expr.Name (B.nm q.1) q.2) k tp] pe).map (·.2)) = assign (.Tuple (xs.map fun q => .Name (B.nm q.1) q.2) k tp) pe (.ref s1.heap.objs.size) := rfl
    rw [ha]
    exact untuple_ok O (Z := fun b => W b ∧ ¬ Wc b) R.handled hlen X2 hmine (fun b q => q.1) (fun q hq b z => z_own O X2 (hmine q hq).2 b z) rt fun s3 X3 e3 => wpAny_pure (fin s3 X3 e3)
  · rw [hw]
    refine wpAny_bind (wpAny_pure ?_)
    rw [stores_some O]
    refine wpAny_bind (wpAny_rule ?_)
    have hvl : vs.length = xs.length := by rw [RepAll.length q1]; lia
    have ht : ({ s1 with heap := s1.heap.push { cls := .type "tuple", data := .seq vs.toArray } } : Shared).heap.IsTuple s1.heap.objs.size vs.toArray := ⟨_, Heap.get?_push_size _ rfl, rfl, 0, rfl⟩
    rw [show (xs.map fun q => B.nm q.1).length = vs.toArray.size by simp [hvl]]
    refine wpAny_bind (Mine.wpAny_size (wpAny_unpackItems_tuple R.handled ht fun h' he hsz => ?_))
    have kp : ∀ b o, ({ s1 with heap := s1.heap.push { cls := .type "tuple", data := .seq vs.toArray } } : Shared).heap.get? b = some o → h'.get? b = some o := fun b o e => he b o (Nat.ne_of_lt (Heap.lt_size e)) e
    have e3 : Eff B { s1 with heap := s1.heap.push { cls := .type "tuple", data := .seq vs.toArray } } { s1 with heap := h' } := size_eff O kp hsz rfl rfl
    have X3 := X2.move O e3
    have hz : (xs.zip l).reverse.map (fun q => B.nm q.1.1) = (xs.map fun q => B.nm q.1).reverse := by
      rw [List.map_reverse]
      congr 1
      rw [show (fun q : (Nat × Pos) × D => B.nm q.1.1) = (fun q : Nat × Pos => B.nm q.1) ∘ Prod.fst from rfl, ← List.map_map, List.map_fst_zip (by lia)]
    have hz2 : (xs.zip l).reverse.map (·.2) = l.reverse := by
      rw [List.map_reverse, List.map_snd_zip (by lia)]
    rw [← hz]
    have hnd' : ((xs.zip l).map (·.1.1)).Nodup := by
      rw [show (fun q : (Nat × Pos) × D => q.1.1) = Prod.fst ∘ Prod.fst from rfl, ← List.map_map, List.map_fst_zip (by lia)]
      exact hnd
    refine wpAny_bind (binds_ok O (Z := fun b => W b ∧ ¬ Wc b) (fun b q => q.1) (xs.zip l).reverse _ ρ _ _ _ X3 (fun q hq => hmine q.1 (List.of_mem_zip (List.mem_reverse.mp hq)).1) (fun q hq b z => z_own O X3 (hmine q.1 (List.of_mem_zip (List.mem_reverse.mp hq)).1).2 b z) ?_ fun s4 X4 e4 => wpAny_pure ?_)
    · rw [hz2]
      have := RepAll.reverse (RepAll.eff O X.tW' q1 (e2.trans e3))
      simpa using this
    · rw [fold_rev O _ _ hnd'] at X4
      exact fin s4 X4 ((e3.toP _).trans e4 (fun b q => .inl q) fun i q => q.elim)
structure DefSOk (B : Bs) (x id f : Nat) (ps : List (Nat × Pos)) (body : List Stmt) (sc : List (Nat × NameKind)) (gen : Bool) : Prop where
  ls : B.LS id = some ⟨paramsOf B.nm ps, .stmts body, { scOf B.nm sc with isGenerator := gen }, B.qf f, freeOf sc⟩
  qf : B.qf f = B.pq f ++ B.nm x
  ct : ∃ c P, B.CT f = some (c, P)
  doc : docOf body = none
theorem no_anns (nm : Nat → Str) (env : Env) : ∀ ps : List (Nat × Pos), annotationsOf (ps.map fun q => { arg := nm q.1, annotation := none, pos := q.2 }) env = []
  | [] => rfl
  | q :: r => no_anns nm env r
theorem st_def {x id f : Nat} {ps : List (Nat × Pos)} {body : List Stmt} {sc : List (Nat × NameKind)} {gen : Bool} {p : Pos} (hl : DefSOk B x id f ps body sc gen) : SndSt B K Φ N (.defS x id f ps body sc gen p) := by
  intro Γ ρ out h Wc W pe A s Q Ex rest X R k
  simp only [x_evSt_defS] at h
  split at h
  case isFalse => exact nomatch h
  rename_i hc
  obtain ⟨hsc, hf, hff, hm⟩ := hc
  simp only [Option.bind_eq_bind, Option.bind_eq_some_iff, Option.some.injEq] at h
  obtain ⟨caps, hcaps, rfl⟩ := h
  obtain ⟨hk, hns⟩ := mine_iff O hm
  rcases X.code with q | ⟨q1, q2⟩
  · exact absurd (hff.symm.trans q) hf
  rw [hff] at q1 q2
  show wpAny B.M A (execs (.FunctionDef (B.nm x) (paramsOf B.nm ps) body [] none [] { scOf B.nm sc with isGenerator := gen } none (B.nm x) p :: rest) pe) Q Ex s
  refine wpAny_execs_cons ?_
  rw [exec_def]
  have hqn : qualnameIn pe (B.nm x) (B.nm x) = B.qf f := by
    unfold qualnameIn
    rw [hl.qf, ← q2]
    rcases hk with hk | hk <;> (rw [(X.kinds _ _ hk).1]; rfl)
  have hann : annTrees (paramsOf B.nm ps) none pe = [] := by
    unfold annTrees paramsOf
    simp only [List.nil_append, List.append_nil, Option.toList_none]
    have e : evalOpt none pe = none := rfl
    simpa [e] using no_anns O B.nm pe ps
  rw [hqn, hann]
  refine wpAny_bind (wpAny_standAt (wpAny_bind (wpAny_holding (wpAny_bind (wpAny_pure (wpAny_bind (wpAny_holding (wpAny_pure (wpAny_holding (wpAny_bind (wpAny_pure ?_)))))))))))
  refine wpAny_mono (mk_lam O hl.ls hl.ct rfl (scOk_iff O hsc) q1 (fun b e => by cases e; exact hl.doc) X hcaps) ?_ fun _ _ f => f.elim
  rintro v s1 ⟨e1, r1⟩
  refine wpAny_bind (wpAny_standAt (wpAny_bind (wpAny_bindName (Ctx.store O (X.move O e1) hk hns r1 fun s2 X2 e2 => wpAny_pure ?_))))
  exact k s2 Wc W (SG.refl O _ _ _) X2 ((e1.toP _).trans e2 (fun b q => .inl (z_own O X hns b q)) fun i q => q.elim)
end
end Mine
namespace Mine
variable {B : Bs}
structure Df where
  x : Nat
  id : Nat
  f : Nat
  ps : List (Nat × Pos)
  body : List Stmt
  sc : List (Nat × NameKind)
  gen : Bool
mutual
noncomputable def St.lms : St → List Lm
  | .asg _ e _ _ => e.lms
  | .own _ e _ _ => e.lms
  | .asgT _ _ e _ _ => e.lms
  | .augN _ _ e _ _ => e.lms
  | .augI _ i _ e _ _ _ => i.lms ++ e.lms
  | .app _ e _ _ _ _ => e.lms
  | .forS _ it body _ => it.lms ++ lmsS body
  | .whl c body _ => c.lms ++ lmsS body
  | .ifS c a b _ => c.lms ++ (lmsS a ++ lmsS b)
  | .ret e _ => e.lms
  | .tryS body _ _ => lmsS body
  | _ => []
noncomputable def lmsS : List St → List Lm
  | [] => []
  | s :: r => s.lms ++ lmsS r
end
mutual
noncomputable def St.dfs : St → List Df
  | .defS x id f ps body sc gen _ => [⟨x, id, f, ps, body, sc, gen⟩]
  | .forS _ _ body _ => dfsS body
  | .whl _ body _ => dfsS body
  | .ifS _ a b _ => dfsS a ++ dfsS b
  | .tryS body _ _ => dfsS body
  | _ => []
noncomputable def dfsS : List St → List Df
  | [] => []
  | s :: r => s.dfs ++ dfsS r
end
noncomputable def DfsOk (B : Bs) (l : List Df) : Prop := ∀ x ∈ l, DefSOk B x.x x.id x.f x.ps x.body x.sc x.gen
theorem dfs1 {a b : List Df} (h : DfsOk B (a ++ b)) : DfsOk B a := fun x hx => h x (List.mem_append_left _ hx)
theorem dfs2 {a b : List Df} (h : DfsOk B (a ++ b)) : DfsOk B b := fun x hx => h x (List.mem_append_right _ hx)
theorem dfs0 : DfsOk B [] := fun x hx => nomatch hx
noncomputable def St.ok (B : Bs) (st : St) : Prop := LmsOk B st.lms ∧ DfsOk B st.dfs
noncomputable def okS (B : Bs) (ss : List St) : Prop := LmsOk B (lmsS ss) ∧ DfsOk B (dfsS ss)
theorem okS_of {ss : List St} (h : lmsS ss = []) (h' : dfsS ss = []) : okS B ss := by
  unfold okS; rw [h, h']; exact ⟨lms0, dfs0⟩
section
variable (O : B.Ok) {K N : Nat} {Φ : Phi}
include O
theorem noS {st : St} (h : ∀ Γ ρ, evSt Φ N Γ ρ st = none) : SndSt B K Φ N st := by
  intro Γ ρ b hb
  rw [h] at hb; exact nomatch hb
theorem sndE (hK : 24 ≤ K) (P : PhiOk B K Φ) (e : E) (h : e.ok B) : Snd B K Φ e := (snd O hK P e h).1
theorem comp_parts (hK : 24 ≤ K) (P : PhiOk B K Φ) (e : E) (h : e.ok B) : ∀ elt t it ifs r sc cp, e = .comp elt (.mk t it ifs :: r) sc cp → Snd B K Φ elt ∧ Snd B K Φ it ∧ SndC B K Φ ifs ∧ SndGs B K Φ r := by
  rintro elt t it ifs r sc cp rfl
  exact ⟨sndE O hK P elt (lms1 h), sndE O hK P it (lms1 (lms2 h)), sndC_of O ifs (sndM O hK P ifs (lms1 (lms2 (lms2 h)))), sndG O hK P r (lms2 (lms2 (lms2 h)))⟩
theorem own_of {x : Nat} {xp p : Pos} : ∀ {e : E}, (∀ es lp, e = .list es lp → SndL B K Φ es) → SndSt B K Φ N (.own x e xp p) := fun {e} h => by
  cases e
  case list => exact st_own O (h _ _ rfl)
  all_goals exact noS O fun _ _ => rfl
theorem asgT_of {xs : List (Nat × Pos)} {k : Nat} {tp p : Pos} : ∀ {e : E}, (∀ es k' lp, e = .tup es k' lp → SndL B K Φ es) → SndSt B K Φ N (.asgT xs k e tp p) := fun {e} h => by
  cases e
  case tup => exact st_asgT O (h _ _ _ rfl)
  all_goals exact noS O fun _ _ => rfl
theorem sndSt (hK : 24 ≤ K) (P : PhiOk B K Φ) : ∀ st : St, st.ok B → SndSt B K Φ N st :=
  St.rec (motive_1 := fun st => st.ok B → SndSt B K Φ N st) (motive_2 := fun ss => okS B ss → SndSs B K Φ N ss)
    (fun _ e _ _ h => st_asg O (Nat.le_trans (by decide) hK) (sndE O hK P e h.1) (comp_parts O hK P e h.1))
    (fun _ _ _ _ h => own_of O fun es lp e => by subst e; exact sndL_of O es (sndM O hK P es h.1))
    (fun _ _ _ _ _ h => asgT_of O fun es k' lp e => by subst e; exact sndL_of O es (sndM O hK P es h.1))
    (fun _ _ e _ _ h => st_augN O (sndE O hK P e h.1))
    (fun _ i _ e _ _ _ h => st_augI O (sndE O hK P i (lms1 h.1)) (sndE O hK P e (lms2 h.1)))
    (fun _ _ _ _ _ _ _ => noS O fun _ _ => rfl)
    (fun _ e _ _ _ _ h => st_app O (sndE O hK P e h.1))
    (fun _ _ => noS O fun _ _ => rfl)
    (fun _ _ _ _ _ _ _ _ h => st_def O (h.2 _ List.mem_cons_self))
    (fun _ it _ _ ib h => st_for O (Nat.le_trans (by decide) hK) (sndE O hK P it (lms1 h.1)) (ib ⟨lms2 h.1, h.2⟩))
    (fun c _ _ ib h => st_whl O (snd O hK P c (lms1 h.1)).2 (ib ⟨lms2 h.1, h.2⟩))
    (fun c _ _ _ ia ib h => st_if O (snd O hK P c (lms1 h.1)).2 (ia ⟨lms1 (lms2 h.1), dfs1 h.2⟩) (ib ⟨lms2 (lms2 h.1), dfs2 h.2⟩))
    (fun e _ h => st_ret O (sndE O hK P e h.1))
    (fun _ _ _ ib h => st_try O (ib h))
    (fun _ _ => st_frz O)
    (fun _ _ => st_seal O)
    (fun _ _ _ _ _ _ _ _ _ _ _ _ _ _ _ => st_sub O)
    (fun _ => ss_nil O)
    (fun _ _ is ir h => ss_cons O (is ⟨lms1 h.1, dfs1 h.2⟩) (ir ⟨lms2 h.1, dfs2 h.2⟩))
theorem sndSs (hK : 24 ≤ K) (P : PhiOk B K Φ) : ∀ ss : List St, okS B ss → SndSs B K Φ N ss
  | [], _ => ss_nil O
  | s :: r, h => ss_cons O (sndSt O hK P s ⟨lms1 h.1, dfs1 h.2⟩) (sndSs hK P r ⟨lms2 h.1, dfs2 h.2⟩)
end
end Mine
namespace Mine
variable {B : Bs}
noncomputable def setArgs (ps : List Nat) (args : List D) (ρ : REnv) : REnv := (ps.zip args).foldl (fun ρ q => ρ.set q.1 (.fz q.2)) ρ
noncomputable def kindsF (sc : List (Nat × NameKind)) (f : Nat) : Kinds := ⟨fun x => sc.lookup x, f⟩
theorem Room.deeper {A : Around} {k : Nat} {env : Env} (h : Room A (k + 2)) : Room (A.deeper env) k :=
  ⟨h.handled, by have := h.depth; show A.depth + 1 + k < 950; lia, by have := h.units; show A.units + 3 + 3 * k + 300 < cLine; lia⟩
theorem Room.lim {A : Around} {k : Nat} (h : Room A k) : A.depth < recursionLimit := by
  have := h.depth
  have e : recursionLimit = 1000 := by decide
  lia
section
variable (O : B.Ok)
include O
variable {Γ : Kinds} {ρ : REnv} {Wc W : Addr → Prop} {pe : Env} {A : Around} {s s₀ : Shared} {K N : Nat} {Φ : Phi}
theorem bind_loop (f : Str × Value → PUnit → Sem (ForInStep PUnit)) (hf : ∀ n v u, f (n, v) u = (do storeName pe n v; pure (.yield ⟨⟩))) : ∀ (ps : List Nat) (args : List D) (vals : List Value) (ρ : REnv) (s : Shared) (Q : PUnit → Shared → Prop) (E : Value → Shared → Prop), ps.length = args.length →
    Ctx B Γ Wc W pe ρ s → (∀ x ∈ ps, (Γ x = some .local ∨ Γ x = some .cell) ∧ ¬ isSealed ρ x) → RepAll B s.heap W args vals →
    (∀ s', Ctx B Γ Wc W pe (setArgs ps args ρ) s' → EffP B (ownP W Wc) s s' → s'.heap.objs.size = s.heap.objs.size → Q ⟨⟩ s') → wpAny B.M A (forIn ((ps.map B.nm).zip vals) ⟨⟩ f) Q E s
  | [], [], vals, ρ, s, Q, E, _, X, _, r, k => by
    simp only [List.map_nil, List.zip_nil_left]
    exact wpAny_pure (k s X (EffP.refl _ _) rfl)
  | [], _ :: _, _, _, _, _, _, h, _, _, _, _ => by simp at h
  | _ :: _, [], _, _, _, _, _, h, _, _, _, _ => by simp at h
  | x :: ps, d :: args, vals, ρ, s, Q, E, hl, X, hx, r, k => by
    simp only [RepAll] at r
    obtain ⟨v, vs', rfl, rv, ra⟩ := r
    simp only [List.map_cons, List.zip_cons_cons]
    rw [List.forIn_cons, hf]
    have h1 := hx x List.mem_cons_self
    refine wpAny_bind (wpAny_bind (Ctx.storeE' O X h1.1 h1.2 (fun _ e => by exact nomatch e) (en := .fz d) rv (fun _ e => by exact nomatch e) fun s1 X1 e1 hz1 => wpAny_pure ?_))
    have e1 : EffP B (ownP W Wc) s s1 := e1.mono (z_own O X h1.2) fun i q => q
    refine bind_loop f hf ps args vs' _ s1 Q E (by simpa using hl) X1 (fun q hq => ⟨(hx q (List.mem_cons_of_mem _ hq)).1, ?_⟩) ?_ fun s2 X2 e2 hz2 => k s2 X2 (e1.own_trans O e2) (hz2.trans hz1)
    · have h2 := (hx q (List.mem_cons_of_mem _ hq)).2
      by_cases hqx : q = x
      · rintro ⟨d', e⟩; rw [hqx, REnv.set_self O] at e; exact nomatch e
      · rintro ⟨d', e⟩; rw [REnv.set_ne O _ _ hqx] at e; exact h2 ⟨d', e⟩
    · exact RepAll.move O (e1.kW X.tW' fun b q => q.1) (fun b q => .inl q) _ _ ra
structure ClosOk (B : Bs) (sc : List (Nat × NameKind)) (cl : List (Str × Addr)) (ρc : REnv) (W : Addr → Prop) (s : Shared) : Prop where
  nd : (sc.map (·.1)).Nodup
  kinds : ∀ x k, sc.lookup x = some k → k = .free ∨ k = .local ∨ k = .cell ∨ k = .globalImplicit
  free : ∀ x, sc.lookup x = some .free → ∃ c v d, cl.lookup (B.nm x) = some c ∧ s.heap.IsCell c (some v) ∧ ¬ W c ∧ ρc x = some (.sealed d) ∧ Rep B s.heap W d v
  only : ∀ x c, cl.lookup (B.nm x) = some c → sc.lookup x = some .free
  apart : cl.Pairwise fun x y => x.2 ≠ y.2
  low : ∀ z ∈ cl, z.2 < s.heap.objs.size
  rho : ∀ x e, ρc x = some e → sc.lookup x = some .free
theorem fenv_ok' {sc : List (Nat × NameKind)} {scope : Scope} {f : Nat} {cl : List (Str × Addr)} {ρc : REnv} {ps : List Nat} {args : List D} {vals : List Value} {qual : Str} {func : Option Addr} {code : Value} {E : Value → Shared → Prop} {Q : Env → Shared → Prop}
    (hn : scope.names = named B.nm sc) (hk : scope.kind = .function) (hcode : f = 0 ∨ (code = B.cd f ∧ qual = B.pq f)) (C : ClosOk B sc cl ρc W s) (g : Good B s) (tW : ∀ b, B.T b → W b) (wlt : ∀ b, W b → b < s.heap.objs.size)
    (hps : ∀ x ∈ ps, sc.lookup x = some .local ∨ sc.lookup x = some .cell) (hl : ps.length = args.length) (ra : RepAll B s.heap W args vals)
    (k : ∀ s' env (W' : Addr → Prop), Ctx B (kindsF sc f) W W' env (setArgs ps args ρc) s' → (∀ b, W' b → W b ∨ s.heap.objs.size ≤ b) → Eff B s s' → (∀ b, s.heap.objs.size ≤ b → b < s'.heap.objs.size → W' b) → env.scope = scope → Q env s') :
    wpAny B.M A (newFunctionEnv scope mainGlobals cl ((ps.map B.nm).zip vals) qual func code none builtinsNs) Q E s := by
  simp only [newFunctionEnv, Option.isSome_none, Bool.false_eq_true, if_false]
  refine wpAny_bind (wpAny_alloc ?_)
  refine wpAny_bind (wpAny_layCells _ (fun name kind cells => by cases hkc : kind == NameKind.cell <;> simp only [hkc]) _ _ _ _ ?_)
  dsimp only
  rw [hn, show (s.heap.push { cls := .type "frame", data := .dict #[] }).objs.size = s.heap.objs.size + 1 from Heap.size_push ..]
  have hL : (s.heap.push { cls := .type "frame", data := .dict #[] }).objs.size = s.heap.objs.size + 1 := Heap.size_push ..
  have hsz := pushCells_size O (named B.nm sc) (s.heap.push { cls := .type "frame", data := .dict #[] })
  have cf := fun x => cellsFrom_lookup O x sc (s.heap.push { cls := .type "frame", data := .dict #[] }) cl C.nd
  rw [hL] at cf
  generalize hh' : pushCells (s.heap.push { cls := .type "frame", data := .dict #[] }) (named B.nm sc) = h' at *
  have keep : ∀ b o, s.heap.get? b = some o → h'.get? b = some o := fun b o e => hh' ▸ pushCells_keeps _ _ b o (Heap.get?_push_of_some _ e)
  have eff : Eff B s { s with heap := h' } := size_eff O keep (by show s.heap.objs.size ≤ h'.objs.size; lia) rfl rfl
  have hcell : ∀ x c, (cellsFrom (s.heap.objs.size + 1) (named B.nm sc) cl).lookup (B.nm x) = some c → (sc.lookup x = some .cell ∧ s.heap.objs.size + 1 ≤ c ∧ c < h'.objs.size ∧ h'.IsCell c none) ∨ (sc.lookup x = some .free ∧ cl.lookup (B.nm x) = some c) := fun x c e => by
    by_cases hx : sc.lookup x = some .cell
    · obtain ⟨c', e1, e2, e3, e4⟩ := (cf x).1 hx
      obtain rfl := Option.some.inj (e1.symm.trans e)
      exact .inl ⟨hx, e2, e3, e4⟩
    · rw [(cf x).2 hx] at e
      exact .inr ⟨C.only x c e, e⟩
  let N : Addr → Prop := fun b => s.heap.objs.size ≤ b ∧ b < h'.objs.size
  let env : Env := { scope := scope, locals := s.heap.objs.size, globals := mainGlobals, cells := cellsFrom (s.heap.objs.size + 1) (named B.nm sc) cl, qual := qual, func := func, code := code, frame := some s.heap.objs.size, builtins := builtinsNs }
  have kind : ∀ x, env.kindOf (B.nm x) = sc.lookup x := fun x => by
    show scope.names.lookup (B.nm x) = _
    rw [hn, lookup_named O]
  have up : ∀ d v, Rep B s.heap W d v → Rep B h' (orP W N) d v := fun d v r => Rep.move O (fun b o _ e => keep b o e) (fun b q => q.elim .inl fun z => .inr (Heap.get?_none_of_le z.1)) d v r
  have X0 : Ctx B (kindsF sc f) W (orP W N) env ρc { s with heap := h' } := {
    good := g.move eff
    fn := hk
    glob := rfl
    blt := rfl
    tW := tW
    cW := fun b q => .inl q
    wlt := fun b q => q.elim (fun z => Nat.lt_of_lt_of_le (wlt b z) eff.size) fun z => z.2
    loc := ⟨_, Heap.Ns.keeps (Heap.Ns.new s.heap (.type "frame")) fun b o e => hh' ▸ pushCells_keeps _ _ b o e⟩
    locW := ⟨.inr ⟨Nat.le_refl _, by show s.heap.objs.size < h'.objs.size; lia⟩, fun q => Nat.lt_irrefl _ (wlt _ q)⟩
    ow := fun b q n => q.elim (fun z => absurd z n) fun z => Nat.le_trans g.size z.1
    code := hcode
    kinds := fun x kk hx => by
      refine ⟨by rw [kind x]; exact hx, fun hc => ?_⟩
      replace hx : sc.lookup x = some kk := hx
      rcases hc with rfl | rfl
      · obtain ⟨c, e, _⟩ := (cf x).1 hx
        exact ⟨c, e⟩
      · obtain ⟨c, v, d, h1, _⟩ := C.free x hx
        exact ⟨c, by show (cellsFrom (s.heap.objs.size + 1) (named B.nm sc) cl).lookup (B.nm x) = _; rw [(cf x).2 (by rw [hx]; simp)]; exact h1⟩
    cells := fun x c e => by
      rcases hcell x c e with ⟨_, h1, h2, h3⟩ | ⟨hf, h1⟩
      · exact ⟨⟨_, h3⟩, fun t => Nat.lt_irrefl _ (Nat.lt_of_lt_of_le (wlt _ (tW _ t)) (Nat.le_of_succ_le h1))⟩
      · obtain ⟨c', v, d, e1, e2, e3, _⟩ := C.free x hf
        obtain rfl := Option.some.inj (h1.symm.trans e1)
        exact ⟨⟨_, Heap.IsCell.keeps e2 keep⟩, fun t => e3 (tW _ t)⟩
    apart := cellsFrom_apart O _ _ _ (fun z hz => Nat.lt_succ_of_lt (C.low z hz)) C.apart
    cellW := fun x c e => by
      rcases hcell x c e with ⟨_, h1, h2, h3⟩ | ⟨hf, h1⟩
      · exact .inr ⟨.inr ⟨Nat.le_of_succ_le h1, h2⟩, fun q => Nat.lt_irrefl _ (Nat.lt_of_lt_of_le (wlt _ q) (Nat.le_of_succ_le h1))⟩
      · obtain ⟨c', v, d, _, _, _, e4, _⟩ := C.free x hf
        exact .inl ⟨d, e4⟩
    vars := fun x en hx => by
      have hf := C.rho x en hx
      obtain ⟨c, v, d, e1, e2, e3, e4, e5⟩ := C.free x hf
      obtain rfl := Option.some.inj (hx.symm.trans e4)
      refine ⟨v, .inr ⟨.inr (by rw [kind x]; exact hf), c, ?_, Heap.IsCell.keeps e2 keep⟩, up d v e5⟩
      show (cellsFrom (s.heap.objs.size + 1) (named B.nm sc) cl).lookup (B.nm x) = some c
      rw [(cf x).2 (by rw [hf]; simp)]; exact e1
    sealedW := fun x hx => by
      obtain ⟨d, hx⟩ := hx
      have hf := C.rho x _ hx
      obtain ⟨c, v, d', e1, e2, e3, _⟩ := C.free x hf
      refine ⟨c, ?_, fun q => q.elim e3 fun z => Nat.lt_irrefl _ (Nat.lt_of_lt_of_le e2.lt z.1)⟩
      show (cellsFrom (s.heap.objs.size + 1) (named B.nm sc) cl).lookup (B.nm x) = some c
      rw [(cf x).2 (by rw [hf]; simp)]; exact e1
    owns := fun x y l l' a hx hy lx ly => by
      have hf := C.rho x _ hx
      obtain ⟨c, v, d', _, _, _, e4, _⟩ := C.free x hf
      rw [hx] at e4; exact nomatch e4 }
  have hns : ∀ x ∈ ps, ¬ isSealed ρc x := fun x hx ⟨d, e⟩ => by
    have hf := C.rho x _ e
    rcases hps x hx with h | h <;> (rw [hf] at h; exact nomatch h)
  refine wpAny_bind (bind_loop O (pe := env) (Γ := kindsF sc f) (Wc := W) (W := orP W N) _ (fun _ _ _ => rfl) ps args vals ρc _ _ _ hl X0 (fun x hx => ⟨hps x hx, hns x hx⟩) (RepAll.move O (fun b o _ e => keep b o e) (fun b q => q.elim .inl fun z => .inr (Heap.get?_none_of_le z.1)) _ _ ra) fun s2 X2 e2 hz2 => wpAny_pure ?_)
  exact k s2 env (orP W N) X2 (fun b q => q.imp_right fun z => z.1) (EffP.toEff eff e2 (fun b q => q.1.elim (fun z => absurd z q.2) fun z => z.1) fun i q => q.elim) (fun b h1 h2 => .inr ⟨h1, by rw [hz2] at h2; exact h2⟩) rfl
theorem fenv_ok {sc : List (Nat × NameKind)} {scope : Scope} {f : Nat} {cl : List (Str × Addr)} {ρc : REnv} {ps : List Nat} {args : List D} {vals : List Value} {qual : Str} {func : Option Addr} {code : Value} {E : Value → Shared → Prop} {Q : Env → Shared → Prop}
    (hn : scope.names = named B.nm sc) (hk : scope.kind = .function) (hcode : f = 0 ∨ (code = B.cd f ∧ qual = B.pq f)) (C : ClosOk B sc cl ρc W s) (g : Good B s) (tW : ∀ b, B.T b → W b) (wlt : ∀ b, W b → b < s.heap.objs.size)
    (hps : ∀ x ∈ ps, sc.lookup x = some .local ∨ sc.lookup x = some .cell) (hl : ps.length = args.length) (ra : RepAll B s.heap W args vals)
    (k : ∀ s' env (W' : Addr → Prop), Ctx B (kindsF sc f) W W' env (setArgs ps args ρc) s' → (∀ b, W' b → W b ∨ s.heap.objs.size ≤ b) → Eff B s s' → Q env s') :
    wpAny B.M A (newFunctionEnv scope mainGlobals cl ((ps.map B.nm).zip vals) qual func code none builtinsNs) Q E s :=
  fenv_ok' O hn hk hcode C g tW wlt hps hl ra fun s' env W' X h e _ _ => k s' env W' X h e
end
inductive CodeAt (B : Bs) (fd : FuncData) : Prop
  | mk (c : Addr) (o : Obj) (vs : Array Value) (t : Tok) (e : fd.code = .ref c) (nt : ¬ B.T c) (g : B.h₀.get? c = some o) (d : o.data = .fields vs) (x : vs[1]? = some (.str fd.qualname t))
end Mine
namespace Mine
variable {B : Bs}
structure DefOk (B : Bs) (f fid : Nat) (ps : List Nat) (sc : List (Nat × NameKind)) (body : List Stmt) (fa : Addr) (fo : Obj) (fd : FuncData) : Prop where
  mg : B.mg (B.nm f) = some (.ref fa)
  nT : ¬ B.T fa
  at' : B.h₀.get? fa = some fo
  data : fo.data = .func fd
  body : fd.body = .stmts body
  names : fd.scope.names = named B.nm sc
  kind : fd.scope.kind = .function
  gen : fd.scope.isGenerator = false
  co : fd.scope.isCoroutine = false
  glob : fd.globals = mainGlobals
  blt : fd.builtins = builtinsNs
  clos : fd.closure = []
  code : CodeAt B fd
  bind : ∀ vals : List Value, vals.length = ps.length → bindArgs fd ⟨vals, []⟩ = pure ((ps.map B.nm).zip vals)
  fid : fid = 0 ∨ (fd.code = B.cd fid ∧ fd.qualname ++ (".<locals>." : Str) = B.pq fid)
  nd : (sc.map (·.1)).Nodup
  kinds : ∀ x k, sc.lookup x = some k → k = .local ∨ k = .cell ∨ k = .globalImplicit
  ps : ∀ x ∈ ps, sc.lookup x = some .local ∨ sc.lookup x = some .cell
noncomputable def capEnv (fr : List Nat) (caps : List D) : REnv := fun x => ((fr.zip caps).lookup x).map .sealed
section
variable (O : B.Ok)
include O
variable {Γ : Kinds} {ρ : REnv} {Wc W : Addr → Prop} {pe : Env} {A : Around} {s s₀ : Shared} {K N : Nat} {Φ : Phi}
theorem Good.lim (g : Good B s) : s.heap.NoLimit := by
  obtain ⟨mc, h1, h2⟩ := O.nolimit
  exact ⟨mc, Heap.Ns.moved h1 fun o e => g.base _ _ O.csT e, h2⟩
theorem def_contract {f fid : Nat} {ps : List Nat} {sc : List (Nat × NameKind)} {ss : List St} {fa : Addr} {fo : Obj} {fd : FuncData} {args : List D} {d : D} (F : DefOk B f fid ps sc (pyS B.nm ss) fa fo fd) (hK : 24 ≤ K) (P : PhiOk B K Φ) (hb : okS B ss)
    (hl : ps.length = args.length) (hev : evSs Φ N (kindsF sc fid) (setArgs ps args fun _ => none) ss = some (.rt d)) : Contract B (K + 2) f args d := by
  refine ⟨fa, fo, fd, F.mg, F.nT, F.at', F.data, fun A s W vals g R tW wlt ra => ?_⟩
  have ho := g.base _ _ F.nT F.at'
  obtain ⟨c, oc, vs, t, hc1, hc2, hc3, hc4, hc5⟩ := F.code
  have hcd : s.heap.CodeRec fd.code fd.qualname := ⟨c, oc, vs, t, hc1, g.base _ _ hc2 hc3, hc4, hc5⟩
  have hvl : vals.length = ps.length := by rw [RepAll.length ra]; omega
  refine codeAny_call_function R.lim ho F.data F.co F.gen F.body hcd ?_
  rw [F.bind vals hvl, F.glob, F.clos, F.blt]
  refine wpAny_pure ?_
  refine fenv_ok O (sc := sc) (f := fid) (ρc := fun _ => none) F.names F.kind F.fid ⟨F.nd, fun x k h => .inr (F.kinds x k h), fun x h => ?_, fun x c h => by simp at h, List.Pairwise.nil, fun z h => (by cases h), fun x e h => by cases h⟩ g tW wlt F.ps hl ra fun s1 env W' X1 hW' e1 => ?_
  · rcases F.kinds x _ h with h | h | h <;> exact nomatch h
  · refine ⟨Good.lim O (g.move e1), codeAny_func ?_⟩
    refine sndSs O (N := N) hK P ss hb _ _ _ hev _ _ _ _ _ _ _ X1 R.deeper ?_
    intro v s2 e2 r2
    exact ⟨v, rfl, EffP.toEff e1 e2 (fun b q => (hW' b q.1).elim (fun z => absurd z q.2) id) fun i q => q.elim, r2⟩
theorem lookup_zip_at : ∀ (fr : List Nat) (caps : List D) (i : Nat) (x : Nat) (d : D), fr.Nodup → fr[i]? = some x → caps[i]? = some d → (fr.zip caps).lookup x = some d
  | [], _, _, _, _, _, h, _ => by simp at h
  | _ :: _, [], _, _, _, _, _, h => by simp at h
  | y :: fr, c :: caps, 0, x, d, hn, h1, h2 => by
    simp only [List.getElem?_cons_zero, Option.some.injEq] at h1 h2
    subst h1; subst h2
    simp [List.lookup_cons]
  | y :: fr, c :: caps, i + 1, x, d, hn, h1, h2 => by
    simp only [List.nodup_cons] at hn
    simp only [List.getElem?_cons_succ] at h1 h2
    have : x ≠ y := by rintro rfl; exact hn.1 (List.mem_of_getElem? h1)
    rw [List.zip_cons_cons, List.lookup_cons, show (x == y) = false by simpa using this]
    exact lookup_zip_at fr caps i x d hn.2 h1 h2
theorem lookup_zip_mem : ∀ (fr : List Nat) (caps : List D) (x : Nat) (d : D), (fr.zip caps).lookup x = some d → x ∈ fr := fun fr caps x d h => (List.of_mem_zip (mem_of_lookupN O h)).1
theorem lookup_of_key {α : Type} : ∀ {l : List (Str × α)} {z : Str × α}, (l.map (·.1)).Nodup → z ∈ l → l.lookup z.1 = some z.2
  | [], _, _, h => by cases h
  | a :: r, z, hn, h => by
    simp only [List.map_cons, List.nodup_cons] at hn
    rcases List.mem_cons.mp h with h1 | h1
    · subst h1
      obtain ⟨z1, z2⟩ := z
      rw [List.lookup_cons]
      simp
    · have : z.1 ≠ a.1 := by
        intro e
        exact hn.1 (List.mem_map.mpr ⟨z, h1, e⟩)
      obtain ⟨a1, a2⟩ := a
      rw [List.lookup_cons, show (z.1 == a1) = false by simpa using this]
      exact lookup_of_key hn.2 h1
theorem clos_ok {L : LSpec} {cv : List Value} {caps : List D} {fd : FuncData} {sc : List (Nat × NameKind)} (l : LamAt B L cv s.heap W fd) (hfr : L.fr = freeOf sc) (hnd : (sc.map (·.1)).Nodup) (hk : ∀ x k, sc.lookup x = some k → k = .free ∨ k = .local ∨ k = .cell ∨ k = .globalImplicit)
    (rc : RepAll B s.heap W caps cv) : ClosOk B sc fd.closure (capEnv (freeOf sc) caps) W s := by
  have hmem : ∀ x, sc.lookup x = some .free ↔ x ∈ freeOf sc := fun x => by
    unfold freeOf
    simp only [List.mem_map, List.mem_filter]
    constructor
    · intro hx
      exact ⟨(x, .free), ⟨mem_of_lookupN O hx, by simp⟩, rfl⟩
    · rintro ⟨⟨y, k⟩, ⟨hm, hk⟩, rfl⟩
      have : k = .free := by simpa using hk
      subst this
      exact lookup_of_memN O hnd hm
  have hfn : (freeOf sc).Nodup := by
    unfold freeOf
    exact List.Sublist.nodup (List.Sublist.map _ List.filter_sublist) hnd
  have hlen := RepAll.length rc
  have hlen2 := l.len
  rw [hfr] at hlen2
  have free : ∀ x, sc.lookup x = some .free → ∃ c v d, fd.closure.lookup (B.nm x) = some c ∧ s.heap.IsCell c (some v) ∧ ¬ W c ∧ capEnv (freeOf sc) caps x = some (.sealed d) ∧ Rep B s.heap W d v := fun x hx => by
    obtain ⟨i, hi⟩ := List.getElem?_of_mem ((hmem x).mp hx)
    have hilt := (List.getElem?_eq_some_iff.mp hi).1
    have hv : cv[i]? = some cv[i] := List.getElem?_eq_getElem (by omega)
    have hd : caps[i]? = some caps[i] := List.getElem?_eq_getElem (by omega)
    obtain ⟨v', hv', rv⟩ := RepAll.get rc hd
    obtain rfl := Option.some.inj (hv.symm.trans hv')
    obtain ⟨c, h1, h2, h3⟩ := l.cells i x _ (by rw [hfr]; exact hi) hv
    exact ⟨c, _, _, h1, h3, h2, by unfold capEnv; rw [lookup_zip_at O _ _ i x _ hfn hi hd]; rfl, rv⟩
  refine ⟨hnd, hk, free, fun x c h => (hmem x).mpr (hfr ▸ l.only x c h), l.apart, fun z hz => ?_, fun x e h => ?_⟩
  · obtain ⟨x, hx⟩ := l.nms z hz
    have hlook : fd.closure.lookup z.1 = some z.2 := lookup_of_key O l.keys hz
    rw [hx] at hlook
    obtain ⟨c, v, d, e1, e2, _⟩ := free x ((hmem x).mpr (hfr ▸ l.only x _ hlook))
    obtain rfl := Option.some.inj (hlook.symm.trans e1)
    exact e2.lt
  · unfold capEnv at h
    rw [Option.map_eq_some_iff] at h
    obtain ⟨d, hd, _⟩ := h
    exact (hmem x).mpr (lookup_zip_mem O _ _ _ _ hd)
structure LExp (B : Bs) (id : Nat) (L : LSpec) (ps : List Nat) (sc : List (Nat × NameKind)) (e : E) : Prop where
  ls : B.LS id = some L
  body : L.body = .expr (e.py B.nm)
  names : L.scope.names = named B.nm sc
  kind : L.scope.kind = .function
  gen : L.scope.isGenerator = false
  co : L.scope.isCoroutine = false
  fr : L.fr = freeOf sc
  bind : ∀ (fd : FuncData) (vals : List Value), fd.params = L.params → fd.defaults = .none → fd.kwdefaults = .none → vals.length = ps.length → bindArgs fd ⟨vals, []⟩ = pure ((ps.map B.nm).zip vals)
  nd : (sc.map (·.1)).Nodup
  kinds : ∀ x k, sc.lookup x = some k → k = .free ∨ k = .local ∨ k = .cell ∨ k = .globalImplicit
  ps : ∀ x ∈ ps, sc.lookup x = some .local ∨ sc.lookup x = some .cell
theorem lam_contract {id : Nat} {L : LSpec} {ps : List Nat} {sc : List (Nat × NameKind)} {e : E} {caps args : List D} {r : Mine.R} {d : D} (F : LExp B id L ps sc e) (hK : 24 ≤ K) (P : PhiOk B K Φ) (hb : e.ok B)
    (hl : ps.length = args.length) (hev : ev Φ (kindsF sc 0) (setArgs ps args (capEnv (freeOf sc) caps)) e = some r) (hd : r.asD = some d) : ContractL B (K + 2) id caps args d := by
  intro fa cv A s W vals g R tW wlt hlam rc ra
  obtain ⟨L', fo, fd, hls, hg, hfd, nw, l⟩ := hlam
  rw [F.ls] at hls
  obtain rfl := Option.some.inj hls
  obtain ⟨c, oc, vs, t, hc1, hc2, _, hc4, hc5⟩ := l.code
  have hcd : s.heap.CodeRec fd.code fd.qualname := ⟨c, oc, vs, t, hc1, hc2, hc4, by rw [l.qual]; exact hc5⟩
  have hvl : vals.length = ps.length := by rw [RepAll.length ra]; omega
  refine kla_callFunE R.lim hg hfd (by rw [l.scope]; exact F.co) (by rw [l.scope]; exact F.gen) (by rw [l.body]; exact F.body) hcd ?_
  rw [F.bind fd vals l.params l.dfl.1 l.dfl.2 hvl, l.glob, l.blt]
  refine wpAny_pure ?_
  refine fenv_ok O (sc := sc) (f := 0) (ρc := capEnv (freeOf sc) caps) (by rw [l.scope]; exact F.names) (by rw [l.scope]; exact F.kind) (.inl rfl) (clos_ok O l F.fr F.nd F.kinds rc) g tW wlt F.ps hl ra fun s1 env W' X1 hW' e1 => ?_
  refine ⟨Good.lim O (g.move e1), kla_codeExpr ?_⟩
  refine useD O (sndE O hK P e hb) hev hd X1 R.deeper fun v s2 e2 X2 q2 => ?_
  exact ⟨v, rfl, e1.trans e2, Rep.less O q2 X2.cW⟩
end
end Mine
section
open PySem.Builtin PySem.Builtin.Str
namespace Mine
variable {B : Bs}
section
variable {A : Around} {s s₀ : Shared}
theorem key_lookup : isSubtype (.type "KeyError") (.type "LookupError") = pure true := by rw [isSubtype_type]; kernel_rfl
theorem tab_hit {d : Addr} {f : Int → Option Value} {c : Nat} {y : List Nat} {tk : Tok} (hm : s.heap.MapOf (intKind B.prog B.w) d f) (hv : f c = some (.str ⟨y.toArray⟩ tk)) {E : Value → Shared → Prop} {Q : Mapped → Shared → Prop}
    (k : ∀ n, Q (.text ⟨y.toArray⟩) { s with toks := n }) : wpAny B.M A (tableLookup (.ref d) c) Q E s := by
  unfold tableLookup
  refine wpAny_bind (wpAny_attempt (wpAny_bind (wpAny_mkInt ?_)))
  refine wpAny_getItem_of (knd := intKind B.prog B.w) (k := (c : Int)) (by simp [intKind, Value.isInt]) hm hv ?_
  refine wpAny_bind (wpAny_of_eq (a := none) rfl ?_)
  refine wpAny_bind (wpAny_of_eq (a := some ⟨y.toArray⟩) rfl ?_)
  exact wpAny_pure (k _)
theorem tab_miss {d : Addr} {f : Int → Option Value} {c : Nat} (hh : A.handled = none) (hd : (d == sysModules) = false) (hm : s.heap.MapOf (intKind B.prog B.w) d f) (hv : f c = none) {E : Value → Shared → Prop} {Q : Mapped → Shared → Prop}
    (k : ∀ h' n e, Heap.NewExc s.heap h' e "KeyError" → Q .keep { s with heap := h', toks := n }) : wpAny B.M A (tableLookup (.ref d) c) Q E s := by
  unfold tableLookup
  refine wpAny_bind (wpAny_attempt (wpAny_bind (wpAny_mkInt ?_)))
  refine wpAny_getItem_missing_of (knd := intKind B.prog B.w) (k := (c : Int)) (by simp [intKind, Value.isInt]) hd hh hm hv fun h' e x => ?_
  refine wpAny_bind (wpAny_isInstance (T := "KeyError") (b := true) ?_ key_lookup ?_)
  · obtain ⟨o, args, h1, h2, h3⟩ := x.there
    exact ⟨o, h1, h2⟩
  · exact wpAny_bind (wpAny_rule (wpAny_pure (k _ _ _ x)))
noncomputable def trL (g : Nat → Option (List Nat)) (l : List Nat) : List Nat := l.flatMap fun c => (g c).getD [c]
noncomputable def TabF (f : Int → Option Value) (g : Nat → Option (List Nat)) : Prop := ∀ c : Nat, match g c with
  | none => f c = none
  | some y => y.length = 2 ∧ ∃ tk, f c = some (.str ⟨y.toArray⟩ tk)
noncomputable def mapd (g : Nat → Option (List Nat)) (c : Nat) : Mapped := match g c with
  | none => .keep
  | some y => .text ⟨y.toArray⟩
theorem tab_ok {d : Addr} {f : Int → Option Value} {g : Nat → Option (List Nat)} {c : Nat} (hh : A.handled = none) (hd : (d == sysModules) = false) (hm : s.heap.MapOf (intKind B.prog B.w) d f) (ht : TabF f g) {E : Value → Shared → Prop} {Q : Mapped → Shared → Prop}
    (k : ∀ h' n, (∀ b o, s.heap.get? b = some o → h'.get? b = some o) → Q (mapd g c) { s with heap := h', toks := n }) : wpAny B.M A (tableLookup (.ref d) c) Q E s := by
  have h := ht c
  unfold mapd at k
  cases hg : g c with
  | none =>
    rw [hg] at h k
    exact tab_miss hh hd hm h fun h' n e x => k h' n x.keeps
  | some y =>
    rw [hg] at h k
    obtain ⟨_, tk, h⟩ := h
    exact tab_hit hm h fun n => k s.heap n fun _ _ e => e
theorem MapOf.keep {h h' : Heap} {d : Addr} {f : Int → Option Value} (hm : h.MapOf (intKind B.prog B.w) d f) (k : ∀ b o, h.get? b = some o → h'.get? b = some o) : h'.MapOf (intKind B.prog B.w) d f := by
  obtain ⟨o, es, ep, h1, h2⟩ := hm
  exact ⟨o, es, ep, k _ _ h1, h2⟩
structure TrI (s : Shared) (g : Nat → Option (List Nat)) (l rest : List Nat) (b : List Str × Nat × Bool × List (Nat × Option Nat) × Bool) (s' : Shared) : Prop where
  drop : b.2.2.2.2 = false
  known : ∀ x a, b.2.2.2.1.lookup x = some a → a = some x ∧ g x = none
  text : (b.1.reverse.flatMap fun p => p.cps.toList) ++ trL g rest = trL g l
  total : b.2.1 + 2 * rest.length ≤ 2 * l.length
  heap : ∃ h' n, (∀ b o, s.heap.get? b = some o → h'.get? b = some o) ∧ s' = { s with heap := h', toks := n }
theorem TrI.put {g : Nat → Option (List Nat)} {l rest : List Nat} {x : Nat} {b1 : List Str} {b2 : Nat} {b3 b3' b5 : Bool} {b4 b4' : List (Nat × Option Nat)} {s' s2 : Shared} (I : TrI s g l (x :: rest) ⟨b1, b2, b3, b4, b5⟩ s') (h4 : ∀ x a, b4'.lookup x = some a → a = some x ∧ g x = none)
    {t : Str} {m : Nat} (ht : t.cps.toList = (g x).getD [x]) (hm : m ≤ 2) (h' : Heap) (n : Nat) (hk : ∀ b o, s'.heap.get? b = some o → h'.get? b = some o) (hs : s2 = { s' with heap := h', toks := n }) : TrI s g l rest ⟨t :: b1, b2 + m, b3', b4', false⟩ s2 := by
  obtain ⟨h1, n1, hk1, rfl⟩ := I.heap
  refine ⟨rfl, h4, ?_, ?_, h', n, fun b o e => hk b o (hk1 b o e), hs⟩
  · have := I.text
    simp only [trL, List.flatMap_cons, List.reverse_cons, List.flatMap_append, List.flatMap_nil, List.append_nil, List.append_assoc] at this ⊢
    rw [ht]; exact this
  · have := I.total
    simp only [List.length_cons] at this ⊢
    lia
end
end Mine
end
section
open PySem.Builtin PySem.Builtin.Str
namespace Mine
variable {B : Bs}
section
variable {A : Around} {s s₀ : Shared}
theorem known_cons {g : Nat → Option (List Nat)} {b4 : List (Nat × Option Nat)} {x : Nat} (h4 : ∀ x a, b4.lookup x = some a → a = some x ∧ g x = none) (hg : g x = none) : ∀ y a, List.lookup y ((x, some x) :: b4) = some a → a = some y ∧ g y = none := by
  intro y a h
  rw [List.lookup_cons] at h
  split at h
  · rename_i e
    have e : y = x := by simpa using e
    obtain rfl := Option.some.inj h; exact ⟨by rw [e], by rw [e]; exact hg⟩
  · exact h4 y a h
theorem fold_text : ∀ (ps : List Str) (acc : Array Nat), ps.foldl (fun acc p => acc ++ p.cps) acc = acc ++ (ps.flatMap fun p => p.cps.toList).toArray
  | [], acc => by simp
  | p :: ps, acc => by
    rw [List.foldl_cons, fold_text ps]
    apply Array.ext'
    simp
theorem trL_le {g : Nat → Option (List Nat)} (h : ∀ c y, g c = some y → y.length = 2) : ∀ l : List Nat, (trL g l).length ≤ 2 * l.length
  | [] => by simp [trL]
  | c :: l => by
    have ih := trL_le h l
    simp only [trL, List.flatMap_cons, List.length_append, List.length_cons] at ih ⊢
    cases hg : g c with
    | none => simp only [Option.getD_none, List.length_cons, List.length_nil]; lia
    | some y => simp only [Option.getD_some]; rw [h _ _ hg]; lia
abbrev TrB := List Str × Nat × Bool × List (Nat × Option Nat) × Bool
noncomputable def trSlow (d : Value) (x : Nat) (b1 : List Str) (b2 : Nat) (b3 : Bool) (b4 : List (Nat × Option Nat)) : Sem (ForInStep TrB) := do
  match ← tableLookup d x with
  | .keep => pure (.yield (⟨#[x]⟩ :: b1, b2 + 1, b3, b4, false))
  | .drop => pure (.yield (b1, b2, b3, b4, true))
  | .char c => pure (.yield (⟨#[c]⟩ :: b1, b2 + 1, b3, b4, false))
  | .text t => pure (.yield (t :: b1, b2 + t.length, b3, b4, false))
noncomputable def trAns (d : Value) (x : Nat) (b1 : List Str) (b2 : Nat) (b3 : Bool) (b4 : List (Nat × Option Nat)) : Option (Option Nat) → Sem (ForInStep TrB)
  | some (some c) => pure (.yield (⟨#[c]⟩ :: b1, b2 + 1, b3, b4, false))
  | some none => pure (.yield (b1, b2, b3, b4, false))
  | none => rule "str.translate.fast-road-left" >>= fun _ => trSlow d x b1 b2 false b4
noncomputable def trNarrow (x : Nat) : Mapped → Option (Option Nat)
  | .keep => some (some x)
  | .drop => some none
  | .char c => if c < 128 then some (some c) else none
  | .text t => if (t.length == 1 && t.cps.all fun x => decide (x < 128)) = true then some t.cps[0]? else none
noncomputable def trPick (d : Value) (x : Nat) (b1 : List Str) (b2 : Nat) (b3 : Bool) (b4 : List (Nat × Option Nat)) (n : Option (Option Nat)) : Sem (ForInStep TrB) := match n with
  | some a => pure n >>= trAns d x b1 b2 b3 ((x, a) :: b4)
  | _ => pure n >>= trAns d x b1 b2 b3 b4
noncomputable def trFast (d : Value) (x : Nat) (b1 : List Str) (b2 : Nat) (b3 : Bool) (b4 : List (Nat × Option Nat)) : Option (Option Nat) → Sem (ForInStep TrB)
  | some a => pure (some a) >>= trAns d x b1 b2 b3 b4
  | none => tableLookup d x >>= fun m => trPick d x b1 b2 b3 b4 (trNarrow x m)
noncomputable def trRest (d : Value) (x : Nat) (b1 : List Str) (b2 : Nat) (b3 : Bool) (b4 : List (Nat × Option Nat)) : Sem (ForInStep TrB) :=
  if b3 = true then trFast d x b1 b2 b3 b4 (List.lookup x b4) else trSlow d x b1 b2 b3 b4
noncomputable def trStep (d : Value) (x : Nat) (b1 : List Str) (b2 : Nat) (b3 : Bool) (b4 : List (Nat × Option Nat)) : Sem (ForInStep TrB) :=
  if tooLong b2 = true then (unsupported "str.translate:memory" : Sem PUnit) >>= fun _ => trRest d x b1 b2 b3 b4 else trRest d x b1 b2 b3 b4
theorem wp_if_pos {M : Model} {A : Around} {α : Type} {E : Value → Shared → Prop} {s : Shared} {c : Bool} {x y : Sem α} {Q : α → Shared → Prop} (hc : c = true) (h : wpAny M A x Q E s) : wpAny M A (if c = true then x else y) Q E s := by subst hc; exact h
theorem wp_if_neg {M : Model} {A : Around} {α : Type} {E : Value → Shared → Prop} {s : Shared} {c : Bool} {x y : Sem α} {Q : α → Shared → Prop} (hc : c = false) (h : wpAny M A y Q E s) : wpAny M A (if c = true then x else y) Q E s := by subst hc; exact h
theorem translate_ok {d : Addr} {f : Int → Option Value} {g : Nat → Option (List Nat)} {l : List Nat} {tk : Tok} (hh : A.handled = none) (hd : (d == sysModules) = false) (hm : s.heap.MapOf (intKind B.prog B.w) d f) (ht : TabF f g) (hl : l.length ≤ lim)
    {E : Value → Shared → Prop} {Q : PySem.Fin → Shared → Prop}
    (k : ∀ h' n tk', (∀ b o, s.heap.get? b = some o → h'.get? b = some o) → Q (.done (.ret (.str ⟨(trL g l).toArray⟩ tk'))) { s with heap := h', toks := n }) :
    wpAny B.M A (Builtin.«str.translate» ⟨[.str ⟨l.toArray⟩ tk, .ref d], []⟩) Q E s := by
  have hline : sizeLine = 16777216 := by decide
  have htl : ∀ {c : Nat} {y : List Nat}, g c = some y → y.length = 2 := fun {c y} e => by
    have := ht c
    rw [e] at this
    exact this.1
  unfold Builtin.«str.translate»
  refine wpAny_bind (wpAny_of_eq (a := (.str ⟨l.toArray⟩ tk, ⟨l.toArray⟩, .ref d)) rfl ?_)
  by_cases h0 : ((⟨l.toArray⟩ : Str).length == 0) = true
  · refine wp_if_pos h0 ?_
    have hn : l = [] := by simpa [Str.length] using h0
    subst hn
    exact wpAny_bind (wpAny_rule (wpAny_bind (wpAny_of_eq (a := .str ⟨[].toArray⟩ tk) rfl (wpAny_pure (k s.heap s.toks tk fun _ _ e => e)))))
  · refine wp_if_neg (Bool.eq_false_iff.mpr h0) ?_
    refine wpAny_bind ?_
    refine wpAny_forIn_array' _ (fun rest b s' => TrI s g l rest b s') _ ?_ ?_ _ _ ?_
    · rintro x rest ⟨b1, b2, b3, b4, b5⟩ s' I
      have hb5 : b5 = false := I.drop
      subst hb5
      have h4 : ∀ x a, b4.lookup x = some a → a = some x ∧ g x = none := I.known
      obtain ⟨h1, n1, hk1, hs1⟩ := I.heap
      have hm1 : s'.heap.MapOf (intKind B.prog B.w) d f := by rw [hs1]; exact MapOf.keep hm hk1
      have htot : b2 + 2 * (x :: rest).length ≤ 2 * l.length := I.total
      have hT : tooLong b2 = false := by
        unfold tooLong
        unfold lim at hl
        exact decide_eq_false (by lia)
      show wpAny B.M A (trStep (.ref d) x b1 b2 b3 b4) _ _ _
      refine wp_if_neg hT ?_
      cases b3 with
      | false =>
        show wpAny B.M A (trSlow (.ref d) x b1 b2 false b4) _ _ _
        refine wpAny_bind (tab_ok hh hd hm1 ht fun h' n hk => ?_)
        unfold mapd
        cases hg : g x with
        | none => exact wpAny_pure (I.put h4 (m := 1) (by rw [hg]; rfl) (by lia) h' n hk rfl)
        | some y => exact wpAny_pure (I.put h4 (m := (⟨y.toArray⟩ : Str).length) (by rw [hg]; rfl) (by have := htl hg; simp [Str.length]; lia) h' n hk rfl)
      | true =>
        show wpAny B.M A (trFast (.ref d) x b1 b2 true b4 (List.lookup x b4)) _ _ _
        cases hlk : List.lookup x b4 with
        | some a =>
          obtain ⟨rfl, hg⟩ := h4 x a hlk
          refine wpAny_bind (wpAny_pure ?_)
          exact wpAny_pure (I.put h4 (m := 1) (by rw [hg]; rfl) (by lia) s'.heap s'.toks (fun _ _ e => e) rfl)
        | none =>
          refine wpAny_bind (tab_ok hh hd hm1 ht fun h' n hk => ?_)
          unfold mapd
          cases hg : g x with
          | none =>
            refine wpAny_bind (wpAny_pure ?_)
            exact wpAny_pure (I.put (known_cons h4 hg) (m := 1) (by rw [hg]; rfl) (by lia) h' n hk rfl)
          | some y =>
            have h2 : ((⟨y.toArray⟩ : Str).length == 1) = false := by
              have := htl hg
              simp [Str.length]; lia
            have h3 : trNarrow x (.text ⟨y.toArray⟩) = none := by
              show (if ((⟨y.toArray⟩ : Str).length == 1 && _) = true then _ else _) = _
              rw [h2]; rfl
            show wpAny B.M A (trPick (.ref d) x b1 b2 true b4 (trNarrow x (.text ⟨y.toArray⟩))) _ _ _
            rw [h3]
            refine wpAny_bind (wpAny_pure (wpAny_bind (wpAny_rule ?_)))
            refine wpAny_bind (tab_ok hh hd (MapOf.keep hm1 hk) ht fun h'' n' hk' => ?_)
            unfold mapd
            rw [hg]
            exact wpAny_pure (I.put h4 (m := (⟨y.toArray⟩ : Str).length) (by rw [hg]; rfl) (by have := htl hg; simp [Str.length]; lia) h'' n' (fun b o e => hk' b o (hk b o e)) rfl)
    · rintro ⟨b1, b2, b3, b4, b5⟩ s' I
      obtain ⟨h1, n1, hk1, rfl⟩ := I.heap
      have htot : b2 + 2 * 0 ≤ 2 * l.length := I.total
      have hT : tooLong b2 = false := by
        unfold tooLong
        unfold lim at hl
        exact decide_eq_false (by lia)
      have htx := I.text
      simp only [trL, List.flatMap_nil, List.append_nil] at htx
      dsimp only
      simp only [hT, Bool.false_eq_true, if_false]
      have he : (⟨b1.reverse.foldl (fun acc p => acc ++ p.cps) #[]⟩ : Str) = ⟨(trL g l).toArray⟩ := by
        rw [fold_text, htx]
        simp [trL]
      rw [he]
      unfold retStr
      refine wpAny_bind (wpAny_mkStr (wpAny_pure ?_) ?_)
      · exact k h1 _ _ hk1
      · have := trL_le (g := g) (fun c y e => htl e) l
        unfold lim at hl
        simp only [Str.length, List.size_toArray]
        lia
    · exact ⟨rfl, fun x a h => (by simp at h), by simp, by simp, s.heap, s.toks, fun _ _ e => e, rfl⟩
end
end Mine
end
namespace Mine
variable {B : Bs}
section
variable (O : B.Ok)
include O
variable {Γ : Kinds} {ρ : REnv} {Wc W : Addr → Prop} {pe : Env} {A : Around} {s s₀ : Shared} {K N : Nat} {Φ : Phi}
noncomputable def BodyOk (B : Bs) (K : Nat) (Γ : Kinds) (ρ : REnv) (body : List Stmt) (d : D) : Prop := ∀ Wc W pe A s (Q : Flow → Shared → Prop) (E : Value → Shared → Prop), Ctx B Γ Wc W pe ρ s → Room A K →
  (∀ v s', EffP B (ownP W Wc) s s' → Rep B s'.heap Wc d v → Q (.ret v) s') → wpAny B.M A (execs body pe) Q E s
theorem def_raw {f fid : Nat} {ps : List Nat} {sc : List (Nat × NameKind)} {body : List Stmt} {fa : Addr} {fo : Obj} {fd : FuncData} {args : List D} {d : D} (F : DefOk B f fid ps sc body fa fo fd)
    (hl : ps.length = args.length) (hb : BodyOk B K (kindsF sc fid) (setArgs ps args fun _ => none) body d) : Contract B (K + 2) f args d := by
  refine ⟨fa, fo, fd, F.mg, F.nT, F.at', F.data, fun A s W vals g R tW wlt ra => ?_⟩
  have ho := g.base _ _ F.nT F.at'
  obtain ⟨c, oc, vs, t, hc1, hc2, hc3, hc4, hc5⟩ := F.code
  have hcd : s.heap.CodeRec fd.code fd.qualname := ⟨c, oc, vs, t, hc1, g.base _ _ hc2 hc3, hc4, hc5⟩
  have hvl : vals.length = ps.length := by rw [RepAll.length ra]; lia
  refine codeAny_call_function R.lim ho F.data F.co F.gen F.body hcd ?_
  rw [F.bind vals hvl, F.glob, F.clos, F.blt]
  refine wpAny_pure ?_
  refine fenv_ok O (sc := sc) (f := fid) (ρc := fun _ => none) F.names F.kind F.fid ⟨F.nd, fun x k h => .inr (F.kinds x k h), fun x h => ?_, fun x c h => by simp at h, List.Pairwise.nil, fun z h => (by cases h), fun x e h => by cases h⟩ g tW wlt F.ps hl ra fun s1 env W' X1 hW' e1 => ?_
  · rcases F.kinds x _ h with h | h | h <;> cases h
  · refine ⟨Good.lim O (g.move e1), codeAny_func ?_⟩
    refine hb _ _ _ _ _ _ _ X1 R.deeper ?_
    intro v s2 e2 r2
    exact ⟨v, rfl, EffP.toEff e1 e2 (fun b q => (hW' b q.1).elim (fun z => absurd z q.2) id) fun i q => q.elim, r2⟩
end
end Mine
namespace Mine
variable {B : Bs}
section
variable (O : B.Ok)
include O
variable {Γ : Kinds} {ρ : REnv} {Wc W : Addr → Prop} {pe : Env} {A : Around} {s s₀ : Shared} {K N : Nat} {Φ : Phi}
theorem translate_on {d : Addr} {f : Int → Option Value} {g : Nat → Option (List Nat)} {l : List Nat} {tk : Tok} {x : Nat} {q7 q9 : Pos} (X : Ctx B Γ Wc W pe ρ s) (hk : Γ x = some .globalImplicit) (hmg : B.mg (B.nm x) = some (.ref d))
    (hh : A.handled = none) (hd : (d == sysModules) = false) (hm : s.heap.MapOf (intKind B.prog B.w) d f) (ht : TabF f g) (hl : l.length ≤ lim) {E : Value → Shared → Prop} {Q : Value → Shared → Prop}
    (k : ∀ h' n tk', (∀ b o, s.heap.get? b = some o → h'.get? b = some o) → s.heap.objs.size ≤ h'.objs.size → Q (.str ⟨(trL g l).toArray⟩ tk') { s with heap := h', toks := n }) :
    MethodOnS B.prog B.w A E (Str.ofString "translate") (.str ⟨l.toArray⟩ tk) q9 [(false, eval (.Name (B.nm x) q7) pe)] Q s := by
  refine ⟨"str", _, PySem.F.plainAttrs_str, PySem.F.slot_str_translate, PySem.F.type_str_translate, typeIs_str _ _ _, (fun _ e => nomatch e), ?_⟩
  refine Calls.callWith_builtin rfl (Calls.evalArgs_plain (Calls.spliced_cons (ld_def O X hk hmg (Calls.spliced_nil ?_))))
  refine wpAny_size ?_
  refine wpAny_call_entry PySem.F.slot_str_translate (typeIs_str _ _ _) PySem.F.entry_str_translate ?_ (PySem.F.args_str_translate_2 _ _)
  exact translate_ok (A := A.in1) hh hd hm ht hl fun h' n tk' hk => ⟨_, rfl, fun hs => k h' n tk' hk hs⟩
theorem escape_body {x : Nat} {l : List Nat} {d : Addr} {f : Int → Option Value} {g : Nat → Option (List Nat)} {a1 a2 a3 a4 a5 a6 a7 a8 a9 a10 : Pos} {els rest : List Stmt}
    (hx : ρ x = some (.fz (.str l))) (k6 : Γ 6 = some .globalImplicit) (k7 : Γ 7 = some .globalImplicit) (k24 : Γ 24 = some .globalImplicit) (hmg : B.mg (B.nm 24) = some (.ref d)) (hT : ¬ B.T d)
    (hd : (d == sysModules) = false) (hm : B.h₀.MapOf (intKind B.prog B.w) d f) (ht : TabF f g) (hl2 : (trL g l).length ≤ lim) (hline : (a6.endLine == a8.line) = true) :
    BodyOk B K Γ ρ (.If (.Call (.Name (B.nm 6) a1) [.Name (B.nm x) a2, .Name (B.nm 7) a3] [] a4) [.Return (some (.Call (.Attribute (.Name (B.nm x) a5) (B.nm 14) a6) [.Name (B.nm 24) a7] [] a8)) a9] els a10 :: rest) (.str (trL g l)) := by
  intro Wc W pe A s Q E X R k
  refine wpAny_execs_cons (wpAny_If (isTrue_plain (e := .Call (.Name (B.nm 6) a1) [.Name (B.nm x) a2, .Name (B.nm 7) a3] [] a4) (wpAny_Call_Name_kw (ld_blt O X k6 rfl ?_)) rfl))
  rw [show backTo a4 (starEach [.Name (B.nm x) a2, .Name (B.nm 7) a3] pe) = [(false, eval (.Name (B.nm x) a2) pe), (false, eval (.Name (B.nm 7) a3) pe)] from rfl]
  refine Calls.callWith_builtin rfl (Calls.evalArgs_plain (Calls.spliced_cons (name_str O hx X fun tk hl => Calls.spliced_cons (ld_blt O X k7 rfl (Calls.spliced_nil ?_)))))
  refine call_isinstance (isinstance_true (Tx := "str") (T := "str") (by rfl) (by rw [isSubtype_type]; kernel_rfl)) ⟨typeIs_str _ _ _, ?_⟩
  refine wpAny_truthy_bool ?_
  simp only [if_true]
  have hm1 : s.heap.MapOf (intKind B.prog B.w) d f := by
    obtain ⟨o, es, ep, h1, h2⟩ := hm
    exact ⟨o, es, ep, X.good.base _ _ hT h1, h2⟩
  rw [O.mnm 14 _ rfl]
  refine wpAny_execs_cons (wpAny_Return_some ?_)
  refine Call_method1 rfl rfl hline (name_str O hx X fun tk hl => translate_on O X k24 hmg R.handled hd hm1 ht hl fun h' n tk' hk hs => ?_)
  have e1 : Eff B s { s with heap := h', toks := n } := Eff.heap O n hk hs
  refine k _ _ (e1.toP _) ?_
  exact ⟨⟨tk', rfl⟩, hl2⟩
end
end Mine
namespace Mine
variable {B : Bs}
structure ClsOk (B : Bs) (KF : Frag) : Prop where
  in₀ : KF.In B.h₀
  nT : ∀ a o, KF.lookup a = some o → ¬ B.T a
  makes : makesIn KF B.C = true
  init : ∃ fI, findIn KF (.ref B.C) "__init__" = some (some (.ref fI)) ∧ typeIn KF (.ref fI) = some (.type "function")
  plain : plainOver KF B.C = true
section
variable {KF : Frag} {A : Around} {s : Shared}
theorem ClsOk.here (Z : ClsOk B KF) (g : Good B s) : KF.In s.heap := fun a o e => g.base a o (Z.nT a o e) (Z.in₀ a o e)
theorem make_thing (Z : ClsOk B KF) (g : Good B s) {rest : List Value} {R : Result → Shared → Prop}
    (hq : ∀ fI, findIn KF (.ref B.C) "__init__" = some (some (.ref fI)) → codeAny B.M (A.under (.builtin "type.__call__" ⟨.ref B.C :: rest, []⟩)) (.call (.ref fI) ⟨.ref (s.heap.objs.size + 1) :: rest, []⟩) (InitBack (s.heap.objs.size + 1) R)
      { s with heap := (s.heap.push emptyDict).push (instObj B.C s.heap.objs.size) }) :
    codeAny B.M A (.call (.ref B.C) ⟨rest, []⟩) R s := by
  have X := Z.here g
  obtain ⟨fI, h1, h2⟩ := Z.init
  obtain ⟨hh, gg, d, t, os⟩ := s
  exact make_core (makes_of X Z.makes) (looks_findIn X h1) (fun self => bind_fn X self h2) (.inl rfl) (hq fI h1)
end
end Mine
namespace Mine
variable {B : Bs}
section
variable {KF : Frag} {A : Around} {s : Shared} {R : Result → Shared → Prop} {C x : Addr}
theorem osa_heap {ox od od' : Obj} {dx : Addr} {name : Str} {tk : Tok} {v : Value} {es : List DictEntry} {n : Nat} (X : KF.In s.heap)
    (I : InstAt s.heap x ox C (some od)) (hd : ox.dict = some dx) (hp : plainOver KF C = true) (ht : takerIn KF C name = some none) (hh : (clsIn KF C).any (·.hasDict) = true)
    (hl : (lookIn name od).isSome = true) (D : s.heap.get? dx = some od)
    (e : Obj.putName name (PyData.keyHash B.w.params name) (.str name s.toks) v od = od') (e' : od'.data = .dict es.toArray n) (hz : es.length ≤ 1000)
    (h : ∀ h', Heap.SameBut dx s.heap h' → h'.get? dx = some od' → R (.ok (.ret .none)) { s with heap := h', toks := s.toks + 1 }) :
    codeAny B.M A (.call (.builtin "object.__setattr__") ⟨[.ref x, .str name tk, v], []⟩) R s := by
  refine osa_open X I hp ht fun b => ?_
  have hd' : ∃ cd, clsIn KF C = some cd ∧ cd.hasDict = true := by
    cases hc : clsIn KF C with
    | none => rw [hc] at hh; cases hh
    | some cd => rw [hc] at hh; exact ⟨cd, rfl, hh⟩
  obtain ⟨cd, hc, hd'⟩ := hd'
  have D' : (s.heap.update dx (Obj.putName name (PyData.keyHash B.w.params name) (.str name s.toks) v)).get? dx = some od' := by
    rw [Heap.get?_update_self _ D (by rw [e]; obtain ⟨_, _, dd, _⟩ := od'; cases e'; rfl), e]
  obtain ⟨hx, hcl, hn, -⟩ := I
  obtain ⟨oc, odi, oda, osl⟩ := ox
  dsimp only at hcl hd
  subst hcl hd
  refine wpAny_bind (wpAny_pure (wpAny_bind (wpAny_bind (wpAny_loadPart hx (wpAny_bind ((looks_clsIn X hc).here ?_))))))
  rw [hd']
  refine wpAny_pure (a := some dx) (wpAny_bind (wpAny_pure (wpAny_bind ?_)))
  unfold nsSet
  refine wpAny_bind (wpAny_bind (wpAny_askSetting (wpAny_pure (wpAny_bind (wpAny_mkText (wpAny_bind (wpAny_loadPart D ?_)))))))
  unfold lookIn at hl
  split at hl
  · rename_i es₀ n₀ q
    rw [q]
    dsimp only
    have c : (!es₀.any (·.key.isStr name) && es₀.any (·.refKey)) = false := by
      rw [← Array.any_toList, ← Array.any_toList]
      split at hl
      · rename_i en he
        rw [List.any_eq_true.mpr ⟨en, List.mem_of_find?_eq_some he, List.find?_some he⟩]; rfl
      · split at hl
        · exact nomatch hl
        · rename_i z; rw [Bool.not_eq_true] at z; rw [z, Bool.and_false]
    rw [aRefKeyMayBeTheName_at, c]
    refine wpAny_updatePart D ?_
    refine wpAny_bind (wpAny_lookBehind D' (by rw [e']; exact pastItsLine_dict (by rw [List.size_toArray, sizeLine_eq]; omega)) ?_)
    exact wpAny_pure (h _ (Heap.SameBut.update ..) D')
  · exact nomatch hl
end
end Mine
namespace Mine
variable {B : Bs}
section
variable {KF : Frag} {A : Around} {s : Shared} {C x : Addr}
theorem set_attr {ox od od' : Obj} {dx : Addr} {name : Str} {v : Value} {es : List DictEntry} {n : Nat} {E : Value → Shared → Prop} {Q : Unit → Shared → Prop} (X : KF.In s.heap)
    (I : InstAt s.heap x ox C (some od)) (hs : findIn KF (.ref C) "__setattr__" = some (some (.builtin "object.__setattr__"))) (hd : ox.dict = some dx) (hp : plainOver KF C = true) (ht : takerIn KF C name = some none) (hh : (clsIn KF C).any (·.hasDict) = true)
    (hl : (lookIn name od).isSome = true) (D : s.heap.get? dx = some od)
    (e : Obj.putName name (PyData.keyHash B.w.params name) (.str name (s.toks + 1)) v od = od') (e' : od'.data = .dict es.toArray n) (hz : es.length ≤ 1000)
    (h : ∀ h', Heap.SameBut dx s.heap h' → h'.get? dx = some od' → Q () { s with heap := h', toks := s.toks + 2 }) :
    wpAny B.M A (setAttr (.ref x) name v) Q E s := by
  refine wpAny_bind (wpAny_mkText (wpAny_bind (wpAny_bind (wpAny_bind (I.type.here (s := { s with toks := s.toks + 1 }) ((looks_findIn X hs).here (s := { s with toks := s.toks + 1 }) (wpAny_holding (wpAny_bind ?_))))))))
  rw [PySem.F.store_object.slot.bind]
  refine wpAny_pure (wpAny_bind (wpAny_call ?_))
  refine osa_heap (B := B) (s := { s with toks := s.toks + 1 }) X I hd hp ht hh hl D e e' hz fun h' s1 s2 => ?_
  exact wpAny_pure (wpAny_pure (h h' s1 s2))
end
end Mine
namespace Mine
variable {B : Bs}
structure SetOk (B : Bs) (KF : Frag) : Prop where
  z : ClsOk B KF
  set : findIn KF (.ref B.C) "__setattr__" = some (some (.builtin "object.__setattr__"))
  taker : ∀ f, f = 19 ∨ f = 20 ∨ f = 21 → takerIn KF B.C (B.nm f) = some none
  hasDict : (clsIn KF B.C).any (·.hasDict) = true
  keep : keepIn KF (.ref B.C) = true
structure InitFn (B : Bs) (KF : Frag) (slf : Nat) (fI : Addr) (fo : Obj) (fd : FuncData) (p1 p2 p3 p4 : Pos) : Prop where
  find : findIn KF (.ref B.C) "__init__" = some (some (.ref fI))
  nT : ¬ B.T fI
  at' : B.h₀.get? fI = some fo
  data : fo.data = .func fd
  body : fd.body = .stmts [.Assign [.Attribute (.Name (B.nm slf) p1) (B.nm 19) p2] (.Name (B.nm 19) p3) p4]
  names : fd.scope.names = named B.nm [(slf, .local), (19, .local)]
  kind : fd.scope.kind = .function
  gen : fd.scope.isGenerator = false
  co : fd.scope.isCoroutine = false
  glob : fd.globals = mainGlobals
  blt : fd.builtins = builtinsNs
  clos : fd.closure = []
  code : CodeAt B fd
  bind : ∀ a b : Value, bindArgs fd ⟨[a, b], []⟩ = pure [(B.nm slf, a), (B.nm 19, b)]
noncomputable abbrev odict (P : Params) (ks vs : List Value) (n : Nat) : Obj := { cls := .type "dict", dict := none, data := .dict (ents P ks vs).toArray n, slots := #[] }
theorem instAt_of {h : Heap} {x dx C : Addr} {od : Obj} (hx : h.get? x = some (instObj C dx)) (hd : h.get? dx = some od) : InstAt h x (instObj C dx) C (some od) := ⟨hx, rfl, rfl, hd⟩
section
variable (O : B.Ok)
include O
variable {KF : Frag} {A : Around} {s : Shared} {W : Addr → Prop}
theorem put_first {P : Params} {x : Nat} {tk : Tok} {v : Value} : Obj.putName (B.nm x) (PyData.keyHash P (B.nm x)) (.str (B.nm x) tk) v emptyDict = odict P [.str (B.nm x) tk] [v] 1 := rfl
theorem put_second {P : Params} {x y : Nat} {tx ty : Tok} {v w : Value} {n : Nat} (h : x ≠ y) : Obj.putName (B.nm y) (PyData.keyHash P (B.nm y)) (.str (B.nm y) ty) w (odict P [.str (B.nm x) tx] [v] n) = odict P [.str (B.nm x) tx, .str (B.nm y) ty] [v, w] (n + 1) := by
  have e : (B.nm x == B.nm y) = false := by
    rw [beq_eq_false_iff_ne]
    exact fun e => h (O.inj _ _ e)
  rw [Obj.putName_eq]
  simp [Obj.putNameByArray, ents, Value.isStr, e, keyOf]
theorem look_first {x : Nat} : (lookIn (B.nm x) emptyDict).isSome = true := rfl
theorem look_second {P : Params} {x y : Nat} {tx : Tok} {v : Value} {n : Nat} (h : x ≠ y) : (lookIn (B.nm y) (odict P [.str (B.nm x) tx] [v] n)).isSome = true := by
  have e : (B.nm x == B.nm y) = false := by
    rw [beq_eq_false_iff_ne]
    exact fun e => h (O.inj _ _ e)
  simp [lookIn, ents, Value.isStr, e, DictEntry.refKey]
theorem init_run {slf : Nat} {fI : Addr} {fo : Obj} {fd : FuncData} {p1 p2 p3 p4 : Pos} (Z : SetOk B KF) (F : InitFn B KF slf fI fo fd p1 p2 p3 p4) (hne : slf ≠ 19) (g : Good B s) (R : Room A 4) {x dx : Addr} {v : Value} {RR : Result → Shared → Prop}
    (hx : s.heap.get? x = some (instObj B.C dx)) (hd : s.heap.get? dx = some emptyDict) (hT : ¬ B.T dx) (hTx : ¬ B.T x)
    (k : ∀ s' tk, EffP B ⟨fun b => b = dx, fun _ => False⟩ s s' → s'.heap.get? dx = some (odict B.w.params [.str (B.nm 19) tk] [v] 1) → RR (.ok (.ret .none)) s') :
    codeAny B.M A (.call (.ref fI) ⟨[.ref x, v], []⟩) RR s := by
  have ho := g.base _ _ F.nT F.at'
  obtain ⟨c, oc, vs, t, hc1, hc2, hc3, hc4, hc5⟩ := F.code
  have hcd : s.heap.CodeRec fd.code fd.qualname := ⟨c, oc, vs, t, hc1, g.base _ _ hc2 hc3, hc4, hc5⟩
  refine codeAny_call_function R.lim ho F.data F.co F.gen F.body hcd ?_
  rw [F.bind, F.glob, F.clos, F.blt]
  refine wpAny_pure ?_
  have nn : B.nm slf ≠ B.nm 19 := fun e => hne (O.inj _ _ e)
  have hk1 : fd.scope.names.lookup (B.nm slf) = some .local := by rw [F.names, lookup_named O]; simp
  have hk2 : fd.scope.names.lookup (B.nm 19) = some .local := by rw [F.names, lookup_named O]; simp [List.lookup_cons, show (19 == slf) = false by simpa using hne.symm]
  refine wpAny_newFunctionEnv (fun y hy => ?_) (fun y hy => ?_) (fun h1 n1 sb => ?_) F.kind
  · rw [F.names] at hy
    simp only [named, List.map_cons, List.map_nil, List.mem_cons, List.not_mem_nil, or_false] at hy
    rcases hy with rfl | rfl <;> simp
  · simp only [List.mem_cons, List.not_mem_nil, or_false] at hy
    rcases hy with rfl | rfl
    · exact hk1
    · exact hk2
  · have e1 : Eff B s { s with heap := h1, toks := s.toks + 2 } := Eff.heap O _ (fun b o e => sb.extBut b o (fun q => absurd (Heap.lt_size e) (by rw [q]; exact Nat.lt_irrefl _)) (Heap.get?_push_of_some _ e)) (by rw [sb.1, Heap.size_push]; lia)
    refine ⟨Good.lim O (g.move e1), codeAny_func ?_⟩
    have X1 := Z.z.here (g.move e1)
    have hx1 := e1.keep x _ hTx hx
    have hd1 := e1.keep dx _ hT hd
    refine wpAny_execs_cons (plainObj_wpAny_Assign_Attribute (wpAny_Name (wpAny_loadName_local F.kind hk2 n1 (v := v) (by simp [List.lookup_cons]) ?_) (O.dbg 19)))
    refine wpAny_Name (wpAny_loadName_local F.kind hk1 n1 (v := .ref x) (by simp [List.lookup_cons, show (B.nm slf == B.nm 19) = false from beq_eq_false_iff_ne.mpr nn]) ?_) (O.dbg slf)
    refine set_attr (B := B) X1 (instAt_of hx1 hd1) Z.set rfl Z.z.plain (Z.taker 19 (.inl rfl)) Z.hasDict (look_first O) hd1 (put_first O) rfl (by simp [ents]) fun h2 sb2 g2 => ?_
    refine wpAny_execs_nil ?_
    refine k _ _ ?_ g2
    exact (e1.toP _).trans (eff_at O hT (fun o e n => by obtain rfl := Option.some.inj (hd1.symm.trans e); exact absurd n.1 (by simp)) sb2) (fun b q => .inl q) fun i q => q.elim
theorem Room.make {k : Nat} {args : Args} (R : Room A (k + 2)) : Room (A.under (.builtin "type.__call__" args)) k := by
  have hf : (Code.builtin "type.__call__" args).frames ≤ 1 := by
    have : (Code.builtin "type.__call__" args).frames = if (Code.builtin "type.__call__" args).isFrame then 1 else 0 := rfl
    rw [this]; split <;> lia
  have hw : (Code.builtin "type.__call__" args).weight ≤ 2 := by
    have h1 : (Code.builtin "type.__call__" args).isGuard = false := by rfl
    have h2 : (Code.builtin "type.__call__" args).isCaller = false := by rfl
    unfold Code.weight
    rw [h1, h2]
    simp only [Bool.false_eq_true, if_false]
    split <;> lia
  have hu : (Code.builtin "type.__call__" args).cUnits ≤ 6 := by
    show 1 + 3 * (Code.builtin "type.__call__" args).frames ≤ 6
    lia
  exact ⟨R.handled, by have := R.depth; show A.depth + _ + k < 950; lia, by have := R.units; show A.units + _ + 3 * k + 300 < cLine; lia⟩
theorem make_root {slf : Nat} {fI : Addr} {fo : Obj} {fd : FuncData} {p1 p2 p3 p4 : Pos} (Z : SetOk B KF) (F : InitFn B KF slf fI fo fd p1 p2 p3 p4) (hne : slf ≠ 19) (g : Good B s) (R : Room A 6) {v : Value} {RR : Result → Shared → Prop}
    (k : ∀ s' x dx tk, Eff B s s' → s.heap.objs.size ≤ x → s.heap.objs.size ≤ dx → s'.heap.get? x = some (instObj B.C dx) → s'.heap.get? dx = some (odict B.w.params [.str (B.nm 19) tk] [v] 1) → RR (.ok (.ret (.ref x))) s') :
    codeAny B.M A (.call (.ref B.C) ⟨[v], []⟩) RR s := by
  refine make_thing Z.z g fun f hf => ?_
  rw [F.find] at hf
  cases hf
  have hn : ∀ b, s.heap.objs.size ≤ b → ¬ B.T b := fun b hb t => Nat.lt_irrefl _ (Nat.lt_of_lt_of_le (O.tilow _ t) (Nat.le_trans g.size hb))
  have e1 : Eff B s { s with heap := (s.heap.push emptyDict).push (instObj B.C s.heap.objs.size), toks := s.toks } := Eff.heap O _ (fun b o e => Heap.get?_push_of_some _ (Heap.get?_push_of_some _ e)) (by simp only [Heap.size_push]; lia)
  have hx : ((s.heap.push emptyDict).push (instObj B.C s.heap.objs.size)).get? (s.heap.objs.size + 1) = some (instObj B.C s.heap.objs.size) := by heap_get
  have hd : ((s.heap.push emptyDict).push (instObj B.C s.heap.objs.size)).get? s.heap.objs.size = some emptyDict := by heap_get
  refine init_run O Z F hne (g.move e1) (Room.make O R) hx hd (hn _ (Nat.le_refl _)) (hn _ (Nat.le_succ _)) fun s2 tk e2 g2 => ?_
  refine ⟨rfl, ?_⟩
  refine k s2 (s.heap.objs.size + 1) s.heap.objs.size tk (EffP.toEff e1 e2 (fun b q => by rw [q]; exact Nat.le_refl _) fun i q => q.elim) (Nat.le_succ _) (Nat.le_refl _) ?_ g2
  exact e2.keep _ _ (hn _ (Nat.le_succ _)) (fun q => by simp at q) hx
end
end Mine
namespace Mine
variable {B : Bs}
section
variable (O : B.Ok)
include O
variable {KF : Frag} {Γ : Kinds} {ρ : REnv} {Wc W : Addr → Prop} {pe : Env} {A : Around} {s : Shared} {K : Nat} {Φ : Phi}
theorem Loc.ns {h : Heap} {x : Nat} {v : Value} (hk : pe.kindOf (B.nm x) = some .local) (l : Loc B pe h x v) : ∃ m, h.Ns pe.locals m ∧ m (B.nm x) = some v := by
  rcases l with ⟨k, m, n, q⟩ | ⟨k, _⟩
  · exact ⟨m, n, q⟩
  · rw [hk] at k; rcases k with k | k <;> cases k
theorem thing_body {slf : Nat} {fI : Addr} {fo : Obj} {fd : FuncData} {p1 p2 p3 p4 : Pos} (Z : SetOk B KF) (F : InitFn B KF slf fI fo fd p1 p2 p3 p4) (hne : slf ≠ 19) (hK : 20 ≤ K) {x t f : Nat} {e : E} {d1 d2 : D} {q1 q2 q3 q4 q5 q6 q7 q8 q9 q10 : Pos}
    (hC : B.mg (B.nm 23) = some (.ref B.C)) (k23 : Γ 23 = some .globalImplicit) (kx : Γ x = some .local) (kt : Γ t = some .local) (hxt : x ≠ t) (ht : ρ t = some (.fz d2)) (hf : f = 20 ∨ f = 21) (he : Snd B K Φ e) (hev : ev Φ Γ ρ e = some (.d d1)) :
    BodyOk B K Γ ρ [.Assign [.Name (B.nm x) q1] (.Call (.Name (B.nm 23) q2) [e.py B.nm] [] q3) q4, .Assign [.Attribute (.Name (B.nm x) q5) (B.nm f) q6] (.Name (B.nm t) q7) q8, .Return (some (.Name (B.nm x) q9)) q10] (.thing [19, f] [d1, d2]) := by
  intro Wc W pe A s Q E X R k
  have hf19 : (19 : Nat) ≠ f := by rcases hf with rfl | rfl <;> decide
  have kx' := (X.kinds x _ kx).1
  have kt' := (X.kinds t _ kt).1
  have nxt : (B.nm t = B.nm x) = False := by
    simp only [eq_iff_iff, iff_false]
    exact fun e => hxt (O.inj _ _ e).symm
  refine wpAny_execs_cons (wpAny_Assign_Name (wpAny_Call_Name_kw (ld_def O X k23 hC ?_)) rfl)
  refine callWith_K (Z.z.here X.good) Z.keep ?_ (starEach_py _ _ _ _) rfl
  rw [show backTo q3 (starEach [e.py B.nm] pe) = [(false, eval (e.py B.nm) pe)] from (backTo_py O B.nm q3 pe [e]).trans (by rw [x_pyL_cons, starEach_py]; rfl)]
  refine Calls.spliced_cons (useD O he hev rfl X R fun v s1 e1 X1 r1 => Calls.spliced_nil ⟨Z.z.here X1.good, ?_⟩)
  refine wpAny_call (make_root O Z F hne X1.good (R.less (by lia)) fun s2 xx dx tk e2 hx hdx gx gd => ?_)
  have X2 := X1.move O e2
  obtain ⟨w, lw, rw1⟩ := X1.vars t _ ht
  obtain ⟨m1, n1, hm1⟩ := Loc.ns O kt' lw
  have LT : ¬ B.T pe.locals := fun q => X.locW.2 (X.tW _ q)
  have n2 := Heap.Ns.moved n1 fun o y => e2.keep _ _ LT y
  have hL : pe.locals < s1.heap.objs.size := X1.wlt _ X1.locW.1
  have nl : ∀ b, s1.heap.objs.size ≤ b → b ≠ pe.locals := fun b hb q => Nat.lt_irrefl _ (Nat.lt_of_lt_of_le hL (q ▸ hb))
  have new : ∀ b, s1.heap.objs.size ≤ b → ¬ B.T b := fun b hb t => Nat.lt_irrefl _ (Nat.lt_of_lt_of_le (O.tilow _ t) (Nat.le_trans X1.good.size hb))
  refine wpAny_storeName_local kx' n2 (fun h3 n3 sb3 => ?_) (by simp [X.fn])
  have e3 : EffP B (ownP W Wc) s2 { s2 with heap := h3, toks := s2.toks + 1 } := (eff_at O LT (ns_nc n2) sb3).mono (fun b q => q ▸ X.locW) fun i q => q
  have gx3 : h3.get? xx = some (instObj B.C dx) := sb3.extBut _ _ (nl _ hx) gx
  have gd3 : h3.get? dx = some (odict B.w.params [.str (B.nm 19) tk] [v] 1) := sb3.extBut _ _ (nl _ hdx) gd
  refine wpAny_execs_cons (plainObj_wpAny_Assign_Attribute (wpAny_Name (wpAny_loadName_local X.fn kt' n3 (v := w) (by simp only [nxt, if_false]; exact hm1) ?_) (O.dbg t)) rfl)
  refine wpAny_Name (wpAny_loadName_local X.fn kx' n3 (v := .ref xx) (by simp) ?_) (O.dbg x)
  refine set_attr (B := B) (Z.z.here (Good.own O X2.good X2.ow e3)) (instAt_of gx3 gd3) Z.set rfl Z.z.plain (Z.taker f (by rcases hf with rfl | rfl <;> simp)) Z.hasDict (look_second O hf19) gd3 (put_second O hf19) rfl (by simp [ents]) fun h4 sb4 g4 => ?_
  have n4 : h4.Ns pe.locals _ := Heap.Ns.moved n3 fun o y => sb4.extBut _ _ (nl _ hdx).symm y
  refine wpAny_execs_cons (wpAny_Return_some (wpAny_Name (wpAny_loadName_local X.fn kx' n4 (v := .ref xx) (by simp) ?_) (O.dbg x)))
  have e4 : EffP B ⟨fun b => b = dx, fun _ => False⟩ { s2 with heap := h3, toks := s2.toks + 1 } { s2 with heap := h4, toks := s2.toks + 1 + 2 } := eff_at (s := { s2 with heap := h3, toks := s2.toks + 1 }) O (new _ hdx) (fun o e n => by obtain rfl := Option.some.inj (gd3.symm.trans e); exact absurd n.1 (by simp)) sb4
  have e13 : EffP B (ownP W Wc) s1 { s2 with heap := h3, toks := s2.toks + 1 } := (e2.toP _).trans e3 (fun b q => .inl q) fun i q => q.elim
  have e14 : EffP B (ownP W Wc) s1 { s2 with heap := h4, toks := s2.toks + 1 + 2 } := e13.trans e4 (fun b q => .inr (by rw [q]; exact hdx)) fun i q => q.elim
  refine k _ _ ((e1.toP _).trans e14 (fun b q => .inl q) fun i q => q.elim) ?_
  have mv : ∀ d v, Rep B s1.heap W d v → Rep B h4 Wc d v := fun d v r => Rep.move O (e14.kW X.tW' fun b q => q.1) (fun b q => .inl (X.cW b q)) d v r
  simp only [Rep]
  have low : ∀ b, s1.heap.objs.size ≤ b → ¬ Wc b := fun b hb q => Nat.lt_irrefl _ (Nat.lt_of_lt_of_le (X1.wlt _ (X.cW _ q)) hb)
  exact ⟨xx, dx, _, [tk, _], [v, w], rfl, low _ hx, sb4.extBut _ _ (by
    intro q
    rw [q, gd3] at gx3
    cases gx3) gx3, low _ hdx, g4, rfl, rfl, RepAll.cons (mv _ _ r1) (RepAll.cons (mv _ _ rw1) RepAll.nil)⟩
end
end Mine
section
open PySem PySem.W PySem.W.X PySem.Calls PyProof.Rows
namespace Mine
variable {B : Bs} {K : Nat}
structure GStay (B : Bs) (F : Addr → Prop) (p : Pv) (s s' : Shared) : Prop where
  keep : ∀ b o, ¬ B.T b → (F b ∨ p.a b) → s.heap.get? b = some o → s'.heap.get? b = some o
  ck : ∀ b o, isCodeO o → s.heap.get? b = some o → s'.heap.get? b = some o
  size : s.heap.objs.size ≤ s'.heap.objs.size
  gens : ∀ (i : Nat) (x : GenState), p.g i → s.gens[i]? = some x → s'.gens[i]? = some x
structure GStat (B : Bs) (F : Addr → Prop) (p : Pv) (s : Shared) : Prop where
  a : ∀ b, p.a b → ¬ F b ∧ ¬ B.T b ∧ b < s.heap.objs.size
  g : ∀ i, p.g i → i < s.gens.size
  f : ∀ b, F b → ¬ B.T b
theorem GStay.trans {F : Addr → Prop} {p : Pv} {s s' s'' : Shared} (x : GStay B F p s s') (y : GStay B F p s' s'') : GStay B F p s s'' :=
  ⟨fun b o t q e => y.keep b o t q (x.keep b o t q e), fun b o c e => y.ck b o c (x.ck b o c e), Nat.le_trans x.size y.size, fun i z q e => y.gens i z q (x.gens i z q e)⟩
inductive GMore (B : Bs) (K : Nat) (F : Addr → Prop) (d : D) (P : Pv → Shared → End → Shared → Prop) (p : Pv) (s : Shared) (e : End) (s' : Shared) : Prop
  | mk (v : Value) (l' : _) (k : _) (c : Code) (q : _) (fs : List Frame) (p' : Pv) (ee : e = .susp v false l' k c q fs) (gd : fs.any Frame.guarded = false) (ef : EffP B p s s') (h1 : ∀ b, p.a b → p'.a b) (h2 : ∀ b, p'.a b → p.a b ∨ s.heap.objs.size ≤ b) (h3 : p'.g = p.g)
      (r : Rep B s'.heap (fun b => ¬ F b) d v) (st : GStat B F p' s') (sg : ∀ A s2, GStay B F p' s' s2 → Good B s2 → Room A K → SegX B.M A c (k (.send .none)) fs s2 (P p' s2))
noncomputable def GPost (B : Bs) (K : Nat) (F : Addr → Prop) : List D → Pv → Shared → End → Shared → Prop
  | [], p, s, e, s' => e = .ret (.ok (.ret .none)) ∧ EffP B p s s'
  | d :: l, p, s, e, s' => GMore B K F d (GPost B K F l) p s e s'
inductive GEx (B : Bs) (K : Nat) (F : Addr → Prop) (it : Addr) (l : List D) (p : Pv) (s : Shared) : Prop
  | mk (p₀ : Pv) (g : Nat) (gs : GenState) (c : Code) (t : Sem PySem.Fin) (fs : List Frame) (e : p = ⟨fun b => p₀.a b ∨ b = it, fun i => p₀.g i ∨ i = g⟩) (ig : s.heap.IsGen it g) (hg : s.gens[g]? = some gs) (st : GStat B F p₀ s) (na : ¬ p₀.a it) (ng : ¬ p₀.g g)
      (lv : (gs = .fresh c ∧ t = denote table c ∧ fs = []) ∨ (∃ k l₀ q cl, gs = .suspended k l₀ c q fs cl ∧ t = k (.send .none)))
      (sg : ∀ A s2, GStay B F p₀ s s2 → Good B s2 → Room A K → SegX B.M A c t fs s2 (GPost B K F l p₀ s2))
structure GI (B : Bs) (K : Nat) (F : Addr → Prop) (it : Addr) (l : List D) (p : Pv) (s : Shared) : Prop where
  ex : GEx B K F it l p s
  low : ¬ F it ∧ ¬ B.T it ∧ it < s.heap.objs.size
theorem GStat.stay {F : Addr → Prop} {p : Pv} {s s' : Shared} (x : GStat B F p s) (y : s.heap.objs.size ≤ s'.heap.objs.size) (z : s.gens.size ≤ s'.gens.size) : GStat B F p s' :=
  ⟨fun b q => ⟨(x.a b q).1, (x.a b q).2.1, Nat.lt_of_lt_of_le (x.a b q).2.2 y⟩, fun i q => Nat.lt_of_lt_of_le (x.g i q) z, x.f⟩
section
variable (O : B.Ok)
include O
omit O in
theorem setGen_get {s : Shared} {n i : Nat} {g : GenState} {x : GenState} (hne : i ≠ n) (e : s.gens[i]? = some x) : (s.setGen n g).gens[i]? = some x := by
  show (s.gens.setIfInBounds n g)[i]? = some x
  rw [Array.getElem?_setIfInBounds_ne (Ne.symm hne)]; exact e
omit O in
theorem setGen_eff {p₀ : Pv} {it : Addr} {n : Nat} (s : Shared) (g : GenState) (hb : g.bare = true) : EffP B ⟨fun b => p₀.a b ∨ b = it, fun i => p₀.g i ∨ i = n⟩ s (s.setGen n g) :=
  ⟨fun _ _ _ _ e => e, fun _ _ _ e => e, Nat.le_refl _, id, fun i x q e => setGen_get (fun z => q (.inr z)) e, by show _ ≤ (s.gens.setIfInBounds n g).size; simp, fun hb' x hx => (Array.mem_or_eq_of_mem_setIfInBounds hx).elim (hb' x) fun h => h ▸ hb, rfl⟩
omit O in
theorem st_room {b : GenStatus} (hb : b = .fresh ∨ b = .suspended) {α : Type} {k : PUnit → Sem α} {A : Around} {E : Value → Shared → Prop} {Q : α → Shared → Prop} {s : Shared} (h : wpAny B.M A (roomToWake >>= k) Q E s) :
    wpAny B.M A (match b with | .fresh => roomToWake >>= k | .suspended => roomToWake >>= k | _ => k ⟨⟩) Q E s := by rcases hb with rfl | rfl <;> exact h
omit O in
theorem pyNext_gen {it : Addr} {n : Nat} {gs : GenState} {s : Shared} {A : Around} {E : Value → Shared → Prop} {Q : Option Value → Shared → Prop} (hg : s.heap.IsGen it n) (hgs : s.gens[n]? = some gs) (hb : gs.status = .fresh ∨ gs.status = .suspended) (lim : s.heap.NoLimit) (hroom : A.depth < recursionLimit) (hh : A.handled = none)
    (h : ∀ (kk : GenResult → Sem PySem.Fin) (Q' : PySem.Fin → Shared → Prop) (E' : Value → Shared → Prop), (∀ v s', Q (some v) s' → wpAny B.M A.in1 (kk (.yielded v)) Q' E' s') →
      (∀ s', (∀ h' tk, (∀ b o, s'.heap.get? b = some o → h'.get? b = some o) → s'.heap.objs.size ≤ h'.objs.size → Q none { s' with heap := h', toks := tk }) → wpAny B.M A.in1 (kk (.returned .none)) Q' E' s') → wpAny B.M A.in1 (.resume n (.send .none) [] kk) Q' E' s) : wpAny B.M A (pyNext (.ref it)) Q E s := by
  unfold pyNext
  refine wpAny_bind (wpAny_attempt (wpAny_callSpecial?_slot (name := Str.ofString "__next__") hg.typeIs slot_gen_next
    (wpAny_call_entry slot_gen_next hg.typeIs entry_gen_next ?_ (args_gen_next _))))
  show wpAny _ A.in1 (Builtin.Generator.genWake (.ref it) (.send .none)) _ _ s
  unfold Builtin.Generator.genWake
  refine wpAny_bind (wpAny_holding (wpAny_genNumber hg (wpAny_bind (wpAny_genState hgs ?_))))
  refine st_room hb (wpAny_bind (wpAny_roomToWake lim hroom ?_))
  refine h _ _ _ (fun v s' q => wpAny_pure ⟨v, rfl, wpAny_pure q⟩) fun s' q => ?_
  show wpAny _ A.in1 (newExc (.type "StopIteration") [] >>= _) _ _ _
  refine wpAny_bind ?_
  simp only [newExc, newTuple]
  refine wpAny_bind (wpAny_newObj_type ?_ (by size_fits))
  refine wpAny_bind (m := firstArgMember _ _) (wpAny_of_eq (a := Value.none) (by first | rfl | (simp only [firstArgMember]; rfl)) ?_)
  refine wpAny_newObj_type ?_ (by size_fits)
  simp only [raiseNew]
  refine wpAny_bind (wpAny_bind (wpAny_handled ?_))
  first | rw [show A.in1.handled = none from hh] | rw [hh]
  refine wpAny_throw ?_
  refine wpAny_bind (wpAny_isInstance (T := "StopIteration") (b := true) ⟨_, Heap.get?_push_size _ rfl, rfl⟩ isSubtype_stop ?_)
  exact wpAny_pure (q _ _ (fun b o e => Heap.get?_push_of_some _ (Heap.get?_push_of_some _ e)) (by simp only [Heap.size_push]; lia))
theorem gen_next {F : Addr → Prop} {it : Addr} {l : List D} {p : Pv} {s : Shared} {A : Around} {E : Value → Shared → Prop} {Q : Option Value → Shared → Prop} (h : GI B K F it l p s) (g : Good B s) (R : Room A (K + 1))
    (k : match l with
      | [] => ∀ s', EffP B p s s' → Q none s'
      | d :: l => ∀ v s' p', EffP B p s s' → (∀ b, p.a b → p'.a b) → (∀ b, p'.a b → p.a b ∨ s.heap.objs.size ≤ b) → p'.g = p.g → Rep B s'.heap (fun b => ¬ F b) d v → GI B K F it l p' s' → Q (some v) s') :
    wpAny B.M A (pyNext (.ref it)) Q E s := by
  obtain ⟨⟨p₀, n, gs, c, t, fs, rfl, hg, hgs, hst, hnit, hng, hlive, hseg⟩, hlow⟩ := h
  have hnlt : n < s.gens.size := (Array.getElem?_eq_some_iff.mp hgs).1
  have lim := Good.lim O g
  have stay : GStay B F p₀ s (s.setGen n .running) := ⟨fun _ _ _ _ e => e, fun _ _ _ e => e, Nat.le_refl _, fun i x q e => setGen_get (fun z => hng (z ▸ q)) e⟩
  have run := hseg A.in1 (s.setGen n .running) stay ⟨g.base, g.size, g.ti⟩ R.in1
  have e0 : EffP B ⟨fun b => p₀.a b ∨ b = it, fun i => p₀.g i ∨ i = n⟩ s (s.setGen n .running) := setGen_eff s _ rfl
  have setE : ∀ (s₁ : Shared) (gs' : GenState), gs'.bare = true → EffP B ⟨fun b => p₀.a b ∨ b = it, fun i => p₀.g i ∨ i = n⟩ s₁ (s₁.setGen n gs') := setGen_eff
  have up : ∀ {s₁ : Shared}, EffP B p₀ (s.setGen n .running) s₁ → EffP B ⟨fun b => p₀.a b ∨ b = it, fun i => p₀.g i ∨ i = n⟩ s s₁ := fun e => e0.trans (e.mono (p' := ⟨fun b => p₀.a b ∨ b = it, fun i => p₀.g i ∨ i = n⟩) (fun b q => .inl q) fun i q => .inl q) (fun b q => .inl q) fun i q => .inl q
  have wake : ∀ {α : Type} {kk : GenResult → Sem α} {Q' : α → Shared → Prop} {E' : Value → Shared → Prop}, (∀ e s₁, GPost B K F l p₀ (s.setGen n .running) e s₁ → wpAny B.M A.in1 (kk e.result) Q' E' (s₁.setGen n e.genState)) → wpAny B.M A.in1 (.resume n (.send .none) [] kk) Q' E' s := by
    intro α kk Q' E' hk Γ p hΓ
    refine wake_any α B.prog B.w hgs ?_ (fun Γ => Γ.In A.in1) (fun _ h => h) (run.mono fun e s₁ he Γ p hΓ => hk e s₁ he Γ p hΓ) Γ p hΓ
    rcases hlive with ⟨h1, h2, h3⟩ | ⟨k', l₀, q, cl, h1, h2⟩
    · exact .inl ⟨h1, rfl, h2, h3⟩
    · exact .inr ⟨k', l₀, q, cl, h1, h2⟩
  have hroom : A.depth < recursionLimit := Room.lim (k := K) ⟨R.handled, by have := R.depth; lia, by have := R.units; lia⟩
  have hb : gs.status = .fresh ∨ gs.status = .suspended := by
    rcases hlive with ⟨h, _⟩ | ⟨_, _, _, _, h, _⟩ <;> rw [h]
    · exact .inl rfl
    · exact .inr rfl
  refine pyNext_gen hg hgs hb lim hroom R.handled fun kk Q' E' ky kr => wake fun e s₁ he => ?_
  cases l with
  | nil =>
    obtain ⟨rfl, ee⟩ := he
    exact kr _ fun h' tk hk hs => k _ (((up ee).trans (setE s₁ _ rfl) (fun b q => .inl q) fun i q => .inl q).trans (Eff.toP (Eff.heap O _ hk hs) _) (fun b q => .inl q) fun i q => .inl q)
  | cons d l =>
    obtain ⟨v, l', k', c', q, fs', p', rfl, hgd, ee, h1, h2, h3, h4, h5, h6⟩ := he
    have hbare : (End.susp v false l' k' c' q fs').genState.bare = true := by
      show (!(false || fs'.any Frame.guarded)) = true
      rw [hgd]; rfl
    have hE := (up ee).trans (setE s₁ _ hbare) (fun b q => .inl q) fun i q => .inl q
    have hn1 : n < s₁.gens.size := Nat.lt_of_lt_of_le hnlt (up ee).gsize
    refine ky v _ (k v _ ⟨fun b => p'.a b ∨ b = it, fun i => p'.g i ∨ i = n⟩ hE (fun b q => q.imp (h1 b) id) (fun b q => ?_) ?_ h4 ?_)
    · rcases q with q | q
      · exact (h2 b q).imp .inl id
      · exact .inl (.inr q)
    · simp only [h3]
    · have hit : s₁.heap.IsGen it n := by
        obtain ⟨o, nm, qn, ho, r⟩ := hg
        exact ⟨o, nm, qn, ee.keep _ _ hlow.2.1 hnit ho, r⟩
      refine ⟨⟨p', n, (End.susp v false l' k' c' q fs').genState, c', _, fs', rfl, hit, ?_, ?_, fun w => (h2 it w).elim hnit fun z => Nat.lt_irrefl _ (Nat.lt_of_lt_of_le hlow.2.2 z), by rw [h3]; exact hng, .inr ⟨k', l', q, (false || fs'.any Frame.guarded), rfl, rfl⟩, fun A s2 hs hg2 R2 => h6 A s2 ⟨hs.keep, hs.ck, hs.size, fun i x q e => hs.gens i x q ?_⟩ hg2 R2⟩, hlow.1, hlow.2.1, ?_⟩
      · show (s₁.gens.setIfInBounds n _)[n]? = _
        rw [Array.getElem?_setIfInBounds_self_of_lt hn1]
      · exact h5.stay (Nat.le_refl _) (by show _ ≤ (s₁.gens.setIfInBounds n _).size; simp)
      · have hne : i ≠ n := fun z => hng (by rw [← h3]; exact z ▸ q)
        show (s₁.gens.setIfInBounds n _)[i]? = some x
        rw [Array.getElem?_setIfInBounds_ne (Ne.symm hne)]; exact e
      · exact Nat.lt_of_lt_of_le hlow.2.2 (up ee).size
theorem gen_iterOk {F : Addr → Prop} {it : Addr} : IterOk B (K + 5) F it (GI B K F it) where
  sub := fun l p s h b hb => by
    obtain ⟨⟨p₀, n, gs, c, t, fs, rfl, hg, hgs, hst, _⟩, hlow⟩ := h
    rcases hb with hb | rfl
    · exact hst.a b hb
    · exact hlow
  subg := fun l p s h i hi => by
    obtain ⟨⟨p₀, n, gs, c, t, fs, rfl, hg, hgs, hst, _⟩, hlow⟩ := h
    rcases hi with hi | rfl
    · exact hst.g i hi
    · exact (Array.getElem?_eq_some_iff.mp hgs).1
  ft := fun l p s h => by
    obtain ⟨⟨p₀, n, gs, c, t, fs, rfl, hg, hgs, hst, _⟩, hlow⟩ := h
    exact hst.f
  ty := fun l p s h => by
    obtain ⟨⟨p₀, n, gs, c, t, fs, rfl, hg, _⟩, hlow⟩ := h
    exact ⟨_, hg.typeIs, by decide⟩
  stay := fun l p s s' h k ck hs kg g => by
    obtain ⟨⟨p₀, n, gs, c, t, fs, rfl, hg, hgs, hst, h1, h2, h3, h4⟩, hlow⟩ := h
    have hg' : s'.heap.IsGen it n := by
      obtain ⟨o, nm, qn, ho, r⟩ := hg
      exact ⟨o, nm, qn, k _ _ hlow.2.1 (.inr (.inr rfl)) ho, r⟩
    refine ⟨⟨p₀, n, gs, c, t, fs, rfl, hg', kg n _ (.inr rfl) hgs, ⟨fun b q => ⟨(hst.a b q).1, (hst.a b q).2.1, Nat.lt_of_lt_of_le (hst.a b q).2.2 hs⟩, fun i q => ?_, hst.f⟩, h1, h2, h3, fun A s2 st g2 R2 => h4 A s2 ?_ g2 R2⟩, hlow.1, hlow.2.1, Nat.lt_of_lt_of_le hlow.2.2 hs⟩
    · have := hst.g i q
      have h5 := kg i s.gens[i] (.inl q) (by simp [this])
      exact (Array.getElem?_eq_some_iff.mp h5).1
    · exact GStay.trans ⟨fun b o t q e => k b o t (q.imp_right .inl) e, ck, hs, fun i x q e => kg i x (.inl q) e⟩ st
  next := fun d l p s A E Q h g R k => gen_next O h g R k
  done := fun p s A E Q h g R k => gen_next O h g R k
  self := fun l p s A E Q h g R k => by
    obtain ⟨⟨p₀, n, gs, c, t, fs, rfl, hg, _⟩, hlow⟩ := h
    exact wpAny_pyIter_gen hg k
end
end Mine
end
section
open PySem PySem.W PySem.W.X PySem.Calls PyProof.Rows
namespace Mine
variable {B : Bs} {A : Around} {c : Code} {fs : List Frame} {s : Shared} {env : Env} {P : End → Shared → Prop} {K : Flow → Sem PySem.Fin} {H : Value → Sem PySem.Fin} {gd : Bool → Bool} {lv : List Value → List Value}
theorem sx_wrap {α : Type} {m : Sem α} {K : α → Sem PySem.Fin} {H : Value → Sem PySem.Fin} (h : wpAny B.M (A.over c fs) m (fun a s' => SegX B.M A c (K a) fs s' P) (fun x s' => SegX B.M A c (H x) fs s' P) s) : SegX B.M A c (m.wrap K H gd lv) fs s P := by
  rintro Γ p rfl hΓ
  obtain ⟨e, s', hr, hq⟩ := runs_wrap_of_wp (Φ := fun e s' => e.quiet = true ∧ P e s') K H gd lv m (h (Γ.over fs) p (hΓ.over fs)) (fun a p' s' h' => h' Γ p' rfl hΓ) (fun x p' s' h' => h' Γ p' rfl hΓ)
  exact ⟨e, s', hr, hq⟩
theorem sx_wrap' {α : Type} {m : Sem α} {K : α → Sem PySem.Fin} {H : Value → Sem PySem.Fin} (h : wpAny B.M (A.over c fs) m (fun a s' => SegX B.M A c (K a) fs s' P) noE s) : SegX B.M A c (m.wrap K H gd lv) fs s P :=
  sx_wrap (wpAny_mono h (fun _ _ x => x) fun _ _ f => f.elim)
theorem sx_at {p' : Pos} {k : Unit → Sem PySem.Fin} (h : SegX B.M A c (k ()) fs s P) : SegX B.M A c (.at p' k) fs s P :=
  sx_wrap (m := standAt p') (K := k) (H := .raise) (gd := id) (lv := id) (wpAny_standAt h)
theorem sx_point {l : List Value} {k : Unit → Sem PySem.Fin} (h : SegX B.M A c (k ()) fs s P) : SegX B.M A c (.point l k) fs s P :=
  sx_wrap (m := point) (K := k) (H := .raise) (gd := id) (lv := fun _ => l) (wpAny_point h)
theorem sx_call {c' : Code} {hd : Option Value} {g : Bool} {l : List Value} {k : Result → Sem PySem.Fin} (x : ∀ p, SegX B.M A c' (denote table c') (.ret k hd g l c p [] :: fs) s P) : SegX B.M A c (.call c' hd g l k) fs s P :=
  s_call B.prog B.w A c fs P s c' hd g l k x
theorem sx_execs_nil (h : SegX B.M A c (K .next) fs s P) : SegX B.M A c ((execs [] env).wrap K H gd lv) fs s P := h
theorem sx_execs_cons {st : Stmt} {rest : List Stmt} (h : SegX B.M A c ((exec st env).wrap (fun f => match f with | .next => (execs rest env).wrap K H gd lv | f => K f) H gd lv) fs s P) :
    SegX B.M A c ((execs (st :: rest) env).wrap K H gd lv) fs s P := by rw [execs_cons_wrap]; exact h
theorem sx_yield {e : Expr} {ypos pos : Pos} (hfs : splitAtGen fs = none) (hgd : gd false = false) (hfg : fs.any Frame.guarded = false)
    (h : wpAny B.M (A.over c fs) (eval e env) (fun v s' => ∀ l k q, k (.send .none) = K .next → P (.susp v false l k c q fs) s') noE s) (hco : env.scope.isCoroutine = false) (hi : interactive env = false) :
    SegX B.M A c ((exec (.Expr (.Yield (some e) ypos) pos) env).wrap K H gd lv) fs s P := by
  rw [exec_Expr env _ pos hi rfl]
  show SegX B.M A c (.at pos fun _ => ((eval e env >>= fun v => (standAt ypos >>= fun _ => yieldOut env v)) >>= fun x =>
    dropValue (.Yield (some e) ypos) pos x).wrap K H gd lv) fs s P
  have hy : ∀ v, yieldOut env v = yieldValue v := fun v => by simp only [yieldOut, hco, Bool.false_eq_true, if_false]
  simp only [hy]
  refine sx_at ?_
  rw [Sem.bind_eq_wrap', Sem.bind_eq_wrap', Sem.wrap_wrap, Sem.wrap_wrap]
  refine sx_wrap' (wpAny_mono h (fun v s' h' => ?_) fun _ _ x => x)
  refine sx_at ?_
  show SegX B.M A c (.yield v (gd false) _ _) fs s' P
  rw [hgd]
  exact s_yield B.prog B.w A c fs P s' v _ _ hfs hfg fun p => h' _ _ _ rfl
theorem sx_For {target iter : Expr} {body orelse : List Stmt} {pos : Pos} (h : wpAny B.M (A.over c fs) (eval iter env) (fun x s₁ => wpAny B.M (A.over c fs) (pyIter x) (fun it s₂ => ∀ k l p, (∀ f, k (.ok f) = K f) →
      SegX B.M A (.forLoop target it body orelse env) (denote table (.forLoop target it body orelse env)) (.ret k none (gd false) l c p [] :: fs) s₂ P) noE s₁) noE s)
    (hs : ∀ x, foldedSetIterable iter env x = pure x) : SegX B.M A c ((exec (.For target iter body orelse pos) env).wrap K H gd lv) fs s P := by
  rw [exec_For]
  refine sx_at ?_
  show SegX B.M A c (Sem.wrap K H gd lv (eval iter env >>= fun x => foldedSetIterable iter env x >>= fun x => standAt iter.pos >>= fun _ => holding [x] (pyIter x) >>= fun it => runOwn (.forLoop target it body orelse env) env)) fs s P
  rw [Sem.bind_eq_wrap', Sem.wrap_wrap]
  refine sx_wrap' (wpAny_mono h (fun x s₁ h₁ => ?_) fun _ _ f => f)
  rw [hs x]
  refine sx_at ?_
  show SegX B.M A c (Sem.wrap K H gd lv (holding [x] (pyIter x) >>= fun it => runOwn (.forLoop target it body orelse env) env)) fs s₁ P
  rw [Sem.bind_eq_wrap', Sem.wrap_wrap]
  refine sx_wrap' (wpAny_holding (wpAny_mono h₁ (fun it s₂ h₂ => ?_) fun _ _ f => f))
  exact sx_call fun p => h₂ _ _ p fun f => rfl
theorem sx_turn {target : Expr} {it : Value} {body : List Stmt} (h : wpAny B.M (A.over (.forLoop target it body [] env) fs) (pyNext it) (fun r s₁ => match r with
      | none => SegX B.M A (.block [] env) (leafOf (.ok .next)) fs s₁ P
      | some v => wpAny B.M (A.over (.forLoop target it body [] env) fs) (letOwnedTupleGo target it v) (fun _ s₂ => wpAny B.M (A.over (.forLoop target it body [] env) fs) (assign target env v) (fun _ s₃ =>
          ∀ (KK : Flow → Sem PySem.Fin) (HH : Value → Sem PySem.Fin), KK .next = .pure (.again (.forLoop target it body [] env)) → SegX B.M A (.forLoop target it body [] env) ((execs body env).wrap KK HH id id) fs s₃ P) noE s₂) noE s₁) noE s) :
    SegX B.M A (.forLoop target it body [] env) (denote table (.forLoop target it body [] env)) fs s P := by
  show SegX _ A _ ((forTurn target it body [] env).onRaise (fun x => do noteFrame x env; theTreesLotGoes x)) fs s P
  unfold forTurn
  rw [Sem.onRaise_eq_wrap]
  refine sx_at ?_
  show SegX B.M A _ (Sem.wrap Sem.pure (fun e => (do noteFrame e env; theTreesLotGoes e : Sem Unit).bind fun _ => Sem.raise e) id id ((pyNext it).onRaise (fun _ => standAt { target.pos with line := 0 }) >>= fun r => match r with
    | none => again (.block [] env)
    | some v => letOwnedTupleGo target it v >>= fun _ => assign target env v >>= fun _ => execs body env >>= fun f => match f with
      | .next => again (.forLoop target it body [] env)
      | .cont => again (.forLoop target it body [] env)
      | .brk => pure (.done .next)
      | .ret v => pure (.done (.ret v)))) fs s P
  rw [Sem.bind_eq_wrap', Sem.wrap_wrap]
  refine sx_wrap' (wpAny_onRaise (wpAny_mono h (fun r s₁ h₁ => ?_) fun _ _ f => f.elim))
  cases r with
  | none =>
    refine s_again B.prog B.w A _ fs P s₁ (.block [] env) rfl ?_
    exact h₁
  | some v =>
    dsimp only
    rw [Sem.bind_eq_wrap', Sem.wrap_wrap]
    refine sx_wrap' (wpAny_mono h₁ (fun _ s₂ h₂ => ?_) fun _ _ f => f)
    rw [Sem.bind_eq_wrap', Sem.wrap_wrap]
    refine sx_wrap' (wpAny_mono h₂ (fun _ s₃ h₃ => ?_) fun _ _ f => f)
    rw [Sem.bind_eq_wrap', Sem.wrap_wrap]
    exact h₃ _ _ rfl
end Mine
end
section
open PySem PySem.W PySem.W.X PySem.Calls PyProof.Rows
namespace Mine
variable {B : Bs}
inductive Sg where
  | asg (x : Nat) (e : E) (xp p : Pos)
  | pm (x f y : Nat) (xp fp yp cp p : Pos)
  | newD (x : Nat) (xp dp p : Pos)
  | forS (t : Nat) (tp : Pos) (y : Nat) (yp : Pos) (body : List Sg) (p : Pos)
  | ifS (c : E) (a : List Sg) (p : Pos)
  | ifNew (rm y : Nat) (a : List Sg) (q1 q2 q3 q4 q5 q6 q7 q8 p : Pos)
  | yld (x : Nat) (xp yp p : Pos)
section
variable (nm : Nat → Str)
mutual
noncomputable def Sg.py : Sg → Stmt
  | .asg x e xp p => .Assign [.Name (nm x) xp] (e.py nm) p
  | .pm x f y xp fp yp cp p => .Assign [.Name (nm x) xp] (.Call (.Name (nm f) fp) [.Name (nm y) yp] [] cp) p
  | .newD x xp dp p => .Assign [.Name (nm x) xp] (.Dict [] [] dp) p
  | .forS t tp y yp body p => .For (.Name (nm t) tp) (.Name (nm y) yp) (pyY body) [] p
  | .ifS c a p => .If (c.py nm) (pyY a) [] p
  | .ifNew rm y a q1 q2 q3 q4 q5 q6 q7 q8 p => .If (.Compare (.Name (nm y) q1) [.NotIn] [.Name (nm rm) q2] q3) (.Assign [.Subscript (.Name (nm rm) q4) (.Name (nm y) q5) q6] (.Constant .none 0 q7) q8 :: pyY a) [] p
  | .yld x xp yp p => .Expr (.Yield (some (.Name (nm x) xp)) yp) p
noncomputable def pyY : List Sg → List Stmt
  | [] => []
  | s :: r => s.py :: pyY r
end
end
noncomputable def D.flat : D → Bool
  | .nil => true
  | .bool _ => true
  | .int _ => true
  | .str _ => true
  | _ => false
noncomputable def E.isCp : E → Bool
  | .comp .. => true
  | .dcomp .. => true
  | _ => false
noncomputable def REnv.at (ρ : REnv) (x : Nat) : Option D := match ρ x with
  | some (.fz d) => some d
  | some (.sealed d) => some d
  | _ => none
noncomputable def evYFor (Γ : Kinds) (t : Nat) (body : REnv → Option (List D × REnv)) : REnv → List D → Option (List D × REnv)
  | ρ, [] => some ([], ρ)
  | ρ, d :: r => if Γ.mine ρ t then do
    let (ys, ρ1) ← body (ρ.set t (.fz d))
    let (zs, ρ2) ← evYFor Γ t body ρ1 r
    some (ys ++ zs, ρ2)
    else none
section
variable (Φ : Phi) (Ψ : Nat → D → Option D) (rm : Nat) (Γ : Kinds)
mutual
noncomputable def evY (ρ : REnv) : Sg → Option (List D × REnv)
  | .asg x e _ _ => do
    let d ← (← ev Φ Γ ρ e).asD
    if Γ.mine ρ x && d.flat && !e.isCp then some ([], ρ.set x (.fz d)) else none
  | .pm x f y _ _ _ _ _ => do
    let d ← ρ.at y
    let r ← Ψ f d
    if Γ.mine ρ x ∧ Γ f = some .globalImplicit then some ([], ρ.set x (.fz r)) else none
  | .newD x _ _ _ => if Γ.mine ρ x && x == rm then some ([], ρ.set x (.ownD [])) else none
  | .forS t _ y _ body _ => do
    let d ← ρ.at y
    let items ← (R.d d).asI
    evYFor Γ t (fun ρ => evYs ρ body) ρ items
  | .ifS c a _ => do
    let t ← evT Φ Γ ρ c
    if t then evYs ρ a else some ([], ρ)
  | .ifNew m y a _ _ _ _ _ _ _ _ _ => match ρ m, ρ.at y with
    | some (.ownD ks), some (.int i) => if m = rm ∧ ks.length < 64 then (if ks.contains i then some ([], ρ) else evYs (ρ.set m (.ownD (ks ++ [i]))) a) else none
    | _, _ => none
  | .yld x _ _ _ => do
    let d ← ρ.at x
    some ([d], ρ)
noncomputable def evYs (ρ : REnv) : List Sg → Option (List D × REnv)
  | [] => some ([], ρ)
  | s :: r => do
    let (ys, ρ1) ← evY ρ s
    let (zs, ρ2) ← evYs ρ1 r
    some (ys ++ zs, ρ2)
end
end
section
variable {Φ : Phi} {Ψ : Nat → D → Option D} {rm : Nat} {Γ : Kinds} {ρ : REnv}
theorem x_evYs_nil  : evYs Φ Ψ rm Γ ρ [] = (some ([], ρ)) := rfl
theorem x_evYs_cons {s r} : evYs Φ Ψ rm Γ ρ (s :: r) = (do
    let (ys, ρ1) ← evY Φ Ψ rm Γ ρ s
    let (zs, ρ2) ← evYs Φ Ψ rm Γ ρ1 r
    some (ys ++ zs, ρ2)) := rfl
theorem x_evY_asg {x e u1 u2} : evY Φ Ψ rm Γ ρ (.asg x e u1 u2) = (do
    let d ← (← ev Φ Γ ρ e).asD
    if Γ.mine ρ x && d.flat && !e.isCp then some ([], ρ.set x (.fz d)) else none) := rfl
theorem x_evY_pm {x f y u1 u2 u3 u4 u5} : evY Φ Ψ rm Γ ρ (.pm x f y u1 u2 u3 u4 u5) = (do
    let d ← ρ.at y
    let r ← Ψ f d
    if Γ.mine ρ x ∧ Γ f = some .globalImplicit then some ([], ρ.set x (.fz r)) else none) := rfl
theorem x_evY_newD {x u1 u2 u3} : evY Φ Ψ rm Γ ρ (.newD x u1 u2 u3) = (if Γ.mine ρ x && x == rm then some ([], ρ.set x (.ownD [])) else none) := rfl
theorem x_evY_forS {t u1 y u2 body u3} : evY Φ Ψ rm Γ ρ (.forS t u1 y u2 body u3) = (do
    let d ← ρ.at y
    let items ← (R.d d).asI
    evYFor Γ t (fun ρ => evYs Φ Ψ rm Γ ρ body) ρ items) := rfl
theorem x_evY_ifS {c a u1} : evY Φ Ψ rm Γ ρ (.ifS c a u1) = (do
    let t ← evT Φ Γ ρ c
    if t then evYs Φ Ψ rm Γ ρ a else some ([], ρ)) := rfl
theorem x_evY_ifNew {m y a u1 u2 u3 u4 u5 u6 u7 u8 u9} : evY Φ Ψ rm Γ ρ (.ifNew m y a u1 u2 u3 u4 u5 u6 u7 u8 u9) = (match ρ m, ρ.at y with
    | some (.ownD ks), some (.int i) => if m = rm ∧ ks.length < 64 then (if ks.contains i then some ([], ρ) else evYs Φ Ψ rm Γ (ρ.set m (.ownD (ks ++ [i]))) a) else none
    | _, _ => none) := rfl
theorem x_evY_yld {x u1 u2 u3} : evY Φ Ψ rm Γ ρ (.yld x u1 u2 u3) = (do
    let d ← ρ.at x
    some ([d], ρ)) := rfl
end
structure FsOk (c : Code) (fs : List Frame) : Prop where
  split : splitAtGen fs = none
  guard : fs.any Frame.guarded = false
  room : ∀ A k, Room A (k + 1) → Room (A.over c fs) k
theorem FsOk.func (body : List Stmt) (env : Env) : FsOk (.func body env) [] where
  split := rfl
  guard := rfl
  room := fun A k R => by
    refine ⟨R.handled, ?_, ?_⟩
    · have := R.depth
      show A.depth + 0 + 1 + k < 950
      lia
    · have := R.units
      show A.units + 0 + 3 + 3 * k + 300 < cLine
      lia
theorem FsOk.loop {c : Code} {fs : List Frame} (x : FsOk c fs) (t : Expr) (it : Value) (b o : List Stmt) (env : Env) (k : Result → Sem PySem.Fin) (l : List Value) (p : Pos) : FsOk (.forLoop t it b o env) (.ret k none false l c p [] :: fs) where
  split := by simp [splitAtGen, x.split]
  guard := by simp [Frame.guarded, x.guard]
  room := fun A n R => by
    have h := x.room A n R
    refine ⟨h.handled, ?_, ?_⟩
    · have h1 := h.depth
      have e : (A.over (.forLoop t it b o env) (.ret k none false l c p [] :: fs)).depth = (A.over c fs).depth := by
        show A.depth + (c.weight + frameCount (fs.map Frame.where_)) + 0 = A.depth + frameCount (fs.map Frame.where_) + c.weight
        lia
      rw [e]; exact h1
    · have h1 := h.units
      have e : (A.over (.forLoop t it b o env) (.ret k none false l c p [] :: fs)).units = (A.over c fs).units := by
        show A.units + unitsOf ((c, p) :: fs.map Frame.where_) + 0 = A.units + unitsOf (fs.map Frame.where_) + c.cUnits
        rw [unitsOf_cons]; lia
      rw [e]; exact h1
noncomputable abbrev gW (F : Addr → Prop) (s : Shared) : Addr → Prop := fun b => ¬ F b ∧ b < s.heap.objs.size
noncomputable abbrev gWc (F O : Addr → Prop) (s : Shared) : Addr → Prop := fun b => ¬ F b ∧ ¬ O b ∧ b < s.heap.objs.size
noncomputable abbrev noP : Nat → Prop := fun _ => False
structure JOk (B : Bs) (F : Addr → Prop) (J : (Addr → Prop) → Shared → Prop) : Prop where
  sub : ∀ z s, J z s → ∀ b, z b → ¬ F b ∧ ¬ B.T b ∧ b < s.heap.objs.size ∧ B.h₀.objs.size ≤ b
  stay : ∀ z s s', J z s → GStay B F ⟨z, noP⟩ s s' → Good B s' → J z s'
structure GR (B : Bs) (Γ : Kinds) (pe : Env) (rm : Nat) (ρ : REnv) (F : Addr → Prop) (J : (Addr → Prop) → Shared → Prop) (p₀ : Pv) (s₀ : Shared) (O z : Addr → Prop) (p : Pv) (s : Shared) : Prop where
  x : Ctx B Γ (gWc F O s) (gW F s) pe ρ s
  j : J z s
  oz : ∀ b, O b → ¬ z b
  op : ∀ b, O b → p.a b
  o0 : ∀ b, O b → B.h₀.objs.size ≤ b
  zp : ∀ b, z b → p.a b
  st : GStat B F p s
  flt : ∀ b, F b → b < s.heap.objs.size
  e : EffP B p₀ s₀ s
  up : ∀ b, p₀.a b → p.a b
  dn : ∀ b, p.a b → p₀.a b ∨ s₀.heap.objs.size ≤ b
  g : p.g = p₀.g
  dx : ∀ y ks, ρ y = some (.ownD ks) → y = rm
section
variable (O' : B.Ok)
include O'
variable {Γ : Kinds} {pe : Env} {rm : Nat} {ρ ρ' : REnv} {F O z : Addr → Prop} {J : (Addr → Prop) → Shared → Prop} {p₀ p : Pv} {s₀ s s' : Shared} {A : Around} {K : Nat}
theorem Ctx.heapOnly {Wc W : Addr → Prop} (X : Ctx B Γ Wc W pe ρ s) (h : s'.heap = s.heap) : Ctx B Γ Wc W pe ρ s' := by
  obtain ⟨hh, gg, d, t, os⟩ := s'
  dsimp only at h
  subst h
  exact ⟨⟨X.good.base, X.good.size, X.good.ti⟩, X.fn, X.glob, X.blt, X.tW, X.cW, X.wlt, X.loc, X.locW, X.ow, X.code, X.kinds, X.cells, X.apart, X.cellW, X.vars, X.sealedW, X.owns⟩
theorem gW_grow (flt : ∀ b, F b → b < s.heap.objs.size) (h : s.heap.objs.size ≤ s'.heap.objs.size) : (orP (gW F s) fun b => s.heap.objs.size ≤ b ∧ b < s'.heap.objs.size) = gW F s' := by
  funext b
  refine propext ⟨fun q => ?_, fun q => ?_⟩
  · rcases q with ⟨h1, h2⟩ | ⟨h1, h2⟩
    · exact ⟨h1, Nat.lt_of_lt_of_le h2 h⟩
    · exact ⟨fun f => Nat.lt_irrefl _ (Nat.lt_of_lt_of_le (flt b f) h1), h2⟩
  · rcases Nat.lt_or_ge b s.heap.objs.size with h3 | h3
    · exact .inl ⟨q.1, h3⟩
    · exact .inr ⟨h3, q.2⟩
theorem gWc_grow (flt : ∀ b, F b → b < s.heap.objs.size) (ol : ∀ b, O b → b < s.heap.objs.size) (h : s.heap.objs.size ≤ s'.heap.objs.size) : (orP (gWc F O s) fun b => s.heap.objs.size ≤ b ∧ b < s'.heap.objs.size) = gWc F O s' := by
  funext b
  refine propext ⟨fun q => ?_, fun q => ?_⟩
  · rcases q with ⟨h1, h2, h3⟩ | ⟨h1, h2⟩
    · exact ⟨h1, h2, Nat.lt_of_lt_of_le h3 h⟩
    · exact ⟨fun f => Nat.lt_irrefl _ (Nat.lt_of_lt_of_le (flt b f) h1), fun f => Nat.lt_irrefl _ (Nat.lt_of_lt_of_le (ol b f) h1), h2⟩
  · rcases Nat.lt_or_ge b s.heap.objs.size with h3 | h3
    · exact .inl ⟨q.1, q.2.1, h3⟩
    · exact .inr ⟨h3, q.2.2⟩
theorem GR.iter {q : Pv} (R : GR B Γ pe rm ρ F J p₀ s₀ O z p s) (j : JOk B F J) (e : EffP B q s s') (hq : ∀ b, q.a b → p.a b ∧ ¬ O b ∧ ¬ z b ∧ B.h₀.objs.size ≤ b) (hg : q.g = noP) : GR B Γ pe rm ρ F J p₀ s₀ O z p s' := by
  have ol : ∀ b, O b → b < s.heap.objs.size := fun b q => (R.st.a b (R.op b q)).2.2
  have X := Ctx.grow O' R.x e (N := fun b => s.heap.objs.size ≤ b ∧ b < s'.heap.objs.size) (fun b w => ⟨(R.st.a b (hq b w).1).1, (hq b w).2.1, (R.st.a b (hq b w).1).2.2⟩) (fun b w => (hq b w).2.2.2) fun b q => q
  rw [gWc_grow O' R.flt ol e.size, gW_grow O' R.flt e.size] at X
  refine ⟨X, j.stay z s s' R.j ⟨fun b o t w x => e.keep b o t (fun y => ?_) x, e.ck, e.size, fun i x w => w.elim⟩ X.good, R.oz, R.op, R.o0, R.zp, ⟨fun b w => ⟨(R.st.a b w).1, (R.st.a b w).2.1, Nat.lt_of_lt_of_le (R.st.a b w).2.2 e.size⟩, fun i w => Nat.lt_of_lt_of_le (R.st.g i w) e.gsize, R.st.f⟩, fun b f => Nat.lt_of_lt_of_le (R.flt b f) e.size, ?_, R.up, R.dn, R.g, R.dx⟩
  · rcases w with w | w
    · exact (R.st.a b (hq b y).1).1 w
    · exact (hq b y).2.2.1 w
  · exact R.e.trans e (fun b w => (R.dn b (hq b w).1)) fun i w => by rw [hg] at w; exact w.elim
theorem GR.eff (R : GR B Γ pe rm ρ F J p₀ s₀ O z p s) (j : JOk B F J) (e : Eff B s s') : GR B Γ pe rm ρ F J p₀ s₀ O z p s' :=
  R.iter O' j (e.toP ⟨fun _ => False, noP⟩) (fun b w => w.elim) rfl
theorem GR.own (R : GR B Γ pe rm ρ F J p₀ s₀ O z p s) (j : JOk B F J) (X : Ctx B Γ (gWc F O s) (gW F s) pe ρ' s') (e : EffP B ⟨O, noP⟩ s s') (hs : s'.heap.objs.size = s.heap.objs.size) (dx : ∀ y ks, ρ' y = some (.ownD ks) → y = rm) : GR B Γ pe rm ρ' F J p₀ s₀ O z p s' := by
  have h1 : gWc F O s' = gWc F O s := by funext b; show (_ ∧ _ ∧ b < s'.heap.objs.size) = (_ ∧ _ ∧ b < s.heap.objs.size); rw [hs]
  have h2 : gW F s' = gW F s := by funext b; show (_ ∧ b < s'.heap.objs.size) = (_ ∧ b < s.heap.objs.size); rw [hs]
  refine ⟨by rw [h1, h2]; exact X, j.stay z s s' R.j ⟨fun b o t w x => e.keep b o t (fun y => ?_) x, e.ck, e.size, fun i x w => w.elim⟩ X.good, R.oz, R.op, R.o0, R.zp, ⟨fun b w => ⟨(R.st.a b w).1, (R.st.a b w).2.1, Nat.lt_of_lt_of_le (R.st.a b w).2.2 e.size⟩, fun i w => Nat.lt_of_lt_of_le (R.st.g i w) e.gsize, R.st.f⟩, fun b f => Nat.lt_of_lt_of_le (R.flt b f) e.size, ?_, R.up, R.dn, R.g, dx⟩
  · rcases w with w | w
    · exact (R.st.a b (R.op b y)).1 w
    · exact R.oz b y w
  · exact R.e.trans e (fun b w => R.dn b (R.op b w)) fun i w => w.elim
theorem GR.wake (R : GR B Γ pe rm ρ F J p₀ s₀ O z p s) (j : JOk B F J) (h : GStay B F p s s') (g : Good B s') : GR B Γ pe rm ρ F J p s' O z p s' := by
  have ol : ∀ b, O b → b < s.heap.objs.size := fun b q => (R.st.a b (R.op b q)).2.2
  have e : EffP B ⟨gWc F O s, noP⟩ s { s with heap := s'.heap } := ⟨fun b o t n x => h.keep b o t (by
      by_cases f : F b
      · exact .inl f
      · refine .inr ?_
        by_cases oo : O b
        · exact R.op b oo
        · exact absurd ⟨f, oo, Heap.lt_size x⟩ n) x, h.ck, h.size, fun _ => g.ti, fun _ _ _ e => e, Nat.le_refl _, id, rfl⟩
  have X := Ctx.grow' O' R.x e (N := fun b => s.heap.objs.size ≤ b ∧ b < s'.heap.objs.size) (fun b w => w) ⟨g.base, g.size, g.ti⟩ fun b q => q
  rw [gWc_grow O' R.flt ol h.size, gW_grow O' R.flt h.size] at X
  refine ⟨Ctx.heapOnly O' X rfl, j.stay z s s' R.j ⟨fun b o t w x => h.keep b o t (w.imp_right (R.zp b)) x, h.ck, h.size, fun i x w => w.elim⟩ g, R.oz, R.op, R.o0, R.zp, ⟨fun b w => ⟨(R.st.a b w).1, (R.st.a b w).2.1, Nat.lt_of_lt_of_le (R.st.a b w).2.2 h.size⟩, fun i w => ?_, R.st.f⟩, fun b f => Nat.lt_of_lt_of_le (R.flt b f) h.size, EffP.refl _ _, fun _ w => w, fun _ w => .inl w, rfl, R.dx⟩
  have hi := R.st.g i w
  have h5 := h.gens i (s.gens[i]'hi) w (by simp [hi])
  exact (Array.getElem?_eq_some_iff.mp h5).1
end
end Mine
end
section
open PySem PySem.W PySem.W.X PySem.Calls PyProof.Rows
namespace Mine
variable {B : Bs}
inductive OldAt (B : Bs) (K : Nat) (f : Nat) (d r : D) : Prop
  | mk (fa : Addr) (fo : Obj) (fd : FuncData) (m : B.mg (B.nm f) = some (.ref fa)) (nt : ¬ B.T fa) (g : B.h₀.get? fa = some fo) (e : fo.data = .func fd)
      (rr : ∀ A s W v, Good B s → Room A K → (∀ b, B.T b → W b) → (∀ b, W b → b < s.heap.objs.size) → Rep B s.heap W d v →
        codeAny B.M A (.call (.ref fa) ⟨[v], []⟩) (fun r' s' => ∃ u, r' = .ok (.ret u) ∧ Eff B s s' ∧ Rep B s.heap W r u) s)
noncomputable def OldC (B : Bs) (K : Nat) (Ψ : Nat → D → Option D) : Prop := ∀ f d r, Ψ f d = some r → OldAt B K f d r
noncomputable abbrev YCont (B : Bs) (K : Nat) (Γ : Kinds) (pe : Env) (rm : Nat) (ρ' : REnv) (F : Addr → Prop) (J : (Addr → Prop) → Shared → Prop) (l : List D) (c : Code) (fs : List Frame) (k : Sem PySem.Fin) : Prop :=
  ∀ A' p₁ s₁ O z p s', Room A' (K + 1) → GR B Γ pe rm ρ' F J p₁ s₁ O z p s' → SegX B.M A' c k fs s' (GPost B (K + 1) F l p₁ s₁)
noncomputable def SndY (B : Bs) (K : Nat) (Φ : Phi) (Ψ : Nat → D → Option D) (rm : Nat) (st : Sg) : Prop := ∀ Γ ρ ys ρ', evY Φ Ψ rm Γ ρ st = some (ys, ρ') → ∀ F J l pe A c fs (KK : Flow → Sem PySem.Fin) (HH : Value → Sem PySem.Fin) gd lv p₀ s₀ O z p s, JOk B F J → FsOk c fs → gd false = false → pe.scope.isCoroutine = false → Room A (K + 1) →
  GR B Γ pe rm ρ F J p₀ s₀ O z p s → YCont B K Γ pe rm ρ' F J l c fs (KK .next) → SegX B.M A c ((exec (st.py B.nm) pe).wrap KK HH gd lv) fs s (GPost B (K + 1) F (ys ++ l) p₀ s₀)
noncomputable def SndYs (B : Bs) (K : Nat) (Φ : Phi) (Ψ : Nat → D → Option D) (rm : Nat) (ss : List Sg) : Prop := ∀ Γ ρ ys ρ', evYs Φ Ψ rm Γ ρ ss = some (ys, ρ') → ∀ F J l pe A c fs (KK : Flow → Sem PySem.Fin) (HH : Value → Sem PySem.Fin) gd lv p₀ s₀ O z p s, JOk B F J → FsOk c fs → gd false = false → pe.scope.isCoroutine = false → Room A (K + 1) →
  GR B Γ pe rm ρ F J p₀ s₀ O z p s → YCont B K Γ pe rm ρ' F J l c fs (KK .next) → SegX B.M A c ((execs (pyY B.nm ss) pe).wrap KK HH gd lv) fs s (GPost B (K + 1) F (ys ++ l) p₀ s₀)
section
variable (O' : B.Ok)
include O'
variable {Γ : Kinds} {pe : Env} {rm : Nat} {ρ ρ' : REnv} {F O z : Addr → Prop} {J : (Addr → Prop) → Shared → Prop} {p₀ p : Pv} {s₀ s s' : Shared} {A : Around} {K : Nat} {Φ : Phi} {Ψ : Nat → D → Option D}
theorem Rep.flat {h h' : Heap} {W W' : Addr → Prop} {d : D} {v : Value} (hf : d.flat = true) (r : Rep B h W d v) : Rep B h' W' d v := by
  cases d <;> first | exact r | (exact nomatch hf; done)
theorem gO {b : Addr} (h : gW F s b ∧ ¬ gWc F O s b) : O b := by
  by_cases o : O b
  · exact o
  · exact absurd ⟨h.1.1, o, h.1.2⟩ h.2
theorem GR.inter (R : GR B Γ pe rm ρ F J p₀ s₀ O z p s) : interactive pe = false := by
  unfold interactive; rw [R.x.fn]; rfl
theorem GR.store {x : Nat} {d : D} {v : Value} {Q : Unit → Shared → Prop} (R : GR B Γ pe rm ρ F J p₀ s₀ O z p s) (j : JOk B F J) (hm : Γ.mine ρ x = true) (r : Rep B s.heap (gW F s) d v) (k : ∀ s', GR B Γ pe rm (ρ.set x (.fz d)) F J p₀ s₀ O z p s' → EffP B ⟨O, noP⟩ s s' → Q () s') :
    wpAny B.M A (storeName pe (B.nm x) v) Q noE s := by
  obtain ⟨hk, hns⟩ := mine_iff O' hm
  refine Ctx.storeE' O' R.x hk hns (fun _ e => by exact nomatch e) (en := .fz d) r (fun _ e => by exact nomatch e) fun s' X' e' hs => ?_
  have e2 : EffP B ⟨O, noP⟩ s s' := e'.mono (fun b q => gO O' (z_own O' R.x hns b q)) fun i q => q
  refine k s' (R.own O' j X' e2 hs fun y ks h => ?_) e2
  by_cases hy : y = x
  · rw [hy, REnv.set_self O'] at h; exact nomatch h
  · rw [REnv.set_ne O' _ _ hy] at h; exact R.dx y ks h
theorem at_some {x : Nat} {d : D} (h : ρ.at x = some d) : ρ x = some (.fz d) ∨ ρ x = some (.sealed d) := by
  unfold REnv.at at h
  split at h
  · rename_i e; obtain rfl := Option.some.inj h; exact .inl e
  · rename_i e; obtain rfl := Option.some.inj h; exact .inr e
  · exact nomatch h
theorem GR.name {x : Nat} {d : D} {xp : Pos} {Q : Value → Shared → Prop} {E : Value → Shared → Prop} (R : GR B Γ pe rm ρ F J p₀ s₀ O z p s) (h : ρ.at x = some d) (k : ∀ v, Rep B s.heap (gW F s) d v → Q v s) : wpAny B.M A (eval (.Name (B.nm x) xp) pe) Q E s := by
  refine wpAny_Name ?_ (O'.dbg x)
  rcases at_some O' h with h | h <;>
  · obtain ⟨v, l, rv⟩ := R.x.vars x _ h
    exact Ctx.name O' R.x l (k v rv) (O'.cld x)
theorem Rep.inF {d : D} {v : Value} (r : Rep B s.heap (gW F s) d v) : Rep B s.heap (fun b => ¬ F b) d v :=
  Rep.move O' (fun _ _ _ x => x) (fun b q => by
    rcases Nat.lt_or_ge b s.heap.objs.size with h | h
    · exact .inl ⟨q, h⟩
    · exact .inr (Heap.get?_none_of_le h)) d v r
theorem y_nil : SndYs B K Φ Ψ rm [] := by
  intro Γ ρ ys ρ' h F J l pe A c fs KK HH gd lv p₀ s₀ O z p s j f hgd hco R G k
  simp only [x_evYs_nil, Option.some.injEq, Prod.mk.injEq] at h
  obtain ⟨rfl, rfl⟩ := h
  exact sx_execs_nil (k A p₀ s₀ O z p s R G)
theorem y_cons {st : Sg} {ss : List Sg} (h1 : SndY B K Φ Ψ rm st) (h2 : SndYs B K Φ Ψ rm ss) : SndYs B K Φ Ψ rm (st :: ss) := by
  intro Γ ρ ys ρ' h F J l pe A c fs KK HH gd lv p₀ s₀ O z p s j f hgd hco R G k
  simp only [x_evYs_cons, Option.bind_eq_bind, Option.bind_eq_some_iff, Option.some.injEq, Prod.mk.injEq, Prod.exists] at h
  obtain ⟨y1, ρ1, e1, y2, ρ2, e2, rfl, rfl⟩ := h
  rw [List.append_assoc]
  refine sx_execs_cons (h1 _ _ _ _ e1 F J (y2 ++ l) pe A c fs _ HH gd lv p₀ s₀ O z p s j f hgd hco R G ?_)
  intro A' p₁ s₁ O1 z1 p1 s1 R1 G1
  exact h2 _ _ _ _ e2 F J l pe A' c fs KK HH gd lv p₁ s₁ O1 z1 p1 s1 j f hgd hco R1 G1 k
theorem y_asg {x : Nat} {e : E} {xp q : Pos} (he : Snd B K Φ e) : SndY B K Φ Ψ rm (.asg x e xp q) := by
  intro Γ ρ ys ρ' h F J l pe A c fs KK HH gd lv p₀ s₀ O z p s j f hgd hco R G k
  simp only [x_evY_asg, Option.bind_eq_bind, Option.bind_eq_some_iff] at h
  obtain ⟨r, h1, d, hd, h⟩ := h
  split at h
  case isFalse => exact nomatch h
  rename_i hc
  simp only [Bool.and_eq_true, Bool.not_eq_true'] at hc
  simp only [Option.some.injEq, Prod.mk.injEq] at h
  obtain ⟨rfl, rfl⟩ := h
  refine sx_wrap' (wpAny_Assign_Name (useD O' he h1 hd G.x (f.room A K R) fun v s1 e1 X1 r1 => ?_) ?_)
  · have G1 := G.eff O' j e1
    refine G1.store O' j hc.1.1 (Rep.flat O' hc.1.2 r1) fun s2 G2 e2 => ?_
    exact k A p₀ s₀ O z p s2 R G2
  · have := hc.2
    cases e <;> first | rfl | (exact nomatch this; done)
theorem y_pm {x f' y : Nat} {xp fp yp cp q : Pos} (HΨ : OldC B K Ψ) : SndY B K Φ Ψ rm (.pm x f' y xp fp yp cp q) := by
  intro Γ ρ ys ρ' h F J l pe A c fs KK HH gd lv p₀ s₀ O z p s j f hgd hco R G k
  simp only [x_evY_pm, Option.bind_eq_bind, Option.bind_eq_some_iff] at h
  obtain ⟨d, h1, r, h2, h⟩ := h
  split at h
  case isFalse => exact nomatch h
  rename_i hc
  simp only [Option.some.injEq, Prod.mk.injEq] at h
  obtain ⟨rfl, rfl⟩ := h
  obtain ⟨fa, fo, fd, hmg, hT, hg0, hfd, hcall⟩ := HΨ _ _ _ h2
  refine sx_wrap' (wpAny_Assign_Name (wpAny_Call_Name_kw (ld_def O' G.x hc.2 hmg ?_)) rfl)
  rw [show backTo cp (starEach [PySem.Expr.Name (B.nm y) yp] pe) = [(false, eval (.Name (B.nm y) yp) pe)] from rfl]
  refine callWith_function (o := fo) (fd := fd) (evalArgs_plain (Calls.spliced_cons (G.name O' h1 fun v rv => Calls.spliced_nil ⟨⟨G.x.good.base _ _ hT hg0, hfd⟩, ?_⟩)))
  refine wpAny_call (codeAny_mono (hcall _ s (gW F s) v G.x.good (f.room A K R) G.x.tW' (fun b q => q.2) rv) ?_)
  rintro r' s1 ⟨u, rfl, e1, ru⟩
  have G1 := G.eff O' j e1
  have ru1 : Rep B s1.heap (gW F s1) r u := Rep.move O' (e1.kW G.x.tW') (fun b q => by
    rcases Nat.lt_or_ge b s.heap.objs.size with w | w
    · exact .inl ⟨q.1, w⟩
    · exact .inr (Heap.get?_none_of_le w)) _ _ ru
  refine G1.store O' j hc.1 ru1 fun s2 G2 e2 => ?_
  exact k A p₀ s₀ O z p s2 R G2
theorem y_yld {x : Nat} {xp yp q : Pos} : SndY B K Φ Ψ rm (.yld x xp yp q) := by
  intro Γ ρ ys ρ' h F J l pe A c fs KK HH gd lv p₀ s₀ O z p s j f hgd hco R G k
  simp only [x_evY_yld, Option.bind_eq_bind, Option.bind_eq_some_iff, Option.some.injEq, Prod.mk.injEq] at h
  obtain ⟨d, h1, rfl, rfl⟩ := h
  refine sx_yield f.split hgd f.guard (G.name O' h1 fun v rv => ?_) hco (G.inter O')
  intro l' k' q' hk'
  refine ⟨v, l', k', c, q', fs, p, rfl, f.guard, G.e, G.up, G.dn, G.g, Rep.inF O' rv, G.st, fun A2 s2 st g2 R2 => ?_⟩
  rw [hk']
  exact k A2 p s2 O z p s2 R2 (G.wake O' j st g2)
theorem y_if {cE : E} {a : List Sg} {q : Pos} (hc : SndT B K Φ cE) (ha : SndYs B K Φ Ψ rm a) : SndY B K Φ Ψ rm (.ifS cE a q) := by
  intro Γ ρ ys ρ' h F J l pe A c fs KK HH gd lv p₀ s₀ O z p s j f hgd hco R G k
  simp only [x_evY_ifS, Option.bind_eq_bind, Option.bind_eq_some_iff] at h
  obtain ⟨t, ht, h⟩ := h
  show SegX B.M A c ((exec (.If (cE.py B.nm) (pyY B.nm a) [] q) pe).wrap KK HH gd lv) fs s _
  rw [exec_If]
  refine sx_at ?_
  show SegX B.M A c (Sem.wrap KK HH gd lv (isTrue (cE.py B.nm) pe (eval (cE.py B.nm) pe) >>= fun b => if b then execs (pyY B.nm a) pe else execs [] pe)) fs s _
  rw [Sem.bind_eq_wrap', Sem.wrap_wrap]
  refine sx_wrap' (useT O' hc ht G.x (f.room A K R) fun s1 e1 X1 => ?_)
  have G1 := G.eff O' j e1
  cases t with
  | true => exact ha _ _ _ _ (by simpa using h) F J l pe A c fs KK HH _ _ p₀ s₀ O z p s1 j f hgd hco R G1 k
  | false =>
    simp only [Bool.false_eq_true, if_false, Option.some.injEq, Prod.mk.injEq] at h
    obtain ⟨rfl, rfl⟩ := h
    exact sx_execs_nil (env := pe) (k A p₀ s₀ O z p s1 R G1)
inductive JIn (B : Bs) (F : Addr → Prop) (J : (Addr → Prop) → Shared → Prop) (I : List D → Pv → Shared → Prop) (items : List D) (z' : Addr → Prop) (s : Shared) : Prop
  | mk (z : Addr → Prop) (pi : Pv) (j : J z s) (i : I items pi s) (g : pi.g = noP) (iff : ∀ b, z' b ↔ z b ∨ pi.a b) (dj : ∀ b, pi.a b → ¬ z b) (lo : ∀ b, pi.a b → B.h₀.objs.size ≤ b)
theorem jin_ok {it : Addr} {I : List D → Pv → Shared → Prop} {items : List D} (j : JOk B F J) (ok : IterOk B K F it I) : JOk B F (JIn B F J I items) where
  sub := fun z' s ⟨z, pi, h1, h2, h3, h4, h5, h6⟩ b hb => by
    rcases (h4 b).mp hb with q | q
    · exact j.sub z s h1 b q
    · have := ok.sub _ _ _ h2 b q
      exact ⟨this.1, this.2.1, this.2.2, h6 b q⟩
  stay := fun z' s s' ⟨z, pi, h1, h2, h3, h4, h5, h6⟩ st g =>
    ⟨z, pi, j.stay z s s' h1 ⟨fun b o t q e => st.keep b o t (q.imp_right fun q => (h4 b).mpr (.inl q)) e, st.ck, st.size, fun i x q => q.elim⟩ g,
      ok.stay _ _ _ _ h2 (fun b o t q e => st.keep b o t (q.imp_right fun q => (h4 b).mpr (.inr q)) e) st.ck st.size (fun i x q => by rw [h3] at q; exact q.elim) g, h3, h4, h5, h6⟩
theorem y_loop {t : Nat} {tp : Pos} {body : List Sg} (hb : SndYs B K Φ Ψ rm body) {it : Addr} {I : List D → Pv → Shared → Prop} (ok : IterOk B K F it I) (j : JOk B F J) {l : List D} {c : Code} {fs : List Frame} {kk : Result → Sem PySem.Fin} {ll : List Value} {cp : Pos} {next : Sem PySem.Fin} (hk : kk (.ok .next) = next) (f : FsOk c fs) (hco : pe.scope.isCoroutine = false) :
    ∀ (items : List D) (ρ : REnv) (ys : List D) (ρ' : REnv), evYFor Γ t (fun ρ => evYs Φ Ψ rm Γ ρ body) ρ items = some (ys, ρ') → ∀ A p₀ s₀ O z pi p s, Room A (K + 1) → GR B Γ pe rm ρ F J p₀ s₀ O z p s → I items pi s → pi.g = noP →
      (∀ b, pi.a b → p.a b ∧ ¬ O b ∧ ¬ z b ∧ B.h₀.objs.size ≤ b) → YCont B K Γ pe rm ρ' F J l c fs next →
      SegX B.M A (.forLoop (.Name (B.nm t) tp) (.ref it) (pyY B.nm body) [] pe) (denote table (.forLoop (.Name (B.nm t) tp) (.ref it) (pyY B.nm body) [] pe)) (.ret kk none false ll c cp [] :: fs) s (GPost B (K + 1) F (ys ++ l) p₀ s₀) := by
  intro items
  induction items with
  | nil =>
    intro ρ ys ρ' h A p₀ s₀ O z pi p s R G hI hg hp k
    simp only [evYFor, Option.some.injEq, Prod.mk.injEq] at h
    obtain ⟨rfl, rfl⟩ := h
    have f2 := f.loop (.Name (B.nm t) tp) (.ref it) (pyY B.nm body) [] pe kk ll cp
    refine sx_turn (ok.done _ _ _ _ _ hI G.x.good ((f2.room A K R).less (by omega)) fun s1 e1 => ?_)
    refine s_pop B.prog B.w A _ fs _ s1 (.ok .next) _ rfl kk none false ll c cp [] ?_
    rw [hk]
    exact k A p₀ s₀ O z p s1 R (G.iter O' j e1 hp hg)
  | cons d rest ih =>
    intro ρ ys ρ' h A p₀ s₀ O z pi p s R G hI hg hp k
    unfold evYFor at h
    split at h
    case isFalse => exact nomatch h
    rename_i hm
    simp only [Option.bind_eq_bind, Option.bind_eq_some_iff, Option.some.injEq, Prod.mk.injEq, Prod.exists] at h
    obtain ⟨y1, ρ1, e1, y2, ρ2, e2, rfl, rfl⟩ := h
    have f2 := f.loop (.Name (B.nm t) tp) (.ref it) (pyY B.nm body) [] pe kk ll cp
    refine sx_turn (ok.next _ _ _ _ _ _ _ hI G.x.good ((f2.room A K R).less (by omega)) fun v s1 p1 ee hsub hnew hg1 rv hI1 => ?_)
    have G1' := G.iter O' j ee hp hg
    have sub1 := ok.sub _ _ _ hI1
    have hnb : ∀ b, s.heap.objs.size ≤ b → ¬ O b ∧ ¬ z b := fun b hb => ⟨fun q => Nat.lt_irrefl _ (Nat.lt_of_lt_of_le (G.st.a b (G.op b q)).2.2 hb), fun q => Nat.lt_irrefl _ (Nat.lt_of_lt_of_le (G.st.a b (G.zp b q)).2.2 hb)⟩
    have hp1 : ∀ b, p1.a b → ¬ O b ∧ ¬ z b ∧ B.h₀.objs.size ≤ b := fun b q => by
      rcases hnew b q with w | w
      · exact (hp b w).2
      · exact ⟨(hnb b w).1, (hnb b w).2, Nat.le_trans G.x.good.size w⟩
    have G1 : GR B Γ pe rm ρ F J p₀ s₀ O z ⟨fun b => p.a b ∨ p1.a b, p.g⟩ s1 := ⟨G1'.x, G1'.j, G1'.oz, fun b q => .inl (G1'.op b q), G1'.o0, fun b q => .inl (G1'.zp b q), ⟨fun b q => q.elim (G1'.st.a b) (sub1 b), G1'.st.g, G1'.st.f⟩, G1'.flt, G1'.e, fun b q => .inl (G1'.up b q),
      fun b q => q.elim (G1'.dn b) fun q => (hnew b q).elim (fun w => G1'.dn b (hp b w).1) fun w => .inr (Nat.le_trans G.e.size w), G1'.g, G1'.dx⟩
    refine let_go_name (wpAny_assign_Name (G1.store O' j hm (Rep.move O' (fun _ _ _ x => x) (fun b q => .inl q.1) _ _ rv) fun s2 G2 eo => ?_))
    have hI2 : I rest p1 s2 := ok.stay _ _ _ _ hI1 (fun b o nt q e => eo.keep b o nt (fun w => by
      rcases q with q | q
      · exact (G1.st.a b (G1.op b w)).1 q
      · exact (hp1 b q).1 w) e) eo.ck eo.size (fun i x q e => eo.gens i x (fun w => w.elim) e) G2.x.good
    intro KK2 HH2 hKK
    have G3 : GR B Γ pe rm (ρ.set t (.fz d)) F (JIn B F J I rest) p₀ s₀ O (fun b => z b ∨ p1.a b) ⟨fun b => p.a b ∨ p1.a b, p.g⟩ s2 :=
      ⟨G2.x, ⟨z, p1, G2.j, hI2, by rw [hg1]; exact hg, fun b => Iff.rfl, fun b q => (hp1 b q).2.1, fun b q => (hp1 b q).2.2⟩, fun b q w => w.elim (G2.oz b q) fun w => (hp1 b w).1 q, G2.op, G2.o0, fun b q => q.elim (G2.zp b) .inr, G2.st, G2.flt, G2.e, G2.up, G2.dn, G2.g, G2.dx⟩
    rw [List.append_assoc]
    refine hb _ _ _ _ e1 F (JIn B F J I rest) (y2 ++ l) pe A _ _ KK2 HH2 id id p₀ s₀ O _ _ s2 (jin_ok O' j ok) f2 rfl hco R G3 ?_
    intro A' p₃ s₃ O3 z3 p4 s4 R4 G4
    rw [hKK]
    obtain ⟨z4, pi4, j4, hI4, hg4, hz4, hd4, h04⟩ := G4.j
    refine s_again B.prog B.w A' _ _ _ s4 _ rfl ?_
    exact ih ρ1 y2 ρ2 e2 A' p₃ s₃ O3 z4 pi4 p4 s4 R4 ⟨G4.x, j4, fun b q w => G4.oz b q ((hz4 b).mpr (.inl w)), G4.op, G4.o0, fun b q => G4.zp b ((hz4 b).mpr (.inl q)), G4.st, G4.flt, G4.e, G4.up, G4.dn, G4.g, G4.dx⟩ hI4 hg4
      (fun b q => ⟨G4.zp b ((hz4 b).mpr (.inr q)), fun w => G4.oz b w ((hz4 b).mpr (.inr q)), hd4 b q, h04 b q⟩) k
theorem y_for {t y : Nat} {tp yp q : Pos} {body : List Sg} (hb : SndYs B K Φ Ψ rm body) : SndY B K Φ Ψ rm (.forS t tp y yp body q) := by
  intro Γ ρ ys ρ' h F J l pe A c fs KK HH gd lv p₀ s₀ O z p s j f hgd hco R G k
  simp only [x_evY_forS, Option.bind_eq_bind, Option.bind_eq_some_iff] at h
  obtain ⟨d, h1, items, hi, h⟩ := h
  refine sx_For (G.name O' h1 fun v rv => ?_) fun _ => rfl
  have hF : Fz (gW F s) s.heap = F := by
    funext b
    refine propext ⟨fun w => ?_, fun w => ⟨fun u => u.1 w, G.flt b w⟩⟩
    by_cases u : F b
    · exact u
    · exact absurd ⟨u, w.2⟩ w.1
  refine iter_okD O' (K := K) hi G.x.tW' (fun b w => w.2) rv fun I s2 ok hI hl e2 => ?_
  rw [hF] at ok
  intro kk ll cp hk
  have G2 := G.eff O' j e2
  have hsub := ok.sub _ _ _ hI
  have hnew : ∀ b, b = s.heap.objs.size → ¬ O b ∧ ¬ z b := fun b hb => by
    subst hb
    exact ⟨fun q => Nat.lt_irrefl _ (G.st.a _ (G.op _ q)).2.2, fun q => Nat.lt_irrefl _ (G.st.a _ (G.zp _ q)).2.2⟩
  have G3 : GR B Γ pe rm ρ F J p₀ s₀ O z ⟨fun b => p.a b ∨ b = s.heap.objs.size, p.g⟩ s2 := ⟨G2.x, G2.j, G2.oz, fun b q => .inl (G2.op b q), G2.o0, fun b q => .inl (G2.zp b q), ⟨fun b q => q.elim (G2.st.a b) (hsub b), G2.st.g, G2.st.f⟩, G2.flt, G2.e, fun b q => .inl (G2.up b q),
    fun b q => q.elim (G2.dn b) fun q => .inr (by rw [q]; exact G.e.size), G2.g, G2.dx⟩
  rw [hgd]
  exact y_loop O' hb ok j (hk .next) f hco items ρ ys ρ' h A p₀ s₀ O z _ _ s2 R G3 hI rfl (fun b q => ⟨.inr q, (hnew b q).1, (hnew b q).2, by rw [show b = s.heap.objs.size from q]; exact G.x.good.size⟩) k
end
end Mine
end
section
open PySem PySem.W PySem.W.X PySem.Calls PyProof.Rows
namespace Mine
variable {B : Bs}
section
variable (O' : B.Ok)
include O'
variable {Γ : Kinds} {pe : Env} {rm : Nat} {ρ ρ' : REnv} {F O z : Addr → Prop} {J : (Addr → Prop) → Shared → Prop} {p₀ p : Pv} {s₀ s s' : Shared} {A : Around} {K : Nat} {Φ : Phi} {Ψ : Nat → D → Option D}
theorem dict_nc' {a : Addr} {h : Heap} {kvs : List (Int × Value)} (x : h.DictOf (PySem.intKind B.prog B.w) a kvs) : ∀ o, h.get? a = some o → ¬ isCodeO o := by
  obtain ⟨o', es, ep, e, _, hd, _⟩ := x
  rintro o e' ⟨_, vs, hv⟩
  obtain rfl := Option.some.inj (e.symm.trans e'); rw [hd] at hv; exact nomatch hv
theorem Ctx.setOwnD {Wc W : Addr → Prop} {x : Nat} {ks ks' : List Int} {a : Addr} {h' : Heap} {t : Nat} (X : Ctx B Γ Wc W pe ρ s) (hx : ρ x = some (.ownD ks)) (hu : ∀ y ks, ρ y = some (.ownD ks) → y = x) (lv : Loc B pe s.heap x (.ref a)) (hW : W a) (hWc : ¬ Wc a) (hnl : a ≠ pe.locals) (hsy : (a == sysModules) = false)
    (hd : s.heap.DictOf (PySem.intKind B.prog B.w) a (ks.map fun k => (k, Value.none))) (hs : Heap.SameBut a s.heap h') (hd' : h'.DictOf (PySem.intKind B.prog B.w) a (ks'.map fun k => (k, Value.none))) :
    Ctx B Γ Wc W pe (ρ.set x (.ownD ks')) { s with heap := h', toks := t } := by
  have hnc := dict_nc' O' hd
  have keepW : ∀ b o, (¬ W b ∨ isCodeO o) → s.heap.get? b = some o → h'.get? b = some o := fun b o hw e => hs.extBut b o (fun q => hw.elim (fun hw => hw (q ▸ hW)) fun hc => hnc o (q ▸ e) hc) e
  obtain ⟨m, hm⟩ := X.loc
  have hm' : h'.Ns pe.locals m := hm.sameBut hs (Ne.symm hnl)
  have cne : ∀ y c, pe.cells.lookup (B.nm y) = some c → c ≠ a := fun y c q => by
    obtain ⟨⟨w, hw⟩, _⟩ := X.cells y c q
    exact Ne.symm (dictOf_ne_cell hd hw)
  have mv : ∀ y w, Loc B pe s.heap y w → Loc B pe h' y w := by
    rintro y w (⟨k, m', n', e⟩ | ⟨k, c', e, hc'⟩)
    · have := Ns.uniq hm n'; subst this
      exact .inl ⟨k, _, hm', e⟩
    · exact .inr ⟨k, c', e, Heap.IsCell.moved hc' fun o z => hs.extBut _ o (cne y c' e) z⟩
  have hse : ∀ y, isSealed (ρ.set x (.ownD ks')) y ↔ isSealed ρ y := by
    intro y
    by_cases hy : y = x
    · subst hy
      constructor
      · rintro ⟨d', e⟩; rw [REnv.set_self O'] at e; exact nomatch e
      · rintro ⟨d', e⟩; rw [hx] at e; exact nomatch e
    · unfold isSealed; rw [REnv.set_ne O' _ _ hy]
  refine Ctx.change O' X ⟨hW, hWc⟩ hnc hs ⟨m, hm'⟩ (fun y c q => ?_) (fun y e hy => ?_) hse (fun y z l1 l2 b hy hz ly lz => ?_)
  · obtain ⟨⟨w, hw⟩, _⟩ := X.cells y c q
    exact ⟨w, Heap.IsCell.moved hw fun o z => hs.extBut _ o (cne y c q) z⟩
  · by_cases hyx : y = x
    · subst hyx
      rw [REnv.set_self O'] at hy; obtain rfl := Option.some.inj hy
      exact ⟨_, mv _ _ lv, a, rfl, hW, hWc, hnl, hsy, hd'⟩
    · rw [REnv.set_ne O' _ _ hyx] at hy
      obtain ⟨w, lw, rw'⟩ := X.vars y e hy
      refine ⟨w, mv y w lw, ?_⟩
      cases e with
      | fz d => exact Rep.move O' keepW (fun b q => .inl q) d w rw'
      | sealed d => exact Rep.move O' keepW (fun b q => .inl q) d w rw'
      | own l2 =>
        obtain ⟨a2, vs2, n2, rfl, h1, h2, h3, h4, h5⟩ := rw'
        exact ⟨a2, vs2, n2, rfl, h1, h2, hs.extBut _ _ (Ne.symm (dictOf_ne_list hd h3)) h3, h4, RepAll.move O' keepW (fun b q => .inl q) _ _ h5⟩
      | ownD ks3 => exact absurd (hu y ks3 hy) hyx
  · have hy' : y ≠ x := by rintro rfl; rw [REnv.set_self O'] at hy; exact nomatch hy
    have hz' : z ≠ x := by rintro rfl; rw [REnv.set_self O'] at hz; exact nomatch hz
    rw [REnv.set_ne O' _ _ hy'] at hy
    rw [REnv.set_ne O' _ _ hz'] at hz
    obtain ⟨w, lw, _⟩ := X.vars y _ hy
    obtain ⟨w', lw', _⟩ := X.vars z _ hz
    have e1 := Loc.uniq ly (mv y w lw)
    have e2 := Loc.uniq lz (mv z w' lw')
    subst e1; subst e2
    exact X.owns y z l1 l2 b hy hz lw lw'
theorem y_newD {x : Nat} {xp dp q : Pos} : SndY B K Φ Ψ rm (.newD x xp dp q) := by
  intro Γ ρ ys ρ' h F J l pe A c fs KK HH gd lv p₀ s₀ O z p s j f hgd hco R G k
  simp only [x_evY_newD] at h
  split at h
  case isFalse => exact nomatch h
  rename_i hc
  simp only [Bool.and_eq_true, beq_iff_eq] at hc
  simp only [Option.some.injEq, Prod.mk.injEq] at h
  obtain ⟨rfl, rfl⟩ := h
  obtain ⟨hm, rfl⟩ := hc
  obtain ⟨hk, hns⟩ := mine_iff O' hm
  refine sx_wrap' (wpAny_Assign_Name (wpAny_Dict_empty ?_) rfl)
  have e1 : Eff B s { s with heap := s.heap.push { cls := .type "dict", data := .dict #[] } } := Eff.push O' _ s.toks
  have hsz : ({ s with heap := s.heap.push { cls := .type "dict", data := .dict #[] } } : Shared).heap.objs.size = s.heap.objs.size + 1 := Heap.size_push ..
  have G1 := G.eff O' j e1
  have X1 := Ctx.growOwn O' G.x e1 (N := fun b => b = s.heap.objs.size) (fun b w => by rw [hsz, w]; exact ⟨Nat.le_refl _, Nat.lt_succ_self _⟩)
  generalize hs1 : ({ s with heap := s.heap.push { cls := .type "dict", data := .dict #[] } } : Shared) = s1 at *
  have hnF : ¬ F s.heap.objs.size := fun w => Nat.lt_irrefl _ (G.flt _ w)
  have hnO : ¬ O s.heap.objs.size := fun w => Nat.lt_irrefl _ (G.st.a _ (G.op _ w)).2.2
  have hnz : ¬ z s.heap.objs.size := fun w => Nat.lt_irrefl _ (G.st.a _ (G.zp _ w)).2.2
  have hnT : ¬ B.T s.heap.objs.size := fun w => Nat.lt_irrefl _ (Nat.lt_of_lt_of_le (O'.tilow _ w) G.x.good.size)
  have hW1 : (orP (gW F s) fun b => b = s.heap.objs.size) = gW F s1 := by
    funext b
    refine propext ⟨fun w => ?_, fun w => ?_⟩
    · rcases w with w | rfl
      · exact ⟨w.1, by rw [hsz]; exact Nat.lt_succ_of_lt w.2⟩
      · exact ⟨hnF, by rw [hsz]; exact Nat.lt_succ_self _⟩
    · have := w.2
      rw [hsz] at this
      rcases Nat.lt_or_eq_of_le (Nat.le_of_lt_succ this) with h | h
      · exact .inl ⟨w.1, h⟩
      · exact .inr h
  have hWc1 : gWc F O s = gWc F (fun b => O b ∨ b = s.heap.objs.size) s1 := by
    funext b
    refine propext ⟨fun w => ⟨w.1, fun u => u.elim w.2.1 fun u => Nat.lt_irrefl _ (u ▸ w.2.2), by rw [hsz]; exact Nat.lt_succ_of_lt w.2.2⟩, fun w => ⟨w.1, fun u => w.2.1 (.inl u), ?_⟩⟩
    have := w.2.2
    rw [hsz] at this
    exact Nat.lt_of_le_of_ne (Nat.le_of_lt_succ this) fun u => w.2.1 (.inr u)
  rw [hW1, hWc1] at X1
  have G2 : GR B Γ pe x ρ F J p₀ s₀ (fun b => O b ∨ b = s.heap.objs.size) z ⟨fun b => p.a b ∨ b = s.heap.objs.size, p.g⟩ s1 := ⟨X1, G1.j, fun b w => w.elim (G1.oz b) fun w => w ▸ hnz, fun b w => w.imp (G1.op b) id, fun b w => w.elim (G1.o0 b) fun w => w ▸ G.x.good.size, fun b w => .inl (G1.zp b w),
    ⟨fun b w => w.elim (G1.st.a b) fun w => by subst w; exact ⟨hnF, hnT, by rw [hsz]; exact Nat.lt_succ_self _⟩, G1.st.g, G1.st.f⟩, G1.flt, G1.e, fun b w => .inl (G1.up b w), fun b w => w.elim (G1.dn b) fun w => .inr (by subst w; exact G.e.size), G1.g, G1.dx⟩
  have hdict : s1.heap.DictOf (PySem.intKind B.prog B.w) s.heap.objs.size [] := by rw [← hs1]; exact Heap.DictOf.new _
  have hloc : s.heap.objs.size ≠ pe.locals := fun w => Nat.lt_irrefl _ (by
    have := G.x.wlt _ G.x.locW.1
    rw [← w] at this; exact this)
  refine Ctx.storeE' O' G2.x hk hns (fun _ e => by exact nomatch e) (en := .ownD []) ⟨_, rfl, ⟨hnF, by rw [hsz]; exact Nat.lt_succ_self _⟩, fun w => w.2.1 (.inr rfl), hloc, ?_, hdict⟩ (fun _ e => by exact nomatch e) fun s2 X2 e2 hs2 => ?_
  · rw [beq_eq_false_iff_ne]
    intro w
    have := O'.sysm
    rw [← w] at this
    exact Nat.lt_irrefl _ (Nat.lt_of_lt_of_le this G.x.good.size)
  · refine k A p₀ s₀ _ z _ s2 R (G2.own O' j X2 (e2.mono (fun b w => gO O' (z_own O' G2.x hns b w)) fun i w => w) hs2 fun y ks h => ?_)
    by_cases hy : y = x
    · exact hy
    · rw [REnv.set_ne O' _ _ hy] at h; exact G2.dx y ks h
theorem any_key (ks : List Int) (i : Int) : ((ks.map fun k => (k, Value.none)).any fun kv => kv.1 = i) = ks.contains i := by
  induction ks with
  | nil => rfl
  | cons a r ih =>
    simp only [List.map_cons, List.any_cons, ih, List.contains_cons]
    congr 1
    by_cases h : a = i
    · subst h; simp
    · have : i ≠ a := fun e => h e.symm
      simp [h, this]
theorem valueAt_key (ks : List Int) (i : Int) : (valueAt (ks.map fun k => (k, Value.none)) i).isSome = ks.contains i := by
  rw [← any_key O']
  induction ks with
  | nil => rfl
  | cons a r ih =>
    simp only [List.map_cons, List.any_cons, valueAt, List.find?_cons] at ih ⊢
    by_cases h : a = i
    · simp [h]
    · simp only [h, decide_false, Bool.false_or]
      exact ih
theorem y_ifNew {m y : Nat} {a : List Sg} {q1 q2 q3 q4 q5 q6 q7 q8 q : Pos} (ha : SndYs B K Φ Ψ rm a) : SndY B K Φ Ψ rm (.ifNew m y a q1 q2 q3 q4 q5 q6 q7 q8 q) := by
  intro Γ ρ ys ρ' h F J l pe A c fs KK HH gd lv p₀ s₀ O z p s j f hgd hco R G k
  simp only [x_evY_ifNew] at h
  split at h
  case h_2 => cases h
  rename_i ks i hm hy
  split at h
  case isFalse => exact nomatch h
  rename_i hc
  obtain ⟨rfl, hlen⟩ := hc
  show SegX B.M A c ((exec (.If (.Compare (.Name (B.nm y) q1) [.NotIn] [.Name (B.nm m) q2] q3) (.Assign [.Subscript (.Name (B.nm m) q4) (.Name (B.nm y) q5) q6] (.Constant .none 0 q7) q8 :: pyY B.nm a) [] q) pe).wrap KK HH gd lv) fs s _
  rw [exec_If]
  refine sx_at ?_
  show SegX B.M A c (Sem.wrap KK HH gd lv (isTrue (.Compare (.Name (B.nm y) q1) [.NotIn] [.Name (B.nm m) q2] q3) pe (eval (.Compare (.Name (B.nm y) q1) [.NotIn] [.Name (B.nm m) q2] q3) pe) >>= fun b => if b then execs (.Assign [.Subscript (.Name (B.nm m) q4) (.Name (B.nm y) q5) q6] (.Constant .none 0 q7) q8 :: pyY B.nm a) pe else execs [] pe)) fs s _
  rw [Sem.bind_eq_wrap', Sem.wrap_wrap]
  obtain ⟨w, lw, a', rfl, hW, hWc, hnl, hsy, hd⟩ := G.x.vars m _ hm
  refine sx_wrap' (wpAny_isTrue_Compare1 (G.name O' hy fun v rv => ?_) rfl)
  simp only [Rep] at rv
  obtain ⟨t, rfl⟩ := rv
  refine wpAny_Name (Ctx.name O' G.x lw ?_ (O'.cld m)) (O'.dbg m)
  refine wpAny_notIn_of (knd := PySem.intKind B.prog B.w) (k := i) (by simp [PySem.intKind, Value.isInt]) hsy hd.mapOf ?_
  rw [valueAt_key O']
  refine wpAny_truthy_bool ?_
  have G1 := G.eff O' j (Eff.toks (s.toks + 1))
  cases hin : ks.contains i with
  | true =>
    rw [hin] at h
    simp only [if_true, Option.some.injEq, Prod.mk.injEq] at h
    obtain ⟨rfl, rfl⟩ := h
    exact sx_execs_nil (env := pe) (k A p₀ s₀ O z p _ R G1)
  | false =>
    rw [hin] at h
    simp only [Bool.false_eq_true, if_false] at h
    simp only [Bool.not_false, if_true]
    refine sx_execs_cons (sx_wrap' (wpAny_Assign_Subscript ?_ rfl))
    show wpAny _ _ (pure Value.none) _ _ _
    refine wpAny_pure (wpAny_Name (Ctx.name O' G1.x lw ?_ (O'.cld m)) (O'.dbg m))
    refine G1.name O' hy fun v rv => ?_
    simp only [Rep] at rv
    obtain ⟨t, rfl⟩ := rv
    refine wpAny_setItem_pairs (s := { s with toks := s.toks + 1 }) (knd := PySem.intKind B.prog B.w) (k := i) (by simp [PySem.intKind, Value.isInt]) hd (fun h' hd' hs' => ?_) (by rw [List.length_map]; exact sizeLine_lim (Nat.le_of_lt (Nat.lt_trans hlen (by simp [lim]))))
    have hst : stored (ks.map fun k => (k, Value.none)) i Value.none = (ks ++ [i]).map fun k => (k, Value.none) := by
      unfold stored
      rw [any_key O', hin]
      simp
    rw [hst] at hd'
    have X2 := Ctx.setOwnD (s := { s with toks := s.toks + 1 }) (t := s.toks + 1 + 1) O' G1.x hm (fun y ks h => G.dx y ks h) lw hW hWc hnl hsy hd hs' hd'
    have hO : O a' := gO O' ⟨hW, hWc⟩
    have e2 : EffP B ⟨O, noP⟩ { s with toks := s.toks + 1 } { s with heap := h', toks := s.toks + 1 + 1 } :=
      (eff_at (s := { s with toks := s.toks + 1 }) O' (G.st.a a' (G.op a' hO)).2.1 (dict_nc' O' hd) hs').mono (fun b w => w ▸ hO) fun i w => w
    have G2 := G1.own O' j X2 e2 hs'.1 fun y ks' h => by
      by_cases hy : y = m
      · exact hy
      · rw [REnv.set_ne O' _ _ hy] at h; exact G.dx y ks' h
    exact ha _ _ _ _ h F J l pe A c fs KK HH _ _ p₀ s₀ O z p _ j f hgd hco R G2 k
mutual
noncomputable def Sg.lms : Sg → List Lm
  | .asg _ e _ _ => e.lms
  | .forS _ _ _ _ body _ => lmsY body
  | .ifS c a _ => c.lms ++ lmsY a
  | .ifNew _ _ a _ _ _ _ _ _ _ _ _ => lmsY a
  | .pm .. => []
  | .newD .. => []
  | .yld .. => []
noncomputable def lmsY : List Sg → List Lm
  | [] => []
  | s :: r => s.lms ++ lmsY r
end
noncomputable abbrev okY (B : Bs) (ss : List Sg) : Prop := LmsOk B (lmsY ss)
theorem sndYs (hK : 24 ≤ K) (P : PhiOk B K Φ) (HΨ : OldC B K Ψ) : ∀ ss : List Sg, okY B ss → SndYs B K Φ Ψ rm ss :=
  Sg.rec_1 (motive_1 := fun st => LmsOk B st.lms → SndY B K Φ Ψ rm st) (motive_2 := fun ss => okY B ss → SndYs B K Φ Ψ rm ss)
    (fun _ e _ _ h => y_asg O' (snd O' hK P e h).1)
    (fun _ _ _ _ _ _ _ _ _ => y_pm O' HΨ)
    (fun _ _ _ _ _ => y_newD O')
    (fun _ _ _ _ _ _ ib h => y_for O' (ib h))
    (fun c _ _ ia h => y_if O' (snd O' hK P c (lms1 h)).2 (ia (lms2 h)))
    (fun _ _ _ _ _ _ _ _ _ _ _ _ ia h => y_ifNew O' (ia h))
    (fun _ _ _ _ _ => y_yld O')
    (fun _ => y_nil O')
    (fun _ _ is ir h => y_cons O' (is (lms1 h)) (ir (lms2 h)))
end
end Mine
end
section
open PySem PySem.W PySem.W.X PySem.Calls PyProof.Rows
namespace Mine
variable {B : Bs}
structure GExp (B : Bs) (id : Nat) (L : LSpec) (ps : List Nat) (sc : List (Nat × NameKind)) (ss : List Sg) : Prop where
  ls : B.LS id = some L
  body : L.body = .stmts (pyY B.nm ss)
  names : L.scope.names = named B.nm sc
  kind : L.scope.kind = .function
  gen : L.scope.isGenerator = true
  co : L.scope.isCoroutine = false
  fr : L.fr = freeOf sc
  bind : ∀ (fd : FuncData) (vals : List Value), fd.params = L.params → fd.defaults = .none → fd.kwdefaults = .none → vals.length = ps.length → bindArgs fd ⟨vals, []⟩ = pure ((ps.map B.nm).zip vals)
  nd : (sc.map (·.1)).Nodup
  kinds : ∀ x k, sc.lookup x = some k → k = .free ∨ k = .local ∨ k = .cell ∨ k = .globalImplicit
  ps : ∀ x ∈ ps, sc.lookup x = some .local ∨ sc.lookup x = some .cell
section
variable (O' : B.Ok)
include O'
variable {Γ : Kinds} {pe : Env} {rm : Nat} {ρ ρ' : REnv} {F O z : Addr → Prop} {J : (Addr → Prop) → Shared → Prop} {p₀ p : Pv} {s₀ s s' : Shared} {A : Around} {K : Nat} {Φ : Phi} {Ψ : Nat → D → Option D}
theorem setArgs_own : ∀ (ps : List Nat) (args : List D) (ρ : REnv), (∀ y ks, ρ y ≠ some (.ownD ks)) → ∀ y ks, setArgs ps args ρ y ≠ some (.ownD ks)
  | [], _, ρ, h => by simpa [setArgs] using h
  | _ :: _, [], ρ, h => by simpa [setArgs] using h
  | x :: ps, d :: args, ρ, h => by
    have := setArgs_own ps args (ρ.set x (.fz d)) fun y ks => by
      by_cases hy : y = x
      · rw [hy, REnv.set_self O']; simp
      · rw [REnv.set_ne O' _ _ hy]; exact h y ks
    simpa [setArgs] using this
theorem first_run {ss : List Sg} {l : List D} (hK : 24 ≤ K) (P : PhiOk B K Φ) (HΨ : OldC B K Ψ) (hb : okY B ss) (j : JOk B F J) (hev : evYs Φ Ψ rm Γ ρ ss = some (l, ρ')) (hco : pe.scope.isCoroutine = false) (R : Room A (K + 1)) (G : GR B Γ pe rm ρ F J p₀ s₀ O z p s) :
    SegX B.M A (.func (pyY B.nm ss) pe) (denote table (.func (pyY B.nm ss) pe)) [] s (GPost B (K + 1) F l p₀ s₀) := by
  show SegX B.M A _ (.point [] fun _ => ((execs (pyY B.nm ss) pe).onRaise (leaving pe)) >>= fun f => match f with | .ret v => ret v | _ => ret .none) [] s _
  refine sx_point ?_
  rw [Sem.onRaise_eq_wrap, Sem.bind_eq_wrap', Sem.wrap_wrap]
  have h := sndYs (rm := rm) O' hK P HΨ ss hb _ _ _ _ hev F J [] pe A (.func (pyY B.nm ss) pe) []
  rw [List.append_nil] at h
  refine h _ _ _ _ p₀ s₀ O z p s j (FsOk.func _ _) rfl hco R G ?_
  intro A' p₁ s₁ O1 z1 p1 s1 R1 G1
  exact s_end B.prog B.w A' _ _ s1 (.ok (.ret .none)) _ rfl ⟨rfl, G1.e⟩
theorem gen_contract {id : Nat} {L : LSpec} {ps : List Nat} {sc : List (Nat × NameKind)} {ss : List Sg} {caps args l : List D} (Fx : GExp B id L ps sc ss) (hK : 24 ≤ K) (P : PhiOk B K Φ) (HΨ : OldC B K Ψ) (hb : okY B ss)
    (hl : ps.length = args.length) (hev : evYs Φ Ψ rm (kindsF sc 0) (setArgs ps args (capEnv (freeOf sc) caps)) ss = some (l, ρ')) (hlim : l.length ≤ lim) : ContractG B (K + 6) id caps args l := by
  intro fa cv A s W vals g R tW wlt hlam rc ra
  obtain ⟨L', fo, fd, hls, hg, hfd, nw, lam⟩ := hlam
  rw [Fx.ls] at hls
  obtain rfl := Option.some.inj hls
  obtain ⟨c, oc, vs, t, hc1, hc2, _, hc4, hc5⟩ := lam.code
  have hcd : s.heap.CodeRec fd.code fd.qualname := ⟨c, oc, vs, t, hc1, hc2, hc4, by rw [lam.qual]; exact hc5⟩
  have hvl : vals.length = ps.length := by rw [RepAll.length ra]; lia
  refine codeAny_call_generator R.lim hg hfd (by rw [lam.scope]; exact Fx.co) (by rw [lam.scope]; exact Fx.gen) (by rw [lam.body]; exact Fx.body) hcd ?_
  rw [Fx.bind fd vals lam.params lam.dfl.1 lam.dfl.2 hvl, lam.glob, lam.blt]
  refine wpAny_pure ?_
  refine fenv_ok' O' (sc := sc) (f := 0) (ρc := capEnv (freeOf sc) caps) (by rw [lam.scope]; exact Fx.names) (by rw [lam.scope]; exact Fx.kind) (.inl rfl) (clos_ok O' lam Fx.fr Fx.nd Fx.kinds rc) g tW wlt Fx.ps hl ra fun s1 env W' X1 hW' e1 hall hsc => ?_
  refine ⟨Good.lim O' (g.move e1), ?_⟩
  have hco : env.scope.isCoroutine = false := by rw [hsc, lam.scope]; exact Fx.co
  generalize hs2 : ({ s1 with gens := s1.gens.push (.fresh (.func (pyY B.nm ss) env)), toks := s1.toks + 1 + 1, heap := s1.heap.push { cls := .type "generator", data := .fields #[.int s1.gens.size 0, .str fd.name s1.toks, .str fd.qualname (s1.toks + 1)] } } : Shared) = s2
  have hh2 : s2.heap = s1.heap.push { cls := .type "generator", data := .fields #[.int s1.gens.size 0, .str fd.name s1.toks, .str fd.qualname (s1.toks + 1)] } := by rw [← hs2]
  have hg2 : s2.gens = s1.gens.push (.fresh (.func (pyY B.nm ss) env)) := by rw [← hs2]
  have ho2 : s2.os = s1.os := by rw [← hs2]
  have hsz2 : s2.heap.objs.size = s1.heap.objs.size + 1 := by rw [hh2, Heap.size_push]
  have keep2 : ∀ b o, s1.heap.get? b = some o → s2.heap.get? b = some o := fun b o e => by rw [hh2]; exact Heap.get?_push_of_some _ e
  have e2 : Eff B s1 s2 := ⟨fun b o _ e => keep2 b o e, fun b o _ e => keep2 b o e, by lia, fun x => O'.tikeep _ _ x fun b o _ e => keep2 b o e, fun i x e => by
      rw [hg2, Array.getElem?_push]
      have := (Array.getElem?_eq_some_iff.mp e).1
      rw [if_neg (by lia)]; exact e, fun hb => by rw [hg2]; exact AllBare.push hb rfl, ho2⟩
  refine ⟨.ref s1.heap.objs.size, rfl, e1.trans e2, .inr ?_⟩
  let F : Addr → Prop := Fz W s.heap
  let O : Addr → Prop := fun b => W' b ∧ ¬ W b
  have hw1 : ∀ b, W' b → b < s1.heap.objs.size := X1.wlt
  have h1 : gW F s1 = W' := by
    funext b
    refine propext ⟨fun w => ?_, fun w => ⟨fun f => (hW' b w).elim f.1 fun z => Nat.lt_irrefl _ (Nat.lt_of_lt_of_le f.2 z), hw1 b w⟩⟩
    by_cases wb : W b
    · exact X1.cW b wb
    · exact hall b (Nat.le_of_not_lt fun z => w.1 ⟨wb, z⟩) w.2
  have h2 : gWc F O s1 = W := by
    funext b
    refine propext ⟨fun w => ?_, fun w => ⟨fun f => f.1 w, fun o => o.2 w, hw1 b (X1.cW b w)⟩⟩
    by_cases wb : W b
    · exact wb
    · exact absurd ⟨hall b (Nat.le_of_not_lt fun z => w.1 ⟨wb, z⟩) w.2.2, wb⟩ w.2.1
  have hOn : ∀ b, O b → s.heap.objs.size ≤ b := fun b o => (hW' b o.1).resolve_left o.2
  let J : (Addr → Prop) → Shared → Prop := fun z _ => ∀ b, ¬ z b
  have j : JOk B F J := ⟨fun z s h b hb => absurd hb (h b), fun z s s' h _ _ => h⟩
  have st1 : GStat B F ⟨O, noP⟩ s1 := ⟨fun b o => ⟨fun f => Nat.lt_irrefl _ (Nat.lt_of_lt_of_le f.2 (hOn b o)), fun t => o.2 (tW b t), hw1 b o.1⟩, fun i h => h.elim, fun b f t => f.1 (tW b t)⟩
  have hdx : ∀ y ks, setArgs ps args (capEnv (freeOf sc) caps) y = some (.ownD ks) → y = rm := fun y ks h => absurd h (setArgs_own O' _ _ _ (fun y ks h => by
    unfold capEnv at h
    rw [Option.map_eq_some_iff] at h
    obtain ⟨_, _, h⟩ := h
    cases h) y ks)
  have G1 : GR B (kindsF sc 0) env rm (setArgs ps args (capEnv (freeOf sc) caps)) F J ⟨O, noP⟩ s1 O (fun _ => False) ⟨O, noP⟩ s1 := ⟨by rw [h1, h2]; exact X1, fun b h => h, fun b o h => h, fun b o => o, fun b o => Nat.le_trans g.size (hOn b o), fun b h => h.elim, st1, fun b f => Nat.lt_of_lt_of_le f.2 e1.size, EffP.refl _ _, fun b o => o, fun b o => .inl o, rfl, hdx⟩
  have hlow : ¬ F s1.heap.objs.size ∧ ¬ B.T s1.heap.objs.size ∧ s1.heap.objs.size < s2.heap.objs.size := ⟨fun f => Nat.lt_irrefl _ (Nat.lt_of_lt_of_le f.2 e1.size), fun t => Nat.lt_irrefl _ (Nat.lt_of_lt_of_le (O'.tilow _ t) (Nat.le_trans g.size e1.size)), by lia⟩
  refine ⟨s1.heap.objs.size, F, ⟨fun b => O b ∨ b = s1.heap.objs.size, fun i => False ∨ i = s1.gens.size⟩, GI B (K + 1) F s1.heap.objs.size, rfl, fun l p s h => ?_, gen_iterOk O', ⟨⟨⟨O, noP⟩, s1.gens.size, .fresh (.func (pyY B.nm ss) env), .func (pyY B.nm ss) env, _, [], rfl, ?_, ?_, ?_, fun o => Nat.lt_irrefl _ (hw1 _ o.1), fun h => h, .inl ⟨rfl, rfl, rfl⟩, fun A2 s3 st g3 R3 => ?_⟩, hlow⟩, fun b f => ⟨f.1, ?_⟩, fun b o => ?_, fun i h => ?_, hlim⟩
  · obtain ⟨⟨p₀, n, gs, c, t, fs, _, hig, _⟩, _⟩ := h
    exact hig.typeIs
  · exact ⟨_, _, _, by rw [hh2]; exact Heap.get?_push_size _ rfl, rfl, rfl, rfl⟩
  · rw [hg2]; simp
  · exact st1.stay (by lia) (by rw [hg2]; simp)
  · have G3 := G1.wake O' j (GStay.trans ⟨fun b o _ _ e => keep2 b o e, fun b o _ e => keep2 b o e, by lia, fun i x h => h.elim⟩ st) g3
    exact first_run O' hK P HΨ hb j hev hco R3 G3
  · exact Nat.lt_of_lt_of_le f.2 (Nat.le_trans e1.size e2.size)
  · rcases o with o | rfl
    · exact hOn b o
    · exact e1.size
  · rcases h with h | rfl
    · exact h.elim
    · exact (e1.toP ⟨fun _ => False, noP⟩).gsize
end
end Mine
end
section
open PySem PySem.W PySem.W.X PySem.Calls PyProof.Rows
namespace Mine
variable {B : Bs}
section
variable (O : B.Ok)
include O
variable {s : Shared} {A : Around} {K : Nat}
theorem old_call {f fid ctx x fld : Nat} {sc : List (Nat × NameKind)} {els : List Stmt} {fa : Addr} {fo : Obj} {fd : FuncData} {q1 q2 q3 q4 q5 q6 q7 q8 q9 q10 : Pos}
    (Fx : DefOk B f fid [ctx] sc [.Assign [.Name (B.nm x) q1] (.Attribute (.Name (B.nm ctx) q2) (B.nm fld) q3) q4, .If (.Compare (.Name (B.nm x) q5) [.Is] [.Constant .none 0 q6] q7) els [] q8, .Return (some (.Name (B.nm x) q9)) q10] fa fo fd)
    (hl : ∀ y ∈ sc, y.2 ≠ .cell) (hc : sc.lookup ctx = some .local) (hx : sc.lookup x = some .local) (hne : x ≠ ctx) {ns : List Nat} {vs ks ds : List D} (hf : D.fld fld (.thing ns vs) = some (.dict ks ds)) :
    B.mg (B.nm f) = some (.ref fa) ∧ ¬ B.T fa ∧ B.h₀.get? fa = some fo ∧ fo.data = .func fd ∧
    ∀ A s W v, Good B s → Room A (K + 4) → (∀ b, B.T b → W b) → (∀ b, W b → b < s.heap.objs.size) → Rep B s.heap W (.thing ns vs) v →
    codeAny B.M A (.call (.ref fa) ⟨[v], []⟩) (fun r' s' => ∃ u, r' = .ok (.ret u) ∧ Eff B s s' ∧ Rep B s.heap W (.dict ks ds) u) s := by
  obtain ⟨ns', vs', en, hlen, hfr, hfind⟩ := fld_inv hf
  cases en
  refine ⟨Fx.mg, Fx.nT, Fx.at', Fx.data, fun A s W v g R tW wlt rv => ?_⟩
  have ho := g.base _ _ Fx.nT Fx.at'
  obtain ⟨c, oc, cvs, t, hc1, hc2, hc3, hc4, hc5⟩ := Fx.code
  have hcd : s.heap.CodeRec fd.code fd.qualname := ⟨c, oc, cvs, t, hc1, g.base _ _ hc2 hc3, hc4, hc5⟩
  refine codeAny_call_function R.lim ho Fx.data Fx.co Fx.gen Fx.body hcd ?_
  rw [Fx.bind [v] rfl, Fx.glob, Fx.clos, Fx.blt]
  refine wpAny_pure ?_
  have hk1 : fd.scope.names.lookup (B.nm ctx) = some .local := by rw [Fx.names, lookup_named O]; exact hc
  have hk2 : fd.scope.names.lookup (B.nm x) = some .local := by rw [Fx.names, lookup_named O]; exact hx
  refine wpAny_newFunctionEnv (fun y hy => ?_) (fun y hy => ?_) (fun h1 n1 sb => ?_) Fx.kind
  · rw [Fx.names] at hy
    simp only [named, List.mem_map] at hy
    obtain ⟨q, hq, rfl⟩ := hy
    exact hl q hq
  · simp only [List.map_cons, List.map_nil, List.zip_cons_cons, List.zip_nil_left, List.mem_cons, List.not_mem_nil, or_false] at hy
    subst hy
    exact hk1
  · have e1 : Eff B s { s with heap := h1, toks := s.toks + 1 } := Eff.heap O _ (fun b o e => sb.extBut b o (fun q => absurd (Heap.lt_size e) (by rw [q]; exact Nat.lt_irrefl _)) (Heap.get?_push_of_some _ e)) (by rw [sb.1, Heap.size_push]; lia)
    refine ⟨Good.lim O (g.move e1), codeAny_func ?_⟩
    have g1 := g.move e1
    simp only [Rep] at rv
    obtain ⟨a, dx, n, ts, dv, rfl, hw, hg, hwx, hgx, l1, l2, ra⟩ := rv
    obtain ⟨u, hv, ru⟩ := fld_get O ns vs dv fld ra hfind
    refine wpAny_execs_cons (wpAny_Assign_Name (Attribute_any_ (wpAny_Name (wpAny_loadName_local Fx.kind hk1 n1 (v := .ref a) (by simp [List.lookup_cons]) ?_) (O.dbg ctx)) (by with_unfolding_all rfl)) rfl)
    refine O.attr _ _ a dx n ns ts dv fld u _ _ g1 (e1.keep _ _ (fun q => hw (tW _ q)) hg) (e1.keep _ _ (fun q => hwx (tW _ q)) hgx) l1 (by have := RepAll.length ra; lia) hv hfr (Rep.handed ru) fun tk => ?_
    refine wpAny_storeName_local hk2 n1 (fun h2 n2 sb2 => ?_) (by show (fd.scope.kind == .class || (fd.scope.kind == .module && _)) = false; rw [Fx.kind]; rfl)
    have ru' := ru
    simp only [Rep] at ru
    obtain ⟨ad, xs, dv2, rfl, _⟩ := ru
    refine wpAny_execs_cons (wpAny_If (wpAny_isTrue_Compare1 (wpAny_Name (wpAny_loadName_local Fx.kind hk2 n2 (v := .ref ad) (by simp) ?_) (O.dbg x)) rfl))
    refine wpAny_Constant_none ?_
    show wpAny _ _ (isSame (.ref ad) .none >>= fun c => pure (Value.bool c)) _ _ _
    rw [show isSame (.ref ad) .none = pure false from rfl]
    refine wpAny_bind (wpAny_pure (wpAny_pure (wpAny_truthy_bool ?_)))
    simp only [Bool.false_eq_true, if_false]
    refine wpAny_execs_nil ?_
    refine wpAny_execs_cons (wpAny_Return_some (wpAny_Name (wpAny_loadName_local Fx.kind hk2 n2 (v := .ref ad) (by simp) ?_) (O.dbg x)))
    refine ⟨_, rfl, ?_, ru'⟩
    have e2 : EffP B ⟨fun b => b = s.heap.objs.size, fun _ => False⟩ { s with heap := h1, toks := s.toks + 1 } { s with heap := h2, toks := tk + 1 } :=
      eff_at (s := { s with heap := h1, toks := s.toks + 1 }) O (fun t => Nat.lt_irrefl _ (wlt _ (tW _ t))) (ns_nc n1) sb2
    exact EffP.toEff e1 e2 (fun b q => by rw [q]; exact Nat.le_refl _) fun i q => q.elim
end
end Mine
end
section
open PySem PySem.W PySem.W.X PySem.Calls PyProof.Rows
namespace Mine
variable {B : Bs}
theorem ents_find (inj : ∀ x y, B.nm x = B.nm y → x = y) {P : Params} {f : Nat} {v : Value} : ∀ (ns : List Nat) (ts : List Tok) (dv : List Value), ts.length = ns.length → dv.length = ns.length → ((ns.zip dv).find? fun q => q.1 == f) = some (f, v) →
    ∃ e, (ents P ((ns.zip ts).map fun p => Value.str (B.nm p.1) p.2) dv).find? (·.key.isStr (B.nm f)) = some e ∧ e.val = v
  | [], _, _, _, _, h => by simp at h
  | _ :: _, [], _, h, _, _ => by simp at h
  | _ :: _, _ :: _, [], _, h, _ => by simp at h
  | n :: ns, t :: ts, d :: dv, h1, h2, h => by
    simp only [List.zip_cons_cons, List.find?_cons] at h
    simp only [ents, List.zip_cons_cons, List.map_cons, List.find?_cons, Value.isStr]
    by_cases hn : n = f
    · subst hn
      simp only [beq_self_eq_true, Option.some.injEq, Prod.mk.injEq, true_and] at h
      exact ⟨⟨keyOf P (.str (B.nm n) t), .str (B.nm n) t, d⟩, by simp only [beq_self_eq_true], h⟩
    · have e1 : (n == f) = false := by simpa using hn
      have e2 : (B.nm n == B.nm f) = false := by
        rw [beq_eq_false_iff_ne]
        exact fun e => hn (inj _ _ e)
      simp only [e1] at h
      simp only [e2]
      exact ents_find inj ns ts dv (by simpa using h1) (by simpa using h2) h
theorem attr_of {KF : Frag} (inj : ∀ x y, B.nm x = B.nm y → x = y) (Z : ClsOk B KF) (hga : findIn KF (.ref B.C) "__getattribute__" = some (some (.builtin "object.__getattribute__")))
    (hat : ∀ f, f = 19 ∨ f = 20 ∨ f = 21 → ∃ attr, findIn KF (.ref B.C) (B.nm f) = some attr ∧ (match attr with | some a => specialIn KF a "__get__" | none => some none) = some none) (hh : (clsIn KF B.C).any (·.hasDict) = true)
    (A : Around) (s : Shared) (a dx : Addr) (n : Nat) (ns : List Nat) (ts : List Tok) (dv : List Value) (f : Nat) (v : Value) (E : Value → Shared → Prop) (Q : Value → Shared → Prop) (g : Good B s) (hx : s.heap.get? a = some (instObj B.C dx))
    (hd : s.heap.get? dx = some { cls := .type "dict", dict := none, data := .dict (ents B.w.params ((ns.zip ts).map fun p => Value.str (B.nm p.1) p.2) dv).toArray n, slots := #[] }) (l1 : ts.length = ns.length) (l2 : dv.length = ns.length)
    (hf : ((ns.zip dv).find? fun q => q.1 == f) = some (f, v)) (hf3 : f = 19 ∨ f = 20 ∨ f = 21) (hv : handedIn v = true) (k : ∀ t, Q v { s with toks := t }) : wpAny B.M A (getAttr (.ref a) (B.nm f) true) Q E s := by
  have X := Z.here g
  obtain ⟨attr, h1, h2⟩ := hat f hf3
  obtain ⟨e, he, rfl⟩ := ents_find (P := B.w.params) inj ns ts dv l1 l2 hf
  obtain ⟨cd, hc, hcd⟩ : ∃ cd, clsIn KF B.C = some cd ∧ cd.hasDict = true := by
    cases hc : clsIn KF B.C with
    | none => rw [hc] at hh; cases hh
    | some cd => rw [hc] at hh; exact ⟨cd, rfl, hh⟩
  refine get_value (K := KF) X (instAt_of hx hd) hga ?_ hv (k _)
  have own : W.ownOf cd (some { cls := .type "dict", dict := none, data := .dict (ents B.w.params ((ns.zip ts).map fun p => Value.str (B.nm p.1) p.2) dv).toArray n, slots := #[] }) (B.nm f) = some (some e.val) := by
    unfold W.ownOf
    rw [hcd, if_pos rfl]
    unfold lookIn
    simp only [List.toList_toArray]
    rw [he]
  unfold findObj
  rw [hc, Option.bind_some, h1, Option.bind_some]
  cases attr with
  | none =>
    simp only [Option.bind_some]
    rw [own]; rfl
  | some a' =>
    simp only at h2
    simp only [h2, Option.bind_some]
    rw [own]; rfl
end Mine
end
section
open PySem PySem.W PySem.W.X PySem.Calls PyProof.Rows
namespace Mine
theorem zip_lookup : ∀ (ns : List Str) (vals : List Value), ns.Nodup → vals.length = ns.length → (ns.filterMap fun n => ((ns.zip vals).lookup n).map (n, ·)) = ns.zip vals := by
  have key : ∀ (ns : List Str) (vals : List Value) (pre : List (Str × Value)), ns.Nodup → (∀ n ∈ ns, ∀ q ∈ pre, q.1 ≠ n) → vals.length = ns.length → (ns.filterMap fun n => ((pre ++ ns.zip vals).lookup n).map (n, ·)) = ns.zip vals := by
    intro ns
    induction ns with
    | nil => intro vals pre _ _ _; simp
    | cons n ns ih =>
      intro vals pre hn hp hl
      cases vals with
      | nil => simp at hl
      | cons v vals =>
        simp only [List.nodup_cons] at hn
        have h1 : ∀ (l : List (Str × Value)) (pre : List (Str × Value)), (∀ q ∈ pre, q.1 ≠ n) → (pre ++ (n, v) :: l).lookup n = some v := by
          intro l pre hp
          induction pre with
          | nil => simp
          | cons q r ihr =>
            obtain ⟨a, b⟩ := q
            have : (n == a) = false := by
              rw [beq_eq_false_iff_ne]
              exact fun e => hp (a, b) List.mem_cons_self e.symm
            rw [List.cons_append, List.lookup_cons, this]
            exact ihr fun q hq => hp q (List.mem_cons_of_mem _ hq)
        rw [List.zip_cons_cons, List.filterMap_cons, h1 _ _ (hp n List.mem_cons_self)]
        simp only [Option.map_some, List.cons.injEq, true_and]
        have := ih vals (pre ++ [(n, v)]) hn.2 (fun m hm q hq => by
          rcases List.mem_append.mp hq with h | h
          · exact hp m (List.mem_cons_of_mem _ hm) q h
          · simp only [List.mem_cons, List.not_mem_nil, or_false] at h
            subst h
            exact fun e => hn.1 (by rw [show n = m from e]; exact hm)) (by simpa using hl)
        simpa using this
  intro ns vals hn hl
  exact key ns vals [] hn (fun _ _ q hq => by cases hq) hl
theorem zip_all : ∀ (ns : List Str) (vals : List Value), vals.length = ns.length → ∀ n ∈ ns, ((ns.zip vals).lookup n).isNone = false
  | [], _, _, n, h => by cases h
  | _ :: _, [], h, _, _ => by simp at h
  | m :: ns, v :: vals, hl, n, h => by
    rw [List.zip_cons_cons, List.lookup_cons]
    by_cases e : n = m
    · subst e; simp
    · rw [show (n == m) = false by simpa using e]
      exact zip_all ns vals (by simpa using hl) n ((List.mem_cons.mp h).resolve_left e)
noncomputable def namesOf (nm : Nat → Str) (ps : List (Nat × Pos)) : List Str := (paramsOf nm ps).args.map fun a => a.arg
noncomputable def dfOf (N : List Str) : List Value := ((none : Option (Array Value)).getD #[]).toList.drop (((none : Option (Array Value)).getD #[]).toList.length - N.length)
theorem bind_shape (nm : Nat → Str) (ps : List (Nat × Pos)) (fd : FuncData) (vals : List Value) : ∃ (E1 E2 : Sem (List (Str × Value))) (F : Str × Value → List (Str × Value) → Sem (ForInStep (List (Str × Value)))),
    bindArgs { fd with params := paramsOf nm ps, defaults := .none, kwdefaults := .none } ⟨vals, []⟩ =
      if (decide (vals.length > (namesOf nm ps).length) && true) = true then E1 else
      if (!(((namesOf nm ps).take ((namesOf nm ps).length - (dfOf (namesOf nm ps)).length)).filter fun n => (((namesOf nm ps).zip vals).lookup n).isNone).isEmpty) = true then E2 else
      (forIn (((namesOf nm ps).drop ((namesOf nm ps).length - (dfOf (namesOf nm ps)).length)).zip (dfOf (namesOf nm ps))) ((namesOf nm ps).zip vals) F >>= fun s =>
        pure (((namesOf nm ps) ++ []).filterMap fun n => (s.lookup n).map (n, ·))) := by
  refine ⟨?_, ?_, ?_, ?_⟩
  rotate_left 3
  · exact rfl
theorem fd_eq {fd : FuncData} {p : Arguments} {d k : Value} (h1 : fd.params = p) (h2 : fd.defaults = d) (h3 : fd.kwdefaults = k) : fd = { fd with params := p, defaults := d, kwdefaults := k } := by rw [← h1, ← h2, ← h3]
theorem bind_plain (nm : Nat → Str) {ps : List (Nat × Pos)} (hn : (ps.map fun q => nm q.1).Nodup) (fd : FuncData) (vals : List Value) (h1 : fd.params = paramsOf nm ps) (h2 : fd.defaults = .none) (h3 : fd.kwdefaults = .none) (hl : vals.length = ps.length) :
    bindArgs fd ⟨vals, []⟩ = pure ((ps.map fun q => nm q.1).zip vals) := by
  obtain ⟨E1, E2, F, h⟩ := bind_shape nm ps fd vals
  have hN : namesOf nm ps = ps.map fun q => nm q.1 := List.map_map
  have hd : dfOf (namesOf nm ps) = [] := List.drop_nil
  rw [fd_eq h1 h2 h3, h, hd, hN, if_neg, if_neg]
  · show (forIn (List.zip (List.drop ((ps.map fun q => nm q.1).length - 0) (ps.map fun q => nm q.1)) []) ((ps.map fun q => nm q.1).zip vals) F >>= _) = _
    rw [List.zip_nil_right, List.append_nil]
    exact congrArg (pure (f := Sem)) (zip_lookup _ _ hn (by simpa using hl))
  · rw [List.filter_eq_nil_iff.mpr fun n hn' => by rw [zip_all _ _ (by simpa using hl) n (List.mem_of_mem_take hn')]; exact Bool.false_ne_true]
    exact Bool.false_ne_true
  · rw [decide_eq_false (by rw [hl, List.length_map]; exact Nat.lt_irrefl _)]
    exact Bool.false_ne_true
end Mine
end
section
open PySem PySem.W PySem.W.X PySem.Calls PyProof.Rows
set_option genInjectivity true
namespace Mine
variable {B : Bs}
structure FnV where
  params : Arguments
  body : FuncBody
  names : List (Str × NameKind)
  kind : ScopeKind
  gen : Bool
  co : Bool
  glob : Addr
  blt : Addr
  clos : List (Str × Addr)
  dfl : Value
  kw : Value
  code : Value
  qual : Str
noncomputable def fnView (K : Frag) (a : Addr) : Option FnV := match K.lookup a with
  | some ⟨_, _, .func fd, _⟩ => some ⟨fd.params, fd.body, fd.scope.names, fd.scope.kind, fd.scope.isGenerator, fd.scope.isCoroutine, fd.globals, fd.builtins, fd.closure, fd.defaults, fd.kwdefaults, fd.code, fd.qualname⟩
  | _ => none
noncomputable def codeView (K : Frag) (a : Addr) : Option Str := match K.lookup a with
  | some ⟨_, _, .fields vs, _⟩ => (match (vs[1]? : Option Value) with
    | some (.str q _) => some q
    | _ => none)
  | _ => none
theorem codeView_of {K : Frag} {a : Addr} {q : Str} (h : codeView K a = some q) : ∃ o vs t, K.lookup a = some o ∧ o.data = .fields vs ∧ vs[1]? = some (.str q t) := by
  unfold codeView at h
  split at h
  case h_2 => exact nomatch h
  rename_i vs _ hk
  split at h
  case h_2 => exact nomatch h
  rename_i q' t hv
  obtain rfl := Option.some.inj h
  exact ⟨_, vs, t, hk, rfl, hv⟩
theorem defOk_of {KF : Frag} (KX : KF.In B.h₀) (G : B.h₀.Ns mainGlobals B.mg) {f fid : Nat} {ps : List (Nat × Pos)} {sc : List (Nat × NameKind)} {body : List Stmt} {fa c : Addr} {qual : Str}
    (e1 : nsIn KF mainGlobals (B.nm f) = some (some (.ref fa)))
    (e2 : fnView KF fa = some ⟨paramsOf B.nm ps, .stmts body, named B.nm sc, .function, false, false, mainGlobals, builtinsNs, [], .none, .none, .ref c, qual⟩)
    (e3 : codeView KF c = some qual) (n1 : ¬ B.T fa) (n2 : ¬ B.T c) (hfid : fid = 0 ∨ (Value.ref c = B.cd fid ∧ qual ++ (".<locals>." : Str) = B.pq fid))
    (nd : (sc.map (·.1)).Nodup) (inj : ∀ x y, B.nm x = B.nm y → x = y) (np : (ps.map (·.1)).Nodup) (hk : ∀ q ∈ sc, q.2 = .local ∨ q.2 = .cell ∨ q.2 = .globalImplicit) (hp : ∀ x ∈ ps.map (·.1), sc.lookup x = some .local ∨ sc.lookup x = some .cell) :
    ∃ fo fd, DefOk B f fid (ps.map (·.1)) sc body fa fo fd := by
  unfold fnView at e2
  split at e2
  case h_2 => cases e2
  rename_i cls dct fd sl hlk
  simp only [Option.some.injEq, FnV.mk.injEq] at e2
  obtain ⟨p1, p2, p3, p4, p5, p6, p7, p8, p9, p10, p11, p12, p13⟩ := e2
  obtain ⟨oc, vs, t, c1, c2, c3⟩ := codeView_of e3
  have hmap : (ps.map (·.1)).map B.nm = ps.map fun q => B.nm q.1 := by rw [List.map_map]; rfl
  refine ⟨_, fd, mg_of KX G e1, n1, KX _ _ hlk, rfl, p2, p3, p4, p5, p6, p7, p8, p9, ⟨c, oc, vs, t, p12, n2, KX _ _ c1, c2, by rw [p13]; exact c3⟩, fun vals hl => ?_, ?_, nd, fun x k h => hk (x, k) (mem_of_lookup' h), hp⟩
  · rw [hmap]
    refine bind_plain B.nm ?_ fd vals p1 p10 p11 (by simpa using hl)
    rw [← hmap]
    exact List.Pairwise.map B.nm (fun a b hab e => hab (inj _ _ e)) np
  · rcases hfid with h | ⟨h1, h2⟩
    · exact .inl h
    · exact .inr ⟨by rw [p12]; exact h1, by rw [p13]; exact h2⟩
where
  mem_of_lookup' {sc : List (Nat × NameKind)} {x : Nat} {k : NameKind} (h : sc.lookup x = some k) : (x, k) ∈ sc := by
    induction sc with
    | nil => cases h
    | cons a r ih =>
      obtain ⟨y, j⟩ := a
      rw [List.lookup_cons] at h
      split at h
      · rename_i hxy
        have : x = y := by simpa using hxy
        obtain rfl := Option.some.inj h; subst this
        exact List.mem_cons_self
      · exact List.mem_cons_of_mem _ (ih h)
theorem initFn_of {KF : Frag} (KX : KF.In B.h₀) {slf : Nat} {a1 a2 : Pos} {fI c : Addr} {qual : Str} {p1 p2 p3 p4 : Pos} (hfind : findIn KF (.ref B.C) "__init__" = some (some (.ref fI)))
    (e2 : fnView KF fI = some ⟨paramsOf B.nm [(slf, a1), (19, a2)], .stmts [.Assign [.Attribute (.Name (B.nm slf) p1) (B.nm 19) p2] (.Name (B.nm 19) p3) p4], named B.nm [(slf, .local), (19, .local)], .function, false, false, mainGlobals, builtinsNs, [], .none, .none, .ref c, qual⟩)
    (e3 : codeView KF c = some qual) (n1 : ¬ B.T fI) (n2 : ¬ B.T c) (inj : ∀ x y, B.nm x = B.nm y → x = y) (hne : slf ≠ 19) : ∃ fo fd, InitFn B KF slf fI fo fd p1 p2 p3 p4 := by
  unfold fnView at e2
  split at e2
  case h_2 => cases e2
  rename_i cls dct fd sl hlk
  simp only [Option.some.injEq, FnV.mk.injEq] at e2
  obtain ⟨q1, q2, q3, q4, q5, q6, q7, q8, q9, q10, q11, q12, q13⟩ := e2
  obtain ⟨oc, vs, t, c1, c2, c3⟩ := codeView_of e3
  refine ⟨_, fd, hfind, n1, KX _ _ hlk, rfl, q2, q3, q4, q5, q6, q7, q8, q9, ⟨c, oc, vs, t, q12, n2, KX _ _ c1, c2, by rw [q13]; exact c3⟩, fun a b => ?_⟩
  refine bind_plain B.nm (ps := [(slf, a1), (19, a2)]) ?_ fd [a, b] q1 q10 q11 rfl
  simp only [List.map_cons, List.map_nil, List.nodup_cons, List.mem_cons, List.not_mem_nil, or_false, not_false_eq_true, List.nodup_nil, and_true]
  exact fun e => hne (inj _ _ e)
end Mine
end
section
open PySem PySem.W PySem.W.X PySem.Calls PyProof.Rows
namespace Mine
variable {B : Bs} {K K' : Nat}
theorem IterOk.mono {F : Addr → Prop} {it : Addr} {I : List D → Pv → Shared → Prop} (h : IterOk B K F it I) (hk : K ≤ K') : IterOk B K' F it I where
  sub := h.sub
  subg := h.subg
  ft := h.ft
  ty := h.ty
  stay := h.stay
  next := fun d l p s A E Q hI g R k => h.next d l p s A E Q hI g (R.less (by lia)) k
  done := fun p s A E Q hI g R k => h.done p s A E Q hI g (R.less (by lia)) k
  self := fun l p s A E Q hI g R k => h.self l p s A E Q hI g (R.less (by lia)) k
theorem ItRep.mono {s s' : Shared} {W : Addr → Prop} {v : Value} {l : List D} (h : ItRep B K s W v l s') (hk : K ≤ K') : ItRep B K' s W v l s' := by
  rcases h with h | ⟨a, F, p, I, h1, h2, h3, h4, h5, h6, h7, h8⟩
  · exact .inl h
  · exact .inr ⟨a, F, p, I, h1, h2, h3.mono hk, h4, h5, h6, h7, h8⟩
theorem Contract.mono {f : Nat} {args : List D} {d : D} (h : Contract B K f args d) (hk : K ≤ K') : Contract B K' f args d := by
  obtain ⟨fa, fo, fd, h1, h2, h3, h4, h5⟩ := h
  exact ⟨fa, fo, fd, h1, h2, h3, h4, fun A s W vals g R => h5 A s W vals g (R.less hk)⟩
theorem ContractL.mono {id : Nat} {caps args : List D} {d : D} (h : ContractL B K id caps args d) (hk : K ≤ K') : ContractL B K' id caps args d :=
  fun fa cv A s W vals g R => h fa cv A s W vals g (R.less hk)
theorem ContractG.mono {id : Nat} {caps args l : List D} (h : ContractG B K id caps args l) (hk : K ≤ K') : ContractG B K' id caps args l := by
  intro fa cv A s W vals g R tW wlt hl rc ra
  refine codeAny_mono (h fa cv A s W vals g (R.less hk) tW wlt hl rc ra) ?_
  rintro r s' ⟨v, h1, h2, h3⟩
  exact ⟨v, h1, h2, h3.mono hk⟩
theorem OldC.mono {Ψ : Nat → D → Option D} (h : OldC B K Ψ) (hk : K ≤ K') : OldC B K' Ψ := fun f d r e => by
  obtain ⟨fa, fo, fd, h1, h2, h3, h4, h5⟩ := h f d r e
  exact ⟨fa, fo, fd, h1, h2, h3, h4, fun A s W v g R => h5 A s W v g (R.less hk)⟩
structure Tx where
  ps : List Nat
  sc : List (Nat × NameKind)
  fid : Nat
  ir : List St
noncomputable def runF (Φ : Phi) (N : Nat) (t : Tx) (args : List D) : Option D := if t.ps.length = args.length then (match evSs Φ N (kindsF t.sc t.fid) (setArgs t.ps args fun _ => none) t.ir with
  | some (.rt d) => some d
  | _ => none) else none
structure Lx where
  ps : List Nat
  sc : List (Nat × NameKind)
  e : E
noncomputable def runL (Φ : Phi) (t : Lx) (all : List D) : Option D := if (freeOf t.sc).length + t.ps.length = all.length then
    (match ev Φ (kindsF t.sc 0) (setArgs t.ps (all.drop (freeOf t.sc).length) (capEnv (freeOf t.sc) (all.take (freeOf t.sc).length))) t.e with
    | some r => r.asD
    | none => none) else none
structure Gx where
  ps : List Nat
  sc : List (Nat × NameKind)
  rm : Nat
  ss : List Sg
noncomputable def runG (Φ : Phi) (Ψ : Nat → D → Option D) (t : Gx) (all : List D) : Option (List D) := if (freeOf t.sc).length + t.ps.length = all.length then
    (match evYs Φ Ψ t.rm (kindsF t.sc 0) (setArgs t.ps (all.drop (freeOf t.sc).length) (capEnv (freeOf t.sc) (all.take (freeOf t.sc).length))) t.ss with
    | some (l, _) => if l.length ≤ lim then some l else none
    | none => none) else none
section
variable (O : B.Ok)
include O
variable {Φ : Phi} {Ψ : Nat → D → Option D} {N : Nat}
theorem runF_ok {f : Nat} {t : Tx} {args : List D} {d : D} {fa : Addr} {fo : Obj} {fd : FuncData} (hd : DefOk B f t.fid t.ps t.sc (pyS B.nm t.ir) fa fo fd) (hok : okS B t.ir) (hK : 24 ≤ K) (P : PhiOk B K Φ) (h : runF Φ N t args = some d) : Contract B (K + 2) f args d := by
  unfold runF at h
  split at h
  case isFalse => exact nomatch h
  rename_i hl
  split at h
  case h_2 => exact nomatch h
  rename_i d' hev
  obtain rfl := Option.some.inj h
  exact def_contract O hd hK P hok hl hev
theorem lam_caps {id : Nat} {L : LSpec} {caps : List D} {cv : List Value} {h : Heap} {W : Addr → Prop} {fa : Addr} (hL : B.LS id = some L) (hlam : B.Lam id cv h W fa) (rc : RepAll B h W caps cv) : caps.length = L.fr.length := by
  obtain ⟨L', fo, fd, e, _, _, _, l⟩ := hlam
  obtain rfl := Option.some.inj (hL.symm.trans e)
  rw [← l.len, RepAll.length rc]
theorem runL_ok {id : Nat} {L : LSpec} {t : Lx} {caps args : List D} {d : D} (hx : LExp B id L t.ps t.sc t.e) (hok : t.e.ok B) (hK : 24 ≤ K) (P : PhiOk B K Φ) (h : runL Φ t (caps ++ args) = some d) : ContractL B (K + 2) id caps args d := by
  intro fa cv A s W vals g R tW wlt hlam rc ra
  have hc := lam_caps O hx.ls hlam rc
  rw [hx.fr] at hc
  unfold runL at h
  split at h
  case isFalse => exact nomatch h
  rename_i hl
  rw [List.length_append, hc] at hl
  rw [← hc, List.drop_left, List.take_left] at h
  split at h
  case h_2 => exact nomatch h
  rename_i r hev
  exact lam_contract O hx hK P hok (by lia) hev h fa cv A s W vals g R tW wlt hlam rc ra
theorem runG_ok {id : Nat} {L : LSpec} {t : Gx} {caps args l : List D} (hx : GExp B id L t.ps t.sc t.ss) (hok : okY B t.ss) (hK : 24 ≤ K) (P : PhiOk B K Φ) (HΨ : OldC B K Ψ) (h : runG Φ Ψ t (caps ++ args) = some l) : ContractG B (K + 6) id caps args l := by
  intro fa cv A s W vals g R tW wlt hlam rc ra
  have hc := lam_caps O hx.ls hlam rc
  rw [hx.fr] at hc
  unfold runG at h
  split at h
  case isFalse => exact nomatch h
  rename_i hl
  rw [List.length_append, hc] at hl
  rw [← hc, List.drop_left, List.take_left] at h
  split at h
  case h_2 => exact nomatch h
  rename_i l' ρ' hev
  split at h
  case isFalse => exact nomatch h
  rename_i hlim
  obtain rfl := Option.some.inj h
  exact gen_contract O hx hK P HΨ hok (by lia) hev hlim fa cv A s W vals g R tW wlt hlam rc ra
noncomputable def Phi.up (Φ : Phi) (N : Nat) (Ψ : Nat → D → Option D) (tF : Nat → Option Tx) (tL : Nat → Option Lx) (tG : Nat → Option Gx) : Phi where
  call := fun f args => match tF f with
    | some t => runF Φ N t args
    | none => Φ.call f args
  lam := fun id all => match tL id with
    | some t => runL Φ t all
    | none => Φ.lam id all
  gen := fun id all => match tG id with
    | some t => runG Φ Ψ t all
    | none => Φ.gen id all
theorem up_ok {tF : Nat → Option Tx} {tL : Nat → Option Lx} {tG : Nat → Option Gx} (hK : 24 ≤ K) (P : PhiOk B K Φ) (HΨ : OldC B K Ψ) (hF : ∀ f t, tF f = some t → okS B t.ir ∧ ∃ fa fo fd, DefOk B f t.fid t.ps t.sc (pyS B.nm t.ir) fa fo fd)
    (hL : ∀ id t, tL id = some t → t.e.ok B ∧ ∃ L, LExp B id L t.ps t.sc t.e) (hG : ∀ id t, tG id = some t → okY B t.ss ∧ tL id = none ∧ (∀ all, Φ.lam id all = none) ∧ ∃ L, GExp B id L t.ps t.sc t.ss) (hgl : ∀ id t, tL id = some t → ∀ all, Φ.gen id all = none) :
    PhiOk B (K + 6) (Φ.up N Ψ tF tL tG) where
  call := fun f args d h => by
    simp only [Phi.up] at h
    split at h
    · rename_i t ht
      obtain ⟨ok, fa, fo, fd, hd⟩ := hF f t ht
      exact (runF_ok O hd ok hK P h).mono (by lia)
    · exact (P.call f args d h).mono (by lia)
  lam := fun id caps args d h => by
    simp only [Phi.up] at h
    split at h
    · rename_i t ht
      obtain ⟨ok, L, hx⟩ := hL id t ht
      exact (runL_ok O hx ok hK P h).mono (by lia)
    · exact (P.lam id caps args d h).mono (by lia)
  gen := fun id caps args l h1 h => by
    simp only [Phi.up] at h h1
    split at h
    · rename_i t ht
      obtain ⟨ok, _, _, L, hx⟩ := hG id t ht
      exact runG_ok O hx ok hK P HΨ h
    · rename_i hn
      split at h1
      · rename_i t ht
        rw [hgl id t ht] at h
        exact nomatch h
      · exact (P.gen id caps args l h1 h).mono (by lia)
end
end Mine
end
namespace Mine
noncomputable def nmL : List String := ["len", "chr", "ord", "sorted", "list", "range", "isinstance", "str", "set", "min", "find", "split", "join", "replace", "translate", "endswith", "append", "extend", "pop", "root", "tag", "parent_map", "iter", "_SelectorContext", "_special_chars_map", "self", "?26", "?27", "?28", "?29", "get_parent_map", "_is_wildcard_tag", "_prepare_tag", "prepare_child", "prepare_parent", "escape", "_raise_serialization_error", "_escape_cdata", "_escape_attrib", "_escape_attrib_html", "_escape_cdata_c14n", "_escape_attrib_c14n", "_law_cells", "_law_written", "_law_spelled", "_law_thing", "_law_context", "_law_on", "_law_back", "_law_fewest", "_law_meet", "law", "context", "_isinstance", "_str", "token", "result", "elem", "e", "select", "next", "select_tag", "result_map", "parent", "pattern", "encode", "text", "TypeError", "AttributeError", "cells", "k", "script", "kind", "word", "table", "out", "sign", "at", "piece", "code", "thing", "number", "names", "p", "places", ".0", "climb", "rows", "q", "wish", "seen", "count", "level", "size", "fresh", "way", "reached", "lead", "pairs", "met", "ways", "one", "other", "n", "called", "spelled", "name", "tags", "wishes", "contexts", "strangers", "row", "passed", "line", "ends", "fewest", "some"]
noncomputable def nmF (n : Nat) : Str := match nmL[n]? with
  | some x => Str.ofString x
  | none => ⟨(List.replicate n 63).toArray⟩
noncomputable def ir_is_wildcard_tag : List St := [
    .ret (.bop .Or [(.cmp (.slc (.name 20 ⟨11,11,11,14⟩) none (some (.int 3 ⟨11,16,11,17⟩)) ⟨11,15,11,17⟩ ⟨11,11,11,18⟩) .Eq (.str [123,42,125] ⟨11,22,11,27⟩) ⟨11,11,11,27⟩), (.cmp (.slc (.name 20 ⟨11,31,11,34⟩) (some (.neg 2 ⟨11,36,11,37⟩ ⟨11,35,11,37⟩)) none ⟨11,35,11,38⟩ ⟨11,31,11,39⟩) .Eq (.str [125,42] ⟨11,43,11,47⟩) ⟨11,31,11,47⟩)] ⟨11,11,11,47⟩) ⟨11,4,11,47⟩]
noncomputable def ps_is_wildcard_tag : List (Nat × Pos) := [(20, ⟨10,21,10,24⟩)]
noncomputable def sc_is_wildcard_tag : List (Nat × NameKind) := [(20, .local)]
noncomputable def gs_prepare_child : List Sg := [.forS 57 ⟨65,16,65,20⟩ 56 ⟨65,24,65,30⟩ [.forS 58 ⟨66,20,66,21⟩ 57 ⟨66,25,66,29⟩ [.ifS (.cmp (.attr (.name 58 ⟨67,23,67,24⟩) 20 ⟨67,23,67,28⟩) .Eq (.name 20 ⟨67,32,67,35⟩) ⟨67,23,67,35⟩) [.yld 58 ⟨68,30,68,31⟩ ⟨68,24,68,31⟩ ⟨68,24,68,31⟩] ⟨67,20,68,31⟩] ⟨66,16,68,31⟩] ⟨65,12,68,31⟩]
noncomputable def gps_prepare_child : List (Nat × Pos) := [(52, ⟨64,19,64,26⟩), (56, ⟨64,28,64,34⟩)]
noncomputable def gsc_prepare_child : List (Nat × NameKind) := [(52, .local), (56, .local), (57, .local), (58, .local), (20, .free)]
noncomputable def ir_prepare_child (w : List Stmt) : List St := [
    .asg 20 (.idx (.name 55 ⟨50,10,50,15⟩) (.int 1 ⟨50,16,50,17⟩) ⟨50,10,50,18⟩) ⟨50,4,50,7⟩ ⟨50,4,50,18⟩,
    .ifS (.call 31 [(.name 20 ⟨51,24,51,27⟩)] ⟨51,7,51,23⟩ ⟨51,7,51,28⟩) [.raw w] [.ifS (.cmp (.slc (.name 20 ⟨61,11,61,14⟩) none (some (.int 2 ⟨61,16,61,17⟩)) ⟨61,15,61,17⟩ ⟨61,11,61,18⟩) .Eq (.str [123,125] ⟨61,22,61,26⟩) ⟨61,11,61,26⟩) [.asg 20 (.slc (.name 20 ⟨62,18,62,21⟩) (some (.int 2 ⟨62,22,62,23⟩)) none ⟨62,22,62,24⟩ ⟨62,18,62,25⟩) ⟨62,12,62,15⟩ ⟨62,12,62,25⟩] [] ⟨61,8,62,25⟩, .seal 20, .defS 59 12 33 [(52, ⟨64,19,64,26⟩), (56, ⟨64,28,64,34⟩)] (pyY nmF gs_prepare_child) [(52, .local), (56, .local), (57, .local), (58, .local), (20, .free)] true ⟨64,8,68,31⟩] ⟨51,4,68,31⟩,
    .ret (.name 59 ⟨69,11,69,17⟩) ⟨69,4,69,17⟩]
noncomputable def ps_prepare_child : List (Nat × Pos) := [(60, ⟨49,18,49,22⟩), (55, ⟨49,24,49,29⟩)]
noncomputable def sc_prepare_child : List (Nat × NameKind) := [(60, .local), (55, .local), (59, .local), (61, .cell), (20, .cell), (31, .globalImplicit), (32, .globalImplicit)]
noncomputable def gs_prepare_parent : List Sg := [.pm 21 30 52 ⟨73,8,73,18⟩ ⟨73,21,73,35⟩ ⟨73,36,73,43⟩ ⟨73,21,73,44⟩ ⟨73,8,73,44⟩, .newD 62 ⟨74,8,74,18⟩ ⟨74,21,74,23⟩ ⟨74,8,74,23⟩, .forS 57 ⟨75,12,75,16⟩ 56 ⟨75,20,75,26⟩ [.ifS (.cmp (.name 57 ⟨76,15,76,19⟩) .In (.name 21 ⟨76,23,76,33⟩) ⟨76,15,76,33⟩) [.asg 63 (.idx (.name 21 ⟨77,25,77,35⟩) (.name 57 ⟨77,36,77,40⟩) ⟨77,25,77,41⟩) ⟨77,16,77,22⟩ ⟨77,16,77,41⟩, .ifNew 62 63 [.yld 63 ⟨80,26,80,32⟩ ⟨80,20,80,32⟩ ⟨80,20,80,32⟩] ⟨78,19,78,25⟩ ⟨78,33,78,43⟩ ⟨78,19,78,43⟩ ⟨79,20,79,30⟩ ⟨79,31,79,37⟩ ⟨79,20,79,38⟩ ⟨79,41,79,45⟩ ⟨79,20,79,45⟩ ⟨78,16,80,32⟩] ⟨76,12,80,32⟩] ⟨75,8,80,32⟩]
noncomputable def gps_prepare_parent : List (Nat × Pos) := [(52, ⟨72,15,72,22⟩), (56, ⟨72,24,72,30⟩)]
noncomputable def gsc_prepare_parent : List (Nat × NameKind) := [(52, .local), (56, .local), (21, .local), (62, .local), (57, .local), (63, .local), (30, .globalImplicit)]
noncomputable def ir_prepare_parent : List St := [
    .defS 59 11 34 [(52, ⟨72,15,72,22⟩), (56, ⟨72,24,72,30⟩)] (pyY nmF gs_prepare_parent) [(52, .local), (56, .local), (21, .local), (62, .local), (57, .local), (63, .local), (30, .globalImplicit)] true ⟨72,4,80,32⟩,
    .ret (.name 59 ⟨81,11,81,17⟩) ⟨81,4,81,17⟩]
noncomputable def ps_prepare_parent : List (Nat × Pos) := [(60, ⟨70,19,70,23⟩), (55, ⟨70,25,70,30⟩)]
noncomputable def sc_prepare_parent : List (Nat × NameKind) := [(60, .local), (55, .local), (59, .local)]
noncomputable def ir_escape : List St := [
    .ifS (.blt 6 [(.name 64 ⟨90,18,90,25⟩), (.name 7 ⟨90,27,90,30⟩)] ⟨90,7,90,17⟩ ⟨90,7,90,31⟩) [.ret (.meth (.name 64 ⟨91,15,91,22⟩) 14 [(.name 24 ⟨91,33,91,51⟩)] ⟨91,15,91,32⟩ ⟨91,15,91,52⟩) ⟨91,8,91,52⟩] [.asg 64 (.blt 7 [(.name 64 ⟨93,22,93,29⟩), (.str [108,97,116,105,110,49] ⟨93,31,93,39⟩)] ⟨93,18,93,21⟩ ⟨93,18,93,40⟩) ⟨93,8,93,15⟩ ⟨93,8,93,40⟩, .ret (.meth (.meth (.name 64 ⟨94,15,94,22⟩) 14 [(.name 24 ⟨94,33,94,51⟩)] ⟨94,15,94,32⟩ ⟨94,15,94,52⟩) 65 [(.str [108,97,116,105,110,49] ⟨94,60,94,68⟩)] ⟨94,15,94,59⟩ ⟨94,15,94,69⟩) ⟨94,8,94,69⟩] ⟨90,4,94,69⟩]
noncomputable def ps_escape : List (Nat × Pos) := [(64, ⟨89,11,89,18⟩)]
noncomputable def sc_escape : List (Nat × NameKind) := [(64, .local), (6, .globalImplicit), (7, .globalImplicit), (24, .globalImplicit)]
noncomputable def ir_escape_cdata (hs : List ExceptHandler) : List St := [
    .tryS [.sub 66 [38] [38,97,109,112,59] ⟨100,11,100,14⟩ ⟨100,18,100,22⟩ ⟨100,11,100,22⟩ ⟨101,12,101,16⟩ ⟨101,19,101,23⟩ ⟨101,19,101,31⟩ ⟨101,32,101,35⟩ ⟨101,37,101,44⟩ ⟨101,19,101,45⟩ ⟨101,12,101,45⟩ ⟨100,8,101,45⟩, .sub 66 [60] [38,108,116,59] ⟨102,11,102,14⟩ ⟨102,18,102,22⟩ ⟨102,11,102,22⟩ ⟨103,12,103,16⟩ ⟨103,19,103,23⟩ ⟨103,19,103,31⟩ ⟨103,32,103,35⟩ ⟨103,37,103,43⟩ ⟨103,19,103,44⟩ ⟨103,12,103,44⟩ ⟨102,8,103,44⟩, .sub 66 [62] [38,103,116,59] ⟨104,11,104,14⟩ ⟨104,18,104,22⟩ ⟨104,11,104,22⟩ ⟨105,12,105,16⟩ ⟨105,19,105,23⟩ ⟨105,19,105,31⟩ ⟨105,32,105,35⟩ ⟨105,37,105,43⟩ ⟨105,19,105,44⟩ ⟨105,12,105,44⟩ ⟨104,8,105,44⟩, .ret (.name 66 ⟨106,15,106,19⟩) ⟨106,8,106,19⟩] hs ⟨99,4,108,40⟩]
noncomputable def ps_escape_cdata : List (Nat × Pos) := [(66, ⟨98,18,98,22⟩)]
noncomputable def sc_escape_cdata : List (Nat × NameKind) := [(66, .local), (67, .globalImplicit), (68, .globalImplicit), (36, .globalImplicit)]
noncomputable def ir_escape_attrib (hs : List ExceptHandler) : List St := [
    .tryS [.sub 66 [38] [38,97,109,112,59] ⟨111,11,111,14⟩ ⟨111,18,111,22⟩ ⟨111,11,111,22⟩ ⟨112,12,112,16⟩ ⟨112,19,112,23⟩ ⟨112,19,112,31⟩ ⟨112,32,112,35⟩ ⟨112,37,112,44⟩ ⟨112,19,112,45⟩ ⟨112,12,112,45⟩ ⟨111,8,112,45⟩, .sub 66 [60] [38,108,116,59] ⟨113,11,113,14⟩ ⟨113,18,113,22⟩ ⟨113,11,113,22⟩ ⟨114,12,114,16⟩ ⟨114,19,114,23⟩ ⟨114,19,114,31⟩ ⟨114,32,114,35⟩ ⟨114,37,114,43⟩ ⟨114,19,114,44⟩ ⟨114,12,114,44⟩ ⟨113,8,114,44⟩, .sub 66 [62] [38,103,116,59] ⟨115,11,115,14⟩ ⟨115,18,115,22⟩ ⟨115,11,115,22⟩ ⟨116,12,116,16⟩ ⟨116,19,116,23⟩ ⟨116,19,116,31⟩ ⟨116,32,116,35⟩ ⟨116,37,116,43⟩ ⟨116,19,116,44⟩ ⟨116,12,116,44⟩ ⟨115,8,116,44⟩, .sub 66 [34] [38,113,117,111,116,59] ⟨117,11,117,14⟩ ⟨117,18,117,22⟩ ⟨117,11,117,22⟩ ⟨118,12,118,16⟩ ⟨118,19,118,23⟩ ⟨118,19,118,31⟩ ⟨118,32,118,35⟩ ⟨118,37,118,45⟩ ⟨118,19,118,46⟩ ⟨118,12,118,46⟩ ⟨117,8,118,46⟩, .sub 66 [13] [38,35,49,51,59] ⟨119,11,119,15⟩ ⟨119,19,119,23⟩ ⟨119,11,119,23⟩ ⟨120,12,120,16⟩ ⟨120,19,120,23⟩ ⟨120,19,120,31⟩ ⟨120,32,120,36⟩ ⟨120,38,120,45⟩ ⟨120,19,120,46⟩ ⟨120,12,120,46⟩ ⟨119,8,120,46⟩, .sub 66 [10] [38,35,49,48,59] ⟨121,11,121,15⟩ ⟨121,19,121,23⟩ ⟨121,11,121,23⟩ ⟨122,12,122,16⟩ ⟨122,19,122,23⟩ ⟨122,19,122,31⟩ ⟨122,32,122,36⟩ ⟨122,38,122,45⟩ ⟨122,19,122,46⟩ ⟨122,12,122,46⟩ ⟨121,8,122,46⟩, .sub 66 [9] [38,35,48,57,59] ⟨123,11,123,15⟩ ⟨123,19,123,23⟩ ⟨123,11,123,23⟩ ⟨124,12,124,16⟩ ⟨124,19,124,23⟩ ⟨124,19,124,31⟩ ⟨124,32,124,36⟩ ⟨124,38,124,45⟩ ⟨124,19,124,46⟩ ⟨124,12,124,46⟩ ⟨123,8,124,46⟩, .ret (.name 66 ⟨125,15,125,19⟩) ⟨125,8,125,19⟩] hs ⟨110,4,127,40⟩]
noncomputable def ps_escape_attrib : List (Nat × Pos) := [(66, ⟨109,19,109,23⟩)]
noncomputable def sc_escape_attrib : List (Nat × NameKind) := [(66, .local), (67, .globalImplicit), (68, .globalImplicit), (36, .globalImplicit)]
noncomputable def ir_escape_attrib_html (hs : List ExceptHandler) : List St := [
    .tryS [.sub 66 [38] [38,97,109,112,59] ⟨130,11,130,14⟩ ⟨130,18,130,22⟩ ⟨130,11,130,22⟩ ⟨131,12,131,16⟩ ⟨131,19,131,23⟩ ⟨131,19,131,31⟩ ⟨131,32,131,35⟩ ⟨131,37,131,44⟩ ⟨131,19,131,45⟩ ⟨131,12,131,45⟩ ⟨130,8,131,45⟩, .sub 66 [62] [38,103,116,59] ⟨132,11,132,14⟩ ⟨132,18,132,22⟩ ⟨132,11,132,22⟩ ⟨133,12,133,16⟩ ⟨133,19,133,23⟩ ⟨133,19,133,31⟩ ⟨133,32,133,35⟩ ⟨133,37,133,43⟩ ⟨133,19,133,44⟩ ⟨133,12,133,44⟩ ⟨132,8,133,44⟩, .sub 66 [34] [38,113,117,111,116,59] ⟨134,11,134,14⟩ ⟨134,18,134,22⟩ ⟨134,11,134,22⟩ ⟨135,12,135,16⟩ ⟨135,19,135,23⟩ ⟨135,19,135,31⟩ ⟨135,32,135,35⟩ ⟨135,37,135,45⟩ ⟨135,19,135,46⟩ ⟨135,12,135,46⟩ ⟨134,8,135,46⟩, .ret (.name 66 ⟨136,15,136,19⟩) ⟨136,8,136,19⟩] hs ⟨129,4,138,40⟩]
noncomputable def ps_escape_attrib_html : List (Nat × Pos) := [(66, ⟨128,24,128,28⟩)]
noncomputable def sc_escape_attrib_html : List (Nat × NameKind) := [(66, .local), (67, .globalImplicit), (68, .globalImplicit), (36, .globalImplicit)]
noncomputable def ir_escape_cdata_c14n (hs : List ExceptHandler) : List St := [
    .tryS [.sub 66 [38] [38,97,109,112,59] ⟨141,11,141,14⟩ ⟨141,18,141,22⟩ ⟨141,11,141,22⟩ ⟨142,12,142,16⟩ ⟨142,19,142,23⟩ ⟨142,19,142,31⟩ ⟨142,32,142,35⟩ ⟨142,37,142,44⟩ ⟨142,19,142,45⟩ ⟨142,12,142,45⟩ ⟨141,8,142,45⟩, .sub 66 [60] [38,108,116,59] ⟨143,11,143,14⟩ ⟨143,18,143,22⟩ ⟨143,11,143,22⟩ ⟨144,12,144,16⟩ ⟨144,19,144,23⟩ ⟨144,19,144,31⟩ ⟨144,32,144,35⟩ ⟨144,37,144,43⟩ ⟨144,19,144,44⟩ ⟨144,12,144,44⟩ ⟨143,8,144,44⟩, .sub 66 [62] [38,103,116,59] ⟨145,11,145,14⟩ ⟨145,18,145,22⟩ ⟨145,11,145,22⟩ ⟨146,12,146,16⟩ ⟨146,19,146,23⟩ ⟨146,19,146,31⟩ ⟨146,32,146,35⟩ ⟨146,37,146,43⟩ ⟨146,19,146,44⟩ ⟨146,12,146,44⟩ ⟨145,8,146,44⟩, .sub 66 [13] [38,35,120,68,59] ⟨147,11,147,15⟩ ⟨147,19,147,23⟩ ⟨147,11,147,23⟩ ⟨148,12,148,16⟩ ⟨148,19,148,23⟩ ⟨148,19,148,31⟩ ⟨148,32,148,36⟩ ⟨148,38,148,45⟩ ⟨148,19,148,46⟩ ⟨148,12,148,46⟩ ⟨147,8,148,46⟩, .ret (.name 66 ⟨149,15,149,19⟩) ⟨149,8,149,19⟩] hs ⟨140,4,151,40⟩]
noncomputable def ps_escape_cdata_c14n : List (Nat × Pos) := [(66, ⟨139,23,139,27⟩)]
noncomputable def sc_escape_cdata_c14n : List (Nat × NameKind) := [(66, .local), (67, .globalImplicit), (68, .globalImplicit), (36, .globalImplicit)]
noncomputable def ir_escape_attrib_c14n (hs : List ExceptHandler) : List St := [
    .tryS [.sub 66 [38] [38,97,109,112,59] ⟨154,11,154,14⟩ ⟨154,18,154,22⟩ ⟨154,11,154,22⟩ ⟨155,12,155,16⟩ ⟨155,19,155,23⟩ ⟨155,19,155,31⟩ ⟨155,32,155,35⟩ ⟨155,37,155,44⟩ ⟨155,19,155,45⟩ ⟨155,12,155,45⟩ ⟨154,8,155,45⟩, .sub 66 [60] [38,108,116,59] ⟨156,11,156,14⟩ ⟨156,18,156,22⟩ ⟨156,11,156,22⟩ ⟨157,12,157,16⟩ ⟨157,19,157,23⟩ ⟨157,19,157,31⟩ ⟨157,32,157,35⟩ ⟨157,37,157,43⟩ ⟨157,19,157,44⟩ ⟨157,12,157,44⟩ ⟨156,8,157,44⟩, .sub 66 [34] [38,113,117,111,116,59] ⟨158,11,158,14⟩ ⟨158,18,158,22⟩ ⟨158,11,158,22⟩ ⟨159,12,159,16⟩ ⟨159,19,159,23⟩ ⟨159,19,159,31⟩ ⟨159,32,159,35⟩ ⟨159,37,159,45⟩ ⟨159,19,159,46⟩ ⟨159,12,159,46⟩ ⟨158,8,159,46⟩, .sub 66 [9] [38,35,120,57,59] ⟨160,11,160,15⟩ ⟨160,19,160,23⟩ ⟨160,11,160,23⟩ ⟨161,12,161,16⟩ ⟨161,19,161,23⟩ ⟨161,19,161,31⟩ ⟨161,32,161,36⟩ ⟨161,38,161,45⟩ ⟨161,19,161,46⟩ ⟨161,12,161,46⟩ ⟨160,8,161,46⟩, .sub 66 [10] [38,35,120,65,59] ⟨162,11,162,15⟩ ⟨162,19,162,23⟩ ⟨162,11,162,23⟩ ⟨163,12,163,16⟩ ⟨163,19,163,23⟩ ⟨163,19,163,31⟩ ⟨163,32,163,36⟩ ⟨163,38,163,45⟩ ⟨163,19,163,46⟩ ⟨163,12,163,46⟩ ⟨162,8,163,46⟩, .sub 66 [13] [38,35,120,68,59] ⟨164,11,164,15⟩ ⟨164,19,164,23⟩ ⟨164,11,164,23⟩ ⟨165,12,165,16⟩ ⟨165,19,165,23⟩ ⟨165,19,165,31⟩ ⟨165,32,165,36⟩ ⟨165,38,165,45⟩ ⟨165,19,165,46⟩ ⟨165,12,165,46⟩ ⟨164,8,165,46⟩, .ret (.name 66 ⟨166,15,166,19⟩) ⟨166,8,166,19⟩] hs ⟨153,4,168,40⟩]
noncomputable def ps_escape_attrib_c14n : List (Nat × Pos) := [(66, ⟨152,24,152,28⟩)]
noncomputable def sc_escape_attrib_c14n : List (Nat × NameKind) := [(66, .local), (67, .globalImplicit), (68, .globalImplicit), (36, .globalImplicit)]
noncomputable def ir_law_cells : List St := [
    .own 69 (.list [(.int 46 ⟨171,13,171,15⟩), (.int 38 ⟨171,17,171,19⟩), (.int 57 ⟨171,21,171,23⟩), (.int 80 ⟨171,25,171,27⟩), (.int 1 ⟨171,29,171,30⟩), (.int 6 ⟨171,32,171,33⟩)] ⟨171,12,171,34⟩) ⟨171,4,171,9⟩ ⟨171,4,171,34⟩,
    .forS (.name 70 ⟨172,8,172,9⟩) (.blt 5 [(.blt 0 [(.name 71 ⟨172,23,172,29⟩)] ⟨172,19,172,22⟩ ⟨172,19,172,30⟩)] ⟨172,13,172,18⟩ ⟨172,13,172,31⟩) [.augI 69 (.bin (.name 70 ⟨173,14,173,15⟩) .Mod (.int 6 ⟨173,18,173,19⟩) ⟨173,14,173,19⟩) .Add (.idx (.name 71 ⟨173,24,173,30⟩) (.name 70 ⟨173,31,173,32⟩) ⟨173,24,173,33⟩) ⟨173,8,173,13⟩ ⟨173,8,173,20⟩ ⟨173,8,173,33⟩] ⟨172,4,173,33⟩,
    .frz 69,
    .ret (.name 69 ⟨174,11,174,16⟩) ⟨174,4,174,16⟩]
noncomputable def ps_law_cells : List (Nat × Pos) := [(71, ⟨170,15,170,21⟩)]
noncomputable def sc_law_cells : List (Nat × NameKind) := [(71, .local), (69, .local), (70, .local), (5, .globalImplicit), (0, .globalImplicit)]
noncomputable def ir_law_written : List St := [
    .ifS (.cmp (.name 72 ⟨176,7,176,11⟩) .Eq (.int 0 ⟨176,15,176,16⟩) ⟨176,7,176,16⟩) [.ret (.call 35 [(.call 37 [(.name 73 ⟨177,36,177,40⟩)] ⟨177,22,177,35⟩ ⟨177,22,177,41⟩)] ⟨177,15,177,21⟩ ⟨177,15,177,42⟩) ⟨177,8,177,42⟩] [] ⟨176,4,177,42⟩,
    .ifS (.cmp (.name 72 ⟨178,7,178,11⟩) .Eq (.int 1 ⟨178,15,178,16⟩) ⟨178,7,178,16⟩) [.ret (.call 35 [(.call 38 [(.name 73 ⟨179,37,179,41⟩)] ⟨179,22,179,36⟩ ⟨179,22,179,42⟩)] ⟨179,15,179,21⟩ ⟨179,15,179,43⟩) ⟨179,8,179,43⟩] [] ⟨178,4,179,43⟩,
    .ifS (.cmp (.name 72 ⟨180,7,180,11⟩) .Eq (.int 2 ⟨180,15,180,16⟩) ⟨180,7,180,16⟩) [.ret (.call 35 [(.call 39 [(.name 73 ⟨181,42,181,46⟩)] ⟨181,22,181,41⟩ ⟨181,22,181,47⟩)] ⟨181,15,181,21⟩ ⟨181,15,181,48⟩) ⟨181,8,181,48⟩] [] ⟨180,4,181,48⟩,
    .ifS (.cmp (.name 72 ⟨182,7,182,11⟩) .Eq (.int 3 ⟨182,15,182,16⟩) ⟨182,7,182,16⟩) [.ret (.call 35 [(.call 40 [(.name 73 ⟨183,41,183,45⟩)] ⟨183,22,183,40⟩ ⟨183,22,183,46⟩)] ⟨183,15,183,21⟩ ⟨183,15,183,47⟩) ⟨183,8,183,47⟩] [] ⟨182,4,183,47⟩,
    .ret (.call 35 [(.call 41 [(.name 73 ⟨184,38,184,42⟩)] ⟨184,18,184,37⟩ ⟨184,18,184,43⟩)] ⟨184,11,184,17⟩ ⟨184,11,184,44⟩) ⟨184,4,184,44⟩]
noncomputable def ps_law_written : List (Nat × Pos) := [(73, ⟨175,17,175,21⟩), (72, ⟨175,23,175,27⟩)]
noncomputable def sc_law_written : List (Nat × NameKind) := [(73, .local), (72, .local), (35, .globalImplicit), (37, .globalImplicit), (38, .globalImplicit), (39, .globalImplicit), (40, .globalImplicit), (41, .globalImplicit)]
noncomputable def ir_law_spelled : List St := [
    .asg 74 (.meth (.idx (.list [(.str [97,109,112,32,108,116,32,103,116,32,45,32,45,32,45,32,45] ⟨186,13,186,32⟩), (.str [97,109,112,32,108,116,32,103,116,32,113,117,111,116,32,35,49,51,32,35,49,48,32,35,48,57] ⟨186,34,186,62⟩), (.str [97,109,112,32,45,32,103,116,32,113,117,111,116,32,45,32,45,32,45] ⟨186,64,186,85⟩), (.str [97,109,112,32,108,116,32,103,116,32,45,32,35,120,68,32,45,32,45] ⟨186,87,186,108⟩), (.str [97,109,112,32,108,116,32,45,32,113,117,111,116,32,35,120,68,32,35,120,65,32,35,120,57] ⟨186,110,186,137⟩)] ⟨186,12,186,138⟩) (.name 72 ⟨186,139,186,143⟩) ⟨186,12,186,144⟩) 11 [(.str [32] ⟨186,151,186,154⟩)] ⟨186,12,186,150⟩ ⟨186,12,186,155⟩) ⟨186,4,186,9⟩ ⟨186,4,186,155⟩,
    .asg 75 (.str [] ⟨187,10,187,12⟩) ⟨187,4,187,7⟩ ⟨187,4,187,12⟩,
    .forS (.name 76 ⟨188,8,188,12⟩) (.name 73 ⟨188,16,188,20⟩) [.asg 77 (.meth (.str [38,60,62,34,13,10,9] ⟨189,13,189,25⟩) 10 [(.name 76 ⟨189,31,189,35⟩)] ⟨189,13,189,30⟩ ⟨189,13,189,36⟩) ⟨189,8,189,10⟩ ⟨189,8,189,36⟩, .forS (.name 78 ⟨190,12,190,17⟩) (.ife (.bop .Or [(.cmp (.name 77 ⟨190,29,190,31⟩) .Lt (.int 0 ⟨190,34,190,35⟩) ⟨190,29,190,35⟩), (.cmp (.idx (.name 74 ⟨190,39,190,44⟩) (.name 77 ⟨190,45,190,47⟩) ⟨190,39,190,48⟩) .Eq (.str [45] ⟨190,52,190,55⟩) ⟨190,39,190,55⟩)] ⟨190,29,190,55⟩) (.name 76 ⟨190,21,190,25⟩) (.bin (.bin (.str [38] ⟨190,61,190,64⟩) .Add (.idx (.name 74 ⟨190,67,190,72⟩) (.name 77 ⟨190,73,190,75⟩) ⟨190,67,190,76⟩) ⟨190,61,190,76⟩) .Add (.str [59] ⟨190,79,190,82⟩) ⟨190,61,190,82⟩) ⟨190,21,190,82⟩) [.asg 79 (.blt 2 [(.name 78 ⟨191,23,191,28⟩)] ⟨191,19,191,22⟩ ⟨191,19,191,29⟩) ⟨191,12,191,16⟩ ⟨191,12,191,29⟩, .ifS (.bop .Or [(.cmp (.name 79 ⟨192,15,192,19⟩) .In (.tup [(.int 32 ⟨192,24,192,26⟩), (.int 35 ⟨192,28,192,30⟩), (.int 36 ⟨192,32,192,34⟩), (.int 38 ⟨192,36,192,38⟩), (.int 45 ⟨192,40,192,42⟩), (.int 46 ⟨192,44,192,46⟩), (.int 63 ⟨192,48,192,50⟩)] 0 ⟨192,23,192,51⟩) ⟨192,15,192,51⟩), (.cmp2 (.int 9 ⟨192,55,192,56⟩) .LtE (.name 79 ⟨192,60,192,64⟩) .LtE (.int 13 ⟨192,68,192,70⟩) ⟨192,55,192,70⟩), (.cmp2 (.int 40 ⟨192,74,192,76⟩) .LtE (.name 79 ⟨192,80,192,84⟩) .LtE (.int 43 ⟨192,88,192,90⟩) ⟨192,74,192,90⟩), (.cmp2 (.int 91 ⟨192,95,192,97⟩) .LtE (.name 79 ⟨192,101,192,105⟩) .LtE (.int 94 ⟨192,109,192,111⟩) ⟨192,95,192,111⟩), (.cmp2 (.int 123 ⟨192,117,192,120⟩) .LtE (.name 79 ⟨192,124,192,128⟩) .LtE (.int 126 ⟨192,132,192,135⟩) ⟨192,117,192,135⟩)] ⟨192,15,192,136⟩) [.augN 75 .Add (.str [92] ⟨193,23,193,27⟩) ⟨193,16,193,19⟩ ⟨193,16,193,27⟩] [] ⟨192,12,193,27⟩, .augN 75 .Add (.name 78 ⟨194,19,194,24⟩) ⟨194,12,194,15⟩ ⟨194,12,194,24⟩] ⟨190,8,194,24⟩] ⟨188,4,194,24⟩,
    .ret (.name 75 ⟨195,11,195,14⟩) ⟨195,4,195,14⟩]
noncomputable def ps_law_spelled : List (Nat × Pos) := [(73, ⟨185,17,185,21⟩), (72, ⟨185,23,185,27⟩)]
noncomputable def sc_law_spelled : List (Nat × NameKind) := [(73, .local), (72, .local), (74, .local), (75, .local), (76, .local), (77, .local), (78, .local), (79, .local), (2, .globalImplicit)]
noncomputable def ir_law_on : List St := [
    .ret (.blt 4 [(.callv 86 [(.name 52 ⟨205,22,205,29⟩), (.bin (.list [(.str [] ⟨205,32,205,34⟩)] ⟨205,31,205,35⟩) .Add (.comp (.idx (.name 82 ⟨205,39,205,44⟩) (.name 83 ⟨205,45,205,46⟩) ⟨205,39,205,47⟩) [(.mk (.name 83 ⟨205,52,205,53⟩) (.name 84 ⟨205,57,205,63⟩) [])] [(85, .local), (83, .local), (82, .free)] ⟨205,38,205,64⟩) ⟨205,31,205,64⟩)] ⟨205,16,205,21⟩ ⟨205,16,205,65⟩)] ⟨205,11,205,15⟩ ⟨205,11,205,66⟩) ⟨205,4,205,66⟩]
noncomputable def ps_law_on : List (Nat × Pos) := [(86, ⟨204,12,204,17⟩), (52, ⟨204,19,204,26⟩), (82, ⟨204,28,204,33⟩), (84, ⟨204,35,204,41⟩)]
noncomputable def sc_law_on : List (Nat × NameKind) := [(86, .local), (52, .local), (82, .cell), (84, .local), (4, .globalImplicit)]
noncomputable def ir_law_back : List St := [
    .ret (.comp (.attr (.name 80 ⟨207,12,207,17⟩) 19 ⟨207,12,207,22⟩) [(.mk (.name 80 ⟨207,27,207,32⟩) (.calle (.call 33 [(.nil ⟨207,50,207,54⟩), (.tup [(.str [] ⟨207,57,207,59⟩), (.name 89 ⟨207,61,207,65⟩)] 0 ⟨207,56,207,66⟩)] ⟨207,36,207,49⟩ ⟨207,36,207,67⟩) [(.nil ⟨207,68,207,72⟩), (.comp (.idx (.name 87 ⟨207,75,207,79⟩) (.name 88 ⟨207,80,207,81⟩) ⟨207,75,207,82⟩) [(.mk (.name 88 ⟨207,87,207,88⟩) (.name 84 ⟨207,92,207,98⟩) [])] [(85, .local), (88, .local), (87, .free)] ⟨207,74,207,99⟩)] ⟨207,36,207,100⟩) [])] [(85, .local), (80, .local)] ⟨207,11,207,101⟩) ⟨207,4,207,101⟩]
noncomputable def ps_law_back : List (Nat × Pos) := [(89, ⟨206,14,206,18⟩), (87, ⟨206,20,206,24⟩), (84, ⟨206,26,206,32⟩)]
noncomputable def sc_law_back : List (Nat × NameKind) := [(89, .local), (87, .cell), (84, .local), (33, .globalImplicit)]
noncomputable def ir_law_fewest : List St := [
    .asgT [(90, ⟨209,4,209,8⟩), (91, ⟨209,10,209,15⟩)] 0 (.tup [(.name 92 ⟨209,19,209,24⟩), (.int 0 ⟨209,26,209,27⟩)] 0 ⟨209,18,209,28⟩) ⟨209,4,209,15⟩ ⟨209,4,209,28⟩,
    .whl (.cmp (.name 92 ⟨210,10,210,15⟩) .NotEq (.list [] ⟨210,19,210,21⟩) ⟨210,10,210,21⟩) [.ifS (.cmp (.comp (.name 84 ⟨211,12,211,18⟩) [(.mk (.name 84 ⟨211,23,211,29⟩) (.name 92 ⟨211,33,211,38⟩) [(.cmp (.blt 0 [(.name 84 ⟨211,46,211,52⟩)] ⟨211,42,211,45⟩ ⟨211,42,211,53⟩) .Eq (.name 93 ⟨211,57,211,61⟩) ⟨211,42,211,61⟩)])] [(85, .local), (84, .local), (0, .globalImplicit), (93, .free)] ⟨211,11,211,62⟩) .NotEq (.list [] ⟨211,66,211,68⟩) ⟨211,11,211,68⟩) [.ret (.name 91 ⟨212,19,212,24⟩) ⟨212,12,212,24⟩] [] ⟨211,8,212,24⟩, .own 94 (.list [] ⟨213,16,213,18⟩) ⟨213,8,213,13⟩ ⟨213,8,213,18⟩, .forS (.name 84 ⟨214,12,214,18⟩) (.name 92 ⟨214,22,214,27⟩) [.forS (.name 95 ⟨215,16,215,19⟩) (.blt 5 [(.int 2 ⟨215,29,215,30⟩)] ⟨215,23,215,28⟩ ⟨215,23,215,31⟩) [.asg 96 (.blt 3 [(.callv 97 [(.name 95 ⟨216,38,216,41⟩), (.name 84 ⟨216,43,216,49⟩)] ⟨216,33,216,37⟩ ⟨216,33,216,50⟩)] ⟨216,26,216,32⟩ ⟨216,26,216,51⟩) ⟨216,16,216,23⟩ ⟨216,16,216,51⟩, .ifS (.cmp (.name 96 ⟨217,19,217,26⟩) .NotIn (.bin (.name 90 ⟨217,34,217,38⟩) .Add (.name 94 ⟨217,41,217,46⟩) ⟨217,34,217,46⟩) ⟨217,19,217,46⟩) [.app 94 (.name 96 ⟨218,33,218,40⟩) ⟨218,20,218,25⟩ ⟨218,20,218,32⟩ ⟨218,20,218,41⟩ ⟨218,20,218,41⟩] [] ⟨217,16,218,41⟩] ⟨215,12,218,41⟩] ⟨214,8,218,41⟩, .frz 94, .asgT [(92, ⟨219,8,219,13⟩), (90, ⟨219,15,219,19⟩), (91, ⟨219,21,219,26⟩)] 0 (.tup [(.name 94 ⟨219,30,219,35⟩), (.bin (.name 90 ⟨219,37,219,41⟩) .Add (.name 94 ⟨219,44,219,49⟩) ⟨219,37,219,49⟩), (.bin (.name 91 ⟨219,51,219,56⟩) .Add (.int 1 ⟨219,59,219,60⟩) ⟨219,51,219,60⟩)] 0 ⟨219,29,219,61⟩) ⟨219,8,219,26⟩ ⟨219,8,219,61⟩] ⟨210,4,219,61⟩,
    .ret (.nil ⟨220,11,220,15⟩) ⟨220,4,220,15⟩]
noncomputable def ps_law_fewest : List (Nat × Pos) := [(92, ⟨208,16,208,21⟩), (93, ⟨208,23,208,27⟩), (97, ⟨208,29,208,33⟩)]
noncomputable def sc_law_fewest : List (Nat × NameKind) := [(92, .local), (93, .cell), (97, .local), (90, .local), (91, .local), (84, .local), (94, .local), (95, .local), (96, .local), (5, .globalImplicit), (3, .globalImplicit)]
noncomputable def ir_law_meet : List St := [
    .asg 98 (.comp (.tup [(.name 83 ⟨222,14,222,15⟩), (.name 88 ⟨222,17,222,18⟩)] 0 ⟨222,13,222,19⟩) [(.mk (.name 88 ⟨222,24,222,25⟩) (.blt 5 [(.int 4 ⟨222,35,222,36⟩)] ⟨222,29,222,34⟩ ⟨222,29,222,37⟩) []), (.mk (.name 83 ⟨222,42,222,43⟩) (.blt 5 [(.name 88 ⟨222,53,222,54⟩)] ⟨222,47,222,52⟩ ⟨222,47,222,55⟩) [])] [(85, .local), (88, .local), (83, .local), (5, .globalImplicit)] ⟨222,12,222,56⟩) ⟨222,4,222,9⟩ ⟨222,4,222,56⟩,
    .asg 99 (.list [] ⟨223,10,223,12⟩) ⟨223,4,223,7⟩ ⟨223,4,223,12⟩,
    .forS (.name 70 ⟨224,8,224,9⟩) (.blt 5 [(.int 6 ⟨224,19,224,20⟩)] ⟨224,13,224,18⟩ ⟨224,13,224,21⟩) [.asg 99 (.comp (.tup [(.name 83 ⟨225,16,225,17⟩), (.name 88 ⟨225,19,225,20⟩)] 0 ⟨225,15,225,21⟩) [(.mk (.tup [(83, ⟨225,26,225,27⟩), (88, ⟨225,29,225,30⟩)] 0 ⟨225,26,225,30⟩) (.name 98 ⟨225,34,225,39⟩) [(.cmp (.comp (.name 95 ⟨225,44,225,47⟩) [(.mk (.name 95 ⟨225,52,225,55⟩) (.name 100 ⟨225,59,225,63⟩) [(.bop .Or [(.cmp (.idx (.name 95 ⟨225,67,225,70⟩) (.name 83 ⟨225,71,225,72⟩) ⟨225,67,225,73⟩) .Eq (.idx (.name 95 ⟨225,77,225,80⟩) (.name 88 ⟨225,81,225,82⟩) ⟨225,77,225,83⟩) ⟨225,67,225,83⟩), (.cmp (.tup [(.idx (.name 95 ⟨225,88,225,91⟩) (.name 83 ⟨225,92,225,93⟩) ⟨225,88,225,94⟩), (.idx (.name 95 ⟨225,96,225,99⟩) (.name 88 ⟨225,100,225,101⟩) ⟨225,96,225,102⟩)] 0 ⟨225,87,225,103⟩) .In (.name 99 ⟨225,107,225,110⟩) ⟨225,87,225,110⟩), (.cmp (.tup [(.idx (.name 95 ⟨225,115,225,118⟩) (.name 88 ⟨225,119,225,120⟩) ⟨225,115,225,121⟩), (.idx (.name 95 ⟨225,123,225,126⟩) (.name 83 ⟨225,127,225,128⟩) ⟨225,123,225,129⟩)] 0 ⟨225,114,225,130⟩) .In (.name 99 ⟨225,134,225,137⟩) ⟨225,114,225,137⟩)] ⟨225,67,225,137⟩)])] [(85, .local), (95, .local), (99, .free), (83, .free), (88, .free)] ⟨225,43,225,138⟩) .NotEq (.list [] ⟨225,142,225,144⟩) ⟨225,43,225,144⟩)])] [(85, .local), (83, .cell), (88, .cell), (99, .free), (100, .free)] ⟨225,14,225,145⟩) ⟨225,8,225,11⟩ ⟨225,8,225,145⟩] ⟨224,4,225,145⟩,
    .ret (.cmp (.blt 0 [(.name 99 ⟨226,15,226,18⟩)] ⟨226,11,226,14⟩ ⟨226,11,226,19⟩) .Eq (.int 6 ⟨226,23,226,24⟩) ⟨226,11,226,24⟩) ⟨226,4,226,24⟩]
noncomputable def ps_law_meet : List (Nat × Pos) := [(100, ⟨221,14,221,18⟩)]
noncomputable def sc_law_meet : List (Nat × NameKind) := [(100, .cell), (98, .local), (99, .cell), (70, .local), (5, .globalImplicit), (0, .globalImplicit)]
noncomputable def lps_0 : List (Nat × Pos) := [(103, ⟨254,51,254,52⟩), (116, ⟨254,54,254,58⟩)]
noncomputable def lamb_0 : E := (.call 47 [(.name 86 ⟨254,68,254,73⟩), (.idx (.name 109 ⟨254,75,254,83⟩) (.name 103 ⟨254,84,254,85⟩) ⟨254,75,254,86⟩), (.name 82 ⟨254,88,254,93⟩), (.name 116 ⟨254,95,254,99⟩)] ⟨254,60,254,67⟩ ⟨254,60,254,100⟩)
noncomputable def lsc_0 : List (Nat × NameKind) := [(103, .local), (116, .local), (86, .free), (109, .free), (82, .free), (47, .globalImplicit)]
noncomputable def lps_1 : List (Nat × Pos) := [(103, ⟨255,61,255,62⟩), (116, ⟨255,64,255,68⟩)]
noncomputable def lamb_1 : E := (.call 48 [(.idx (.name 108 ⟨255,80,255,86⟩) (.name 103 ⟨255,87,255,88⟩) ⟨255,80,255,89⟩), (.name 87 ⟨255,91,255,95⟩), (.name 116 ⟨255,97,255,101⟩)] ⟨255,70,255,79⟩ ⟨255,70,255,102⟩)
noncomputable def lsc_1 : List (Nat × NameKind) := [(103, .local), (116, .local), (87, .free), (108, .free), (48, .globalImplicit)]
noncomputable def ir_law : List St := [
    .asg 69 (.call 42 [(.name 71 ⟨228,23,228,29⟩)] ⟨228,12,228,22⟩ ⟨228,12,228,30⟩) ⟨228,4,228,9⟩ ⟨228,4,228,30⟩,
    .asg 72 (.bin (.idx (.name 69 ⟨229,11,229,16⟩) (.int 5 ⟨229,17,229,18⟩) ⟨229,11,229,19⟩) .Mod (.int 5 ⟨229,22,229,23⟩) ⟨229,11,229,23⟩) ⟨229,4,229,8⟩ ⟨229,4,229,23⟩,
    .asgT [(101, ⟨230,4,230,7⟩), (102, ⟨230,9,230,14⟩)] 0 (.tup [(.blt 1 [(.bin (.idx (.name 69 ⟨230,22,230,27⟩) (.int 0 ⟨230,28,230,29⟩) ⟨230,22,230,30⟩) .Mod (.int 55296 ⟨230,33,230,38⟩) ⟨230,22,230,38⟩)] ⟨230,18,230,21⟩ ⟨230,18,230,39⟩), (.blt 1 [(.bin (.idx (.name 69 ⟨230,45,230,50⟩) (.int 1 ⟨230,51,230,52⟩) ⟨230,45,230,53⟩) .Mod (.int 55296 ⟨230,56,230,61⟩) ⟨230,45,230,61⟩)] ⟨230,41,230,44⟩ ⟨230,41,230,62⟩)] 0 ⟨230,17,230,63⟩) ⟨230,4,230,14⟩ ⟨230,4,230,63⟩,
    .asg 100 (.comp (.comp (.bin (.bin (.idx (.name 69 ⟨231,13,231,18⟩) (.bin (.int 2 ⟨231,19,231,20⟩) .Add (.name 103 ⟨231,23,231,24⟩) ⟨231,19,231,24⟩) ⟨231,13,231,25⟩) .FloorDiv (.bin (.int 4 ⟨231,29,231,30⟩) .Pow (.name 83 ⟨231,34,231,35⟩) ⟨231,29,231,35⟩) ⟨231,13,231,35⟩) .Mod (.int 4 ⟨231,38,231,39⟩) ⟨231,13,231,39⟩) [(.mk (.name 83 ⟨231,44,231,45⟩) (.blt 5 [(.int 4 ⟨231,55,231,56⟩)] ⟨231,49,231,54⟩ ⟨231,49,231,57⟩) [])] [(85, .local), (83, .local), (69, .free), (103, .free)] ⟨231,12,231,58⟩) [(.mk (.name 103 ⟨231,63,231,64⟩) (.blt 5 [(.int 2 ⟨231,74,231,75⟩)] ⟨231,68,231,73⟩ ⟨231,68,231,76⟩) [])] [(85, .local), (103, .cell), (5, .globalImplicit), (69, .free)] ⟨231,11,231,77⟩) ⟨231,4,231,8⟩ ⟨231,4,231,77⟩,
    .asg 104 (.comp (.bin (.bin (.name 101 ⟨232,14,232,17⟩) .Add (.bin (.name 102 ⟨232,20,232,25⟩) .Mult (.name 83 ⟨232,28,232,29⟩) ⟨232,20,232,29⟩) ⟨232,14,232,29⟩) .Add (.str [108,116,59] ⟨232,32,232,37⟩) ⟨232,14,232,37⟩) [(.mk (.name 83 ⟨232,42,232,43⟩) (.blt 5 [(.int 4 ⟨232,53,232,54⟩)] ⟨232,47,232,52⟩ ⟨232,47,232,55⟩) [])] [(85, .local), (83, .local), (101, .free), (102, .free)] ⟨232,13,232,56⟩) ⟨232,4,232,10⟩ ⟨232,4,232,56⟩,
    .asg 105 (.comp (.call 44 [(.name 106 ⟨233,28,233,32⟩), (.name 72 ⟨233,34,233,38⟩)] ⟨233,15,233,27⟩ ⟨233,15,233,39⟩) [(.mk (.name 106 ⟨233,44,233,48⟩) (.name 104 ⟨233,52,233,58⟩) [])] [(85, .local), (106, .local), (44, .globalImplicit), (72, .free)] ⟨233,14,233,59⟩) ⟨233,4,233,11⟩ ⟨233,4,233,59⟩,
    .asg 82 (.comp (.call 43 [(.name 106 ⟨234,26,234,30⟩), (.name 72 ⟨234,32,234,36⟩)] ⟨234,13,234,25⟩ ⟨234,13,234,37⟩) [(.mk (.name 106 ⟨234,42,234,46⟩) (.name 104 ⟨234,50,234,56⟩) [])] [(85, .local), (106, .local), (43, .globalImplicit), (72, .free)] ⟨234,12,234,57⟩) ⟨234,4,234,9⟩ ⟨234,4,234,57⟩,
    .seal 82,
    .asg 107 (.comp (.bin (.bin (.bin (.str [123] ⟨235,12,235,15⟩) .Add (.call 44 [(.name 102 ⟨235,31,235,36⟩), (.name 72 ⟨235,38,235,42⟩)] ⟨235,18,235,30⟩ ⟨235,18,235,43⟩) ⟨235,12,235,43⟩) .Add (.str [125] ⟨235,46,235,49⟩) ⟨235,12,235,49⟩) .Add (.idx (.name 105 ⟨235,52,235,59⟩) (.name 103 ⟨235,60,235,61⟩) ⟨235,52,235,62⟩) ⟨235,12,235,62⟩) [(.mk (.name 103 ⟨235,67,235,68⟩) (.blt 5 [(.int 2 ⟨235,78,235,79⟩)] ⟨235,72,235,77⟩ ⟨235,72,235,80⟩) [])] [(85, .local), (103, .local), (44, .globalImplicit), (72, .free), (102, .free), (105, .free)] ⟨235,11,235,81⟩) ⟨235,4,235,8⟩ ⟨235,4,235,81⟩,
    .asg 108 (.comp (.bin (.bin (.bin (.str [123] ⟨236,14,236,17⟩) .Add (.call 43 [(.name 102 ⟨236,33,236,38⟩), (.name 72 ⟨236,40,236,44⟩)] ⟨236,20,236,32⟩ ⟨236,20,236,45⟩) ⟨236,14,236,45⟩) .Add (.str [125] ⟨236,48,236,51⟩) ⟨236,14,236,51⟩) .Add (.idx (.name 82 ⟨236,54,236,59⟩) (.name 103 ⟨236,60,236,61⟩) ⟨236,54,236,62⟩) ⟨236,14,236,62⟩) [(.mk (.name 103 ⟨236,67,236,68⟩) (.blt 5 [(.int 2 ⟨236,78,236,79⟩)] ⟨236,72,236,77⟩ ⟨236,72,236,80⟩) [])] [(85, .local), (103, .local), (43, .globalImplicit), (72, .free), (82, .free), (102, .free)] ⟨236,13,236,81⟩) ⟨236,4,236,10⟩ ⟨236,4,236,81⟩,
    .seal 108,
    .asg 109 (.comp (.call 46 [(.dcomp (.idx (.name 105 ⟨237,30,237,37⟩) (.name 83 ⟨237,38,237,39⟩) ⟨237,30,237,40⟩) (.idx (.idx (.name 100 ⟨237,42,237,46⟩) (.name 103 ⟨237,47,237,48⟩) ⟨237,42,237,49⟩) (.name 83 ⟨237,50,237,51⟩) ⟨237,42,237,52⟩) [(.mk (.name 83 ⟨237,57,237,58⟩) (.blt 5 [(.int 4 ⟨237,68,237,69⟩)] ⟨237,62,237,67⟩ ⟨237,62,237,70⟩) [])] [(85, .local), (83, .local), (103, .free), (105, .free), (100, .free)] ⟨237,29,237,71⟩)] ⟨237,16,237,28⟩ ⟨237,16,237,72⟩) [(.mk (.name 103 ⟨237,77,237,78⟩) (.blt 5 [(.int 2 ⟨237,88,237,89⟩)] ⟨237,82,237,87⟩ ⟨237,82,237,90⟩) [])] [(85, .local), (103, .cell), (46, .globalImplicit), (5, .globalImplicit), (105, .free), (100, .free)] ⟨237,15,237,91⟩) ⟨237,4,237,12⟩ ⟨237,4,237,91⟩,
    .seal 109,
    .asg 110 (.comp (.call 45 [(.int 4 ⟨238,28,238,29⟩), (.name 20 ⟨238,31,238,34⟩)] ⟨238,17,238,27⟩ ⟨238,17,238,35⟩) [(.mk (.name 103 ⟨238,40,238,41⟩) (.blt 5 [(.int 2 ⟨238,51,238,52⟩)] ⟨238,45,238,50⟩ ⟨238,45,238,53⟩) []), (.mk (.name 20 ⟨238,58,238,61⟩) (.list [(.bin (.bin (.bin (.str [123] ⟨238,66,238,69⟩) .Add (.idx (.name 105 ⟨238,72,238,79⟩) (.int 2 ⟨238,80,238,81⟩) ⟨238,72,238,82⟩) ⟨238,66,238,82⟩) .Add (.str [125] ⟨238,85,238,88⟩) ⟨238,66,238,88⟩) .Add (.idx (.name 105 ⟨238,91,238,98⟩) (.name 103 ⟨238,99,238,100⟩) ⟨238,91,238,101⟩) ⟨238,66,238,101⟩), (.bin (.idx (.name 107 ⟨238,103,238,107⟩) (.name 103 ⟨238,108,238,109⟩) ⟨238,103,238,110⟩) .Add (.idx (.name 107 ⟨238,113,238,117⟩) (.name 103 ⟨238,118,238,119⟩) ⟨238,113,238,120⟩) ⟨238,103,238,120⟩)] ⟨238,65,238,121⟩) [])] [(85, .local), (103, .local), (20, .local), (45, .globalImplicit), (105, .free), (107, .free)] ⟨238,16,238,122⟩) ⟨238,4,238,13⟩ ⟨238,4,238,122⟩,
    .asg 87 (.comp (.bin (.comp (.call 45 [(.name 83 ⟨239,24,239,25⟩), (.idx (.name 107 ⟨239,27,239,31⟩) (.name 103 ⟨239,32,239,33⟩) ⟨239,27,239,34⟩)] ⟨239,13,239,23⟩ ⟨239,13,239,35⟩) [(.mk (.name 103 ⟨239,40,239,41⟩) (.blt 5 [(.int 2 ⟨239,51,239,52⟩)] ⟨239,45,239,50⟩ ⟨239,45,239,53⟩) []), (.mk (.name 83 ⟨239,58,239,59⟩) (.blt 5 [(.int 4 ⟨239,69,239,70⟩)] ⟨239,63,239,68⟩ ⟨239,63,239,71⟩) [(.cmp (.idx (.idx (.name 100 ⟨239,75,239,79⟩) (.name 103 ⟨239,80,239,81⟩) ⟨239,75,239,82⟩) (.name 83 ⟨239,83,239,84⟩) ⟨239,75,239,85⟩) .Eq (.name 88 ⟨239,89,239,90⟩) ⟨239,75,239,90⟩)])] [(85, .local), (103, .local), (83, .local), (5, .globalImplicit), (45, .globalImplicit), (88, .free), (107, .free), (100, .free)] ⟨239,12,239,91⟩) .Add (.name 110 ⟨239,94,239,103⟩) ⟨239,12,239,103⟩) [(.mk (.name 88 ⟨239,108,239,109⟩) (.blt 5 [(.int 4 ⟨239,119,239,120⟩)] ⟨239,113,239,118⟩ ⟨239,113,239,121⟩) [])] [(85, .local), (88, .cell), (5, .globalImplicit), (110, .free), (107, .free), (100, .free)] ⟨239,11,239,122⟩) ⟨239,4,239,8⟩ ⟨239,4,239,122⟩,
    .seal 87,
    .asgT [(111, ⟨240,4,240,7⟩), (86, ⟨240,9,240,14⟩)] 0 (.tup [(.comp (.bin (.bin (.idx (.name 69 ⟨240,19,240,24⟩) (.int 4 ⟨240,25,240,26⟩) ⟨240,19,240,27⟩) .FloorDiv (.bin (.int 2 ⟨240,31,240,32⟩) .Pow (.name 70 ⟨240,36,240,37⟩) ⟨240,31,240,37⟩) ⟨240,19,240,37⟩) .Mod (.int 2 ⟨240,40,240,41⟩) ⟨240,19,240,41⟩) [(.mk (.name 70 ⟨240,46,240,47⟩) (.blt 5 [(.int 4 ⟨240,57,240,58⟩)] ⟨240,51,240,56⟩ ⟨240,51,240,59⟩) [])] [(85, .local), (70, .local), (69, .free)] ⟨240,18,240,60⟩), (.call 34 [(.nil ⟨240,77,240,81⟩), (.tup [(.str [46,46] ⟨240,84,240,88⟩), (.str [] ⟨240,90,240,92⟩)] 0 ⟨240,83,240,93⟩)] ⟨240,62,240,76⟩ ⟨240,62,240,94⟩)] 0 ⟨240,17,240,95⟩) ⟨240,4,240,14⟩ ⟨240,4,240,95⟩,
    .seal 86,
    .asgT [(112, ⟨241,4,241,10⟩), (84, ⟨241,12,241,18⟩)] 0 (.tup [(.comp (.list [(.name 83 ⟨241,24,241,25⟩)] ⟨241,23,241,26⟩) [(.mk (.name 83 ⟨241,31,241,32⟩) (.blt 5 [(.int 4 ⟨241,42,241,43⟩)] ⟨241,36,241,41⟩ ⟨241,36,241,44⟩) [])] [(85, .local), (83, .local)] ⟨241,22,241,45⟩), (.list [(.int 0 ⟨241,48,241,49⟩), (.int 1 ⟨241,51,241,52⟩), (.int 2 ⟨241,54,241,55⟩), (.int 3 ⟨241,57,241,58⟩)] ⟨241,47,241,59⟩)] 0 ⟨241,21,241,60⟩) ⟨241,4,241,18⟩ ⟨241,4,241,60⟩,
    .forS (.name 103 ⟨242,8,242,9⟩) (.name 111 ⟨242,13,242,16⟩) [.asg 112 (.comp (.bin (.list [(.idx (.idx (.name 100 ⟨243,19,243,23⟩) (.name 103 ⟨243,24,243,25⟩) ⟨243,19,243,26⟩) (.idx (.name 113 ⟨243,27,243,31⟩) (.int 0 ⟨243,32,243,33⟩) ⟨243,27,243,34⟩) ⟨243,19,243,35⟩)] ⟨243,18,243,36⟩) .Add (.name 113 ⟨243,39,243,43⟩) ⟨243,18,243,43⟩) [(.mk (.name 113 ⟨243,48,243,52⟩) (.name 112 ⟨243,56,243,62⟩) [])] [(85, .local), (113, .local), (103, .free), (100, .free)] ⟨243,17,243,63⟩) ⟨243,8,243,14⟩ ⟨243,8,243,63⟩, .asg 84 (.call 47 [(.name 86 ⟨244,25,244,30⟩), (.idx (.name 109 ⟨244,32,244,40⟩) (.name 103 ⟨244,41,244,42⟩) ⟨244,32,244,43⟩), (.name 82 ⟨244,45,244,50⟩), (.name 84 ⟨244,52,244,58⟩)] ⟨244,17,244,24⟩ ⟨244,17,244,59⟩) ⟨244,8,244,14⟩ ⟨244,8,244,59⟩] ⟨242,4,244,59⟩,
    .asg 114 (.comp (.idx (.name 113 ⟨245,12,245,16⟩) (.int 0 ⟨245,17,245,18⟩) ⟨245,12,245,19⟩) [(.mk (.name 113 ⟨245,24,245,28⟩) (.name 112 ⟨245,32,245,38⟩) [])] [(85, .local), (113, .local)] ⟨245,11,245,39⟩) ⟨245,4,245,8⟩ ⟨245,4,245,39⟩,
    .ifS (.cmp (.name 84 ⟨246,7,246,13⟩) .NotEq (.comp (.idx (.name 114 ⟨246,18,246,22⟩) (.name 83 ⟨246,23,246,24⟩) ⟨246,18,246,25⟩) [(.mk (.name 83 ⟨246,30,246,31⟩) (.blt 5 [(.int 4 ⟨246,41,246,42⟩)] ⟨246,35,246,40⟩ ⟨246,35,246,43⟩) [(.cmp (.idx (.name 114 ⟨246,47,246,51⟩) (.name 83 ⟨246,52,246,53⟩) ⟨246,47,246,54⟩) .NotIn (.slc (.name 114 ⟨246,62,246,66⟩) none (some (.name 83 ⟨246,68,246,69⟩)) ⟨246,67,246,69⟩ ⟨246,62,246,70⟩) ⟨246,47,246,70⟩)])] [(85, .local), (83, .local), (114, .free)] ⟨246,17,246,71⟩) ⟨246,7,246,71⟩) [.ret (.bool false ⟨247,15,247,20⟩) ⟨247,8,247,20⟩] [] ⟨246,4,247,20⟩,
    .forS (.name 88 ⟨248,8,248,9⟩) (.blt 5 [(.int 4 ⟨248,19,248,20⟩)] ⟨248,13,248,18⟩ ⟨248,13,248,21⟩) [.asg 84 (.list [(.name 88 ⟨249,18,249,19⟩)] ⟨249,17,249,20⟩) ⟨249,8,249,14⟩ ⟨249,8,249,20⟩, .forS (.name 103 ⟨250,12,250,13⟩) (.rev (.name 111 ⟨250,17,250,20⟩) ⟨250,24,250,25⟩ ⟨250,23,250,25⟩ ⟨250,21,250,25⟩ ⟨250,17,250,26⟩) [.asg 84 (.call 48 [(.idx (.name 108 ⟨251,31,251,37⟩) (.name 103 ⟨251,38,251,39⟩) ⟨251,31,251,40⟩), (.name 87 ⟨251,42,251,46⟩), (.name 84 ⟨251,48,251,54⟩)] ⟨251,21,251,30⟩ ⟨251,21,251,55⟩) ⟨251,12,251,18⟩ ⟨251,12,251,55⟩] ⟨250,8,251,55⟩, .ifS (.cmp (.name 84 ⟨252,11,252,17⟩) .NotEq (.comp (.idx (.name 113 ⟨252,22,252,26⟩) (.int 4 ⟨252,27,252,28⟩) ⟨252,22,252,29⟩) [(.mk (.name 113 ⟨252,34,252,38⟩) (.blt 3 [(.name 112 ⟨252,49,252,55⟩)] ⟨252,42,252,48⟩ ⟨252,42,252,56⟩) [(.cmp (.idx (.name 113 ⟨252,60,252,64⟩) (.int 0 ⟨252,65,252,66⟩) ⟨252,60,252,67⟩) .Eq (.name 88 ⟨252,71,252,72⟩) ⟨252,60,252,72⟩)])] [(85, .local), (113, .local), (88, .free)] ⟨252,21,252,73⟩) ⟨252,11,252,73⟩) [.ret (.bool false ⟨253,19,253,24⟩) ⟨253,12,253,24⟩] [] ⟨252,8,253,24⟩] ⟨248,4,253,24⟩,
    .asg 115 (.call 49 [(.list [(.list [(.int 0 ⟨254,27,254,28⟩), (.int 1 ⟨254,30,254,31⟩), (.int 2 ⟨254,33,254,34⟩), (.int 3 ⟨254,36,254,37⟩)] ⟨254,26,254,38⟩)] ⟨254,25,254,39⟩), (.int 1 ⟨254,41,254,42⟩), (.lam 0 51 lps_0 lamb_0 lsc_0 ⟨254,44,254,100⟩)] ⟨254,13,254,24⟩ ⟨254,13,254,101⟩) ⟨254,4,254,10⟩ ⟨254,4,254,101⟩,
    .ifS (.cmp (.name 115 ⟨255,7,255,13⟩) .NotEq (.call 49 [(.list [(.list [(.int 0 ⟨255,31,255,32⟩)] ⟨255,30,255,33⟩), (.list [(.int 1 ⟨255,36,255,37⟩)] ⟨255,35,255,38⟩), (.list [(.int 2 ⟨255,41,255,42⟩)] ⟨255,40,255,43⟩), (.list [(.int 3 ⟨255,46,255,47⟩)] ⟨255,45,255,48⟩)] ⟨255,29,255,49⟩), (.int 4 ⟨255,51,255,52⟩), (.lam 1 51 lps_1 lamb_1 lsc_1 ⟨255,54,255,102⟩)] ⟨255,17,255,28⟩ ⟨255,17,255,103⟩) ⟨255,7,255,103⟩) [.ret (.bool false ⟨256,15,256,20⟩) ⟨256,8,256,20⟩] [] ⟨255,4,256,20⟩,
    .ret (.cmp (.cmp (.name 115 ⟨257,12,257,18⟩) .IsNot (.nil ⟨257,26,257,30⟩) ⟨257,12,257,30⟩) .Eq (.call 50 [(.name 100 ⟨257,45,257,49⟩)] ⟨257,35,257,44⟩ ⟨257,35,257,50⟩) ⟨257,11,257,50⟩) ⟨257,4,257,50⟩]
noncomputable def ps_law : List (Nat × Pos) := [(71, ⟨227,8,227,14⟩)]
noncomputable def sc_law : List (Nat × NameKind) := [(71, .local), (69, .cell), (72, .cell), (101, .cell), (102, .cell), (103, .cell), (100, .cell), (104, .local), (105, .cell), (107, .cell), (110, .cell), (88, .cell), (111, .local), (112, .local), (84, .local), (114, .cell), (115, .local), (86, .cell), (109, .cell), (82, .cell), (87, .cell), (108, .cell), (42, .globalImplicit), (1, .globalImplicit), (5, .globalImplicit), (34, .globalImplicit), (47, .globalImplicit), (48, .globalImplicit), (3, .globalImplicit), (49, .globalImplicit), (50, .globalImplicit)]
noncomputable def ps_law_thing : List (Nat × Pos) := [(81, ⟨196,15,196,21⟩), (20, ⟨196,23,196,26⟩)]
noncomputable def sc_law_thing : List (Nat × NameKind) := [(81, .local), (20, .local), (80, .local), (23, .globalImplicit)]
noncomputable def ps_law_context : List (Nat × Pos) := [(74, ⟨200,17,200,22⟩)]
noncomputable def sc_law_context : List (Nat × NameKind) := [(74, .local), (52, .local), (23, .globalImplicit)]
noncomputable def ps_get_parent_map : List (Nat × Pos) := [(52, ⟨2,19,2,26⟩)]
noncomputable def sc_get_parent_map : List (Nat × NameKind) := [(52, .local), (21, .local), (83, .local), (58, .local)]
noncomputable def bodyAt (n : String) : Option (List Stmt) := PySem.Challenge.pw_wb0058_03.main.body.findSome? fun s => match s with
  | .FunctionDef x _ b _ _ _ _ _ _ _ => if x = Str.ofString n then some b else none
  | _ => none
noncomputable def handlersOf : Option (List Stmt) → List ExceptHandler
  | some (.Try _ hs _ _ _ :: _) => hs
  | _ => []
noncomputable def thenOf : Option (List Stmt) → List Stmt
  | some (_ :: .If _ a _ _ :: _) => a
  | _ => []
noncomputable abbrev body_law_thing : List Stmt := [.Assign [.Name (nmF 80) ⟨197,4,197,9⟩] (.Call (.Name (nmF 23) ⟨197,12,197,28⟩) [E.py nmF (.name 81 ⟨197,29,197,35⟩)] [] ⟨197,12,197,36⟩) ⟨197,4,197,36⟩, .Assign [.Attribute (.Name (nmF 80) ⟨198,4,198,9⟩) (nmF 20) ⟨198,4,198,13⟩] (.Name (nmF 20) ⟨198,16,198,19⟩) ⟨198,4,198,19⟩, .Return (some (.Name (nmF 80) ⟨199,11,199,16⟩)) ⟨199,4,199,16⟩]
noncomputable abbrev body_law_context : List Stmt := [.Assign [.Name (nmF 52) ⟨201,4,201,11⟩] (.Call (.Name (nmF 23) ⟨201,14,201,30⟩) [E.py nmF (.nil ⟨201,31,201,35⟩)] [] ⟨201,14,201,36⟩) ⟨201,4,201,36⟩, .Assign [.Attribute (.Name (nmF 52) ⟨202,4,202,11⟩) (nmF 21) ⟨202,4,202,22⟩] (.Name (nmF 74) ⟨202,25,202,30⟩) ⟨202,4,202,30⟩, .Return (some (.Name (nmF 52) ⟨203,11,203,18⟩)) ⟨203,4,203,18⟩]
noncomputable abbrev body_get_parent_map : List Stmt := [.Assign [.Name (nmF 21) ⟨3,4,3,14⟩] (.Attribute (.Name (nmF 52) ⟨3,17,3,24⟩) (nmF 21) ⟨3,17,3,35⟩) ⟨3,4,3,35⟩, .If (.Compare (.Name (nmF 21) ⟨4,7,4,17⟩) [.Is] [.Constant .none 0 ⟨4,21,4,25⟩] ⟨4,7,4,25⟩) (thenOf (bodyAt "get_parent_map")) [] ⟨4,4,8,33⟩, .Return (some (.Name (nmF 21) ⟨9,11,9,21⟩)) ⟨9,4,9,21⟩]
end Mine
namespace Mine
noncomputable abbrev K3 (w : World) : Frag := k3 w.params
noncomputable def ctF : Nat → Option (Addr × Addr) := tabN [(32, (34,30)), (33, (41,37)), (34, (48,44)), (51, (183,181))]
theorem ct_all {P : Nat → Addr × Addr → Prop} (h1 : P 32 (34,30)) (h2 : P 33 (41,37)) (h3 : P 34 (48,44)) (h4 : P 51 (183,181)) : ∀ f q, ctF f = some q → P f q :=
  tabN_all (List.forall_mem_cons.mpr ⟨h1, List.forall_mem_cons.mpr ⟨h2, List.forall_mem_cons.mpr ⟨h3, List.forall_mem_cons.mpr ⟨h4, List.forall_mem_nil _⟩⟩⟩⟩)
noncomputable def pqF (f : Nat) : Str := if f = 32 then "_prepare_tag.<locals>." else if f = 33 then "prepare_child.<locals>." else if f = 34 then "prepare_parent.<locals>." else if f = 51 then "law.<locals>." else ""
noncomputable def qfF (f : Nat) : Str := if f = 32 then "_prepare_tag.<locals>.select" else if f = 33 then "prepare_child.<locals>.select" else if f = 34 then "prepare_parent.<locals>.select" else if f = 51 then "law.<locals>.<lambda>" else ""
noncomputable def lsF (i : Nat) : Option LSpec := if i = 0 then some ⟨paramsOf nmF lps_0, .expr (lamb_0.py nmF), scOf nmF lsc_0, qfF 51, freeOf lsc_0⟩ else if i = 1 then some ⟨paramsOf nmF lps_1, .expr (lamb_1.py nmF), scOf nmF lsc_1, qfF 51, freeOf lsc_1⟩
  else if i = 11 then some ⟨paramsOf nmF gps_prepare_parent, .stmts (pyY nmF gs_prepare_parent), { scOf nmF gsc_prepare_parent with isGenerator := true }, qfF 34, freeOf gsc_prepare_parent⟩
  else if i = 12 then some ⟨paramsOf nmF gps_prepare_child, .stmts (pyY nmF gs_prepare_child), { scOf nmF gsc_prepare_child with isGenerator := true }, qfF 33, freeOf gsc_prepare_child⟩ else none
noncomputable def B3 (w : World) (h₀ : Heap) (mg mb : Str → Option Value) : Bs := { prog := PySem.Challenge.pw_wb0058_03, w := w, h₀ := h₀, mg := mg, mb := mb, C := 66, nm := nmF, CT := ctF, qf := qfF, pq := pqF, LS := lsF }
structure Top3 (w : World) (h₀ : Heap) (mg mb : Str → Option Value) : Prop where
  k : (K3 w).In h₀
  g : h₀.Ns mainGlobals mg
  b : h₀.Ns builtinsNs mb
  nolimit : h₀.NoLimit
  builtins : ∀ x : Str, x ≠ "__name__" → mb x = bootBuiltins x
  bmain : ∃ bm ob, mg "__builtins__" = some (.ref bm) ∧ bm ≠ builtinsNs ∧ h₀.get? bm = some ob ∧ ob.cls = .type "module" ∧ ob.dict = some builtinsNs ∧ ob.data = .plain
  tabs : ∀ P, P = 30 ∨ P = 37 ∨ P = 44 ∨ P = 181 → h₀.get? P = some (tabObj #[])
  low : sysModules < h₀.objs.size
theorem nmL_nodup : (nmL.map Str.ofString).Nodup := by decide +kernel
theorem nmL_short : (nmL.map fun x => (Str.ofString x).cps.size).all (· < nmL.length) = true := by decide +kernel
theorem nmF_lt {n : Nat} {s : String} (h : nmL[n]? = some s) : nmF n = Str.ofString s := by unfold nmF; rw [h]
theorem nmF_ge {n : Nat} (h : nmL[n]? = none) : nmF n = ⟨(List.replicate n 63).toArray⟩ := by unfold nmF; rw [h]
theorem nmF_inj : ∀ x y, nmF x = nmF y → x = y := by
  intro x y h
  have short : ∀ {n : Nat} {s : String}, nmL[n]? = some s → (nmF n).cps.size < nmL.length := fun {n s} e => by
    rw [nmF_lt e]
    have := List.all_eq_true.mp nmL_short ((Str.ofString s).cps.size) (List.mem_map.mpr ⟨s, List.mem_of_getElem? e, rfl⟩)
    simpa using this
  have long : ∀ {n : Nat}, nmL[n]? = none → (nmF n).cps.size = n ∧ nmL.length ≤ n := fun {n} e => by
    rw [nmF_ge e]
    exact ⟨by simp, by simpa using e⟩
  cases hx : nmL[x]? with
  | some s =>
    cases hy : nmL[y]? with
    | some t =>
      rw [nmF_lt hx, nmF_lt hy] at h
      have h1 : (nmL.map Str.ofString)[x]? = some (Str.ofString s) := by rw [List.getElem?_map, hx]; rfl
      have h2 : (nmL.map Str.ofString)[y]? = some (Str.ofString t) := by rw [List.getElem?_map, hy]; rfl
      have hlx := (List.getElem?_eq_some_iff.mp h1).1
      exact (List.getElem?_inj hlx nmL_nodup).mp (by rw [h1, h2, h])
    | none =>
      have := short hx
      have := long hy
      rw [h] at *
      lia
  | none =>
    cases hy : nmL[y]? with
    | some t =>
      have := short hy
      have := long hx
      rw [h] at *
      lia
    | none =>
      have h1 := long hx
      have h2 := long hy
      rw [h] at h1
      lia
section
variable {w : World} {h₀ : Heap} {mg mb : Str → Option Value}
theorem T3 {P : Addr} (t : (B3 w h₀ mg mb).T P) : P = 30 ∨ P = 37 ∨ P = 44 ∨ P = 181 := by
  obtain ⟨f, c, h⟩ := t
  exact ct_all (P := fun _ q => q.2 = 30 ∨ q.2 = 37 ∨ q.2 = 44 ∨ q.2 = 181) (.inl rfl) (.inr (.inl rfl)) (.inr (.inr (.inl rfl))) (.inr (.inr (.inr rfl))) f (c, P) h
theorem nT3 {a : Addr} (h : (a == 30 || a == 37 || a == 44 || a == 181) = false) : ¬ (B3 w h₀ mg mb).T a := by
  intro t
  rcases T3 t with rfl | rfl | rfl | rfl <;> exact Bool.noConfusion (show true = false from h)
theorem cls3 (T : Top3 w h₀ mg mb) : ClsOk (B3 w h₀ mg mb) (K3 w) where
  in₀ := T.k
  nT := fun a o e t => by
    have key : ∀ P, (K3 w).lookup P = none → (K3 w).lookup P = some o → False := fun P h1 h2 => by rw [h1] at h2; cases h2
    rcases T3 t with rfl | rfl | rfl | rfl
    · exact key 30 (by kernel_rfl) e
    · exact key 37 (by kernel_rfl) e
    · exact key 44 (by kernel_rfl) e
    · exact key 181 (by kernel_rfl) e
  makes := by kernel_rfl
  init := ⟨63, by kernel_rfl, by kernel_rfl⟩
  plain := by kernel_rfl
theorem set3 (T : Top3 w h₀ mg mb) : SetOk (B3 w h₀ mg mb) (K3 w) where
  z := cls3 T
  set := by kernel_rfl
  taker := fun f h => by rcases h with rfl | rfl | rfl <;> kernel_rfl
  hasDict := by kernel_rfl
  keep := by kernel_rfl
end
end Mine
namespace Mine
section
variable {w : World} {h₀ : Heap} {mg mb : Str → Option Value}
theorem nm_ne (s : String) (h : (nmL.map Str.ofString).all (· != Str.ofString s) = true) (h2 : (Str.ofString s).cps.size < nmL.length) (n : Nat) : nmF n ≠ Str.ofString s := by
  intro e
  cases hn : nmL[n]? with
  | some t =>
    rw [nmF_lt hn] at e
    have := List.all_eq_true.mp h (Str.ofString t) (List.mem_map.mpr ⟨t, List.mem_of_getElem? hn, rfl⟩)
    rw [e] at this
    simp at this
  | none =>
    rw [nmF_ge hn] at e
    have h3 : nmL.length ≤ n := by simpa using hn
    have h4 : (⟨(List.replicate n 63).toArray⟩ : Str).cps.size = n := by simp
    rw [e] at h4
    lia
theorem bmain3 (T : Top3 w h₀ mg mb) : mg "__builtins__" = some (.ref 4) := mg_of T.k T.g (by kernel_rfl)
theorem blt_one (T : Top3 w h₀ mg mb) {f : Nat} {v : Value} (h1 : nsIn (K3 w) mainGlobals (nmF f) = some none) (h2 : bootBuiltins (nmF f) = some v) : mg (nmF f) = none ∧ mb (nmF f) = some v :=
  ⟨mg_none_of T.k T.g h1, by rw [T.builtins _ (nm_ne "__name__" (by decide +kernel) (by decide +kernel) f), h2]⟩
theorem blts3 (T : Top3 w h₀ mg mb) : ∀ f v, bltVal f = some v → mg (nmF f) = none ∧ mb (nmF f) = some v :=
  tabN_all (List.forall_mem_cons.mpr ⟨blt_one T (by kernel_rfl) (by kernel_rfl), List.forall_mem_cons.mpr ⟨blt_one T (by kernel_rfl) (by kernel_rfl), List.forall_mem_cons.mpr ⟨blt_one T (by kernel_rfl) (by kernel_rfl), List.forall_mem_cons.mpr ⟨blt_one T (by kernel_rfl) (by kernel_rfl), List.forall_mem_cons.mpr ⟨blt_one T (by kernel_rfl) (by kernel_rfl), List.forall_mem_cons.mpr ⟨blt_one T (by kernel_rfl) (by kernel_rfl), List.forall_mem_cons.mpr ⟨blt_one T (by kernel_rfl) (by kernel_rfl), List.forall_mem_cons.mpr ⟨blt_one T (by kernel_rfl) (by kernel_rfl), List.forall_mem_cons.mpr ⟨blt_one T (by kernel_rfl) (by kernel_rfl), List.forall_mem_cons.mpr ⟨blt_one T (by kernel_rfl) (by kernel_rfl), List.forall_mem_nil _⟩⟩⟩⟩⟩⟩⟩⟩⟩⟩)
theorem attrs3 : ∀ f, f = 19 ∨ f = 20 ∨ f = 21 → ∃ attr, findIn (K3 w) (.ref 66) (nmF f) = some attr ∧ (match attr with | some a => specialIn (K3 w) a "__get__" | none => some none) = some none := by
  intro f hf
  rcases hf with rfl | rfl | rfl
  · exact ⟨none, by kernel_rfl, rfl⟩
  · exact ⟨none, by kernel_rfl, rfl⟩
  · exact ⟨some .none, by kernel_rfl, by kernel_rfl⟩
theorem codehd3 (T : Top3 w h₀ mg mb) {f : Nat} {c P : Addr} (h : ctF f = some (c, P)) : CodeHd h₀ c P :=
  ct_all (P := fun _ q => CodeHd h₀ q.1 q.2) (codeHd_of_K T.k (by kernel_rfl)) (codeHd_of_K T.k (by kernel_rfl)) (codeHd_of_K T.k (by kernel_rfl)) (codeHd_of_K T.k (by kernel_rfl)) f (c, P) h
theorem bat3 (T : Top3 w h₀ mg mb) {P : Addr} (hP : (4 : Addr) ≠ P) : h₀.BuiltinsAt mg P := by
  obtain ⟨bm, ob, h1, h2, h3, h4, h5, h6⟩ := T.bmain
  have h7 : some (Value.ref bm) = some (.ref 4) := h1.symm.trans (bmain3 T)
  cases h7
  exact ⟨4, ob, h1, h2, by decide, hP, h3, h4, h5, h6⟩
theorem hd3 (T : Top3 w h₀ mg mb) {f : Nat} {c P : Addr} (h : ctF f = some (c, P)) : ¬ (B3 w h₀ mg mb).T c ∧ mainGlobals ≠ P ∧ h₀.BuiltinsAt mg P :=
  ct_all (P := fun _ q => ¬ (B3 w h₀ mg mb).T q.1 ∧ mainGlobals ≠ q.2 ∧ h₀.BuiltinsAt mg q.2) ⟨nT3 rfl, by decide, bat3 T (by decide)⟩ ⟨nT3 rfl, by decide, bat3 T (by decide)⟩ ⟨nT3 rfl, by decide, bat3 T (by decide)⟩ ⟨nT3 rfl, by decide, bat3 T (by decide)⟩ f (c, P) h
noncomputable def ctR : Nat → Option (Nat × Addr) := tabN [(30, (32,34)), (37, (33,41)), (44, (34,48)), (181, (51,183))]
theorem ctR_of {f : Nat} {c P : Addr} (h : ctF f = some (c, P)) : ctR P = some (f, c) := ct_all (P := fun f q => ctR q.2 = some (f, q.1)) rfl rfl rfl rfl f (c, P) h
theorem ok3 (T : Top3 w h₀ mg mb) : (B3 w h₀ mg mb).Ok where
  inj := nmF_inj
  tilow := fun b t => Heap.lt_size (T.tabs b (T3 t))
  hd := fun f c P h => by
    obtain ⟨h1, h2, h3⟩ := hd3 T h
    exact ⟨codehd3 T h, h1, h2, h3, fun bm h4 => by cases h4.symm.trans (bmain3 T); exact nT3 rfl⟩
  ctinj := fun f f' c c' P h h' => by
    cases (ctR_of h).symm.trans (ctR_of h')
    exact ⟨rfl, rfl⟩
  g := T.g
  b := T.b
  gT := nT3 rfl
  bT := nT3 rfl
  nolimit := T.nolimit
  csT := nT3 rfl
  sysm := T.low
  blts := blts3 T
  mnm := tabN_all (List.forall_mem_cons.mpr ⟨rfl, List.forall_mem_cons.mpr ⟨rfl, List.forall_mem_cons.mpr ⟨rfl, List.forall_mem_cons.mpr ⟨rfl, List.forall_mem_cons.mpr ⟨rfl, List.forall_mem_cons.mpr ⟨rfl, List.forall_mem_cons.mpr ⟨rfl, List.forall_mem_cons.mpr ⟨rfl, List.forall_mem_cons.mpr ⟨rfl, List.forall_mem_nil _⟩⟩⟩⟩⟩⟩⟩⟩⟩)
  dbg := fun x => by
    rw [beq_eq_false_iff_ne]
    exact nm_ne "__debug__" (by decide +kernel) (by decide +kernel) x
  cld := fun x => by
    rw [beq_eq_false_iff_ne]
    exact nm_ne "__classdict__" (by decide +kernel) (by decide +kernel) x
  attr := attr_of (B := B3 w h₀ mg mb) nmF_inj (cls3 T) (by kernel_rfl) attrs3 (by kernel_rfl)
end
end Mine
namespace Mine
section
variable {w : World} {h₀ : Heap} {mg mb : Str → Option Value}
theorem d_get_parent_map (T : Top3 w h₀ mg mb) : ∃ fo fd, DefOk (B3 w h₀ mg mb) 30 0 (ps_get_parent_map.map (·.1)) sc_get_parent_map body_get_parent_map 21 fo fd :=
  defOk_of (B := B3 w h₀ mg mb) (KF := K3 w) T.k T.g (f := 30) (fid := 0) (ps := ps_get_parent_map) (sc := sc_get_parent_map) (fa := 21) (c := 20) (qual := "get_parent_map") (by kernel_rfl) (by kernel_rfl) (by kernel_rfl) (nT3 rfl) (nT3 rfl) (.inl rfl) (by decide) nmF_inj (by decide) (by decide) (by decide)
theorem d_is_wildcard_tag (T : Top3 w h₀ mg mb) : ∃ fo fd, DefOk (B3 w h₀ mg mb) 31 0 (ps_is_wildcard_tag.map (·.1)) sc_is_wildcard_tag (pyS nmF ir_is_wildcard_tag) 28 fo fd :=
  defOk_of (B := B3 w h₀ mg mb) (KF := K3 w) T.k T.g (f := 31) (fid := 0) (ps := ps_is_wildcard_tag) (sc := sc_is_wildcard_tag) (fa := 28) (c := 27) (qual := "_is_wildcard_tag") (by kernel_rfl) (by kernel_rfl) (by kernel_rfl) (nT3 rfl) (nT3 rfl) (.inl rfl) (by decide) nmF_inj (by decide) (by decide) (by decide)
theorem d_prepare_child (T : Top3 w h₀ mg mb) : ∃ fo fd, DefOk (B3 w h₀ mg mb) 33 33 (ps_prepare_child.map (·.1)) sc_prepare_child (pyS nmF (ir_prepare_child (thenOf (bodyAt "prepare_child")))) 42 fo fd :=
  defOk_of (B := B3 w h₀ mg mb) (KF := K3 w) T.k T.g (f := 33) (fid := 33) (ps := ps_prepare_child) (sc := sc_prepare_child) (fa := 42) (c := 41) (qual := "prepare_child") (by kernel_rfl) (by kernel_rfl) (by kernel_rfl) (nT3 rfl) (nT3 rfl) (.inr ⟨by kernel_rfl, by kernel_rfl⟩) (by decide) nmF_inj (by decide) (by decide) (by decide)
theorem d_prepare_parent (T : Top3 w h₀ mg mb) : ∃ fo fd, DefOk (B3 w h₀ mg mb) 34 34 (ps_prepare_parent.map (·.1)) sc_prepare_parent (pyS nmF ir_prepare_parent) 49 fo fd :=
  defOk_of (B := B3 w h₀ mg mb) (KF := K3 w) T.k T.g (f := 34) (fid := 34) (ps := ps_prepare_parent) (sc := sc_prepare_parent) (fa := 49) (c := 48) (qual := "prepare_parent") (by kernel_rfl) (by kernel_rfl) (by kernel_rfl) (nT3 rfl) (nT3 rfl) (.inr ⟨by kernel_rfl, by kernel_rfl⟩) (by decide) nmF_inj (by decide) (by decide) (by decide)
theorem d_escape (T : Top3 w h₀ mg mb) : ∃ fo fd, DefOk (B3 w h₀ mg mb) 35 0 (ps_escape.map (·.1)) sc_escape (pyS nmF ir_escape) 82 fo fd :=
  defOk_of (B := B3 w h₀ mg mb) (KF := K3 w) T.k T.g (f := 35) (fid := 0) (ps := ps_escape) (sc := sc_escape) (fa := 82) (c := 81) (qual := "escape") (by kernel_rfl) (by kernel_rfl) (by kernel_rfl) (nT3 rfl) (nT3 rfl) (.inl rfl) (by decide) nmF_inj (by decide) (by decide) (by decide)
theorem d_escape_cdata (T : Top3 w h₀ mg mb) : ∃ fo fd, DefOk (B3 w h₀ mg mb) 37 0 (ps_escape_cdata.map (·.1)) sc_escape_cdata (pyS nmF (ir_escape_cdata (handlersOf (bodyAt "_escape_cdata")))) 96 fo fd :=
  defOk_of (B := B3 w h₀ mg mb) (KF := K3 w) T.k T.g (f := 37) (fid := 0) (ps := ps_escape_cdata) (sc := sc_escape_cdata) (fa := 96) (c := 95) (qual := "_escape_cdata") (by kernel_rfl) (by kernel_rfl) (by kernel_rfl) (nT3 rfl) (nT3 rfl) (.inl rfl) (by decide) nmF_inj (by decide) (by decide) (by decide)
theorem d_escape_attrib (T : Top3 w h₀ mg mb) : ∃ fo fd, DefOk (B3 w h₀ mg mb) 38 0 (ps_escape_attrib.map (·.1)) sc_escape_attrib (pyS nmF (ir_escape_attrib (handlersOf (bodyAt "_escape_attrib")))) 103 fo fd :=
  defOk_of (B := B3 w h₀ mg mb) (KF := K3 w) T.k T.g (f := 38) (fid := 0) (ps := ps_escape_attrib) (sc := sc_escape_attrib) (fa := 103) (c := 102) (qual := "_escape_attrib") (by kernel_rfl) (by kernel_rfl) (by kernel_rfl) (nT3 rfl) (nT3 rfl) (.inl rfl) (by decide) nmF_inj (by decide) (by decide) (by decide)
theorem d_escape_attrib_html (T : Top3 w h₀ mg mb) : ∃ fo fd, DefOk (B3 w h₀ mg mb) 39 0 (ps_escape_attrib_html.map (·.1)) sc_escape_attrib_html (pyS nmF (ir_escape_attrib_html (handlersOf (bodyAt "_escape_attrib_html")))) 110 fo fd :=
  defOk_of (B := B3 w h₀ mg mb) (KF := K3 w) T.k T.g (f := 39) (fid := 0) (ps := ps_escape_attrib_html) (sc := sc_escape_attrib_html) (fa := 110) (c := 109) (qual := "_escape_attrib_html") (by kernel_rfl) (by kernel_rfl) (by kernel_rfl) (nT3 rfl) (nT3 rfl) (.inl rfl) (by decide) nmF_inj (by decide) (by decide) (by decide)
theorem d_escape_cdata_c14n (T : Top3 w h₀ mg mb) : ∃ fo fd, DefOk (B3 w h₀ mg mb) 40 0 (ps_escape_cdata_c14n.map (·.1)) sc_escape_cdata_c14n (pyS nmF (ir_escape_cdata_c14n (handlersOf (bodyAt "_escape_cdata_c14n")))) 117 fo fd :=
  defOk_of (B := B3 w h₀ mg mb) (KF := K3 w) T.k T.g (f := 40) (fid := 0) (ps := ps_escape_cdata_c14n) (sc := sc_escape_cdata_c14n) (fa := 117) (c := 116) (qual := "_escape_cdata_c14n") (by kernel_rfl) (by kernel_rfl) (by kernel_rfl) (nT3 rfl) (nT3 rfl) (.inl rfl) (by decide) nmF_inj (by decide) (by decide) (by decide)
theorem d_escape_attrib_c14n (T : Top3 w h₀ mg mb) : ∃ fo fd, DefOk (B3 w h₀ mg mb) 41 0 (ps_escape_attrib_c14n.map (·.1)) sc_escape_attrib_c14n (pyS nmF (ir_escape_attrib_c14n (handlersOf (bodyAt "_escape_attrib_c14n")))) 124 fo fd :=
  defOk_of (B := B3 w h₀ mg mb) (KF := K3 w) T.k T.g (f := 41) (fid := 0) (ps := ps_escape_attrib_c14n) (sc := sc_escape_attrib_c14n) (fa := 124) (c := 123) (qual := "_escape_attrib_c14n") (by kernel_rfl) (by kernel_rfl) (by kernel_rfl) (nT3 rfl) (nT3 rfl) (.inl rfl) (by decide) nmF_inj (by decide) (by decide) (by decide)
theorem d_law_cells (T : Top3 w h₀ mg mb) : ∃ fo fd, DefOk (B3 w h₀ mg mb) 42 0 (ps_law_cells.map (·.1)) sc_law_cells (pyS nmF ir_law_cells) 131 fo fd :=
  defOk_of (B := B3 w h₀ mg mb) (KF := K3 w) T.k T.g (f := 42) (fid := 0) (ps := ps_law_cells) (sc := sc_law_cells) (fa := 131) (c := 130) (qual := "_law_cells") (by kernel_rfl) (by kernel_rfl) (by kernel_rfl) (nT3 rfl) (nT3 rfl) (.inl rfl) (by decide) nmF_inj (by decide) (by decide) (by decide)
theorem d_law_written (T : Top3 w h₀ mg mb) : ∃ fo fd, DefOk (B3 w h₀ mg mb) 43 0 (ps_law_written.map (·.1)) sc_law_written (pyS nmF ir_law_written) 138 fo fd :=
  defOk_of (B := B3 w h₀ mg mb) (KF := K3 w) T.k T.g (f := 43) (fid := 0) (ps := ps_law_written) (sc := sc_law_written) (fa := 138) (c := 137) (qual := "_law_written") (by kernel_rfl) (by kernel_rfl) (by kernel_rfl) (nT3 rfl) (nT3 rfl) (.inl rfl) (by decide) nmF_inj (by decide) (by decide) (by decide)
theorem d_law_spelled (T : Top3 w h₀ mg mb) : ∃ fo fd, DefOk (B3 w h₀ mg mb) 44 0 (ps_law_spelled.map (·.1)) sc_law_spelled (pyS nmF ir_law_spelled) 145 fo fd :=
  defOk_of (B := B3 w h₀ mg mb) (KF := K3 w) T.k T.g (f := 44) (fid := 0) (ps := ps_law_spelled) (sc := sc_law_spelled) (fa := 145) (c := 144) (qual := "_law_spelled") (by kernel_rfl) (by kernel_rfl) (by kernel_rfl) (nT3 rfl) (nT3 rfl) (.inl rfl) (by decide) nmF_inj (by decide) (by decide) (by decide)
theorem d_law_thing (T : Top3 w h₀ mg mb) : ∃ fo fd, DefOk (B3 w h₀ mg mb) 45 0 (ps_law_thing.map (·.1)) sc_law_thing body_law_thing 152 fo fd :=
  defOk_of (B := B3 w h₀ mg mb) (KF := K3 w) T.k T.g (f := 45) (fid := 0) (ps := ps_law_thing) (sc := sc_law_thing) (fa := 152) (c := 151) (qual := "_law_thing") (by kernel_rfl) (by kernel_rfl) (by kernel_rfl) (nT3 rfl) (nT3 rfl) (.inl rfl) (by decide) nmF_inj (by decide) (by decide) (by decide)
theorem d_law_context (T : Top3 w h₀ mg mb) : ∃ fo fd, DefOk (B3 w h₀ mg mb) 46 0 (ps_law_context.map (·.1)) sc_law_context body_law_context 159 fo fd :=
  defOk_of (B := B3 w h₀ mg mb) (KF := K3 w) T.k T.g (f := 46) (fid := 0) (ps := ps_law_context) (sc := sc_law_context) (fa := 159) (c := 158) (qual := "_law_context") (by kernel_rfl) (by kernel_rfl) (by kernel_rfl) (nT3 rfl) (nT3 rfl) (.inl rfl) (by decide) nmF_inj (by decide) (by decide) (by decide)
theorem d_law_on (T : Top3 w h₀ mg mb) : ∃ fo fd, DefOk (B3 w h₀ mg mb) 47 0 (ps_law_on.map (·.1)) sc_law_on (pyS nmF ir_law_on) 164 fo fd :=
  defOk_of (B := B3 w h₀ mg mb) (KF := K3 w) T.k T.g (f := 47) (fid := 0) (ps := ps_law_on) (sc := sc_law_on) (fa := 164) (c := 163) (qual := "_law_on") (by kernel_rfl) (by kernel_rfl) (by kernel_rfl) (nT3 rfl) (nT3 rfl) (.inl rfl) (by decide) nmF_inj (by decide) (by decide) (by decide)
theorem d_law_back (T : Top3 w h₀ mg mb) : ∃ fo fd, DefOk (B3 w h₀ mg mb) 48 0 (ps_law_back.map (·.1)) sc_law_back (pyS nmF ir_law_back) 169 fo fd :=
  defOk_of (B := B3 w h₀ mg mb) (KF := K3 w) T.k T.g (f := 48) (fid := 0) (ps := ps_law_back) (sc := sc_law_back) (fa := 169) (c := 168) (qual := "_law_back") (by kernel_rfl) (by kernel_rfl) (by kernel_rfl) (nT3 rfl) (nT3 rfl) (.inl rfl) (by decide) nmF_inj (by decide) (by decide) (by decide)
theorem d_law_fewest (T : Top3 w h₀ mg mb) : ∃ fo fd, DefOk (B3 w h₀ mg mb) 49 0 (ps_law_fewest.map (·.1)) sc_law_fewest (pyS nmF ir_law_fewest) 174 fo fd :=
  defOk_of (B := B3 w h₀ mg mb) (KF := K3 w) T.k T.g (f := 49) (fid := 0) (ps := ps_law_fewest) (sc := sc_law_fewest) (fa := 174) (c := 173) (qual := "_law_fewest") (by kernel_rfl) (by kernel_rfl) (by kernel_rfl) (nT3 rfl) (nT3 rfl) (.inl rfl) (by decide) nmF_inj (by decide) (by decide) (by decide)
theorem d_law_meet (T : Top3 w h₀ mg mb) : ∃ fo fd, DefOk (B3 w h₀ mg mb) 50 0 (ps_law_meet.map (·.1)) sc_law_meet (pyS nmF ir_law_meet) 179 fo fd :=
  defOk_of (B := B3 w h₀ mg mb) (KF := K3 w) T.k T.g (f := 50) (fid := 0) (ps := ps_law_meet) (sc := sc_law_meet) (fa := 179) (c := 178) (qual := "_law_meet") (by kernel_rfl) (by kernel_rfl) (by kernel_rfl) (nT3 rfl) (nT3 rfl) (.inl rfl) (by decide) nmF_inj (by decide) (by decide) (by decide)
theorem d_law (T : Top3 w h₀ mg mb) : ∃ fo fd, DefOk (B3 w h₀ mg mb) 51 51 (ps_law.map (·.1)) sc_law (pyS nmF ir_law) 184 fo fd :=
  defOk_of (B := B3 w h₀ mg mb) (KF := K3 w) T.k T.g (f := 51) (fid := 51) (ps := ps_law) (sc := sc_law) (fa := 184) (c := 183) (qual := "law") (by kernel_rfl) (by kernel_rfl) (by kernel_rfl) (nT3 rfl) (nT3 rfl) (.inr ⟨by kernel_rfl, by kernel_rfl⟩) (by decide) nmF_inj (by decide) (by decide) (by decide)
theorem d_init (T : Top3 w h₀ mg mb) : ∃ fo fd, InitFn (B3 w h₀ mg mb) (K3 w) 25 63 fo fd ⟨86,8,86,12⟩ ⟨86,8,86,17⟩ ⟨86,20,86,24⟩ ⟨86,8,86,24⟩ :=
  initFn_of (B := B3 w h₀ mg mb) (KF := K3 w) T.k (slf := 25) (a1 := ⟨85,17,85,21⟩) (a2 := ⟨85,23,85,27⟩) (fI := 63) (c := 62) (qual := "_SelectorContext.__init__") (by kernel_rfl) (by kernel_rfl) (by kernel_rfl) (nT3 rfl) (nT3 rfl) nmF_inj (by decide)
end
end Mine
namespace Mine
noncomputable def spL : List Nat := [40,41,91,93,123,125,63,42,43,45,124,94,36,92,46,38,126,35,32,9,10,13,11,12]
noncomputable def gSp (c : Nat) : Option (List Nat) := if spL.contains c then some [92, c] else none
noncomputable def es72 (w : World) : Array DictEntry := match (K3 w).lookup 72 with
  | some ⟨_, _, .dict es _, _⟩ => es
  | _ => #[]
noncomputable def ent72 (e : DictEntry) : Bool := match e.key with
  | .int k _ => e.hash == hashInt k && (match k with | .ofNat n => spL.contains n | _ => false)
  | _ => false
noncomputable def hit72 (es : List DictEntry) (c : Nat) : Bool := match ((es.find? fun e => Value.isInt (c : Int) e.key).map (·.val) : Option Value) with
  | some (.str y _) => y == ⟨#[92, c]⟩
  | _ => false
theorem es72_ents (w : World) : (es72 w).toList.all ent72 = true := by kernel_rfl
theorem es72_hits (w : World) : spL.all (hit72 (es72 w).toList) = true := by kernel_rfl
theorem es72_obj (w : World) : ((K3 w).lookup 72).any (fun o => match o with | ⟨.type t, none, .dict es n, sl⟩ => t == "dict" && sl.size == 0 | _ => false) = true := by kernel_rfl
noncomputable def f72 (w : World) (k : Int) : Option Value := findBy Value.isInt (es72 w) k
theorem tab72 (w : World) : TabF (f72 w) gSp := by
  intro c
  unfold gSp
  by_cases hc : spL.contains c = true
  · rw [if_pos hc]
    refine ⟨rfl, ?_⟩
    have := List.all_eq_true.mp (es72_hits w) c (by simpa using hc)
    unfold hit72 at this
    split at this
    · rename_i y t he
      have hy : y = ⟨#[92, c]⟩ := by simpa using this
      refine ⟨t, ?_⟩
      unfold f72 findBy
      rw [← Array.find?_toList, he, hy]
    · exact nomatch this
  · rw [if_neg hc]
    show f72 w c = none
    unfold f72 findBy
    rw [← Array.find?_toList]
    have : (es72 w).toList.find? (fun e => Value.isInt (c : Int) e.key) = none := by
      rw [List.find?_eq_none]
      intro e he
      have h := List.all_eq_true.mp (es72_ents w) e he
      unfold ent72 at h
      split at h
      · rename_i k t hk
        rw [hk]
        replace h := Bool.and_eq_true_iff.mp h
        intro hi
        have hk' : k = (c : Int) := by
          simp only [Value.isInt] at hi
          first
            | exact (by simpa using hi)
            | exact (by simpa using hi : (c : Int) = k).symm
        subst hk'
        exact hc (by simpa using h.2)
      · exact nomatch h
    rw [this]; rfl
section
variable {w : World} {h₀ : Heap} {mg mb : Str → Option Value}
theorem es72_of {c : Value} {d : Option Addr} {es : Array DictEntry} {n : Nat} {sl : Array (Option Value)} (h : (K3 w).lookup 72 = some ⟨c, d, .dict es n, sl⟩) : es72 w = es := by
  unfold es72; rw [h]
theorem map72 (T : Top3 w h₀ mg mb) : h₀.MapOf (PySem.intKind PySem.Challenge.pw_wb0058_03 w) 72 (f72 w) := by
  have h1 := es72_obj w
  obtain ⟨o, ho, h2⟩ := any_some h1
  obtain ⟨cls, dct, dt, sl⟩ := o
  split at h2
  · rename_i t es n sl' heq
    cases heq
    simp only [Bool.and_eq_true, beq_iff_eq] at h2
    obtain ⟨rfl, h3⟩ := h2
    have hsl : sl = #[] := Array.eq_empty_of_size_eq_zero h3
    subst hsl
    have hes : es72 w = es := es72_of ho
    refine ⟨_, es, n, T.k _ _ ho, ⟨rfl, rfl, rfl⟩, rfl, fun e he => ?_, fun k => by unfold f72; rw [hes]; rfl⟩
    have h := List.all_eq_true.mp (es72_ents w) e (by rw [hes]; simpa using he)
    unfold ent72 at h
    split at h
    · rename_i k t hk
      simp only [Bool.and_eq_true, beq_iff_eq] at h
      exact ⟨k, by rw [hk]; simp [PySem.intKind, Value.isInt], h.1⟩
    · exact nomatch h
  · exact nomatch h2
noncomputable def c35 : List D → Option D
  | [a] => a.str?.bind fun l => if l.length ≤ lim ∧ (trL gSp l).length ≤ lim then some (.str (trL gSp l)) else none
  | _ => none
noncomputable def c45 : List D → Option D
  | [a, b] => some (.thing [19,20] [a, b])
  | _ => none
noncomputable def c46 : List D → Option D
  | [a] => some (.thing [19,21] [.nil, a])
  | _ => none
noncomputable def phi0 : Phi where
  call := fun f args => (tabN [(35, c35), (45, c45), (46, c46)] f).bind fun g => g args
  lam := fun _ _ => none
  gen := fun _ _ => none
noncomputable def psi3 (f : Nat) (d : D) : Option D := if f = 30 then (match D.fld 21 d with
  | some (.dict ks ds) => some (.dict ks ds)
  | _ => none) else none
theorem psi_inv {f : Nat} {d r : D} (h : psi3 f d = some r) : f = 30 ∧ ∃ ks ds, D.fld 21 d = some (.dict ks ds) ∧ .dict ks ds = r := by
  obtain ⟨hf, h1⟩ := ifb_some h
  split at h1
  case h_2 => exact nomatch h1
  rename_i ks ds hd
  exact ⟨hf, ks, ds, hd, Option.some.inj h1⟩
theorem old3 (T : Top3 w h₀ mg mb) : OldC (B3 w h₀ mg mb) 24 psi3 := by
  intro f d r h
  obtain ⟨rfl, ks, ds, hd, rfl⟩ := psi_inv h
  obtain ⟨ns, vs, rfl, _⟩ := fld_inv hd
  obtain ⟨fo, fd, F⟩ := d_get_parent_map T
  obtain ⟨h1, h2, h3, h4, h5⟩ := old_call (K := 20) (ok3 T) (ctx := 52) (x := 21) (fld := 21) (sc := sc_get_parent_map) F (by decide) (by decide) (by decide) (by decide) (ns := ns) (vs := vs) (ks := ks) (ds := ds) hd
  exact ⟨_, fo, fd, h1, h2, h3, h4, h5⟩
theorem call35 (T : Top3 w h₀ mg mb) {args : List D} {d : D} (h : c35 args = some d) : Contract (B3 w h₀ mg mb) 26 35 args d := by
  unfold c35 at h
  split at h
  case h_2 => exact nomatch h
  obtain ⟨l, hl', h1⟩ := ob_some h
  obtain ⟨hl, rfl⟩ := if_some h1
  have := str?_eq hl'; subst this
  obtain ⟨fo, fd, F⟩ := d_escape T
  refine def_raw (ok3 T) (K := 24) F rfl ?_
  exact escape_body (ok3 T) (x := 64) (l := l) (d := 72) (f := f72 w) (g := gSp) (by rfl) (by rfl) (by rfl) (by rfl) (show mg (nmF 24) = some (.ref 72) from mg_of T.k T.g (by kernel_rfl)) (nT3 rfl) (by decide) (map72 T) (tab72 w) hl.2 (by decide)
theorem call45 (T : Top3 w h₀ mg mb) {args : List D} {d : D} (h : c45 args = some d) : Contract (B3 w h₀ mg mb) 26 45 args d := by
  unfold c45 at h
  split at h
  case h_2 => exact nomatch h
  obtain rfl := Option.some.inj h
  obtain ⟨fo, fd, F⟩ := d_law_thing T
  obtain ⟨fo', fd', FI⟩ := d_init T
  refine def_raw (ok3 T) (K := 24) F rfl ?_
  exact thing_body (ok3 T) (set3 T) FI (by decide) (by lia) (x := 80) (t := 20) (f := 20) (e := .name 81 ⟨197,29,197,35⟩) (Φ := phi0) (show mg (nmF 23) = some (.ref 66) from mg_of T.k T.g (by kernel_rfl)) (by rfl) (by rfl) (by rfl) (by decide) (by rfl) (.inl rfl) (snd_name (ok3 T)) (by rfl)
theorem call46 (T : Top3 w h₀ mg mb) {args : List D} {d : D} (h : c46 args = some d) : Contract (B3 w h₀ mg mb) 26 46 args d := by
  unfold c46 at h
  split at h
  case h_2 => exact nomatch h
  obtain rfl := Option.some.inj h
  obtain ⟨fo, fd, F⟩ := d_law_context T
  obtain ⟨fo', fd', FI⟩ := d_init T
  refine def_raw (ok3 T) (K := 24) F rfl ?_
  exact thing_body (ok3 T) (set3 T) FI (by decide) (by lia) (x := 52) (t := 74) (f := 21) (e := .nil ⟨201,31,201,35⟩) (Φ := phi0) (show mg (nmF 23) = some (.ref 66) from mg_of T.k T.g (by kernel_rfl)) (by rfl) (by rfl) (by rfl) (by decide) (by rfl) (.inr rfl) (snd_nil (ok3 T)) (by rfl)
theorem base3 (T : Top3 w h₀ mg mb) : PhiOk (B3 w h₀ mg mb) 26 phi0 where
  lam := fun id caps args d h => by exact nomatch h
  gen := fun id caps args l _ h => by exact nomatch h
  call := fun f args d h => by
    obtain ⟨g, hg, h1⟩ := ob_some h
    exact tabN_all (P := fun f g => g args = some d → Contract (B3 w h₀ mg mb) 26 f args d) (List.forall_mem_cons.mpr ⟨call35 T, List.forall_mem_cons.mpr ⟨call45 T, List.forall_mem_cons.mpr ⟨call46 T, List.forall_mem_nil _⟩⟩⟩) f g hg h1
end
end Mine
namespace Mine
noncomputable abbrev NN : Nat := 100
noncomputable def hsOf (n : String) : List ExceptHandler := handlersOf (bodyAt n)
noncomputable def tx (ps : List (Nat × Pos)) (sc : List (Nat × NameKind)) (fid : Nat) (ir : List St) : Tx := ⟨ps.map (·.1), sc, fid, ir⟩
noncomputable def tF1 : Nat → Option Tx := tabN [(31, tx ps_is_wildcard_tag sc_is_wildcard_tag 0 ir_is_wildcard_tag),
  (37, tx ps_escape_cdata sc_escape_cdata 0 (ir_escape_cdata (hsOf "_escape_cdata"))),
  (38, tx ps_escape_attrib sc_escape_attrib 0 (ir_escape_attrib (hsOf "_escape_attrib"))),
  (39, tx ps_escape_attrib_html sc_escape_attrib_html 0 (ir_escape_attrib_html (hsOf "_escape_attrib_html"))),
  (40, tx ps_escape_cdata_c14n sc_escape_cdata_c14n 0 (ir_escape_cdata_c14n (hsOf "_escape_cdata_c14n"))),
  (41, tx ps_escape_attrib_c14n sc_escape_attrib_c14n 0 (ir_escape_attrib_c14n (hsOf "_escape_attrib_c14n"))),
  (42, tx ps_law_cells sc_law_cells 0 ir_law_cells), (44, tx ps_law_spelled sc_law_spelled 0 ir_law_spelled), (50, tx ps_law_meet sc_law_meet 0 ir_law_meet),
  (34, tx ps_prepare_parent sc_prepare_parent 34 ir_prepare_parent)]
noncomputable def tG1 : Nat → Option Gx := tabN [(11, ⟨gps_prepare_parent.map (·.1), gsc_prepare_parent, 62, gs_prepare_parent⟩), (12, ⟨gps_prepare_child.map (·.1), gsc_prepare_child, 62, gs_prepare_child⟩)]
noncomputable def tF2 : Nat → Option Tx := tabN [(43, tx ps_law_written sc_law_written 0 ir_law_written),
  (33, tx ps_prepare_child sc_prepare_child 33 (ir_prepare_child (thenOf (bodyAt "prepare_child")))), (47, tx ps_law_on sc_law_on 0 ir_law_on)]
noncomputable def tF3 : Nat → Option Tx := tabN [(48, tx ps_law_back sc_law_back 0 ir_law_back)]
noncomputable def tL3 : Nat → Option Lx := tabN [(0, ⟨lps_0.map (·.1), lsc_0, lamb_0⟩)]
noncomputable def tL4 : Nat → Option Lx := tabN [(1, ⟨lps_1.map (·.1), lsc_1, lamb_1⟩)]
noncomputable def tF5 : Nat → Option Tx := tabN [(49, tx ps_law_fewest sc_law_fewest 0 ir_law_fewest)]
noncomputable def no {α : Type} (_ : Nat) : Option α := none
noncomputable def phi1 : Phi := phi0.up NN psi3 tF1 no tG1
noncomputable def phi2 : Phi := phi1.up NN psi3 tF2 no no
noncomputable def phi3 : Phi := phi2.up NN psi3 tF3 tL3 no
noncomputable def phi4 : Phi := phi3.up NN psi3 no tL4 no
noncomputable def phi5 : Phi := phi4.up NN psi3 tF5 no no
noncomputable def lawT : Tx := tx ps_law sc_law 51 ir_law
section
variable {w : World} {h₀ : Heap} {mg mb : Str → Option Value}
theorem kinds_of {sc : List (Nat × NameKind)} (h : sc.all (fun q => q.2 == .free || q.2 == .local || q.2 == .cell || q.2 == .globalImplicit) = true) : ∀ x k, sc.lookup x = some k → k = .free ∨ k = .local ∨ k = .cell ∨ k = .globalImplicit := by
  intro x k hk
  have := List.all_eq_true.mp h (x, k) (defOk_of.mem_of_lookup' hk)
  simp only [Bool.or_eq_true, beq_iff_eq] at this
  rcases this with ((h | h) | h) | h
  · exact .inl h
  · exact .inr (.inl h)
  · exact .inr (.inr (.inl h))
  · exact .inr (.inr (.inr h))
theorem nm_nodup {ps : List (Nat × Pos)} (h : (ps.map (·.1)).Nodup) : (ps.map fun q => nmF q.1).Nodup := by
  have : (ps.map fun q => nmF q.1) = (ps.map (·.1)).map nmF := by rw [List.map_map]; rfl
  rw [this]
  exact List.Pairwise.map nmF (fun a b hab e => hab (nmF_inj _ _ e)) h
theorem bind_of {ps : List (Nat × Pos)} (h : (ps.map (·.1)).Nodup) : ∀ (fd : FuncData) (vals : List Value), fd.params = paramsOf nmF ps → fd.defaults = .none → fd.kwdefaults = .none → vals.length = (ps.map (·.1)).length → bindArgs fd ⟨vals, []⟩ = pure (((ps.map (·.1)).map nmF).zip vals) := by
  intro fd vals h1 h2 h3 hl
  have := bind_plain nmF (nm_nodup h) fd vals h1 h2 h3 (by simpa using hl)
  rw [this, List.map_map]; rfl
theorem gx11 : GExp (B3 w h₀ mg mb) 11 ⟨paramsOf nmF gps_prepare_parent, .stmts (pyY nmF gs_prepare_parent), { scOf nmF gsc_prepare_parent with isGenerator := true }, qfF 34, freeOf gsc_prepare_parent⟩ (gps_prepare_parent.map (·.1)) gsc_prepare_parent gs_prepare_parent :=
  ⟨rfl, rfl, rfl, rfl, rfl, rfl, rfl, bind_of (by decide), by decide, kinds_of (by decide), by decide⟩
theorem gx12 : GExp (B3 w h₀ mg mb) 12 ⟨paramsOf nmF gps_prepare_child, .stmts (pyY nmF gs_prepare_child), { scOf nmF gsc_prepare_child with isGenerator := true }, qfF 33, freeOf gsc_prepare_child⟩ (gps_prepare_child.map (·.1)) gsc_prepare_child gs_prepare_child :=
  ⟨rfl, rfl, rfl, rfl, rfl, rfl, rfl, bind_of (by decide), by decide, kinds_of (by decide), by decide⟩
theorem lx0 : LExp (B3 w h₀ mg mb) 0 ⟨paramsOf nmF lps_0, .expr (lamb_0.py nmF), scOf nmF lsc_0, qfF 51, freeOf lsc_0⟩ (lps_0.map (·.1)) lsc_0 lamb_0 :=
  ⟨rfl, rfl, rfl, rfl, rfl, rfl, rfl, bind_of (by decide), by decide, kinds_of (by decide), by decide⟩
theorem lx1 : LExp (B3 w h₀ mg mb) 1 ⟨paramsOf nmF lps_1, .expr (lamb_1.py nmF), scOf nmF lsc_1, qfF 51, freeOf lsc_1⟩ (lps_1.map (·.1)) lsc_1 lamb_1 :=
  ⟨rfl, rfl, rfl, rfl, rfl, rfl, rfl, bind_of (by decide), by decide, kinds_of (by decide), by decide⟩
theorem lo0 : LamOk (B3 w h₀ mg mb) 0 51 lps_0 lamb_0 lsc_0 := ⟨rfl, by show qfF 51 = pqF 51 ++ _; kernel_rfl, 183,181, rfl⟩
theorem lo1 : LamOk (B3 w h₀ mg mb) 1 51 lps_1 lamb_1 lsc_1 := ⟨rfl, by show qfF 51 = pqF 51 ++ _; kernel_rfl, 183,181, rfl⟩
theorem do11 {p : List (Nat × Pos)} (h : p = gps_prepare_parent) : DefSOk (B3 w h₀ mg mb) 59 11 34 p (pyY nmF gs_prepare_parent) gsc_prepare_parent true := by
  subst h; exact ⟨rfl, by show qfF 34 = pqF 34 ++ nmF 59; kernel_rfl, ⟨48,44, rfl⟩, rfl⟩
theorem do12 {p : List (Nat × Pos)} (h : p = gps_prepare_child) : DefSOk (B3 w h₀ mg mb) 59 12 33 p (pyY nmF gs_prepare_child) gsc_prepare_child true := by
  subst h; exact ⟨rfl, by show qfF 33 = pqF 33 ++ nmF 59; kernel_rfl, ⟨41,37, rfl⟩, rfl⟩
end
end Mine
namespace Mine
section
variable {w : World} {h₀ : Heap} {mg mb : Str → Option Value}
theorem lms_of {B : Bs} {l : List Lm} (h : l = []) : LmsOk B l := by subst h; exact lms0
theorem k31 : okS (B3 w h₀ mg mb) ir_is_wildcard_tag := okS_of (by kernel_rfl) (by kernel_rfl)
theorem k37 : okS (B3 w h₀ mg mb) (ir_escape_cdata (hsOf "_escape_cdata")) := okS_of (by kernel_rfl) (by kernel_rfl)
theorem k38 : okS (B3 w h₀ mg mb) (ir_escape_attrib (hsOf "_escape_attrib")) := okS_of (by kernel_rfl) (by kernel_rfl)
theorem k39 : okS (B3 w h₀ mg mb) (ir_escape_attrib_html (hsOf "_escape_attrib_html")) := okS_of (by kernel_rfl) (by kernel_rfl)
theorem k40 : okS (B3 w h₀ mg mb) (ir_escape_cdata_c14n (hsOf "_escape_cdata_c14n")) := okS_of (by kernel_rfl) (by kernel_rfl)
theorem k41 : okS (B3 w h₀ mg mb) (ir_escape_attrib_c14n (hsOf "_escape_attrib_c14n")) := okS_of (by kernel_rfl) (by kernel_rfl)
theorem k42 : okS (B3 w h₀ mg mb) ir_law_cells := okS_of (by kernel_rfl) (by kernel_rfl)
theorem k43 : okS (B3 w h₀ mg mb) ir_law_written := okS_of (by kernel_rfl) (by kernel_rfl)
theorem k44 : okS (B3 w h₀ mg mb) ir_law_spelled := okS_of (by kernel_rfl) (by kernel_rfl)
theorem k47 : okS (B3 w h₀ mg mb) ir_law_on := okS_of (by kernel_rfl) (by kernel_rfl)
theorem k48 : okS (B3 w h₀ mg mb) ir_law_back := okS_of (by kernel_rfl) (by kernel_rfl)
theorem k49 : okS (B3 w h₀ mg mb) ir_law_fewest := okS_of (by kernel_rfl) (by kernel_rfl)
theorem k50 : okS (B3 w h₀ mg mb) ir_law_meet := okS_of (by kernel_rfl) (by kernel_rfl)
theorem lms_one {x : Lm} {l : List Lm} {B : Bs} (h : LamOk B x.id x.f x.ps x.body x.sc) (r : LmsOk B l) : LmsOk B (x :: l) := List.forall_mem_cons.mpr ⟨h, r⟩
theorem k34 : okS (B3 w h₀ mg mb) ir_prepare_parent := ⟨(show lmsS ir_prepare_parent = [] by kernel_rfl) ▸ lms0, (show dfsS ir_prepare_parent = [⟨59,11,34, gps_prepare_parent, pyY nmF gs_prepare_parent, gsc_prepare_parent, true⟩] by kernel_rfl) ▸ List.forall_mem_cons.mpr ⟨do11 rfl, dfs0⟩⟩
theorem k33 (v : List Stmt) : okS (B3 w h₀ mg mb) (ir_prepare_child v) := ⟨(show lmsS (ir_prepare_child v) = [] by kernel_rfl) ▸ lms0, (show dfsS (ir_prepare_child v) = [⟨59,12,33, gps_prepare_child, pyY nmF gs_prepare_child, gsc_prepare_child, true⟩] by kernel_rfl) ▸ List.forall_mem_cons.mpr ⟨do12 rfl, dfs0⟩⟩
theorem kl0 : lamb_0.ok (B3 w h₀ mg mb) := lms_of (l := lamb_0.lms) (by kernel_rfl)
theorem kl1 : lamb_1.ok (B3 w h₀ mg mb) := lms_of (l := lamb_1.lms) (by kernel_rfl)
theorem kg11 : okY (B3 w h₀ mg mb) gs_prepare_parent := lms_of (l := lmsY gs_prepare_parent) (by kernel_rfl)
theorem kg12 : okY (B3 w h₀ mg mb) gs_prepare_child := lms_of (l := lmsY gs_prepare_child) (by kernel_rfl)
theorem k51 : okS (B3 w h₀ mg mb) ir_law := ⟨(show lmsS ir_law = [⟨0,51, lps_0, lamb_0, lsc_0⟩, ⟨1,51, lps_1, lamb_1, lsc_1⟩] by kernel_rfl) ▸ lms_one lo0 (lms_one lo1 lms0), (show dfsS ir_law = [] by kernel_rfl) ▸ dfs0⟩
noncomputable def FOk (B : Bs) (f : Nat) (t : Tx) : Prop := okS B t.ir ∧ ∃ fa fo fd, DefOk B f t.fid t.ps t.sc (pyS B.nm t.ir) fa fo fd
noncomputable def LOk (B : Bs) (id : Nat) (t : Lx) : Prop := t.e.ok B ∧ ∃ L, LExp B id L t.ps t.sc t.e
noncomputable def GOk (B : Bs) (tL : Nat → Option Lx) (Φ : Phi) (id : Nat) (t : Gx) : Prop := okY B t.ss ∧ tL id = none ∧ (∀ all, Φ.lam id all = none) ∧ ∃ L, GExp B id L t.ps t.sc t.ss
theorem ph1 (T : Top3 w h₀ mg mb) : PhiOk (B3 w h₀ mg mb) 32 phi1 :=
  up_ok (ok3 T) (K := 26) (by decide) (base3 T) ((old3 T).mono (by decide)) (tabN_all (P := FOk _) (List.forall_mem_cons.mpr ⟨⟨k31, _, d_is_wildcard_tag T⟩, List.forall_mem_cons.mpr ⟨⟨k37, _, d_escape_cdata T⟩, List.forall_mem_cons.mpr ⟨⟨k38, _, d_escape_attrib T⟩, List.forall_mem_cons.mpr ⟨⟨k39, _, d_escape_attrib_html T⟩, List.forall_mem_cons.mpr ⟨⟨k40, _, d_escape_cdata_c14n T⟩, List.forall_mem_cons.mpr ⟨⟨k41, _, d_escape_attrib_c14n T⟩, List.forall_mem_cons.mpr ⟨⟨k42, _, d_law_cells T⟩, List.forall_mem_cons.mpr ⟨⟨k44, _, d_law_spelled T⟩, List.forall_mem_cons.mpr ⟨⟨k50, _, d_law_meet T⟩, List.forall_mem_cons.mpr ⟨⟨k34, _, d_prepare_parent T⟩, fun _ hq => nomatch hq⟩⟩⟩⟩⟩⟩⟩⟩⟩⟩)) (fun i t h => nomatch h)
    (tabN_all (P := GOk _ no phi0) (List.forall_mem_cons.mpr ⟨⟨kg11, rfl, fun _ => rfl, _, gx11⟩, List.forall_mem_cons.mpr ⟨⟨kg12, rfl, fun _ => rfl, _, gx12⟩, fun _ hq => nomatch hq⟩⟩)) (fun i t h => nomatch h)
theorem ph2 (T : Top3 w h₀ mg mb) : PhiOk (B3 w h₀ mg mb) 38 phi2 :=
  up_ok (ok3 T) (K := 32) (by decide) (ph1 T) ((old3 T).mono (by decide)) (tabN_all (P := FOk _) (List.forall_mem_cons.mpr ⟨⟨k43, _, d_law_written T⟩, List.forall_mem_cons.mpr ⟨⟨k33 _, _, d_prepare_child T⟩, List.forall_mem_cons.mpr ⟨⟨k47, _, d_law_on T⟩, fun _ hq => nomatch hq⟩⟩⟩)) (fun i t h => nomatch h) (fun i t h => nomatch h) (fun i t h => nomatch h)
theorem ph3 (T : Top3 w h₀ mg mb) : PhiOk (B3 w h₀ mg mb) 44 phi3 :=
  up_ok (ok3 T) (K := 38) (by decide) (ph2 T) ((old3 T).mono (by decide)) (tabN_all (P := FOk _) (List.forall_mem_cons.mpr ⟨⟨k48, _, d_law_back T⟩, fun _ hq => nomatch hq⟩)) (tabN_all (P := LOk _) (List.forall_mem_cons.mpr ⟨⟨kl0, _, lx0⟩, fun _ hq => nomatch hq⟩)) (fun i t h => nomatch h)
    (tabN_all (P := fun id _ => ∀ all, phi2.gen id all = none) (List.forall_mem_cons.mpr ⟨fun _ => rfl, fun _ hq => nomatch hq⟩))
theorem ph4 (T : Top3 w h₀ mg mb) : PhiOk (B3 w h₀ mg mb) 50 phi4 :=
  up_ok (ok3 T) (K := 44) (by decide) (ph3 T) ((old3 T).mono (by decide)) (fun f t h => nomatch h) (tabN_all (P := LOk _) (List.forall_mem_cons.mpr ⟨⟨kl1, _, lx1⟩, fun _ hq => nomatch hq⟩)) (fun i t h => nomatch h)
    (tabN_all (P := fun id _ => ∀ all, phi3.gen id all = none) (List.forall_mem_cons.mpr ⟨fun _ => rfl, fun _ hq => nomatch hq⟩))
theorem ph5 (T : Top3 w h₀ mg mb) : PhiOk (B3 w h₀ mg mb) 56 phi5 :=
  up_ok (ok3 T) (K := 50) (by decide) (ph4 T) ((old3 T).mono (by decide)) (tabN_all (P := FOk _) (List.forall_mem_cons.mpr ⟨⟨k49, _, d_law_fewest T⟩, fun _ hq => nomatch hq⟩)) (fun i t h => nomatch h) (fun i t h => nomatch h) (fun i t h => nomatch h)
theorem law_contract (T : Top3 w h₀ mg mb) {args : List D} {d : D} (h : runF phi5 NN lawT args = some d) : Contract (B3 w h₀ mg mb) 58 51 args d := by
  obtain ⟨fo, fd, F⟩ := d_law T
  exact runF_ok (ok3 T) (t := lawT) F k51 (by lia) (ph5 T) h
end
end Mine
namespace Mine
theorem top3 {w : World} {s₀ s₁ : Shared} {mg mb : Str → Option Value} {R : WRecords} {loose : List Str} {XP : (Str → Option Value) → Heap → Prop} {p : Program} (G : Ground p loose R XP w s₀ mg mb s₁.heap) (K : (K3 w).In s₁.heap) (H : ∀ P ∈ [30,37,44,181], s₁.heap.get? P = some (tabObj #[])) : Top3 w s₁.heap mg mb where
  k := K
  g := G.T.g
  b := G.T.b
  nolimit := G.T.nolimit
  builtins := G.T.builtins
  bmain := G.T.bmain
  tabs := fun P h => H P (by rcases h with rfl | rfl | rfl | rfl <;> simp)
  low := G.low
section
variable {w : World} {h₀ : Heap} {mg mb : Str → Option Value}
theorem good3 {s : Shared} (T : Top3 w s.heap mg mb) : Good (B3 w s.heap mg mb) s where
  base := fun b o _ e => e
  size := Nat.le_refl _
  ti := fun f c P h => ⟨#[], T.tabs P (T3 ⟨f, c, h⟩), trivial, fun pos v hv => by cases hv⟩
theorem room3 : Room callerA 58 := ⟨rfl, by decide +kernel, by decide +kernel⟩
theorem old_of {s s' : Shared} (T : Top3 w s.heap mg mb) (e : Eff (B3 w s.heap mg mb) s s') : OldK s.heap s'.heap := by
  have tab : ∀ P, (B3 w s.heap mg mb).T P → isCodeTable s.heap P ∧ ∃ ps, s'.heap.get? P = some (tabObj ps) := fun P t => by
    obtain ⟨f, c, h⟩ := t
    obtain ⟨o, vs, _, _, _, _, _, _, _, h1, h2, h3, h4, _⟩ := codehd3 T h
    obtain ⟨ps, h5, _⟩ := e.ti (good3 T).ti f c P h
    exact ⟨⟨c, o, vs, h1, h2, h3, h4⟩, ps, h5⟩
  refine ⟨fun b o ho => ?_, fun b o ho => ?_⟩
  · by_cases t : (B3 w s.heap mg mb).T b
    · obtain ⟨h1, ps, h2⟩ := tab b t
      have h3 := T.tabs b (T3 t)
      obtain rfl := Option.some.inj (ho.symm.trans h3)
      exact .inr (.inl ⟨h1, rfl, #[], ps, rfl, by rw [h2]; simp⟩)
    · exact .inl (e.keep b o t ho)
  · by_cases t : (B3 w s.heap mg mb).T b
    · obtain ⟨h1, ps, h2⟩ := tab b t
      exact ⟨_, h2⟩
    · exact ⟨o, e.keep b o t ho⟩
theorem rep_ints3 {B : Bs} {P : Params} {h : Heap} {W : Addr → Prop} : ∀ (l : List Int) (vs : List Value), WellAll P h vs (ofPys (l.map PyData.int)) → RepAll B h W (l.map D.int) vs
  | [], vs, r => by
    cases r
    exact RepAll.nil
  | i :: l, vs, r => by
    rw [List.map_cons, ofPys] at r
    cases r with
    | cons h1 h2 =>
      rw [ofPy] at h1
      cases h1
      refine RepAll.cons ?_ (rep_ints3 l _ h2)
      exact ⟨_, rfl⟩
end
theorem post3 (a : List WData) : PySem.Challenge.rw_wb0058_03.row.claim.post a (WData.bool true) a = true := by kernel_rfl
set_option maxHeartbeats 4000000 in
theorem fin3 (plain : ∀ l : List Int, l.length ≤ 63 → runF phi5 NN lawT [.list (l.map .int)] = some (.bool true)) : PySem.Challenge.rw_wb0058_03.Holds := by
  refine hd ?_
  intro w s₀ s₁ mg mb G Y a hmg hg args vals as hpre hlay hrd hwl hlo
  have T := top3 G (km_in_of Y) (km_tabs_of Y)
  clear Y
  refine cps ?_
  intro PP kk
  wrow_args hpre hlay hrd hwl hlo
  rename_i l _ _ _ _ _ _ _ la _ _ _ _ w1 _ _ _ hlen _
  have hlen' : l.length ≤ 63 := by lia
  obtain ⟨fa, fo, fd, h1, h2, h3, h4, h5⟩ := law_contract T (plain l hlen')
  have e1 : mg (PySem.Str.ofString "law") = some (.ref fa) := h1
  have e2 : mg (PySem.Str.ofString "law") = some (.ref a) := hmg
  rw [e2] at e1
  cases e1
  have nTl : ¬ (B3 w s₁.heap mg mb).T la := fun t => by
    have h6 := T.tabs la (T3 t)
    rw [ofPy] at w1
    cases w1 with
    | list h7 h8 => rw [h7] at h6; exact nomatch h6
  have rl : Rep (B3 w s₁.heap mg mb) s₁.heap (B3 w s₁.heap mg mb).T (.list (l.map .int)) (.ref la) := by
    rw [ofPy] at w1
    cases w1 with
    | list h7 h8 =>
      exact ⟨la, _, _, rfl, nTl, h7, by simp only [List.length_map]; unfold lim; lia, by rw [List.toList_toArray]; exact rep_ints3 l _ h8⟩
  refine kk ?_
  clear kk PP
  refine wpAny_call (codeAny_mono (h5 callerA s₁ (B3 w s₁.heap mg mb).T [.ref la] (good3 T) room3 (fun b t => t) (ok3 T).tilow (RepAll.cons rl RepAll.nil)) ?_)
  rintro r s' ⟨v, rfl, e, rv⟩
  simp only [Rep] at rv
  subst rv
  refine ⟨.inl ⟨.bool true, .bool true, [], rfl, fun _ => rfl, .bool true, ?_, fun _ => ⟨List.nodup_nil, fun b hb => by cases hb⟩⟩, old_of T e, e.os, e.bare (by rw [hg]; exact AllBare.empty)⟩
  exact post3 _
end Mine
namespace Mine
section
variable {Φ : Phi} {Γ : Kinds} {ρ : REnv} {N : Nat} {d x y z : D} {p q r : Pos}
theorem e_name {n : Nat} (h : ρ n = some (.fz d)) : ev Φ Γ ρ (.name n p) = some (.d d) := by rw [x_ev_name, h]
theorem e_nameS {n : Nat} (h : ρ n = some (.sealed d)) : ev Φ Γ ρ (.name n p) = some (.d d) := by rw [x_ev_name, h]
theorem e_nameO {n : Nat} {l : List D} (h : ρ n = some (.own l)) : ev Φ Γ ρ (.name n p) = some (.own l) := by rw [x_ev_name, h]
theorem e_int {i : Int} : ev Φ Γ ρ (.int i p) = some (.d (.int i)) := by rw [x_ev_int]
theorem e_nil : ev Φ Γ ρ (.nil p) = some (.d .nil) := by rw [x_ev_nil]
theorem e_str {l : List Nat} (h : l.length ≤ lim) : ev Φ Γ ρ (.str l p) = some (.d (.str l)) := by rw [x_ev_str, mkS, if_pos h]; rfl
theorem e_neg {i : Int} : ev Φ Γ ρ (.neg i p q) = some (.d (.int (-i))) := by rw [x_ev_neg]
theorem e_bin {a b : E} {op : Operator} (h1 : ev Φ Γ ρ a = some (.d x)) (h2 : ev Φ Γ ρ b = some (.d y)) (h3 : D.bin op x y = some z) : ev Φ Γ ρ (.bin a op b p) = some (.d z) := by
  rw [x_ev_bin, h1, h2]; simp [R.asB, h3]
theorem e_binO {a b : E} {op : Operator} {r : R} {s : R} (h1 : ev Φ Γ ρ a = some r) (k1 : r.asB = some x) (h2 : ev Φ Γ ρ b = some s) (k2 : s.asB = some y) (h3 : D.bin op x y = some z) : ev Φ Γ ρ (.bin a op b p) = some (.d z) := by
  rw [x_ev_bin, h1, h2]; simp [k1, k2, h3]
theorem e_cmp {a b : E} {op : CmpOp} {c : Bool} (h1 : ev Φ Γ ρ a = some (.d x)) (h2 : ev Φ Γ ρ b = some (.d y)) (h3 : D.cmp op x y = some c) : ev Φ Γ ρ (.cmp a op b p) = some (.d (.bool c)) := by
  rw [x_ev_cmp, h1, h2]; simp [R.asB, h3]
theorem t_cmp {a b : E} {op : CmpOp} {c : Bool} (h1 : ev Φ Γ ρ a = some (.d x)) (h2 : ev Φ Γ ρ b = some (.d y)) (h3 : D.cmp op x y = some c) : evT Φ Γ ρ (.cmp a op b p) = some c := by
  rw [x_evT_cmp, h1, h2]; simp [R.asB, h3]
theorem t_cmp2 {a b e : E} {o1 o2 : CmpOp} {c1 c2 : Bool} (h1 : ev Φ Γ ρ a = some (.d x)) (h2 : ev Φ Γ ρ b = some (.d y)) (h3 : ev Φ Γ ρ e = some (.d z)) (k1 : D.cmp o1 x y = some c1) (k2 : D.cmp o2 y z = some c2) : evT Φ Γ ρ (.cmp2 a o1 b o2 e p) = some (c1 && c2) := by
  rw [x_evT_cmp2, h1, h2, h3]; cases c1 <;> simp [R.asB, k1, k2]
theorem e_idx {a i : E} (h1 : ev Φ Γ ρ a = some (.d x)) (h2 : ev Φ Γ ρ i = some (.d y)) (h3 : D.item x y = some z) : ev Φ Γ ρ (.idx a i p) = some (.d z) := by
  rw [x_ev_idx, h1, h2]; simp [R.asB, R.asD, h3]
theorem e_slc {a : E} {lo hi : Option E} {l h : Option D} (h1 : ev Φ Γ ρ a = some (.d x)) (h2 : evO Φ Γ ρ lo = some l) (h3 : evO Φ Γ ρ hi = some h) (h4 : D.slice x l h = some z) : ev Φ Γ ρ (.slc a lo hi p q) = some (.d z) := by
  rw [x_ev_slc, h1, h2, h3]; simp [R.asB, h4]
theorem o_none : evO Φ Γ ρ none = some none := by rw [x_evO_none]
theorem o_some {e : E} (h : ev Φ Γ ρ e = some (.d x)) : evO Φ Γ ρ (some e) = some (some x) := by rw [x_evO_some, h]; rfl
theorem e_list {es : List E} {l : List D} (h1 : evL Φ Γ ρ es = some l) (h2 : l.length ≤ lim) : ev Φ Γ ρ (.list es p) = some (.d (.list l)) := by
  rw [x_ev_list, h1]; simp [mkL, h2]
theorem e_tup {es : List E} {l : List D} {k : Nat} (h1 : evL Φ Γ ρ es = some l) (h2 : l.length ≤ lim) : ev Φ Γ ρ (.tup es k p) = some (.d (.tup l)) := by
  rw [x_ev_tup, h1]; simp [h2]
theorem l_nil : evL Φ Γ ρ [] = some [] := by rw [x_evL_nil]
theorem l_cons {e : E} {r : List E} {l : List D} (h1 : ev Φ Γ ρ e = some (.d x)) (h2 : evL Φ Γ ρ r = some l) : evL Φ Γ ρ (e :: r) = some (x :: l) := by
  rw [x_evL_cons, h1, h2]; rfl
theorem e_attr {a : E} {f : Nat} (hn : a.isName = true) (h1 : ev Φ Γ ρ a = some (.d x)) (h2 : D.fld f x = some z) : ev Φ Γ ρ (.attr a f p) = some (.d z) := by
  rw [x_ev_attr, if_pos hn, h1]; simp [R.asD, h2]
theorem e_call {f : Nat} {es : List E} {l : List D} (h1 : evL Φ Γ ρ es = some l) (hg : Γ f = some .globalImplicit) (h2 : Φ.call f l = some d) : ev Φ Γ ρ (.call f es p q) = some (.d d) := by
  rw [x_ev_call, h1]; simp [hg, h2]
theorem t_call {f : Nat} {es : List E} {l : List D} {b : Bool} (h1 : evL Φ Γ ρ es = some l) (hg : Γ f = some .globalImplicit) (h2 : Φ.call f l = some (.bool b)) : evT Φ Γ ρ (.call f es p q) = some b := by
  rw [x_evT_call, h1]; simp [hg, h2]
theorem e_range {e : E} {n : Nat} (h1 : ev Φ Γ ρ e = some (.d (.int (n : Int)))) (hg : Γ 5 = some .globalImplicit) (hn : n ≤ lim) : ev Φ Γ ρ (.blt 5 [e] p q) = some (.it ((List.range n).map fun (i : Nat) => .int (i : Int))) := by
  rw [x_ev_blt5, if_pos hg, h1]
  have : (0 : Int) ≤ (n : Int) ∧ (n : Int) ≤ (lim : Int) := ⟨by lia, by lia⟩
  simp only [R.asD, Option.bind_eq_bind, Option.bind_some]
  rw [if_pos this]; rfl
theorem e_lst {e : E} {l : List D} (h1 : ev Φ Γ ρ e = some (.it l)) (hg : Γ 4 = some .globalImplicit) (hl : l.length ≤ lim) : ev Φ Γ ρ (.blt 4 [e] p q) = some (.d (.list l)) := by
  rw [x_ev_blt4, if_pos hg, h1]
  simp [mkL, hl]
theorem e_blt {f : Nat} {e : E} (h1 : ev Φ Γ ρ e = some (.d x)) (hg : Γ f = some .globalImplicit) (hf : f ≠ 4 ∧ f ≠ 5) (h2 : D.builtin f [x] = some z) : ev Φ Γ ρ (.blt f [e] p q) = some (.d z) := by
  rw [x_ev_bltg hf.1 hf.2, if_pos hg, h1]
  simp [R.asB, h2]
theorem e_meth {a e : E} {m : Nat} (hb : (a.isBase && p.endLine == q.line) = true) (h1 : ev Φ Γ ρ a = some (.d x)) (h2 : ev Φ Γ ρ e = some (.d y)) (h3 : D.method x m [y] = some z) : ev Φ Γ ρ (.meth a m [e] p q) = some (.d z) := by
  rw [x_ev_meth1, if_pos hb, h1, h2]; simp [R.asD, h3]
theorem e_ife {t a b : E} {c : Bool} {r : R} (h1 : evT Φ Γ ρ t = some c) (h2 : (if c then ev Φ Γ ρ a else ev Φ Γ ρ b) = some r) : ev Φ Γ ρ (.ife t a b p) = some r := by
  rw [x_ev_ife, h1]; exact h2
theorem b_or {es : List E} {e : E} {a b : Bool} (h1 : evT Φ Γ ρ e = some a) (h2 : evB Φ Γ ρ .Or es = some b) : evB Φ Γ ρ .Or (e :: es) = some (a || b) := by
  rw [x_evB_cons, h1]; cases a <;> simp [h2]
theorem b_or0 : evB Φ Γ ρ .Or [] = some false := by rw [x_evB_nil]; rfl
theorem t_bop {op : BoolOp} {es : List E} {c : Bool} (h : evB Φ Γ ρ op es = some c) : evT Φ Γ ρ (.bop op es p) = some c := by rw [x_evT_bop, h]
theorem e_or {a b : E} {c1 c2 : Bool} (h1 : ev Φ Γ ρ a = some (.d (.bool c1))) (h2 : ev Φ Γ ρ b = some (.d (.bool c2))) : ev Φ Γ ρ (.bop .Or [a, b] p) = some (.d (.bool (c1 || c2))) := by
  rw [x_ev_bop2, h1]; cases c1 <;> simp [R.asD, h2]
theorem evLoop_of {α β : Type} {sc : List (Nat × NameKind)} {n : Nat} {tp : Pos} {body : REnv → Option (List β)} {g : α → List β} {c : α → D} (hf : (Tg.name n tp).fit sc ρ = true) : ∀ l : List α, (∀ a ∈ l, body (ρ.set n (.fz (c a))) = some (g a)) → evLoop sc (.name n tp) body ρ (l.map c) = some (l.flatMap g)
  | [], _ => rfl
  | a :: l, h => by
    rw [List.map_cons, x_evLoop_cons, if_pos hf]
    simp only [bindT, Option.bind_eq_bind, Option.bind_some]
    rw [h a (List.mem_cons_self ..), evLoop_of hf l fun b hb => h b (List.mem_cons_of_mem _ hb)]
    simp
theorem flat_one {α β : Type} (k : α → β) (l : List α) : (l.flatMap fun a => [k a]) = l.map k := by
  induction l with
  | nil => rfl
  | cons a l ih => rw [List.flatMap_cons, ih]; rfl
theorem flat_if {α β : Type} (b : α → Bool) (k : α → β) (l : List α) : (l.flatMap fun a => if b a then [k a] else []) = (l.filter b).map k := by
  induction l with
  | nil => rfl
  | cons a l ih =>
    rw [List.flatMap_cons, ih, List.filter_cons]
    cases b a <;> rfl
theorem e_comp {α : Type} {elt it : E} {n : Nat} {tp : Pos} {sc : List (Nat × NameKind)} {r : R} {l : List α} {c k : α → D} (ho : scOk Γ sc = true) (h1 : ev Φ Γ ρ it = some r) (h2 : r.asI = some (l.map c)) (hf : (Tg.name n tp).fit sc (ρ.cut sc) = true)
    (h : ∀ a ∈ l, ev Φ (kindsIn Γ sc) ((ρ.cut sc).set n (.fz (c a))) elt = some (.d (k a))) (hl : l.length ≤ lim) : ev Φ Γ ρ (.comp elt [.mk (.name n tp) it []] sc p) = some (.d (.list (l.map k))) := by
  rw [x_ev_comp1, if_pos ho, h1]
  simp only [Option.bind_eq_bind, Option.bind_some, h2]
  rw [evLoop_of (g := fun a => [k a]) hf l fun a ha => ?_]
  · rw [flat_one]; simp [mkL, hl]
  · simp [x_evC_nil, x_evG_nil, h a ha, R.asD]
theorem e_compIf {α : Type} {elt it t : E} {n : Nat} {tp : Pos} {sc : List (Nat × NameKind)} {r : R} {l : List α} {c k : α → D} {b : α → Bool} (ho : scOk Γ sc = true) (h1 : ev Φ Γ ρ it = some r) (h2 : r.asI = some (l.map c)) (hf : (Tg.name n tp).fit sc (ρ.cut sc) = true)
    (ht : ∀ a ∈ l, evT Φ (kindsIn Γ sc) ((ρ.cut sc).set n (.fz (c a))) t = some (b a)) (h : ∀ a ∈ l, b a = true → ev Φ (kindsIn Γ sc) ((ρ.cut sc).set n (.fz (c a))) elt = some (.d (k a))) (hl : l.length ≤ lim) :
    ev Φ Γ ρ (.comp elt [.mk (.name n tp) it [t]] sc p) = some (.d (.list ((l.filter b).map k))) := by
  rw [x_ev_comp1, if_pos ho, h1]
  simp only [Option.bind_eq_bind, Option.bind_some, h2]
  rw [evLoop_of (g := fun a => if b a then [k a] else []) hf l fun a ha => ?_]
  · have := List.length_filter_le b l
    rw [flat_if]; simp [mkL]; lia
  · simp only [x_evC_cons, x_evC_nil, ht a ha, Option.bind_eq_bind, Option.bind_some]
    cases hb : b a
    · simp
    · simp [x_evG_nil, h a ha hb, R.asD]
theorem s_asg {n : Nat} {e : E} (h : ev Φ Γ ρ e = some (.d d)) (hm : Γ.mine ρ n = true) (he : e.isDc = false) : evSt Φ N Γ ρ (.asg n e p q) = some (.nx (ρ.set n (.fz d))) := by
  rw [x_evSt_asg, h]; simp [R.asD, hm, he]
theorem s_own {n : Nat} {es : List E} {l : List D} (h : evL Φ Γ ρ es = some l) (hm : Γ.mine ρ n = true) (hl : l.length ≤ lim) : evSt Φ N Γ ρ (.own n (.list es r) p q) = some (.nx (ρ.set n (.own l))) := by
  rw [x_evSt_own]; simp [h, hm, hl]
theorem s_asgT {xs : List (Nat × Pos)} {k k' : Nat} {es : List E} {l : List D} {p q r : Pos} (h : evL Φ Γ ρ es = some l) (h1 : xs.length = l.length) (h2 : es.any E.notConst = true) (h3 : (xs.map (·.1)).Nodup) (h4 : xs.all (fun q => Γ.mine ρ q.1) = true) (hl : l.length ≤ lim) : evSt Φ N Γ ρ (.asgT xs k (.tup es k' r) p q) = some (.nx (setAll xs l ρ)) := by
  rw [x_evSt_asgT]; simp only [h, Option.bind_eq_bind, Option.bind_some]; rw [if_pos ⟨h1, h2, h3, h4, hl⟩]
theorem s_app {n : Nat} {e : E} {l : List D} {q1 q2 q3 q4 : Pos} (hn : ρ n = some (.own l)) (h : ev Φ Γ ρ e = some (.d d)) (hq : (q2.endLine == q3.line) = true) (hl : l.length < lim) : evSt Φ N Γ ρ (.app n e q1 q2 q3 q4) = some (.nx (ρ.set n (.own (l ++ [d])))) := by
  rw [x_evSt_app, hn]; simp only; rw [if_pos hq, h]; simp [R.asD, hl]
theorem s_seal {n : Nat} (h : ρ n = some (.fz d)) (hc : Γ n = some .cell) : evSt Φ N Γ ρ (.seal n) = some (.nx (ρ.set n (.sealed d))) := by
  rw [x_evSt_seal, h]; simp [hc]
theorem s_frz {n : Nat} {l : List D} (h : ρ n = some (.own l)) : evSt Φ N Γ ρ (.frz n) = some (.nx (ρ.set n (.fz (.list l)))) := by
  rw [x_evSt_frz, h]
theorem s_if {e : E} {a b : List St} {c : Bool} {o : Out} (h : evT Φ Γ ρ e = some c) (h2 : (if c then evSs Φ N Γ ρ a else evSs Φ N Γ ρ b) = some o) : evSt Φ N Γ ρ (.ifS e a b p) = some o := by
  rw [x_evSt_ifS, h]; exact h2
theorem s_ifT {e : E} {a b : List St} {o : Out} (h : evT Φ Γ ρ e = some true) (h2 : evSs Φ N Γ ρ a = some o) : evSt Φ N Γ ρ (.ifS e a b p) = some o := s_if h h2
theorem s_ifF {e : E} {a b : List St} {o : Out} (h : evT Φ Γ ρ e = some false) (h2 : evSs Φ N Γ ρ b = some o) : evSt Φ N Γ ρ (.ifS e a b p) = some o := s_if h h2
theorem s_ret {e : E} (h : ev Φ Γ ρ e = some (.d d)) : evSt Φ N Γ ρ (.ret e p) = some (.rt d) := by
  rw [x_evSt_ret, h]; rfl
theorem s_for {t : Tg} {it : E} {body : List St} {r : R} {l : List D} {o : Out} (h1 : ev Φ Γ ρ it = some r) (h2 : r.asI = some l) (h3 : evFor Γ t (fun ρ => evSs Φ N Γ ρ body) ρ l = some o) : evSt Φ N Γ ρ (.forS t it body p) = some o := by
  rw [x_evSt_forS, h1]; simp [h2, h3]
theorem ss_end : evSs Φ N Γ ρ [] = some (.nx ρ) := by rw [x_evSs_nil]
theorem ss_nx {ρ' : REnv} {s : St} {r : List St} {o : Option Out} (h : evSt Φ N Γ ρ s = some (.nx ρ')) (h2 : evSs Φ N Γ ρ' r = o) : evSs Φ N Γ ρ (s :: r) = o := by
  rw [x_evSs_cons, h]; exact h2
theorem ss_rt {s : St} {r : List St} (h : evSt Φ N Γ ρ s = some (.rt d)) : evSs Φ N Γ ρ (s :: r) = some (.rt d) := by
  rw [x_evSs_cons, h]; rfl
theorem f_nil {t : Tg} {body : REnv → Option Out} : evFor Γ t body ρ [] = some (.nx ρ) := by rw [x_evFor_nil]
theorem f_cons {n : Nat} {tp : Pos} {body : REnv → Option Out} {ρ' : REnv} {l : List D} {o : Option Out} (hm : Γ.mine ρ n = true) (h1 : body (ρ.set n (.fz d)) = some (.nx ρ')) (h2 : evFor Γ (.name n tp) body ρ' l = o) : evFor Γ (.name n tp) body ρ (d :: l) = o := by
  rw [x_evFor_cons, bindS, if_pos hm]; simp only [Option.bind_eq_bind, Option.bind_some, h1]; exact h2
theorem c_eqI {a b : Int} : D.cmp .Eq (.int a) (.int b) = some (a == b) := by
  show (do let p ← D.pd 5 (.int a); let q ← D.pd 5 (.int b); some (PyData.eqv p q)) = _
  simp [D.pd, PyData.eqv]
theorem c_eqS {a b : List Nat} : D.cmp .Eq (.str a) (.str b) = some (a == b) := rfl
end
end Mine
namespace Mine
noncomputable def rp (c : Nat) (z : List Nat) (l : List Nat) : List Nat := l.flatMap fun k => if k = c then z else [k]
theorem rp_free (c : Nat) (z : List Nat) : ∀ l : List Nat, c ∉ l → rp c z l = l
  | [], _ => rfl
  | k :: r, h => by
    have h1 : ¬ k = c := fun e => h (e ▸ List.mem_cons_self ..)
    have ih := rp_free c z r fun m => h (List.mem_cons_of_mem _ m)
    unfold rp at ih ⊢
    rw [List.flatMap_cons, if_neg h1, ih]; rfl
theorem rp_append (c : Nat) (z a b : List Nat) : rp c z (a ++ b) = rp c z a ++ rp c z b := List.flatMap_append
theorem rp_join (c : Nat) (z : List Nat) : ∀ parts : List Str, (∀ p ∈ parts, c ∉ p.cps.toList) → rp c z (Str.join ⟨#[c]⟩ parts).cps.toList = (Str.join ⟨z.toArray⟩ parts).cps.toList
  | [], _ => rfl
  | [p], h => rp_free c z _ (h p (List.mem_singleton.mpr rfl))
  | p :: q :: r, h => by
    have ih := rp_join c z (q :: r) fun a ha => h a (List.mem_cons_of_mem _ ha)
    show rp c z (p ++ ⟨#[c]⟩ ++ Str.join ⟨#[c]⟩ (q :: r)).cps.toList = (p ++ ⟨z.toArray⟩ ++ Str.join ⟨z.toArray⟩ (q :: r)).cps.toList
    simp only [Str.cps_append, Array.toList_append]
    rw [rp_append, rp_append, ih, rp_free c z _ (h p (List.mem_cons_self ..))]
    show p.cps.toList ++ rp c z [c] ++ _ = _
    simp [rp]
theorem subL_one (t z : List Nat) (c : Nat) : subL t [c] z = rp c z t := by
  show (Txt.replace ⟨t.toArray⟩ ⟨#[c]⟩ ⟨z.toArray⟩).cps.toList = rp c z t
  rw [StrLaws.replace_one, ← rp_join c z _ (StrLaws.split_free _ c), StrLaws.join_split]
theorem contains_one (t : List Nat) (c : Nat) : Txt.contains ⟨t.toArray⟩ ⟨[c].toArray⟩ = decide (c ∈ t) := by
  have := StrLaws.found_one ⟨t.toArray⟩ c
  simpa [Txt.contains] using this
noncomputable def tabC (m : List (Nat × List Nat)) (c : Nat) : List Nat := (m.lookup c).getD [c]
noncomputable def tabOk (m : List (Nat × List Nat)) (c : Nat) : Bool := (m.lookup c).isNone && m.all fun q => !q.2.contains c
theorem mem_of_lk {α β : Type} [BEq α] [LawfulBEq α] : ∀ {l : List (α × β)} {a : α} {b : β}, l.lookup a = some b → (a, b) ∈ l
  | (x, y) :: l, a, b, h => by
    rw [List.lookup_cons] at h
    split at h
    · rename_i e; obtain rfl := Option.some.inj h; rw [beq_iff_eq] at e; subst e; exact List.mem_cons_self ..
    · exact List.mem_cons_of_mem _ (mem_of_lk h)
theorem lk_append {α β : Type} [BEq α] [LawfulBEq α] (a : α) : ∀ (l m : List (α × β)), (l ++ m).lookup a = (l.lookup a).or (m.lookup a)
  | [], m => by simp
  | (x, y) :: l, m => by
    rw [List.cons_append, List.lookup_cons, List.lookup_cons]
    split
    · simp
    · exact lk_append a l m
theorem tab_step {m : List (Nat × List Nat)} {c : Nat} {z w : List Nat} (h : tabOk m c = true) : rp c z (w.flatMap (tabC m)) = w.flatMap (tabC (m ++ [(c, z)])) := by
  unfold tabOk at h
  rw [Bool.and_eq_true] at h
  obtain ⟨h1, h2⟩ := h
  have h1 : m.lookup c = none := by simpa using h1
  unfold rp
  rw [List.flatMap_assoc]
  congr 1
  funext k
  show rp c z (tabC m k) = _
  unfold tabC
  rw [lk_append]
  cases hk : m.lookup k with
  | some v =>
    have := List.all_eq_true.mp h2 _ (mem_of_lk hk)
    exact rp_free c z v (by simpa using this)
  | none =>
    simp only [Option.none_or, Option.getD_none]
    by_cases e : k = c
    · subst e; simp [rp, List.lookup]
    · have : (k == c) = false := by simpa using e
      simp [rp, List.lookup, this, e]
theorem tab_len {m : List (Nat × List Nat)} (h : m.all (fun q => decide (q.2.length ≤ 6)) = true) (w : List Nat) : (w.flatMap (tabC m)).length ≤ 6 * w.length := by
  induction w with
  | nil => simp
  | cons k w ih =>
    have : (tabC m k).length ≤ 6 := by
      unfold tabC
      cases hk : m.lookup k with
      | none => simp
      | some v => simpa using List.all_eq_true.mp h _ (mem_of_lk hk)
    simp only [List.flatMap_cons, List.length_append, List.length_cons]
    lia
theorem set_same {ρ : REnv} {x : Nat} {e : Ent} (h : ρ x = some e) : ρ.set x e = ρ := by
  funext y
  unfold REnv.set
  by_cases hy : y = x
  · subst hy; rw [if_pos rfl, h]
  · rw [if_neg hy]
theorem sub_run {Φ : Phi} {N : Nat} {Γ : Kinds} {ρ : REnv} {x c : Nat} {z w : List Nat} {m : List (Nat × List Nat)} {q1 q2 q3 q4 q5 q6 q7 q8 q9 q10 q11 : Pos} (hm : (Γ x == some .local || Γ x == some .cell) = true) (hx : ρ x = some (.fz (.str (w.flatMap (tabC m))))) (hw : w.length ≤ 100)
    (h1 : tabOk m c = true) (h2 : m.all (fun q => decide (q.2.length ≤ 6)) = true) (h3 : z.length ≤ 6) (hz : [c] ≠ z) (hq : q6.endLine = q9.line) :
    evSt Φ N Γ ρ (.sub x [c] z q1 q2 q3 q4 q5 q6 q7 q8 q9 q10 q11) = some (.nx (ρ.set x (.fz (.str (w.flatMap (tabC (m ++ [(c, z)]))))))) := by
  rw [x_evSt_sub]
  rw [hx]
  have hmine : Γ.mine ρ x = true := by unfold Kinds.mine; rw [hm, hx]; rfl
  have l1 := tab_len h2 w
  have l2 : (w.flatMap (tabC (m ++ [(c, z)]))).length ≤ 6 * w.length := tab_len (by rw [List.all_append, h2]; simpa using h3) w
  have e1 : subL (w.flatMap (tabC m)) [c] z = w.flatMap (tabC (m ++ [(c, z)])) := by rw [subL_one, tab_step h1]
  simp only
  have h4 : (w.flatMap (tabC m)).length + ((w.flatMap (tabC m)).length + 1) * z.length ≤ 16777216 := by
    have := Nat.mul_le_mul (show (w.flatMap (tabC m)).length + 1 ≤ 601 by lia) h3
    lia
  have h5 : (subL (w.flatMap (tabC m)) [c] z).length ≤ lim := by rw [e1]; unfold lim; lia
  rw [if_pos ⟨hmine, hz, h4, h5, hq⟩]
  · rw [e1, contains_one]
    by_cases hc : c ∈ w.flatMap (tabC m)
    · rw [decide_eq_true hc, if_pos rfl]
    · rw [decide_eq_false hc, if_neg Bool.false_ne_true]
      congr 2
      rw [← tab_step h1, rp_free c z _ hc]
      exact (set_same hx).symm
noncomputable abbrev amp : List Nat := [38,97,109,112,59]
noncomputable abbrev alt : List Nat := [38,108,116,59]
noncomputable abbrev agt : List Nat := [38,103,116,59]
noncomputable abbrev aqu : List Nat := [38,113,117,111,116,59]
noncomputable def m0 : List (Nat × List Nat) := [(38, amp), (60, alt), (62, agt)]
noncomputable def m1 : List (Nat × List Nat) := [(38, amp), (60, alt), (62, agt), (34, aqu), (13, [38,35,49,51,59]), (10, [38,35,49,48,59]), (9, [38,35,48,57,59])]
noncomputable def m2 : List (Nat × List Nat) := [(38, amp), (62, agt), (34, aqu)]
noncomputable def m3 : List (Nat × List Nat) := [(38, amp), (60, alt), (62, agt), (13, [38,35,120,68,59])]
noncomputable def m4 : List (Nat × List Nat) := [(38, amp), (60, alt), (34, aqu), (9, [38,35,120,57,59]), (10, [38,35,120,65,59]), (13, [38,35,120,68,59])]
noncomputable def mk5 (k : Nat) : List (Nat × List Nat) := if k = 0 then m0 else if k = 1 then m1 else if k = 2 then m2 else if k = 3 then m3 else m4
theorem flat_nil (w : List Nat) : w.flatMap (tabC []) = w := by
  have : tabC [] = fun c => [c] := by funext c; rfl
  rw [this]
  induction w with
  | nil => rfl
  | cons a w ih => rw [List.flatMap_cons, ih]; rfl
theorem hs_ne {hs : List ExceptHandler} (h : hs.isEmpty = false) {Φ : Phi} {N : Nat} {Γ : Kinds} {ρ : REnv} {b : List St} {p : Pos} : evSt Φ N Γ ρ (.tryS b hs p) = evSs Φ N Γ ρ b := by
  rw [x_evSt_tryS, h]; rfl
theorem esc_end {Φ : Phi} {N : Nat} {Γ : Kinds} {ρ : REnv} {d : D} {p q : Pos} : evSs Φ N Γ (ρ.set 66 (.fz d)) [.ret (.name 66 p) q] = some (.rt d) := by
  refine ss_rt ?_
  rw [x_evSt_ret, x_ev_name]; simp [REnv.set, R.asD]
theorem try_end {Φ : Phi} {N : Nat} {Γ : Kinds} {ρ : REnv} {d : D} {hs : List ExceptHandler} {b : List St} {p : Pos} (hh : hs.isEmpty = false) (h : evSs Φ N Γ ρ b = some (.rt d)) : evSs Φ N Γ ρ [.tryS b hs p] = some (.rt d) := by
  refine ss_rt ?_
  rw [hs_ne hh, h]
theorem runF_of {Φ : Phi} {N : Nat} {t : Tx} {args : List D} {d : D} (hl : t.ps.length = args.length) (h : evSs Φ N (kindsF t.sc t.fid) (setArgs t.ps args fun _ => none) t.ir = some (.rt d)) : runF Φ N t args = some d := by
  unfold runF
  rw [if_pos hl, h]
theorem call_of {Φ' Φ : Phi} {N : Nat} {Ψ : Nat → D → Option D} {tF : Nat → Option Tx} {tL : Nat → Option Lx} {tG : Nat → Option Gx} {f : Nat} {args : List D} {d : D} (t : Tx) (e : Φ' = Φ.up N Ψ tF tL tG) (ht : tF f = some t) (hl : t.ps.length = args.length) (h : evSs Φ N (kindsF t.sc t.fid) (setArgs t.ps args fun _ => none) t.ir = some (.rt d)) : Φ'.call f args = some d := by
  subst e
  show (match tF f with | some t => runF Φ N t args | none => Φ.call f args) = _
  rw [ht]
  exact runF_of hl h
theorem cdata_run {w : List Nat} (hw : w.length ≤ 100) : phi1.call 37 [.str w] = some (.str (w.flatMap (tabC m0))) :=
  call_of (tx ps_escape_cdata sc_escape_cdata 0 (ir_escape_cdata (hsOf "_escape_cdata"))) (Φ := phi0) rfl rfl rfl (try_end (by rfl) (by (repeat (refine ss_nx (sub_run (by rfl) (by first | rfl | (show some (Ent.fz (D.str _)) = _; rw [flat_nil])) ‹_› (by decide) (by decide) (by decide) (by decide) (by rfl)) ?_)); exact esc_end))
theorem attrib_run {w : List Nat} (hw : w.length ≤ 100) : phi1.call 38 [.str w] = some (.str (w.flatMap (tabC m1))) :=
  call_of (tx ps_escape_attrib sc_escape_attrib 0 (ir_escape_attrib (hsOf "_escape_attrib"))) (Φ := phi0) rfl rfl rfl (try_end (by rfl) (by (repeat (refine ss_nx (sub_run (by rfl) (by first | rfl | (show some (Ent.fz (D.str _)) = _; rw [flat_nil])) ‹_› (by decide) (by decide) (by decide) (by decide) (by rfl)) ?_)); exact esc_end))
theorem html_run {w : List Nat} (hw : w.length ≤ 100) : phi1.call 39 [.str w] = some (.str (w.flatMap (tabC m2))) :=
  call_of (tx ps_escape_attrib_html sc_escape_attrib_html 0 (ir_escape_attrib_html (hsOf "_escape_attrib_html"))) (Φ := phi0) rfl rfl rfl (try_end (by rfl) (by (repeat (refine ss_nx (sub_run (by rfl) (by first | rfl | (show some (Ent.fz (D.str _)) = _; rw [flat_nil])) ‹_› (by decide) (by decide) (by decide) (by decide) (by rfl)) ?_)); exact esc_end))
theorem cc14_run {w : List Nat} (hw : w.length ≤ 100) : phi1.call 40 [.str w] = some (.str (w.flatMap (tabC m3))) :=
  call_of (tx ps_escape_cdata_c14n sc_escape_cdata_c14n 0 (ir_escape_cdata_c14n (hsOf "_escape_cdata_c14n"))) (Φ := phi0) rfl rfl rfl (try_end (by rfl) (by (repeat (refine ss_nx (sub_run (by rfl) (by first | rfl | (show some (Ent.fz (D.str _)) = _; rw [flat_nil])) ‹_› (by decide) (by decide) (by decide) (by decide) (by rfl)) ?_)); exact esc_end))
theorem ac14_run {w : List Nat} (hw : w.length ≤ 100) : phi1.call 41 [.str w] = some (.str (w.flatMap (tabC m4))) :=
  call_of (tx ps_escape_attrib_c14n sc_escape_attrib_c14n 0 (ir_escape_attrib_c14n (hsOf "_escape_attrib_c14n"))) (Φ := phi0) rfl rfl rfl (try_end (by rfl) (by (repeat (refine ss_nx (sub_run (by rfl) (by first | rfl | (show some (Ent.fz (D.str _)) = _; rw [flat_nil])) ‹_› (by decide) (by decide) (by decide) (by decide) (by rfl)) ?_)); exact esc_end))
noncomputable def sg (k c : Nat) : List Nat := trL gSp (tabC (mk5 k) c)
theorem trL_flat (g : Nat → Option (List Nat)) (f : Nat → List Nat) (w : List Nat) : trL g (w.flatMap f) = w.flatMap fun c => trL g (f c) := by
  unfold trL; rw [List.flatMap_assoc]
theorem trL_len (l : List Nat) : (trL gSp l).length ≤ 2 * l.length := trL_le (fun c y h => by unfold gSp at h; split at h <;> cases h; rfl) l
theorem escape_run {w : List Nat} {m : List (Nat × List Nat)} (hm : m.all (fun q => decide (q.2.length ≤ 6)) = true) (hw : w.length ≤ 100) : phi1.call 35 [.str (w.flatMap (tabC m))] = some (.str (w.flatMap fun c => trL gSp (tabC m c))) := by
  have l1 := tab_len hm w
  have l2 := trL_len (w.flatMap (tabC m))
  show (if _ ∧ _ then _ else _) = _
  rw [if_pos ⟨by unfold lim; lia, by unfold lim; lia⟩, trL_flat]
theorem written_run {w : List Nat} {k : Nat} (hk : k < 5) (hw : w.length ≤ 100) : phi2.call 43 [.str w, .int k] = some (.str (w.flatMap (sg k))) := by
  refine call_of (tx ps_law_written sc_law_written 0 ir_law_written) (Φ := phi1) rfl rfl rfl ?_
  have : k = 0 ∨ k = 1 ∨ k = 2 ∨ k = 3 ∨ k = 4 := by lia
  have c0 := cdata_run hw
  have c1 := attrib_run hw
  have c2 := html_run hw
  have c3 := cc14_run hw
  have c4 := ac14_run hw
  have e4 := escape_run (m := m4) (by decide) hw
  have nx : ∀ {a : Int} {f : Nat} {p1 p2 p3 p4 p5 p6 p7 p8 p9 p10 : Pos} {r : List St} {o : Option Out}, (((k : Nat) : Int) == a) = false →
      evSs phi1 NN (kindsF sc_law_written 0) (setArgs [73,72] [.str w, .int k] fun _ => none) r = o →
      evSs phi1 NN (kindsF sc_law_written 0) (setArgs [73,72] [.str w, .int k] fun _ => none) (.ifS (.cmp (.name 72 p1) .Eq (.int a p2) p3) [.ret (.call 35 [.call f [.name 73 p4] p5 p6] p7 p8) p9] [] p10 :: r) = o := fun h h2 =>
    ss_nx (s_ifF (t_cmp (e_name rfl) e_int (c_eqI.trans (by rw [h]))) ss_end) h2
  have rt : ∀ {a : Int} {f : Nat} {m : List (Nat × List Nat)} {p1 p2 p3 p4 p5 p6 p7 p8 p9 p10 : Pos} {r : List St}, (((k : Nat) : Int) == a) = true → mk5 k = m → (kindsF sc_law_written 0) f = some .globalImplicit → phi1.call f [.str w] = some (.str (w.flatMap (tabC m))) → m.all (fun q => decide (q.2.length ≤ 6)) = true →
      evSs phi1 NN (kindsF sc_law_written 0) (setArgs [73,72] [.str w, .int k] fun _ => none) (.ifS (.cmp (.name 72 p1) .Eq (.int a p2) p3) [.ret (.call 35 [.call f [.name 73 p4] p5 p6] p7 p8) p9] [] p10 :: r) = some (.rt (.str (w.flatMap (sg k)))) := fun h hm hf h2 h3 =>
    ss_rt (s_ifT (t_cmp (e_name rfl) e_int (c_eqI.trans (by rw [h]))) (ss_rt (s_ret (e_call (l_cons (e_call (l_cons (e_name rfl) l_nil) hf h2) l_nil) rfl (by rw [escape_run h3 hw]; unfold sg; rw [hm])))))
  rcases this with rfl | rfl | rfl | rfl | rfl
  · exact rt rfl rfl rfl c0 (by decide)
  · exact nx rfl (rt rfl rfl rfl c1 (by decide))
  · exact nx rfl (nx rfl (rt rfl rfl rfl c2 (by decide)))
  · exact nx rfl (nx rfl (nx rfl (rt rfl rfl rfl c3 (by decide))))
  · exact nx rfl (nx rfl (nx rfl (nx rfl (ss_rt (s_ret (e_call (l_cons (e_call (l_cons (e_name rfl) l_nil) rfl c4) l_nil) rfl e4))))))
end Mine
namespace Mine
section
variable {Φ : Phi} {Γ : Kinds} {ρ : REnv} {N : Nat} {d x y z : D} {p q r : Pos}
theorem s_augS {n : Nat} {e : E} {t u : List Nat} (h : ρ n = some (.fz (.str t))) (h2 : ev Φ Γ ρ e = some (.d (.str u))) (hl : (t ++ u).length ≤ lim) (hm : Γ.mine ρ n = true) : evSt Φ N Γ ρ (.augN n .Add e p q) = some (.nx (ρ.set n (.fz (.str (t ++ u))))) := by
  rw [x_evSt_augN]
  rw [h]
  simp only [h2, Option.bind_eq_bind, Option.bind_some, R.asD]
  rw [show D.bin .Add (.str t) (.str u) = some (.str (t ++ u)) from if_pos hl]
  simp only [Option.bind_some]
  rw [if_pos hm]
theorem b_orT {es : List E} {e : E} (h1 : evT Φ Γ ρ e = some true) : evB Φ Γ ρ .Or (e :: es) = some true := by
  rw [x_evB_cons, h1]; rfl
end
theorem e_ifeT {Φ : Phi} {Γ : Kinds} {ρ : REnv} {t a b : E} {r : R} {p : Pos} (h1 : evT Φ Γ ρ t = some true) (h2 : ev Φ Γ ρ a = some r) : ev Φ Γ ρ (.ife t a b p) = some r := e_ife h1 h2
theorem e_ifeF {Φ : Phi} {Γ : Kinds} {ρ : REnv} {t a b : E} {r : R} {p : Pos} (h1 : evT Φ Γ ρ t = some false) (h2 : ev Φ Γ ρ b = some r) : ev Φ Γ ρ (.ife t a b p) = some r := e_ife h1 h2
noncomputable def NoS (ρ : REnv) : Prop := ∀ y d, ρ y ≠ some (.sealed d)
theorem NoS.set {ρ : REnv} (h : NoS ρ) (x : Nat) (d : D) : NoS (ρ.set x (.fz d)) := by
  intro y e he
  unfold REnv.set at he
  split at he
  · exact nomatch he
  · exact h y e he
theorem NoS.setO {ρ : REnv} (h : NoS ρ) (x : Nat) (d : List D) : NoS (ρ.set x (.own d)) := by
  intro y e he
  unfold REnv.set at he
  split at he
  · exact nomatch he
  · exact h y e he
theorem NoS.mine {ρ : REnv} {Γ : Kinds} (h : NoS ρ) {x : Nat} (hk : (Γ x == some .local || Γ x == some .cell) = true) : Γ.mine ρ x = true := by
  unfold Kinds.mine
  rw [hk]
  cases he : ρ x with
  | none => rfl
  | some e => cases e with
    | sealed d => exact absurd he (h x d)
    | _ => rfl
theorem set_eq {ρ : REnv} {x : Nat} {e : Ent} : ρ.set x e x = some e := by unfold REnv.set; rw [if_pos rfl]
theorem set_ne {ρ : REnv} {x y : Nat} {e : Ent} (h : y ≠ x) : ρ.set x e y = ρ y := by unfold REnv.set; rw [if_neg h]
noncomputable abbrev ΓS : Kinds := kindsF sc_law_spelled 0
noncomputable def tb (k : Nat) : List (List Nat) :=
  if k = 0 then [[97,109,112], [108,116], [103,116], [45], [45], [45], [45]]
  else if k = 1 then [[97,109,112], [108,116], [103,116], [113,117,111,116], [35,49,51], [35,49,48], [35,48,57]]
  else if k = 2 then [[97,109,112], [45], [103,116], [113,117,111,116], [45], [45], [45]]
  else if k = 3 then [[97,109,112], [108,116], [103,116], [45], [35,120,68], [45], [45]]
  else [[97,109,112], [108,116], [45], [113,117,111,116], [35,120,68], [35,120,65], [35,120,57]]
noncomputable def bodyOf : St → List St
  | .forS _ _ b _ => b
  | _ => []
noncomputable def itOf : St → E
  | .forS _ it _ _ => it
  | _ => .nil ⟨0,0,0,0⟩
noncomputable def spOuter : List St := bodyOf (ir_law_spelled.getD 2 (.raw []))
noncomputable def spInner : List St := bodyOf (spOuter.getD 1 (.raw []))
noncomputable def spIt : E := itOf (spOuter.getD 1 (.raw []))
noncomputable def gSpB (c : Int) : Bool := ((([32,35,36,38,45,46,63] : List Int).any fun y => y == c) || ((decide ((9 : Int) ≤ c) && decide (c ≤ 13)) || ((decide ((40 : Int) ≤ c) && decide (c ≤ 43)) || ((decide ((91 : Int) ≤ c) && decide (c ≤ 94)) || ((decide ((123 : Int) ≤ c) && decide (c ≤ 126)) || false)))))
theorem gSp_low : (List.range 127).all (fun c => gSpB c == spL.contains c) = true := by decide +kernel
theorem le_false {c : Nat} {k : Int} (h : ¬ c < 127) (hk : k < 127) : decide ((c : Int) ≤ k) = false := decide_eq_false (by lia)
theorem any_false {c : Nat} (h : ¬ c < 127) : ∀ l : List Int, l.all (fun y => decide (y < 127)) = true → (l.any fun y => y == (c : Int)) = false
  | [], _ => rfl
  | y :: l, e => by
    obtain ⟨e1, e2⟩ := Bool.and_eq_true_iff.mp (show (decide (y < 127) && _) = true from e)
    have hy : (y == (c : Int)) = false := beq_eq_false_iff_ne.mpr fun q => by have := of_decide_eq_true e1; lia
    show (y == (c : Int) || _) = false
    rw [hy, any_false h l e2]; rfl
theorem gSp_hi {c : Nat} (h : ¬ c < 127) : gSpB c = false := by
  unfold gSpB
  rw [any_false h _ (by decide), le_false h (by decide), le_false h (by decide), le_false h (by decide), le_false h (by decide)]
  simp only [Bool.and_false, Bool.or_false]
theorem spL_hi {c : Nat} (h : ¬ c < 127) : spL.contains c = false := by
  have e : spL.all (fun y => decide (y < 127)) = true := by decide
  rw [Bool.eq_false_iff]
  intro q
  exact h (of_decide_eq_true (List.all_eq_true.mp e c (List.contains_iff_mem.mp q)))
theorem gSp_cond' (c : Nat) : gSpB c = spL.contains c := by
  by_cases h : c < 127
  · exact beq_iff_eq.mp (List.all_eq_true.mp gSp_low c (List.mem_range.mpr h))
  · rw [gSp_hi h, spL_hi h]
theorem gSp_cond (c : Nat) : ((([32,35,36,38,45,46,63] : List Int).any fun y => y == (c : Int)) || ((decide ((9 : Int) ≤ c) && decide ((c : Int) ≤ 13)) || ((decide ((40 : Int) ≤ c) && decide ((c : Int) ≤ 43)) || ((decide ((91 : Int) ≤ c) && decide ((c : Int) ≤ 94)) || ((decide ((123 : Int) ≤ c) && decide ((c : Int) ≤ 126)) || false))))) = spL.contains c := gSp_cond' c
theorem isIn_ints (c : Int) (l : List Int) : D.cmp .In (.int c) (.tup (l.map .int)) = some (l.any fun y => y == c) := by
  have e : (l.map D.int).mapM (D.pd 4) = some (l.map .int) := by
    induction l with
    | nil => rfl
    | cons a l ih => rw [List.map_cons, List.mapM_cons, ih]; rfl
  show (do let p ← D.pd 5 (.int c); let q ← (l.map D.int).mapM (D.pd 4); some (q.any fun y => PyData.eqv y p)) = _
  rw [e]
  show some ((l.map PyData.int).any fun y => PyData.eqv y (.int c)) = _
  rw [List.any_map]
  rfl
theorem piece_run {ρ : REnv} {c : Nat} {out : List Nat} (hN : NoS ρ) (h75 : ρ 75 = some (.fz (.str out))) (h78 : ρ 78 = some (.fz (.str [c]))) (hl : out.length + 2 ≤ lim) :
    ∃ ρ', evSs phi0 NN ΓS ρ spInner = some (.nx ρ') ∧ NoS ρ' ∧ ρ' 75 = some (.fz (.str (out ++ (gSp c).getD [c]))) ∧ ∀ y, y ≠ 75 → y ≠ 79 → ρ' y = ρ y := by
  have N1 := hN.set 79 (.int c)
  have k75 : (ρ.set 79 (.fz (.int c))) 75 = some (.fz (.str out)) := (set_ne (by decide)).trans h75
  have k78 : (ρ.set 79 (.fz (.int c))) 78 = some (.fz (.str [c])) := (set_ne (by decide)).trans h78
  have k79 : (ρ.set 79 (.fz (.int c))) 79 = some (.fz (.int c)) := set_eq
  have c1 : ∀ {a b : Int} {p1 p2 p3 p4 : Pos}, evT phi0 ΓS (ρ.set 79 (.fz (.int c))) (.cmp2 (.int a p1) .LtE (.name 79 p2) .LtE (.int b p3) p4) = some (decide (a ≤ c) && decide ((c : Int) ≤ b)) := fun {a b p1 p2 p3 p4} =>
    t_cmp2 e_int (e_name k79) e_int rfl rfl
  by_cases hc : spL.contains c = true
  · have hg : gSp c = some [92, c] := by unfold gSp; rw [if_pos hc]
    have N2 := N1.set 75 (.str (out ++ [92]))
    refine ⟨_, ss_nx (s_asg (e_blt (e_name h78) rfl (by decide) rfl) (hN.mine rfl) rfl) (ss_nx (s_ifT (t_bop ((b_or (t_cmp (e_name k79) (e_tup (l_cons e_int (l_cons e_int (l_cons e_int (l_cons e_int (l_cons e_int (l_cons e_int (l_cons e_int l_nil))))))) (by decide)) (isIn_ints (c : Int) [32,35,36,38,45,46,63])) (b_or c1 (b_or c1 (b_or c1 (b_or c1 b_or0))))).trans (congrArg some ((gSp_cond c).trans hc))))
      (ss_nx (s_augS k75 (e_str (by decide)) (by rw [List.length_append]; exact Nat.le_trans (by simp) hl) (N1.mine rfl)) ss_end)) (ss_nx (s_augS set_eq (e_name ((set_ne (by decide)).trans k78)) (by simp; exact Nat.le_trans (by simp) hl) (N2.mine rfl)) ss_end)), N2.set _ _, ?_, ?_⟩
    · rw [hg, set_eq]; simp
    · intro y h1 h2
      rw [set_ne h1, set_ne h1, set_ne h2]
  · have hc' : spL.contains c = false := by simpa using hc
    have hg : gSp c = none := by unfold gSp; rw [hc']; rfl
    refine ⟨_, ss_nx (s_asg (e_blt (e_name h78) rfl (by decide) rfl) (hN.mine rfl) rfl) (ss_nx (s_ifF (t_bop ((b_or (t_cmp (e_name k79) (e_tup (l_cons e_int (l_cons e_int (l_cons e_int (l_cons e_int (l_cons e_int (l_cons e_int (l_cons e_int l_nil))))))) (by decide)) (isIn_ints (c : Int) [32,35,36,38,45,46,63])) (b_or c1 (b_or c1 (b_or c1 (b_or c1 b_or0))))).trans (congrArg some ((gSp_cond c).trans hc'))))
      ss_end) (ss_nx (s_augS k75 (e_name k78) (by rw [List.length_append]; exact Nat.le_trans (by simp) hl) (N1.mine rfl)) ss_end)), N1.set _ _, ?_, ?_⟩
    · rw [hg, set_eq]; simp
    · intro y h1 h2
      rw [set_ne h1, set_ne h2]
theorem pieces_run {tp : Pos} : ∀ (l : List Nat) {ρ : REnv} {out : List Nat}, NoS ρ → ρ 75 = some (.fz (.str out)) → out.length + 2 * l.length ≤ lim →
    ∃ ρ', evFor ΓS (.name 78 tp) (fun ρ => evSs phi0 NN ΓS ρ spInner) ρ (l.map fun c => .str [c]) = some (.nx ρ') ∧ NoS ρ' ∧ ρ' 75 = some (.fz (.str (out ++ trL gSp l))) ∧ ∀ y, y ≠ 75 → y ≠ 79 → y ≠ 78 → ρ' y = ρ y
  | [], ρ, out, hN, h75, hl => ⟨ρ, f_nil, hN, by rw [h75]; simp [trL], fun y _ _ _ => rfl⟩
  | c :: l, ρ, out, hN, h75, hl => by
    rw [List.length_cons] at hl
    obtain ⟨ρ1, r1, N1, o1, u1⟩ := piece_run (c := c) (hN.set 78 (.str [c])) ((set_ne (by decide)).trans h75) set_eq (by lia)
    have hlen : ((gSp c).getD [c]).length ≤ 2 := by
      have := trL_len [c]
      simpa [trL] using this
    obtain ⟨ρ2, r2, N2, o2, u2⟩ := pieces_run l (tp := tp) N1 o1 (by rw [List.length_append]; lia)
    refine ⟨ρ2, f_cons (hN.mine rfl) r1 r2, N2, ?_, fun y h1 h2 h3 => ?_⟩
    · rw [o2]; simp [trL]
    · rw [u2 y h1 h2 h3, u1 y h1 h2, set_ne h3]
noncomputable abbrev signs7 : List Nat := [38,60,62,34,13,10,9]
theorem find7 {c : Nat} (h : c ∉ signs7) : Txt.find ⟨signs7.toArray⟩ ⟨[c].toArray⟩ = -1 := by
  have := StrLaws.found_one ⟨signs7.toArray⟩ c
  rw [decide_eq_false (by simpa using h)] at this
  have h2 : Builtin.Str.occurrences ⟨signs7.toArray⟩ ⟨#[c]⟩ 0 (⟨signs7.toArray⟩ : Str).length 1 = [] := by simpa using this
  unfold Txt.find
  show (match Builtin.Str.occurrences ⟨signs7.toArray⟩ ⟨#[c]⟩ 0 (⟨signs7.toArray⟩ : Str).length 1 with | i :: _ => (i : Int) | [] => -1) = -1
  rw [h2]
theorem asgFind {ρ : REnv} {c : Nat} {p q r t : Pos} (hq : ((E.str signs7 p).isBase && q.endLine == r.line) = true) (h76 : ρ 76 = some (.fz (.str [c]))) : ev phi0 ΓS ρ (.meth (.str signs7 p) 10 [.name 76 t] q r) = some (.d (.int (Txt.find ⟨signs7.toArray⟩ ⟨[c].toArray⟩))) :=
  e_meth hq (e_str (by decide)) (e_name h76) rfl
theorem ife_c {ρ : REnv} {j c : Nat} {w : List Nat} {v : D} (h76 : ρ 76 = some (.fz (.str [c]))) (h77 : ρ 77 = some (.fz (.int (j : Int)))) (h74 : ρ 74 = some (.fz v)) (hw : D.item v (.int (j : Int)) = some (.str w)) (hl : w.length ≤ 10) :
    ev phi0 ΓS ρ spIt = some (.d (.str (if (w == [45]) = true then [c] else [38] ++ w ++ [59]))) := by
  change ev phi0 ΓS ρ (.ife (.bop .Or [.cmp (.name 77 _) .Lt (.int 0 _) _, .cmp (.idx (.name 74 _) (.name 77 _) _) .Eq (.str [45] _) _] _) (.name 76 _) (.bin (.bin (.str [38] _) .Add (.idx (.name 74 _) (.name 77 _) _) _) .Add (.str [59] _) _) _) = _
  have hj : decide ((j : Int) < 0) = false := by simp
  have hc : ∀ {p1 p2 p3 p4 p5 p6 p7 p8 p9 : Pos}, evT phi0 ΓS ρ (.bop .Or [.cmp (.name 77 p1) .Lt (.int 0 p2) p3, .cmp (.idx (.name 74 p4) (.name 77 p5) p6) .Eq (.str [45] p7) p8] p9) = some (w == [45]) := fun {_ _ _ _ _ _ _ _ _} =>
    t_bop ((b_or (t_cmp (e_name h77) e_int (show D.cmp .Lt (.int (j : Int)) (.int 0) = some false from congrArg some hj)) (b_or (t_cmp (e_idx (e_name h74) (e_name h77) hw) (e_str (by decide)) c_eqS) b_or0)).trans (by simp))
  cases hb : w == [45] with
  | true => exact e_ifeT (hc.trans (congrArg some hb)) (e_name h76)
  | false =>
    refine e_ifeF (hc.trans (congrArg some hb)) (e_bin (z := .str ([38] ++ w ++ [59])) (e_bin (z := .str ([38] ++ w)) (e_str (by decide)) (e_idx (e_name h74) (e_name h77) hw) ?_) (e_str (by decide)) ?_)
    · show mkS ([38] ++ w) = _
      unfold mkS; rw [if_pos]; show _ ≤ 1048576; simp; lia
    · show mkS ([38] ++ w ++ [59]) = _
      unfold mkS; rw [if_pos]; show _ ≤ 1048576; simp; lia
theorem ife_run {ρ : REnv} {k c : Nat} (hk : k < 5) (h76 : ρ 76 = some (.fz (.str [c]))) (h77 : ρ 77 = some (.fz (.int (Txt.find ⟨signs7.toArray⟩ ⟨[c].toArray⟩)))) (h74 : ρ 74 = some (.fz (.list ((tb k).map .str)))) : ev phi0 ΓS ρ spIt = some (.d (.str (tabC (mk5 k) c))) := by
  by_cases hc : c ∈ signs7
  · have hk' : k = 0 ∨ k = 1 ∨ k = 2 ∨ k = 3 ∨ k = 4 := by lia
    simp only [signs7, List.mem_cons, List.not_mem_nil, or_false] at hc
    rcases hc with rfl | rfl | rfl | rfl | rfl | rfl | rfl
    · have h77 : ρ 77 = some (.fz (.int ((0 : Nat) : Int))) := h77.trans (by kernel_rfl)
      rcases hk' with rfl | rfl | rfl | rfl | rfl
      · exact (ife_c h76 h77 h74 (w := (tb 0).getD 0 []) rfl (by decide)).trans rfl
      · exact (ife_c h76 h77 h74 (w := (tb 1).getD 0 []) rfl (by decide)).trans rfl
      · exact (ife_c h76 h77 h74 (w := (tb 2).getD 0 []) rfl (by decide)).trans rfl
      · exact (ife_c h76 h77 h74 (w := (tb 3).getD 0 []) rfl (by decide)).trans rfl
      · exact (ife_c h76 h77 h74 (w := (tb 4).getD 0 []) rfl (by decide)).trans rfl
    · have h77 : ρ 77 = some (.fz (.int ((1 : Nat) : Int))) := h77.trans (by kernel_rfl)
      rcases hk' with rfl | rfl | rfl | rfl | rfl
      · exact (ife_c h76 h77 h74 (w := (tb 0).getD 1 []) rfl (by decide)).trans rfl
      · exact (ife_c h76 h77 h74 (w := (tb 1).getD 1 []) rfl (by decide)).trans rfl
      · exact (ife_c h76 h77 h74 (w := (tb 2).getD 1 []) rfl (by decide)).trans rfl
      · exact (ife_c h76 h77 h74 (w := (tb 3).getD 1 []) rfl (by decide)).trans rfl
      · exact (ife_c h76 h77 h74 (w := (tb 4).getD 1 []) rfl (by decide)).trans rfl
    · have h77 : ρ 77 = some (.fz (.int ((2 : Nat) : Int))) := h77.trans (by kernel_rfl)
      rcases hk' with rfl | rfl | rfl | rfl | rfl
      · exact (ife_c h76 h77 h74 (w := (tb 0).getD 2 []) rfl (by decide)).trans rfl
      · exact (ife_c h76 h77 h74 (w := (tb 1).getD 2 []) rfl (by decide)).trans rfl
      · exact (ife_c h76 h77 h74 (w := (tb 2).getD 2 []) rfl (by decide)).trans rfl
      · exact (ife_c h76 h77 h74 (w := (tb 3).getD 2 []) rfl (by decide)).trans rfl
      · exact (ife_c h76 h77 h74 (w := (tb 4).getD 2 []) rfl (by decide)).trans rfl
    · have h77 : ρ 77 = some (.fz (.int ((3 : Nat) : Int))) := h77.trans (by kernel_rfl)
      rcases hk' with rfl | rfl | rfl | rfl | rfl
      · exact (ife_c h76 h77 h74 (w := (tb 0).getD 3 []) rfl (by decide)).trans rfl
      · exact (ife_c h76 h77 h74 (w := (tb 1).getD 3 []) rfl (by decide)).trans rfl
      · exact (ife_c h76 h77 h74 (w := (tb 2).getD 3 []) rfl (by decide)).trans rfl
      · exact (ife_c h76 h77 h74 (w := (tb 3).getD 3 []) rfl (by decide)).trans rfl
      · exact (ife_c h76 h77 h74 (w := (tb 4).getD 3 []) rfl (by decide)).trans rfl
    · have h77 : ρ 77 = some (.fz (.int ((4 : Nat) : Int))) := h77.trans (by kernel_rfl)
      rcases hk' with rfl | rfl | rfl | rfl | rfl
      · exact (ife_c h76 h77 h74 (w := (tb 0).getD 4 []) rfl (by decide)).trans rfl
      · exact (ife_c h76 h77 h74 (w := (tb 1).getD 4 []) rfl (by decide)).trans rfl
      · exact (ife_c h76 h77 h74 (w := (tb 2).getD 4 []) rfl (by decide)).trans rfl
      · exact (ife_c h76 h77 h74 (w := (tb 3).getD 4 []) rfl (by decide)).trans rfl
      · exact (ife_c h76 h77 h74 (w := (tb 4).getD 4 []) rfl (by decide)).trans rfl
    · have h77 : ρ 77 = some (.fz (.int ((5 : Nat) : Int))) := h77.trans (by kernel_rfl)
      rcases hk' with rfl | rfl | rfl | rfl | rfl
      · exact (ife_c h76 h77 h74 (w := (tb 0).getD 5 []) rfl (by decide)).trans rfl
      · exact (ife_c h76 h77 h74 (w := (tb 1).getD 5 []) rfl (by decide)).trans rfl
      · exact (ife_c h76 h77 h74 (w := (tb 2).getD 5 []) rfl (by decide)).trans rfl
      · exact (ife_c h76 h77 h74 (w := (tb 3).getD 5 []) rfl (by decide)).trans rfl
      · exact (ife_c h76 h77 h74 (w := (tb 4).getD 5 []) rfl (by decide)).trans rfl
    · have h77 : ρ 77 = some (.fz (.int ((6 : Nat) : Int))) := h77.trans (by kernel_rfl)
      rcases hk' with rfl | rfl | rfl | rfl | rfl
      · exact (ife_c h76 h77 h74 (w := (tb 0).getD 6 []) rfl (by decide)).trans rfl
      · exact (ife_c h76 h77 h74 (w := (tb 1).getD 6 []) rfl (by decide)).trans rfl
      · exact (ife_c h76 h77 h74 (w := (tb 2).getD 6 []) rfl (by decide)).trans rfl
      · exact (ife_c h76 h77 h74 (w := (tb 3).getD 6 []) rfl (by decide)).trans rfl
      · exact (ife_c h76 h77 h74 (w := (tb 4).getD 6 []) rfl (by decide)).trans rfl
  · have e : tabC (mk5 k) c = [c] := by
      have hk' : k = 0 ∨ k = 1 ∨ k = 2 ∨ k = 3 ∨ k = 4 := by lia
      simp only [signs7, List.mem_cons, List.not_mem_nil, or_false, not_or] at hc
      obtain ⟨a1, a2, a3, a4, a5, a6, a7⟩ := hc
      have b1 := beq_eq_false_iff_ne.mpr a1
      have b2 := beq_eq_false_iff_ne.mpr a2
      have b3 := beq_eq_false_iff_ne.mpr a3
      have b4 := beq_eq_false_iff_ne.mpr a4
      have b5 := beq_eq_false_iff_ne.mpr a5
      have b6 := beq_eq_false_iff_ne.mpr a6
      have b7 := beq_eq_false_iff_ne.mpr a7
      rcases hk' with rfl | rfl | rfl | rfl | rfl <;> simp [tabC, mk5, m0, m1, m2, m3, m4, List.lookup, b1, b2, b3, b4, b5, b6, b7]
    rw [e]
    rw [find7 hc] at h77
    exact e_ifeT (t_bop (b_orT (t_cmp (e_name h77) e_int rfl))) (e_name h76)
theorem sign_run {ρ : REnv} {k c : Nat} {out : List Nat} (hk : k < 5) (hN : NoS ρ) (h76 : ρ 76 = some (.fz (.str [c]))) (h74 : ρ 74 = some (.fz (.list ((tb k).map .str)))) (h75 : ρ 75 = some (.fz (.str out))) (hl : out.length + 12 ≤ lim) :
    ∃ ρ', evSs phi0 NN ΓS ρ spOuter = some (.nx ρ') ∧ NoS ρ' ∧ ρ' 75 = some (.fz (.str (out ++ sg k c))) ∧ ∀ y, y ≠ 75 → y ≠ 79 → y ≠ 78 → y ≠ 77 → ρ' y = ρ y := by
  have hlen : (tabC (mk5 k) c).length ≤ 6 := by
    have := tab_len (m := mk5 k) (by
      have hk' : k = 0 ∨ k = 1 ∨ k = 2 ∨ k = 3 ∨ k = 4 := by lia
      rcases hk' with rfl | rfl | rfl | rfl | rfl <;> decide) [c]
    simpa using this
  have N1 := hN.set 77 (.int (Txt.find ⟨signs7.toArray⟩ ⟨[c].toArray⟩))
  obtain ⟨ρ2, r2, N2, o2, u2⟩ := pieces_run (tp := ⟨190,12,190,17⟩) (tabC (mk5 k) c) N1 ((set_ne (by decide)).trans h75) (by lia)
  refine ⟨ρ2, ss_nx (s_asg (asgFind rfl h76) (hN.mine rfl) rfl) (ss_nx (s_for (ife_run hk ((set_ne (by decide)).trans h76) set_eq ((set_ne (by decide)).trans h74)) rfl r2) ss_end), N2, o2, fun y h1 h2 h3 h4 => ?_⟩
  rw [u2 y h1 h2 h3, set_ne h4]
theorem signs_run {tp : Pos} {k : Nat} (hk : k < 5) : ∀ (l : List Nat) {ρ : REnv} {out : List Nat}, NoS ρ → ρ 74 = some (.fz (.list ((tb k).map .str))) → ρ 75 = some (.fz (.str out)) → out.length + 12 * l.length ≤ lim →
    ∃ ρ', evFor ΓS (.name 76 tp) (fun ρ => evSs phi0 NN ΓS ρ spOuter) ρ (l.map fun c => .str [c]) = some (.nx ρ') ∧ ρ' 75 = some (.fz (.str (out ++ l.flatMap (sg k))))
  | [], ρ, out, hN, h74, h75, hl => ⟨ρ, f_nil, by rw [h75]; simp⟩
  | c :: l, ρ, out, hN, h74, h75, hl => by
    rw [List.length_cons] at hl
    obtain ⟨ρ1, r1, N1, o1, u1⟩ := sign_run (c := c) hk (hN.set 76 (.str [c])) set_eq ((set_ne (by decide)).trans h74) ((set_ne (by decide)).trans h75) (by lia)
    have hlen : (sg k c).length ≤ 12 := by
      have h6 : (tabC (mk5 k) c).length ≤ 6 := by
        have := tab_len (m := mk5 k) (by
          have hk' : k = 0 ∨ k = 1 ∨ k = 2 ∨ k = 3 ∨ k = 4 := by lia
          rcases hk' with rfl | rfl | rfl | rfl | rfl <;> decide) [c]
        simpa using this
      have := trL_len (tabC (mk5 k) c)
      unfold sg; lia
    obtain ⟨ρ2, r2, o2⟩ := signs_run hk l (tp := tp) N1 ((u1 74 (by decide) (by decide) (by decide) (by decide)).trans ((set_ne (by decide)).trans h74)) o1 (by rw [List.length_append]; lia)
    refine ⟨ρ2, f_cons (hN.mine rfl) r1 r2, ?_⟩
    rw [o2]; simp
theorem noS0 {ps : List Nat} {args : List D} : NoS (setArgs ps args fun _ => none) := by
  have : ∀ (l : List (Nat × D)) (ρ : REnv), NoS ρ → NoS (l.foldl (fun ρ q => ρ.set q.1 (.fz q.2)) ρ) := by
    intro l
    induction l with
    | nil => intro ρ h; exact h
    | cons a l ih => intro ρ h; exact ih _ (h.set _ _)
  exact this _ _ fun y d h => by cases h
theorem spelled_run {w : List Nat} {k : Nat} (hk : k < 5) (hw : w.length ≤ 100) : phi1.call 44 [.str w, .int k] = some (.str (w.flatMap (sg k))) := by
  refine call_of (tx ps_law_spelled sc_law_spelled 0 ir_law_spelled) (Φ := phi0) rfl rfl rfl ?_
  have N0 : NoS (setArgs [73,72] [.str w, .int (k : Int)] fun _ => none) := noS0
  have N1 := N0.set 74 (.list ((tb k).map .str))
  have N2 := N1.set 75 (.str [])
  obtain ⟨ρ3, r3, o3⟩ := signs_run (tp := ⟨188,8,188,12⟩) hk w N2 ((set_ne (by decide)).trans set_eq) set_eq (by show _ ≤ 1048576; simp; lia)
  refine ss_nx (s_asg (d := .list ((tb k).map .str)) ?_ (N0.mine rfl) rfl) (ss_nx (s_asg (e_str (by decide)) (N1.mine rfl) rfl) (ss_nx (s_for (e_name (d := .str w) rfl) rfl r3) (ss_rt (s_ret (e_name o3)))))
  have hk' : k = 0 ∨ k = 1 ∨ k = 2 ∨ k = 3 ∨ k = 4 := by lia
  rcases hk' with rfl | rfl | rfl | rfl | rfl <;> exact e_meth rfl (e_idx (e_list (l_cons (e_str (by decide)) (l_cons (e_str (by decide)) (l_cons (e_str (by decide)) (l_cons (e_str (by decide)) (l_cons (e_str (by decide)) l_nil))))) (by decide)) (e_name rfl) rfl) (e_str (by decide)) (by kernel_rfl)
end Mine
namespace Mine
noncomputable abbrev pl (ps : List Nat) : D := .list (ps.map fun (p : Nat) => .int (p : Int))
noncomputable def newL {α : Type} [BEq α] : List α → List α → List α
  | _, [] => []
  | ks, x :: r => if ks.contains x then newL ks r else x :: newL (ks ++ [x]) r
theorem newL_cons {α : Type} [BEq α] {ks r : List α} {x : α} : newL ks (x :: r) = if ks.contains x then newL ks r else x :: newL (ks ++ [x]) r := rfl
theorem newL_nil {α : Type} [BEq α] {ks : List α} : newL ks [] = [] := rfl
theorem newL_map {α β : Type} [BEq α] [LawfulBEq α] [BEq β] [LawfulBEq β] {f : α → β} (hf : ∀ a b, f a = f b → a = b) : ∀ (xs ks : List α), newL (ks.map f) (xs.map f) = (newL ks xs).map f
  | [], _ => rfl
  | x :: xs, ks => by
    have e : (ks.map f).contains (f x) = ks.contains x := by
      rw [Bool.eq_iff_iff]
      simp only [List.contains_iff_mem, List.mem_map]
      exact ⟨fun ⟨a, ha, e⟩ => hf _ _ e ▸ ha, fun h => ⟨x, h, rfl⟩⟩
    rw [List.map_cons, newL_cons, newL_cons, e]
    split
    · exact newL_map hf xs ks
    · have := newL_map hf xs (ks ++ [x])
      rw [List.map_append] at this
      exact congrArg _ this
theorem newL_le {α : Type} [BEq α] : ∀ (xs ks : List α), (newL ks xs).length ≤ xs.length
  | [], _ => Nat.le_refl _
  | x :: xs, ks => by
    rw [newL_cons]
    split
    · exact Nat.le_succ_of_le (newL_le xs ks)
    · exact Nat.succ_le_succ (newL_le xs _)
section
variable {Φ : Phi} {Ψ : Nat → D → Option D} {rm : Nat} {Γ : Kinds} {ρ : REnv}
theorem ye_nil : evYs Φ Ψ rm Γ ρ [] = some ([], ρ) := by rw [x_evYs_nil]
theorem ye_cons {ρ1 ρ2 : REnv} {s : Sg} {r : List Sg} {a b : List D} (h : evY Φ Ψ rm Γ ρ s = some (a, ρ1)) (h2 : evYs Φ Ψ rm Γ ρ1 r = some (b, ρ2)) : evYs Φ Ψ rm Γ ρ (s :: r) = some (a ++ b, ρ2) := by
  rw [x_evYs_cons, h]; simp [h2]
theorem ye_if {c : E} {a : List Sg} {p : Pos} {l : List D} {ρ1 : REnv} (h : evT Φ Γ ρ c = some true) (h2 : evYs Φ Ψ rm Γ ρ a = some (l, ρ1)) : evY Φ Ψ rm Γ ρ (.ifS c a p) = some (l, ρ1) := by
  rw [x_evY_ifS, h]; simp [h2]
theorem ye_ifn {c : E} {a : List Sg} {p : Pos} (h : evT Φ Γ ρ c = some false) : evY Φ Ψ rm Γ ρ (.ifS c a p) = some ([], ρ) := by
  rw [x_evY_ifS, h]; simp
theorem ye_yld {x : Nat} {p q r : Pos} {d : D} (h : ρ.at x = some d) : evY Φ Ψ rm Γ ρ (.yld x p q r) = some ([d], ρ) := by
  rw [x_evY_yld, h]; rfl
theorem ye_asg {x : Nat} {e : E} {d : D} {p q : Pos} (h : ev Φ Γ ρ e = some (.d d)) (hm : Γ.mine ρ x = true) (hf : d.flat = true) (he : e.isCp = false) : evY Φ Ψ rm Γ ρ (.asg x e p q) = some ([], ρ.set x (.fz d)) := by
  rw [x_evY_asg, h]; simp [R.asD, hm, hf, he]
theorem ye_for {t y : Nat} {tp yp p : Pos} {body : List Sg} {d : D} {items l : List D} {ρ1 : REnv} (h : ρ.at y = some d) (h2 : (R.d d).asI = some items) (h3 : evYFor Γ t (fun ρ => evYs Φ Ψ rm Γ ρ body) ρ items = some (l, ρ1)) : evY Φ Ψ rm Γ ρ (.forS t tp y yp body p) = some (l, ρ1) := by
  rw [x_evY_forS, h]; simp [h2, h3]
theorem ye_pm {x f y : Nat} {q1 q2 q3 q4 q5 : Pos} {d r : D} (h : ρ.at y = some d) (h2 : Ψ f d = some r) (hm : Γ.mine ρ x = true) (hg : Γ f = some .globalImplicit) : evY Φ Ψ rm Γ ρ (.pm x f y q1 q2 q3 q4 q5) = some ([], ρ.set x (.fz r)) := by
  rw [x_evY_pm, h]; simp [h2, hm, hg]
theorem ye_newD {x : Nat} {q1 q2 q3 : Pos} (hm : Γ.mine ρ x = true) (hx : x = rm) : evY Φ Ψ rm Γ ρ (.newD x q1 q2 q3) = some ([], ρ.set x (.ownD [])) := by
  rw [x_evY_newD, hm, hx]; simp
theorem yef_cons {t : Nat} {body : REnv → Option (List D × REnv)} {d : D} {r a b : List D} {ρ1 ρ2 : REnv} (hm : Γ.mine ρ t = true) (h : body (ρ.set t (.fz d)) = some (a, ρ1)) (h2 : evYFor Γ t body ρ1 r = some (b, ρ2)) : evYFor Γ t body ρ (d :: r) = some (a ++ b, ρ2) := by
  rw [evYFor, if_pos hm, h]; simp [h2]
end
theorem NoS.setD {ρ : REnv} (h : NoS ρ) (x : Nat) (l : List Int) : NoS (ρ.set x (.ownD l)) := by
  intro y e he
  unfold REnv.set at he
  split at he
  · exact nomatch he
  · exact h y e he
noncomputable def ksD (S : Nat → List Nat) : List D := (List.range 4).map fun p => .str (S p)
noncomputable def vsD (w : Nat → Nat) : List D := (List.range 4).map fun p => .int (w p : Int)
noncomputable def ctxD (S : Nat → List Nat) (w : Nat → Nat) : D := .thing [19,21] [.nil, .dict (ksD S) (vsD w)]
structure SOk (S : Nat → List Nat) : Prop where
  inj : ∀ p q, p < 4 → q < 4 → S p = S q → p = q
  ne : ∀ p, p < 4 → S p ≠ []
theorem dget_at {S : Nat → List Nat} {w : Nat → Nat} (h : SOk S) {p : Nat} (hp : p < 4) : D.dget (ksD S) (vsD w) (S p) = some (.int (w p : Int)) := by
  have e : ∀ a b, a < 4 → b < 4 → (D.isStr (S a) (.str (S b))) = decide (b = a) := fun a b ha hb => by
    show (S b == S a) = _
    by_cases hab : b = a
    · subst hab; simp
    · rw [decide_eq_false hab]
      exact beq_eq_false_iff_ne.mpr fun q => hab (h.inj _ _ hb ha q)
  have : p = 0 ∨ p = 1 ∨ p = 2 ∨ p = 3 := by lia
  rcases this with rfl | rfl | rfl | rfl <;> simp [D.dget, ksD, vsD, List.range, List.range.loop, List.find?, e]
theorem dget_nil {S : Nat → List Nat} {w : Nat → Nat} (h : SOk S) : D.dget (ksD S) (vsD w) [] = none := by
  have e : ∀ b, b < 4 → (D.isStr [] (.str (S b))) = false := fun b hb => by
    show (S b == []) = _
    exact beq_eq_false_iff_ne.mpr (h.ne b hb)
  simp [D.dget, ksD, vsD, List.range, List.range.loop, List.find?, e]
noncomputable abbrev ΓP : Kinds := kindsF gsc_prepare_parent 0
noncomputable def yBody : Sg → List Sg
  | .forS _ _ _ _ b _ => b
  | _ => []
noncomputable def ppBody : List Sg := yBody (gs_prepare_parent.getD 2 (.newD 0 ⟨0,0,0,0⟩ ⟨0,0,0,0⟩ ⟨0,0,0,0⟩))
theorem climb1 {S : Nat → List Nat} {w : Nat → Nat} (hS : SOk S) {ρ : REnv} {ks : List Int} {k : List Nat} (hN : NoS ρ) (h21 : ρ 21 = some (.fz (.dict (ksD S) (vsD w)))) (h62 : ρ 62 = some (.ownD ks)) (h57 : ρ 57 = some (.fz (.str k))) :
    (k = [] → evYs phi0 psi3 62 ΓP ρ ppBody = some ([], ρ)) ∧
    ∀ p, p < 4 → k = S p → ks.length < 64 → ∃ ρ', evYs phi0 psi3 62 ΓP ρ ppBody = some (if ks.contains (w p : Int) then [] else [.int (w p : Int)], ρ') ∧ NoS ρ' ∧ ρ' 21 = ρ 21 ∧ ρ' 62 = some (.ownD (if ks.contains (w p : Int) then ks else ks ++ [(w p : Int)])) := by
  refine ⟨fun hk => ?_, fun p hp hk hl => ?_⟩
  · subst hk
    refine ye_cons (a := []) (b := []) (ye_ifn (t_cmp (e_name h57) (e_name h21) ?_)) ye_nil
    show some (D.dget (ksD S) (vsD w) []).isSome = _
    rw [dget_nil hS]; rfl
  · subst hk
    have ht : evT phi0 ΓP ρ (.cmp (.name 57 ⟨76,15,76,19⟩) .In (.name 21 ⟨76,23,76,33⟩) ⟨76,15,76,33⟩) = some true := by
      refine t_cmp (e_name h57) (e_name h21) ?_
      show some (D.dget (ksD S) (vsD w) (S p)).isSome = _
      rw [dget_at hS hp]; rfl
    have hi : D.item (.dict (ksD S) (vsD w)) (.str (S p)) = some (.int (w p : Int)) := dget_at hS hp
    have N1 := hN.set 63 (.int (w p : Int))
    by_cases hc : ks.contains (w p : Int) = true
    · rw [if_pos hc, if_pos hc]
      refine ⟨_, ye_cons (a := []) (b := []) (ye_if ht (ye_cons (a := []) (b := []) (ye_asg (e_idx (e_name h21) (e_name h57) hi) (hN.mine rfl) rfl rfl) (ye_cons (a := []) (b := []) ?_ ye_nil))) ye_nil, N1, set_ne (by decide), (set_ne (by decide)).trans h62⟩
      rw [x_evY_ifNew]
      have a1 : (ρ.set 63 (.fz (.int (w p : Int)))) 62 = some (.ownD ks) := (set_ne (by decide)).trans h62
      have a2 : (ρ.set 63 (.fz (.int (w p : Int)))).at 63 = some (.int (w p : Int)) := by unfold REnv.at; rw [set_eq]
      rw [a1, a2]
      simp only
      rw [if_pos ⟨trivial, hl⟩, if_pos hc]
    · rw [if_neg hc, if_neg hc]
      refine ⟨_, ye_cons (a := [.int (w p : Int)]) (b := []) (ye_if ht (ye_cons (a := []) (b := [.int (w p : Int)]) (ye_asg (e_idx (e_name h21) (e_name h57) hi) (hN.mine rfl) rfl rfl) (ye_cons (a := [.int (w p : Int)]) (b := []) ?_ ye_nil))) ye_nil, N1.setD 62 (ks ++ [(w p : Int)]), (set_ne (by decide)).trans (set_ne (by decide)), set_eq⟩
      rw [x_evY_ifNew]
      have a1 : (ρ.set 63 (.fz (.int (w p : Int)))) 62 = some (.ownD ks) := (set_ne (by decide)).trans h62
      have a2 : (ρ.set 63 (.fz (.int (w p : Int)))).at 63 = some (.int (w p : Int)) := by unfold REnv.at; rw [set_eq]
      rw [a1, a2]
      simp only
      rw [if_pos ⟨trivial, hl⟩, if_neg hc]
      exact ye_cons (a := [.int (w p : Int)]) (b := []) (ye_yld (by unfold REnv.at; rw [set_ne (by decide), set_eq])) ye_nil
theorem climbs {S : Nat → List Nat} {w : Nat → Nat} (hS : SOk S) : ∀ (ps : List Nat) {ρ : REnv} {ks : List Int}, (∀ p ∈ ps, p < 4) → NoS ρ → ρ 21 = some (.fz (.dict (ksD S) (vsD w))) → ρ 62 = some (.ownD ks) → ks.length + ps.length ≤ 64 →
    ∃ ρ', evYFor ΓP 57 (fun ρ => evYs phi0 psi3 62 ΓP ρ ppBody) ρ (ps.map fun p => .str (S p)) = some ((newL ks (ps.map fun p => (w p : Int))).map .int, ρ')
  | [], ρ, ks, _, _, _, _, _ => ⟨ρ, by rw [List.map_nil, evYFor]; rfl⟩
  | p :: ps, ρ, ks, hp, hN, h21, h62, hl => by
    rw [List.length_cons] at hl
    obtain ⟨ρ1, r1, N1, k21, k62⟩ := (climb1 hS (k := S p) (hN.set 57 (.str (S p))) ((set_ne (by decide)).trans h21) ((set_ne (by decide)).trans h62) set_eq).2 p (hp p (List.mem_cons_self ..)) rfl (by lia)
    have k21 := k21.trans ((set_ne (by decide)).trans h21)
    obtain ⟨ρ2, r2⟩ := climbs hS ps (fun q hq => hp q (List.mem_cons_of_mem _ hq)) N1 k21 k62 (by
      split
      · lia
      · rw [List.length_append, List.length_singleton]; lia)
    refine ⟨ρ2, ?_⟩
    have := yef_cons (hN.mine (Γ := ΓP) rfl) r1 r2
    rw [List.map_cons, this, List.map_cons, newL_cons]
    congr 2
    cases hc : ks.contains (w p : Int) <;> simp
theorem gen_of {Φ' Φ : Phi} {N : Nat} {Ψ : Nat → D → Option D} {tF : Nat → Option Tx} {tL : Nat → Option Lx} {tG : Nat → Option Gx} {i : Nat} {all l : List D} {ρ' : REnv} (t : Gx) (e : Φ' = Φ.up N Ψ tF tL tG) (ht : tG i = some t) (hl : (freeOf t.sc).length + t.ps.length = all.length)
    (h : evYs Φ Ψ t.rm (kindsF t.sc 0) (setArgs t.ps (all.drop (freeOf t.sc).length) (capEnv (freeOf t.sc) (all.take (freeOf t.sc).length))) t.ss = some (l, ρ')) (hlim : l.length ≤ lim) : Φ'.gen i all = some l := by
  subst e
  show (match tG i with | some t => runG Φ Ψ t all | none => Φ.gen i all) = _
  rw [ht]
  show runG Φ Ψ t all = _
  unfold runG
  rw [if_pos hl, h]
  simp only
  rw [if_pos hlim]
noncomputable def gx11t : Gx := ⟨gps_prepare_parent.map (·.1), gsc_prepare_parent, 62, gs_prepare_parent⟩
theorem gen11 {S : Nat → List Nat} {w : Nat → Nat} (hS : SOk S) {ps : List Nat} (hp : ∀ p ∈ ps, p < 4) (hl : ps.length ≤ 20) : phi1.gen 11 [ctxD S w, .list (.str [] :: ps.map fun p => .str (S p))] = some ((newL [] (ps.map fun p => (w p : Int))).map .int) := by
  have N0 : NoS (setArgs [52,56] [ctxD S w, .list (.str [] :: ps.map fun p => .str (S p))] fun _ => none) := noS0
  have N1 := N0.set 21 (.dict (ksD S) (vsD w))
  have N2 := N1.setD 62 []
  have N3 := N2.set 57 (.str [])
  obtain ⟨ρ4, r4⟩ := climbs (w := w) hS ps (ks := []) hp N3 ((set_ne (by decide)).trans ((set_ne (by decide)).trans set_eq)) ((set_ne (by decide)).trans set_eq) (by simp; lia)
  have r3 := (climb1 (w := w) hS (ks := []) (k := []) N3 ((set_ne (by decide)).trans ((set_ne (by decide)).trans set_eq)) ((set_ne (by decide)).trans set_eq) set_eq).1 rfl
  have run : evYs phi0 psi3 62 ΓP (setArgs [52,56] [ctxD S w, .list (.str [] :: ps.map fun p => .str (S p))] fun _ => none) gs_prepare_parent = some ((newL [] (ps.map fun p => (w p : Int))).map .int, ρ4) :=
    ye_cons (a := []) (b := (newL [] (ps.map fun p => (w p : Int))).map .int) (ρ1 := (setArgs [52,56] [ctxD S w, .list (.str [] :: ps.map fun p => .str (S p))] fun _ => none).set 21 (.fz (.dict (ksD S) (vsD w)))) (ye_pm rfl rfl (N0.mine rfl) rfl) (ye_cons (a := []) (b := (newL [] (ps.map fun p => (w p : Int))).map .int) (ye_newD (N1.mine rfl) rfl) ((ye_cons (b := []) (ye_for (d := .list (.str [] :: ps.map fun p => .str (S p))) rfl rfl (yef_cons (N2.mine rfl) r3 r4)) ye_nil).trans (by simp)))
  have hlen := newL_le (ps.map fun p => (w p : Int)) []
  rw [List.length_map] at hlen
  exact gen_of gx11t (Φ := phi0) rfl rfl rfl run (by rw [List.length_map]; unfold lim; lia)
end Mine
namespace Mine
section
variable {Φ : Phi} {Γ : Kinds} {ρ : REnv} {N : Nat} {d x y z : D} {p q r : Pos}
theorem e_callvG {f id : Nat} {caps l items : List D} {es : List E} (hf : ρ f = some (.fz (.lam id caps))) (h1 : evL Φ Γ ρ es = some l) (h2 : Φ.lam id (caps ++ l) = none) (h3 : Φ.gen id (caps ++ l) = some items) : ev Φ Γ ρ (.callv f es p q) = some (.it items) := by
  rw [x_ev_callv, hf]; simp [h1, h2, h3]
theorem e_callv {f id : Nat} {caps l : List D} {es : List E} (hf : ρ f = some (.fz (.lam id caps))) (h1 : evL Φ Γ ρ es = some l) (h2 : Φ.lam id (caps ++ l) = some d) : ev Φ Γ ρ (.callv f es p q) = some (.d d) := by
  rw [x_ev_callv, hf]; simp [h1, h2]
theorem e_calleG {f : E} {id : Nat} {caps l items : List D} {es : List E} (hc : f.isCall = true) (hf : ev Φ Γ ρ f = some (.d (.lam id caps))) (h1 : evL Φ Γ ρ es = some l) (h2 : Φ.lam id (caps ++ l) = none) (h3 : Φ.gen id (caps ++ l) = some items) : ev Φ Γ ρ (.calle f es p) = some (.it items) := by
  rw [x_ev_calle, hc, hf]; simp [R.asD, h1, h2, h3]
end
noncomputable def namesD (S : Nat → List Nat) : D := .list (ksD S)
theorem cast_inj : ∀ a b : Nat, (a : Int) = (b : Int) → a = b := fun a b h => by lia
noncomputable def onP (w : Nat → Nat) (ps : List Nat) : List Nat := newL [] (ps.map w)
theorem on_ints (w : Nat → Nat) (ps : List Nat) : (newL [] (ps.map fun p => (w p : Int))).map D.int = (onP w ps).map fun (p : Nat) => D.int (p : Int) := by
  have := newL_map (f := fun a : Nat => (a : Int)) cast_inj (ps.map w) []
  rw [List.map_map, List.map_nil] at this
  have e : (ps.map fun p => (w p : Int)) = ps.map ((fun a : Nat => (a : Int)) ∘ w) := rfl
  rw [e, this, List.map_map]; rfl
theorem names_item {S : Nat → List Nat} {p : Nat} (hp : p < 4) : D.item (namesD S) (.int (p : Int)) = some (.str (S p)) := by
  have : p = 0 ∨ p = 1 ∨ p = 2 ∨ p = 3 := by lia
  rcases this with rfl | rfl | rfl | rfl <;> rfl
theorem on_run {S : Nat → List Nat} {w : Nat → Nat} (hS : SOk S) {ps : List Nat} (hp : ∀ p ∈ ps, p < 4) (hl : ps.length ≤ 20) : phi2.call 47 [.lam 11 [], ctxD S w, namesD S, pl ps] = some (pl (onP w ps)) := by
  refine call_of (tx ps_law_on sc_law_on 0 ir_law_on) (Φ := phi1) rfl rfl rfl ?_
  have hg := gen11 (w := w) hS hp hl
  rw [on_ints] at hg
  have hlen := newL_le (ps.map w) []
  rw [List.length_map] at hlen
  refine ss_rt (s_ret (e_lst (e_callvG (f := 86) (id := 11) (caps := []) rfl (l_cons (e_name rfl) (l_cons (e_bin (z := .list (.str [] :: ps.map fun p => .str (S p))) (x := .list [.str []]) (y := .list (ps.map fun p => .str (S p))) (e_list (l_cons (e_str (by decide)) l_nil) (by decide)) (e_comp (l := ps) (c := fun p => .int (p : Int)) (k := fun p => .str (S p)) (by rfl) (e_name (d := pl ps) rfl) rfl (by rfl) (fun p hpp => e_idx (e_name (d := namesD S) rfl) (e_name rfl) (names_item (hp p hpp))) (by unfold lim; lia)) ?_) l_nil)) rfl hg) rfl (by rw [List.length_map]; unfold onP lim; lia)))
  show mkL _ = _
  unfold mkL
  rw [if_pos (show _ ≤ 1048576 by simp; lia)]; rfl
end Mine
namespace Mine
structure WishOk (t : List Nat) : Prop where
  fst : ∃ h m, t = 123 :: h :: m ∧ h ≠ 42 ∧ h ≠ 125
  lst : t.getLast? = some 59
  len : t.length ≤ 1000
theorem slc_hi {t : List Nat} {i : Int} (hi : -(lim : Int) ≤ i ∧ i ≤ lim) : D.slice (.str t) none (some (.int i)) = some (.str (t.take (clipAt t.length i))) := by
  have e : D.bnd (some (.int i)) = some (some i) := by show (if _ then _ else _) = _; rw [if_pos hi]
  unfold D.slice
  rw [e]
  show some (D.str (cutL none (some i) t)) = _
  simp [cutL]
theorem slc_lo {t : List Nat} {i : Int} (hi : -(lim : Int) ≤ i ∧ i ≤ lim) : D.slice (.str t) (some (.int i)) none = some (.str (t.drop (clipAt t.length i))) := by
  have e : D.bnd (some (.int i)) = some (some i) := by show (if _ then _ else _) = _; rw [if_pos hi]
  unfold D.slice
  rw [e]
  show some (D.str (cutL (some i) none t)) = _
  simp only [cutL, Option.elim]
  rw [List.take_of_length_le (by simp)]
theorem wish_hi {t : List Nat} (h : WishOk t) (n : Nat) : (t.take n == [123,42,125]) = false ∧ (t.take n == [123,125]) = false := by
  obtain ⟨a, m, rfl, h1, h2⟩ := h.fst
  match n with
  | 0 => exact ⟨rfl, rfl⟩
  | 1 => exact ⟨rfl, rfl⟩
  | n + 2 =>
    constructor
    · refine beq_eq_false_iff_ne.mpr fun e => ?_
      rw [List.take_succ_cons, List.take_succ_cons] at e
      injection e with e1 e2
      injection e2 with e3
      exact h1 e3
    · refine beq_eq_false_iff_ne.mpr fun e => ?_
      rw [List.take_succ_cons, List.take_succ_cons] at e
      injection e with e1 e2
      injection e2 with e3
      exact h2 e3
theorem wish_lo {t : List Nat} (h : WishOk t) (n : Nat) : (t.drop n == [125,42]) = false := by
  refine beq_eq_false_iff_ne.mpr fun e => ?_
  have := congrArg List.getLast? e
  rw [List.getLast?_drop] at this
  split at this
  · cases this
  · rw [h.lst] at this; exact nomatch this
theorem wild_run {t : List Nat} (h : WishOk t) : phi1.call 31 [.str t] = some (.bool false) := by
  refine call_of (tx ps_is_wildcard_tag sc_is_wildcard_tag 0 ir_is_wildcard_tag) (Φ := phi0) rfl rfl rfl ?_
  refine ss_rt (s_ret ((e_or (e_cmp (e_slc (e_name (d := .str t) rfl) o_none (o_some e_int) (slc_hi (by unfold lim; lia))) (e_str (by decide)) (c_eqS.trans (congrArg some (wish_hi h _).1))) (e_cmp (e_slc (e_name (d := .str t) rfl) (o_some e_neg) o_none (slc_lo (by unfold lim; lia))) (e_str (by decide)) (c_eqS.trans (congrArg some (wish_lo h _)))))))
theorem s_defS {Φ : Phi} {Γ : Kinds} {ρ : REnv} {N x id f : Nat} {ps : List (Nat × Pos)} {b : List Stmt} {sc : List (Nat × NameKind)} {g : Bool} {p : Pos} {caps : List D} (h : scOk Γ sc = true ∧ f ≠ 0 ∧ Γ.f = f ∧ Γ.mine ρ x = true) (hc : (freeOf sc).mapM (fun x => match ρ x with | some (.sealed d) => some d | _ => none) = some caps) :
    evSt Φ N Γ ρ (.defS x id f ps b sc g p) = some (.nx (ρ.set x (.fz (.lam id caps)))) := by
  rw [x_evSt_defS, if_pos h]
  exact (congrArg (fun o : Option (List D) => o.bind fun caps => some (Out.nx (ρ.set x (.fz (.lam id caps))))) hc).trans rfl
theorem child_run {t : List Nat} (h : WishOk t) : phi2.call 33 [.nil, .tup [.str [], .str t]] = some (.lam 12 [.str t]) := by
  refine call_of (tx ps_prepare_child sc_prepare_child 33 (ir_prepare_child (thenOf (bodyAt "prepare_child")))) (Φ := phi1) rfl rfl rfl ?_
  have N0 : NoS (setArgs [60,55] [.nil, .tup [.str [], .str t]] fun _ => none) := noS0
  refine ss_nx (s_asg (e_idx (e_name (d := .tup [.str [], .str t]) rfl) e_int (z := .str t) rfl) (N0.mine rfl) rfl) (ss_nx (s_ifF (t_call (l_cons (e_name (d := .str t) rfl) l_nil) rfl (wild_run h)) (ss_nx (s_ifF (t_cmp (e_slc (e_name (d := .str t) rfl) o_none (o_some e_int) (slc_hi (by unfold lim; lia))) (e_str (by decide)) (c_eqS.trans (congrArg some (wish_hi h _).2))) ss_end) (ss_nx (s_seal (d := .str t) rfl rfl) (ss_nx (s_defS (caps := [.str t]) ⟨rfl, by decide, rfl, rfl⟩ rfl) ss_end)))) (ss_rt (s_ret (e_name set_eq))))
noncomputable def thD (q : Nat × List Nat) : D := .thing [19,20] [.int (q.1 : Int), .str q.2]
noncomputable abbrev ΓC : Kinds := kindsF gsc_prepare_child 0
noncomputable def pcBody : List Sg := yBody (gs_prepare_child.getD 0 (.newD 0 ⟨0,0,0,0⟩ ⟨0,0,0,0⟩ ⟨0,0,0,0⟩))
noncomputable def pcIn : List Sg := yBody (pcBody.getD 0 (.newD 0 ⟨0,0,0,0⟩ ⟨0,0,0,0⟩ ⟨0,0,0,0⟩))
noncomputable def Uns (ρ : REnv) (x : Nat) : Prop := ∀ d, ρ x ≠ some (.sealed d)
theorem Uns.mine {ρ : REnv} {Γ : Kinds} {x : Nat} (h : Uns ρ x) (hk : (Γ x == some .local || Γ x == some .cell) = true) : Γ.mine ρ x = true := by
  unfold Kinds.mine
  rw [hk]
  cases he : ρ x with
  | none => rfl
  | some e => cases e with
    | sealed d => exact absurd he (h d)
    | _ => rfl
theorem Uns.set {ρ : REnv} {x : Nat} (h : Uns ρ x) (y : Nat) (d : D) : Uns (ρ.set y (.fz d)) x := by
  intro e he
  unfold REnv.set at he
  split at he
  · exact nomatch he
  · exact h e he
theorem sel1 {t : List Nat} {ρ : REnv} {q : Nat × List Nat} (h20 : ρ 20 = some (.sealed (.str t))) (h58 : ρ 58 = some (.fz (thD q))) : evYs phi0 psi3 62 ΓC ρ pcIn = some (if q.2 == t then [thD q] else [], ρ) := by
  have hc : ∀ {p1 p2 p3 p4 : Pos}, evT phi0 ΓC ρ (.cmp (.attr (.name 58 p1) 20 p2) .Eq (.name 20 p3) p4) = some (q.2 == t) := fun {_ _ _ _} =>
    t_cmp (e_attr rfl (e_name h58) rfl) (e_nameS h20) c_eqS
  cases hb : q.2 == t with
  | true => exact (ye_cons (b := []) (ye_if (hc.trans (congrArg some hb)) (ye_cons (b := []) (ye_yld (d := thD q) (by unfold REnv.at; rw [h58])) ye_nil)) ye_nil).trans rfl
  | false => exact (ye_cons (b := []) (ye_ifn (hc.trans (congrArg some hb))) ye_nil).trans rfl
theorem selR {t : List Nat} : ∀ (row : List (Nat × List Nat)) {ρ : REnv}, ρ 20 = some (.sealed (.str t)) → Uns ρ 57 → Uns ρ 58 →
    ∃ ρ', evYFor ΓC 58 (fun ρ => evYs phi0 psi3 62 ΓC ρ pcIn) ρ (row.map thD) = some ((row.filter (·.2 == t)).map thD, ρ') ∧ ρ' 20 = some (.sealed (.str t)) ∧ Uns ρ' 57 ∧ Uns ρ' 58
  | [], ρ, h20, u7, u8 => ⟨ρ, by rw [List.map_nil, evYFor]; rfl, h20, u7, u8⟩
  | q :: row, ρ, h20, u7, u8 => by
    have r1 := sel1 (t := t) (q := q) (ρ := ρ.set 58 (.fz (thD q))) ((set_ne (by decide)).trans h20) set_eq
    obtain ⟨ρ2, r2, k20, v7, v8⟩ := selR row (ρ := ρ.set 58 (.fz (thD q))) ((set_ne (by decide)).trans h20) (u7.set _ _) (u8.set _ _)
    refine ⟨ρ2, (yef_cons (u8.mine rfl) r1 r2).trans ?_, k20, v7, v8⟩
    rw [List.filter_cons]
    cases hb : q.2 == t <;> simp
theorem selRs {t : List Nat} : ∀ (rows : List (List (Nat × List Nat))) {ρ : REnv}, ρ 20 = some (.sealed (.str t)) → Uns ρ 57 → Uns ρ 58 →
    ∃ ρ', evYFor ΓC 57 (fun ρ => evYs phi0 psi3 62 ΓC ρ pcBody) ρ (rows.map fun r => .list (r.map thD)) = some ((rows.flatMap fun r => r.filter (·.2 == t)).map thD, ρ')
  | [], ρ, h20, u7, u8 => ⟨ρ, by rw [List.map_nil, evYFor]; rfl⟩
  | r :: rows, ρ, h20, u7, u8 => by
    obtain ⟨ρ1, r1, k20, v7, v8⟩ := selR (t := t) r (ρ := ρ.set 57 (.fz (.list (r.map thD)))) ((set_ne (by decide)).trans h20) (u7.set _ _) (u8.set _ _)
    obtain ⟨ρ2, r2⟩ := selRs rows k20 v7 v8
    refine ⟨ρ2, (yef_cons (u7.mine rfl) (ye_cons (b := []) (ye_for (d := .list (r.map thD)) (by unfold REnv.at; rw [set_eq]) rfl r1) ye_nil) r2).trans ?_⟩
    simp
noncomputable def gx12t : Gx := ⟨gps_prepare_child.map (·.1), gsc_prepare_child, 62, gs_prepare_child⟩
theorem gen12 {t : List Nat} {rows : List (List (Nat × List Nat))} (hl : (rows.flatMap fun r => r.filter (·.2 == t)).length ≤ lim) : phi1.gen 12 [.str t, .nil, .list (rows.map fun r => .list (r.map thD))] = some ((rows.flatMap fun r => r.filter (·.2 == t)).map thD) := by
  have u : ∀ x, x ≠ 20 → Uns (setArgs [52,56] [.nil, .list (rows.map fun r => .list (r.map thD))] (capEnv [20] [.str t])) x := fun x hx d h => by
    have e : (setArgs [52,56] [.nil, .list (rows.map fun r => .list (r.map thD))] (capEnv [20] [.str t])) x = (((capEnv [20] [.str t]).set 52 (.fz .nil)).set 56 (.fz (.list (rows.map fun r => .list (r.map thD))))) x := rfl
    rw [e] at h
    have hU : Uns (capEnv [20] [.str t]) x := fun d' h' => by
      have : capEnv [20] [.str t] x = none := by simp [capEnv, hx]
      rw [this] at h'; exact nomatch h'
    exact (hU.set 52 _).set 56 _ d h
  obtain ⟨ρ', r⟩ := selRs (t := t) rows (ρ := setArgs [52,56] [.nil, .list (rows.map fun r => .list (r.map thD))] (capEnv [20] [.str t])) rfl (u 57 (by decide)) (u 58 (by decide))
  exact gen_of gx12t (Φ := phi0) rfl rfl rfl ((ye_cons (b := []) (ye_for (d := .list (rows.map fun r => .list (r.map thD))) rfl rfl r) ye_nil).trans (by rw [List.append_nil])) (by rw [List.length_map]; exact hl)
end Mine
namespace Mine
noncomputable def rowsD (g : Nat → List (Nat × List Nat)) : D := .list ((List.range 4).map fun q => .list ((g q).map thD))
theorem rows_item {g : Nat → List (Nat × List Nat)} {p : Nat} (hp : p < 4) : D.item (rowsD g) (.int (p : Int)) = some (.list ((g p).map thD)) := by
  have : p = 0 ∨ p = 1 ∨ p = 2 ∨ p = 3 := by lia
  rcases this with rfl | rfl | rfl | rfl <;> rfl
noncomputable def bkP (g : Nat → List (Nat × List Nat)) (t : List Nat) (ps : List Nat) : List Nat := ps.flatMap fun q => ((g q).filter (·.2 == t)).map (·.1)
theorem back_run {t : List Nat} {g : Nat → List (Nat × List Nat)} {ps : List Nat} (ht : WishOk t) (hp : ∀ p ∈ ps, p < 4) (hl : ps.length ≤ 100) (hb : (bkP g t ps).length ≤ 1000) : phi3.call 48 [.str t, rowsD g, pl ps] = some (pl (bkP g t ps)) := by
  refine call_of (tx ps_law_back sc_law_back 0 ir_law_back) (Φ := phi2) rfl rfl rfl ?_
  have e1 : (ps.map g).flatMap (fun r => r.filter (·.2 == t)) = ps.flatMap fun q => (g q).filter (·.2 == t) := by rw [List.flatMap_map]
  have e2 : bkP g t ps = (ps.flatMap fun q => (g q).filter (·.2 == t)).map (·.1) := by unfold bkP; rw [List.map_flatMap]
  have hlen : ((ps.map g).flatMap (fun r => r.filter (·.2 == t))).length ≤ lim := by
    rw [e1]
    rw [e2, List.length_map] at hb
    unfold lim; lia
  have hg := gen12 (t := t) (rows := ps.map g) hlen
  rw [List.map_map] at hg
  have hg' : phi2.gen 12 ([.str t] ++ [.nil, .list (ps.map fun q => .list ((g q).map thD))]) = some (((ps.map g).flatMap (fun r => r.filter (·.2 == t))).map thD) := hg
  have hpl : pl (bkP g t ps) = .list (((ps.map g).flatMap (fun r => r.filter (·.2 == t))).map fun q => .int (q.1 : Int)) := by
    rw [e1, e2]; unfold pl; rw [List.map_map]; rfl
  rw [hpl]
  exact ss_rt (s_ret (e_comp (l := (ps.map g).flatMap (fun r => r.filter (·.2 == t))) (c := thD) (k := fun q => .int (q.1 : Int)) (by rfl)
    (e_calleG (by rfl) (e_call (l_cons e_nil (l_cons (e_tup (l_cons (e_str (by decide)) (l_cons (e_name (d := .str t) rfl) l_nil)) (by show 2 ≤ lim; decide)) l_nil)) rfl (child_run ht))
      (l_cons e_nil (l_cons (e_comp (l := ps) (c := fun (p : Nat) => .int (p : Int)) (k := fun q => .list ((g q).map thD)) (by rfl) (e_name (d := pl ps) rfl) rfl (by rfl) (fun p hpp => e_idx (e_name (d := rowsD g) rfl) (e_name rfl) (rows_item (hp p hpp))) (by unfold lim; lia)) l_nil)) rfl hg')
    rfl (by rfl) (fun q hq => e_attr rfl (e_name set_eq) rfl) hlen))
theorem s_augI {Φ : Phi} {Γ : Kinds} {ρ : REnv} {N x : Nat} {i e : E} {l l' : List D} {j y : D} {p q r : Pos} (hx : ρ x = some (.own l)) (h1 : ev Φ Γ ρ i = some (.d j)) (h2 : ev Φ Γ ρ e = some (.d y)) (h3 : addAt l j y = some l') : evSt Φ N Γ ρ (.augI x i .Add e p q r) = some (.nx (ρ.set x (.own l'))) := by
  rw [x_evSt_augI]
  rw [hx]
  simp only [h1, h2, R.asD, Option.bind_eq_bind, Option.bind_some]
  rw [h3]; rfl
theorem mod6 (m : Nat) : D.bin .Mod (.int (m : Int)) (.int 6) = some (.int ((m % 6 : Nat) : Int)) := by
  show (if (0 : Int) < 6 then some (D.int (Int.fmod (m : Int) 6)) else none) = _
  rw [if_pos (by decide), Int.fmod_eq_emod_of_nonneg _ (by decide)]
  rfl
theorem int_at (l : List Int) {m : Nat} (h : m < l.length) : D.item (.list (l.map .int)) (.int (m : Int)) = some (.int (l[m])) := by
  show (seqAt (l.map D.int).length (m : Int)).bind ((l.map D.int)[·]?) = _
  have : seqAt (l.map D.int).length (m : Int) = some m := by
    unfold seqAt
    rw [if_pos (by lia), if_pos (by rw [List.length_map]; lia)]
    rfl
  rw [this]
  simp [h]
theorem add_int {cs : List Int} {j : Nat} {y : Int} (h : j < cs.length) : addAt (cs.map .int) (.int (j : Int)) (.int y) = some ((cs.set j (cs[j] + y)).map .int) := by
  show (if 0 ≤ (j : Int) ∧ (j : Int) < (cs.map D.int).length then (match (cs.map D.int)[(j : Int).toNat]? with
      | some (.int z) => some ((cs.map D.int).set (j : Int).toNat (.int (z + y)))
      | _ => none) else none) = _
  rw [if_pos ⟨Int.natCast_nonneg j, by rw [List.length_map]; exact Int.ofNat_lt.mpr h⟩, Int.toNat_natCast, List.getElem?_map, List.getElem?_eq_getElem h]
  show some ((cs.map D.int).set j (.int (cs[j] + y))) = _
  rw [List.map_set]
noncomputable def ExL : Nat → (List Int → Prop) → Prop
  | 0, P => P []
  | n + 1, P => ∃ c, ExL n fun l => P (c :: l)
theorem exL : ∀ {n : Nat} {P : List Int → Prop} {l : List Int}, l.length = n → P l → ExL n P
  | 0, _, [], _, p => p
  | n + 1, P, c :: l, h, p => ⟨c, exL (P := fun l => P (c :: l)) (Nat.succ.inj h) p⟩
theorem cells_run (l : List Int) (hl : l.length ≤ 63) : ∃ c0 c1 c2 c3 c4 c5 : Int, phi1.call 42 [.list (l.map .int)] = some (.list [.int c0, .int c1, .int c2, .int c3, .int c4, .int c5]) := by
  have key : ∀ (n m : Nat) {ρ : REnv} {cs : List Int}, cs.length = 6 → m + n ≤ l.length → NoS ρ → ρ 71 = some (.fz (.list (l.map .int))) → ρ 69 = some (.own (cs.map .int)) →
      ∃ (ρ' : REnv) (cs : List Int), evFor (kindsF sc_law_cells 0) (.name 70 ⟨172,8,172,9⟩) (fun ρ => evSs phi0 NN (kindsF sc_law_cells 0) ρ (bodyOf (ir_law_cells.getD 1 (.raw [])))) ρ ((List.range' m n).map fun (i : Nat) => .int (i : Int)) = some (.nx ρ') ∧ ρ' 69 = some (.own (cs.map .int)) ∧ cs.length = 6 := by
    intro n
    induction n with
    | zero => intro m ρ cs hc _ hN h71 h69; exact ⟨ρ, cs, f_nil, h69, hc⟩
    | succ n ih =>
      intro m ρ cs hc hm hN h71 h69
      have hlt : m < l.length := by lia
      have N1 := hN.set 70 (.int (m : Int))
      have st : evSs phi0 NN (kindsF sc_law_cells 0) (ρ.set 70 (.fz (.int (m : Int)))) (bodyOf (ir_law_cells.getD 1 (.raw []))) = some (.nx ((ρ.set 70 (.fz (.int (m : Int)))).set 69 (.own ((cs.set (m % 6) (cs[m % 6]'(by lia) + l[m])).map .int)))) :=
        ss_nx (s_augI ((set_ne (by decide)).trans h69) (e_bin (e_name set_eq) e_int (mod6 m)) (e_idx (e_name ((set_ne (by decide)).trans h71)) (e_name set_eq) (int_at l hlt)) (add_int (by lia))) ss_end
      obtain ⟨ρ', ds, r, k⟩ := ih (m + 1) (List.length_set.trans hc) (by lia) (N1.setO 69 _) ((set_ne (by decide)).trans ((set_ne (by decide)).trans h71)) set_eq
      rw [List.range'_succ, List.map_cons]
      exact ⟨ρ', ds, f_cons (hN.mine rfl) st r, k⟩
  have N0 : NoS (setArgs [71] [.list (l.map .int)] fun _ => none) := noS0
  have N1 := N0.setO 69 [.int 46, .int 38, .int 57, .int 80, .int 1, .int 6]
  obtain ⟨ρ', cs, r, k, hc⟩ := key l.length 0 (cs := [46,38,57,80,1,6]) rfl (by lia) N1 rfl set_eq
  refine exL (P := fun cs => phi1.call 42 [.list (l.map .int)] = some (.list (cs.map .int))) hc (call_of (tx ps_law_cells sc_law_cells 0 ir_law_cells) (Φ := phi0) rfl rfl rfl ?_)
  rw [← List.range_eq_range'] at r
  exact ss_nx (s_own (l_cons e_int (l_cons e_int (l_cons e_int (l_cons e_int (l_cons e_int (l_cons e_int l_nil)))))) (N0.mine rfl) (by decide)) (ss_nx (s_for (e_range (n := l.length) (e_blt (e_name (d := .list (l.map .int)) rfl) rfl (by decide) (by show some (D.int ((l.map D.int).length : Int)) = _; rw [List.length_map])) rfl (by unfold lim; lia)) rfl r) (ss_nx (s_frz k) (ss_rt (s_ret (e_name set_eq)))))
end Mine
namespace Mine
theorem pd_ints (n : Nat) (l : List Int) : (l.map D.int).mapM (D.pd (n + 1)) = some (l.map .int) := by
  induction l with
  | nil => rfl
  | cons a l ih => rw [List.map_cons, List.mapM_cons, ih]; rfl
noncomputable def pP (ps : List Nat) : PyData := .list (ps.map fun (p : Nat) => .int (p : Int))
theorem pd_pl (n : Nat) (ps : List Nat) : D.pd (n + 2) (pl ps) = some (pP ps) := by
  show ((ps.map fun (p : Nat) => D.int (p : Int)).mapM (D.pd (n + 1))).map PyData.list = _
  have := pd_ints n (ps.map fun (p : Nat) => (p : Int))
  rw [List.map_map] at this
  have e : (ps.map fun (p : Nat) => D.int (p : Int)) = ps.map (D.int ∘ fun (p : Nat) => (p : Int)) := rfl
  rw [e, this, List.map_map]; rfl
theorem pd_pls (n : Nat) (L : List (List Nat)) : (L.map pl).mapM (D.pd (n + 2)) = some (L.map pP) := by
  induction L with
  | nil => rfl
  | cons a l ih => rw [List.map_cons, List.mapM_cons, ih, pd_pl]; rfl
theorem eqvA_ints : ∀ a b : List Nat, PyData.eqvAll (a.map fun (p : Nat) => .int (p : Int)) (b.map fun (p : Nat) => .int (p : Int)) = (a == b)
  | [], [] => by simp [PyData.eqvAll]
  | [], _ :: _ => by simp [PyData.eqvAll]
  | _ :: _, [] => by simp [PyData.eqvAll]
  | x :: a, y :: b => by
    simp only [List.map_cons, PyData.eqvAll, PyData.eqv, eqvA_ints a b]
    rw [Bool.eq_iff_iff]
    simp
    intro _; lia
theorem eqv_pP (a b : List Nat) : PyData.eqv (pP a) (pP b) = (a == b) := by
  unfold pP
  exact eqvA_ints a b
theorem isIn_pl (a : List Nat) (L : List (List Nat)) : D.isIn (pl a) (L.map pl) = some (L.contains a) := by
  unfold D.isIn
  rw [pd_pl, pd_pls]
  simp only [Option.bind_eq_bind, Option.bind_some, Option.some.injEq]
  rw [List.any_map, Bool.eq_iff_iff]
  simp [Function.comp, eqv_pP]
theorem ne_nil (L : List (List Nat)) : D.cmp .NotEq (.list (L.map pl)) (.list []) = some (!L.isEmpty) := by
  have e : D.eq (.list (L.map pl)) (.list []) = some L.isEmpty := by
    show (do let p ← D.pd 5 (.list (L.map pl)); let q ← D.pd 5 (.list []); some (PyData.eqv p q)) = _
    have h1 : D.pd 5 (.list (L.map pl)) = some (.list (L.map pP)) := by
      show ((L.map pl).mapM (D.pd 4)).map PyData.list = _
      rw [pd_pls]; rfl
    have h2 : D.pd 5 (.list []) = some (.list []) := rfl
    rw [h1, h2]
    cases L <;> simp [PyData.eqv, PyData.eqvAll]
  show (D.eq (.list (L.map pl)) (.list [])).map (!·) = _
  rw [e]; rfl
theorem eq_pl (a b : List Nat) : D.cmp .Eq (pl a) (pl b) = some (a == b) := by
  show (do let p ← D.pd 5 (pl a); let q ← D.pd 5 (pl b); some (PyData.eqv p q)) = _
  rw [pd_pl, pd_pl]
  simp [eqv_pP]
theorem ne_pl (a b : List Nat) : D.cmp .NotEq (pl a) (pl b) = some (!(a == b)) := by
  show (D.eq (pl a) (pl b)).map (!·) = _
  have := eq_pl a b
  rw [show D.eq (pl a) (pl b) = _ from this]; rfl
noncomputable def sortN (l : List Nat) : List Nat := sortBy (fun a b => decide (a ≤ b)) l
theorem insBy_map {α β : Type} (f : α → β) (le : α → α → Bool) (le' : β → β → Bool) (h : ∀ a b, le' (f a) (f b) = le a b) (x : α) : ∀ l : List α, insBy le' (f x) (l.map f) = (insBy le x l).map f
  | [] => rfl
  | y :: r => by
    rw [List.map_cons, insBy, insBy, h]
    split
    · rfl
    · rw [List.map_cons, insBy_map f le le' h x r]
theorem sortBy_map {α β : Type} (f : α → β) (le : α → α → Bool) (le' : β → β → Bool) (h : ∀ a b, le' (f a) (f b) = le a b) : ∀ l : List α, sortBy le' (l.map f) = (sortBy le l).map f
  | [] => rfl
  | x :: r => by rw [List.map_cons, sortBy, sortBy, sortBy_map f le le' h r, insBy_map f le le' h]
theorem ints_map (l : List Int) : D.ints (l.map .int) = some l := by
  induction l with
  | nil => rfl
  | cons a l ih => rw [List.map_cons, D.ints, ih]; rfl
theorem sorted_pl (l : List Nat) (h : l.length < 64) : D.sorted ((l.map fun (p : Nat) => .int (p : Int))) = some (pl (sortN l)) := by
  unfold D.sorted
  rw [if_neg (by rw [List.length_map]; lia)]
  cases l with
  | nil => rfl
  | cons a l =>
    simp only [List.map_cons]
    have e : (D.int (a : Int) :: l.map fun (p : Nat) => D.int (p : Int)) = ((a :: l).map fun (p : Nat) => (p : Int)).map .int := by rw [List.map_map]; rfl
    rw [e, ints_map]
    simp only [Option.map_some]
    rw [sortBy_map (fun (p : Nat) => (p : Int)) (fun a b => decide (a ≤ b)) _ (fun a b => by simp)]
    rw [List.map_map]; rfl
noncomputable def step1 (seen fr : List (List Nat)) (x : List Nat) : List (List Nat) := if (seen ++ fr).contains x then fr else fr ++ [x]
noncomputable def freshOf (st : Nat → List Nat → List Nat) (seen level : List (List Nat)) : List (List Nat) := level.foldl (fun fr ps => step1 seen (step1 seen fr (st 0 ps)) (st 1 ps)) []
noncomputable def bfs (st : Nat → List Nat → List Nat) (size : Nat) : Nat → List (List Nat) → List (List Nat) → Nat → Option (Option Nat)
  | 0, _, _, _ => none
  | n + 1, level, seen, c => if level.isEmpty then some none else if (level.filter fun ps => ps.length == size).isEmpty then bfs st size n (freshOf st seen level) (seen ++ freshOf st seen level) (c + 1) else some (some c)
noncomputable abbrev ΓF : Kinds := kindsF sc_law_fewest 0
noncomputable def whBody : List St := match ir_law_fewest.getD 1 (.raw []) with
  | .whl _ b _ => b
  | _ => []
noncomputable def whCond : E := match ir_law_fewest.getD 1 (.raw []) with
  | .whl c _ _ => c
  | _ => .nil ⟨0,0,0,0⟩
noncomputable def fwBody : List St := bodyOf (whBody.getD 2 (.raw []))
noncomputable def wyBody : List St := bodyOf (fwBody.getD 0 (.raw []))
structure Lead (id : Nat) (caps : List D) (nx : Nat → List Nat → List Nat) (V : List Nat → Prop) : Prop where
  run : ∀ (way : Nat) (ps : List Nat), way < 2 → V ps → phi4.lam id (caps ++ [.int (way : Int), pl ps]) = some (pl (nx way ps))
  len : ∀ (way : Nat) (ps : List Nat), way < 2 → V ps → (nx way ps).length < 64
  stay : ∀ (way : Nat) (ps : List Nat), way < 2 → V ps → V (sortN (nx way ps))
  few : ∀ L : List (List Nat), L.Nodup → (∀ x ∈ L, V x) → L.length ≤ 16
  short : ∀ ps, V ps → ps.length ≤ 100
section
variable {id : Nat} {caps : List D} {nx : Nat → List Nat → List Nat} {V : List Nat → Prop}
theorem way_run (H : Lead id caps nx V) {ρ : REnv} {way : Nat} {ps : List Nat} {seen fr : List (List Nat)} (hw : way < 2) (hV : V ps) (hN : NoS ρ) (h95 : ρ 95 = some (.fz (.int (way : Int)))) (h84 : ρ 84 = some (.fz (pl ps))) (h90 : ρ 90 = some (.fz (.list (seen.map pl)))) (h94 : ρ 94 = some (.own (fr.map pl))) (h97 : ρ 97 = some (.fz (.lam id caps))) (hl : seen.length + fr.length ≤ 1000) :
    ∃ ρ', evSs phi4 NN ΓF ρ wyBody = some (.nx ρ') ∧ NoS ρ' ∧ ρ' 94 = some (.own ((step1 seen fr (sortN (nx way ps))).map pl)) ∧ ∀ y, y ≠ 94 → y ≠ 96 → ρ' y = ρ y := by
  have hlead := H.run way ps hw hV
  have hsort : D.builtin 3 [pl (nx way ps)] = some (pl (sortN (nx way ps))) := sorted_pl _ (H.len way ps hw hV)
  have N1 := hN.set 96 (pl (sortN (nx way ps)))
  have s1 : ∀ {r p1 p2 p3 p4 p5 p6 p7 p8}, evSs phi4 NN ΓF ρ (.asg 96 (.blt 3 [.callv 97 [.name 95 p1, .name 84 p2] p3 p4] p5 p6) p7 p8 :: r) = evSs phi4 NN ΓF (ρ.set 96 (.fz (pl (sortN (nx way ps))))) r := fun {r p1 p2 p3 p4 p5 p6 p7 p8} =>
    ss_nx (s_asg (e_blt (e_callv h97 (l_cons (e_name h95) (l_cons (e_name h84) l_nil)) hlead) rfl (by decide) hsort) (hN.mine rfl) rfl) rfl
  have k94 : (ρ.set 96 (.fz (pl (sortN (nx way ps))))) 94 = some (.own (fr.map pl)) := (set_ne (by decide)).trans h94
  have k90 : (ρ.set 96 (.fz (pl (sortN (nx way ps))))) 90 = some (.fz (.list (seen.map pl))) := (set_ne (by decide)).trans h90
  have hbin : D.bin .Add (.list (seen.map pl)) (.list (fr.map pl)) = some (.list ((seen ++ fr).map pl)) := by
    show mkL _ = _
    unfold mkL
    rw [if_pos (show _ ≤ 1048576 by simp; lia), List.map_append]
  have hin : D.cmp .NotIn (pl (sortN (nx way ps))) (.list ((seen ++ fr).map pl)) = some (!(seen ++ fr).contains (sortN (nx way ps))) := by
    show (D.isIn (pl (sortN (nx way ps))) ((seen ++ fr).map pl)).map (!·) = _
    rw [isIn_pl]; rfl
  have ht : ∀ {p1 p2 p3 p4 p5}, evT phi4 ΓF (ρ.set 96 (.fz (pl (sortN (nx way ps))))) (.cmp (.name 96 p1) .NotIn (.bin (.name 90 p2) .Add (.name 94 p3) p4) p5) = some (!(seen ++ fr).contains (sortN (nx way ps))) := fun {p1 p2 p3 p4 p5} =>
    t_cmp (e_name set_eq) (e_binO (e_name k90) rfl (e_nameO k94) rfl hbin) hin
  cases hc : (seen ++ fr).contains (sortN (nx way ps)) with
  | true =>
    refine ⟨_, s1.trans (ss_nx (s_ifF (ht.trans (by rw [hc]; rfl)) ss_end) ss_end), N1, ?_, fun y h1 h2 => set_ne h2⟩
    rw [k94]; unfold step1; rw [hc]; rfl
  | false =>
    refine ⟨_, s1.trans (ss_nx (s_ifT (ht.trans (by rw [hc]; rfl)) (ss_nx (s_app k94 (e_name set_eq) rfl (by rw [List.length_map]; unfold lim; lia)) ss_end)) ss_end), N1.setO 94 _, ?_, fun y h1 h2 => (set_ne h1).trans (set_ne h2)⟩
    rw [set_eq]; unfold step1; rw [hc]; simp
theorem step1_le (seen fr : List (List Nat)) (x : List Nat) : (step1 seen fr x).length ≤ fr.length + 1 := by
  unfold step1; split <;> simp
theorem ways_run (H : Lead id caps nx V) {ρ : REnv} {ps : List Nat} {seen fr : List (List Nat)} (hV : V ps) (hN : NoS ρ) (h84 : ρ 84 = some (.fz (pl ps))) (h90 : ρ 90 = some (.fz (.list (seen.map pl)))) (h94 : ρ 94 = some (.own (fr.map pl))) (h97 : ρ 97 = some (.fz (.lam id caps))) (hl : seen.length + fr.length ≤ 900) :
    ∃ ρ', evSs phi4 NN ΓF ρ fwBody = some (.nx ρ') ∧ NoS ρ' ∧ ρ' 94 = some (.own ((step1 seen (step1 seen fr (sortN (nx 0 ps))) (sortN (nx 1 ps))).map pl)) ∧ ∀ y, y ≠ 94 → y ≠ 96 → y ≠ 95 → ρ' y = ρ y := by
  obtain ⟨ρ1, r1, N1, k1, u1⟩ := way_run H (way := 0) (by decide) hV (hN.set 95 (.int ((0 : Nat) : Int))) set_eq ((set_ne (by decide)).trans h84) ((set_ne (by decide)).trans h90) ((set_ne (by decide)).trans h94) ((set_ne (by decide)).trans h97) (by lia)
  have le1 := step1_le seen fr (sortN (nx 0 ps))
  have v : ∀ y, y ≠ 94 → y ≠ 96 → y ≠ 95 → (ρ1.set 95 (.fz (.int ((1 : Nat) : Int)))) y = ρ y := fun y a b c => (set_ne c).trans ((u1 y a b).trans (set_ne c))
  obtain ⟨ρ2, r2, N2, k2, u2⟩ := way_run H (way := 1) (by decide) hV (N1.set 95 (.int ((1 : Nat) : Int))) set_eq ((v 84 (by decide) (by decide) (by decide)).trans h84) ((v 90 (by decide) (by decide) (by decide)).trans h90) ((set_ne (by decide)).trans k1) ((v 97 (by decide) (by decide) (by decide)).trans h97) (by lia)
  refine ⟨ρ2, ss_nx (s_for (e_range (n := 2) e_int rfl (by decide)) rfl (f_cons (hN.mine rfl) r1 (f_cons (N1.mine rfl) r2 f_nil))) ss_end, N2, k2, fun y a b c => (u2 y a b).trans (v y a b c)⟩
theorem level_run (H : Lead id caps nx V) {tp : Pos} {seen : List (List Nat)} : ∀ (level : List (List Nat)) {ρ : REnv} {fr : List (List Nat)}, (∀ x ∈ level, V x) → NoS ρ → ρ 90 = some (.fz (.list (seen.map pl))) → ρ 94 = some (.own (fr.map pl)) → ρ 97 = some (.fz (.lam id caps)) → seen.length + fr.length + 2 * level.length ≤ 900 →
    ∃ ρ', evFor ΓF (.name 84 tp) (fun ρ => evSs phi4 NN ΓF ρ fwBody) ρ (level.map pl) = some (.nx ρ') ∧ NoS ρ' ∧ ρ' 94 = some (.own ((level.foldl (fun fr ps => step1 seen (step1 seen fr (sortN (nx 0 ps))) (sortN (nx 1 ps))) fr).map pl)) ∧ ∀ y, y ≠ 94 → y ≠ 96 → y ≠ 95 → y ≠ 84 → ρ' y = ρ y
  | [], ρ, fr, hV, hN, h90, h94, h97, hl => ⟨ρ, f_nil, hN, h94, fun _ _ _ _ _ => rfl⟩
  | ps :: level, ρ, fr, hV, hN, h90, h94, h97, hl => by
    rw [List.length_cons] at hl
    obtain ⟨ρ1, r1, N1, k1, u1⟩ := ways_run H (hV ps (List.mem_cons_self ..)) (hN.set 84 (pl ps)) set_eq ((set_ne (by decide)).trans h90) ((set_ne (by decide)).trans h94) ((set_ne (by decide)).trans h97) (by lia)
    have le1 := step1_le seen fr (sortN (nx 0 ps))
    have le2 := step1_le seen (step1 seen fr (sortN (nx 0 ps))) (sortN (nx 1 ps))
    have v : ∀ y, y ≠ 94 → y ≠ 96 → y ≠ 95 → y ≠ 84 → ρ1 y = ρ y := fun y a b c d => (u1 y a b c).trans (set_ne d)
    obtain ⟨ρ2, r2, N2, k2, u2⟩ := level_run H level (tp := tp) (fun x hx => hV x (List.mem_cons_of_mem _ hx)) N1 ((v 90 (by decide) (by decide) (by decide) (by decide)).trans h90) k1 ((v 97 (by decide) (by decide) (by decide) (by decide)).trans h97) (by lia)
    exact ⟨ρ2, f_cons (hN.mine rfl) r1 r2, N2, k2, fun y a b c d => (u2 y a b c d).trans (v y a b c d)⟩
end
end Mine
namespace Mine
section
variable {id : Nat} {caps : List D} {nx : Nat → List Nat → List Nat} {V : List Nat → Prop}
noncomputable abbrev stOf (nx : Nat → List Nat → List Nat) (way : Nat) (ps : List Nat) : List Nat := sortN (nx way ps)
theorem step1_inv {seen fr : List (List Nat)} {x : List Nat} (h : (seen ++ fr).Nodup) : (seen ++ step1 seen fr x).Nodup := by
  unfold step1
  split
  · exact h
  · rename_i hc
    rw [← List.append_assoc]
    refine List.nodup_append.mpr ⟨h, by simp, fun a ha b hb e => ?_⟩
    rw [List.mem_singleton] at hb
    subst hb; subst e
    exact hc (by simpa using ha)
theorem step1_all {seen fr : List (List Nat)} {x : List Nat} {P : List Nat → Prop} (h : ∀ y ∈ fr, P y) (hx : P x) : ∀ y ∈ step1 seen fr x, P y := by
  unfold step1
  split
  · exact h
  · intro y hy
    rcases List.mem_append.mp hy with hy | hy
    · exact h y hy
    · rw [List.mem_singleton] at hy; exact hy ▸ hx
theorem fresh_inv (H : Lead id caps nx V) {seen : List (List Nat)} : ∀ (level fr : List (List Nat)), (∀ x ∈ level, V x) → (∀ x ∈ fr, V x) → (seen ++ fr).Nodup →
    (seen ++ level.foldl (fun fr ps => step1 seen (step1 seen fr (stOf nx 0 ps)) (stOf nx 1 ps)) fr).Nodup ∧ ∀ x ∈ level.foldl (fun fr ps => step1 seen (step1 seen fr (stOf nx 0 ps)) (stOf nx 1 ps)) fr, V x
  | [], fr, hV, hf, hn => ⟨hn, hf⟩
  | ps :: level, fr, hV, hf, hn => by
    have hv := hV ps (List.mem_cons_self ..)
    exact fresh_inv H level _ (fun x hx => hV x (List.mem_cons_of_mem _ hx)) (step1_all (step1_all hf (H.stay 0 ps (by decide) hv)) (H.stay 1 ps (by decide) hv)) (step1_inv (step1_inv hn))
theorem intEq (a b : Nat) : ((a : Int) == (b : Int)) = (a == b) := by
  rw [Bool.eq_iff_iff]; simp; lia
structure LoopI (id : Nat) (caps : List D) (size : Nat) (level seen : List (List Nat)) (c : Nat) (ρ : REnv) : Prop where
  n : NoS ρ
  h92 : ρ 92 = some (.fz (.list (level.map pl)))
  h90 : ρ 90 = some (.fz (.list (seen.map pl)))
  h91 : ρ 91 = some (.fz (.int (c : Int)))
  h93 : ρ 93 = some (.fz (.int (size : Int)))
  h97 : ρ 97 = some (.fz (.lam id caps))
theorem loop_run (H : Lead id caps nx V) {size : Nat} : ∀ (n : Nat) {level seen : List (List Nat)} {c : Nat} {ρ : REnv} {r : Option Nat}, bfs (stOf nx) size n level seen c = some r → LoopI id caps size level seen c ρ → level.Nodup → (∀ x ∈ level, V x) → seen.Nodup → (∀ x ∈ seen, V x) →
    (r = none → ∃ ρ', evWh (fun ρ => evT phi4 ΓF ρ whCond) (fun ρ => evSs phi4 NN ΓF ρ whBody) n ρ = some (.nx ρ')) ∧ ∀ k, r = some k → evWh (fun ρ => evT phi4 ΓF ρ whCond) (fun ρ => evSs phi4 NN ΓF ρ whBody) n ρ = some (.rt (.int (k : Int)))
  | 0, _, _, _, _, _, h, _, _, _, _, _ => by cases h
  | n + 1, level, seen, c, ρ, r, h, I, hn, hv, hsn, hsv => by
    unfold bfs at h
    have hc : evT phi4 ΓF ρ whCond = some (!level.isEmpty) := t_cmp (e_name I.h92) (e_list l_nil (by decide)) (ne_nil level)
    have l16 := H.few level hn hv
    have s16 := H.few seen hsn hsv
    by_cases h0 : level.isEmpty = true
    · rw [if_pos h0] at h
      obtain rfl := Option.some.inj h
      refine ⟨fun _ => ⟨ρ, ?_⟩, fun k hk => by cases hk⟩
      rw [evWh, hc, h0]; rfl
    rw [if_neg h0] at h
    have h0' : level.isEmpty = false := by simpa using h0
    rw [h0'] at hc
    have hg : ∀ {p1 p2 p3 p4 p5 p6 p7 p8 p9 p10 p11}, evT phi4 ΓF ρ (.cmp (.comp (.name 84 p1) [(.mk (.name 84 p2) (.name 92 p3) [(.cmp (.blt 0 [(.name 84 p4)] p5 p6) .Eq (.name 93 p7) p8)])] [(85, .local), (84, .local), (0, .globalImplicit), (93, .free)] p9) .NotEq (.list [] p10) p11) = some (!(level.filter fun ps => ps.length == size).isEmpty) := fun {p1 p2 p3 p4 p5 p6 p7 p8 p9 p10 p11} =>
      t_cmp (e_compIf (l := level) (c := pl) (k := pl) (b := fun ps => ps.length == size) (by rfl) (e_name I.h92) rfl (by rfl)
        (fun ps hps => t_cmp (x := .int (ps.length : Int)) (e_blt (e_name set_eq) (by rfl) (by decide) (by show some (D.int (_ : Int)) = _; rw [List.length_map])) (e_name ((set_ne (by decide)).trans I.h93)) (c_eqI.trans (congrArg some (intEq _ _))))
        (fun ps hps _ => e_name set_eq) (by unfold lim; lia)) (e_list l_nil (by decide)) (ne_nil _)
    by_cases h1 : (level.filter fun ps => ps.length == size).isEmpty = true
    · rw [if_pos h1] at h
      rw [h1] at hg
      obtain ⟨ρ2, r2, N2, k2, u2⟩ := level_run H (tp := ⟨214,12,214,18⟩) (seen := seen) level (fr := []) hv (I.n.setO 94 []) ((set_ne (by decide)).trans I.h90) set_eq ((set_ne (by decide)).trans I.h97) (by simp; lia)
      have v : ∀ y, y ≠ 94 → y ≠ 96 → y ≠ 95 → y ≠ 84 → ρ2 y = ρ y := fun y a b c d => (u2 y a b c d).trans (set_ne a)
      have hf := fresh_inv H level [] hv (fun x hx => by cases hx) (by simpa using hsn)
      let fr := freshOf (stOf nx) seen level
      have hf1 : (seen ++ fr).Nodup := hf.1
      have hf2 : ∀ x ∈ fr, V x := hf.2
      have k2' : ρ2 94 = some (.own (fr.map pl)) := k2
      have sv : ∀ x ∈ seen ++ fr, V x := fun x hx => (List.mem_append.mp hx).elim (hsv x) (hf2 x)
      have sf16 := H.few (seen ++ fr) hf1 sv
      rw [List.length_append] at sf16
      have N3 := N2.set 94 (.list (fr.map pl))
      have hbin : D.bin .Add (.list (seen.map pl)) (.list (fr.map pl)) = some (.list ((seen ++ fr).map pl)) := by
        show mkL _ = _
        unfold mkL
        rw [if_pos (show _ ≤ 1048576 by simp; lia), List.map_append]
      have hb2 : D.bin .Add (.int (c : Int)) (.int 1) = some (.int ((c + 1 : Nat) : Int)) := rfl
      have l93 : ((((ρ2.set 94 (.fz (.list (fr.map pl)))).set 92 (.fz (.list (fr.map pl)))).set 90 (.fz (.list ((seen ++ fr).map pl)))).set 91 (.fz (.int ((c + 1 : Nat) : Int)))) 93 = some (.fz (.int (size : Int))) := by
        rw [set_ne (by decide), set_ne (by decide), set_ne (by decide), set_ne (by decide)]; exact (v 93 (by decide) (by decide) (by decide) (by decide)).trans I.h93
      have l97 : ((((ρ2.set 94 (.fz (.list (fr.map pl)))).set 92 (.fz (.list (fr.map pl)))).set 90 (.fz (.list ((seen ++ fr).map pl)))).set 91 (.fz (.int ((c + 1 : Nat) : Int)))) 97 = some (.fz (.lam id caps)) := by
        rw [set_ne (by decide), set_ne (by decide), set_ne (by decide), set_ne (by decide)]; exact (v 97 (by decide) (by decide) (by decide) (by decide)).trans I.h97
      have I' : LoopI id caps size fr (seen ++ fr) (c + 1) (setAll [(92, ⟨219,8,219,13⟩), (90, ⟨219,15,219,19⟩), (91, ⟨219,21,219,26⟩)] [.list (fr.map pl), .list ((seen ++ fr).map pl), .int ((c + 1 : Nat) : Int)] (ρ2.set 94 (.fz (.list (fr.map pl))))) :=
        ⟨((N3.set 92 _).set 90 _).set 91 _, rfl, rfl, rfl, l93, l97⟩
      have run : evSs phi4 NN ΓF ρ whBody = some (.nx (setAll [(92, ⟨219,8,219,13⟩), (90, ⟨219,15,219,19⟩), (91, ⟨219,21,219,26⟩)] [.list (fr.map pl), .list ((seen ++ fr).map pl), .int ((c + 1 : Nat) : Int)] (ρ2.set 94 (.fz (.list (fr.map pl)))))) :=
        ss_nx (s_ifF hg ss_end) (ss_nx (s_own l_nil (I.n.mine rfl) (by decide)) (ss_nx (s_for (e_name ((set_ne (by decide)).trans I.h92)) rfl r2) (ss_nx (s_frz k2') (ss_nx (s_asgT (l_cons (e_name set_eq) (l_cons (e_bin (e_name ((set_ne (by decide)).trans ((v 90 (by decide) (by decide) (by decide) (by decide)).trans I.h90))) (e_name set_eq) hbin) (l_cons (e_bin (e_name ((set_ne (by decide)).trans ((v 91 (by decide) (by decide) (by decide) (by decide)).trans I.h91))) e_int hb2) l_nil))) rfl rfl (by decide) (by simp only [List.all_cons, List.all_nil, N3.mine (Γ := ΓF) (x := 92) rfl, N3.mine (Γ := ΓF) (x := 90) rfl, N3.mine (Γ := ΓF) (x := 91) rfl]; rfl) (by show 3 ≤ lim; decide)) ss_end))))
      have ih := loop_run H n h I' (List.nodup_append.mp hf1).2.1 hf2 hf1 sv
      have e : evWh (fun ρ => evT phi4 ΓF ρ whCond) (fun ρ => evSs phi4 NN ΓF ρ whBody) (n + 1) ρ = evWh (fun ρ => evT phi4 ΓF ρ whCond) (fun ρ => evSs phi4 NN ΓF ρ whBody) n (setAll [(92, ⟨219,8,219,13⟩), (90, ⟨219,15,219,19⟩), (91, ⟨219,21,219,26⟩)] [.list (fr.map pl), .list ((seen ++ fr).map pl), .int ((c + 1 : Nat) : Int)] (ρ2.set 94 (.fz (.list (fr.map pl))))) := by
        rw [evWh, hc]
        simp only [Option.bind_eq_bind, Option.bind_some, Bool.not_false, if_true]
        rw [run]; rfl
      rw [e]; exact ih
    · rw [if_neg h1] at h
      have h1' : (level.filter fun ps => ps.length == size).isEmpty = false := by simpa using h1
      rw [h1'] at hg
      obtain rfl := Option.some.inj h
      refine ⟨fun hh => (by cases hh), fun k hk => ?_⟩
      obtain rfl := Option.some.inj hk
      rw [evWh, hc]
      have run : evSs phi4 NN ΓF ρ whBody = some (.rt (.int (c : Int))) := ss_rt (s_ifT hg (ss_rt (s_ret (e_name I.h91))))
      simp only [Option.bind_eq_bind, Option.bind_some, Bool.not_false, if_true]
      rw [run]; rfl
noncomputable def optD : Option Nat → D
  | none => .nil
  | some c => .int (c : Int)
theorem fewest_run (H : Lead id caps nx V) {size : Nat} {level : List (List Nat)} {r : Option Nat} (h : bfs (stOf nx) size NN level level 0 = some r) (hn : level.Nodup) (hv : ∀ x ∈ level, V x) : phi5.call 49 [.list (level.map pl), .int (size : Int), .lam id caps] = some (optD r) := by
  refine call_of (tx ps_law_fewest sc_law_fewest 0 ir_law_fewest) (Φ := phi4) rfl rfl rfl ?_
  have N0 : NoS (setArgs [92,93,97] [.list (level.map pl), .int (size : Int), .lam id caps] fun _ => none) := noS0
  have I : LoopI id caps size level level 0 (setAll [(90, ⟨209,4,209,8⟩), (91, ⟨209,10,209,15⟩)] [.list (level.map pl), .int ((0 : Nat) : Int)] (setArgs [92,93,97] [.list (level.map pl), .int (size : Int), .lam id caps] fun _ => none)) :=
    ⟨(N0.set 90 _).set 91 _, rfl, rfl, rfl, rfl, rfl⟩
  have hl := loop_run H NN h I hn hv hn hv
  have s1 : ∀ {o}, (evSs phi4 NN ΓF (setAll [(90, ⟨209,4,209,8⟩), (91, ⟨209,10,209,15⟩)] [.list (level.map pl), .int ((0 : Nat) : Int)] (setArgs [92,93,97] [.list (level.map pl), .int (size : Int), .lam id caps] fun _ => none)) (ir_law_fewest.drop 1) = o) → evSs phi4 NN ΓF (setArgs [92,93,97] [.list (level.map pl), .int (size : Int), .lam id caps] fun _ => none) ir_law_fewest = o := fun {o} ho =>
    ss_nx (s_asgT (l_cons (e_name (d := .list (level.map pl)) rfl) (l_cons e_int l_nil)) rfl rfl (by decide) (by rfl) (by show 2 ≤ lim; decide)) ho
  cases r with
  | none =>
    obtain ⟨ρ', hr⟩ := hl.1 rfl
    exact s1 (ss_nx (by rw [x_evSt_whl]; exact hr) (ss_rt (s_ret e_nil)))
  | some k => exact s1 (ss_rt (by rw [x_evSt_whl]; exact hl.2 k rfl))
end
end Mine
namespace Mine
noncomputable def prD (q : Nat × Nat) : D := .tup [.int (q.1 : Int), .int (q.2 : Int)]
noncomputable def prP (q : Nat × Nat) : PyData := .tuple [.int (q.1 : Int), .int (q.2 : Int)]
theorem pd_prs (n : Nat) (L : List (Nat × Nat)) : (L.map prD).mapM (D.pd (n + 2)) = some (L.map prP) := by
  induction L with
  | nil => rfl
  | cons a l ih => rw [List.map_cons, List.mapM_cons, ih]; rfl
theorem eqv_prP (a b : Nat × Nat) : PyData.eqv (prP a) (prP b) = (a == b) := by
  obtain ⟨a1, a2⟩ := a
  obtain ⟨b1, b2⟩ := b
  unfold prP
  rw [Bool.eq_iff_iff]
  simp [PyData.eqv, PyData.eqvAll]
  lia
theorem isIn_pr (a : Nat × Nat) (L : List (Nat × Nat)) : D.cmp .In (prD a) (.list (L.map prD)) = some (L.contains a) := by
  show D.isIn (prD a) (L.map prD) = _
  unfold D.isIn
  rw [pd_prs, show D.pd 5 (prD a) = some (prP a) from rfl]
  simp only [Option.bind_eq_bind, Option.bind_some, Option.some.injEq]
  rw [List.any_map, Bool.eq_iff_iff]
  simp [Function.comp, eqv_prP]
noncomputable def wl (w : Nat → Nat) : List Nat := (List.range 4).map w
theorem wl_item {w : Nat → Nat} {p : Nat} (hp : p < 4) : D.item (pl (wl w)) (.int (p : Int)) = some (.int (w p : Int)) := by
  have : p = 0 ∨ p = 1 ∨ p = 2 ∨ p = 3 := by lia
  rcases this with rfl | rfl | rfl | rfl <;> rfl
noncomputable def pairs6 : List (Nat × Nat) := [(0,1), (0,2), (1,2), (0,3), (1,3), (2,3)]
noncomputable def meetB (met : List (Nat × Nat)) (q : Nat × Nat) (w : Nat → Nat) : Bool := (w q.1 == w q.2) || (met.contains (w q.1, w q.2) || (met.contains (w q.2, w q.1) || false))
noncomputable def meetS (w0 w1 : Nat → Nat) (met : List (Nat × Nat)) : List (Nat × Nat) := pairs6.filter fun q => !([w0, w1].filter (meetB met q)).isEmpty
noncomputable def meetN (w0 w1 : Nat → Nat) : Nat → List (Nat × Nat) → List (Nat × Nat)
  | 0, m => m
  | n + 1, m => meetN w0 w1 n (meetS w0 w1 m)
noncomputable abbrev ΓM : Kinds := kindsF sc_law_meet 0
noncomputable def mtBody : List St := bodyOf (ir_law_meet.getD 2 (.raw []))
theorem evLoop_tup {α β : Type} {sc : List (Nat × NameKind)} {xs : List (Nat × Pos)} {k : Nat} {tp : Pos} {ρ : REnv} {body : REnv → Option (List β)} {g : α → List β} {c : α → List D} (hf : (Tg.tup xs k tp).fit sc ρ = true) : ∀ l : List α, (∀ a ∈ l, xs.length = (c a).length) → (∀ a ∈ l, body ((xs.zip (c a)).foldl (fun ρ q => ρ.set q.1.1 (.fz q.2)) ρ) = some (g a)) → evLoop sc (.tup xs k tp) body ρ (l.map fun a => .tup (c a)) = some (l.flatMap g)
  | [], _, _ => rfl
  | a :: l, hc, h => by
    rw [List.map_cons, x_evLoop_cons, if_pos hf]
    simp only [bindT, if_pos (hc a (List.mem_cons_self ..)), Option.bind_eq_bind, Option.bind_some]
    rw [h a (List.mem_cons_self ..), evLoop_tup hf l (fun b hb => hc b (List.mem_cons_of_mem _ hb)) fun b hb => h b (List.mem_cons_of_mem _ hb)]
    simp
theorem e_compIfT {Φ : Phi} {Γ : Kinds} {ρ : REnv} {p : Pos} {α : Type} {elt it t : E} {xs : List (Nat × Pos)} {kt : Nat} {tp : Pos} {sc : List (Nat × NameKind)} {r : R} {l : List α} {c : α → List D} {k : α → D} {b : α → Bool} (ho : scOk Γ sc = true) (h1 : ev Φ Γ ρ it = some r) (h2 : r.asI = some (l.map fun a => .tup (c a))) (hf : (Tg.tup xs kt tp).fit sc (ρ.cut sc) = true) (hc : ∀ a ∈ l, xs.length = (c a).length)
    (ht : ∀ a ∈ l, evT Φ (kindsIn Γ sc) (setAll xs (c a) (ρ.cut sc)) t = some (b a)) (h : ∀ a ∈ l, b a = true → ev Φ (kindsIn Γ sc) (setAll xs (c a) (ρ.cut sc)) elt = some (.d (k a))) (hl : l.length ≤ lim) :
    ev Φ Γ ρ (.comp elt [.mk (.tup xs kt tp) it [t]] sc p) = some (.d (.list ((l.filter b).map k))) := by
  rw [x_ev_comp1, if_pos ho, h1]
  simp only [Option.bind_eq_bind, Option.bind_some, h2]
  rw [evLoop_tup (g := fun a => if b a then [k a] else []) hf l hc fun a ha => ?_]
  · have := List.length_filter_le b l
    rw [flat_if]; simp [mkL]; lia
  · have ht' := ht a ha
    have h' := h a ha
    unfold setAll at ht' h'
    simp only [x_evC_cons, x_evC_nil, ht', Option.bind_eq_bind, Option.bind_some]
    cases hb : b a
    · simp
    · simp [x_evG_nil, h' hb, R.asD]
theorem met_step {w0 w1 : Nat → Nat} {ρ : REnv} {met : List (Nat × Nat)} (hN : NoS ρ) (h98 : ρ 98 = some (.fz (.list (pairs6.map prD)))) (h99 : ρ 99 = some (.fz (.list (met.map prD)))) (h100 : ρ 100 = some (.fz (.list ([w0, w1].map fun w => pl (wl w))))) :
    evSs phi0 NN ΓM ρ mtBody = some (.nx (ρ.set 99 (.fz (.list ((meetS w0 w1 met).map prD))))) := by
  refine ss_nx (s_asg (e_compIfT (l := pairs6) (c := fun q : Nat × Nat => [.int (q.1 : Int), .int (q.2 : Int)]) (k := prD) (b := fun q => !([w0, w1].filter (meetB met q)).isEmpty) (by rfl) (e_name h98) rfl (by rfl) (fun a _ => rfl) (fun q hq => ?_) (fun q hq _ => ?_) (by decide)) (hN.mine rfl) rfl) ss_end
  · have hq4 : q.1 < 4 ∧ q.2 < 4 := by
      have : pairs6.all (fun q => decide (q.1 < 4 ∧ q.2 < 4)) = true := by decide
      simpa using List.all_eq_true.mp this q hq
    have e : ∀ L : List (Nat → Nat), (!L.isEmpty) = (!(L.map wl).isEmpty) := fun L => by cases L <;> rfl
    rw [e]
    refine t_cmp (e_compIf (l := [w0, w1]) (c := fun w => pl (wl w)) (k := fun w => pl (wl w)) (b := meetB met q) (by rfl) (e_name h100) rfl (by rfl) (fun w hw => ?_) (fun w hw _ => e_name set_eq) (by show 2 ≤ lim; decide)) (e_list l_nil (by decide)) ?_
    · have i1 := wl_item (w := w) hq4.1
      have i2 := wl_item (w := w) hq4.2
      exact t_bop (b_or (t_cmp (e_idx (e_name set_eq) (e_name rfl) i1) (e_idx (e_name set_eq) (e_name rfl) i2) (c_eqI.trans (congrArg some (intEq _ _))))
        (b_or (t_cmp (e_tup (l_cons (e_idx (e_name set_eq) (e_name rfl) i1) (l_cons (e_idx (e_name set_eq) (e_name rfl) i2) l_nil)) (by show 2 ≤ lim; decide)) (e_name h99) (isIn_pr (w q.1, w q.2) met))
          (b_or (t_cmp (e_tup (l_cons (e_idx (e_name set_eq) (e_name rfl) i2) (l_cons (e_idx (e_name set_eq) (e_name rfl) i1) l_nil)) (by show 2 ≤ lim; decide)) (e_name h99) (isIn_pr (w q.2, w q.1) met)) b_or0)))
    · have := ne_nil (([w0, w1].filter (meetB met q)).map wl)
      rw [List.map_map] at this
      exact this
  · exact e_tup (l_cons (e_name rfl) (l_cons (e_name rfl) l_nil)) (by show 2 ≤ lim; decide)
theorem mets_run {w0 w1 : Nat → Nat} {tp : Pos} : ∀ (l : List D) {ρ : REnv} {met : List (Nat × Nat)}, NoS ρ → ρ 98 = some (.fz (.list (pairs6.map prD))) → ρ 99 = some (.fz (.list (met.map prD))) → ρ 100 = some (.fz (.list ([w0, w1].map fun w => pl (wl w)))) →
    ∃ ρ', evFor ΓM (.name 70 tp) (fun ρ => evSs phi0 NN ΓM ρ mtBody) ρ l = some (.nx ρ') ∧ ρ' 99 = some (.fz (.list ((meetN w0 w1 l.length met).map prD)))
  | [], ρ, met, hN, h98, h99, h100 => ⟨ρ, f_nil, h99⟩
  | d :: l, ρ, met, hN, h98, h99, h100 => by
    have N1 := hN.set 70 d
    obtain ⟨ρ2, r2, k2⟩ := mets_run l (tp := tp) (N1.set 99 (.list ((meetS w0 w1 met).map prD))) ((set_ne (by decide)).trans ((set_ne (by decide)).trans h98)) set_eq ((set_ne (by decide)).trans ((set_ne (by decide)).trans h100))
    exact ⟨ρ2, f_cons (hN.mine rfl) (met_step N1 ((set_ne (by decide)).trans h98) ((set_ne (by decide)).trans h99) ((set_ne (by decide)).trans h100)) r2, k2⟩
theorem meet_run (w0 w1 : Nat → Nat) : phi1.call 50 [.list ([w0, w1].map fun w => pl (wl w))] = some (.bool ((meetN w0 w1 6 []).length == 6)) := by
  refine call_of (tx ps_law_meet sc_law_meet 0 ir_law_meet) (Φ := phi0) rfl rfl rfl ?_
  have N0 : NoS (setArgs [100] [.list ([w0, w1].map fun w => pl (wl w))] fun _ => none) := noS0
  have N1 := N0.set 98 (.list (pairs6.map prD))
  have N2 := N1.set 99 (.list [])
  obtain ⟨ρ3, r3, k3⟩ := mets_run (w0 := w0) (w1 := w1) (tp := ⟨224,8,224,9⟩) ((List.range 6).map fun (i : Nat) => D.int (i : Int)) (met := []) N2 rfl rfl rfl
  rw [List.length_map, List.length_range] at k3
  exact ss_nx (s_asg (d := .list (pairs6.map prD)) (by rfl) (N0.mine rfl) rfl) (ss_nx (s_asg (e_list l_nil (by decide)) (N1.mine rfl) rfl) (ss_nx (s_for (e_range (n := 6) e_int rfl (by decide)) rfl r3) (ss_rt (s_ret (e_cmp (x := .int ((meetN w0 w1 6 []).length : Int)) (e_blt (e_name k3) rfl (by decide) (by show some (D.int (_ : Int)) = _; rw [List.length_map])) e_int (c_eqI.trans (congrArg some (intEq _ 6))))))))
end Mine
namespace Mine
theorem lam_of {Φ' Φ : Phi} {N : Nat} {Ψ : Nat → D → Option D} {tF : Nat → Option Tx} {tL : Nat → Option Lx} {tG : Nat → Option Gx} {i : Nat} {all : List D} {d : D} (t : Lx) (e : Φ' = Φ.up N Ψ tF tL tG) (ht : tL i = some t) (hl : (freeOf t.sc).length + t.ps.length = all.length)
    (h : ev Φ (kindsF t.sc 0) (setArgs t.ps (all.drop (freeOf t.sc).length) (capEnv (freeOf t.sc) (all.take (freeOf t.sc).length))) t.e = some (.d d)) : Φ'.lam i all = some d := by
  subst e
  show (match tL i with | some t => runL Φ t all | none => Φ.lam i all) = _
  rw [ht]
  show runL Φ t all = _
  unfold runL
  rw [if_pos hl, h]
  rfl
theorem lam_skip {Φ' Φ : Phi} {N : Nat} {Ψ : Nat → D → Option D} {tF : Nat → Option Tx} {tL : Nat → Option Lx} {tG : Nat → Option Gx} {i : Nat} {all : List D} (e : Φ' = Φ.up N Ψ tF tL tG) (ht : tL i = none) : Φ'.lam i all = Φ.lam i all := by
  subst e
  show (match tL i with | some t => runL Φ t all | none => Φ.lam i all) = _
  rw [ht]
structure Dt where
  w : Nat → Nat → Nat
  S : Nat → List Nat
  T : Nat → List Nat
  g : Nat → List (Nat × List Nat)
  row : List Nat
variable (t : Dt)
noncomputable def Dt.ways : D := .list ([t.w 0, t.w 1].map fun w => pl (wl w))
noncomputable def Dt.ctxs : D := .list [ctxD t.S (t.w 0), ctxD t.S (t.w 1)]
noncomputable def Dt.wish : D := .list [.str (t.T 0), .str (t.T 1)]
structure Dt.Ok : Prop where
  s : SOk t.S
  w4 : ∀ n p, n < 2 → p < 4 → t.w n p < 4
  wish : ∀ n, n < 2 → WishOk (t.T n)
  row2 : ∀ n ∈ t.row, n < 2
  row4 : t.row.length = 4
  bk : ∀ n q, n < 2 → q < 4 → ((t.g q).filter (·.2 == t.T n)).map (·.1) = (List.range 4).filter fun p => t.w n p == q
theorem ways_item {n : Nat} (hn : n < 2) : D.item t.ways (.int (n : Int)) = some (pl (wl (t.w n))) := by
  have : n = 0 ∨ n = 1 := by lia
  rcases this with rfl | rfl <;> rfl
theorem ctxs_item {n : Nat} (hn : n < 2) : D.item t.ctxs (.int (n : Int)) = some (ctxD t.S (t.w n)) := by
  have : n = 0 ∨ n = 1 := by lia
  rcases this with rfl | rfl <;> rfl
theorem wish_item {n : Nat} (hn : n < 2) : D.item t.wish (.int (n : Int)) = some (.str (t.T n)) := by
  have : n = 0 ∨ n = 1 := by lia
  rcases this with rfl | rfl <;> rfl
theorem line_item {line : List Nat} {j : Nat} (h : j < line.length) : D.item (pl line) (.int (j : Int)) = some (.int ((line.getD j 0 : Nat) : Int)) := by
  show (seqAt (line.map fun (p : Nat) => D.int (p : Int)).length (j : Int)).bind ((line.map fun (p : Nat) => D.int (p : Int))[·]?) = _
  have : seqAt (line.map fun (p : Nat) => D.int (p : Int)).length (j : Int) = some j := by
    unfold seqAt
    rw [if_pos (by lia), if_pos (by rw [List.length_map]; lia)]
    rfl
  rw [this]
  simp [h, List.getD]
variable {t}
theorem onP_lt {f : Nat → Nat} {ps : List Nat} (hf : ∀ p, p < 4 → f p < 4) (hp : ∀ p ∈ ps, p < 4) : ∀ p ∈ onP f ps, p < 4 := by
  have key : ∀ (xs ks : List Nat), (∀ p ∈ xs, p < 4) → ∀ p ∈ newL ks xs, p < 4 := by
    intro xs
    induction xs with
    | nil => intro ks _ p h; cases h
    | cons x xs ih =>
      intro ks h p hp
      rw [newL_cons] at hp
      split at hp
      · exact ih ks (fun y hy => h y (List.mem_cons_of_mem _ hy)) p hp
      · rcases List.mem_cons.mp hp with rfl | hp
        · exact h _ (List.mem_cons_self ..)
        · exact ih _ (fun y hy => h y (List.mem_cons_of_mem _ hy)) p hp
  refine key _ _ fun p hp' => ?_
  obtain ⟨q, hq, rfl⟩ := List.mem_map.mp hp'
  exact hf q (hp q hq)
theorem onP_le {f : Nat → Nat} {ps : List Nat} : (onP f ps).length ≤ ps.length := by
  have := newL_le (ps.map f) []
  rwa [List.length_map] at this
noncomputable def preP (f : Nat → Nat) (ps : List Nat) : List Nat := ps.flatMap fun q => (List.range 4).filter fun p => f p == q
theorem bk_pre (H : t.Ok) {n : Nat} (hn : n < 2) : ∀ ps : List Nat, (∀ p ∈ ps, p < 4) → bkP t.g (t.T n) ps = preP (t.w n) ps
  | [], _ => rfl
  | q :: ps, h => by
    unfold bkP preP
    rw [List.flatMap_cons, List.flatMap_cons, H.bk n q hn (h q (List.mem_cons_self ..))]
    have := bk_pre H hn ps fun p hp => h p (List.mem_cons_of_mem _ hp)
    unfold bkP preP at this
    rw [this]
theorem preP_lt {f : Nat → Nat} {ps : List Nat} : ∀ p ∈ preP f ps, p < 4 := by
  intro p hp
  unfold preP at hp
  rw [List.mem_flatMap] at hp
  obtain ⟨q, _, hp⟩ := hp
  have := (List.mem_filter.mp hp).1
  simpa using this
theorem preP_le {f : Nat → Nat} : ∀ {ps : List Nat}, (preP f ps).length ≤ 4 * ps.length
  | [] => Nat.le_refl _
  | q :: ps => by
    have ih := preP_le (f := f) (ps := ps)
    have h4 := List.length_filter_le (fun p => f p == q) (List.range 4)
    rw [List.length_range] at h4
    unfold preP at ih ⊢
    rw [List.flatMap_cons, List.length_append, List.length_cons]
    lia
noncomputable def lx0t : Lx := ⟨lps_0.map (·.1), lsc_0, lamb_0⟩
noncomputable def lx1t : Lx := ⟨lps_1.map (·.1), lsc_1, lamb_1⟩
theorem lead0 (H : t.Ok) {way : Nat} {ps : List Nat} (hw : way < 2) (hp : ∀ p ∈ ps, p < 4) (hl : ps.length ≤ 20) : phi4.lam 0 ([.lam 11 [], t.ctxs, namesD t.S] ++ [.int (way : Int), pl ps]) = some (pl (onP (t.w way) ps)) := by
  refine (lam_skip (Φ := phi3) rfl rfl).trans ?_
  refine lam_of lx0t (Φ := phi2) rfl rfl rfl ?_
  exact e_call (l_cons (e_nameS (d := .lam 11 []) rfl) (l_cons (e_idx (e_nameS (d := t.ctxs) rfl) (e_name (d := .int (way : Int)) rfl) (ctxs_item t hw)) (l_cons (e_nameS (d := namesD t.S) rfl) (l_cons (e_name (d := pl ps) rfl) l_nil)))) rfl (on_run H.s hp hl)
theorem lead1 (H : t.Ok) {way : Nat} {ps : List Nat} (hw : way < 2) (hp : ∀ p ∈ ps, p < 4) (hl : ps.length ≤ 20) : phi4.lam 1 ([rowsD t.g, t.wish] ++ [.int (way : Int), pl ps]) = some (pl (preP (t.w way) ps)) := by
  refine lam_of lx1t (Φ := phi3) rfl rfl rfl ?_
  have e := bk_pre H hw ps hp
  have h4 := preP_le (f := t.w way) (ps := ps)
  rw [← e] at h4
  have := back_run (H.wish way hw) hp (by lia) (g := t.g) (by lia)
  rw [e] at this
  exact e_call (l_cons (e_idx (e_nameS (d := t.wish) rfl) (e_name (d := .int (way : Int)) rfl) (wish_item t hw)) (l_cons (e_nameS (d := rowsD t.g) rfl) (l_cons (e_name (d := pl ps) rfl) l_nil))) rfl this
noncomputable abbrev ΓL : Kinds := kindsF sc_law 51
structure LawE (t : Dt) (ρ : REnv) : Prop where
  h100 : ρ 100 = some (.fz t.ways)
  h86 : ρ 86 = some (.sealed (.lam 11 []))
  h109 : ρ 109 = some (.sealed t.ctxs)
  h82 : ρ 82 = some (.sealed (namesD t.S))
  h87 : ρ 87 = some (.sealed (rowsD t.g))
  h108 : ρ 108 = some (.sealed t.wish)
  h111 : ρ 111 = some (.fz (pl t.row))
  u : ∀ x ∈ [103,112,84,88,114,115], Uns ρ x
theorem LawE.set {ρ : REnv} (h : LawE t ρ) {x : Nat} (d : D) (hx : x ∈ [103,112,84,88,114,115]) : LawE t (ρ.set x (.fz d)) := by
  have e : ∀ y, y ∉ [103,112,84,88,114,115] → (ρ.set x (.fz d)) y = ρ y := fun y hy => set_ne fun e => hy (e ▸ hx)
  exact ⟨(e _ (by decide)).trans h.h100, (e _ (by decide)).trans h.h86, (e _ (by decide)).trans h.h109, (e _ (by decide)).trans h.h82, (e _ (by decide)).trans h.h87, (e _ (by decide)).trans h.h108, (e _ (by decide)).trans h.h111, fun y hy => (h.u y hy).set _ _⟩
noncomputable def rwBody : List St := bodyOf (ir_law.getD 19 (.raw []))
noncomputable def linesStep (w : Nat → Nat → Nat) (n : Nat) (L : List (List Nat)) : List (List Nat) := L.map fun line => w n (line.getD 0 0) :: line
theorem row_step (H : t.Ok) {ρ : REnv} (E : LawE t ρ) {n : Nat} {L : List (List Nat)} {ps : List Nat} (hn : n < 2) (h103 : ρ 103 = some (.fz (.int (n : Int)))) (h112 : ρ 112 = some (.fz (.list (L.map pl)))) (h84 : ρ 84 = some (.fz (pl ps))) (hL : ∀ l ∈ L, 0 < l.length ∧ l.getD 0 0 < 4 ∧ l.length ≤ 100) (hL4 : L.length ≤ 100) (hp : ∀ p ∈ ps, p < 4) (hl : ps.length ≤ 20) :
    evSs phi5 NN ΓL ρ rwBody = some (.nx ((ρ.set 112 (.fz (.list ((linesStep t.w n L).map pl)))).set 84 (.fz (pl (onP (t.w n) ps))))) := by
  have e1 : (linesStep t.w n L).map pl = L.map fun line => pl (t.w n (line.getD 0 0) :: line) := by unfold linesStep; rw [List.map_map]; rfl
  rw [e1]
  have E1 := E.set (.list (L.map fun line => pl (t.w n (line.getD 0 0) :: line))) (x := 112) (by decide)
  refine ss_nx (s_asg (e_comp (l := L) (c := pl) (k := fun line => pl (t.w n (line.getD 0 0) :: line)) (by rfl) (e_name h112) rfl (by rfl) (fun line hline => ?_) (by unfold lim; lia)) ((E.u 112 (by decide)).mine rfl) rfl) (ss_nx (s_asg (e_call (l_cons (e_nameS E1.h86) (l_cons (e_idx (e_nameS E1.h109) (e_name ((set_ne (by decide)).trans h103)) (ctxs_item t hn)) (l_cons (e_nameS E1.h82) (l_cons (e_name ((set_ne (by decide)).trans h84)) l_nil)))) rfl (on_run H.s hp hl)) ((E1.u 84 (by decide)).mine rfl) rfl) ss_end)
  obtain ⟨l1, l2, l3⟩ := hL line hline
  refine e_bin (z := pl (t.w n (line.getD 0 0) :: line)) (x := .list [.int (t.w n (line.getD 0 0) : Int)]) (y := pl line) (e_list (l_cons (e_idx (e_idx (e_name ((set_ne (by decide)).trans E.h100)) (e_name ((set_ne (by decide)).trans h103)) (ways_item t hn)) (e_idx (e_name set_eq) e_int (line_item (j := 0) l1)) (wl_item l2)) l_nil) (by show 1 ≤ lim; decide)) (e_name set_eq) ?_
  show mkL _ = _
  unfold mkL
  rw [if_pos (show _ ≤ 1048576 by simp; lia)]; rfl
end Mine
namespace Mine
variable {t : Dt}
noncomputable abbrev linesOf (w : Nat → Nat → Nat) (ns : List Nat) (L : List (List Nat)) : List (List Nat) := ns.foldl (fun L n => linesStep w n L) L
noncomputable abbrev onsOf (w : Nat → Nat → Nat) (ns : List Nat) (ps : List Nat) : List Nat := ns.foldl (fun ps n => onP (w n) ps) ps
noncomputable abbrev presOf (w : Nat → Nat → Nat) (ns : List Nat) (ps : List Nat) : List Nat := ns.foldl (fun ps n => preP (w n) ps) ps
theorem rows_run (H : t.Ok) {tp : Pos} : ∀ (ns : List Nat) {ρ : REnv} {L : List (List Nat)} {ps : List Nat}, LawE t ρ → (∀ n ∈ ns, n < 2) → ρ 112 = some (.fz (.list (L.map pl))) → ρ 84 = some (.fz (pl ps)) → (∀ l ∈ L, 0 < l.length ∧ l.getD 0 0 < 4 ∧ l.length + ns.length ≤ 100) → L.length ≤ 100 → (∀ p ∈ ps, p < 4) → ps.length ≤ 20 →
    ∃ ρ', evFor ΓL (.name 103 tp) (fun ρ => evSs phi5 NN ΓL ρ rwBody) ρ (ns.map fun (n : Nat) => .int (n : Int)) = some (.nx ρ') ∧ LawE t ρ' ∧ ρ' 112 = some (.fz (.list ((linesOf t.w ns L).map pl))) ∧ ρ' 84 = some (.fz (pl (onsOf t.w ns ps)))
  | [], ρ, L, ps, E, hn, h112, h84, hL, hL4, hp, hl => ⟨ρ, f_nil, E, h112, h84⟩
  | n :: ns, ρ, L, ps, E, hn, h112, h84, hL, hL4, hp, hl => by
    have n2 := hn n (List.mem_cons_self ..)
    have E1 := E.set (x := 103) (.int (n : Int)) (by decide)
    have r1 := row_step H E1 n2 set_eq ((set_ne (by decide)).trans h112) ((set_ne (by decide)).trans h84) (fun l hl' => ⟨(hL l hl').1, (hL l hl').2.1, by have := (hL l hl').2.2; lia⟩) hL4 hp hl
    have E2 := (E1.set (x := 112) (.list ((linesStep t.w n L).map pl)) (by decide)).set (x := 84) (pl (onP (t.w n) ps)) (by decide)
    obtain ⟨ρ', r2, E3, k112, k84⟩ := rows_run H ns (tp := tp) E2 (fun m hm => hn m (List.mem_cons_of_mem _ hm)) ((set_ne (by decide)).trans set_eq) set_eq (fun l hl' => by
      unfold linesStep at hl'
      obtain ⟨l0, h0, rfl⟩ := List.mem_map.mp hl'
      have := hL l0 h0
      refine ⟨by simp, H.w4 n _ n2 this.2.1, ?_⟩
      have := this.2.2
      simp only [List.length_cons] at this ⊢
      lia) (by unfold linesStep; rw [List.length_map]; exact hL4) (onP_lt (fun p hp' => H.w4 n p n2 hp') hp) (Nat.le_trans onP_le hl)
    exact ⟨ρ', f_cons ((E.u 103 (by decide)).mine rfl) r1 r2, E3, k112, k84⟩
noncomputable def bkBody : List St := bodyOf ((bodyOf (ir_law.getD 22 (.raw []))).getD 1 (.raw []))
theorem bks_run (H : t.Ok) {tp : Pos} {ls q : D} : ∀ (ns : List Nat) {ρ : REnv} {ps : List Nat}, LawE t ρ → (∀ n ∈ ns, n < 2) → ρ 112 = some (.fz ls) → ρ 88 = some (.fz q) → ρ 84 = some (.fz (pl ps)) → (∀ p ∈ ps, p < 4) → ps.length * 4 ^ ns.length ≤ 256 →
    ∃ ρ', evFor ΓL (.name 103 tp) (fun ρ => evSs phi5 NN ΓL ρ bkBody) ρ (ns.map fun (n : Nat) => .int (n : Int)) = some (.nx ρ') ∧ LawE t ρ' ∧ ρ' 112 = some (.fz ls) ∧ ρ' 88 = some (.fz q) ∧ ρ' 84 = some (.fz (pl (presOf t.w ns ps)))
  | [], ρ, ps, E, hn, h112, h88, h84, hp, hl => ⟨ρ, f_nil, E, h112, h88, h84⟩
  | n :: ns, ρ, ps, E, hn, h112, h88, h84, hp, hl => by
    have n2 := hn n (List.mem_cons_self ..)
    have E1 := E.set (x := 103) (.int (n : Int)) (by decide)
    have h64 : ps.length ≤ 64 := by
      have : 4 ≤ 4 ^ (n :: ns).length := by rw [List.length_cons, Nat.pow_succ]; have : 0 < 4 ^ ns.length := Nat.pos_of_ne_zero (by simp); lia
      have := Nat.mul_le_mul_left ps.length this
      lia
    have e := bk_pre H n2 ps hp
    have h4 := preP_le (f := t.w n) (ps := ps)
    have hr := back_run (H.wish n n2) hp (by lia) (g := t.g) (by rw [e]; lia)
    rw [e] at hr
    have E2 := E1.set (x := 84) (pl (preP (t.w n) ps)) (by decide)
    obtain ⟨ρ', r2, E3, k1, k2, k3⟩ := bks_run H ns (tp := tp) E2 (fun m hm => hn m (List.mem_cons_of_mem _ hm)) ((set_ne (by decide)).trans ((set_ne (by decide)).trans h112)) ((set_ne (by decide)).trans ((set_ne (by decide)).trans h88)) set_eq preP_lt (by
      rw [List.length_cons, Nat.pow_succ] at hl
      refine Nat.le_trans (Nat.mul_le_mul_right _ h4) ?_
      rw [Nat.mul_comm 4, Nat.mul_assoc, Nat.mul_comm 4]
      exact hl)
    refine ⟨ρ', f_cons ((E.u 103 (by decide)).mine rfl) (ss_nx (s_asg (e_call (l_cons (e_idx (e_nameS E1.h108) (e_name set_eq) (wish_item t n2)) (l_cons (e_nameS E1.h87) (l_cons (e_name ((set_ne (by decide)).trans h84)) l_nil))) rfl hr) ((E1.u 84 (by decide)).mine rfl) rfl) ss_end) r2, E3, k1, k2, k3⟩
theorem e_rev {Φ : Phi} {Γ : Kinds} {ρ : REnv} {a : E} {l : List D} {p1 p2 p3 p4 : Pos} (h : ev Φ Γ ρ a = some (.d (.list l))) : ev Φ Γ ρ (.rev a p1 p2 p3 p4) = some (.d (.list l.reverse)) := by
  rw [x_ev_rev, h]; rfl
noncomputable def leN (a b : List Nat) : Bool := leI (a.map fun (p : Nat) => (p : Int)) (b.map fun (p : Nat) => (p : Int))
theorem intss_pl : ∀ L : List (List Nat), D.intss (L.map pl) = some (L.map fun l => l.map fun (p : Nat) => (p : Int))
  | [] => rfl
  | l :: L => by
    rw [List.map_cons, List.map_cons]
    unfold pl
    rw [D.intss]
    have e : (l.map fun (p : Nat) => D.int (p : Int)) = (l.map fun (p : Nat) => (p : Int)).map .int := by rw [List.map_map]; rfl
    rw [e, ints_map, intss_pl L]; rfl
theorem sorted_lines (L : List (List Nat)) (h : L.length = 4) : D.sorted (L.map pl) = some (.list ((sortBy leN L).map pl)) := by
  unfold D.sorted
  rw [if_neg (by rw [List.length_map]; lia)]
  cases L with
  | nil => cases h
  | cons a l =>
    have h4 : ((a :: l).map pl).length = 4 := by rw [List.length_map]; exact h
    have e := intss_pl (a :: l)
    simp only [List.map_cons] at h4 e ⊢
    show (if (pl a :: l.map pl).length = 4 then (D.intss (pl a :: l.map pl)).map _ else none) = _
    rw [if_pos h4, e]
    have := sortBy_map (fun l : List Nat => l.map fun (p : Nat) => (p : Int)) leN leI (fun _ _ => rfl) (a :: l)
    rw [List.map_cons] at this
    simp only [Option.map_some]
    rw [this, List.map_map]
    congr 2
    refine List.map_congr_left fun x _ => ?_
    show D.list ((x.map fun (p : Nat) => (p : Int)).map .int) = pl x
    rw [List.map_map]; rfl
theorem insBy_permN {α : Type} (le : α → α → Bool) (x : α) : ∀ l : List α, (insBy le x l).Perm (x :: l)
  | [] => List.Perm.refl _
  | y :: r => by
    unfold insBy
    split
    · exact List.Perm.refl _
    · exact (List.Perm.cons y (insBy_permN le x r)).trans (List.Perm.swap x y r)
theorem sortBy_permN {α : Type} (le : α → α → Bool) : ∀ l : List α, (sortBy le l).Perm l
  | [] => List.Perm.refl _
  | x :: r => (insBy_permN le x _).trans (List.Perm.cons x (sortBy_permN le r))
noncomputable def qBody : List St := bodyOf (ir_law.getD 22 (.raw []))
noncomputable def endsAt (L : List (List Nat)) (q : Nat) : List Nat := ((sortBy leN L).filter fun line => line.getD 0 0 == q).map fun line => line.getD 4 0
theorem q_step (H : t.Ok) {ρ : REnv} (E : LawE t ρ) {q : Nat} {L : List (List Nat)} (hq : q < 4) (h88 : ρ 88 = some (.fz (.int (q : Int)))) (h112 : ρ 112 = some (.fz (.list (L.map pl)))) (hL4 : L.length = 4) (hL : ∀ l ∈ L, l.length = 5) (P : presOf t.w t.row.reverse [q] = endsAt L q) :
    ∃ ρ', evSs phi5 NN ΓL ρ qBody = some (.nx ρ') ∧ LawE t ρ' ∧ ρ' 112 = some (.fz (.list (L.map pl))) := by
  have E1 := E.set (x := 84) (pl [q]) (by decide)
  obtain ⟨ρ2, r2, E2, k1, k2, k3⟩ := bks_run H (tp := ⟨250,12,250,13⟩) (ls := .list (L.map pl)) (q := .int (q : Int)) t.row.reverse E1 (fun n hn => H.row2 n (List.mem_reverse.mp hn)) ((set_ne (by decide)).trans h112) ((set_ne (by decide)).trans h88) set_eq (fun p hp => by rw [List.mem_singleton] at hp; lia) (by rw [List.length_reverse, H.row4]; show 1 * 4 ^ 4 ≤ 256; decide)
  have hm : ∀ l ∈ sortBy leN L, l.length = 5 := fun l hl => hL l ((sortBy_permN leN L).mem_iff.mp hl)
  have hs : D.builtin 3 [.list (L.map pl)] = some (.list ((sortBy leN L).map pl)) := sorted_lines L hL4
  have hlen : (sortBy leN L).length = 4 := by rw [(sortBy_permN leN L).length_eq]; exact hL4
  refine ⟨ρ2, ss_nx (s_asg (e_list (l_cons (e_name h88) l_nil) (by show 1 ≤ lim; decide)) ((E.u 84 (by decide)).mine rfl) rfl) (ss_nx (s_for (r := .d (.list (t.row.map fun (p : Nat) => D.int (p : Int)).reverse)) ?_ (by rw [← List.map_reverse]; rfl) r2) (ss_nx (s_ifF (t_cmp (e_name k3) (e_compIf (l := sortBy leN L) (c := pl) (k := fun line => .int ((line.getD 4 0 : Nat) : Int)) (b := fun line => line.getD 0 0 == q) (by rfl) (e_blt (e_name k1) rfl (by decide) hs) rfl (by rfl)
    (fun l hl => t_cmp (e_idx (e_name set_eq) e_int (line_item (j := 0) (by rw [hm l hl]; decide))) (e_name ((set_ne (by decide)).trans k2)) (c_eqI.trans (congrArg some (intEq _ _)))) (fun l hl _ => e_idx (e_name set_eq) e_int (line_item (j := 4) (by rw [hm l hl]; decide))) (by rw [hlen]; decide)) ?_) ss_end) ss_end)), E2, k1⟩
  · exact e_rev (e_name E1.h111)
  · have e : (D.list (((sortBy leN L).filter fun line => line.getD 0 0 == q).map fun line => .int ((line.getD 4 0 : Nat) : Int))) = pl (endsAt L q) := by
      unfold endsAt pl; rw [List.map_map]; rfl
    rw [e, P, ne_pl]
    simp
theorem qs_run (H : t.Ok) {tp : Pos} {L : List (List Nat)} (hL4 : L.length = 4) (hL : ∀ l ∈ L, l.length = 5) (P : ∀ q, q < 4 → presOf t.w t.row.reverse [q] = endsAt L q) : ∀ (qs : List Nat) {ρ : REnv}, LawE t ρ → (∀ q ∈ qs, q < 4) → ρ 112 = some (.fz (.list (L.map pl))) →
    ∃ ρ', evFor ΓL (.name 88 tp) (fun ρ => evSs phi5 NN ΓL ρ qBody) ρ (qs.map fun (n : Nat) => .int (n : Int)) = some (.nx ρ') ∧ LawE t ρ'
  | [], ρ, E, hq, h112 => ⟨ρ, f_nil, E⟩
  | q :: qs, ρ, E, hq, h112 => by
    have q4 := hq q (List.mem_cons_self ..)
    obtain ⟨ρ1, r1, E1, k1⟩ := q_step H (E.set (x := 88) (.int (q : Int)) (by decide)) q4 set_eq ((set_ne (by decide)).trans h112) hL4 hL (P q q4)
    obtain ⟨ρ2, r2, E2⟩ := qs_run H (tp := tp) hL4 hL P qs E1 (fun m hm => hq m (List.mem_cons_of_mem _ hm)) k1
    exact ⟨ρ2, f_cons ((E.u 88 (by decide)).mine rfl) r1 r2, E2⟩
end Mine
namespace Mine
variable {t : Dt}
theorem e_lam {Φ : Phi} {Γ : Kinds} {ρ : REnv} {id f : Nat} {ps : List (Nat × Pos)} {b : E} {sc : List (Nat × NameKind)} {p : Pos} {caps : List D} (h : scOk Γ sc = true ∧ f ≠ 0 ∧ Γ.f = f) (hc : (freeOf sc).mapM (fun x => match ρ x with | some (.sealed d) => some d | _ => none) = some caps) :
    ev Φ Γ ρ (.lam id f ps b sc p) = some (.d (.lam id caps)) := by
  rw [x_ev_lam, if_pos h]
  exact (congrArg (fun o : Option (List D) => o.bind fun caps => some (R.d (.lam id caps))) hc).trans rfl
theorem isIn_nat (a : Nat) (L : List Nat) : D.cmp .NotIn (.int (a : Int)) (pl L) = some (!L.contains a) := by
  have e : (L.map fun (p : Nat) => D.int (p : Int)).mapM (D.pd 4) = some (L.map fun (p : Nat) => PyData.int (p : Int)) := by
    have := pd_ints 3 (L.map fun (p : Nat) => (p : Int))
    rw [List.map_map, List.map_map] at this
    exact this
  show (D.isIn (.int (a : Int)) (L.map fun (p : Nat) => D.int (p : Int))).map (!·) = _
  unfold D.isIn
  rw [e]
  refine congrArg some (show (!((L.map fun (p : Nat) => PyData.int (p : Int)).any fun y => PyData.eqv y (.int (a : Int)))) = _ from ?_)
  rw [List.any_map]
  congr 1
  rw [Bool.eq_iff_iff]
  simp [Function.comp, PyData.eqv]
  constructor
  · rintro ⟨x, hx, e⟩
    have : x = a := by lia
    exact this ▸ hx
  · intro h; exact ⟨a, h, rfl⟩
noncomputable def firsts (E : List Nat) : List Nat := ((List.range 4).filter fun p => !(E.take p).contains (E.getD p 0)).map fun p => E.getD p 0
theorem take_pl {E : List Nat} (h : E.length = 4) {p : Nat} (hp : p < 4) : D.slice (pl E) none (some (.int (p : Int))) = some (pl (E.take p)) := by
  obtain ⟨a, b, c, d, rfl⟩ : ∃ a b c d, E = [a, b, c, d] := by
    match E, h with
    | [a, b, c, d], _ => exact ⟨a, b, c, d, rfl⟩
  have : p = 0 ∨ p = 1 ∨ p = 2 ∨ p = 3 := by lia
  rcases this with rfl | rfl | rfl | rfl <;> rfl
theorem linesOf_len (w : Nat → Nat → Nat) : ∀ (ns : List Nat) (L : List (List Nat)) (k : Nat), (∀ l ∈ L, l.length = k) → (linesOf w ns L).length = L.length ∧ ∀ l ∈ linesOf w ns L, l.length = k + ns.length
  | [], L, k, h => ⟨rfl, h⟩
  | n :: ns, L, k, h => by
    have := linesOf_len w ns (linesStep w n L) (k + 1) (fun l hl => by
      unfold linesStep at hl
      obtain ⟨l0, h0, rfl⟩ := List.mem_map.mp hl
      rw [List.length_cons, h l0 h0])
    refine ⟨this.1.trans (by unfold linesStep; rw [List.length_map]), fun l hl => ?_⟩
    rw [this.2 l hl, List.length_cons]; lia
noncomputable abbrev lines0 : List (List Nat) := [[0], [1], [2], [3]]
noncomputable abbrev linesT (t : Dt) : List (List Nat) := linesOf t.w t.row lines0
structure Pure (t : Dt) (V V' : List Nat → Prop) : Prop where
  p1 : onsOf t.w t.row [0,1,2,3] = firsts ((linesT t).map fun l => l.getD 0 0)
  p2 : ∀ q, q < 4 → presOf t.w t.row.reverse [q] = endsAt (linesT t) q
  p3 : ∃ r, bfs (stOf fun way ps => onP (t.w way) ps) 1 NN [[0,1,2,3]] [[0,1,2,3]] 0 = some r ∧ bfs (stOf fun way ps => preP (t.w way) ps) 4 NN lines0 lines0 0 = some r ∧ r.isSome = ((meetN (t.w 0) (t.w 1) 6 []).length == 6)
  v : ∀ ps, V ps → (∀ p ∈ ps, p < 4) ∧ ps.length ≤ 4
  v' : ∀ ps, V' ps → (∀ p ∈ ps, p < 4) ∧ ps.length ≤ 4
  s : ∀ way ps, way < 2 → V ps → V (sortN (onP (t.w way) ps))
  s' : ∀ way ps, way < 2 → V' ps → V' (sortN (preP (t.w way) ps))
  few : ∀ L : List (List Nat), L.Nodup → (∀ x ∈ L, V x) → L.length ≤ 16
  few' : ∀ L : List (List Nat), L.Nodup → (∀ x ∈ L, V' x) → L.length ≤ 16
  v0 : V [0,1,2,3]
  v0' : ∀ x ∈ lines0, V' x
theorem law_tail (H : t.Ok) {V V' : List Nat → Prop} (P : Pure t V V') {ρ : REnv} (E : LawE t ρ) (h112 : ρ 112 = some (.fz (.list (lines0.map pl)))) (h84 : ρ 84 = some (.fz (pl [0,1,2,3]))) : evSs phi5 NN ΓL ρ (ir_law.drop 19) = some (.rt (.bool true)) := by
  obtain ⟨ρ1, r1, E1, k112, k84⟩ := rows_run H (tp := ⟨242,8,242,9⟩) t.row E H.row2 h112 h84 (fun l hl => by
    rw [H.row4]
    simp only [lines0, List.mem_cons, List.not_mem_nil, or_false] at hl
    rcases hl with rfl | rfl | rfl | rfl <;> exact ⟨by decide, by decide, by decide⟩) (by decide) (fun p hp => by
    simp only [List.mem_cons, List.not_mem_nil, or_false] at hp
    lia) (by decide)
  have hlen := linesOf_len t.w t.row lines0 1 (fun l hl => by
    simp only [lines0, List.mem_cons, List.not_mem_nil, or_false] at hl
    rcases hl with rfl | rfl | rfl | rfl <;> rfl)
  have hL4 : (linesT t).length = 4 := hlen.1
  have hL5 : ∀ l ∈ linesT t, l.length = 5 := fun l hl => by rw [hlen.2 l hl, H.row4]
  let Es : List Nat := (linesT t).map fun l => l.getD 0 0
  have hE4 : Es.length = 4 := by show ((linesT t).map _).length = 4; rw [List.length_map]; exact hL4
  have E2 := E1.set (x := 114) (pl Es) (by decide)
  have st20 : ∀ {o r p1 p2 p3 p4 p5 p6 p7 p8}, evSs phi5 NN ΓL (ρ1.set 114 (.fz (pl Es))) r = o → evSs phi5 NN ΓL ρ1 (.asg 114 (.comp (.idx (.name 113 p1) (.int 0 p2) p3) [(.mk (.name 113 p4) (.name 112 p5) [])] [(85, .local), (113, .local)] p6) p7 p8 :: r) = o := fun {o r p1 p2 p3 p4 p5 p6 p7 p8} ho => by
    have hc : ev phi5 ΓL ρ1 (.comp (.idx (.name 113 p1) (.int 0 p2) p3) [(.mk (.name 113 p4) (.name 112 p5) [])] [(85, .local), (113, .local)] p6) = some (.d (.list ((linesT t).map fun l => .int ((l.getD 0 0 : Nat) : Int)))) :=
      e_comp (l := linesT t) (c := pl) (by rfl) (e_name k112) rfl (by rfl) (fun l hl => e_idx (e_name set_eq) e_int (line_item (j := 0) (by rw [hL5 l hl]; decide))) (by rw [hL4]; decide)
    have e : D.list ((linesT t).map fun l => .int ((l.getD 0 0 : Nat) : Int)) = pl Es := by show _ = D.list (((linesT t).map _).map _); rw [List.map_map]; rfl
    rw [e] at hc
    exact ss_nx (s_asg hc ((E1.u 114 (by decide)).mine rfl) rfl) ho
  have st21 : ∀ {o r p1 p2 p3 p4 p5 p6 p7 p8 p9 p10 p11 p12 p13 p14 p15 p16 p17 p18 p19 p20 p21}, evSs phi5 NN ΓL (ρ1.set 114 (.fz (pl Es))) r = o → evSs phi5 NN ΓL (ρ1.set 114 (.fz (pl Es))) (.ifS (.cmp (.name 84 p1) .NotEq (.comp (.idx (.name 114 p2) (.name 83 p3) p4) [(.mk (.name 83 p5) (.blt 5 [(.int 4 p6)] p7 p8) [(.cmp (.idx (.name 114 p9) (.name 83 p10) p11) .NotIn (.slc (.name 114 p12) none (some (.name 83 p13)) p14 p15) p16)])] [(85, .local), (83, .local), (114, .free)] p17) p18) [.ret (.bool false p19) p20] [] p21 :: r) = o := fun {o r p1 p2 p3 p4 p5 p6 p7 p8 p9 p10 p11 p12 p13 p14 p15 p16 p17 p18 p19 p20 p21} ho => by
    have hc : ev phi5 ΓL (ρ1.set 114 (.fz (pl Es))) (.comp (.idx (.name 114 p2) (.name 83 p3) p4) [(.mk (.name 83 p5) (.blt 5 [(.int 4 p6)] p7 p8) [(.cmp (.idx (.name 114 p9) (.name 83 p10) p11) .NotIn (.slc (.name 114 p12) none (some (.name 83 p13)) p14 p15) p16)])] [(85, .local), (83, .local), (114, .free)] p17) = some (.d (pl (firsts Es))) := by
      have := e_compIf (Φ := phi5) (Γ := ΓL) (ρ := ρ1.set 114 (.fz (pl Es))) (p := p17) (elt := .idx (.name 114 p2) (.name 83 p3) p4) (it := .blt 5 [(.int 4 p6)] p7 p8) (t := .cmp (.idx (.name 114 p9) (.name 83 p10) p11) .NotIn (.slc (.name 114 p12) none (some (.name 83 p13)) p14 p15) p16) (n := 83) (tp := p5) (sc := [(85, .local), (83, .local), (114, .free)]) (l := List.range 4) (c := fun (p : Nat) => .int (p : Int)) (k := fun p => .int ((Es.getD p 0 : Nat) : Int)) (b := fun p => !(Es.take p).contains (Es.getD p 0)) (by rfl) (e_range (n := 4) e_int rfl (by decide)) rfl (by rfl)
        (fun p hp => by
          have hp4 := List.mem_range.mp hp
          exact t_cmp (e_idx (e_name rfl) (e_name rfl) (line_item (j := p) (by rw [hE4]; exact hp4))) (e_slc (e_name rfl) o_none (o_some (e_name rfl)) (take_pl hE4 hp4)) (isIn_nat _ _))
        (fun p hp _ => e_idx (e_name rfl) (e_name rfl) (line_item (j := p) (by rw [hE4]; exact List.mem_range.mp hp))) (by decide)
      rw [this]
      unfold firsts pl
      rw [List.map_map]; rfl
    have k84' : (ρ1.set 114 (.fz (pl Es))) 84 = some (.fz (pl (firsts Es))) := (set_ne (by decide)).trans (k84.trans (by rw [P.p1]))
    exact ss_nx (s_ifF (t_cmp (e_name k84') hc ((ne_pl _ _).trans (by simp))) ss_end) ho
  obtain ⟨ρ3, r3, E3⟩ := qs_run H (tp := ⟨248,8,248,9⟩) hL4 hL5 P.p2 (List.range 4) E2 (fun q hq => List.mem_range.mp hq) ((set_ne (by decide)).trans k112)
  obtain ⟨r, b1, b2, b3⟩ := P.p3
  have L0 : Lead 0 [.lam 11 [], t.ctxs, namesD t.S] (fun way ps => onP (t.w way) ps) V :=
    ⟨fun way ps hw hv => lead0 H hw (P.v ps hv).1 (Nat.le_trans (P.v ps hv).2 (by decide)), fun way ps hw hv => Nat.lt_of_le_of_lt (Nat.le_trans onP_le (P.v ps hv).2) (by decide), P.s, P.few, fun ps hv => Nat.le_trans (P.v ps hv).2 (by decide)⟩
  have L1 : Lead 1 [rowsD t.g, t.wish] (fun way ps => preP (t.w way) ps) V' :=
    ⟨fun way ps hw hv => lead1 H hw (P.v' ps hv).1 (Nat.le_trans (P.v' ps hv).2 (by decide)), fun way ps hw hv => Nat.lt_of_le_of_lt (Nat.le_trans preP_le (Nat.mul_le_mul_left 4 (P.v' ps hv).2)) (by decide), P.s', P.few', fun ps hv => Nat.le_trans (P.v' ps hv).2 (by decide)⟩
  have f1 := fewest_run L0 b1 (by decide) (fun x hx => by rw [List.mem_singleton] at hx; exact hx ▸ P.v0)
  have f2 := fewest_run L1 b2 (by decide) P.v0'
  have E4 := E3.set (x := 115) (optD r) (by decide)
  have hne : D.cmp .NotEq (optD r) (optD r) = some false := by
    show (D.eq (optD r) (optD r)).map (!·) = _
    cases r with
    | none => rfl
    | some k =>
      have : D.eq (.int (k : Int)) (.int (k : Int)) = some true := by
        have := c_eqI (a := (k : Int)) (b := (k : Int))
        rw [beq_self_eq_true] at this; exact this
      rw [show D.eq (optD (some k)) (optD (some k)) = some true from this]; rfl
  have his : D.cmp .IsNot (optD r) .nil = some r.isSome := by cases r <;> rfl
  have hbb : ∀ b c : Bool, b = c → D.cmp .Eq (.bool b) (.bool c) = some true := fun b c e => by subst e; cases b <;> rfl
  have cap0 : (freeOf lsc_0).mapM (fun x => match ρ3 x with | some (.sealed d) => some d | _ => none) = some [.lam 11 [], t.ctxs, namesD t.S] := by
    show [86,109,82].mapM (fun x => match ρ3 x with | some (.sealed d) => some d | _ => none) = _
    simp [List.mapM_cons, E3.h86, E3.h109, E3.h82]
  have cap1 : (freeOf lsc_1).mapM (fun x => match (ρ3.set 115 (.fz (optD r))) x with | some (.sealed d) => some d | _ => none) = some [rowsD t.g, t.wish] := by
    show [87,108].mapM (fun x => match (ρ3.set 115 (.fz (optD r))) x with | some (.sealed d) => some d | _ => none) = _
    simp [List.mapM_cons, E4.h87, E4.h108]
  refine ss_nx (s_for (e_name E.h111) rfl r1) (st20 (st21 (ss_nx (s_for (e_range (n := 4) e_int rfl (by decide)) rfl r3) ?_)))
  refine ss_nx (s_asg (e_call (l_cons (e_list (l_cons (e_list (l_cons e_int (l_cons e_int (l_cons e_int (l_cons e_int l_nil)))) (by decide)) l_nil) (by show 1 ≤ lim; decide)) (l_cons e_int (l_cons (e_lam ⟨by rfl, by decide, rfl⟩ cap0) l_nil))) rfl f1) ((E3.u 115 (by decide)).mine rfl) rfl) ?_
  refine ss_nx (s_ifF (t_cmp (e_name set_eq) (e_call (l_cons (e_list (l_cons (e_list (l_cons e_int l_nil) (by decide)) (l_cons (e_list (l_cons e_int l_nil) (by decide)) (l_cons (e_list (l_cons e_int l_nil) (by decide)) (l_cons (e_list (l_cons e_int l_nil) (by decide)) l_nil)))) (by show 4 ≤ lim; decide)) (l_cons e_int (l_cons (e_lam ⟨by rfl, by decide, rfl⟩ cap1) l_nil))) rfl f2) hne) ss_end) ?_
  exact ss_rt (s_ret (e_cmp (e_cmp (e_name set_eq) e_nil his) (e_call (l_cons (e_name E4.h100) l_nil) rfl (meet_run (t.w 0) (t.w 1))) (hbb _ _ b3)))
end Mine
namespace Mine
theorem k5 {k : Nat} (hk : k < 5) : k = 0 ∨ k = 1 ∨ k = 2 ∨ k = 3 ∨ k = 4 := by lia
theorem tabC_ne {k : Nat} (hk : k < 5) (c : Nat) : ∃ x r, tabC (mk5 k) c = x :: r := by
  have h : (mk5 k).all (fun q => !q.2.isEmpty) = true := by rcases k5 hk with rfl | rfl | rfl | rfl | rfl <;> decide
  unfold tabC
  cases hc : (mk5 k).lookup c with
  | none => exact ⟨c, [], rfl⟩
  | some v =>
    have := List.all_eq_true.mp h _ (mem_of_lk hc)
    cases v with
    | nil => cases this
    | cons x r => exact ⟨x, r, rfl⟩
theorem sg_head {k : Nat} (hk : k < 5) (c : Nat) : ∃ h m, sg k c = h :: m ∧ h ≠ 42 ∧ h ≠ 125 := by
  obtain ⟨x, r, e⟩ := tabC_ne hk c
  unfold sg
  rw [e]
  unfold trL
  rw [List.flatMap_cons]
  unfold gSp
  by_cases hx : spL.contains x = true
  · rw [if_pos hx]; exact ⟨92, _, rfl, by decide, by decide⟩
  · rw [if_neg hx]
    refine ⟨x, _, rfl, fun e => hx (by rw [e]; decide), fun e => hx (by rw [e]; decide)⟩
theorem sg_len {k : Nat} (hk : k < 5) (c : Nat) : 1 ≤ (sg k c).length ∧ (sg k c).length ≤ 12 := by
  obtain ⟨h, m, e, _⟩ := sg_head hk c
  have h6 : (tabC (mk5 k) c).length ≤ 6 := by
    have := tab_len (m := mk5 k) (by rcases k5 hk with rfl | rfl | rfl | rfl | rfl <;> decide) [c]
    simpa using this
  have := trL_len (tabC (mk5 k) c)
  refine ⟨by rw [e]; simp, ?_⟩
  unfold sg; lia
theorem sg59 {k : Nat} (hk : k < 5) : sg k 59 = [59] := by rcases k5 hk with rfl | rfl | rfl | rfl | rfl <;> decide
section
variable (k a b : Nat)
noncomputable def cl (p : Nat) : List Nat := [a] ++ (List.replicate p [b]).flatten ++ [108,116,59]
noncomputable def Sx (p : Nat) : List Nat := (cl a b p).flatMap (sg k)
noncomputable def ox : List Nat := [b].flatMap (sg k)
noncomputable def Tx' (n : Nat) : List Nat := [123] ++ ox k b ++ [125] ++ Sx k a b n
noncomputable def Xx (n : Nat) : List Nat := [123] ++ Sx k a b 2 ++ [125] ++ Sx k a b n
noncomputable def Yx (n : Nat) : List Nat := Tx' k a b n ++ Tx' k a b n
noncomputable def strL : List (Nat × List Nat) := (List.range 2).flatMap fun n => [(4, Xx k a b n), (4, Yx k a b n)]
noncomputable def gx (w : Nat → Nat → Nat) (q : Nat) : List (Nat × List Nat) := ((List.range 2).flatMap fun n => ((List.range 4).filter fun p => w n p == q).map fun p => (p, Tx' k a b n)) ++ strL k a b
variable {k a b}
theorem cl_len (p : Nat) : (cl a b p).length = p + 4 := by
  unfold cl
  rw [List.length_append, List.length_append, List.length_flatten]
  simp [List.map_replicate]
  lia
theorem Sx_len (p : Nat) : (Sx k a b p).length = (sg k a).length + p * (sg k b).length + ([108,116,59].flatMap (sg k)).length := by
  unfold Sx cl
  rw [List.flatMap_append, List.flatMap_append, List.length_append, List.length_append]
  have e : ((List.replicate p [b]).flatten.flatMap (sg k)).length = p * (sg k b).length := by
    induction p with
    | zero => simp
    | succ p ih => rw [List.replicate_succ, List.flatten_cons, List.flatMap_append, List.length_append, ih, Nat.succ_mul]; simp; lia
  rw [e]; simp
theorem flat_len {k : Nat} (hk : k < 5) (w : List Nat) : (w.flatMap (sg k)).length ≤ 12 * w.length := by
  induction w with
  | nil => simp
  | cons c w ih =>
    have := (sg_len hk c).2
    rw [List.flatMap_cons, List.length_append, List.length_cons]; lia
theorem Sx_le (hk : k < 5) {p : Nat} (hp : p < 4) : (Sx k a b p).length ≤ 84 := by
  have := flat_len hk (cl a b p)
  rw [cl_len] at this
  unfold Sx; lia
theorem sOk (hk : k < 5) : SOk (Sx k a b) where
  inj := fun p q hp hq e => by
    have e := congrArg List.length e
    rw [Sx_len, Sx_len] at e
    have h1 := (sg_len hk b).1
    have : p * (sg k b).length = q * (sg k b).length := by lia
    exact Nat.eq_of_mul_eq_mul_right h1 this
  ne := fun p hp e => by
    have e := congrArg List.length e
    rw [Sx_len] at e
    have h1 := (sg_len hk a).1
    simp only [List.length_nil] at e
    lia
theorem ox_len : (ox k b).length = (sg k b).length := by unfold ox; simp
theorem Tx_len (n : Nat) : (Tx' k a b n).length = 2 + (sg k b).length + (Sx k a b n).length := by
  unfold Tx'
  simp only [List.length_append, ox_len, List.length_singleton]
  lia
theorem wishOk (hk : k < 5) {n : Nat} (hn : n < 4) : WishOk (Tx' k a b n) where
  fst := by
    obtain ⟨h, m, e, h1, h2⟩ := sg_head hk b
    refine ⟨h, m ++ [125] ++ Sx k a b n, ?_, h1, h2⟩
    unfold Tx' ox
    simp [e]
  lst := by
    unfold Tx' Sx cl
    rw [List.flatMap_append]
    have : [108,116,59].flatMap (sg k) = [108,116].flatMap (sg k) ++ [59] := by
      rw [show [108,116,59] = [108,116] ++ [59] from rfl, List.flatMap_append]
      simp [sg59 hk]
    rw [this, ← List.append_assoc, ← List.append_assoc]
    exact List.getLast?_concat
  len := by
    have h1 := (sg_len hk b).2
    have h2 := Sx_le (a := a) (b := b) hk hn
    rw [Tx_len]; lia
theorem T_ne (hk : k < 5) {n m : Nat} (h : Tx' k a b n = Tx' k a b m) : n = m := by
  have e := congrArg List.length h
  rw [Tx_len, Tx_len, Sx_len, Sx_len] at e
  have h1 := (sg_len hk b).1
  have : n * (sg k b).length = m * (sg k b).length := by lia
  exact Nat.eq_of_mul_eq_mul_right h1 this
theorem X_ne (hk : k < 5) {n m : Nat} (hm : m < 2) : (Xx k a b n == Tx' k a b m) = false := by
  refine beq_eq_false_iff_ne.mpr fun h => ?_
  have e := congrArg List.length h
  rw [Tx_len, Sx_len] at e
  unfold Xx at e
  simp only [List.length_append, List.length_singleton] at e
  rw [Sx_len, Sx_len] at e
  have h1 := (sg_len hk b).1
  have h2 := (sg_len hk a).1
  have h3 : m * (sg k b).length ≤ 1 * (sg k b).length := Nat.mul_le_mul_right _ (by lia)
  lia
theorem Y_ne (hk : k < 5) {n m : Nat} (hm : m < 2) : (Yx k a b n == Tx' k a b m) = false := by
  refine beq_eq_false_iff_ne.mpr fun h => ?_
  have e := congrArg List.length h
  unfold Yx at e
  rw [List.length_append, Tx_len, Tx_len, Sx_len, Sx_len] at e
  have h1 := (sg_len hk b).1
  have h2 := (sg_len hk a).1
  have h3 : m * (sg k b).length ≤ 1 * (sg k b).length := Nat.mul_le_mul_right _ (by lia)
  lia
theorem filter_tag (l : List Nat) (T T' : List Nat) : (((l.map fun p => (p, T')).filter fun x => x.2 == T).map fun x => x.1) = if (T' == T) = true then l else [] := by
  induction l with
  | nil => simp
  | cons a l ih =>
    rw [List.map_cons, List.filter_cons]
    cases h : T' == T
    · rw [h] at ih; simpa using ih
    · rw [h] at ih; simpa using ih
theorem bkOk (hk : k < 5) (w : Nat → Nat → Nat) {n q : Nat} (hn : n < 2) : ((gx k a b w q).filter (·.2 == Tx' k a b n)).map (·.1) = (List.range 4).filter fun p => w n p == q := by
  unfold gx strL
  have r2 : List.range 2 = [0,1] := rfl
  rw [r2]
  simp only [List.flatMap_cons, List.flatMap_nil, List.append_nil, List.filter_append, List.map_append]
  rw [filter_tag, filter_tag]
  simp only [List.cons_append, List.nil_append, List.filter_cons, X_ne hk hn, Y_ne hk hn]
  have : n = 0 ∨ n = 1 := by lia
  have t01 : (Tx' k a b 0 == Tx' k a b 1) = false := beq_eq_false_iff_ne.mpr fun h => absurd (T_ne hk h) (by decide)
  have t10 : (Tx' k a b 1 == Tx' k a b 0) = false := beq_eq_false_iff_ne.mpr fun h => absurd (T_ne hk h) (by decide)
  rcases this with rfl | rfl
  · simp [t10]
  · simp [t01]
end
end Mine
namespace Mine
section
variable {Φ : Phi} {Γ : Kinds} {ρ : REnv} {N : Nat} {d x y z : D} {p q r : Pos}
theorem e_range' {e : E} {n : Nat} (h1 : ev Φ Γ ρ e = some (.d (.int (n : Int)))) (hg : Γ 5 = some .globalImplicit) (hn : n ≤ lim) : ∃ r, ev Φ Γ ρ (.blt 5 [e] p q) = some r ∧ r.asI = some ((List.range n).map fun (i : Nat) => .int (i : Int)) := ⟨_, e_range h1 hg hn, rfl⟩
theorem e_comp2 {α β : Type} {elt it1 it2 : E} {ifs : List E} {n1 n2 : Nat} {tp1 tp2 : Pos} {sc : List (Nat × NameKind)} {r : R} {l : List α} {c : α → D} {m : α → List β} {c2 : α → β → D} {tt : α → β → Bool} {k : α → β → D} (ho : scOk Γ sc = true) (h1 : ev Φ Γ ρ it1 = some r) (h2 : r.asI = some (l.map c)) (hf1 : (Tg.name n1 tp1).fit sc (ρ.cut sc) = true)
    (h3 : ∀ a ∈ l, ∃ r, ev Φ (kindsIn Γ sc) ((ρ.cut sc).set n1 (.fz (c a))) it2 = some r ∧ r.asI = some ((m a).map (c2 a))) (hf2 : ∀ a ∈ l, (Tg.name n2 tp2).fit sc ((ρ.cut sc).set n1 (.fz (c a))) = true)
    (ht : ∀ a ∈ l, ∀ b ∈ m a, evC Φ (kindsIn Γ sc) (((ρ.cut sc).set n1 (.fz (c a))).set n2 (.fz (c2 a b))) ifs = some (tt a b))
    (h : ∀ a ∈ l, ∀ b ∈ m a, tt a b = true → ev Φ (kindsIn Γ sc) (((ρ.cut sc).set n1 (.fz (c a))).set n2 (.fz (c2 a b))) elt = some (.d (k a b))) (hl : (l.flatMap fun a => ((m a).filter (tt a)).map (k a)).length ≤ lim) :
    ev Φ Γ ρ (.comp elt [.mk (.name n1 tp1) it1 [], .mk (.name n2 tp2) it2 ifs] sc p) = some (.d (.list (l.flatMap fun a => ((m a).filter (tt a)).map (k a)))) := by
  rw [x_ev_comp1, if_pos ho, h1]
  simp only [Option.bind_eq_bind, Option.bind_some, h2]
  rw [evLoop_of (g := fun a => ((m a).filter (tt a)).map (k a)) hf1 l fun a ha => ?_]
  · simp only [Option.bind_some, mkL]
    rw [if_pos hl]; rfl
  · simp only [x_evC_nil, Option.bind_some, if_true]
    rw [x_evG_cons]
    obtain ⟨r2, e1, e2⟩ := h3 a ha
    simp only [e1, e2, Option.bind_eq_bind, Option.bind_some]
    rw [evLoop_of (g := fun b => if tt a b then [k a b] else []) (hf2 a ha) (m a) fun b hb => ?_]
    · rw [flat_if]
    · simp only [ht a ha b hb, Option.bind_some]
      cases hb' : tt a b
      · simp
      · simp [x_evG_nil, h a ha b hb hb', R.asD]
theorem c_nil : evC Φ Γ ρ [] = some true := by rw [x_evC_nil]
theorem c_one {e : E} {b : Bool} (h : evT Φ Γ ρ e = some b) : evC Φ Γ ρ [e] = some b := by
  rw [x_evC_cons, h]; cases b <;> simp [x_evC_nil]
theorem e_dcomp {α : Type} {ke ve it : E} {n : Nat} {tp : Pos} {sc : List (Nat × NameKind)} {r : R} {l : List α} {c v : α → D} {k : α → List Nat} (ho : scOk Γ sc = true) (h1 : ev Φ Γ ρ it = some r) (h2 : r.asI = some (l.map c)) (hf : (Tg.name n tp).fit sc (ρ.cut sc) = true)
    (hk : ∀ a ∈ l, ev Φ (kindsIn Γ sc) ((ρ.cut sc).set n (.fz (c a))) ke = some (.d (.str (k a)))) (hv : ∀ a ∈ l, ev Φ (kindsIn Γ sc) ((ρ.cut sc).set n (.fz (c a))) ve = some (.d (v a))) (hl : l.length ≤ 64) (hn : (l.map k).Nodup) :
    ev Φ Γ ρ (.dcomp ke ve [.mk (.name n tp) it []] sc p) = some (.d (.dict (l.map fun a => .str (k a)) (l.map v))) := by
  rw [x_ev_dcomp1, if_pos ho, h1]
  simp only [Option.bind_eq_bind, Option.bind_some, h2]
  rw [evLoop_of (g := fun a => [(D.str (k a), v a)]) hf l fun a ha => ?_]
  · rw [flat_one]
    simp only [Option.bind_some]
    have : mkD (l.map fun a => (D.str (k a), v a)) = some (.dict (l.map fun a => .str (k a)) (l.map v)) := by
      unfold mkD
      rw [if_pos]
      · rw [List.map_map, List.map_map]; rfl
      · refine ⟨by rw [List.length_map]; exact hl, by simp, ?_⟩
        rw [List.map_map]; exact hn
    rw [this]; rfl
  · simp [hk a ha, hv a ha, R.asD]
theorem fm_nn (i : Int) {j : Int} (h : 0 < j) : 0 ≤ Int.fmod i j := by
  rw [Int.fmod_eq_emod_of_nonneg _ (Int.le_of_lt h)]; exact Int.emod_nonneg _ (by omega)
theorem b_mod {i j : Int} (h : 0 < j) : D.bin .Mod (.int i) (.int j) = some (.int (((Int.fmod i j).toNat : Nat) : Int)) := by
  show (if 0 < j then some (D.int (Int.fmod i j)) else none) = _
  rw [if_pos h, Int.toNat_of_nonneg (fm_nn _ h)]
theorem mod_lt {i j : Int} (h : 0 < j) : (Int.fmod i j).toNat < j.toNat := by
  have h1 := fm_nn i h
  have h2 := Int.fmod_lt_of_pos i h
  omega
theorem b_div {i : Int} {j : Int} (h : 0 < j ∧ j < 1073741824) : D.bin .FloorDiv (.int i) (.int j) = some (.int (Int.fdiv i j)) := by
  show (if 0 < j ∧ j < 1073741824 then _ else _) = _
  rw [if_pos h]
theorem b_addS {u v : List Nat} (h : (u ++ v).length ≤ lim) : D.bin .Add (.str u) (.str v) = some (.str (u ++ v)) := by
  show mkS _ = _
  unfold mkS; rw [if_pos h]
end
theorem parent_run : phi1.call 34 [.nil, .tup [.str [46,46], .str []]] = some (.lam 11 []) := by
  refine call_of (tx ps_prepare_parent sc_prepare_parent 34 ir_prepare_parent) (Φ := phi0) rfl rfl rfl ?_
  exact ss_nx (s_defS (caps := []) ⟨by rfl, by decide, rfl, by rfl⟩ rfl) (ss_rt (s_ret (e_name set_eq)))
noncomputable def wx (c2 c3 : Int) (n p : Nat) : Nat := (Int.fmod (Int.fdiv (if n = 0 then c2 else c3) (4 ^ p)) 4).toNat
noncomputable def bx (c4 : Int) (j : Nat) : Nat := (Int.fmod (Int.fdiv c4 (2 ^ j)) 2).toNat
noncomputable def dtx (k a b : Nat) (c2 c3 c4 : Int) : Dt := ⟨wx c2 c3, Sx k a b, Tx' k a b, gx k a b (wx c2 c3), (List.range 4).map (bx c4)⟩
theorem dtOk {k a b : Nat} {c2 c3 c4 : Int} (hk : k < 5) : (dtx k a b c2 c3 c4).Ok where
  s := sOk hk
  w4 := fun n p _ _ => mod_lt (by decide)
  wish := fun n hn => wishOk hk (by omega)
  row2 := fun n hn => by
    obtain ⟨j, _, rfl⟩ := List.mem_map.mp hn
    exact mod_lt (by decide)
  row4 := rfl
  bk := fun n q hn hq => bkOk hk _ hn
end Mine
namespace Mine
theorem builtin1 (x : D) : D.builtin 1 [x] = D.chr x := rfl
theorem chr_int (i : Int) : D.chr (.int i) = if 0 ≤ i ∧ i < 55296 then some (.str [i.toNat]) else none := rfl
theorem chr_ok {i : Int} : D.builtin 1 [.int (((Int.fmod i 55296).toNat : Nat) : Int)] = some (.str [(Int.fmod i 55296).toNat]) := by
  have h := mod_lt (i := i) (show (0 : Int) < 55296 by decide)
  have h' : (Int.fmod i 55296).toNat < 55296 := h
  rw [builtin1, chr_int]
  rw [if_pos ⟨by lia, by lia⟩, Int.toNat_natCast]
theorem pow4 {p : Nat} (hp : p < 4) : D.bin .Pow (.int 4) (.int (p : Int)) = some (.int (4 ^ p)) ∧ ((0 : Int) < 4 ^ p ∧ (4 : Int) ^ p < 1073741824) := by
  have : p = 0 ∨ p = 1 ∨ p = 2 ∨ p = 3 := by lia
  rcases this with rfl | rfl | rfl | rfl <;> exact ⟨rfl, by decide, by decide⟩
theorem pow2 {p : Nat} (hp : p < 4) : D.bin .Pow (.int 2) (.int (p : Int)) = some (.int (2 ^ p)) ∧ ((0 : Int) < 2 ^ p ∧ (2 : Int) ^ p < 1073741824) := by
  have : p = 0 ∨ p = 1 ∨ p = 2 ∨ p = 3 := by lia
  rcases this with rfl | rfl | rfl | rfl <;> exact ⟨rfl, by decide, by decide⟩
theorem mult_b {b p : Nat} (hp : p < 4) : D.bin .Mult (.str [b]) (.int (p : Int)) = some (.str (List.replicate p [b]).flatten) := by
  have : p = 0 ∨ p = 1 ∨ p = 2 ∨ p = 3 := by lia
  rcases this with rfl | rfl | rfl | rfl <;> rfl
theorem ks_item {S : Nat → List Nat} {p : Nat} (hp : p < 4) : D.item (.list (ksD S)) (.int (p : Int)) = some (.str (S p)) := names_item hp
theorem head_run (l : List Int) (hl : l.length ≤ 63) (HP : ∀ k a b c2 c3 c4, k < 5 → ∃ V V', Pure (dtx k a b c2 c3 c4) V V') : runF phi5 NN lawT [.list (l.map .int)] = some (.bool true) := by
  refine runF_of (t := lawT) rfl ?_
  obtain ⟨c0, c1, c2, c3, c4, c5, hc⟩ := cells_run l hl
  let k := (Int.fmod c5 5).toNat
  let a := (Int.fmod c0 55296).toNat
  let b := (Int.fmod c1 55296).toNat
  have hk : k < 5 := mod_lt (by decide)
  obtain ⟨V, V', P⟩ := HP k a b c2 c3 c4 hk
  have H := dtOk (a := a) (b := b) (c2 := c2) (c3 := c3) (c4 := c4) hk
  have lS : ∀ p, p < 4 → (Sx k a b p).length ≤ 84 := fun p hp => Sx_le hk hp
  have lo : (ox k b).length ≤ 12 := by rw [ox_len]; exact (sg_len hk b).2
  refine ss_nx (s_asg (e_call (l_cons (e_name (d := .list (l.map .int)) rfl) l_nil) rfl hc) (by rfl) rfl) ?_
  refine ss_nx (s_asg (d := .int (k : Int)) (e_bin (e_idx (e_name rfl) e_int (z := .int c5) rfl) e_int (b_mod (by decide))) (by rfl) rfl) ?_
  refine ss_nx (s_asgT (l := [.str [a], .str [b]]) (l_cons (e_blt (e_bin (e_idx (e_name rfl) e_int (z := .int c0) rfl) e_int (b_mod (by decide))) rfl (by decide) chr_ok) (l_cons (e_blt (e_bin (e_idx (e_name rfl) e_int (z := .int c1) rfl) e_int (b_mod (by decide))) rfl (by decide) chr_ok) l_nil)) rfl rfl (by decide) (by rfl) (by show 2 ≤ lim; decide)) ?_
  refine ss_nx (s_asg (d := .list ((List.range 2).map fun n => pl (wl (wx c2 c3 n)))) (e_comp (l := List.range 2) (c := fun (n : Nat) => .int (n : Int)) (k := fun n => pl (wl (wx c2 c3 n))) (by rfl) (e_range (n := 2) e_int rfl (by decide)) rfl (by rfl) (fun n hn => ?_) (by decide)) (by rfl) rfl) ?_
  · have hn2 := List.mem_range.mp hn
    have e : pl (wl (wx c2 c3 n)) = .list ((List.range 4).map fun p => .int ((wx c2 c3 n p : Nat) : Int)) := by unfold pl wl; rw [List.map_map]; rfl
    rw [e]
    refine e_comp (l := List.range 4) (c := fun (n : Nat) => .int (n : Int)) (k := fun p => .int ((wx c2 c3 n p : Nat) : Int)) (by rfl) (e_range (n := 4) e_int rfl (by decide)) rfl (by rfl) (fun p hp => ?_) (by decide)
    have hp4 := List.mem_range.mp hp
    have hi : D.item (.list [.int c0, .int c1, .int c2, .int c3, .int c4, .int c5]) (.int (2 + (n : Int))) = some (.int (if n = 0 then c2 else c3)) := by
      have : n = 0 ∨ n = 1 := by lia
      rcases this with rfl | rfl <;> rfl
    exact e_bin (e_bin (e_idx (e_name rfl) (e_bin e_int (e_name rfl) (z := .int (2 + (n : Int))) rfl) hi) (e_bin e_int (e_name rfl) (pow4 hp4).1) (b_div (pow4 hp4).2)) e_int (b_mod (by decide))
  refine ss_nx (s_asg (d := .list ((List.range 4).map fun p => .str (cl a b p))) (e_comp (l := List.range 4) (c := fun (n : Nat) => .int (n : Int)) (k := fun p => .str (cl a b p)) (by rfl) (e_range (n := 4) e_int rfl (by decide)) rfl (by rfl) (fun p hp => ?_) (by decide)) (by rfl) rfl) ?_
  · have hp4 := List.mem_range.mp hp
    have hl4 := cl_len (a := a) (b := b) p
    unfold cl at hl4 ⊢
    refine e_bin (e_bin (e_name (d := .str [a]) rfl) (e_bin (e_name (d := .str [b]) rfl) (e_name rfl) (mult_b hp4)) (b_addS ?_)) (e_str (by decide)) (b_addS ?_)
    · rw [List.length_append] at hl4
      show _ ≤ 1048576; lia
    · show _ ≤ 1048576; lia
  refine ss_nx (s_asg (d := .list (ksD (Sx k a b))) (e_comp (l := List.range 4) (c := fun p => .str (cl a b p)) (k := fun p => .str (Sx k a b p)) (by rfl) (e_name rfl) rfl (by rfl) (fun p hp => ?_) (by decide)) (by rfl) rfl) ?_
  · have hp4 := List.mem_range.mp hp
    exact e_call (l_cons (e_name rfl) (l_cons (e_name (d := .int (k : Int)) rfl) l_nil)) rfl (spelled_run hk (by rw [cl_len]; lia))
  refine ss_nx (s_asg (d := namesD (Sx k a b)) (e_comp (l := List.range 4) (c := fun p => .str (cl a b p)) (k := fun p => .str (Sx k a b p)) (by rfl) (e_name rfl) rfl (by rfl) (fun p hp => ?_) (by decide)) (by rfl) rfl) ?_
  · have hp4 := List.mem_range.mp hp
    exact e_call (l_cons (e_name rfl) (l_cons (e_name (d := .int (k : Int)) rfl) l_nil)) rfl (written_run hk (by rw [cl_len]; lia))
  refine ss_nx (s_seal (d := namesD (Sx k a b)) rfl rfl) ?_
  have add3 : ∀ n, n < 4 → D.bin .Add (.str [123]) (.str (ox k b)) = some (.str ([123] ++ ox k b)) ∧ D.bin .Add (.str ([123] ++ ox k b)) (.str [125]) = some (.str ([123] ++ ox k b ++ [125])) ∧ D.bin .Add (.str ([123] ++ ox k b ++ [125])) (.str (Sx k a b n)) = some (.str (Tx' k a b n)) := fun n hn => by
    have := lS n hn
    refine ⟨b_addS ?_, b_addS ?_, b_addS ?_⟩ <;> (simp only [List.length_append, List.length_singleton]; show _ ≤ 1048576; lia)
  refine ss_nx (s_asg (d := .list ((List.range 2).map fun n => .str (Tx' k a b n))) (e_comp (l := List.range 2) (c := fun (n : Nat) => .int (n : Int)) (k := fun n => .str (Tx' k a b n)) (by rfl) (e_range (n := 2) e_int rfl (by decide)) rfl (by rfl) (fun n hn => ?_) (by decide)) (by rfl) rfl) ?_
  · have hn2 := List.mem_range.mp hn
    obtain ⟨a1, a2, a3⟩ := add3 n (by lia)
    exact e_bin (e_bin (e_bin (e_str (by decide)) (e_call (l_cons (e_name (d := .str [b]) rfl) (l_cons (e_name (d := .int (k : Int)) rfl) l_nil)) rfl (spelled_run hk (by show 1 ≤ 100; decide))) a1) (e_str (by decide)) a2) (e_idx (e_name (d := .list (ksD (Sx k a b))) rfl) (e_name rfl) (ks_item (by lia))) a3
  refine ss_nx (s_asg (d := (dtx k a b c2 c3 c4).wish) (e_comp (l := List.range 2) (c := fun (n : Nat) => .int (n : Int)) (k := fun n => .str (Tx' k a b n)) (by rfl) (e_range (n := 2) e_int rfl (by decide)) rfl (by rfl) (fun n hn => ?_) (by decide)) (by rfl) rfl) ?_
  · have hn2 := List.mem_range.mp hn
    obtain ⟨a1, a2, a3⟩ := add3 n (by lia)
    exact e_bin (e_bin (e_bin (e_str (by decide)) (e_call (l_cons (e_name (d := .str [b]) rfl) (l_cons (e_name (d := .int (k : Int)) rfl) l_nil)) rfl (written_run hk (by show 1 ≤ 100; decide))) a1) (e_str (by decide)) a2) (e_idx (e_nameS (d := namesD (Sx k a b)) rfl) (e_name rfl) (names_item (by lia))) a3
  refine ss_nx (s_seal (d := (dtx k a b c2 c3 c4).wish) rfl rfl) ?_
  have nd : ((List.range 4).map (Sx k a b)).Nodup := List.pairwise_map.mpr ((show (List.range 4).Nodup by decide).imp_of_mem fun ha hb hne e => hne ((sOk hk).inj _ _ (List.mem_range.mp ha) (List.mem_range.mp hb) e))
  refine ss_nx (s_asg (d := (dtx k a b c2 c3 c4).ctxs) (e_comp (l := List.range 2) (c := fun (n : Nat) => .int (n : Int)) (k := fun n => ctxD (Sx k a b) (wx c2 c3 n)) (by rfl) (e_range (n := 2) e_int rfl (by decide)) rfl (by rfl) (fun n hn => ?_) (by decide)) (by rfl) rfl) ?_
  · have hn2 := List.mem_range.mp hn
    exact e_call (l_cons (e_dcomp (l := List.range 4) (c := fun (n : Nat) => .int (n : Int)) (k := Sx k a b) (v := fun p => .int ((wx c2 c3 n p : Nat) : Int)) (by rfl) (e_range (n := 4) e_int rfl (by decide)) rfl (by rfl) (fun p hp => e_idx (e_name (d := .list (ksD (Sx k a b))) rfl) (e_name rfl) (ks_item (List.mem_range.mp hp)))
      (fun p hp => e_idx (e_idx (e_name (d := (dtx k a b c2 c3 c4).ways) rfl) (e_name rfl) (ways_item _ hn2)) (e_name rfl) (wl_item (List.mem_range.mp hp))) (by decide) nd) l_nil) rfl (by rfl)
  refine ss_nx (s_seal (d := (dtx k a b c2 c3 c4).ctxs) rfl rfl) ?_
  refine ss_nx (s_asg (d := .list ((strL k a b).map thD)) (e_comp2 (l := List.range 2) (c := fun (n : Nat) => .int (n : Int)) (m := fun n => [Xx k a b n, Yx k a b n]) (c2 := fun _ s => .str s) (tt := fun _ _ => true) (k := fun _ s => .thing [19,20] [.int 4, .str s]) (by rfl) (e_range (n := 2) e_int rfl (by decide)) rfl (by rfl) (fun n hn => ?_) (fun n hn => by rfl) (fun n hn s hs => c_nil) (fun n hn s hs _ => ?_) (by show 4 ≤ lim; decide)) (by rfl) rfl) ?_
  · have hn2 := List.mem_range.mp hn
    have h1 := lS 2 (by decide)
    have h2 := lS n (by lia)
    have hT := Tx_len (k := k) (a := a) (b := b) n
    have hb := (sg_len hk b).2
    have hX : ∀ m, (Sx k a b m) = Sx k a b m := fun m => rfl
    refine ⟨_, e_list (l_cons (e_bin (z := .str (Xx k a b n)) (e_bin (e_bin (e_str (by decide)) (e_idx (e_name (d := .list (ksD (Sx k a b))) rfl) e_int (ks_item (p := 2) (by decide))) (b_addS ?_)) (e_str (by decide)) (b_addS ?_)) (e_idx (e_name (d := .list (ksD (Sx k a b))) rfl) (e_name rfl) (ks_item (by lia))) (b_addS ?_)) (l_cons (e_bin (z := .str (Yx k a b n)) (e_idx (e_name (d := (dtx k a b c2 c3 c4).wish) rfl) (e_name rfl) (wish_item _ hn2)) (e_idx (e_name (d := (dtx k a b c2 c3 c4).wish) rfl) (e_name rfl) (wish_item _ hn2)) (b_addS (u := Tx' k a b n) (v := Tx' k a b n) ?_)) l_nil)) (by show 2 ≤ lim; decide), rfl⟩ <;>
    (simp only [List.length_append, List.length_singleton]; show _ ≤ 1048576; lia)
  · exact e_call (l_cons e_int (l_cons (e_name rfl) l_nil)) rfl (by rfl)
  refine ss_nx (s_asg (d := rowsD (gx k a b (wx c2 c3))) (e_comp (l := List.range 4) (c := fun (n : Nat) => .int (n : Int)) (k := fun q => .list ((gx k a b (wx c2 c3) q).map thD)) (by rfl) (e_range (n := 4) e_int rfl (by decide)) rfl (by rfl) (fun q hq => ?_) (by decide)) (by rfl) rfl) ?_
  · have e : (gx k a b (wx c2 c3) q).map thD = ((List.range 2).flatMap fun n => ((List.range 4).filter fun p => wx c2 c3 n p == q).map fun p => thD (p, Tx' k a b n)) ++ (strL k a b).map thD := by
      unfold gx
      rw [List.map_append, List.map_flatMap]
      congr 2
      funext n
      rw [List.map_map]; rfl
    have h8 : ((List.range 2).flatMap fun n => ((List.range 4).filter fun p => wx c2 c3 n p == q).map fun p => thD (p, Tx' k a b n)).length ≤ 8 := by
      have r2 : List.range 2 = [0,1] := rfl
      rw [r2]
      simp only [List.flatMap_cons, List.flatMap_nil, List.append_nil, List.length_append, List.length_map]
      have h0 := List.length_filter_le (fun p => wx c2 c3 0 p == q) (List.range 4)
      have h1 := List.length_filter_le (fun p => wx c2 c3 1 p == q) (List.range 4)
      rw [List.length_range] at h0 h1
      lia
    have h4 : ((strL k a b).map thD).length = 4 := rfl
    rw [e]
    refine e_bin (x := .list ((List.range 2).flatMap fun n => ((List.range 4).filter fun p => wx c2 c3 n p == q).map fun p => thD (p, Tx' k a b n))) (y := .list ((strL k a b).map thD)) (e_comp2 (l := List.range 2) (c := fun (n : Nat) => .int (n : Int)) (m := fun _ => List.range 4) (c2 := fun _ (p : Nat) => .int (p : Int)) (tt := fun n p => wx c2 c3 n p == q) (k := fun n p => thD (p, Tx' k a b n)) (by rfl) (e_range (n := 2) e_int rfl (by decide)) rfl (by rfl) (fun n hn => e_range' (n := 4) e_int rfl (by decide)) (fun n hn => by rfl)
      (fun n hn p hp => c_one (t_cmp (e_idx (e_idx (e_name (d := (dtx k a b c2 c3 c4).ways) rfl) (e_name rfl) (ways_item _ (List.mem_range.mp hn))) (e_name rfl) (wl_item (List.mem_range.mp hp))) (e_name rfl) (c_eqI.trans (congrArg some (intEq _ _))))) (fun n hn p hp _ => e_call (l_cons (e_name rfl) (l_cons (e_idx (e_name (d := (dtx k a b c2 c3 c4).wish) rfl) (e_name rfl) (wish_item _ (List.mem_range.mp hn))) l_nil)) rfl (by rfl)) (Nat.le_trans h8 (by decide))) (e_name rfl) ?_
    show mkL _ = _
    unfold mkL
    rw [if_pos (show _ ≤ 1048576 by rw [List.length_append, h4]; lia)]
  refine ss_nx (s_seal (d := rowsD (gx k a b (wx c2 c3))) rfl rfl) ?_
  refine ss_nx (s_asgT (l := [pl ((List.range 4).map (bx c4)), .lam 11 []]) (l_cons (e_comp (l := List.range 4) (c := fun (n : Nat) => .int (n : Int)) (k := fun j => .int ((bx c4 j : Nat) : Int)) (by rfl) (e_range (n := 4) e_int rfl (by decide)) rfl (by rfl) (fun p hp => e_bin (e_bin (e_idx (e_name rfl) e_int (z := .int c4) rfl) (e_bin e_int (e_name rfl) (pow2 (List.mem_range.mp hp)).1) (b_div (pow2 (List.mem_range.mp hp)).2)) e_int (b_mod (by decide))) (by decide)) (l_cons (e_call (l_cons e_nil (l_cons (e_tup (l_cons (e_str (by decide)) (l_cons (e_str (by decide)) l_nil)) (by decide)) l_nil)) rfl parent_run) l_nil)) rfl rfl (by decide) (by rfl) (by show 2 ≤ lim; decide)) ?_
  refine ss_nx (s_seal (d := .lam 11 []) rfl rfl) ?_
  refine ss_nx (s_asgT (l := [.list (lines0.map pl), pl [0,1,2,3]]) (l_cons (e_comp (l := List.range 4) (c := fun (n : Nat) => .int (n : Int)) (k := fun p => .list [.int (p : Int)]) (by rfl) (e_range (n := 4) e_int rfl (by decide)) rfl (by rfl) (fun p hp => e_list (l_cons (e_name rfl) l_nil) (by show 1 ≤ lim; decide)) (by decide)) (l_cons (e_list (l_cons e_int (l_cons e_int (l_cons e_int (l_cons e_int l_nil)))) (by decide)) l_nil)) rfl rfl (by decide) (by rfl) (by show 2 ≤ lim; decide)) ?_
  refine law_tail H P ⟨rfl, rfl, rfl, rfl, rfl, rfl, rfl, fun x hx d h => ?_⟩ rfl rfl
  simp only [List.mem_cons, List.not_mem_nil, or_false] at hx
  rcases hx with rfl | rfl | rfl | rfl | rfl | rfl
  · exact nomatch (show (none : Option Ent) = some (.sealed d) from h)
  · exact nomatch (show some (Ent.fz (.list (lines0.map pl))) = some (.sealed d) from h)
  · exact nomatch (show some (Ent.fz (pl [0,1,2,3])) = some (.sealed d) from h)
  · exact nomatch (show (none : Option Ent) = some (.sealed d) from h)
  · exact nomatch (show (none : Option Ent) = some (.sealed d) from h)
  · exact nomatch (show (none : Option Ent) = some (.sealed d) from h)
end Mine
namespace Mine
theorem eq_of_strict {α : Type} {lt : α → α → Prop} (hi : ∀ a, ¬ lt a a) (ha : ∀ a b, lt a b → ¬ lt b a) : ∀ l m : List α, l.Pairwise lt → m.Pairwise lt → (∀ x, x ∈ l ↔ x ∈ m) → l = m
  | [], [], _, _, _ => rfl
  | [], b :: m, _, _, h => by have := (h b).mpr (List.mem_cons_self ..); cases this
  | a :: l, [], _, _, h => by have := (h a).mp (List.mem_cons_self ..); cases this
  | a :: l, b :: m, hl, hm, h => by
    obtain ⟨l1, l2⟩ := List.pairwise_cons.mp hl
    obtain ⟨m1, m2⟩ := List.pairwise_cons.mp hm
    have e : a = b := by
      rcases List.mem_cons.mp ((h a).mp (List.mem_cons_self ..)) with e | h1
      · exact e
      rcases List.mem_cons.mp ((h b).mpr (List.mem_cons_self ..)) with e | h2
      · exact e.symm
      · exact absurd (m1 a h1) (ha _ _ (l1 b h2))
    subst e
    refine congrArg _ (eq_of_strict hi ha l m l2 m2 fun x => ⟨fun hx => ?_, fun hx => ?_⟩)
    · rcases List.mem_cons.mp ((h x).mp (List.mem_cons_of_mem _ hx)) with e | h1
      · exact absurd (l1 x hx) (e ▸ hi a)
      · exact h1
    · rcases List.mem_cons.mp ((h x).mpr (List.mem_cons_of_mem _ hx)) with e | h1
      · exact absurd (m1 x hx) (e ▸ hi a)
      · exact h1
theorem insBy_sortedN {α : Type} {le : α → α → Bool} (ht : ∀ a b, le a b = true ∨ le b a = true) (tr : ∀ a b c, le a b = true → le b c = true → le a c = true) (x : α) : ∀ l : List α, l.Pairwise (fun a b => le a b = true) → (insBy le x l).Pairwise fun a b => le a b = true
  | [], _ => by simp [insBy]
  | y :: r, h => by
    obtain ⟨h1, h2⟩ := List.pairwise_cons.mp h
    unfold insBy
    split
    · rename_i hc
      refine List.pairwise_cons.mpr ⟨fun z hz => ?_, h⟩
      rcases List.mem_cons.mp hz with rfl | hz
      · exact hc
      · exact tr _ _ _ hc (h1 z hz)
    · rename_i hc
      refine List.pairwise_cons.mpr ⟨fun z hz => ?_, insBy_sortedN ht tr x r h2⟩
      rcases List.mem_cons.mp ((insBy_permN le x r).mem_iff.mp hz) with rfl | hz
      · exact (ht y z).resolve_right hc
      · exact h1 z hz
theorem sortBy_sortedN {α : Type} {le : α → α → Bool} (ht : ∀ a b, le a b = true ∨ le b a = true) (tr : ∀ a b c, le a b = true → le b c = true → le a c = true) : ∀ l : List α, (sortBy le l).Pairwise fun a b => le a b = true
  | [] => List.Pairwise.nil
  | x :: r => insBy_sortedN ht tr x _ (sortBy_sortedN ht tr r)
noncomputable def canon (b : Nat → Bool) : List Nat := (List.range 4).filter b
noncomputable def subs4 : List (List Nat) := [[], [0], [1], [0,1], [2], [0,2], [1,2], [0,1,2], [3], [0,3], [1,3], [0,1,3], [2,3], [0,2,3], [1,2,3], [0,1,2,3]]
noncomputable def canonB (x0 x1 x2 x3 : Bool) : List Nat := (List.range 4).filter fun p => match p with | 0 => x0 | 1 => x1 | 2 => x2 | _ => x3
theorem canon_all : ∀ x0 x1 x2 x3, canonB x0 x1 x2 x3 ∈ subs4 := by decide
theorem canon_mem (b : Nat → Bool) : canon b ∈ subs4 := (show canon b = canonB (b 0) (b 1) (b 2) (b 3) from rfl) ▸ canon_all _ _ _ _
theorem mem_canon {b : Nat → Bool} {p : Nat} : p ∈ canon b ↔ p < 4 ∧ b p = true := by
  unfold canon; rw [List.mem_filter, List.mem_range]
theorem range_lt (n : Nat) : (List.range n).Pairwise (· < ·) := List.pairwise_lt_range
theorem canon_lt (b : Nat → Bool) : (canon b).Pairwise (· < ·) := (range_lt 4).filter _
theorem sortN_mem {x : List Nat} {p : Nat} : p ∈ sortN x ↔ p ∈ x := (sortBy_permN _ x).mem_iff
theorem sortN_lt {x : List Nat} (h : x.Nodup) : (sortN x).Pairwise (· < ·) := by
  have h1 : (sortN x).Nodup := (sortBy_permN _ x).nodup_iff.mpr h
  have h2 := sortBy_sortedN (le := fun a b : Nat => decide (a ≤ b)) (fun a b => by simp only [decide_eq_true_eq]; lia) (fun a b c h1 h2 => by simp only [decide_eq_true_eq] at *; lia) x
  refine (h2.and h1).imp fun {a b} h => ?_
  have := h.1
  have hne := h.2
  simp only [decide_eq_true_eq] at this
  lia
theorem sortN_canon {x : List Nat} (h : x.Nodup) (h4 : ∀ p ∈ x, p < 4) : sortN x = canon fun p => x.contains p :=
  eq_of_strict (lt := fun a b : Nat => a < b) (fun a => Nat.lt_irrefl a) (fun a b h1 h2 => Nat.lt_asymm h1 h2) _ _ (sortN_lt h) (canon_lt _) fun p => by
    rw [sortN_mem, mem_canon, List.contains_iff_mem]
    exact ⟨fun hp => ⟨h4 p hp, hp⟩, fun hp => hp.2⟩
theorem newL_mem {xs : List Nat} : ∀ {ks : List Nat} {p : Nat}, p ∈ newL ks xs ↔ p ∈ xs ∧ p ∉ ks := by
  induction xs with
  | nil => intro ks p; simp [newL_nil]
  | cons x xs ih =>
    intro ks p
    rw [newL_cons]
    split
    · rename_i hc
      rw [ih]
      have hx : x ∈ ks := by simpa using hc
      constructor
      · exact fun h => ⟨List.mem_cons_of_mem _ h.1, h.2⟩
      · rintro ⟨h1, h2⟩
        rcases List.mem_cons.mp h1 with rfl | h1
        · exact absurd hx h2
        · exact ⟨h1, h2⟩
    · rename_i hc
      have hx : x ∉ ks := by simpa using hc
      rw [List.mem_cons, ih, List.mem_cons]
      constructor
      · rintro (rfl | ⟨h1, h2⟩)
        · exact ⟨.inl rfl, hx⟩
        · exact ⟨.inr h1, fun h => h2 (List.mem_append_left _ h)⟩
      · rintro ⟨h1 | h1, h2⟩
        · exact .inl h1
        · by_cases e : p = x
          · exact .inl e
          · refine .inr ⟨h1, fun h => ?_⟩
            rcases List.mem_append.mp h with h | h
            · exact h2 h
            · exact e (List.mem_singleton.mp h)
theorem newL_nodup {xs : List Nat} : ∀ {ks : List Nat}, (newL ks xs).Nodup := by
  induction xs with
  | nil => intro ks; exact List.Pairwise.nil
  | cons x xs ih =>
    intro ks
    rw [newL_cons]
    split
    · exact ih
    · refine List.nodup_cons.mpr ⟨fun h => ?_, ih⟩
      exact (newL_mem.mp h).2 (List.mem_append_right _ (List.mem_singleton.mpr rfl))
theorem onP_mem {f : Nat → Nat} {ps : List Nat} {q : Nat} : q ∈ onP f ps ↔ ∃ p ∈ ps, f p = q := by
  unfold onP
  rw [newL_mem, List.mem_map]
  simp
theorem preP_mem {f : Nat → Nat} {ps : List Nat} {p : Nat} : p ∈ preP f ps ↔ p < 4 ∧ f p ∈ ps := by
  unfold preP
  rw [List.mem_flatMap]
  constructor
  · rintro ⟨q, hq, h⟩
    rw [List.mem_filter, List.mem_range] at h
    have := eq_of_beq h.2
    exact ⟨h.1, this ▸ hq⟩
  · rintro ⟨h1, h2⟩
    exact ⟨f p, h2, List.mem_filter.mpr ⟨List.mem_range.mpr h1, by simp⟩⟩
theorem preP_nodup {f : Nat → Nat} : ∀ {ps : List Nat}, ps.Nodup → (preP f ps).Nodup
  | [], _ => List.Pairwise.nil
  | q :: ps, h => by
    obtain ⟨h1, h2⟩ := List.nodup_cons.mp h
    have e : preP f (q :: ps) = ((List.range 4).filter fun p => f p == q) ++ preP f ps := List.flatMap_cons
    rw [e]
    refine List.nodup_append.mpr ⟨(List.nodup_range).filter _, preP_nodup h2, fun a ha b hb e => ?_⟩
    subst e
    rw [List.mem_filter] at ha
    have := eq_of_beq ha.2
    exact h1 (this ▸ (preP_mem.mp hb).2)
theorem subs_ok {s : List Nat} (h : s ∈ subs4) : s.Nodup ∧ (∀ p ∈ s, p < 4) ∧ s.length ≤ 4 := by
  have : subs4.all (fun s => decide s.Nodup && (s.all fun p => decide (p < 4)) && decide (s.length ≤ 4)) = true := by decide
  have := List.all_eq_true.mp this s h
  simp only [Bool.and_eq_true, decide_eq_true_eq, List.all_eq_true] at this
  exact ⟨this.1.1, this.1.2, this.2⟩
theorem sub_len {α : Type} [DecidableEq α] : ∀ (L U : List α), L.Nodup → (∀ x ∈ L, x ∈ U) → L.length ≤ U.length
  | [], U, _, _ => Nat.zero_le _
  | a :: L, U, hn, h => by
    obtain ⟨h1, h2⟩ := List.nodup_cons.mp hn
    have ha := h a (List.mem_cons_self ..)
    have := sub_len L (U.erase a) h2 fun x hx => (List.mem_erase_of_ne (show x ≠ a from fun e => h1 (by rw [← e]; exact hx))).mpr (h x (List.mem_cons_of_mem _ hx))
    rw [List.length_erase_of_mem ha] at this
    have hpos := List.length_pos_of_mem ha
    rw [List.length_cons]; lia
theorem few4 (L : List (List Nat)) (h : L.Nodup) (hs : ∀ x ∈ L, x ∈ subs4) : L.length ≤ 16 := sub_len L subs4 h hs
theorem dd_map {f : Nat → Nat} : ∀ (xs ks ks' : List Nat), (∀ k ∈ ks, f k ∈ ks') → newL ks' ((newL ks xs).map f) = newL ks' (xs.map f)
  | [], _, _, _ => rfl
  | x :: xs, ks, ks', h => by
    rw [List.map_cons, newL_cons]
    split
    · rename_i hc
      rw [dd_map xs ks ks' h, newL_cons, if_pos (by simpa using h x (by simpa using hc))]
    · rw [List.map_cons, newL_cons, newL_cons]
      split
      · rename_i hc
        exact dd_map xs _ _ fun k hk => (List.mem_append.mp hk).elim (h k) fun e => by rw [List.mem_singleton.mp e]; simpa using hc
      · rw [dd_map xs _ _ fun k hk => (List.mem_append.mp hk).elim (fun hk => List.mem_append_left _ (h k hk)) fun e => List.mem_append_right _ (by rw [List.mem_singleton.mp e]; exact List.mem_singleton.mpr rfl)]
theorem ons_dd (w : Nat → Nat → Nat) : ∀ (ns xs : List Nat), onsOf w ns (newL [] xs) = newL [] (ns.foldl (fun E n => E.map (w n)) xs)
  | [], xs => rfl
  | n :: ns, xs => by
    show onsOf w ns (onP (w n) (newL [] xs)) = _
    unfold onP
    rw [dd_map xs [] [] (fun k hk => by cases hk)]
    exact ons_dd w ns (xs.map (w n))
theorem heads_of (w : Nat → Nat → Nat) : ∀ (ns : List Nat) (L : List (List Nat)), (linesOf w ns L).map (fun l => l.getD 0 0) = ns.foldl (fun E n => E.map (w n)) (L.map fun l => l.getD 0 0)
  | [], L => rfl
  | n :: ns, L => by
    show (linesOf w ns (linesStep w n L)).map _ = ns.foldl _ ((L.map fun l => l.getD 0 0).map (w n))
    rw [heads_of w ns]
    congr 1
    unfold linesStep
    rw [List.map_map, List.map_map]; rfl
theorem firsts_dd : ((List.range 4).all fun a => (List.range 4).all fun b => (List.range 4).all fun c => (List.range 4).all fun d => newL [] [a, b, c, d] == firsts [a, b, c, d]) = true := by decide +kernel
theorem firsts_eq {E : List Nat} (h : E.length = 4) (h4 : ∀ p ∈ E, p < 4) : newL [] E = firsts E := by
  obtain ⟨a, b, c, d, rfl⟩ : ∃ a b c d, E = [a, b, c, d] := by
    match E, h with
    | [a, b, c, d], _ => exact ⟨a, b, c, d, rfl⟩
  have := firsts_dd
  simp only [List.all_eq_true, List.mem_range] at this
  exact eq_of_beq (this a (h4 a (by simp)) b (h4 b (by simp)) c (h4 c (by simp)) d (h4 d (by simp)))
theorem pure1 (w : Nat → Nat → Nat) (hw : ∀ n p, w n p < 4) (row : List Nat) : onsOf w row [0,1,2,3] = firsts ((linesOf w row lines0).map fun l => l.getD 0 0) := by
  have e : ([0,1,2,3] : List Nat) = newL [] [0,1,2,3] := by decide
  rw [e, ons_dd, heads_of]
  show newL [] (row.foldl (fun E n => E.map (w n)) [0,1,2,3]) = firsts (row.foldl (fun E n => E.map (w n)) [0,1,2,3])
  have key : ∀ (ns E : List Nat), E.length = 4 ∧ (∀ p ∈ E, p < 4) → (ns.foldl (fun E n => E.map (w n)) E).length = 4 ∧ ∀ p ∈ ns.foldl (fun E n => E.map (w n)) E, p < 4 := by
    intro ns
    induction ns with
    | nil => intro E h; exact h
    | cons n ns ih =>
      intro E h
      refine ih _ ⟨by rw [List.length_map]; exact h.1, fun p hp => ?_⟩
      obtain ⟨q, _, rfl⟩ := List.mem_map.mp hp
      exact hw n q
  have := key row [0,1,2,3] ⟨rfl, by decide⟩
  exact firsts_eq this.1 this.2
end Mine
namespace Mine
noncomputable abbrev cI (l : List Nat) : List Int := l.map fun (p : Nat) => (p : Int)
noncomputable def ltN (a b : List Nat) : Prop := ltL (cI a) (cI b) = true
theorem ltN_irrefl (a : List Nat) : ¬ ltN a a := fun h => by unfold ltN at h; rw [ltL_irrefl] at h; exact nomatch h
theorem ltN_asymm (a b : List Nat) (h : ltN a b) : ¬ ltN b a := fun h2 => by
  unfold ltN at h2; rw [ltL_asymm h] at h2; exact nomatch h2
theorem cI_inj : ∀ a b : List Nat, cI a = cI b → a = b
  | [], [], _ => rfl
  | [], _ :: _, h => by cases h
  | _ :: _, [], h => by cases h
  | x :: a, y :: b, h => by
    simp only [cI, List.map_cons, List.cons.injEq] at h
    have := cI_inj a b h.2
    have h1 : x = y := by lia
    rw [h1, this]
theorem ltN_of_le {a b : List Nat} (h : leN a b = true) (hne : a ≠ b) : ltN a b := by
  unfold leN at h
  rw [leI_eq] at h
  unfold ltN
  cases h2 : ltL (cI a) (cI b) with
  | true => rfl
  | false =>
    have h3 : ltL (cI b) (cI a) = false := by simpa using h
    exact absurd (cI_inj _ _ (ltL_total _ _ h2 h3)) hne
theorem ltN_cons (q : Nat) (a b : List Nat) : ltN (q :: a) (q :: b) ↔ ltN a b := by
  unfold ltN cI
  rw [List.map_cons, List.map_cons, ltL, if_pos rfl]
theorem ltN_heads {r s : Nat} (h : r < s) (a b : List Nat) : ltN (r :: a) (s :: b) := by
  unfold ltN cI
  rw [List.map_cons, List.map_cons, ltL, if_neg (by lia)]
  exact decide_eq_true (by lia)
variable (w : Nat → Nat → Nat)
noncomputable def enum : List Nat → Nat → List (List Nat)
  | [], q => [[q]]
  | n :: ns, q => ((List.range 4).filter fun p => w n p == q).flatMap fun r => (enum ns r).map (q :: ·)
noncomputable def trR : List Nat → Nat → List Nat
  | [], p => [p]
  | n :: ns, p => w n ((trR ns p).getD 0 0) :: trR ns p
theorem enum_head : ∀ (ns : List Nat) (q : Nat), ∀ l ∈ enum w ns q, ∃ m, l = q :: m
  | [], q, l, h => by rw [enum, List.mem_singleton] at h; exact ⟨[], h⟩
  | n :: ns, q, l, h => by
    rw [enum, List.mem_flatMap] at h
    obtain ⟨r, _, h⟩ := h
    obtain ⟨m, _, rfl⟩ := List.mem_map.mp h
    exact ⟨m, rfl⟩
theorem pres_enum : ∀ (ns ps : List Nat), presOf w ns ps = ps.flatMap fun q => (enum w ns q).map fun l => l.getD ns.length 0
  | [], ps => by
    show ps = _
    have : (fun q => (enum w [] q).map fun l => l.getD ([] : List Nat).length 0) = fun q : Nat => [q] := rfl
    rw [this]
    have := flat_one (fun q : Nat => q) ps
    rw [List.map_id'] at this
    exact this.symm
  | n :: ns, ps => by
    show presOf w ns (preP (w n) ps) = _
    rw [pres_enum ns]
    unfold preP
    rw [List.flatMap_assoc]
    congr 1
    funext q
    rw [enum, List.map_flatMap]
    congr 1
    funext r
    rw [List.map_map]
    exact List.map_congr_left fun l _ => by simp
variable {w}
theorem trR_head (hw : ∀ n p, w n p < 4) : ∀ (ns : List Nat) (p : Nat), p < 4 → (trR w ns p).getD 0 0 < 4
  | [], p, h => h
  | n :: ns, p, h => hw _ _
theorem enum_mem (hw : ∀ n p, w n p < 4) : ∀ (ns : List Nat) (q : Nat) (l : List Nat), q < 4 → (l ∈ enum w ns q ↔ ∃ p, p < 4 ∧ l = trR w ns p ∧ l.getD 0 0 = q)
  | [], q, l, hq => by
    rw [enum, List.mem_singleton]
    constructor
    · rintro rfl; exact ⟨q, hq, rfl, rfl⟩
    · rintro ⟨p, hp, rfl, h⟩
      have : p = q := h
      rw [this]; rfl
  | n :: ns, q, l, hq => by
    rw [enum, List.mem_flatMap]
    constructor
    · rintro ⟨r, hr, h⟩
      rw [List.mem_filter, List.mem_range] at hr
      obtain ⟨l', hl', rfl⟩ := List.mem_map.mp h
      obtain ⟨p, hp, rfl, hh⟩ := (enum_mem hw ns r l' hr.1).mp hl'
      refine ⟨p, hp, ?_, rfl⟩
      show q :: trR w ns p = w n ((trR w ns p).getD 0 0) :: trR w ns p
      rw [hh, eq_of_beq hr.2]
    · rintro ⟨p, hp, rfl, hh⟩
      refine ⟨(trR w ns p).getD 0 0, List.mem_filter.mpr ⟨List.mem_range.mpr (trR_head hw ns p hp), ?_⟩, ?_⟩
      · have : w n ((trR w ns p).getD 0 0) = q := hh
        rw [this]; simp
      · have e : w n ((trR w ns p).getD 0 0) = q := hh
        refine List.mem_map.mpr ⟨trR w ns p, (enum_mem hw ns _ _ (trR_head hw ns p hp)).mpr ⟨p, hp, rfl, rfl⟩, ?_⟩
        show q :: trR w ns p = w n ((trR w ns p).getD 0 0) :: trR w ns p
        rw [e]
theorem enum_lt : ∀ (ns : List Nat) (q : Nat), (enum w ns q).Pairwise ltN
  | [], q => by rw [enum]; exact List.pairwise_singleton _ _
  | n :: ns, q => by
    rw [enum, List.pairwise_flatMap]
    refine ⟨fun r _ => ?_, ?_⟩
    · rw [List.pairwise_map]
      exact (enum_lt ns r).imp fun h => (ltN_cons q _ _).mpr h
    · refine ((range_lt 4).filter _).imp fun {r s} hrs x hx y hy => ?_
      obtain ⟨x', hx', rfl⟩ := List.mem_map.mp hx
      obtain ⟨y', hy', rfl⟩ := List.mem_map.mp hy
      obtain ⟨mx, rfl⟩ := enum_head w ns r x' hx'
      obtain ⟨my, rfl⟩ := enum_head w ns s y' hy'
      exact (ltN_cons q _ _).mpr (ltN_heads hrs _ _)
theorem lines_tr : ∀ (ns : List Nat) (L : List (List Nat)), linesOf w ns L = L.map fun l => ns.foldl (fun line n => w n (line.getD 0 0) :: line) l
  | [], L => by show L = _; simp
  | n :: ns, L => by
    show linesOf w ns (linesStep w n L) = _
    rw [lines_tr ns]
    unfold linesStep
    rw [List.map_map]; rfl
theorem tr_rev : ∀ (ns : List Nat) (p : Nat), trR w ns p = ns.foldr (fun n line => w n (line.getD 0 0) :: line) [p]
  | [], p => rfl
  | n :: ns, p => by rw [trR, List.foldr_cons, tr_rev ns p]
theorem trR_last : ∀ (ns : List Nat) (p : Nat), (trR w ns p).getD ns.length 0 = p
  | [], p => rfl
  | n :: ns, p => by
    have := trR_last ns p
    rw [trR, List.length_cons]
    simpa using this
theorem pure2 (hw : ∀ n p, w n p < 4) (row : List Nat) (h4 : row.length = 4) (q : Nat) (hq : q < 4) : presOf w row.reverse [q] = endsAt (linesOf w row lines0) q := by
  have e1 : linesOf w row lines0 = (List.range 4).map (trR w row.reverse) := by
    rw [lines_tr]
    show ([0,1,2,3].map fun p => [p]).map _ = _
    rw [List.map_map]
    show [0,1,2,3].map _ = [0,1,2,3].map _
    refine List.map_congr_left fun p _ => ?_
    rw [tr_rev, List.foldr_reverse]; rfl
  have nd : (linesOf w row lines0).Nodup := by
    rw [e1]
    refine List.pairwise_map.mpr ((List.nodup_range (n := 4)).imp fun {a b} hne e => hne ?_)
    have := congrArg (fun l => l.getD row.reverse.length 0) e
    simpa only [trR_last] using this
  have hs : (sortBy leN (linesOf w row lines0)).Pairwise ltN := by
    have h1 := sortBy_sortedN (le := leN) (fun a b => leI_total _ _) (fun a b c => leI_trans _ _ _) (linesOf w row lines0)
    have h2 : (sortBy leN (linesOf w row lines0)).Nodup := (sortBy_permN leN _).nodup_iff.mpr nd
    exact (h1.and h2).imp fun h => ltN_of_le h.1 h.2
  have e2 : (sortBy leN (linesOf w row lines0)).filter (fun line => line.getD 0 0 == q) = enum w row.reverse q := by
    refine eq_of_strict (lt := ltN) ltN_irrefl ltN_asymm _ _ (hs.filter _) (enum_lt _ _) fun l => ?_
    rw [List.mem_filter, (sortBy_permN leN _).mem_iff, enum_mem hw _ _ _ hq, e1, List.mem_map]
    constructor
    · rintro ⟨⟨p, hp, rfl⟩, h⟩
      exact ⟨p, List.mem_range.mp hp, rfl, eq_of_beq h⟩
    · rintro ⟨p, hp, rfl, h⟩
      exact ⟨⟨p, List.mem_range.mpr hp, rfl⟩, by rw [h]; simp⟩
  rw [pres_enum]
  unfold endsAt
  rw [e2, List.length_reverse, h4]
  simp
end Mine
namespace Mine
section
variable (st : Nat → List Nat → List Nat) (L0 : List (List Nat)) (size : Nat)
noncomputable def Rc (k : Nat) (s : List Nat) : Prop := ∃ u : List Nat, u.length = k ∧ (∀ n ∈ u, n < 2) ∧ ∃ s0 ∈ L0, s = u.foldl (fun s n => st n s) s0
noncomputable def Gd (k : Nat) : Prop := ∃ s, Rc st L0 k s ∧ s.length = size
noncomputable def Sol : Option Nat → Prop
  | none => ∀ k, ¬ Gd st L0 size k
  | some c => Gd st L0 size c ∧ ∀ j, j < c → ¬ Gd st L0 size j
variable {st L0 size}
theorem Rc.zero {s : List Nat} : Rc st L0 0 s ↔ s ∈ L0 := by
  constructor
  · rintro ⟨u, hu, _, s0, h, rfl⟩
    have : u = [] := List.length_eq_zero_iff.mp hu
    subst this; exact h
  · intro h; exact ⟨[], rfl, (fun n h => by exact nomatch h), s, h, rfl⟩
theorem Rc.succ {k : Nat} {s : List Nat} (h : Rc st L0 k s) {n : Nat} (hn : n < 2) : Rc st L0 (k + 1) (st n s) := by
  obtain ⟨u, hu, h2, s0, h0, rfl⟩ := h
  refine ⟨u ++ [n], by simp [hu], fun m hm => ?_, s0, h0, by rw [List.foldl_append]; rfl⟩
  rcases List.mem_append.mp hm with hm | hm
  · exact h2 m hm
  · rw [List.mem_singleton.mp hm]; exact hn
theorem Rc.pred {k : Nat} {s : List Nat} (h : Rc st L0 (k + 1) s) : ∃ s' n, n < 2 ∧ Rc st L0 k s' ∧ s = st n s' := by
  obtain ⟨u, hu, h2, s0, h0, rfl⟩ := h
  have hne : u ≠ [] := fun e => by subst e; exact nomatch hu
  have e := List.dropLast_concat_getLast hne
  refine ⟨u.dropLast.foldl (fun s n => st n s) s0, u.getLast hne, h2 _ (List.getLast_mem hne), ⟨u.dropLast, by rw [List.length_dropLast, hu]; rfl, fun n hn => h2 n (List.dropLast_subset u hn), s0, h0, rfl⟩, ?_⟩
  conv => lhs; rw [← e, List.foldl_append]
  rfl
theorem step1_mem {seen fr : List (List Nat)} {x y : List Nat} : y ∈ step1 seen fr x → y ∈ fr ∨ y = x := by
  unfold step1
  split
  · exact .inl
  · intro h
    rcases List.mem_append.mp h with h | h
    · exact .inl h
    · exact .inr (List.mem_singleton.mp h)
theorem step1_has {seen fr : List (List Nat)} {x : List Nat} : x ∈ seen ∨ x ∈ step1 seen fr x := by
  unfold step1
  split
  · rename_i h
    rcases List.mem_append.mp (by simpa using h : x ∈ seen ++ fr) with h | h
    · exact .inl h
    · exact .inr h
  · exact .inr (List.mem_append_right _ (List.mem_singleton.mpr rfl))
theorem step1_keep {seen fr : List (List Nat)} {x y : List Nat} (h : y ∈ fr) : y ∈ step1 seen fr x := by
  unfold step1
  split
  · exact h
  · exact List.mem_append_left _ h
theorem fold_mem {seen : List (List Nat)} : ∀ (level fr : List (List Nat)) (y : List Nat), y ∈ level.foldl (fun fr ps => step1 seen (step1 seen fr (st 0 ps)) (st 1 ps)) fr → y ∈ fr ∨ ∃ ps ∈ level, ∃ n, n < 2 ∧ y = st n ps
  | [], fr, y, h => .inl h
  | ps :: level, fr, y, h => by
    rcases fold_mem level _ y h with h | ⟨qs, hq, n, hn, e⟩
    · rcases step1_mem h with h | h
      · rcases step1_mem h with h | h
        · exact .inl h
        · exact .inr ⟨ps, List.mem_cons_self .., 0, by decide, h⟩
      · exact .inr ⟨ps, List.mem_cons_self .., 1, by decide, h⟩
    · exact .inr ⟨qs, List.mem_cons_of_mem _ hq, n, hn, e⟩
theorem fold_keep {seen : List (List Nat)} : ∀ (level fr : List (List Nat)) (y : List Nat), y ∈ fr → y ∈ level.foldl (fun fr ps => step1 seen (step1 seen fr (st 0 ps)) (st 1 ps)) fr
  | [], fr, y, h => h
  | ps :: level, fr, y, h => fold_keep level _ y (step1_keep (step1_keep h))
theorem fold_has {seen : List (List Nat)} : ∀ (level fr : List (List Nat)) (ps : List Nat), ps ∈ level → ∀ n, n < 2 → st n ps ∈ seen ∨ st n ps ∈ level.foldl (fun fr ps => step1 seen (step1 seen fr (st 0 ps)) (st 1 ps)) fr
  | ps :: level, fr, qs, h, n, hn => by
    rcases List.mem_cons.mp h with rfl | h
    · have : n = 0 ∨ n = 1 := by lia
      rcases this with rfl | rfl
      · rcases step1_has (seen := seen) (fr := fr) (x := st 0 qs) with h | h
        · exact .inl h
        · exact .inr (fold_keep level _ _ (step1_keep h))
      · rcases step1_has (seen := seen) (fr := step1 seen fr (st 0 qs)) (x := st 1 qs) with h | h
        · exact .inl h
        · exact .inr (fold_keep level _ _ h)
    · exact fold_has level _ qs h n hn
structure BI (st : Nat → List Nat → List Nat) (L0 : List (List Nat)) (size cc : Nat) (level seen : List (List Nat)) : Prop where
  a : ∀ s ∈ level, Rc st L0 cc s
  b : ∀ j, j ≤ cc → ∀ s, Rc st L0 j s → s ∈ seen
  c : ∀ s, Rc st L0 cc s → s ∈ level ∨ ∃ j, j < cc ∧ Rc st L0 j s
  d : ∀ s ∈ seen, ∃ j, j ≤ cc ∧ Rc st L0 j s
  e : ∀ j, j < cc → ¬ Gd st L0 size j
theorem bfs_sol : ∀ (n c : Nat) (level seen : List (List Nat)) (r : Option Nat), BI st L0 size c level seen → bfs st size n level seen c = some r → Sol st L0 size r
  | 0, _, _, _, _, _, h => by exact nomatch h
  | n + 1, c, level, seen, r, I, h => by
    unfold bfs at h
    by_cases h0 : level.isEmpty = true
    · rw [if_pos h0] at h
      obtain rfl := Option.some.inj h
      have hl : level = [] := by simpa using h0
      subst hl
      have all : ∀ k s, Rc st L0 k s → ∃ j, j < c ∧ Rc st L0 j s := by
        intro k
        induction k with
        | zero =>
          intro s hs
          by_cases hc : 0 < c
          · exact ⟨0, hc, hs⟩
          · have : c = 0 := by lia
            subst this
            rcases I.c s hs with h | h
            · exact nomatch h
            · exact h
        | succ k ih =>
          intro s hs
          obtain ⟨s', n, hn, hs', rfl⟩ := hs.pred
          obtain ⟨j, hj, hr⟩ := ih s' hs'
          by_cases hj1 : j + 1 < c
          · exact ⟨j + 1, hj1, hr.succ hn⟩
          · have : j + 1 = c := by lia
            subst this
            rcases I.c _ (hr.succ hn) with h | h
            · exact nomatch h
            · exact h
      rintro k ⟨s, hs, hg⟩
      obtain ⟨j, hj, hr⟩ := all k s hs
      exact I.e j hj ⟨s, hr, hg⟩
    rw [if_neg h0] at h
    by_cases h1 : (level.filter fun ps => ps.length == size).isEmpty = true
    · rw [if_pos h1] at h
      have hno : ¬ Gd st L0 size c := by
        rintro ⟨s, hs, hg⟩
        rcases I.c s hs with hl | ⟨j, hj, hr⟩
        · have hf : level.filter (fun ps => ps.length == size) = [] := by simpa using h1
          have : s ∈ level.filter fun ps => ps.length == size := List.mem_filter.mpr ⟨hl, by simp [hg]⟩
          rw [hf] at this; exact nomatch this
        · exact I.e j hj ⟨s, hr, hg⟩
      refine bfs_sol n (c + 1) _ _ r ?_ h
      have nxt : ∀ s, Rc st L0 (c + 1) s → s ∈ seen ++ freshOf st seen level := by
        intro s hs
        obtain ⟨s', n, hn, hs', rfl⟩ := hs.pred
        rcases I.c s' hs' with hl | ⟨j, hj, hr⟩
        · exact List.mem_append.mpr (fold_has level [] s' hl n hn)
        · exact List.mem_append_left _ (I.b (j + 1) hj _ (hr.succ hn))
      refine ⟨fun s hs => ?_, fun j hj s hs => ?_, fun s hs => ?_, fun s hs => ?_, fun j hj => ?_⟩
      · rcases fold_mem level [] s hs with h | ⟨ps, hp, m, hm, rfl⟩
        · exact nomatch h
        · exact (I.a ps hp).succ hm
      · by_cases hjc : j ≤ c
        · exact List.mem_append_left _ (I.b j hjc s hs)
        · have : j = c + 1 := by lia
          subst this; exact nxt s hs
      · rcases List.mem_append.mp (nxt s hs) with h | h
        · obtain ⟨j, hj, hr⟩ := I.d s h
          exact .inr ⟨j, by lia, hr⟩
        · exact .inl h
      · rcases List.mem_append.mp hs with h | h
        · obtain ⟨j, hj, hr⟩ := I.d s h
          exact ⟨j, by lia, hr⟩
        · rcases fold_mem level [] s h with h | ⟨ps, hp, m, hm, rfl⟩
          · exact nomatch h
          · exact ⟨c + 1, Nat.le_refl _, (I.a ps hp).succ hm⟩
      · by_cases hjc : j < c
        · exact I.e j hjc
        · have : j = c := by lia
          subst this; exact hno
    · rw [if_neg h1] at h
      obtain rfl := Option.some.inj h
      refine ⟨?_, I.e⟩
      have hne : level.filter (fun ps => ps.length == size) ≠ [] := by simpa using h1
      obtain ⟨s, hs⟩ := List.exists_mem_of_ne_nil _ hne
      rw [List.mem_filter] at hs
      exact ⟨s, I.a s hs.1, eq_of_beq hs.2⟩
theorem bfs_ends {V : List Nat → Prop} (hV : ∀ n s, n < 2 → V s → V (st n s)) (few : ∀ L : List (List Nat), L.Nodup → (∀ x ∈ L, V x) → L.length ≤ 16) : ∀ (n c : Nat) (level seen : List (List Nat)), (∀ s ∈ level, V s) → seen.Nodup → (∀ s ∈ seen, V s) → 18 ≤ n + seen.length → ∃ r, bfs st size n level seen c = some r
  | 0, c, level, seen, hl, hn, hs, h => by have := few seen hn hs; lia
  | n + 1, c, level, seen, hl, hn, hs, h => by
    unfold bfs
    by_cases h0 : level.isEmpty = true
    · rw [if_pos h0]; exact ⟨_, rfl⟩
    rw [if_neg h0]
    by_cases h1 : (level.filter fun ps => ps.length == size).isEmpty = true
    · rw [if_pos h1]
      have hfV : ∀ s ∈ freshOf st seen level, V s := fun s h => by
        rcases fold_mem level [] s h with h | ⟨ps, hp, m, hm, rfl⟩
        · exact nomatch h
        · exact hV m ps hm (hl ps hp)
      have hfn : (seen ++ freshOf st seen level).Nodup := by
        have : ∀ (level fr : List (List Nat)), (seen ++ fr).Nodup → (seen ++ level.foldl (fun fr ps => step1 seen (step1 seen fr (st 0 ps)) (st 1 ps)) fr).Nodup := by
          intro level
          induction level with
          | nil => intro fr h; exact h
          | cons ps level ih => intro fr h; exact ih _ (step1_inv (step1_inv h))
        exact this level [] (by simpa using hn)
      by_cases h2 : freshOf st seen level = []
      · cases n with
        | zero => have := few seen hn hs; lia
        | succ n => rw [h2]; unfold bfs; exact ⟨_, rfl⟩
      · refine bfs_ends hV few n (c + 1) _ _ hfV hfn (fun s h => (List.mem_append.mp h).elim (hs s) (hfV s)) ?_
        have := List.length_pos_iff.mpr h2
        rw [List.length_append]; lia
    · rw [if_neg h1]; exact ⟨_, rfl⟩
theorem BI.init : BI st L0 size 0 L0 L0 :=
  ⟨fun s hs => Rc.zero.mpr hs, fun j hj s hs => by have : j = 0 := by lia
                                                   subst this; exact Rc.zero.mp hs, fun s hs => .inl (Rc.zero.mp hs), fun s hs => ⟨0, Nat.le_refl _, Rc.zero.mpr hs⟩, fun j hj => by lia⟩
end
theorem sol_eq {st st' : Nat → List Nat → List Nat} {L L' : List (List Nat)} {z z' : Nat} (h : ∀ k, Gd st L z k ↔ Gd st' L' z' k) : ∀ r r' : Option Nat, Sol st L z r → Sol st' L' z' r' → r = r'
  | none, none, _, _ => rfl
  | none, some c, h1, h2 => absurd ((h c).mpr h2.1) (h1 c)
  | some c, none, h1, h2 => absurd ((h c).mp h1.1) (h2 c)
  | some c, some d, h1, h2 => by
    have : ¬ c < d := fun hlt => h2.2 c hlt ((h c).mp h1.1)
    have : ¬ d < c := fun hlt => h1.2 d hlt ((h d).mpr h2.1)
    have : c = d := by lia
    rw [this]
theorem sol_some {st : Nat → List Nat → List Nat} {L : List (List Nat)} {z : Nat} : ∀ r : Option Nat, Sol st L z r → (r.isSome = true ↔ ∃ k, Gd st L z k)
  | none, h => ⟨fun h => (by exact nomatch h), fun ⟨k, hk⟩ => absurd hk (h k)⟩
  | some c, h => ⟨fun _ => ⟨c, h.1⟩, fun _ => rfl⟩
end Mine
namespace Mine
variable {w : Nat → Nat → Nat}
noncomputable def runW (w : Nat → Nat → Nat) (u : List Nat) (p : Nat) : Nat := u.foldl (fun x n => w n x) p
noncomputable def Sync (w : Nat → Nat → Nat) (k : Nat) : Prop := ∃ u : List Nat, u.length = k ∧ (∀ n ∈ u, n < 2) ∧ ∃ q, q < 4 ∧ ∀ p, p < 4 → runW w u p = q
theorem runW_lt (hw : ∀ n p, w n p < 4) : ∀ (u : List Nat) {p : Nat}, p < 4 → runW w u p < 4
  | [], p, h => h
  | n :: u, p, h => runW_lt hw u (hw n p)
theorem runW_app (u v : List Nat) (p : Nat) : runW w (u ++ v) p = runW w v (runW w u p) := List.foldl_append
noncomputable abbrev fwd (w : Nat → Nat → Nat) := stOf fun way ps => onP (w way) ps
noncomputable abbrev bwd (w : Nat → Nat → Nat) := stOf fun way ps => preP (w way) ps
theorem fwd_sub (hw : ∀ n p, w n p < 4) {n : Nat} {s : List Nat} : fwd w n s ∈ subs4 := by
  have h4 : ∀ p ∈ onP (w n) s, p < 4 := fun p hp => by
    obtain ⟨q, _, rfl⟩ := onP_mem.mp hp
    exact hw n q
  show sortN (onP (w n) s) ∈ _
  rw [sortN_canon (x := onP (w n) s) newL_nodup h4]; exact canon_mem _
theorem bwd_sub {n : Nat} {s : List Nat} (hs : s ∈ subs4) : bwd w n s ∈ subs4 := by
  show sortN (preP (w n) s) ∈ _
  rw [sortN_canon (preP_nodup (subs_ok hs).1) fun p hp => (preP_mem.mp hp).1]; exact canon_mem _
theorem fwd_mem : ∀ (u s : List Nat) (q : Nat), q ∈ u.foldl (fun s n => fwd w n s) s ↔ ∃ p ∈ s, runW w u p = q
  | [], s, q => ⟨fun h => ⟨q, h, rfl⟩, fun ⟨p, hp, e⟩ => (show p = q from e) ▸ hp⟩
  | n :: u, s, q => by
    rw [List.foldl_cons, fwd_mem u]
    constructor
    · rintro ⟨p, hp, e⟩
      obtain ⟨p', hp', rfl⟩ := onP_mem.mp (sortN_mem.mp hp)
      exact ⟨p', hp', e⟩
    · rintro ⟨p, hp, e⟩
      exact ⟨w n p, sortN_mem.mpr (onP_mem.mpr ⟨p, hp, rfl⟩), e⟩
theorem fold_subF (hw : ∀ n p, w n p < 4) : ∀ (u s : List Nat), s ∈ subs4 → u.foldl (fun s n => fwd w n s) s ∈ subs4
  | [], s, h => h
  | n :: u, s, h => fold_subF hw u _ (fwd_sub hw)
theorem fold_subB : ∀ (u s : List Nat), s ∈ subs4 → u.foldl (fun s n => bwd w n s) s ∈ subs4
  | [], s, h => h
  | n :: u, s, h => fold_subB u _ (bwd_sub h)
theorem bwd_mem (hw : ∀ n p, w n p < 4) : ∀ (u s : List Nat) (p : Nat), s ∈ subs4 → (p ∈ u.foldl (fun s n => bwd w n s) s ↔ p < 4 ∧ runW w u.reverse p ∈ s)
  | [], s, p, hs => ⟨fun h => ⟨(subs_ok hs).2.1 p h, h⟩, fun h => h.2⟩
  | n :: u, s, p, hs => by
    rw [List.foldl_cons, bwd_mem hw u _ p (bwd_sub hs), List.reverse_cons, runW_app]
    constructor
    · rintro ⟨h1, h2⟩
      exact ⟨h1, (preP_mem.mp (sortN_mem.mp h2)).2⟩
    · rintro ⟨h1, h2⟩
      exact ⟨h1, sortN_mem.mpr (preP_mem.mpr ⟨runW_lt hw _ h1, h2⟩)⟩
theorem sub_one {s : List Nat} (hs : s ∈ subs4) : s.length = 1 ↔ ∃ q, q < 4 ∧ s = [q] := by
  constructor
  · intro h
    match s, h with
    | [q], _ => exact ⟨q, (subs_ok hs).2.1 q (List.mem_singleton.mpr rfl), rfl⟩
  · rintro ⟨q, _, rfl⟩; rfl
theorem sub_four {s : List Nat} (hs : s ∈ subs4) : s.length = 4 ↔ ∀ p, p < 4 → p ∈ s := by
  have : subs4.all (fun s => (s.length == 4) == ((List.range 4).all fun p => s.contains p)) = true := by decide
  have := List.all_eq_true.mp this s hs
  have := eq_of_beq this
  constructor
  · intro h p hp
    have h1 : (s.length == 4) = true := by simp [h]
    rw [h1] at this
    simpa using List.all_eq_true.mp this.symm p (List.mem_range.mpr hp)
  · intro h
    have h1 : ((List.range 4).all fun p => s.contains p) = true := List.all_eq_true.mpr fun p hp => by simpa using h p (List.mem_range.mp hp)
    rw [h1] at this
    exact eq_of_beq this
theorem gdF (hw : ∀ n p, w n p < 4) (k : Nat) : Gd (fwd w) [[0,1,2,3]] 1 k ↔ Sync w k := by
  have v0 : [0,1,2,3] ∈ subs4 := by decide
  constructor
  · rintro ⟨s, ⟨u, hu, h2, s0, h0, rfl⟩, hl⟩
    rw [List.mem_singleton] at h0; subst h0
    obtain ⟨q, hq, e⟩ := (sub_one (fold_subF hw u _ v0)).mp hl
    refine ⟨u, hu, h2, q, hq, fun p hp => ?_⟩
    have : runW w u p ∈ u.foldl (fun s n => fwd w n s) [0,1,2,3] := (fwd_mem u _ _).mpr ⟨p, by simp; lia, rfl⟩
    rw [e] at this
    exact List.mem_singleton.mp this
  · rintro ⟨u, hu, h2, q, hq, h⟩
    refine ⟨_, ⟨u, hu, h2, [0,1,2,3], List.mem_singleton.mpr rfl, rfl⟩, (sub_one (fold_subF hw u _ v0)).mpr ⟨q, hq, ?_⟩⟩
    have hs := fold_subF hw u _ v0
    have nd := (subs_ok hs).1
    have hall : ∀ x ∈ u.foldl (fun s n => fwd w n s) [0,1,2,3], x = q := fun x hx => by
      obtain ⟨p, hp, rfl⟩ := (fwd_mem u _ _).mp hx
      exact h p (by simp at hp; lia)
    have hin : q ∈ u.foldl (fun s n => fwd w n s) [0,1,2,3] := (fwd_mem u _ _).mpr ⟨0, by simp, h 0 (by decide)⟩
    generalize u.foldl (fun s n => fwd w n s) [0,1,2,3] = l at nd hall hin
    match l, nd, hall, hin with
    | [x], _, hall, _ => rw [hall x (List.mem_singleton.mpr rfl)]
    | x :: y :: l, nd, hall, _ =>
      have h1 := hall x (by simp)
      have h2 := hall y (by simp)
      rw [h1, h2] at nd
      simp at nd
theorem gdB (hw : ∀ n p, w n p < 4) (k : Nat) : Gd (bwd w) lines0 4 k ↔ Sync w k := by
  have vq : ∀ q, q < 4 → [q] ∈ subs4 ∧ [q] ∈ lines0 := fun q hq => by
    have : q = 0 ∨ q = 1 ∨ q = 2 ∨ q = 3 := by lia
    rcases this with rfl | rfl | rfl | rfl <;> decide
  have lq : ∀ s ∈ lines0, ∃ q, q < 4 ∧ s = [q] := fun s hs => by
    simp only [lines0, List.mem_cons, List.not_mem_nil, or_false] at hs
    rcases hs with rfl | rfl | rfl | rfl
    · exact ⟨0, by decide, rfl⟩
    · exact ⟨1, by decide, rfl⟩
    · exact ⟨2, by decide, rfl⟩
    · exact ⟨3, by decide, rfl⟩
  constructor
  · rintro ⟨s, ⟨u, hu, h2, s0, h0, rfl⟩, hl⟩
    obtain ⟨q, hq, rfl⟩ := lq s0 h0
    have h4 := (sub_four (fold_subB u _ (vq q hq).1)).mp hl
    refine ⟨u.reverse, by rw [List.length_reverse]; exact hu, fun n hn => h2 n (List.mem_reverse.mp hn), q, hq, fun p hp => ?_⟩
    exact List.mem_singleton.mp ((bwd_mem hw u [q] p (vq q hq).1).mp (h4 p hp)).2
  · rintro ⟨u, hu, h2, q, hq, h⟩
    refine ⟨_, ⟨u.reverse, by rw [List.length_reverse]; exact hu, fun n hn => h2 n (List.mem_reverse.mp hn), [q], (vq q hq).2, rfl⟩, (sub_four (fold_subB _ _ (vq q hq).1)).mpr fun p hp => ?_⟩
    rw [bwd_mem hw _ _ _ (vq q hq).1, List.reverse_reverse]
    exact ⟨hp, List.mem_singleton.mpr (h p hp)⟩
noncomputable def Mg (w : Nat → Nat → Nat) (p q : Nat) : Prop := ∃ u : List Nat, (∀ n ∈ u, n < 2) ∧ runW w u p = runW w u q
theorem pairs_mem {p q : Nat} : (p, q) ∈ pairs6 ↔ p < q ∧ q < 4 := by
  constructor
  · intro h
    have : pairs6.all (fun x => decide (x.1 < x.2 ∧ x.2 < 4)) = true := by decide
    simpa using List.all_eq_true.mp this _ h
  · rintro ⟨h1, h2⟩
    have : (List.range 4).all (fun q => (List.range q).all fun p => decide ((p, q) ∈ pairs6)) = true := by decide
    exact of_decide_eq_true (List.all_eq_true.mp (List.all_eq_true.mp this q (List.mem_range.mpr h2)) p (List.mem_range.mpr h1))
noncomputable abbrev mS (w : Nat → Nat → Nat) := meetS (w 0) (w 1)
noncomputable def mP (w : Nat → Nat → Nat) (met : List (Nat × Nat)) (q : Nat × Nat) : Bool := !([w 0, w 1].filter (meetB met q)).isEmpty
theorem mP_iff {met : List (Nat × Nat)} {q : Nat × Nat} : mP w met q = true ↔ ∃ n, n < 2 ∧ (w n q.1 = w n q.2 ∨ (w n q.1, w n q.2) ∈ met ∨ (w n q.2, w n q.1) ∈ met) := by
  have hb : ∀ f : Nat → Nat, meetB met q f = true ↔ (f q.1 = f q.2 ∨ (f q.1, f q.2) ∈ met ∨ (f q.2, f q.1) ∈ met) := fun f => by
    unfold meetB; simp
  have : mP w met q = true ↔ (meetB met q (w 0) = true ∨ meetB met q (w 1) = true) := by
    unfold mP
    cases h0 : meetB met q (w 0) <;> cases h1 : meetB met q (w 1) <;> simp [List.filter_cons, h0, h1]
  rw [this, hb, hb]
  constructor
  · rintro (h | h)
    · exact ⟨0, by decide, h⟩
    · exact ⟨1, by decide, h⟩
  · rintro ⟨n, hn, h⟩
    have : n = 0 ∨ n = 1 := by lia
    rcases this with rfl | rfl
    · exact .inl h
    · exact .inr h
theorem mS_mem {met : List (Nat × Nat)} {q : Nat × Nat} : q ∈ mS w met ↔ q ∈ pairs6 ∧ mP w met q = true := by
  show q ∈ pairs6.filter (mP w met) ↔ _
  exact List.mem_filter
noncomputable def Mj (w : Nat → Nat → Nat) : Nat → List (Nat × Nat)
  | 0 => []
  | j + 1 => mS w (Mj w j)
theorem meetN_eq : ∀ (n j : Nat), meetN (w 0) (w 1) n (Mj w j) = Mj w (j + n)
  | 0, j => rfl
  | n + 1, j => by
    show meetN (w 0) (w 1) n (Mj w (j + 1)) = _
    rw [meetN_eq n (j + 1)]
    congr 1; lia
theorem Mj_sound (hw : ∀ n p, w n p < 4) : ∀ (j : Nat) (q : Nat × Nat), q ∈ Mj w j → Mg w q.1 q.2
  | 0, q, h => by cases h
  | j + 1, q, h => by
    obtain ⟨n, hn, h⟩ := mP_iff.mp (mS_mem.mp h).2
    have key : ∀ u : List Nat, (∀ m ∈ u, m < 2) → ∀ m ∈ n :: u, m < 2 := fun u hu m hm => (List.mem_cons.mp hm).elim (fun e => e ▸ hn) (hu m)
    rcases h with h | h | h
    · exact ⟨[n], key [] (fun m hm => by cases hm), h⟩
    · obtain ⟨u, hu, e⟩ := Mj_sound hw j _ h
      exact ⟨n :: u, key u hu, e⟩
    · obtain ⟨u, hu, e⟩ := Mj_sound hw j _ h
      exact ⟨n :: u, key u hu, e.symm⟩
theorem Mj_complete (hw : ∀ n p, w n p < 4) : ∀ (u : List Nat) (p q : Nat), (∀ n ∈ u, n < 2) → (p, q) ∈ pairs6 → runW w u p = runW w u q → (p, q) ∈ Mj w u.length
  | [], p, q, _, h, e => by
    have := pairs_mem.mp h
    have : p = q := e
    lia
  | n :: u, p, q, hu, h, e => by
    have hn := hu n (List.mem_cons_self ..)
    have hu' : ∀ m ∈ u, m < 2 := fun m hm => hu m (List.mem_cons_of_mem _ hm)
    have e' : runW w u (w n p) = runW w u (w n q) := e
    refine mS_mem.mpr ⟨h, mP_iff.mpr ⟨n, hn, ?_⟩⟩
    rcases Nat.lt_trichotomy (w n p) (w n q) with hlt | heq | hgt
    · exact .inr (.inl (Mj_complete hw u _ _ hu' (pairs_mem.mpr ⟨hlt, hw n q⟩) e'))
    · exact .inl heq
    · exact .inr (.inr (Mj_complete hw u _ _ hu' (pairs_mem.mpr ⟨hgt, hw n p⟩) e'.symm))
theorem filter_sub {α : Type} {f g : α → Bool} (h : ∀ a, f a = true → g a = true) : ∀ l : List α, (l.filter f).Sublist (l.filter g)
  | [] => List.Sublist.slnil
  | a :: l => by
    rw [List.filter_cons, List.filter_cons]
    cases hf : f a with
    | true => rw [h a hf]; exact (filter_sub h l).cons_cons a
    | false =>
      cases hg : g a
      · exact filter_sub h l
      · exact (filter_sub h l).cons a
theorem mS_mono {m m' : List (Nat × Nat)} (h : ∀ x ∈ m, x ∈ m') : (mS w m).Sublist (mS w m') := by
  show (pairs6.filter (mP w m)).Sublist (pairs6.filter (mP w m'))
  refine filter_sub (fun q hq => ?_) pairs6
  obtain ⟨n, hn, hh⟩ := mP_iff.mp hq
  exact mP_iff.mpr ⟨n, hn, hh.imp id (Or.imp (h _) (h _))⟩
theorem Mj_mono : ∀ j : Nat, (Mj w j).Sublist (Mj w (j + 1))
  | 0 => List.nil_sublist _
  | j + 1 => mS_mono fun x hx => (Mj_mono j).subset hx
theorem Mj_grow : ∀ j : Nat, j ≤ (Mj w j).length ∨ Mj w (j + 1) = Mj w j
  | 0 => .inl (Nat.zero_le _)
  | j + 1 => by
    rcases Mj_grow j with h | h
    · by_cases e : Mj w (j + 1) = Mj w j
      · refine .inr ?_
        show mS w (Mj w (j + 1)) = mS w (Mj w j)
        rw [e]
      · refine .inl ?_
        have hs := Mj_mono (w := w) j
        have hle := hs.length_le
        have : (Mj w j).length ≠ (Mj w (j + 1)).length := fun hl => e (hs.eq_of_length hl).symm
        lia
    · refine .inr ?_
      show mS w (Mj w (j + 1)) = mS w (Mj w j)
      rw [h]
theorem Mj_const {j : Nat} (h : Mj w (j + 1) = Mj w j) : ∀ i : Nat, Mj w (j + i) = Mj w j
  | 0 => rfl
  | i + 1 => by
    show mS w (Mj w (j + i)) = _
    rw [Mj_const h i]; exact h
theorem Mj_le (j : Nat) : (Mj w j).length ≤ 6 := by
  cases j with
  | zero => exact Nat.zero_le _
  | succ j => exact (List.length_filter_le (mP w (Mj w j)) pairs6)
theorem Mj_up {j i : Nat} : ∀ x ∈ Mj w j, x ∈ Mj w (j + i) := by
  induction i with
  | zero => exact fun x h => h
  | succ i ih => exact fun x h => (Mj_mono (j + i)).subset (ih x h)
theorem meet_iff (hw : ∀ n p, w n p < 4) : (Mj w 6).length = 6 ↔ ∃ k, Sync w k := by
  constructor
  · intro h
    have hall : ∀ x ∈ pairs6, x ∈ Mj w 6 := by
      have e : (pairs6.filter (mP w (Mj w 5))).length = pairs6.length := h
      have := (List.filter_sublist (p := mP w (Mj w 5)) (l := pairs6)).eq_of_length e
      intro x hx
      show x ∈ pairs6.filter (mP w (Mj w 5))
      rw [this]; exact hx
    have mg : ∀ p q, p < 4 → q < 4 → Mg w p q := fun p q hp hq => by
      rcases Nat.lt_trichotomy p q with hlt | rfl | hgt
      · exact Mj_sound hw 6 _ (hall _ (pairs_mem.mpr ⟨hlt, hq⟩))
      · exact ⟨[], (fun n hn => by cases hn), rfl⟩
      · obtain ⟨u, hu, e⟩ := Mj_sound hw 6 _ (hall _ (pairs_mem.mpr ⟨hgt, hp⟩))
        exact ⟨u, hu, e.symm⟩
    have all : ∀ xs : List Nat, (∀ x ∈ xs, x < 4) → ∃ u : List Nat, (∀ n ∈ u, n < 2) ∧ ∃ q, q < 4 ∧ ∀ x ∈ xs, runW w u x = q := by
      intro xs
      induction xs with
      | nil => intro _; exact ⟨[], (fun n hn => by cases hn), 0, by decide, fun x hx => by cases hx⟩
      | cons x xs ih =>
        intro h4
        obtain ⟨u, hu, q, hq, e⟩ := ih fun y hy => h4 y (List.mem_cons_of_mem _ hy)
        obtain ⟨v, hv, e2⟩ := mg (runW w u x) q (runW_lt hw u (h4 x (List.mem_cons_self ..))) hq
        refine ⟨u ++ v, fun n hn => (List.mem_append.mp hn).elim (hu n) (hv n), runW w v q, runW_lt hw v hq, fun y hy => ?_⟩
        rw [runW_app]
        rcases List.mem_cons.mp hy with rfl | hy
        · exact e2
        · rw [e y hy]
    obtain ⟨u, hu, q, hq, e⟩ := all (List.range 4) fun x hx => List.mem_range.mp hx
    exact ⟨u.length, u, rfl, hu, q, hq, fun p hp => e p (List.mem_range.mpr hp)⟩
  · rintro ⟨k, u, hu, h2, q, hq, h⟩
    rcases Mj_grow (w := w) 6 with h6 | h6
    · have := Mj_le (w := w) 6; lia
    · have hc : ∀ x ∈ pairs6, x ∈ Mj w 6 := fun x hx => by
        have hx' := pairs_mem.mp (show (x.1, x.2) ∈ pairs6 from hx)
        have := Mj_complete hw u x.1 x.2 h2 hx (by rw [h x.1 (by lia), h x.2 hx'.2])
        have := Mj_up (i := 6) _ this
        rw [show u.length + 6 = 6 + u.length by lia, Mj_const h6] at this
        exact this
      have h1 := sub_len pairs6 (Mj w 6) (by decide) hc
      have := Mj_le (w := w) 6
      have : pairs6.length = 6 := rfl
      lia
theorem pure3 (hw : ∀ n p, w n p < 4) : ∃ r, bfs (fwd w) 1 NN [[0,1,2,3]] [[0,1,2,3]] 0 = some r ∧ bfs (bwd w) 4 NN lines0 lines0 0 = some r ∧ r.isSome = ((meetN (w 0) (w 1) 6 []).length == 6) := by
  have vl : ∀ s ∈ lines0, s ∈ subs4 := by decide
  obtain ⟨r, h1⟩ := bfs_ends (st := fwd w) (size := 1) (V := fun s => s ∈ subs4) (fun n s _ _ => fwd_sub hw) few4 NN 0 [[0,1,2,3]] [[0,1,2,3]] (by decide) (by decide) (by decide) (by decide)
  obtain ⟨r', h2⟩ := bfs_ends (st := bwd w) (size := 4) (V := fun s => s ∈ subs4) (fun n s _ hs => bwd_sub hs) few4 NN 0 lines0 lines0 vl (by decide) vl (by decide)
  have s1 := bfs_sol NN 0 _ _ r BI.init h1
  have s2 := bfs_sol NN 0 _ _ r' BI.init h2
  have e : r = r' := sol_eq (fun k => (gdF hw k).trans (gdB hw k).symm) r r' s1 s2
  subst e
  refine ⟨r, h1, h2, ?_⟩
  have hm : meetN (w 0) (w 1) 6 [] = Mj w 6 := meetN_eq 6 0
  rw [hm, Bool.eq_iff_iff, sol_some r s1, beq_iff_eq, meet_iff hw]
  exact ⟨fun ⟨k, h⟩ => ⟨k, (gdF hw k).mp h⟩, fun ⟨k, h⟩ => ⟨k, (gdF hw k).mpr h⟩⟩
theorem pure_all (k a b : Nat) (c2 c3 c4 : Int) : ∃ V V', Pure (dtx k a b c2 c3 c4) V V' := by
  have hw : ∀ n p, wx c2 c3 n p < 4 := fun n p => mod_lt (by decide)
  refine ⟨fun s => s ∈ subs4, fun s => s ∈ subs4, ?_⟩
  exact ⟨pure1 _ hw _, fun q hq => pure2 hw _ rfl q hq, pure3 hw, fun s hs => (subs_ok hs).2, fun s hs => (subs_ok hs).2, fun n s _ _ => fwd_sub hw, fun n s _ hs => bwd_sub hs, few4, few4, by decide, by decide⟩
theorem plain03 (l : List Int) (hl : l.length ≤ 63) : runF phi5 NN lawT [.list (l.map .int)] = some (.bool true) :=
  head_run l hl fun k a b c2 c3 c4 _ => pure_all k a b c2 c3 c4
end Mine
theorem PySem.Challenge.cw_wb0058_03_holds : PySem.Challenge.rw_wb0058_03.Holds := by
  exact Mine.fin3 Mine.plain03
