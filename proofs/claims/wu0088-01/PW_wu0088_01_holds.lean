import PyProof.Rows.All
import Wide.All
import OpenK.AllK
import Wide.FinOn
import KE.BytesMake
import KE.KBytesWalk
import KE.KxBytes
import PyProof.EnumMake
import PyProof.EnumStmt
import PyProof.EnumFor
import PyProof.Rows.SumAny
import KE.KDictList
import KE.KEqSeq
import PyProof.Rows.AttrNodeAny
import KE.KLam
import Lean
import PySem.Challenge.RW_wu0088_01
set_option Elab.async false
set_option linter.unusedVariables false
set_option linter.unusedSectionVars false
section
namespace Mine
theorem cps {G : Prop} (h : ∀ P : Prop, (G → P) → P) : G := h G id
inductive X1 {A : Type} (P : A → Prop) : Prop | mk (a : A) (h : P a)
inductive X2 {A B : Type} (P : A → B → Prop) : Prop | mk (a : A) (b : B) (h : P a b)
inductive X3 {A B C : Type} (P : A → B → C → Prop) : Prop | mk (a : A) (b : B) (c : C) (h : P a b c)
inductive X4 {A B C D : Type} (P : A → B → C → D → Prop) : Prop | mk (a : A) (b : B) (c : C) (d : D) (h : P a b c d)
inductive X5 {A B C D E : Type} (P : A → B → C → D → E → Prop) : Prop | mk (a : A) (b : B) (c : C) (d : D) (e : E) (h : P a b c d e)
inductive V3 (A B C : Prop) : Prop | mk (a : A) (b : B) (c : C)
inductive V4 (A B C D : Prop) : Prop | mk (a : A) (b : B) (c : C) (d : D)
inductive V5 (A B C D E : Prop) : Prop | mk (a : A) (b : B) (c : C) (d : D) (e : E)
inductive V6 (A B C D E F : Prop) : Prop | mk (a : A) (b : B) (c : C) (d : D) (e : E) (f : F)
inductive V7 (A B C D E F G : Prop) : Prop | mk (a : A) (b : B) (c : C) (d : D) (e : E) (f : F) (g : G)
inductive V8 (A B C D E F G H : Prop) : Prop | mk (a : A) (b : B) (c : C) (d : D) (e : E) (f : F) (g : G) (h : H)
end Mine
end
section
open PySem PySem.W PySem.Calls PyProof.Rows
set_option Elab.async false
set_option linter.unusedVariables false
namespace Mine

/-- a decoder that may hold a bytearray -/
def isDec : Code → Bool
  | .builtin id _ => Builtin.Bytes.decodersThatHold.contains id
  | _ => false

/-- no decoder stands on the stack -/
structure Calm (Γ : Ctx) : Prop where
  top : isDec Γ.code = false
  low : ∀ x ∈ Γ.below, isDec x.1 = false

/-- as wpAny, but for calm stacks alone -/
def wpR {α : Type} (M : Model) (A : Around) (t : Sem α) (Q : α → Shared → Prop) (E : Value → Shared → Prop) (s : Shared) : Prop :=
  ∀ Γ p, Γ.In A → Calm Γ → Sem.wp M Γ t (fun a _ s' => Q a s') (fun e _ s' => E e s') p s

abbrev theCaller : Ctx := ⟨.builtin "claim.caller" {}, none, none, [], none⟩
theorem caller_calm : Calm theCaller := ⟨by decide +kernel, fun x hx => by cases hx⟩

abbrev WalkR (q : Program) (loose : List Str) (XP : (Str → Option Value) → Heap → Prop) (YP : World → Heap → Prop) (r : RowW) (d : DefRec) (kwd : List (Str × Expr)) : Prop :=
  ∀ (w : World) (s₀ s₁ : Shared) (mg mb : Str → Option Value), Ground q loose r.records XP w s₀ mg mb s₁.heap → YP w s₁.heap →
    ∀ (a : Addr) (o : Obj) (pm cd doc dV kV : Value), s₁.heap.get? a = some o →
    o.data = .func { docDef d.name d.params d.body d.scope pm cd doc with defaults := dV, kwdefaults := kV } → s₁.heap.CodeRec cd d.name → Dflts mg s₁.heap d.params kwd dV kV → mg d.name = some (.ref a) → s₁.gens = #[] →
    ∀ (args : List WData) (vals : List Value) (as : List Addr), r.claim.pre args = true → WData.layableAll args = true → ReadsAllW r.records (classAt s₀.heap) s₁.heap vals args as → WellAll w.params s₁.heap vals args → (∀ a ∈ as, (a == sysModules) = false) →
      wpR (model r.prog w) callerA (PySem.call (.ref a) vals) (fun v s' => GoodWG r.claim (classAt s₀.heap) (ExcName.means s₀.heap) args s₁ (.ok (.ret v)) s')
        (fun e s' => GoodWG r.claim (classAt s₀.heap) (ExcName.means s₀.heap) args s₁ (.error e) s') s₁

/-- the head, for a walk over calm stacks alone -/
theorem PySem.W.holds_open {r : OpenRow} {q : Program} {loose : List Str} {Xt : Shared → Bool} {XP : (Str → Option Value) → Heap → Prop} {α : Type} {Yf : Shared → α} {Ya : World → α} {YP : World → Heap → Prop} {d : DefRec} {kwd : List (Str × Expr)} {N : Nat}
    (left : LeftO r.prog q loose Xt Yf Ya N) (hY : ∀ w s, Yf s = Ya w → YP w s.heap) (hYk : ∀ w h h', YP w h → (∀ b o, h.get? b = some o → h'.get? b = some o) → YP w h')
    (hX : ∀ s, Xt s = true → XP (s.heap.nsMap mainGlobals) s.heap) (hXk : ∀ mg h h', XP mg h → (∀ b o, h.get? b = some o → h'.get? b = some o) → XP mg h')
    (hdef : defOf q r.name = some (d, kwd)) (hp : r.prog.theDef r.name = some (d.params, d.body, d.scope)) (hk : kwWritten? d.params.kwonlyargs d.params.kw_defaults = some kwd) (hRf : ∀ s, Xt s = true → RecFacts r.records s.heap) (hwr : (!r.writes || r.records.isEmpty) = true)
    (k1 : r.wellSaid = true) (ok : (chainsOk q && opensWell r.prog && (frees r.toRowW && r.within.isEmpty)) = true) (hb : r.prog.bare) (hw : r.toRowW.promised)
    (call : WalkR q loose XP YP r.toRowW d kwd) : r.Holds := by
  simp only [Bool.and_eq_true] at ok
  obtain ⟨⟨hch, hop⟩, hfr, hwi⟩ := ok
  have hnw : r.within = [] := List.isEmpty_iff.mp hwi
  obtain ⟨hsame, hu, ha, hap, hmk⟩ := frees_parts (r := r.toRowW) (by simp [hfr])
  have hid := ident_freeW hu ha hap
  have hbeh := fun w => left.behind (XP := fun mg h => XP mg h ∧ RecFacts r.records h) (fun s hs => ⟨hX s hs, hRf s hs⟩) hch w
  refine ⟨k1, hw, ⟨⟨hb, hop, ?_⟩, hw.witness, fun w => ⟨(hbeh w).1, fun s' hs' => ?_⟩⟩⟩
  · show r.makers.map _ = []; rw [hmk]; rfl
  refine cps fun P9 k9 => ?_
  obtain ⟨s₀, hf, hg0, s, hT, hz, hgens, hg, G, y⟩ := (hbeh w).2 s' hs'
  refine k9 ?_
  have RF := G.X.2
  have G0 : Ground q loose [] XP w s (s.heap.nsMap mainGlobals) (s.heap.nsMap builtinsNs) s.heap := { G with X := G.X.1 }
  have hgens : s.gens = #[] := Array.eq_empty_of_size_eq_zero (beq_iff_eq.mp hgens)
  refine ⟨s₀, hf, hg0, s, hT, fun n hn => ?_, RF.1, RF.2.1, ?_⟩
  · obtain rfl : n = r.name := by split at hn <;> simp_all
    exact pinned_of_view hg G0 hdef hp hk
  intro args hpre hlay ord hord
  refine cps fun P9 k9 => ?_
  have G1 := RF.ground G0
  obtain ⟨⟨vs, s₁⟩, hlaid⟩ := Option.isSome_iff_exists.mp (layAllW_isSome (P := w.params) (ord := ord) G1.has args r.args s (pre_splitW hpre).1)
  have keeps := layAllW_keeps _ _ _ hlaid
  have rest := layAllW_rest _ _ _ hlaid
  obtain ⟨as, hrd, hin, hold⟩ := reads_layAllW hord _ _ _ hlaid hlay s₁.heap (fun _ _ e => e)
  have L : Laid r.records w s s₁ args vs as := ⟨⟨ord, hord, hlaid⟩, hrd, hin, hold, keeps, rest.1.trans hgens, rest.2.2.1⟩
  have G2 := G1.keeps hXk keeps
  obtain ⟨a, o, pm, cd, doc, dV, kV, h1, h2, h3, h4, h5⟩ := G2.fn hdef
  have walk := call w s s₁ _ _ G2 (hYk _ _ _ (hY w s y) keeps) a o pm cd doc dV kV h2 h3 h4 h5 (defOf_name hdef ▸ h1) L.gens args vs as hpre hlay L.reads L.well (L.low G1.low)
  let R : Result → Shared → Prop := fun x s' => r.claim.Ends s args vs s₁ x s' ∧ s'.os = s.os ∧ (r.writes = true → namesKept r.prog r.keeps s.heap s'.heap ∧ ∀ x ∈ r.records, ∀ a, classAt s.heap x.1 = some a → recordClass s'.heap a x.1 (x.2.map (·.1)) = true)
  have fine : ∀ x s', GoodWG r.claim (classAt s.heap) (ExcName.means s.heap) args s₁ x s' → R x s' ∧ leftWithCleanup s'.gens = false := fun x s' g => by
    have z := g.laid (c := r.claim) hsame hnw hid L
    exact ⟨⟨z.1, z.2.1, fun q => ⟨namesKept_of hT hg r.keeps keeps g.2.1.old, noTable hwr q⟩⟩, leftWithCleanup_false_of_bare z.2.2⟩
  have body : Sem.wp (model r.prog w) theCaller (callStub r.name vs).cur (Sem.finPost (model r.prog w) theCaller fun x s' => R x s' ∧ leftWithCleanup s'.gens = false)
      (fun e _ s' => R (.error e) s' ∧ leftWithCleanup s'.gens = false) default s₁ := by
    show Sem.wp _ _ (nsGet mainNs r.name >>= _) _ _ _ _
    rw [Sem.wp_bind']
    refine Sem.wp_mono _ _ _ (fun v p' s' e => ?_) (fun _ _ _ e => e.elim) _ _ (wpAny_nsGet (Q := fun v s' => v = some (.ref a) ∧ s' = s₁) (E := fun _ _ => False) G2.T.g (by exact ⟨h1, rfl⟩) theCaller default caller_in)
    obtain ⟨rfl, rfl⟩ := e
    show Sem.wp _ _ (PySem.call (.ref a) vs >>= _) _ _ _ _
    rw [Sem.wp_bind']
    exact Sem.wp_mono _ _ _ (fun v p' s' g => fine _ _ g) (fun e p' s' g => fine _ _ g) _ _ (walk theCaller p' caller_in caller_calm)
  obtain ⟨k, x, s₂, s₃, hsched, hrun, hfo, hR⟩ := wp_halts_full (M := model r.prog w) (R := R) (Shared.asleep_of_life rest.2.2.2 hz) body
  obtain ⟨eh, _, _, eo, _⟩ := Shared.forget_eq hfo
  obtain ⟨hE, hos, hkp⟩ := hR
  have hE := hE.congr eh
  rw [← eo] at hos
  rw [← eh] at hkp
  have hlife : s₃.heap.life = s.heap.life := (runN_life _ _ _ hrun).trans rest.2.2.2
  refine k9 ?_
  refine ⟨vs, s₁, hlaid, k, _, s₃, hsched, ?_, (fun _ i x hx => by rw [hgens] at hx; simp at hx), hkp, by rw [hlife], Shared.rest_eq hos⟩
  rcases hE with ⟨v, rfl, d1, d2, d3, d4, d5⟩ | ⟨e, ob, cls, rfl, d1, d2, d3, d4, d5⟩
  · exact .inl ⟨v, rfl, d1, d2, d3, fun b o y _ => d4 b o y, d5⟩
  · exact .inr ⟨e, ob, cls, rfl, d1, d2, d3, d4, fun b o y _ => d5 b o y⟩
end Mine
end
section
open PySem PySem.W PyProof.Rows
set_option Elab.async false
set_option maxRecDepth 100000
set_option maxHeartbeats 8000000
namespace Mine
section
abbrev r9 : OpenRow := PySem.Challenge.rw_wu0088_01.row
abbrev q9 : Program := PySem.W.view PySem.Challenge.pw_wu0088_01 [0, 2, 3, 10, 12, 14, 15, 16, 17, 18, 19, 20, 21, 22]
abbrev loose9 : List Str := [Str.ofString "_SelectorContext", Str.ofString "insort_right", Str.ofString "bisect_right", Str.ofString "insort_left", Str.ofString "bisect_left", Str.ofString "Whitespace"]
theorem said9 : PySem.Challenge.rw_wu0088_01.wellSaid = true := (congrFun PySem.W.Fast.te9446332074065402090 _).trans (by kernel_rfl)
theorem law9 (h : r9.Holds) : PySem.Challenge.rw_wu0088_01.Holds := holds_law said9 fun _ => h
abbrev way9 (p q : Program) (loose : List Str) (Xt : Shared → Bool) {α : Type} (Yf : Shared → α) (Ya : World → α) (N : Nat) (g0 : Bool) (row : String) (b : Bool) (w : World) : Prop :=
  (fencedOpening treeTable p w N).bind (fun s₀ => (topFrom treeTable p (w.withFollow row b) N s₀).map (fun s => (openSeen q loose (importedModules p.main.body) Xt g0 s, Yf s))) =
      some (openGood q loose, Ya (w.withFollow row b))
theorem split9 {p q : Program} {loose : List Str} {Xt : Shared → Bool} {α : Type} {Yf : Shared → α} {Ya : World → α} {N : Nat} {g0 : Bool} (row : String)
    (hf : ∀ w, way9 p q loose Xt Yf Ya N g0 row false w) (ht : ∀ w, way9 p q loose Xt Yf Ya N g0 row true w) : LeftO p q loose Xt Yf Ya N g0 := LeftO.of_split row fun w => by
  obtain ⟨s₀, a, b⟩ := Option.bind_eq_some_iff.mp (hf w)
  obtain ⟨s₁, a', b'⟩ := Option.bind_eq_some_iff.mp (ht w)
  obtain rfl := Option.some.inj (a.symm.trans a')
  rw [a, Option.map_some, b, b']
theorem head9 (H : Hook) {d : DefRec} {kwd : List (Str × Expr)} (hdef : defOf q9 r9.name = some (d, kwd)) (hp : r9.prog.theDef r9.name = some (d.params, d.body, d.scope)) (hk : kwWritten? d.params.kwonlyargs d.params.kw_defaults = some kwd)
    (hl : LeftO r9.prog q9 loose9 (fun s => xlAt q9 [] s && recOk r9.toRowW.records s) H.obs H.val 2714) (hw : r9.toRowW.promised) (call : WalkR q9 loose9 (XL q9 []) H.says r9.toRowW d kwd) : r9.Holds :=
  Mine.PySem.W.holds_open hl H.of H.keeps (fun s e => xl_of s (Bool.and_eq_true_iff.mp e).1) XL.keeps hdef hp hk (fun s e => recFacts_of (Bool.and_eq_true_iff.mp e).2) (by kernel_rfl) (row_said said9) (by decide +kernel)
    ⟨rfl, rfl, rfl, rfl, rfl, by decide +kernel⟩ hw call
theorem catch9 (H : Hook) (hw : r9.toRowW.promised) (hc : H = H → r9.toRowW.promised → r9.Holds) : r9.Holds := hc rfl hw
local macro_rules | `(tactic| o_law) => `(tactic| refine law9 ?_)
local macro_rules | `(tactic| o_head $H) => `(tactic| refine catch9 $H ?hw ?hc)
open_top hd for PySem.Challenge.rw_wu0088_01
abbrev pick9 {H : Hook} (_ : (H = H → r9.toRowW.promised → r9.Holds) → PySem.Challenge.rw_wu0088_01.Holds) : Hook := H
noncomputable abbrev H9 : Hook := pick9 hd
abbrev op9 (b : Bool) (w : World) : Prop := way9 r9.prog q9 loose9 (fun s => xlAt q9 [] s && recOk r9.toRowW.records s) H9.obs H9.val 2714 true "special-get-raises" b w
theorem op9f (w : World) : op9 false w := by
  delta op9 way9 topFrom fencedOpening
  rw [PySem.W.Fast.te14082659384304107361, PySem.W.Fast.te10274390034422433532, PySem.W.Fast.te1435165496053646825, PySem.W.Fast.te14289696077712309145, PySem.W.Fast.te4187177175401517315, PySem.W.Fast.te14364793385576792824, PySem.W.Fast.te5923862056798008813]
  kernel_rfl
theorem op9t (w : World) : op9 true w := by
  delta op9 way9 topFrom fencedOpening
  rw [PySem.W.Fast.te14082659384304107361, PySem.W.Fast.te10274390034422433532, PySem.W.Fast.te1435165496053646825, PySem.W.Fast.te14289696077712309145, PySem.W.Fast.te4187177175401517315, PySem.W.Fast.te14364793385576792824, PySem.W.Fast.te5923862056798008813]
  kernel_rfl
theorem hd9 {d : DefRec} {kwd : List (Str × Expr)} (hdef : defOf q9 r9.name = some (d, kwd)) (hp : r9.prog.theDef r9.name = some (d.params, d.body, d.scope)) (hk : kwWritten? d.params.kwonlyargs d.params.kw_defaults = some kwd)
    (call : WalkR q9 loose9 (XL q9 []) H9.says r9.toRowW d kwd) : PySem.Challenge.rw_wu0088_01.Holds :=
  hd fun _ hw => head9 H9 hdef hp hk (split9 "special-get-raises" op9f op9t) hw call
end
end Mine
end
section
open PySem PySem.W PySem.Calls PyProof.Rows
set_option Elab.async false
set_option linter.unusedVariables false
namespace Mine

/-- the fixed world of the walk: the program, the world, the ghost heap, the os state -/
structure WC where
  prog : Program
  w : World
  G : Heap
  os : OsState

/-- an abstract object -/
inductive AO where
  | ex (o : Obj)
  | list (vs : List Value)
  | tup (vs : List Value)
  | ns (m : Str → Option Value)
  | cell (v : Option Value)
  | obj (c : Value) (d : Data)
  | ilist (vs : List Value)

def AO.Rel : AO → Obj → Prop
  | .ex o, x => x = o
  | .list vs, x => ∃ n, x = { cls := .type "list", data := .seq vs.toArray n }
  | .tup vs, x => ∃ n, x = { cls := .type "tuple", data := .seq vs.toArray n }
  | .ns m, x => ∃ es ep, x.data = .dict es ep ∧ StrKeys es ∧ ∀ name, nsFind es name = m name
  | .cell v, x => x.data = .cell v
  | .obj c d, x => x.cls = c ∧ x.data = d
  | .ilist vs, x => x.cls = .type "list" ∧ ∃ n, x.data = .seq vs.toArray n

def AO.At (h : Heap) (a : Addr) (x : AO) : Prop := ∃ o, h.get? a = some o ∧ x.Rel o

theorem AO.At.of_get {h h' : Heap} {a : Addr} {x : AO} (e : x.At h a) (k : ∀ o, h.get? a = some o → h'.get? a = some o) : x.At h' a :=
  let ⟨o, ho, r⟩ := e; ⟨o, k o ho, r⟩
theorem AO.At.some {h : Heap} {a : Addr} {x : AO} (e : x.At h a) : ∃ o, h.get? a = some o := let ⟨o, ho, _⟩ := e; ⟨o, ho⟩

theorem At.ex {h : Heap} {a : Addr} {o : Obj} (e : (AO.ex o).At h a) : h.get? a = some o := by
  obtain ⟨x, hx, rfl⟩ := e; exact hx
theorem At.ex_of {h : Heap} {a : Addr} {o : Obj} (e : h.get? a = some o) : (AO.ex o).At h a := ⟨o, e, rfl⟩
theorem At.list {h : Heap} {a : Addr} {vs : List Value} (e : (AO.list vs).At h a) : h.PlainList a vs.toArray := by
  obtain ⟨x, hx, n, rfl⟩ := e; exact ⟨n, hx⟩
theorem At.list_of {h : Heap} {a : Addr} {vs : List Value} (e : h.PlainList a vs.toArray) : (AO.list vs).At h a := by
  obtain ⟨n, hx⟩ := e; exact ⟨_, hx, n, rfl⟩
theorem At.isList {h : Heap} {a : Addr} {vs : List Value} (e : (AO.list vs).At h a) : h.IsList a vs.toArray := by
  obtain ⟨x, hx, n, rfl⟩ := e; exact ⟨_, hx, rfl, n, rfl⟩
theorem At.tup {h : Heap} {a : Addr} {vs : List Value} (e : (AO.tup vs).At h a) : h.IsTuple a vs.toArray := by
  obtain ⟨x, hx, n, rfl⟩ := e; exact ⟨_, hx, rfl, n, rfl⟩
theorem At.ns {h : Heap} {a : Addr} {m : Str → Option Value} (e : (AO.ns m).At h a) : h.Ns a m := by
  obtain ⟨x, hx, es, ep, r⟩ := e; exact ⟨x, es, ep, hx, r⟩
theorem At.ns_of {h : Heap} {a : Addr} {m : Str → Option Value} (e : h.Ns a m) : (AO.ns m).At h a := by
  obtain ⟨x, es, ep, hx, r⟩ := e; exact ⟨x, hx, es, ep, r⟩
theorem At.cell {h : Heap} {a : Addr} {v : Option Value} (e : (AO.cell v).At h a) : h.IsCell a v := by
  obtain ⟨x, hx, r⟩ := e; exact ⟨x, hx, r⟩
theorem At.cell_of {h : Heap} {a : Addr} {v : Option Value} (e : h.IsCell a v) : (AO.cell v).At h a := by
  obtain ⟨x, hx, r⟩ := e; exact ⟨x, hx, r⟩

theorem At.obj {h : Heap} {a : Addr} {c : Value} {d : Data} (e : (AO.obj c d).At h a) : ∃ o, h.get? a = some o ∧ o.cls = c ∧ o.data = d := e
theorem rel_ex {o : Obj} : (AO.ex o).Rel o := rfl
theorem rel_list {vs : List Value} {n : Nat} : (AO.list vs).Rel { cls := .type "list", data := .seq vs.toArray n } := ⟨n, rfl⟩
theorem rel_tup {vs : List Value} {n : Nat} : (AO.tup vs).Rel { cls := .type "tuple", data := .seq vs.toArray n } := ⟨n, rfl⟩

abbrev KH := Addr → Option AO
abbrev OL := List (Addr × AO)

structure Sat (C : WC) (K : KH) (O : OL) (s : Shared) : Prop where
  base : ∀ b o, C.G.get? b = some o → s.heap.get? b = some o
  kn : ∀ a x, K a = some x → x.At s.heap a
  own : ∀ p ∈ O, p.2.At s.heap p.1
  apart : ∀ p ∈ O, K p.1 = none ∧ C.G.get? p.1 = none
  nodup : (O.map (·.1)).Nodup
  gens : s.gens = #[]
  os : s.os = C.os

/-- how deep the frames may lie -/
structure AOk (n : Nat) (A : Around) : Prop where
  handled : A.handled = none
  depth : A.depth ≤ 302 + n
  units : A.units ≤ 10 + 20 * n
  guards : A.guards = some []

theorem AOk.in1 {n : Nat} {A : Around} (x : AOk n A) : AOk (n + 1) A.in1 := ⟨x.handled, by have := x.depth; show A.depth ≤ _; omega, by have := x.units; show A.units + 1 ≤ _; omega, x.guards⟩
theorem AOk.deeper {n : Nat} {A : Around} (x : AOk n A) (env : Env) : AOk (n + 1) (A.deeper env) :=
  ⟨x.handled, by have := x.depth; show A.depth + 1 ≤ _; omega, by have := x.units; show A.units + 3 ≤ _; omega, x.guards⟩
theorem AOk.room {n : Nat} {A : Around} (x : AOk n A) (h : n ≤ 400) : A.depth < recursionLimit := by
  have := x.depth; show A.depth < 1000; omega

/-- what lies at an address -/
def Has (C : WC) (K : KH) (O : OL) (a : Addr) (x : AO) : Prop := K a = some x ∨ (a, x) ∈ O ∨ ∃ o, C.G.get? a = some o ∧ x.Rel o

theorem Sat.has {C : WC} {K : KH} {O : OL} {s : Shared} (S : Sat C K O s) {a : Addr} {x : AO} (h : Has C K O a x) : x.At s.heap a := by
  rcases h with h | h | ⟨o, h, r⟩
  · exact S.kn _ _ h
  · exact S.own _ h
  · exact ⟨o, S.base _ _ h, r⟩

/-- one thing of the own list is changed -/
inductive Upd : OL → Addr → AO → AO → OL → Prop where
  | here {a x y O} : Upd ((a, x) :: O) a x y ((a, y) :: O)
  | there {p a x y O O'} : Upd O a x y O' → Upd (p :: O) a x y (p :: O')

theorem Upd.mem {O O' : OL} {a : Addr} {x y : AO} (u : Upd O a x y O') : (a, x) ∈ O := by
  induction u with
  | here => exact .head _
  | there _ ih => exact .tail _ ih
theorem Upd.keys {O O' : OL} {a : Addr} {x y : AO} (u : Upd O a x y O') : O'.map (·.1) = O.map (·.1) := by
  induction u with
  | here => rfl
  | there _ ih => simp only [List.map_cons, ih]
theorem Upd.mem' {O O' : OL} {a : Addr} {x y : AO} (u : Upd O a x y O') (nd : (O.map (·.1)).Nodup) : ∀ p ∈ O', p = (a, y) ∨ (p ∈ O ∧ p.1 ≠ a) := by
  induction u with
  | here =>
    intro p hp
    rcases List.mem_cons.mp hp with rfl | hp
    · exact .inl rfl
    · refine .inr ⟨.tail _ hp, fun e => ?_⟩
      simp only [List.map_cons, List.nodup_cons] at nd
      exact nd.1 (e ▸ List.mem_map_of_mem hp)
  | there u ih =>
    rename_i q _ _ _ _ _
    intro p hp
    simp only [List.map_cons, List.nodup_cons] at nd
    rcases List.mem_cons.mp hp with rfl | hp
    · refine .inr ⟨.head _, fun e => nd.1 ?_⟩
      rw [e]; exact List.mem_map_of_mem u.mem
    · rcases ih nd.2 p hp with h | h
      · exact .inl h
      · exact .inr ⟨.tail _ h.1, h.2⟩

theorem Sat.upd {C : WC} {K : KH} {O O' : OL} {s : Shared} (S : Sat C K O s) {a : Addr} {x y : AO} (u : Upd O a x y O') {h' : Heap}
    (hs : Heap.ExtBut a s.heap h') (hy : y.At h' a) {tk : Nat} {dr : Drawn} : Sat C K O' { s with heap := h', toks := tk, drawn := dr } where
  base := fun b o e => hs b o (fun q => by have := (S.apart _ u.mem).2; rw [← q, e] at this; cases this) (S.base b o e)
  kn := fun b z e => (S.kn b z e).of_get fun o ho => hs b o (fun q => by have := (S.apart _ u.mem).1; rw [← q, e] at this; cases this) ho
  own := fun p hp => by
    rcases u.mem' S.nodup p hp with rfl | ⟨h1, h2⟩
    · exact hy
    · exact (S.own p h1).of_get fun o ho => hs _ o h2 ho
  apart := fun p hp => by
    rcases u.mem' S.nodup p hp with rfl | ⟨h1, _⟩
    · exact S.apart (a, x) u.mem
    · exact S.apart p h1
  nodup := by rw [u.keys]; exact S.nodup
  gens := S.gens
  os := S.os

theorem Sat.fresh {C : WC} {K : KH} {O : OL} {s : Shared} (S : Sat C K O s) {a : Addr} (ha : s.heap.get? a = none) : K a = none ∧ C.G.get? a = none ∧ ∀ p ∈ O, p.1 ≠ a := by
  refine ⟨?_, ?_, fun p hp e => ?_⟩
  · cases q : K a with
    | none => rfl
    | some x => obtain ⟨o, ho⟩ := (S.kn a x q).some; rw [ha] at ho; cases ho
  · cases q : C.G.get? a with
    | none => rfl
    | some o => have := S.base a o q; rw [ha] at this; cases this
  · obtain ⟨o, ho⟩ := (S.own p hp).some; rw [e, ha] at ho; cases ho

/-- the heap has grown; a new thing lies there -/
theorem Sat.new {C : WC} {K : KH} {O : OL} {s : Shared} (S : Sat C K O s) {a : Addr} {x : AO} {h' : Heap} (ha : s.heap.get? a = none)
    (hk : ∀ b o, s.heap.get? b = some o → h'.get? b = some o) (hx : x.At h' a) {tk : Nat} {dr : Drawn} : Sat C K ((a, x) :: O) { s with heap := h', toks := tk, drawn := dr } where
  base := fun b o e => hk b o (S.base b o e)
  kn := fun b z e => (S.kn b z e).of_get fun o => hk b o
  own := fun p hp => by
    rcases List.mem_cons.mp hp with rfl | hp
    · exact hx
    · exact (S.own p hp).of_get fun o => hk _ o
  apart := fun p hp => by
    rcases List.mem_cons.mp hp with rfl | hp
    · exact ⟨(S.fresh ha).1, (S.fresh ha).2.1⟩
    · exact S.apart p hp
  nodup := by
    simp only [List.map_cons, List.nodup_cons]
    refine ⟨fun h => ?_, S.nodup⟩
    obtain ⟨p, hp, e⟩ := List.mem_map.mp h
    exact (S.fresh ha).2.2 p hp e
  gens := S.gens
  os := S.os

theorem size_none (h : Heap) : h.get? h.objs.size = none := by
  cases q : h.get? h.objs.size with
  | none => rfl
  | some o => exact absurd (Heap.lt_size q) (Nat.lt_irrefl _)

theorem Sat.push {C : WC} {K : KH} {O : OL} {s : Shared} (S : Sat C K O s) {o : Obj} {x : AO} (hf : o.isFreed = false) (hx : x.Rel o) {tk : Nat} {dr : Drawn} :
    Sat C K ((s.heap.objs.size, x) :: O) { s with heap := s.heap.push o, toks := tk, drawn := dr } :=
  S.new (size_none _) (fun b o' e => Heap.get?_push_of_some _ e) ⟨o, Heap.get?_push_size _ hf, hx⟩

theorem Sat.grow {C : WC} {K : KH} {O : OL} {s : Shared} (S : Sat C K O s) {h' : Heap}
    (hk : ∀ b o, s.heap.get? b = some o → h'.get? b = some o) {tk : Nat} {dr : Drawn} : Sat C K O { s with heap := h', toks := tk, drawn := dr } where
  base := fun b o e => hk b o (S.base b o e)
  kn := fun b z e => (S.kn b z e).of_get fun o => hk b o
  own := fun p hp => (S.own p hp).of_get fun o => hk _ o
  apart := S.apart
  nodup := S.nodup
  gens := S.gens
  os := S.os
theorem Sat.toks {C : WC} {K : KH} {O : OL} {s : Shared} (S : Sat C K O s) {tk : Nat} : Sat C K O { s with toks := tk } := S.grow fun _ _ e => e

theorem Sat.sub {C : WC} {K : KH} {O O' : OL} {s : Shared} (S : Sat C K O s) (h : O'.Sublist O) : Sat C K O' s where
  base := S.base
  kn := S.kn
  own := fun p hp => S.own p (h.subset hp)
  apart := fun p hp => S.apart p (h.subset hp)
  nodup := (h.map _).nodup S.nodup
  gens := S.gens
  os := S.os
theorem Sat.perm {C : WC} {K : KH} {O O' : OL} {s : Shared} (S : Sat C K O s) (h : O'.Perm O) : Sat C K O' s where
  base := S.base
  kn := S.kn
  own := fun p hp => S.own p (h.subset hp)
  apart := fun p hp => S.apart p (h.subset hp)
  nodup := (h.map _).nodup_iff.mpr S.nodup
  gens := S.gens
  os := S.os

def KLe (K K' : KH) : Prop := ∀ a x, K a = some x → K' a = some x
theorem KLe.refl (K : KH) : KLe K K := fun _ _ e => e
theorem KLe.trans {K₁ K₂ K₃ : KH} (x : KLe K₁ K₂) (y : KLe K₂ K₃) : KLe K₁ K₃ := fun a z e => y a z (x a z e)

/-- a thing is frozen -/
theorem Sat.freeze {C : WC} {K : KH} {O : OL} {a : Addr} {x : AO} {s : Shared} (S : Sat C K ((a, x) :: O) s) :
    ∃ K', KLe K K' ∧ K' a = some x ∧ Sat C K' O s := by
  have ha := S.apart _ (.head _)
  refine ⟨fun b => if b = a then some x else K b, fun b z e => ?_, if_pos rfl, ?_⟩
  · have : b ≠ a := by rintro rfl; rw [ha.1] at e; cases e
    exact (if_neg this).trans e
  · refine ⟨S.base, fun b z e => ?_, fun p hp => S.own p (.tail _ hp), fun p hp => ?_, ?_, S.gens, S.os⟩
    · by_cases q : b = a
      · have e' := (if_pos q).symm.trans e; cases e'; rw [q]; exact S.own _ (.head _)
      · exact S.kn b z ((if_neg q).symm.trans e)
    · have h1 := S.apart p (.tail _ hp)
      have nd := S.nodup
      simp only [List.map_cons, List.nodup_cons] at nd
      have : p.1 ≠ a := fun q => nd.1 (q ▸ List.mem_map_of_mem hp)
      exact ⟨(if_neg this).trans h1.1, h1.2⟩
    · have nd := S.nodup
      simp only [List.map_cons, List.nodup_cons] at nd
      exact nd.2

/-- the judgement: from every state that bears K and O the tree ends, raises nothing, and leaves K' and O' with Q -/
def W {α : Type} (C : WC) (n : Nat) (K : KH) (O : OL) (t : Sem α) (Q : α → KH → OL → Prop) : Prop :=
  ∀ A, AOk n A → ∀ s, Sat C K O s → wpAny (model C.prog C.w) A t (fun v s' => ∃ K' O', Sat C K' O' s' ∧ Q v K' O') (fun _ _ => False) s

def WCd (C : WC) (n : Nat) (K : KH) (O : OL) (c : Code) (R : Flow → KH → OL → Prop) : Prop :=
  ∀ A, AOk n A → ∀ s, Sat C K O s → codeAny (model C.prog C.w) A c (fun r s' => match r with | .ok f => ∃ K' O', Sat C K' O' s' ∧ R f K' O' | .error _ => False) s

section
variable {α β : Type} {C : WC} {n : Nat} {K : KH} {O : OL} {A : Around} {s : Shared}

theorem W.to {t : Sem α} {Q : α → KH → OL → Prop} (h : W C n K O t Q) (hA : AOk n A) (S : Sat C K O s) {Q' : α → Shared → Prop} {E : Value → Shared → Prop}
    (hQ : ∀ v s' K' O', Sat C K' O' s' → Q v K' O' → Q' v s') : wpAny (model C.prog C.w) A t Q' E s :=
  wpAny_mono (h A hA s S) (fun v s' ⟨K', O', S', q⟩ => hQ v s' K' O' S' q) (fun _ _ x => x.elim)

theorem W_mono {t : Sem α} {Q Q' : α → KH → OL → Prop} (h : W C n K O t Q) (hQ : ∀ v K' O', Q v K' O' → Q' v K' O') : W C n K O t Q' :=
  fun _ hA _ S => h.to hA S fun _ _ K' O' S' q => ⟨K', O', S', hQ _ _ _ q⟩

theorem W_pure {a : α} {Q : α → KH → OL → Prop} (h : Q a K O) : W C n K O (pure a) Q := fun _ _ _ S => wpAny_pure ⟨K, O, S, h⟩

theorem W_bind {m : Sem α} {f : α → Sem β} {Q : β → KH → OL → Prop} (h : W C n K O m fun a K O => W C n K O (f a) Q) : W C n K O (m >>= f) Q :=
  fun A hA _ S => wpAny_bind (h.to hA S fun _ s' _ _ S' q => q A hA s' S')

theorem W_sub {O' : OL} {t : Sem α} {Q : α → KH → OL → Prop} (hs : O'.Sublist O) (h : W C n K O' t Q) : W C n K O t Q := fun A hA s S => h A hA s (S.sub hs)
theorem W_perm {O' : OL} {t : Sem α} {Q : α → KH → OL → Prop} (hs : O'.Perm O) (h : W C n K O' t Q) : W C n K O t Q := fun A hA s S => h A hA s (S.perm hs)
theorem W_freeze {a : Addr} {x : AO} {t : Sem α} {Q : α → KH → OL → Prop} (h : ∀ K', KLe K K' → K' a = some x → W C n K' O t Q) : W C n K ((a, x) :: O) t Q :=
  fun A hA s S => let ⟨K', h1, h2, S'⟩ := S.freeze; h K' h1 h2 A hA s S'

theorem W_eq {t t' : Sem α} {Q : α → KH → OL → Prop} (e : t = t') (h : W C n K O t' Q) : W C n K O t Q := e ▸ h
theorem W_rule {tag : String} {Q : Unit → KH → OL → Prop} (h : Q () K O) : W C n K O (rule tag) Q := fun _ _ _ S => wpAny_rule ⟨K, O, S, h⟩
theorem W_standAt {pos : Pos} {Q : Unit → KH → OL → Prop} (h : Q () K O) : W C n K O (standAt pos) Q := fun _ _ _ S => wpAny_standAt ⟨K, O, S, h⟩
theorem W_point {Q : Unit → KH → OL → Prop} (h : Q () K O) : W C n K O point Q := fun _ _ _ S => wpAny_point ⟨K, O, S, h⟩
theorem W_holding {vs : List Value} {m : Sem α} {Q : α → KH → OL → Prop} (h : W C n K O m Q) : W C n K O (holding vs m) Q := fun A hA s S => wpAny_holding (h A hA s S)
theorem W_operate {vs : List Value} {m : Sem Value} {Q : Value → KH → OL → Prop} (h : W C n K O m Q) : W C n K O (operate vs m) Q := fun A hA s S Γ p hΓ => by
  rw [Sem.wp_operate]; exact h A hA s S Γ p hΓ
theorem W_mkInt {i : Int} {Q : Value → KH → OL → Prop} (h : ∀ t, Q (.int i t) K O) : W C n K O (mkInt i) Q := fun _ _ _ S => wpAny_mkInt ⟨K, O, S.toks, h _⟩
end
end Mine
end
section
open PySem PySem.W PySem.Calls PyProof.Rows
set_option Elab.async false
set_option linter.unusedVariables false
set_option linter.unusedSectionVars false
namespace Mine

def setm (m : Str → Option Value) (x : Str) (v : Value) : Str → Option Value := fun y => if y = x then some v else m y
theorem setm_eq {m : Str → Option Value} {x : Str} {v : Value} : setm m x v x = some v := if_pos rfl
theorem setm_ne {m : Str → Option Value} {x y : Str} {v : Value} (h : y ≠ x) : setm m x v y = m y := if_neg h
def nom : Str → Option Value := fun _ => none
def ofL : List (Str × Value) → Str → Option Value
  | [] => nom
  | (x, v) :: r => setm (ofL r) x v

/- what goes on behind a tree, named: so the terms stay small -/
section
variable {α β γ : Type} (C : WC) (n : Nat)
abbrev K0 (t : Sem β) (Q : β → KH → OL → Prop) (_ : α) (K : KH) (O : OL) : Prop := W C n K O t Q
abbrev K1 (f : α → Sem β) (Q : β → KH → OL → Prop) (a : α) (K : KH) (O : OL) : Prop := W C n K O (f a) Q
abbrev K2 (t : Sem β) (f : α → β → Sem γ) (Q : γ → KH → OL → Prop) (a : α) (K : KH) (O : OL) : Prop := W C n K O t (K1 C n (f a) Q)
abbrev NQ (Q : Flow → KH → OL → Prop) (_ : Unit) (K : KH) (O : OL) : Prop := Q .next K O
abbrev ConsQ (Q : List Value → KH → OL → Prop) (v : Value) (vs : List Value) (K : KH) (O : OL) : Prop := Q (v :: vs) K O
abbrev RetQ (Q : Flow → KH → OL → Prop) (v : Value) (K : KH) (O : OL) : Prop := Q (.ret v) K O
abbrev ListQ (Q : Value → KH → OL → Prop) (vs : List Value) (K : KH) (O : OL) : Prop := vs.length ≤ sizeLine ∧ ∀ a, Q (.ref a) K ((a, .list vs) :: O)
abbrev TupQ (Q : Value → KH → OL → Prop) (vs : List Value) (K : KH) (O : OL) : Prop := vs.length ≤ sizeLine ∧ ∀ a, Q (.ref a) K ((a, .tup vs) :: O)
abbrev ExprQ (Q : Flow → KH → OL → Prop) (v : Value) (K : KH) (O : OL) : Prop := (∀ a, v ≠ .ref a) ∧ Q .next K O
abbrev NextK (rest : List Stmt) (env : Env) (Q : Flow → KH → OL → Prop) (f : Flow) (K : KH) (O : OL) : Prop := match f with | .next => W C n K O (execs rest env) Q | f => Q f K O
abbrev IfK (body orelse : List Stmt) (env : Env) (Q : Flow → KH → OL → Prop) (b : Bool) (K : KH) (O : OL) : Prop := if b then W C n K O (execs body env) Q else W C n K O (execs orelse env) Q
abbrev AndK2 (e : Sem Value) (Q : Value → KH → OL → Prop) (v : Value) (c : Bool) (K : KH) (O : OL) : Prop := if c then W C n K O e Q else Q v K O
abbrev AndK (e : Sem Value) (Q : Value → KH → OL → Prop) (v : Value) (K : KH) (O : OL) : Prop := W C n K O (truthy v) (AndK2 C n e Q v)
abbrev SplK (rest : List (Bool × Sem Value)) (Q : List Value → KH → OL → Prop) (v : Value) (K : KH) (O : OL) : Prop := W C n K O (spliced rest) (ConsQ Q v)
abbrev SetK3 (Q : Flow → KH → OL → Prop) (v ov iv : Value) (K : KH) (O : OL) : Prop := W C n K O (setItem ov iv v) (NQ Q)
abbrev SetK2 (ti : Sem Value) (Q : Flow → KH → OL → Prop) (v ov : Value) (K : KH) (O : OL) : Prop := W C n K O ti (SetK3 C n Q v ov)
abbrev SetK (to ti : Sem Value) (Q : Flow → KH → OL → Prop) (v : Value) (K : KH) (O : OL) : Prop := W C n K O to (SetK2 C n ti Q v)
abbrev Aug5 (Q : Flow → KH → OL → Prop) (ov iv new : Value) (K : KH) (O : OL) : Prop := W C n K O (setItem ov iv new) (NQ Q)
abbrev Aug4 (op : Operator) (Q : Flow → KH → OL → Prop) (ov iv old v : Value) (K : KH) (O : OL) : Prop := W C n K O (inplaceOp op old v) (Aug5 C n Q ov iv)
abbrev Aug3 (op : Operator) (tv : Sem Value) (Q : Flow → KH → OL → Prop) (ov iv old : Value) (K : KH) (O : OL) : Prop := W C n K O tv (Aug4 C n op Q ov iv old)
abbrev Aug2 (op : Operator) (tv : Sem Value) (Q : Flow → KH → OL → Prop) (ov iv : Value) (K : KH) (O : OL) : Prop := W C n K O (getItem ov iv) (Aug3 C n op tv Q ov iv)
abbrev Aug1 (ti : Sem Value) (op : Operator) (tv : Sem Value) (Q : Flow → KH → OL → Prop) (ov : Value) (K : KH) (O : OL) : Prop := W C n K O ti (Aug2 C n op tv Q ov)
abbrev StoK (ts : List (Value → Sem Unit)) (Q : Flow → KH → OL → Prop) (v : Value) (K : KH) (O : OL) : Prop := W C n K O (assignAll v ts) (NQ Q)
abbrev ForK2 (target : Expr) (body : List Stmt) (env : Env) (Q : Flow → KH → OL → Prop) (it : Value) (K : KH) (O : OL) : Prop := WCd C n K O (.forLoop target it body [] env) Q
abbrev ForK (target : Expr) (body : List Stmt) (env : Env) (Q : Flow → KH → OL → Prop) (v : Value) (K : KH) (O : OL) : Prop := W C n K O (pyIter v) (ForK2 C n target body env Q)
abbrev CallK (pos : Pos) (args : List Expr) (keywords : List Keyword) (env : Env) (Q : Value → KH → OL → Prop) (f : Value) (K : KH) (O : OL) : Prop :=
  W C n K O (callWith pos f [] (backTo pos (starEach args env)) (backToKw pos (keywordEach keywords env))) Q
abbrev ArgK (pos : Pos) (rest : List Expr) (env : Env) (Q : List Value → KH → OL → Prop) (v : Value) (K : KH) (O : OL) : Prop := W C n K O (spliced (backTo pos (starEach rest env))) (ConsQ Q v)
abbrev CallVs (f : Value) (Q : Value → KH → OL → Prop) (vs : List Value) (K : KH) (O : OL) : Prop := W C n K O (call f vs []) Q
abbrev CallMs (f ov : Value) (Q : Value → KH → OL → Prop) (vs : List Value) (K : KH) (O : OL) : Prop := W C n K O (call f (ov :: vs) []) Q
end

section
variable {α β : Type} {C : WC} {n : Nat} {K : KH} {O O' : OL} {env : Env} {x : Str} {pos : Pos}

/- names -/
theorem W_loadLocal {m : Str → Option Value} {v : Value} {Q : Value → KH → OL → Prop} (hk : env.scope.kind = .function) (hl : env.kindOf x = some .local)
    (hh : Has C K O env.locals (.ns m)) (hv : m x = some v) (h : Q v K O) : W C n K O (loadName env x) Q :=
  fun A hA s S => wpAny_loadName_local hk hl (At.ns (S.has hh)) hv ⟨K, O, S, h⟩
theorem W_loadCell {c : Addr} {v : Value} {Q : Value → KH → OL → Prop} (hk : env.scope.kind = .function) (hl : env.kindOf x = some .cell)
    (hc : env.cells.lookup x = some c) (hh : Has C K O c (.cell (some v))) (h : Q v K O) : W C n K O (loadName env x) Q :=
  fun A hA s S => wpAny_loadName_cell hk hl hc (At.cell (S.has hh)) ⟨K, O, S, h⟩
theorem W_loadFree {c : Addr} {v : Value} {Q : Value → KH → OL → Prop} (hk : env.scope.kind = .function) (hl : env.kindOf x = some .free)
    (hc : env.cells.lookup x = some c) (hh : Has C K O c (.cell (some v))) (h : Q v K O) (hn : (x == ("__classdict__" : Str)) = false := by decide) : W C n K O (loadName env x) Q :=
  fun A hA s S => wpAny_loadName_free hk hl hc (At.cell (S.has hh)) ⟨K, O, S, h⟩ hn
theorem W_Name {Q : Value → KH → OL → Prop} (h : W C n K O (loadName env x) Q) (hd : (x == ("__debug__" : Str)) = false := by decide) : W C n K O (eval (.Name x pos) env) Q :=
  fun A hA s S => wpAny_Name (h A hA s S) hd
theorem W_local {m : Str → Option Value} {v : Value} {Q : Value → KH → OL → Prop} (hk : env.scope.kind = .function) (hl : env.kindOf x = some .local)
    (hh : Has C K O env.locals (.ns m)) (hv : m x = some v) (h : Q v K O) (hd : (x == ("__debug__" : Str)) = false := by decide) : W C n K O (eval (.Name x pos) env) Q :=
  W_Name (W_loadLocal hk hl hh hv h) hd
theorem W_cell {c : Addr} {v : Value} {Q : Value → KH → OL → Prop} (hk : env.scope.kind = .function) (hl : env.kindOf x = some .cell)
    (hc : env.cells.lookup x = some c) (hh : Has C K O c (.cell (some v))) (h : Q v K O) (hd : (x == ("__debug__" : Str)) = false := by decide) : W C n K O (eval (.Name x pos) env) Q :=
  W_Name (W_loadCell hk hl hc hh h) hd
theorem W_free {c : Addr} {v : Value} {Q : Value → KH → OL → Prop} (hk : env.scope.kind = .function) (hl : env.kindOf x = some .free)
    (hc : env.cells.lookup x = some c) (hh : Has C K O c (.cell (some v))) (h : Q v K O) (hn : (x == ("__classdict__" : Str)) = false := by decide) (hd : (x == ("__debug__" : Str)) = false := by decide) :
    W C n K O (eval (.Name x pos) env) Q := W_Name (W_loadFree hk hl hc hh h hn) hd
theorem W_global {mg : Str → Option Value} {v : Value} {Q : Value → KH → OL → Prop} (hk : env.scope.kind = .function) (hl : env.kindOf x = some .globalImplicit)
    (hg : C.G.Ns env.globals mg) (hv : mg x = some v) (h : Q v K O) (hd : (x == ("__debug__" : Str)) = false := by decide) : W C n K O (eval (.Name x pos) env) Q :=
  fun A hA s S => Calls.Name_function_global hk hl (Calls.loadGlobal_global (hg.keeps S.base) hv ⟨K, O, S, h⟩) hd
theorem W_builtin {mg mb : Str → Option Value} {v : Value} {Q : Value → KH → OL → Prop} (hk : env.scope.kind = .function) (hl : env.kindOf x = some .globalImplicit)
    (hg : C.G.Ns env.globals mg) (hn : mg x = none) (hb : C.G.Ns env.builtins mb) (hv : mb x = some v) (h : Q v K O) (hd : (x == ("__debug__" : Str)) = false := by decide) : W C n K O (eval (.Name x pos) env) Q :=
  fun A hA s S => Calls.Name_function_global hk hl (Calls.loadGlobal_builtin (hg.keeps S.base) hn (hb.keeps S.base) hv ⟨K, O, S, h⟩) hd

theorem W_storeLocal {m : Str → Option Value} {v : Value} {Q : Unit → KH → OL → Prop} (hk : env.scope.kind = .function) (hl : env.kindOf x = some .local)
    (u : Upd O env.locals (.ns m) (.ns (setm m x v)) O') (h : Q () K O') : W C n K O (storeName env x v) Q :=
  fun A hA s S => wpAny_storeName_local hl (At.ns (S.own _ u.mem)) (fun h' hn hs => ⟨K, O', S.upd u hs.extBut (At.ns_of hn), h⟩) (by rw [hk]; rfl)
theorem W_storeCell {c : Addr} {v₀ : Option Value} {v : Value} {Q : Unit → KH → OL → Prop} (hk : env.scope.kind = .function) (hl : env.kindOf x = some .cell)
    (hc : env.cells.lookup x = some c) (u : Upd O c (.cell v₀) (.cell (some v)) O') (h : Q () K O') : W C n K O (storeName env x v) Q :=
  fun A hA s S => wpAny_storeName_cell hk hl hc (At.cell (S.own _ u.mem)) fun h' hn hs => ⟨K, O', S.upd u hs.extBut (At.cell_of hn), h⟩
theorem W_bindName {v : Value} {Q : Unit → KH → OL → Prop} (h : W C n K O (storeName env x v) Q) : W C n K O (bindName env x v) Q :=
  fun A hA s S => wpAny_bindName (h A hA s S)
theorem W_assignName {v : Value} {Q : Unit → KH → OL → Prop} (h : W C n K O (storeName env x v) Q) : W C n K O (assign (.Name x pos) env v) Q :=
  W_eq (arm_assign_Name ..) (W_bind (W_standAt (W_bindName h)))

/- constants -/
theorem W_int {i : Int} {k : Nat} {Q : Value → KH → OL → Prop} (h : ∀ t, Q (.int i t) K O) : W C n K O (eval (.Constant (.int i) k pos) env) Q :=
  fun A hA s S => wpAny_Constant_int ⟨K, O, S.toks, h _⟩
theorem W_str {y : Str} {k : Nat} {Q : Value → KH → OL → Prop} (h : ∀ t, Q (.str y t) K O) : W C n K O (eval (.Constant (.str y) k pos) env) Q :=
  fun A hA s S => Calls.Constant_str ⟨K, O, S.toks, h _⟩
theorem W_boolC {b : Bool} {k : Nat} {Q : Value → KH → OL → Prop} (h : Q (.bool b) K O) : W C n K O (eval (.Constant (.bool b) k pos) env) Q :=
  fun A hA s S => Constant_bool ⟨K, O, S, h⟩
theorem W_none {k : Nat} {Q : Value → KH → OL → Prop} (h : Q .none K O) : W C n K O (eval (.Constant .none k pos) env) Q :=
  fun A hA s S => Constant_none ⟨K, O, S, h⟩

/- expressions -/
theorem W_BinOp {l r : Expr} {op : Operator} {Q : Value → KH → OL → Prop}
    (h : W C n K O (eval l env) (K2 C n (eval r env) (binaryOp op) Q)) : W C n K O (eval (.BinOp l op r pos) env) Q :=
  W_eq (arm_eval_BinOp ..) (W_bind (W_mono h fun a K O h => W_bind (W_holding (W_mono h fun b K O h => W_bind (W_standAt (W_operate h))))))
theorem W_UnaryOp {e : Expr} {op : UnaryOp} {Q : Value → KH → OL → Prop} (h : W C n K O (eval e env) (K1 C n (unaryOp op) Q)) :
    W C n K O (eval (.UnaryOp op e pos) env) Q :=
  W_eq (arm_eval_UnaryOp ..) (W_bind (W_mono h fun a K O h => W_bind (W_standAt (W_holding h))))
theorem W_Compare1 {l r : Expr} {op : CmpOp} {Q : Value → KH → OL → Prop}
    (h : W C n K O (eval l env) (K2 C n (eval r env) (compareOp op) Q))
    (hm : behindInMarks op r = false := by with_unfolding_all rfl) : W C n K O (eval (.Compare l [op] [r] pos) env) Q :=
  fun A hA s S => wpAny_Compare1 (h.to hA S fun _ s' _ _ S' q => q.to hA S' fun _ s' _ _ S' q => q A hA s' S') hm
theorem W_isTrueCmp {l r : Expr} {op : CmpOp} {wh : Sem Value} {Q : Bool → KH → OL → Prop}
    (h : W C n K O (eval l env) (K2 C n (eval r env) (compareOp op) (K1 C n truthy Q)))
    (hm : behindInMarks op r = false := by with_unfolding_all rfl) : W C n K O (isTrue (.Compare l [op] [r] pos) env wh) Q :=
  fun A hA s S => wpAny_isTrue_Compare1 (h.to hA S fun _ s' _ _ S' q => q.to hA S' fun _ s' _ _ S' q => q.to hA S' fun _ s' _ _ S' q => q A hA s' S') hm
theorem W_truthyB {b : Bool} {Q : Bool → KH → OL → Prop} (h : Q b K O) : W C n K O (truthy (.bool b)) Q := fun A hA s S => wpAny_truthy_bool ⟨K, O, S, h⟩
theorem W_isTrueOr {x : Expr} {rest : List Expr} {wh : Sem Value} {Q : Bool → KH → OL → Prop}
    (h : W C n K O (isTrue x env (eval x env)) fun c K O => if c then Q true K O else W C n K O (isTrue (.BoolOp .Or rest pos) env wh) Q) :
    W C n K O (isTrue (.BoolOp .Or (x :: rest) pos) env wh) Q :=
  fun A hA s S => isTrue_or (h.to hA S fun c s' K' O' S' q => by cases c with
    | true => exact ⟨K', O', S', q⟩
    | false => exact q A hA s' S')
theorem W_isTrueOrNil {wh : Sem Value} {Q : Bool → KH → OL → Prop} (h : Q false K O) : W C n K O (isTrue (.BoolOp .Or [] pos) env wh) Q :=
  fun A hA s S => isTrue_or_nil ⟨K, O, S, h⟩
theorem W_isTruePlain {e : Expr} {wh : Sem Value} {Q : Bool → KH → OL → Prop} (h : W C n K O wh (K1 C n truthy Q))
    (he : isTrue e env wh = (do let v ← wh; standAt e.pos; holding [v] (truthy v)) := by rfl) : W C n K O (isTrue e env wh) Q :=
  W_eq he (W_bind (W_mono h fun v K O h => W_bind (W_standAt (W_holding h))))
theorem W_And {x y : Expr} {rest : List Expr} {Q : Value → KH → OL → Prop}
    (h : W C n K O (eval x env) (AndK C n (eval (.BoolOp .And (y :: rest) pos) env) Q)) :
    W C n K O (eval (.BoolOp .And (x :: y :: rest) pos) env) Q :=
  fun A hA s S => BoolOp_and (h.to hA S fun v s' K' O' S' q => q.to hA S' fun c s' K' O' S' q => by cases c with
    | true => exact q A hA s' S'
    | false => exact ⟨K', O', S', q⟩)
theorem W_And1 {x : Expr} {Q : Value → KH → OL → Prop} (h : W C n K O (eval x env) Q) : W C n K O (eval (.BoolOp .And [x] pos) env) Q := h

theorem W_spliced_nil {Q : List Value → KH → OL → Prop} (h : Q [] K O) : W C n K O (spliced []) Q := W_pure h
theorem W_spliced_cons {t : Sem Value} {rest : List (Bool × Sem Value)} {Q : List Value → KH → OL → Prop}
    (h : W C n K O t (SplK C n rest Q)) : W C n K O (spliced ((false, t) :: rest)) Q :=
  fun A hA s S => Calls.spliced_cons (h.to hA S fun v s' _ _ S' q => q A hA s' S')
theorem W_List {elts : List Expr} {Q : Value → KH → OL → Prop}
    (h : W C n K O (spliced (backTo pos (starEach elts env))) (ListQ Q)) : W C n K O (eval (.List elts pos) env) Q :=
  fun A hA s S => wpAny_List (h.to hA S fun vs s' K' O' S' q => ⟨q.1, K', _, S'.push rfl (rel_list (n := 0)), q.2 _⟩)
theorem W_Tuple {elts : List Expr} {k : Nat} {Q : Value → KH → OL → Prop}
    (h : W C n K O (spliced (backTo pos (starEach elts env))) (TupQ Q)) : W C n K O (eval (.Tuple elts k pos) env) Q :=
  fun A hA s S => wpAny_Tuple (h.to hA S fun vs s' K' O' S' q => ⟨q.1, K', _, S'.push rfl (rel_tup (n := 0)), q.2 _⟩)

/-- the type of a value, as every state that bears K and O tells -/
def TyIs (C : WC) (K : KH) (O : OL) (v : Value) (T : String) : Prop := ∀ s, Sat C K O s → s.TypeIs v T

theorem W_letTemp {base : Expr} {o r : Value} {Q : Unit → KH → OL → Prop} (h : Q () K O) : W C n K O (letTemporaryGo base o r) Q :=
  fun A hA s S => wpAny_letTemporaryGo ⟨K, O, S, h⟩
theorem W_specialOf {v : Value} {T : String} {name : Str} {r : Option Value} {Q : Option Value → KH → OL → Prop} (hT : TyIs C K O v T)
    (h : typeLookup (.type T) name = pure r) (hQ : Q r K O) : W C n K O (specialOf v name) Q := fun A hA s S => wpAny_specialOf (hT s S) h ⟨K, O, S, hQ⟩

theorem W_getitemInPython {o : Value} {T id : String} {Q : Bool → KH → OL → Prop} (hT : TyIs C K O o T) (hl : typeLookup (.type T) "__getitem__" = pure (some (.builtin id)))
    (h : Q false K O) : W C n K O (getitemInPython o) Q := fun A hA s S => by
  rw [getitemInPython_of_ne (hT s S).not_modules]
  exact wpAny_bind (wpAny_specialOf (hT s S) hl (wpAny_pure ⟨K, O, S, h⟩))

inductive SubK (C : WC) (n : Nat) (Q : Value → KH → OL → Prop) (o i : Value) (K : KH) (O : OL) : Prop
  | mk (T id : String) (h1 : TyIs C K O o T) (h2 : typeLookup (.type T) "__getitem__" = pure (some (.builtin id))) (h3 : W C n K O (getItem o i) Q)
abbrev SubO (C : WC) (n : Nat) (t : Sem Value) (Q : Value → KH → OL → Prop) (o : Value) (K : KH) (O : OL) : Prop := W C n K O t (SubK C n Q o)
theorem W_Subscript {value slice : Expr} {Q : Value → KH → OL → Prop}
    (h : W C n K O (eval value env) (SubO C n (eval slice env) Q))
    (hs : ∀ o i, ∃ l, subscripted slice false o i = operate l (getItem o i) := by exact fun _ _ => ⟨_, rfl⟩) :
    W C n K O (eval (.Subscript value slice pos) env) Q :=
  W_eq (arm_eval_Subscript ..) (W_bind (W_mono h fun o K O h => W_bind (W_holding (W_mono h fun i K O ⟨T, id, h1, h2, h3⟩ => W_bind (W_standAt (W_bind (W_getitemInPython h1 h2 (W_bind (by
    obtain ⟨l, e⟩ := hs o i
    rw [e]
    exact W_operate (W_mono h3 fun r K O h => W_bind (W_letTemp (W_pure h))))))))))))

/- statements -/
theorem W_execs_nil {Q : Flow → KH → OL → Prop} (h : Q .next K O) : W C n K O (execs [] env) Q := W_pure h
theorem W_execs_cons {st : Stmt} {rest : List Stmt} {Q : Flow → KH → OL → Prop}
    (h : W C n K O (exec st env) (NextK C n rest env Q)) : W C n K O (execs (st :: rest) env) Q :=
  fun A hA s S => wpAny_execs_cons (h.to hA S fun f s' K' O' S' q => by
    cases f with
    | next => exact q A hA s' S'
    | brk => exact ⟨K', O', S', q⟩
    | cont => exact ⟨K', O', S', q⟩
    | ret v => exact ⟨K', O', S', q⟩)
theorem W_execs_step {b : List Stmt} {st : Stmt} {rest : List Stmt} {Q : Flow → KH → OL → Prop} (e : b = st :: rest)
    (h : W C n K O (exec st env) (NextK C n rest env Q)) : W C n K O (execs b env) Q := e ▸ W_execs_cons h
theorem W_Assign1 {p' : Pos} {value : Expr} {Q : Flow → KH → OL → Prop} (h : W C n K O (eval value env) (K1 C n (storeName env x) (NQ Q)))
    (hs : swapsWith value (some (.Name x p')) pos.line env = pure false := by rfl) : W C n K O (exec (.Assign [.Name x p'] value pos) env) Q :=
  fun A hA s S => wpAny_Assign_Name (h.to hA S fun v s' _ _ S' q => q A hA s' S') hs
theorem W_AugName {p' : Pos} {op : Operator} {value : Expr} {Q : Flow → KH → OL → Prop}
    (h : W C n K O (loadName env x) (K2 C n (eval value env) (inplaceOp op) (K1 C n (storeName env x) (NQ Q)))) :
    W C n K O (exec (.AugAssign (.Name x p') op value pos) env) Q :=
  fun A hA s S => wpAny_AugAssign_Name (h.to hA S fun _ s' _ _ S' q => q.to hA S' fun _ s' _ _ S' q => q.to hA S' fun _ s' _ _ S' q => q A hA s' S')
theorem W_If {test : Expr} {body orelse : List Stmt} {Q : Flow → KH → OL → Prop}
    (h : W C n K O (isTrue test env (eval test env)) (IfK C n body orelse env Q)) : W C n K O (exec (.If test body orelse pos) env) Q :=
  fun A hA s S => wpAny_If (h.to hA S fun b s' K' O' S' q => by cases b <;> exact q A hA s' S')
theorem W_Return {e : Expr} {Q : Flow → KH → OL → Prop} (h : W C n K O (eval e env) (RetQ Q)) : W C n K O (exec (.Return (some e) pos) env) Q :=
  fun A hA s S => wpAny_Return_some (h A hA s S)
theorem W_Break {Q : Flow → KH → OL → Prop} (h : Q .brk K O) : W C n K O (exec (.Break pos) env) Q := fun A hA s S => wpAny_Break ⟨K, O, S, h⟩
theorem W_Expr {e : Expr} {Q : Flow → KH → OL → Prop} (h : W C n K O (eval e env) (ExprQ Q))
    (hi : interactive env = false := by rfl) (hs : swapsWith e none pos.line env = pure false := by rfl) : W C n K O (exec (.Expr e pos) env) Q :=
  W_eq (exec_Expr env e pos hi hs) (W_bind (W_standAt (W_bind (W_mono h fun v K O h => by rw [dropValue_plain h.1]; exact W_pure h.2))))
theorem W_AssignSub {o i value : Expr} {p' : Pos} {Q : Flow → KH → OL → Prop}
    (h : W C n K O (eval value env) (SetK C n (eval o env) (eval i env) Q))
    (hs : swapsWith value (some (.Subscript o i p')) pos.line env = pure false := by rfl) : W C n K O (exec (.Assign [.Subscript o i p'] value pos) env) Q :=
  fun A hA s S => wpAny_Assign_Subscript (h.to hA S fun _ s' _ _ S' q => q.to hA S' fun _ s' _ _ S' q => q.to hA S' fun _ s' _ _ S' q => q A hA s' S') hs
theorem W_AugSub {o i value : Expr} {p' : Pos} {op : Operator} {Q : Flow → KH → OL → Prop}
    (h : W C n K O (eval o env) (Aug1 C n (eval i env) op (eval value env) Q))
    (hi : ∀ ov iv new, augStore i ov iv new = (do holding [new, ov, iv] (setItem ov iv new); release [new, ov, iv] []; pure .next) := by intros; rfl) :
    W C n K O (exec (.AugAssign (.Subscript o i p') op value pos) env) Q :=
  fun A hA s S => wpAny_AugAssign_SubscriptAny (h.to hA S fun _ s' _ _ S' q => q.to hA S' fun _ s' _ _ S' q => q.to hA S' fun _ s' _ _ S' q => q.to hA S' fun _ s' _ _ S' q => q.to hA S' fun _ s' _ _ S' q => q A hA s' S') hi
theorem W_AssignStores {targets : List Expr} {value : Expr} {Q : Flow → KH → OL → Prop}
    (h : W C n K O (eval value env) (StoK C n ((assignEach targets env).map (·.2)) Q))
    (hs : swapsWithSole targets value pos.line env = pure false := by rfl) (hw : swappedStores targets value env = pure none := by rfl) : W C n K O (exec (.Assign targets value pos) env) Q :=
  fun A hA s S => wpAny_Assign_stores (h.to hA S fun v s' _ _ S' q => q A hA s' S') hs hw
theorem W_assignAll1 {t : Value → Sem Unit} {v : Value} {Q : Unit → KH → OL → Prop} (h : W C n K O (t v) Q) : W C n K O (assignAll v [t]) Q := h
theorem W_assignAll2 {t u : Value → Sem Unit} {r : List (Value → Sem Unit)} {v : Value} {Q : Unit → KH → OL → Prop} (h : W C n K O (t v) (K0 C n (assignAll v (u :: r)) Q)) :
    W C n K O (assignAll v (t :: u :: r)) Q := W_bind (W_holding h)
theorem W_assignTuple {elts : List Expr} {k : Nat} {t : Addr} {vs : List Value} {Q : Unit → KH → OL → Prop} (ht : Has C K O t (.tup vs))
    (hn : (assignEach elts env).length = vs.length) (hstar : (assignEach elts env).findIdx? (·.1) = none)
    (h : W C n K O (assignInOrder ((assignEach elts env).map (·.2)) vs) Q) : W C n K O (assign (.Tuple elts k pos) env (.ref t)) Q :=
  fun A hA s S => wpAny_assign_Tuple hA.handled (At.tup (S.has ht)) (by simpa using hn) hstar fun h' hx => by
    have := h A hA { s with heap := h' } (S.grow fun b o e => hx b o (Nat.ne_of_lt (Heap.lt_size e)) e)
    simpa using this
theorem W_inOrder_nil {vs : List Value} {Q : Unit → KH → OL → Prop} (h : Q () K O) : W C n K O (assignInOrder [] vs) Q := W_pure h
theorem W_inOrder_cons {t : Value → Sem Unit} {ts : List (Value → Sem Unit)} {v : Value} {vs : List Value} {Q : Unit → KH → OL → Prop}
    (h : W C n K O (t v) (K0 C n (assignInOrder ts vs) Q)) : W C n K O (assignInOrder (t :: ts) (v :: vs)) Q := W_bind (W_holding h)

/- loops -/
theorem WCd_run {c : Code} {Q : Flow → KH → OL → Prop} (h : WCd C n K O c Q) : W C n K O (runOwn c env none) Q :=
  fun A hA s S => wpAny_runOwn (by
    show codeAny _ A c _ s
    refine codeAny_mono (h A hA s S) fun r s' hr => ?_
    cases r with
    | ok f => exact hr
    | error e => exact hr.elim)

theorem wp_noFail {α : Type} {M : Model} {A : Around} {t : Sem α} {Q : α → Shared → Prop} {E : Value → Shared → Prop} {s : Shared} (h : wpAny M A t Q (fun _ _ => False) s) : wpAny M A t Q E s :=
  wpAny_mono h (fun _ _ q => q) fun _ _ q => q.elim

theorem WCd_while {test : Expr} {body : List Stmt} {R : Flow → KH → OL → Prop} (I : Nat → KH → OL → Prop)
    (turn : ∀ j K O, I j K O → W C n K O (isTrue test env (eval test env)) fun b K O =>
      if b then W C n K O (execs body env) fun f K O => match f with
        | .next | .cont => ∃ i, i < j ∧ I i K O
        | .brk => R .next K O
        | .ret v => R (.ret v) K O
      else R .next K O)
    (j : Nat) (h : I j K O) : WCd C n K O (.whileLoop test body [] env) R := fun A hA s S => by
  refine codeAny_whileLoop (fun j s => ∃ K' O', Sat C K' O' s ∧ I j K' O') ?_ j ⟨K, O, S, h⟩
  rintro j s ⟨K', O', S', hI⟩
  refine (turn j K' O' hI).to hA S' fun b s' K' O' S' q => ?_
  cases b with
  | true =>
    refine W.to (t := execs body env) q hA S' fun f s' K' O' S' q => ?_
    cases f with
    | next => obtain ⟨i, hi, q⟩ := q; exact ⟨i, hi, K', O', S', q⟩
    | cont => obtain ⟨i, hi, q⟩ := q; exact ⟨i, hi, K', O', S', q⟩
    | brk => exact ⟨K', O', S', q⟩
    | ret v => exact ⟨K', O', S', q⟩
  | false => exact wpAny_execs_nil ⟨K', O', S', q⟩

theorem W_While {test : Expr} {body : List Stmt} {Q : Flow → KH → OL → Prop} (h : WCd C n K O (.whileLoop test body [] env) Q) : W C n K O (exec (.While test body [] pos) env) Q :=
  W_eq (exec_While ..) (W_bind (W_standAt (WCd_run h)))

theorem WCd_for {target : Expr} {it : Value} {body : List Stmt} {R : Flow → KH → OL → Prop} (I : Nat → KH → OL → Prop)
    (turn : ∀ j K O, I j K O → W C n K O (pyNext it) fun r K O => match r with
      | none => R .next K O
      | some v => W C n K O (letOwnedTupleGo target it v) fun _ K O => W C n K O (assign target env v) fun _ K O => W C n K O (execs body env) fun f K O => match f with
        | .next | .cont => ∃ i, i < j ∧ I i K O
        | .brk => R .next K O
        | .ret v => R (.ret v) K O)
    (j : Nat) (h : I j K O) : WCd C n K O (.forLoop target it body [] env) R := fun A hA s S => by
  refine codeAny_loop' rfl (fun j s => ∃ K' O', Sat C K' O' s ∧ I j K' O') (fun j s hI => ?_) j ⟨K, O, S, h⟩
  obtain ⟨K', O', S', hI⟩ := hI
  show wpAny _ _ ((forTurn target it body [] env).onRaise (fun x => do noteFrame x env; theTreesLotGoes x)) _ _ s
  refine wpAny_noted (wp_noFail ?_)
  simp only [forTurn]
  refine wpAny_bind (wpAny_standAt (wpAny_bind (wpAny_onRaise ((turn j K' O' hI).to (show AOk n (A.under (Code.forLoop target it body [] env)) from hA) S' fun r s' K' O' S' q => ?_))))
  cases r with
  | none => exact wpAny_pure (.inr ⟨rfl, codeAny_block (wpAny_execs_nil ⟨K', O', S', q⟩)⟩)
  | some v =>
    refine wpAny_bind (W.to q hA S' fun _ s' K' O' S' q => wpAny_bind (W.to q hA S' fun _ s' K' O' S' q => wpAny_bind (W.to q hA S' fun f s' K' O' S' q => ?_)))
    cases f with
    | next => obtain ⟨i, hi, q⟩ := q; exact wpAny_pure (.inl ⟨rfl, i, hi, K', O', S', q⟩)
    | cont => obtain ⟨i, hi, q⟩ := q; exact wpAny_pure (.inl ⟨rfl, i, hi, K', O', S', q⟩)
    | brk => exact wpAny_pure ⟨K', O', S', q⟩
    | ret v => exact wpAny_pure ⟨K', O', S', q⟩

theorem W_For {target iter : Expr} {body : List Stmt} {Q : Flow → KH → OL → Prop}
    (h : W C n K O (eval iter env) (ForK C n target body env Q))
    (hs : ∀ x, foldedSetIterable iter env x = pure x := by intro _; rfl) : W C n K O (exec (.For target iter body [] pos) env) Q :=
  W_eq (exec_For ..) (W_bind (W_standAt (W_bind (W_mono h fun v K O h => by
    rw [hs v]
    exact W_bind (W_pure (W_bind (W_standAt (W_bind (W_holding (W_mono h fun it K O h => WCd_run h))))))))))
end
end Mine
end
section
open PySem PySem.W PySem.Calls PyProof.Rows
set_option Elab.async false
set_option linter.unusedVariables false
set_option linter.unusedSectionVars false
namespace Mine

theorem ofL_eq {r : List (Str × Value)} {x : Str} {v : Value} : ofL ((x, v) :: r) x = some v := setm_eq
theorem ofL_ne {r : List (Str × Value)} {x y : Str} {v : Value} (h : y ≠ x) : ofL ((x, v) :: r) y = ofL r y := setm_ne h

theorem lookup_hit {x : Str} {c : Addr} {r : List (Str × Addr)} : List.lookup x ((x, c) :: r) = some c := by simp [List.lookup]
theorem lookup_miss {x y : Str} {c : Addr} {r : List (Str × Addr)} (h : x ≠ y) : List.lookup x ((y, c) :: r) = List.lookup x r := by
  have : (x == y) = false := beq_eq_false_iff_ne.mpr h
  simp [List.lookup, this]
section
variable {α β : Type} {C : WC} {n : Nat} {K : KH} {O O' : OL} {env : Env} {x : Str} {pos : Pos}

/- new frames -/
def LayC : List (Str × NameKind) → List (Str × Addr) → OL → (List (Str × Addr) → OL → Prop) → Prop
  | [], cells, O, P => P cells O
  | (x, .cell) :: r, cells, O, P => ∀ c, LayC r ((x, c) :: cells) ((c, .cell none) :: O) P
  | _ :: r, cells, O, P => LayC r cells O P

def storeBinds (env : Env) : List (Str × Value) → Sem Unit
  | [] => pure ()
  | (x, v) :: r => do storeName env x v; storeBinds env r

theorem W_binds_nil {Q : Unit → KH → OL → Prop} (h : Q () K O) : W C n K O (storeBinds env []) Q := W_pure h
theorem W_binds_cons {y : Str} {v : Value} {r : List (Str × Value)} {Q : Unit → KH → OL → Prop} (h : W C n K O (storeName env y v) fun _ K O => W C n K O (storeBinds env r) Q) : W C n K O (storeBinds env ((y, v) :: r)) Q := W_bind h
theorem W_alloc {o : Obj} {z : AO} {Q : Addr → KH → OL → Prop} (hf : o.isFreed = false) (hz : z.Rel o) (h : ∀ a, Q a K ((a, z) :: O)) : W C n K O (alloc o) Q :=
  fun A hA s S => wpAny_alloc ⟨K, _, S.push (tk := s.toks) (dr := s.drawn) hf hz, h _⟩

theorem W_layCells (f : (Str × NameKind) → List (Str × Addr) → Sem (ForInStep (List (Str × Addr))))
    (hf : ∀ name kind cells, f (name, kind) cells = if kind == NameKind.cell then (do let a ← alloc { cls := .type "cell", data := .cell none }; pure (.yield ((name, a) :: cells))) else pure (.yield cells)) :
    ∀ (names : List (Str × NameKind)) (cells : List (Str × Addr)) (O : OL) (Q : List (Str × Addr) → KH → OL → Prop), LayC names cells O (fun cs O => Q cs K O) → W C n K O (forIn names cells f) Q
  | [], cells, O, Q, h => by rw [List.forIn_nil]; exact W_pure h
  | (x, k) :: r, cells, O, Q, h => by
    rw [List.forIn_cons, hf]
    cases k with
    | cell => exact W_bind (W_bind (W_alloc (z := .cell none) rfl rfl fun a => W_pure (W_layCells f hf r _ _ Q (h a))))
    | _ => exact W_bind (W_pure (W_layCells f hf r _ _ Q h))

theorem forIn_storeBinds {env : Env} (f : Str × Value → PUnit → Sem (ForInStep PUnit)) (hf : ∀ n v u, f (n, v) u = (do storeName env n v; pure (.yield ⟨⟩))) :
    ∀ (binds : List (Str × Value)) {O : OL} {Q : PUnit → KH → OL → Prop}, W C n K O (storeBinds env binds) (fun _ => Q ⟨⟩) → W C n K O (forIn binds ⟨⟩ f) Q
  | [], _, _, h => by rw [List.forIn_nil]; exact h
  | (x, v) :: r, O, Q, h => by
    rw [List.forIn_cons, hf]
    intro A hA s S
    have h' := h A hA s S
    rw [storeBinds] at h'
    intro Γ p hΓ
    have h2 := h' Γ p hΓ
    rw [Sem.wp_bind'] at h2
    rw [Sem.wp_bind', Sem.wp_bind']
    refine Sem.wp_mono _ Γ _ (fun _ p' s' h3 => ?_) (fun _ _ _ e => e) p s h2
    rw [Sem.wp_pure']
    exact forIn_rest f hf r h3
where
  forIn_rest (f : Str × Value → PUnit → Sem (ForInStep PUnit)) (hf : ∀ n v u, f (n, v) u = (do storeName env n v; pure (.yield ⟨⟩))) : ∀ (binds : List (Str × Value)) {M : Model} {Γ : Ctx} {p : Pos} {s : Shared} {Q : PUnit → Pos → Shared → Prop} {E : Value → Pos → Shared → Prop},
      Sem.wp M Γ (storeBinds env binds) (fun _ => Q ⟨⟩) E p s → Sem.wp M Γ (forIn binds ⟨⟩ f) Q E p s
    | [], _, _, _, _, _, _, h => by rw [List.forIn_nil]; exact h
    | (x, v) :: r, M, Γ, p, s, Q, E, h => by
      rw [List.forIn_cons, hf]
      rw [storeBinds, Sem.wp_bind'] at h
      rw [Sem.wp_bind', Sem.wp_bind']
      refine Sem.wp_mono M Γ _ (fun _ p' s' h3 => ?_) (fun _ _ _ e => e) p s h
      rw [Sem.wp_pure']
      exact forIn_rest f hf r h3

theorem rel_nom {c : Value} {d : Option Addr} {sl : Array (Option Value)} : (AO.ns nom).Rel { cls := c, dict := d, data := .dict #[] , slots := sl } :=
  ⟨#[], 0, rfl, fun _ he => by simp at he, fun _ => rfl⟩

theorem W_newEnv {scope : Scope} {globals : Addr} {closure : List (Str × Addr)} {binds : List (Str × Value)} {qual : Str} {func : Option Addr} {code : Value} {around : Option Env} {builtins : Addr} {Q : Env → KH → OL → Prop}
    (h : ∀ L, LayC scope.names closure ((L, .ns nom) :: O) fun cells O' =>
      W C n K O' (storeBinds (newEnv scope L globals cells qual func code around builtins) binds) fun _ => Q (newEnv scope L globals cells qual func code around builtins)) :
    W C n K O (newFunctionEnv scope globals closure binds qual func code around builtins) Q := by
  unfold newFunctionEnv
  cases around with
  | none =>
    refine W_bind (W_alloc (z := .ns nom) rfl rel_nom fun L => ?_)
    refine W_bind (W_layCells _ (fun name kind cells => by cases hkc : kind == NameKind.cell <;> simp [hkc]) _ _ _ _ ?_)
    refine layC_mono (h L) fun cells O' hw => ?_
    exact W_bind (forIn_storeBinds (env := newEnv scope L globals cells qual func code none builtins) _ (fun _ _ _ => rfl) binds (W_mono hw fun _ _ _ q => W_pure q))
  | some outer =>
    refine W_bind (W_alloc (z := .ns nom) rfl rel_nom fun L => ?_)
    refine W_bind (W_layCells _ (fun name kind cells => by cases hkc : kind == NameKind.cell <;> simp [hkc]) _ _ _ _ ?_)
    refine layC_mono (h L) fun cells O' hw => ?_
    exact W_bind (forIn_storeBinds (env := newEnv scope L globals cells qual func code (some outer) builtins) _ (fun _ _ _ => rfl) binds (W_mono hw fun _ _ _ q => W_pure q))
where
  layC_mono {P P' : List (Str × Addr) → OL → Prop} : ∀ {names : List (Str × NameKind)} {cells : List (Str × Addr)} {O : OL}, LayC names cells O P → (∀ cs O, P cs O → P' cs O) → LayC names cells O P'
    | [], _, _, h, k => k _ _ h
    | (_, kd) :: r, _, _, h, k => by
      cases kd with
      | cell => exact fun c => layC_mono (h c) k
      | _ => exact layC_mono (names := r) h k

theorem W_weak {α : Type} {t : Sem α} {Q : α → KH → OL → Prop} (h : W C n K O t fun v K O => ∃ O₂, O₂.Sublist O ∧ Q v K O₂) : W C n K O t Q :=
  fun A hA s S => h.to hA S fun _ s' K' O' S' ⟨O₂, hs, q⟩ => ⟨K', O₂, S'.sub hs, q⟩

/-- a function lies there -/
def FnAt (C : WC) (K : KH) (O : OL) (a : Addr) (fd : FuncData) : Prop := ∀ s, Sat C K O s → ∃ o, s.heap.get? a = some o ∧ o.data = .func fd
theorem FnAt.base {a : Addr} {fd : FuncData} {o : Obj} (h : C.G.get? a = some o) (hd : o.data = .func fd) : FnAt C K O a fd := fun s S => ⟨o, S.base _ _ h, hd⟩
theorem FnAt.has {a : Addr} {fd : FuncData} {o : Obj} (h : Has C K O a (.ex o)) (hd : o.data = .func fd) : FnAt C K O a fd := fun s S => ⟨o, At.ex (S.has h), hd⟩

theorem under_call {A : Around} (hA : AOk n A) (f : Value) (a : Args) (h : (Code.call f a).weight = 0 := by rfl) (hu : (Code.call f a).cUnits = 1 := by rfl) : A.under (.call f a) = A.in1 := Around.under_plain h hu

theorem WCd_func {body : List Stmt} {R : Flow → KH → OL → Prop} (h : W C (n + 1) K O (execs body env) fun f K O => R (.ret (match f with | .ret v => v | _ => .none)) K O) : WCd C n K O (.func body env) R :=
  fun A hA s S => codeAny_func (wpAny_mono (h _ (hA.deeper env) s S) (fun _ _ q => q) fun _ _ e => e.elim)
theorem WCd_expr {e : Expr} {R : Flow → KH → OL → Prop} (h : W C (n + 1) K O (eval e env) fun v K O => R (.ret v) K O) : WCd C n K O (.expr e env) R :=
  fun A hA s S => kla_codeExpr (wpAny_mono (h _ (hA.deeper env) s S) (fun _ _ q => q) fun _ _ e => e.elim)

theorem W_callCode {f : Value} {pos : List Value} {kw : List (Str × Value)} {Q : Value → KH → OL → Prop} (h : WCd C n K O (.call f ⟨pos, kw⟩) fun f K O => ∃ v, f = .ret v ∧ Q v K O) : W C n K O (call f pos kw) Q :=
  fun A hA s S => wpAny_call (codeAny_mono (h A hA s S) fun r s' hr => by
    cases r with
    | error e => exact hr.elim
    | ok f => obtain ⟨K', O', S', v, rfl, q⟩ := hr; exact ⟨K', O', S', q⟩)

def retv : Flow → Value
  | .ret v => v
  | _ => .none

def fnEnv (fd : FuncData) (a L : Addr) (cells : List (Str × Addr)) : Env := newEnv fd.scope L fd.globals cells (fd.qualname ++ ".<locals>.") (some a) fd.code none fd.builtins

abbrev RetK (Q : Value → KH → OL → Prop) (f : Flow) (K : KH) (O : OL) : Prop := ∃ O₂, O₂.Sublist O ∧ Q (retv f) K O₂
abbrev SubQ (Q : Value → KH → OL → Prop) (v : Value) (K : KH) (O : OL) : Prop := ∃ O₂, O₂.Sublist O ∧ Q v K O₂
theorem W_callFn {a : Addr} {fd : FuncData} {body : List Stmt} {ps : List Value} {kw : List (Str × Value)} {binds : List (Str × Value)} {Q : Value → KH → OL → Prop} (hn : n ≤ 390)
    (hf : FnAt C K O a fd) (hlim : C.G.NoLimit) (hcd : ∀ s, Sat C K O s → s.heap.CodeRec fd.code fd.qualname) (hbody : fd.body = .stmts body)
    (hbind : ∀ s, Sat C K O s → BindsTo s fd ⟨ps, kw⟩ binds)
    (h : ∀ L, LayC fd.scope.names fd.closure ((L, .ns nom) :: O) fun cells O' => W C (n + 1) K O' (storeBinds (fnEnv fd a L cells) binds) (K0 C (n + 1) (execs body (fnEnv fd a L cells)) (RetK Q)))
    (hco : fd.scope.isCoroutine = false := by rfl) (hgen : fd.scope.isGenerator = false := by rfl) : W C n K O (call (.ref a) ps kw) Q :=
  W_callCode fun A hA s S => by
    obtain ⟨o, ho, hd⟩ := hf s S
    refine codeAny_call_function (hA.room (by omega)) ho hd hco hgen hbody (hcd s S) ?_
    refine hbind s S _ _ _ _ ?_
    refine W.to (n := n + 1) (Q := fun env K' O' => WCd C n K' O' (.func body env) fun f K O => ∃ v, f = .ret v ∧ Q v K O) (W_newEnv (Q := fun env K' O' => WCd C n K' O' (.func body env) fun f K O => ∃ v, f = .ret v ∧ Q v K O) fun L => ?_) hA.in1 S fun env s' K' O' S' q => ?_
    · refine W_newEnv.layC_mono (h L) fun cells O' hw => W_mono hw fun _ K' O' hw => WCd_func (W_weak (W_mono hw fun f K' O' hq => ?_))
      obtain ⟨O₂, hs, q⟩ := hq
      exact ⟨O₂, hs, _, rfl, by cases f <;> exact q⟩
    · exact ⟨hlim.keeps S'.base, codeAny_mono (q A hA s' S') fun r s' hr => by cases r with
        | error e => exact hr.elim
        | ok f => exact hr⟩


theorem W_callLam {a : Addr} {fd : FuncData} {body : Expr} {ps : List Value} {kw : List (Str × Value)} {binds : List (Str × Value)} {Q : Value → KH → OL → Prop} (hn : n ≤ 390)
    (hf : FnAt C K O a fd) (hlim : C.G.NoLimit) (hcd : ∀ s, Sat C K O s → s.heap.CodeRec fd.code fd.qualname) (hbody : fd.body = .expr body)
    (hbind : ∀ s, Sat C K O s → BindsTo s fd ⟨ps, kw⟩ binds)
    (h : ∀ L, LayC fd.scope.names fd.closure ((L, .ns nom) :: O) fun cells O' => W C (n + 1) K O' (storeBinds (fnEnv fd a L cells) binds) (K0 C (n + 1) (eval body (fnEnv fd a L cells)) (SubQ Q)))
    (hco : fd.scope.isCoroutine = false := by rfl) (hgen : fd.scope.isGenerator = false := by rfl) : W C n K O (call (.ref a) ps kw) Q :=
  W_callCode fun A hA s S => by
    obtain ⟨o, ho, hd⟩ := hf s S
    refine kla_callFunE (hA.room (by omega)) ho hd hco hgen hbody (hcd s S) ?_
    refine hbind s S _ _ _ _ ?_
    refine W.to (n := n + 1) (Q := fun env K' O' => WCd C n K' O' (.expr body env) fun f K O => ∃ v, f = .ret v ∧ Q v K O) (W_newEnv (Q := fun env K' O' => WCd C n K' O' (.expr body env) fun f K O => ∃ v, f = .ret v ∧ Q v K O) fun L => ?_) hA.in1 S fun env s' K' O' S' q => ?_
    · refine W_newEnv.layC_mono (h L) fun cells O' hw => W_mono hw fun _ K' O' hw => WCd_expr (W_weak (W_mono hw fun v K' O' hq => ?_))
      obtain ⟨O₂, hs, q⟩ := hq
      exact ⟨O₂, hs, _, rfl, q⟩
    · exact ⟨hlim.keeps S'.base, codeAny_mono (q A hA s' S') fun r s' hr => by cases r with
        | error e => exact hr.elim
        | ok f => exact hr⟩

/- the calls' syntax -/
theorem W_evalAll_nil {Q : List Value → KH → OL → Prop} (h : Q [] K O) : W C n K O (evalAll []) Q := W_pure h
theorem W_evalAll_cons {t : Sem Value} {rest : List (Sem Value)} {Q : List Value → KH → OL → Prop}
    (h : W C n K O t fun v K O => W C n K O (evalAll rest) fun vs K O => Q (v :: vs) K O) : W C n K O (evalAll (t :: rest)) Q :=
  fun A hA s S => wpAny_evalAll_cons (h.to hA S fun v s' _ _ S' q => q A hA s' S')
theorem W_evalArgs {f : Value} {t : Sem Value} {rest : List (Bool × Sem Value)} {keywords : List (Option Str × Sem Value)} {Q : Args → KH → OL → Prop} (hall : keywords.all (·.1.isSome) = true)
    (h : W C n K O (spliced ((false, t) :: rest)) fun vs K O => W C n K O (evalAll (keywords.map (·.2))) fun ks K O => Q ⟨vs, (keywords.filterMap (·.1)).zip ks⟩ K O) :
    W C n K O (evalArgs f true ((false, t) :: rest) keywords) Q :=
  fun A hA s S => evalArgs_kw hall (h.to hA S fun v s' _ _ S' q => q A hA s' S')
theorem W_evalArgs0 {f : Value} {Q : Args → KH → OL → Prop} (h : Q ⟨[], []⟩ K O) : W C n K O (evalArgs f true [] []) Q := fun A hA s S => PySem.evalArgs_none ⟨K, O, S, h⟩

theorem W_callWithFn {a : Addr} {fd : FuncData} {first : List Value} {args : List (Bool × Sem Value)} {keywords : List (Option Str × Sem Value)} {Q : Value → KH → OL → Prop}
    (h : W C n K O (evalArgs (.ref a) true args keywords) fun x K O => FnAt C K O a fd ∧ W C n K O (call (.ref a) (first ++ x.pos) x.kw) Q) : W C n K O (callWith pos (.ref a) first args keywords) Q := by
  intro A hA s S
  unfold callWith
  refine wpAny_bind (wpAny_holding (h.to hA S fun x s₁ K' O' S' q => wpAny_bind (wpAny_standAt ?_)))
  obtain ⟨hf, hw⟩ := q
  obtain ⟨o, ho, hd⟩ := hf s₁ S'
  have hw := hw A hA s₁ S'
  have tail : ∀ {t : Sem Value}, wpAny (model C.prog C.w) A t (fun v s' => ∃ K' O', Sat C K' O' s' ∧ Q v K' O') (fun _ _ => False) s₁ →
      wpAny (model C.prog C.w) A (t >>= fun r => holding [r] point >>= fun _ => pure r) (fun v s' => ∃ K' O', Sat C K' O' s' ∧ Q v K' O') (fun _ _ => False) s₁ :=
    fun ht => wpAny_bind (wpAny_mono ht (fun r s₂ hr => wpAny_bind (wpAny_holding (wpAny_point (wpAny_pure hr)))) fun _ _ x => x)
  cases hs : (args.any (·.1) || keywords.any (·.1.isNone)) <;>
    refine wpAny_bind (m := keeperOf (.ref a)) ?_ <;> unfold keeperOf <;>
    refine wpAny_bind (wpAny_load ho ?_) <;> rw [hd] <;> refine wpAny_pure ?_
  all_goals dsimp only
  · by_cases hl : args.length + 2 * keywords.length > 30
    · rw [if_pos hl]; exact tail hw
    · rw [if_neg hl]; exact tail (Calls.wpAny_keep (m := call (.ref a) (first ++ x.pos) x.kw) hw)
  · exact tail (Calls.wpAny_keep (m := call (.ref a) (first ++ x.pos) x.kw) hw)

theorem W_callWithB {f : Value} {first : List Value} {args : List (Bool × Sem Value)} {Q : Value → KH → OL → Prop} (hplain : args.any (·.1) = false) (hf : keeperOf f = pure .machine)
    (h : W C n K O (evalArgs f true args []) fun x K O => W C n K O (call f (first ++ x.pos) x.kw) Q) : W C n K O (callWith pos f first args []) Q := by
  unfold callWith
  refine W_bind (W_holding (W_mono h fun x K O h => W_bind (W_standAt ?_)))
  simp only [hplain, List.any_nil, Bool.or_false]
  rw [hf]
  refine W_bind (W_pure ?_)
  exact W_bind (W_mono h fun r K O h => W_bind (W_holding (W_point (W_pure h))))

theorem W_CallName {y : Str} {p : Pos} {args : List Expr} {keywords : List Keyword} {Q : Value → KH → OL → Prop}
    (h : W C n K O (eval (.Name y p) env) (CallK C n pos args keywords env Q)) :
    W C n K O (eval (.Call (.Name y p) args keywords pos) env) Q :=
  W_eq (arm_eval_Call_Name' ..) (W_bind h)

theorem W_argTree {t : Sem Value} {Q : Value → KH → OL → Prop} (h : W C n K O t Q) : W C n K O (do let v ← t; standAt pos; pure v) Q :=
  W_bind (W_mono h fun v K O h => W_bind (W_standAt (W_pure h)))
end
end Mine
end
section
open PySem PySem.W PySem.Calls PyProof.Rows
set_option Elab.async false
set_option linter.unusedVariables false
set_option linter.unusedSectionVars false
namespace Mine

/-- one thing of the own list goes -/
inductive Del : OL → Addr → AO → OL → Prop where
  | here {a x O} : Del ((a, x) :: O) a x O
  | there {p a x O O'} : Del O a x O' → Del (p :: O) a x (p :: O')
theorem Del.mem {O O' : OL} {a : Addr} {x : AO} (u : Del O a x O') : (a, x) ∈ O := by
  induction u with
  | here => exact .head _
  | there _ ih => exact .tail _ ih
theorem Del.sub {O O' : OL} {a : Addr} {x : AO} (u : Del O a x O') : O'.Sublist O := by
  induction u with
  | here => exact List.sublist_cons_self ..
  | there _ ih => exact ih.cons_cons _
theorem Del.ne {O O' : OL} {a : Addr} {x : AO} (u : Del O a x O') (nd : (O.map (·.1)).Nodup) : ∀ p ∈ O', p.1 ≠ a := by
  induction u with
  | here =>
    intro p hp e
    simp only [List.map_cons, List.nodup_cons] at nd
    exact nd.1 (e ▸ List.mem_map_of_mem hp)
  | there u ih =>
    rename_i q _ _ _ _
    intro p hp
    simp only [List.map_cons, List.nodup_cons] at nd
    rcases List.mem_cons.mp hp with rfl | hp
    · intro e; exact nd.1 (e ▸ List.mem_map_of_mem u.mem)
    · exact ih nd.2 p hp
theorem Sat.del {C : WC} {K : KH} {O O' : OL} {s : Shared} (S : Sat C K O s) {a : Addr} {x : AO} (u : Del O a x O') {h' : Heap}
    (hs : Heap.ExtBut a s.heap h') {tk : Nat} {dr : Drawn} : Sat C K O' { s with heap := h', toks := tk, drawn := dr } where
  base := fun b o e => hs b o (fun q => by have := (S.apart _ u.mem).2; rw [← q, e] at this; cases this) (S.base b o e)
  kn := fun b z e => (S.kn b z e).of_get fun o ho => hs b o (fun q => by have := (S.apart _ u.mem).1; rw [← q, e] at this; cases this) ho
  own := fun p hp => (S.own p (u.sub.subset hp)).of_get fun o ho => hs _ o (u.ne S.nodup p hp) ho
  apart := fun p hp => S.apart p (u.sub.subset hp)
  nodup := (u.sub.map _).nodup S.nodup
  gens := S.gens
  os := S.os

section
variable {α β : Type} {C : WC} {n : Nat} {K : KH} {O O' : OL} {env : Env} {x : Str} {pos : Pos}

/-- a list lies there -/
def LstAt (C : WC) (K : KH) (O : OL) (a : Addr) (vs : List Value) : Prop := ∀ s, Sat C K O s → s.heap.IsList a vs.toArray
theorem LstAt.has {a : Addr} {vs : List Value} (h : Has C K O a (.list vs)) : LstAt C K O a vs := fun s S => At.isList (S.has h)
theorem LstAt.k {a : Addr} {vs : List Value} (h : K a = some (.list vs)) : LstAt C K O a vs := .has (.inl h)
theorem LstAt.o {a : Addr} {vs : List Value} (h : (a, .list vs) ∈ O) : LstAt C K O a vs := .has (.inr (.inl h))
theorem LstAt.i {a : Addr} {vs : List Value} (h : (a, .ilist vs) ∈ O) : LstAt C K O a vs := fun s S => by
  obtain ⟨o, ho, hc, n, hd⟩ := S.own _ h
  exact ⟨o, ho, hc, n, hd⟩
theorem LstAt.g {a : Addr} {vs : List Value} (h : C.G.IsList a vs.toArray) : LstAt C K O a vs := fun s S => let ⟨o, ho, r⟩ := h; ⟨o, S.base _ _ ho, r⟩
theorem LstAt.ty {a : Addr} {vs : List Value} (h : LstAt C K O a vs) : TyIs C K O (.ref a) "list" := fun s S => (h s S).typeIs

/-- a tuple lies there -/
def TupAt (C : WC) (K : KH) (O : OL) (a : Addr) (vs : List Value) : Prop := ∀ s, Sat C K O s → s.heap.IsTuple a vs.toArray

def lit (l : Addr) (i : Nat) : AO := .obj (.type "list_iterator") (.fields #[.ref l, .int i 0])
def rit (x left step : Int) : AO := .ex { cls := .type "range_iterator", data := .fields #[rawInt x, rawInt left, rawInt step] }
def rng (a b c : Int) (t u v : Tok) : AO := .ex { cls := .type "range", data := .fields #[.int a t, .int b u, .int c v] }
def sit (x : Str) (t : Tok) (i : Nat) : AO := .obj (.type (strIterType x)) (.fields #[.str x t, .int i 0])

theorem W_iterList {l : Addr} {vs : List Value} {Q : Value → KH → OL → Prop} (hl : LstAt C K O l vs) (h : ∀ I, Q (.ref I) K ((I, lit l 0) :: O)) : W C n K O (pyIter (.ref l)) Q :=
  fun A hA s S => wpAny_pyIter_list (hl s S) ⟨K, _, S.push (x := lit l 0) rfl ⟨rfl, rfl⟩, h _⟩
theorem W_nextList {it l : Addr} {i : Nat} {vs : List Value} {v : Value} {Q : Option Value → KH → OL → Prop} (u : Upd O it (lit l i) (lit l (i + 1)) O') (hl : LstAt C K O l vs) (hx : vs[i]? = some v)
    (h : Q (some v) K O') : W C n K O (pyNext (.ref it)) Q := fun A hA s S =>
  wpAny_pyNext_list_item (let ⟨o, ho, hc, hd⟩ := S.own _ u.mem; ⟨o, ho, hc, hd⟩) (hl s S) (by simpa using hx) fun h' hi hs => ⟨K, O', S.upd u hs.extBut hi, h⟩
theorem W_nextListEnd {it l : Addr} {i : Nat} {vs : List Value} {Q : Option Value → KH → OL → Prop} (u : Del O it (lit l i) O') (hl : LstAt C K O l vs) (hx : vs[i]? = none)
    (h : Q none K O') : W C n K O (pyNext (.ref it)) Q := fun A hA s S =>
  wpAny_pyNext_list_end hA.handled (let ⟨o, ho, hc, hd⟩ := S.own _ u.mem; ⟨o, ho, hc, hd⟩) (hl s S) (by simpa using hx) fun h' hs => ⟨K, O', S.del u hs, h⟩

theorem W_range1 {i : Int} {t : Tok} {Q : Value → KH → OL → Prop} (h : ∀ a t₁ t₂, Q (.ref a) K ((a, rng 0 i 1 t₁ t t₂) :: O)) : W C n K O (call (.type "range") [.int i t]) Q :=
  fun A hA s S => call_range_1 ⟨K, _, S.push rfl rel_ex, h _ _ _⟩
theorem W_range2 {i j : Int} {t u : Tok} {Q : Value → KH → OL → Prop} (h : ∀ a t₂, Q (.ref a) K ((a, rng i j 1 t u t₂) :: O)) : W C n K O (call (.type "range") [.int i t, .int j u]) Q :=
  fun A hA s S => call_range_2 ⟨K, _, S.push rfl rel_ex, h _ _⟩
theorem W_iterRange {r : Addr} {a b c : Int} {t u v : Tok} {Q : Value → KH → OL → Prop} (d : Del O r (rng a b c t u v) O') (hs : Builtin.Range.small a b c = true) (h : ∀ I, Q (.ref I) K ((I, rit a (Builtin.Range.rangeSize a b c) c) :: O')) : W C n K O (pyIter (.ref r)) Q :=
  fun A hA s S => wpAny_pyIter_range (At.ex (S.own _ d.mem)) hs ⟨K, _, (S.sub d.sub).push rfl rel_ex, h _⟩
theorem W_nextRange {it : Addr} {y left step : Int} {Q : Option Value → KH → OL → Prop} (u : Upd O it (rit y left step) (rit (y + step) (left - 1) step) O') (hl : 0 < left)
    (h : ∀ t, Q (some (.int y t)) K O') : W C n K O (pyNext (.ref it)) Q :=
  fun A hA s S => wpAny_pyNext_range_item (At.ex (S.own _ u.mem)) hl fun h' hi hs => ⟨K, O', S.upd u hs.extBut (At.ex_of hi), h _⟩
theorem W_nextRangeEnd {it : Addr} {y left step : Int} {Q : Option Value → KH → OL → Prop} (u : Del O it (rit y left step) O') (hl : left ≤ 0) (h : Q none K O') : W C n K O (pyNext (.ref it)) Q :=
  fun A hA s S => wpAny_pyNext_range_end hA.handled (At.ex (S.own _ u.mem)) hl fun h' hs => ⟨K, O', S.del u hs, h⟩

theorem W_iterStr {y : Str} {t : Tok} {Q : Value → KH → OL → Prop} (h : ∀ I, Q (.ref I) K ((I, sit y t 0) :: O)) : W C n K O (pyIter (.str y t)) Q :=
  fun A hA s S => wpAny_pyIter_strU ⟨K, _, S.push (x := sit y t 0) rfl ⟨rfl, rfl⟩, h _⟩
theorem W_nextStr {it : Addr} {y : Str} {t : Tok} {i c : Nat} {Q : Option Value → KH → OL → Prop} (u : Upd O it (sit y t i) (sit y t (i + 1)) O') (hx : y.cps[i]? = some c)
    (h : ∀ t, Q (some (.str ⟨#[c]⟩ t)) K O') : W C n K O (pyNext (.ref it)) Q := fun A hA s S => by
  have hi : s.heap.IsStrIter it (strIterType y) y t i := let ⟨o, ho, hc, hd⟩ := S.own _ u.mem; ⟨o, ho, hc, hd⟩
  unfold strIterType at hi
  have hS : ∀ h' tk, h'.IsStrIter it (strIterType y) y t (i + 1) → Heap.SameBut it s.heap h' → Sat C K O' { s with heap := h', toks := tk } := fun h' tk hi hs => S.upd u hs.extBut hi
  unfold strIterType at hS
  cases ha : y.cps.all (· < 128)
  · rw [ha] at hi hS; exact wpAny_pyNext_wide_item hi hx fun h' hi hs => ⟨K, O', hS _ _ hi hs, h _⟩
  · rw [ha] at hi hS; exact wpAny_pyNext_ascii_item hi hx fun h' hi hs => ⟨K, O', hS _ _ hi hs, h _⟩
theorem W_nextStrEnd {it : Addr} {y : Str} {t : Tok} {i : Nat} {Q : Option Value → KH → OL → Prop} (u : Del O it (sit y t i) O') (hx : y.cps[i]? = none)
    (h : Q none K O') : W C n K O (pyNext (.ref it)) Q := fun A hA s S => by
  have hi : s.heap.IsStrIter it (strIterType y) y t i := let ⟨o, ho, hc, hd⟩ := S.own _ u.mem; ⟨o, ho, hc, hd⟩
  unfold strIterType at hi
  cases ha : y.cps.all (· < 128)
  · rw [ha] at hi; exact wpAny_pyNext_wide_end hA.handled hi hx fun h' hs => ⟨K, O', S.del u hs, h⟩
  · rw [ha] at hi; exact wpAny_pyNext_ascii_end hA.handled hi hx fun h' hs => ⟨K, O', S.del u hs, h⟩

theorem W_ownedName {y : Str} {p : Pos} {it v : Value} {Q : Unit → KH → OL → Prop} (h : Q () K O) : W C n K O (letOwnedTupleGo (.Name y p) it v) Q := W_pure h
theorem W_ownedList {elts : List Expr} {k : Nat} {I l T : Addr} {i : Nat} {Q : Unit → KH → OL → Prop} (hm : (I, lit l i) ∈ O) (h : Q () K O) : W C n K O (letOwnedTupleGo (.Tuple elts k pos) (.ref I) (.ref T)) Q :=
  fun A hA s S => wpAny_letOwnedTupleGo_listiter (let ⟨o, ho, hc, hd⟩ := S.own _ hm; ⟨o, ho, hc, hd⟩) ⟨K, O, S, h⟩

/- ints -/
variable {a b : Int} {t u : Tok}
theorem W_add {Q : Value → KH → OL → Prop} (h : ∀ t, Q (.int (a + b) t) K O) : W C n K O (binaryOp .Add (.int a t) (.int b u)) Q := fun A hA s S => wpAny_add_int ⟨K, O, S.toks, h _⟩
theorem W_sub' {Q : Value → KH → OL → Prop} (h : ∀ t, Q (.int (a - b) t) K O) : W C n K O (binaryOp .Sub (.int a t) (.int b u)) Q := fun A hA s S => PySem.P.sub_int ⟨K, O, S.toks, h _⟩
theorem W_mul {Q : Value → KH → OL → Prop} (hm : IntMulOk a b) (h : ∀ t, Q (.int (a * b) t) K O) : W C n K O (binaryOp .Mult (.int a t) (.int b u)) Q := fun A hA s S => PySem.P.mul_int ⟨K, O, S.toks, h _⟩ hm
theorem W_fdiv {Q : Value → KH → OL → Prop} (hb : b ≠ 0) (hs : b.natAbs < 1073741824) (h : ∀ t, Q (.int (a.fdiv b) t) K O) : W C n K O (binaryOp .FloorDiv (.int a t) (.int b u)) Q :=
  fun A hA s S => PyProof.Rows.floordiv_int hb ⟨K, O, S.toks, h _⟩ (.inl (PyProof.noPylong_small hs))
theorem W_neg {Q : Value → KH → OL → Prop} (h : ∀ t, Q (.int (-a) t) K O) : W C n K O (unaryOp .USub (.int a t)) Q := fun A hA s S => PySem.P.neg_int ⟨K, O, S.toks, h _⟩
theorem W_eq' {Q : Value → KH → OL → Prop} (h : Q (.bool (a == b)) K O) : W C n K O (compareOp .Eq (.int a t) (.int b u)) Q := fun A hA s S => PySem.P.eq_int ⟨K, O, S, h⟩
theorem W_ne {Q : Value → KH → OL → Prop} (h : Q (.bool (a != b)) K O) : W C n K O (compareOp .NotEq (.int a t) (.int b u)) Q := fun A hA s S => PySem.P.ne_int ⟨K, O, S, h⟩
theorem W_lt {Q : Value → KH → OL → Prop} (h : Q (.bool (decide (a < b))) K O) : W C n K O (compareOp .Lt (.int a t) (.int b u)) Q := fun A hA s S => PySem.P.lt_int ⟨K, O, S, h⟩
theorem W_le {Q : Value → KH → OL → Prop} (h : Q (.bool (decide (a ≤ b))) K O) : W C n K O (compareOp .LtE (.int a t) (.int b u)) Q := fun A hA s S => PySem.P.le_int ⟨K, O, S, h⟩
theorem W_ge {Q : Value → KH → OL → Prop} (h : Q (.bool (decide (a ≥ b))) K O) : W C n K O (compareOp .GtE (.int a t) (.int b u)) Q := fun A hA s S => PySem.P.ge_int ⟨K, O, S, h⟩

theorem mulOk_small {a b : Int} (h : -(2 ^ 62) ≤ a) (h' : a ≤ 2 ^ 62) : IntMulOk a b := by
  refine IntMulOk.of_left ?_
  exact intBits_le_64 (by omega) (by omega)

/- lists -/
variable {l l' : Addr} {vs ws : List Value} {v : Value}
theorem W_item {k : Int} {Q : Value → KH → OL → Prop} (hl : LstAt C K O l vs) (h0 : 0 ≤ k) (hf : k < 2 ^ 63) (hx : vs[k.toNat]? = some v) (h : Q v K O) : W C n K O (getItem (.ref l) (.int k t)) Q :=
  fun A hA s S => wpAny_getItem_list (hl s S) h0 hf (by simpa using hx) ⟨K, O, S, h⟩
theorem W_itemNeg {k : Int} {Q : Value → KH → OL → Prop} (hl : LstAt C K O l vs) (h0 : k < 0) (h1 : -(vs.length : Int) ≤ k) (hf : -(2 ^ 63) ≤ k) (hx : vs[(k + vs.length).toNat]? = some v) (h : Q v K O) : W C n K O (getItem (.ref l) (.int k t)) Q :=
  fun A hA s S => wpAny_getItem_list_neg (hl s S) h0 (by simpa using h1) hf (by simpa using hx) ⟨K, O, S, h⟩
theorem W_append {Q : Value → KH → OL → Prop} (u : Upd O l (.list vs) (.list (vs ++ [v])) O') (hz : vs.length ≤ sizeLine) (h : Q .none K O') : W C n K O (call (.builtin "list.append") [.ref l, v]) Q :=
  fun A hA s S => wpAny_list_append_plain (At.list (S.own _ u.mem)) (fun h' hi hs => ⟨K, O', S.upd u hs.extBut (At.list_of (by simpa using hi)), h⟩) (by simpa using hz)
theorem W_setItem {k : Int} {Q : Unit → KH → OL → Prop} (u : Upd O l (.ilist vs) (.ilist (vs.set k.toNat v)) O') (h0 : 0 ≤ k) (hf : k < 2 ^ 63) (hx : k < vs.length) (h : Q () K O') : W C n K O (setItem (.ref l) (.int k t) v) Q :=
  fun A hA s S => wpAny_setItem_list (let ⟨o, ho, hc, n, hd⟩ := S.own _ u.mem; ⟨o, ho, hc, n, hd⟩) h0 hf (by simpa using hx) fun h' hi hs => ⟨K, O', S.upd u hs.extBut (by
    obtain ⟨o, ho, hc, m, hd⟩ := hi
    exact ⟨o, ho, hc, m, by rw [hd]; simp⟩), h⟩
theorem Sat.ilist {s : Shared} (S : Sat C K O s) (u : Upd O l (.list vs) (.ilist vs) O') : Sat C K O' s :=
  S.upd (h' := s.heap) (tk := s.toks) (dr := s.drawn) u (fun _ _ _ e => e) (let ⟨o, ho, hc⟩ := S.own _ u.mem; by obtain ⟨m, rfl⟩ := hc; exact ⟨_, ho, rfl, m, rfl⟩)
theorem W_ilist {α : Type} {tr : Sem α} {Q : α → KH → OL → Prop} (u : Upd O l (.list vs) (.ilist vs) O') (h : W C n K O' tr Q) : W C n K O tr Q := fun A hA s S => h A hA s (S.ilist u)

theorem keeper_builtin (id : String) : keeperOf (.builtin id) = pure .machine := rfl
theorem keeper_type (id : String) : keeperOf (.type id) = pure .machine := rfl

theorem W_CallMethod {e : Expr} {name : Str} {apos : Pos} {args : List Expr} {T id : String} {Q : Value → KH → OL → Prop} (pa : PlainAttrs T) (slot : Slot T name id) (hty : typeOf (.builtin id) = pure (.type "method_descriptor"))
    (h : W C n K O (eval e env) fun ov K O => TyIs C K O ov T ∧ (∀ s, Sat C K O s → ∀ a, ov = .ref a → ∃ ob, s.heap.get? a = some ob ∧ ob.dict = none) ∧
      W C n K O (evalArgs (.builtin id) true (backTo pos (starEach args env)) []) fun x K O => W C n K O (call (.builtin id) ([ov] ++ x.pos) x.kw) Q)
    (hbase : attributeBase e name env (eval e env) = eval e env := by rfl)
    (hfew : ((backTo pos (starEach args env)).all (fun x => !x.1) && (backToKw pos (keywordEach [] env)).all (fun x => x.1.isSome)
      && decide (args.length + ([] : List Keyword).length + (if ([] : List Keyword).isEmpty then 0 else 1) < 30)) = true := by rfl)
    (hline : (apos.endLine == pos.line) = true := by rfl) (hplain : (backTo pos (starEach args env)).any (·.1) = false := by rfl) : W C n K O (eval (.Call (.Attribute e name apos) args [] pos) env) Q :=
  fun A hA s S => wpAny_Call_method hbase hfew hline pa slot hty (h.to hA S fun ov s' K' O' S' q => ⟨q.1 s' S', q.2.1 s' S', W_callWithB hplain (keeper_builtin _) q.2.2 A hA s' S'⟩)

theorem noDict_list {ov : Value} (ho : ov = .ref l) (hl : Has C K O l (.list vs)) : ∀ s, Sat C K O s → ∀ a, ov = .ref a → ∃ ob, s.heap.get? a = some ob ∧ ob.dict = none := fun s S a e => by
  subst ho; cases e
  obtain ⟨o, ho, m, rfl⟩ := S.has hl
  exact ⟨_, ho, rfl⟩

theorem W_listAdd {Q : Value → KH → OL → Prop} (hl : LstAt C K O l vs) (hm : LstAt C K O l' ws) (hz : vs.length + ws.length ≤ sizeLine) (h : ∀ a, Q (.ref a) K ((a, .list (vs ++ ws)) :: O)) :
    W C n K O (binaryOp .Add (.ref l) (.ref l')) Q := fun A hA s S => by
  obtain ⟨⟨cls, dd, data, sl⟩, ho, hc, n, hd⟩ := hl s S
  obtain ⟨⟨cls2, dd2, data2, sl2⟩, ho2, hc2, n2, hd2⟩ := hm s S
  simp only at hc hd hc2 hd2
  subst hc hd hc2 hd2
  have e : vs.toArray ++ ws.toArray = (vs ++ ws).toArray := by simp
  refine concat_meets ⟨_, ho, rfl⟩ ⟨_, ho2, rfl⟩ noFill_list_add seq_list_add PySem.F.slot_list_add PySem.F.entry_list_add (PySem.F.args_list_add_2 _ _) (list_addW l l' vs.toArray ws.toArray n n2 dd dd2 sl sl2 (by simpa using hz)) ⟨ho, ho2, ?_⟩
  rw [e]
  exact ⟨K, _, S.push rfl (rel_list (n := 0)), h _⟩

theorem W_neInts {xs ys : List Int} {Q : Value → KH → OL → Prop} (hn : n ≤ 390) (hl : LstAt C K O l vs) (hm : LstAt C K O l' ws) (hi : IntsAre vs xs) (hj : IntsAre ws ys) (h : Q (.bool (!decide (xs = ys))) K O) :
    W C n K O (compareOp .NotEq (.ref l) (.ref l')) Q := fun A hA s S => ke_ne_ints (hl s S) (hm s S) hi hj (by have := hA.units; show A.units + 64 < 9900; omega) ⟨K, O, S, h⟩
end
end Mine
end
section
open PySem PySem.W PySem.Calls PyProof.Rows
set_option Elab.async false
set_option linter.unusedVariables false
set_option linter.unusedSectionVars false
namespace Mine
section
variable {α β : Type} {C : WC} {n : Nat} {K : KH} {O O' : OL} {env : Env} {x : Str} {pos : Pos}

theorem backTo_cons {t : Sem Value} {rest : List (Bool × Sem Value)} : backTo pos ((false, t) :: rest) = (false, t) :: backTo pos rest := rfl
theorem W_args_nil {Q : List Value → KH → OL → Prop} (h : Q [] K O) : W C n K O (spliced (backTo pos (starEach [] env))) Q := W_pure h
theorem W_args_cons {e : Expr} {rest : List Expr} {Q : List Value → KH → OL → Prop}
    (h : W C n K O (eval e env) (ArgK C n pos rest env Q))
    (he : starEach (e :: rest) env = (false, eval e env) :: starEach rest env := by rfl) : W C n K O (spliced (backTo pos (starEach (e :: rest) env))) Q := by
  rw [he, backTo_cons]; exact W_spliced_cons h

theorem W_callB {f : Value} {e : Expr} {rest : List Expr} {Q : Value → KH → OL → Prop} (hf : keeperOf f = pure .machine)
    (h : W C n K O (spliced (backTo pos (starEach (e :: rest) env))) (CallVs C n f Q))
    (he : starEach (e :: rest) env = (false, eval e env) :: starEach rest env := by rfl) (hp : (backTo pos (starEach (e :: rest) env)).any (·.1) = false := by rfl) :
    W C n K O (callWith pos f [] (backTo pos (starEach (e :: rest) env)) (backToKw pos (keywordEach [] env))) Q := by
  refine W_callWithB hp hf ?_
  rw [he, backTo_cons] at h ⊢
  exact W_evalArgs rfl (W_mono h fun vs K O h => W_evalAll_nil h)
theorem W_callM {f ov : Value} {e : Expr} {rest : List Expr} {Q : Value → KH → OL → Prop}
    (h : W C n K O (spliced (backTo pos (starEach (e :: rest) env))) (CallMs C n f ov Q))
    (he : starEach (e :: rest) env = (false, eval e env) :: starEach rest env := by rfl) :
    W C n K O (evalArgs f true (backTo pos (starEach (e :: rest) env)) []) fun x K O => W C n K O (call f ([ov] ++ x.pos) x.kw) Q := by
  rw [he, backTo_cons] at h ⊢
  exact W_evalArgs rfl (W_mono h fun vs K O h => W_evalAll_nil h)
abbrev FnVs (C : WC) (n : Nat) (a : Addr) (fd : FuncData) (Q : Value → KH → OL → Prop) (vs : List Value) (K : KH) (O : OL) : Prop := FnAt C K O a fd ∧ W C n K O (call (.ref a) vs []) Q
theorem W_callF {a : Addr} {fd : FuncData} {e : Expr} {rest : List Expr} {Q : Value → KH → OL → Prop}
    (h : W C n K O (spliced (backTo pos (starEach (e :: rest) env))) (FnVs C n a fd Q))
    (he : starEach (e :: rest) env = (false, eval e env) :: starEach rest env := by rfl) :
    W C n K O (callWith pos (.ref a) [] (backTo pos (starEach (e :: rest) env)) (backToKw pos (keywordEach [] env))) Q := by
  refine W_callWithFn (fd := fd) ?_
  rw [he, backTo_cons] at h ⊢
  exact W_evalArgs rfl (W_mono h fun vs K O h => W_evalAll_nil h)
theorem W_callF0 {a : Addr} {fd : FuncData} {Q : Value → KH → OL → Prop} (hf : FnAt C K O a fd) (h : W C n K O (call (.ref a) [] []) Q) :
    W C n K O (callWith pos (.ref a) [] (backTo pos (starEach [] env)) (backToKw pos (keywordEach [] env))) Q :=
  W_callWithFn (fd := fd) (W_evalArgs0 ⟨hf, h⟩)
theorem W_callFkw {a : Addr} {fd : FuncData} {e ke : Expr} {rest : List Expr} {kn : Str} {kp : Pos} {Q : Value → KH → OL → Prop}
    (h : W C n K O (spliced (backTo pos (starEach (e :: rest) env))) fun vs K O => W C n K O (eval ke env) fun kv K O => FnAt C K O a fd ∧ W C n K O (call (.ref a) vs [(kn, kv)]) Q)
    (he : starEach (e :: rest) env = (false, eval e env) :: starEach rest env := by rfl) :
    W C n K O (callWith pos (.ref a) [] (backTo pos (starEach (e :: rest) env)) (backToKw pos (keywordEach [⟨some kn, ke, kp⟩] env))) Q := by
  refine W_callWithFn (fd := fd) ?_
  rw [he, backTo_cons] at h ⊢
  refine W_evalArgs rfl (W_mono h fun vs K O h => ?_)
  exact W_evalAll_cons (W_bind (W_mono h fun v K O h => W_bind (W_standAt (W_pure (W_evalAll_nil h)))))
end
end Mine
end
section
open PySem PySem.W PySem.Calls PyProof.Rows
set_option Elab.async false
set_option linter.unusedVariables false
set_option linter.unusedSectionVars false
namespace Mine
section
variable {α β : Type} {C : WC} {n : Nat} {K : KH} {O O' : OL} {env : Env} {x : Str} {pos : Pos}

/-- what a turn of a for gives back -/
def TurnOk (I : KH → OL → Prop) (it : Addr) (st : AO) (R : Flow → KH → OL → Prop) (f : Flow) (K : KH) (O : OL) : Prop :=
  match f with
  | .next | .cont => ∃ O₃, ((it, st) :: O₃).Sublist O ∧ I K O₃
  | .brk => ∃ O₃, O₃.Sublist O ∧ R .next K O₃
  | .ret v => ∃ O₃, O₃.Sublist O ∧ R (.ret v) K O₃

abbrev TurnJ (I : Nat → KH → OL → Prop) (j : Nat) (it : Addr) (st : AO) (R : Flow → KH → OL → Prop) (f : Flow) (K : KH) (O : OL) : Prop := TurnOk (I j) it st R f K O

theorem WCd_forGen {target : Expr} {it : Addr} {body : List Stmt} {R : Flow → KH → OL → Prop} (N : Nat) (st : Nat → AO) (I : Nat → KH → OL → Prop)
    (next : ∀ j K O, j ≤ N → I j K O → W C n K ((it, st j) :: O) (pyNext (.ref it)) fun r K' O' =>
      (j < N ∧ ∃ v, r = some v ∧ W C n K' O' (letOwnedTupleGo target (.ref it) v) fun _ K' O' => W C n K' O' (assign target env v) fun _ K' O' => W C n K' O' (execs body env) (TurnOk (I (j + 1)) it (st (j + 1)) R)) ∨
      (r = none ∧ R .next K' O'))
    (h : I 0 K O) : WCd C n K ((it, st 0) :: O) (.forLoop target (.ref it) body [] env) R := by
  refine WCd_for (fun m K O => ∃ j O₀, m = N - j ∧ j ≤ N ∧ O = (it, st j) :: O₀ ∧ I j K O₀) ?_ N ⟨0, O, rfl, Nat.zero_le _, rfl, h⟩
  rintro m K O ⟨j, O₀, rfl, hj, rfl, hI⟩
  refine W_mono (next j K O₀ hj hI) fun r K' O' hr => ?_
  rcases hr with ⟨hlt, v, rfl, hw⟩ | ⟨rfl, hR⟩
  · refine W_mono hw fun _ K' O' hw => W_mono hw fun _ K' O' hw => W_weak (W_mono hw fun f K' O' hf => ?_)
    cases f with
    | next => obtain ⟨O₃, hs, hi⟩ := hf; exact ⟨_, hs, N - (j + 1), by omega, j + 1, O₃, rfl, hlt, rfl, hi⟩
    | cont => obtain ⟨O₃, hs, hi⟩ := hf; exact ⟨_, hs, N - (j + 1), by omega, j + 1, O₃, rfl, hlt, rfl, hi⟩
    | brk => exact hf
    | ret v => exact hf
  · exact hR

def ritAt (a c : Int) (N j : Nat) : AO := rit (a + c * j) ((N : Int) - j) c
theorem WCd_forRange {y : Str} {p : Pos} {it : Addr} {body : List Stmt} {R : Flow → KH → OL → Prop} (a c : Int) (N : Nat) (I : Nat → KH → OL → Prop)
    (turn : ∀ j K O st, j < N → I j K O → ∀ t, W C n K ((it, st) :: O) (storeName env y (.int (a + c * j) t)) (K0 C n (execs body env) (TurnJ I (j + 1) it st R)))
    (done : ∀ K O, I N K O → R .next K O) (h : I 0 K O) : WCd C n K ((it, rit a N c) :: O) (.forLoop (.Name y p) (.ref it) body [] env) R := by
  have e : rit a N c = ritAt a c N 0 := by simp [ritAt]
  rw [e]
  refine WCd_forGen N (ritAt a c N) I (fun j K O hj hI => ?_) h
  rcases Nat.lt_or_ge j N with hlt | hge
  · have e1 : a + c * (j : Int) + c = a + c * ((j + 1 : Nat) : Int) := by rw [show ((j + 1 : Nat) : Int) = (j : Int) + 1 by omega, Int.mul_add, Int.mul_one, Int.add_assoc]
    have e2 : (N : Int) - j - 1 = (N : Int) - ((j + 1 : Nat) : Int) := by omega
    refine W_nextRange (y := a + c * (j : Int)) (left := (N : Int) - j) (step := c) (O' := (it, ritAt a c N (j + 1)) :: O) (by unfold ritAt; rw [← e1, ← e2]; exact Upd.here) (by omega) fun t => .inl ⟨hlt, _, rfl, ?_⟩
    exact W_ownedName (W_assignName (turn j K O _ hlt hI t))
  · have : j = N := by omega
    subst this
    exact W_nextRangeEnd .here (by omega) (.inr ⟨rfl, done _ _ hI⟩)

theorem WCd_forList {y : Str} {p : Pos} {it l : Addr} {vs : List Value} {body : List Stmt} {R : Flow → KH → OL → Prop} (I : Nat → KH → OL → Prop)
    (hl : ∀ j K O st, I j K O → LstAt C K ((it, st) :: O) l vs)
    (turn : ∀ j K O st v, vs[j]? = some v → I j K O → W C n K ((it, st) :: O) (storeName env y v) (K0 C n (execs body env) (TurnJ I (j + 1) it st R)))
    (done : ∀ K O, I vs.length K O → R .next K O) (h : I 0 K O) : WCd C n K ((it, lit l 0) :: O) (.forLoop (.Name y p) (.ref it) body [] env) R := by
  refine WCd_forGen vs.length (fun j => lit l j) I (fun j K O hj hI => ?_) h
  rcases Nat.lt_or_ge j vs.length with hlt | hge
  · have hx := List.getElem?_eq_getElem hlt
    exact W_nextList .here (hl j K O _ hI) hx (.inl ⟨hlt, _, rfl, W_ownedName (W_assignName (turn j K O _ _ hx hI))⟩)
  · have : j = vs.length := by omega
    subst this
    exact W_nextListEnd .here (hl _ K O _ hI) (by simp) (.inr ⟨rfl, done _ _ hI⟩)

theorem WCd_forStr {y : Str} {p : Pos} {it : Addr} {z : Str} {tz : Tok} {body : List Stmt} {R : Flow → KH → OL → Prop} (I : Nat → KH → OL → Prop)
    (turn : ∀ j K O st c, z.cps[j]? = some c → I j K O → ∀ t, W C n K ((it, st) :: O) (storeName env y (.str ⟨#[c]⟩ t)) (K0 C n (execs body env) (TurnJ I (j + 1) it st R)))
    (done : ∀ K O, I z.cps.size K O → R .next K O) (h : I 0 K O) : WCd C n K ((it, sit z tz 0) :: O) (.forLoop (.Name y p) (.ref it) body [] env) R := by
  refine WCd_forGen z.cps.size (fun j => sit z tz j) I (fun j K O hj hI => ?_) h
  rcases Nat.lt_or_ge j z.cps.size with hlt | hge
  · have hx := Array.getElem?_eq_getElem hlt
    exact W_nextStr .here hx fun t => .inl ⟨hlt, _, rfl, W_ownedName (W_assignName (turn j K O _ _ hx hI t))⟩
  · have : j = z.cps.size := by omega
    subst this
    exact W_nextStrEnd .here (by simp) (.inr ⟨rfl, done _ _ hI⟩)

/- comprehensions -/
theorem W_iterListiter {it l : Addr} {i : Nat} {Q : Value → KH → OL → Prop} (hm : (it, lit l i) ∈ O) (h : Q (.ref it) K O) : W C n K O (pyIter (.ref it)) Q :=
  fun A hA s S => wpAny_pyIter_listiter (let ⟨o, ho, hc, hd⟩ := S.own _ hm; ⟨o, ho, hc, hd⟩) ⟨K, O, S, h⟩
theorem W_iterRangeiter {it : Addr} {a l c : Int} {Q : Value → KH → OL → Prop} (hm : (it, rit a l c) ∈ O) (h : Q (.ref it) K O) : W C n K O (pyIter (.ref it)) Q :=
  fun A hA s S => wpAny_pyIter_rangeiter (At.ex (S.own _ hm)) ⟨K, O, S, h⟩

theorem WCd_compStart {elt : Expr} {gens : List Comprehension} {scope : Scope} {d : Nat} {it acc : Value} {g : Comprehension} {R : Flow → KH → OL → Prop} (hg : gens[d]? = some g) (ha : g.is_async = 0)
    (h0 : WCd C n K O (.compLoop (.ListComp elt gens scope pos) d it acc env) R)
    (h : W C n K O (pyIter it) fun it' K' O' => WCd C n K' O' (.compLoop (.ListComp elt gens scope pos) d it' acc env) R) :
    WCd C n K O (.compStart (.ListComp elt gens scope pos) d it acc env) R := fun A hA s S => by
  refine codeAny_of_tree ?_
  show wpAny _ A ((compStart (.ListComp elt gens scope pos) d it acc env).onRaise (fun x => do noteFrame x env; standAt theWindowsPlace)) _ _ s
  refine wpAny_notedAt (wp_noFail ?_)
  unfold compStart
  have e : clausesOf (.ListComp elt gens scope pos) = gens := rfl
  simp only [e, hg, Option.elim_some, ha, bne_self_eq_false, Bool.false_eq_true, if_false]
  refine wpAny_bind (wpAny_askSetting (wpAny_ite ?_))
  split
  · exact wpAny_bind (wpAny_pure (wpAny_pure (And.intro rfl (h0 A hA s S))))
  · refine wpAny_bind (wpAny_rule ?_)
    refine wpAny_bind (wpAny_standAt ?_)
    exact wpAny_bind (h.to hA S fun it' s' K' O' S' q => wpAny_pure (And.intro rfl (q A hA s' S')))

theorem WCd_compLoop {elt target iter : Expr} {ifs : List Expr} {scope : Scope} {it acc : Value} {R : Flow → KH → OL → Prop} (I : Nat → KH → OL → Prop)
    (turn : ∀ j K O, I j K O → W C n K O (pyNext it) fun r K O => match r with
      | none => R .next K O
      | some v => W C n K O (letOwnedTupleGo target it v) fun _ K O => W C n K O (assign target env v) fun _ K O =>
        W C n K O (forIn ifs true fun c r => if r = true then do let ok ← isTrue c env (eval c env); pure (ForInStep.yield ok) else pure (ForInStep.yield r)) fun ok K O =>
          if ok = true then W C n K O (eval elt env) fun y K O => W C n K O (call (.builtin "list.append") [acc, y]) fun _ K O => ∃ i, i < j ∧ I i K O
          else ∃ i, i < j ∧ I i K O)
    (j : Nat) (h : I j K O) : WCd C n K O (.compLoop (.ListComp elt [⟨target, iter, ifs, 0⟩] scope pos) 0 it acc env) R := fun A hA s S => by
  refine codeAny_loop rfl (fun j s => ∃ K' O', Sat C K' O' s ∧ I j K' O') (fun j s hI => ?_) j ⟨K, O, S, h⟩
  obtain ⟨K', O', S', hI⟩ := hI
  show wpAny _ A ((compTurn (.ListComp elt [⟨target, iter, ifs, 0⟩] scope pos) 0 it acc env).onRaise (fun x => do noteFrame x env; theTreesLotGoes x)) _ _ s
  refine wpAny_noted (wp_noFail ?_)
  rw [compTurn_list]
  refine wpAny_bind (wpAny_standAt (wpAny_bind ((turn j K' O' hI).to hA S' fun r s' K' O' S' q => ?_)))
  cases r with
  | none => exact wpAny_pure ⟨K', O', S', q⟩
  | some v =>
    refine wpAny_bind (W.to q hA S' fun _ s' K' O' S' q => wpAny_bind (W.to q hA S' fun _ s' K' O' S' q => wpAny_bind (W.to q hA S' fun ok s' K' O' S' q => ?_)))
    cases ok with
    | false => exact wpAny_pure ⟨rfl, (let ⟨i, hi, q⟩ := q; ⟨i, hi, K', O', S', q⟩)⟩
    | true => exact wpAny_bind (wpAny_bind (W.to q hA S' fun y s' K' O' S' q => wpAny_bind (W.to q hA S' fun _ s' K' O' S' q => wpAny_pure (wpAny_pure ⟨rfl, (let ⟨i, hi, q⟩ := q; ⟨i, hi, K', O', S', q⟩)⟩))))

theorem compTurn_two0 (elt t1 i1 t2 i2 : Expr) (ifs : List Expr) (scope : Scope) (pos : Pos) (it acc : Value) (env : Env) :
    compTurn (.ListComp elt [⟨t1, i1, [], 0⟩, ⟨t2, i2, ifs, 0⟩] scope pos) 0 it acc env = (standAt i1.pos >>= fun _ => pyNext it >>= fun r => match r with
      | none => pure (.done .next)
      | some v => letOwnedTupleGo t1 it v >>= fun _ => assign t1 env v >>= fun _ =>
        eval i2 env >>= fun x => standAt i2.pos >>= fun _ => foldedSetIterable i2 env x >>= fun x => holding [x] (pyIter x) >>= fun it2 =>
          runOwn (.compStart (.ListComp elt [⟨t1, i1, [], 0⟩, ⟨t2, i2, ifs, 0⟩] scope pos) 1 it2 acc env) env >>= fun _ =>
          again (.compLoop (.ListComp elt [⟨t1, i1, [], 0⟩, ⟨t2, i2, ifs, 0⟩] scope pos) 0 it acc env)) := by rfl
theorem compTurn_two1 (elt t1 i1 t2 i2 : Expr) (scope : Scope) (pos : Pos) (it acc : Value) (env : Env) :
    compTurn (.ListComp elt [⟨t1, i1, [], 0⟩, ⟨t2, i2, [], 0⟩] scope pos) 1 it acc env = (standAt i2.pos >>= fun _ => pyNext it >>= fun r => match r with
      | none => pure (.done .next)
      | some v => letOwnedTupleGo t2 it v >>= fun _ => assign t2 env v >>= fun _ =>
        (eval elt env >>= fun x => call (.builtin "list.append") [acc, x] >>= fun _ => pure ()) >>= fun _ =>
          again (.compLoop (.ListComp elt [⟨t1, i1, [], 0⟩, ⟨t2, i2, [], 0⟩] scope pos) 1 it acc env)) := by rfl
theorem WCd_compTwo0 {elt t1 i1 t2 i2 : Expr} {scope : Scope} {it acc : Value} {R : Flow → KH → OL → Prop} (I : Nat → KH → OL → Prop)
    (turn : ∀ j K O, I j K O → W C n K O (pyNext it) fun r K O => match r with
      | none => R .next K O
      | some v => W C n K O (letOwnedTupleGo t1 it v) fun _ K O => W C n K O (assign t1 env v) fun _ K O => W C n K O (eval i2 env) fun x K O => W C n K O (pyIter x) fun it2 K O =>
          WCd C n K O (.compStart (.ListComp elt [⟨t1, i1, [], 0⟩, ⟨t2, i2, [], 0⟩] scope pos) 1 it2 acc env) fun _ K O => ∃ i, i < j ∧ I i K O)
    (j : Nat) (h : I j K O) (hs : ∀ x, foldedSetIterable i2 env x = pure x := by intro _; rfl) : WCd C n K O (.compLoop (.ListComp elt [⟨t1, i1, [], 0⟩, ⟨t2, i2, [], 0⟩] scope pos) 0 it acc env) R := fun A hA s S => by
  refine codeAny_loop rfl (fun j s => ∃ K' O', Sat C K' O' s ∧ I j K' O') (fun j s hI => ?_) j ⟨K, O, S, h⟩
  obtain ⟨K', O', S', hI⟩ := hI
  show wpAny _ A ((compTurn (.ListComp elt [⟨t1, i1, [], 0⟩, ⟨t2, i2, [], 0⟩] scope pos) 0 it acc env).onRaise (fun x => do noteFrame x env; theTreesLotGoes x)) _ _ s
  refine wpAny_noted (wp_noFail ?_)
  rw [compTurn_two0]
  refine wpAny_bind (wpAny_standAt (wpAny_bind ((turn j K' O' hI).to hA S' fun r s' K' O' S' q => ?_)))
  cases r with
  | none => exact wpAny_pure ⟨K', O', S', q⟩
  | some v =>
    refine wpAny_bind (W.to q hA S' fun _ s' K' O' S' q => wpAny_bind (W.to q hA S' fun _ s' K' O' S' q => wpAny_bind (W.to q hA S' fun x s' K' O' S' q => wpAny_bind (wpAny_standAt ?_))))
    rw [hs x]
    refine wpAny_bind (wpAny_pure (wpAny_bind (wpAny_holding (W.to q hA S' fun it2 s' K' O' S' q => wpAny_bind ?_))))
    exact W.to (WCd_run q) hA S' fun f s' K' O' S' q => wpAny_pure ⟨rfl, (let ⟨i, hi, q⟩ := q; ⟨i, hi, K', O', S', q⟩)⟩
theorem WCd_compTwo1 {elt t1 i1 t2 i2 : Expr} {scope : Scope} {it acc : Value} {R : Flow → KH → OL → Prop} (I : Nat → KH → OL → Prop)
    (turn : ∀ j K O, I j K O → W C n K O (pyNext it) fun r K O => match r with
      | none => R .next K O
      | some v => W C n K O (letOwnedTupleGo t2 it v) fun _ K O => W C n K O (assign t2 env v) fun _ K O => W C n K O (eval elt env) fun y K O => W C n K O (call (.builtin "list.append") [acc, y]) fun _ K O => ∃ i, i < j ∧ I i K O)
    (j : Nat) (h : I j K O) : WCd C n K O (.compLoop (.ListComp elt [⟨t1, i1, [], 0⟩, ⟨t2, i2, [], 0⟩] scope pos) 1 it acc env) R := fun A hA s S => by
  refine codeAny_loop rfl (fun j s => ∃ K' O', Sat C K' O' s ∧ I j K' O') (fun j s hI => ?_) j ⟨K, O, S, h⟩
  obtain ⟨K', O', S', hI⟩ := hI
  show wpAny _ A ((compTurn (.ListComp elt [⟨t1, i1, [], 0⟩, ⟨t2, i2, [], 0⟩] scope pos) 1 it acc env).onRaise (fun x => do noteFrame x env; theTreesLotGoes x)) _ _ s
  refine wpAny_noted (wp_noFail ?_)
  rw [compTurn_two1]
  refine wpAny_bind (wpAny_standAt (wpAny_bind ((turn j K' O' hI).to hA S' fun r s' K' O' S' q => ?_)))
  cases r with
  | none => exact wpAny_pure ⟨K', O', S', q⟩
  | some v =>
    refine wpAny_bind (W.to q hA S' fun _ s' K' O' S' q => wpAny_bind (W.to q hA S' fun _ s' K' O' S' q => ?_))
    exact wpAny_bind (wpAny_bind (W.to q hA S' fun y s' K' O' S' q => wpAny_bind (W.to q hA S' fun _ s' K' O' S' q => wpAny_pure (wpAny_pure ⟨rfl, (let ⟨i, hi, q⟩ := q; ⟨i, hi, K', O', S', q⟩)⟩))))

/-- the comprehension: its frame, its list, its loop -/
def ClosOk (scope : Scope) (env : Env) (cl : List (Str × Addr)) : Prop := closureFor scope env = pure cl

theorem W_comp {elt : Expr} {g : Comprehension} {gs : List Comprehension} {scope : Scope} {cl : List (Str × Addr)} {first : Sem Value} {p : Pos} {Q : Value → KH → OL → Prop} (use : Option (Value → Sem Unit))
    (hs : ∀ x, foldedSetIterable g.iter env x = pure x) (hclos : closureFor scope env = pure cl) (hkind : scope.kind = .function) (hnames : ∀ x ∈ scope.names, x.2 = .local → scope.names.lookup x.1 = some .local)
    (h : W C n K O first fun x K O => W C n K O (pyIter x) fun it K O => ∀ D L, LayC scope.names cl ((L, .ns nom) :: (D, .list []) :: O) fun cells O' =>
      WCd C n K O' (.compStart (.ListComp elt (g :: gs) scope pos) 0 it (.ref D) { newEnv scope L env.globals cells env.qual none .none (some env) builtinsNs with scope := relabel scope env }) fun _ K' O' =>
        match use with
        | none => ∃ O₂ O₃ m, O₂.Sublist O' ∧ Del O₂ L (.ns m) O₃ ∧ Q (.ref D) K' O₃
        | some u => W C n K' O' (u (.ref D)) fun _ K' O' => ∃ O₂ O₃ m, O₂.Sublist O' ∧ Del O₂ L (.ns m) O₃ ∧ Q .none K' O₃) :
    W C n K O (comprehension (.ListComp elt (g :: gs) scope pos) scope env p (newList []) false first use) Q := fun A hA s S => by
  refine wpAny_comprehension_free (g := g) (gs := gs) (cl := cl) rfl hs hclos hkind hnames ?_
  refine h.to hA S fun x s₁ K₁ O₁ S₁ h₁ => W.to h₁ hA S₁ fun it s₂ K₂ O₂ S₂ h₂ => ?_
  refine wpAny_newList (items := []) ?_
  refine W.to (n := n) (K := K₂) (O := (s₂.heap.objs.size, .list []) :: O₂) (Q := fun cenv K' O' => WCd C n K' O' (.compStart (.ListComp elt (g :: gs) scope pos) 0 it (.ref s₂.heap.objs.size) { cenv with scope := relabel scope env }) fun _ K' O' =>
        match use with
        | none => ∃ O₂ O₃ m, O₂.Sublist O' ∧ Del O₂ cenv.locals (.ns m) O₃ ∧ Q (.ref s₂.heap.objs.size) K' O₃
        | some u => W C n K' O' (u (.ref s₂.heap.objs.size)) fun _ K' O' => ∃ O₂ O₃ m, O₂.Sublist O' ∧ Del O₂ cenv.locals (.ns m) O₃ ∧ Q .none K' O₃) (W_newEnv fun L => ?_) hA (S₂.push (tk := s₂.toks) (dr := s₂.drawn) rfl (rel_list (n := 0))) fun cenv s₄ K₄ O₄ S₄ h₄ => ?_
  · exact W_newEnv.layC_mono (h₂ _ L) fun cells O' hw => W_binds_nil hw
  · refine codeAny_mono (h₄ A hA s₄ S₄) fun r s' hr => ?_
    cases r with
    | error e => exact hr.elim
    | ok f =>
      obtain ⟨K', O', S', hr⟩ := hr
      cases use with
      | none =>
        obtain ⟨O₂, O₃, m, hsub, hdel, q⟩ := hr
        have S'' := S'.sub hsub
        exact ⟨m, At.ns (S''.own _ hdel.mem), fun h' hs' => ⟨K', O₃, S''.del (tk := s'.toks) (dr := s'.drawn) hdel hs'.extBut, q⟩⟩
      | some u =>
        refine W.to hr hA S' fun _ s' K' O' S' hr => ?_
        obtain ⟨O₂, O₃, m, hsub, hdel, q⟩ := hr
        have S'' := S'.sub hsub
        exact ⟨m, At.ns (S''.own _ hdel.mem), fun h' hs' => ⟨K', O₃, S''.del (tk := s'.toks) (dr := s'.drawn) hdel hs'.extBut, q⟩⟩

theorem W_ListComp {elt target iter : Expr} {ifs : List Expr} {gs : List Comprehension} {scope : Scope} {cl : List (Str × Addr)} {Q : Value → KH → OL → Prop}
    (hclos : closureFor scope env = pure cl) (hkind : scope.kind = .function) (hnames : ∀ x ∈ scope.names, x.2 = .local → scope.names.lookup x.1 = some .local)
    (h : W C n K O (eval iter env) fun x K O => W C n K O (pyIter x) fun it K O => ∀ D L, LayC scope.names cl ((L, .ns nom) :: (D, .list []) :: O) fun cells O' =>
      WCd C n K O' (.compStart (.ListComp elt (⟨target, iter, ifs, 0⟩ :: gs) scope pos) 0 it (.ref D) { newEnv scope L env.globals cells env.qual none .none (some env) builtinsNs with scope := relabel scope env }) fun _ K' O' =>
        ∃ O₂ O₃ m, O₂.Sublist O' ∧ Del O₂ L (.ns m) O₃ ∧ Q (.ref D) K' O₃)
    (hs : ∀ x, foldedSetIterable iter env x = pure x := by intro _; rfl) : W C n K O (eval (.ListComp elt (⟨target, iter, ifs, 0⟩ :: gs) scope pos) env) Q :=
  W_eq (arm_eval_ListComp ..) (W_comp none hs hclos hkind hnames h)

theorem W_AssignComp {elt target iter : Expr} {ifs : List Expr} {gs : List Comprehension} {scope : Scope} {cl : List (Str × Addr)} {y : Str} {py p : Pos} {Q : Flow → KH → OL → Prop}
    (hsw : swapsWith (.ListComp elt (⟨target, iter, ifs, 0⟩ :: gs) scope pos) (some (.Name y py)) p.line env = pure true)
    (hclos : closureFor scope env = pure cl) (hkind : scope.kind = .function) (hnames : ∀ x ∈ scope.names, x.2 = .local → scope.names.lookup x.1 = some .local)
    (h : W C n K O (eval iter env) fun x K O => W C n K O (pyIter x) fun it K O => ∀ D L, LayC scope.names cl ((L, .ns nom) :: (D, .list []) :: O) fun cells O' =>
      WCd C n K O' (.compStart (.ListComp elt (⟨target, iter, ifs, 0⟩ :: gs) scope pos) 0 it (.ref D) { newEnv scope L env.globals cells env.qual none .none (some env) builtinsNs with scope := relabel scope env }) fun _ K' O' =>
        W C n K' O' (storeName env y (.ref D)) fun _ K' O' => ∃ O₂ O₃ m, O₂.Sublist O' ∧ Del O₂ L (.ns m) O₃ ∧ Q .next K' O₃)
    (hs : ∀ x, foldedSetIterable iter env x = pure x := by intro _; rfl) : W C n K O (exec (.Assign [.Name y py] (.ListComp elt (⟨target, iter, ifs, 0⟩ :: gs) scope pos) p) env) Q := by
  refine W_eq (exec_Assign_Name_used _ _ _ _ hsw) (W_bind (W_standAt (W_bind ?_)))
  show W C n K O (do let _ ← comprehension (.ListComp elt (⟨target, iter, ifs, 0⟩ :: gs) scope pos) scope env _ (newList []) false (eval iter env) (some (assign (.Name y py) env))) _
  refine W_bind (W_mono (W_comp (Q := fun _ K O => Q .next K O) (some (assign (.Name y py) env)) hs hclos hkind hnames (W_mono h fun x K O h => W_mono h fun it K O h => fun D L => ?_)) fun _ _ _ q => W_pure (W_pure q))
  refine W_newEnv.layC_mono (h D L) fun cells O' hw => ?_
  intro A hA s S
  exact codeAny_mono (hw A hA s S) fun r s' hr => by cases r with
    | error e => exact hr
    | ok f => obtain ⟨K', O', S', q⟩ := hr; exact ⟨K', O', S', W_assignName q⟩
end
end Mine
end
section
open PySem PySem.W PySem.Calls PyProof.Rows
set_option Elab.async false
set_option linter.unusedVariables false
set_option linter.unusedSectionVars false
namespace Mine

inductive A2 {α β : Type} (R : α → β → Prop) : List α → List β → Prop where
  | nil : A2 R [] []
  | cons {a b l m} : R a b → A2 R l m → A2 R (a :: l) (b :: m)
namespace A2
variable {α β : Type} {R R' : α → β → Prop}
theorem length {l : List α} {m : List β} (h : A2 R l m) : l.length = m.length := by
  induction h with
  | nil => rfl
  | cons _ _ ih => simp [ih]
theorem append {l l' : List α} {m m' : List β} (h : A2 R l m) (h' : A2 R l' m') : A2 R (l ++ l') (m ++ m') := by
  induction h with
  | nil => exact h'
  | cons x _ ih => exact .cons x ih
theorem snoc {l : List α} {m : List β} {a : α} {b : β} (h : A2 R l m) (hx : R a b) : A2 R (l ++ [a]) (m ++ [b]) := h.append (.cons hx .nil)
theorem mono {l : List α} {m : List β} (h : A2 R l m) (k : ∀ a b, R a b → R' a b) : A2 R' l m := by
  induction h with
  | nil => exact .nil
  | cons x _ ih => exact .cons (k _ _ x) ih
theorem get {l : List α} {m : List β} (h : A2 R l m) : ∀ (i : Nat) (b : β), m[i]? = some b → ∃ a, l[i]? = some a ∧ R a b := by
  induction h with
  | nil => intro i b e; simp at e
  | cons x _ ih =>
    intro i b e
    cases i with
    | zero => simp at e; subst e; exact ⟨_, rfl, x⟩
    | succ i => simpa using ih i b (by simpa using e)
theorem get' {l : List α} {m : List β} (h : A2 R l m) (i : Nat) (hi : i < m.length) : ∃ a, l[i]? = some a ∧ R a m[i] := h.get i _ (List.getElem?_eq_getElem hi)
theorem at' {l : List α} {m : List β} (h : A2 R l m) : ∀ (i : Nat) (a : α), l[i]? = some a → ∃ b, m[i]? = some b ∧ R a b := by
  induction h with
  | nil => intro i b e; simp at e
  | cons x _ ih =>
    intro i b e
    cases i with
    | zero => simp at e; subst e; exact ⟨_, rfl, x⟩
    | succ i => simpa using ih i b (by simpa using e)
theorem take {l : List α} {m : List β} (h : A2 R l m) : ∀ i, A2 R (l.take i) (m.take i) := by
  induction h with
  | nil => intro i; simp; exact .nil
  | cons x _ ih => intro i; cases i with
    | zero => exact .nil
    | succ i => exact .cons x (ih i)
theorem drop {l : List α} {m : List β} (h : A2 R l m) : ∀ i, A2 R (l.drop i) (m.drop i) := by
  induction h with
  | nil => intro i; simp; exact .nil
  | cons x h ih => intro i; cases i with
    | zero => exact .cons x h
    | succ i => exact ih i
theorem set {l : List α} {m : List β} (h : A2 R l m) {a : α} {b : β} (hx : R a b) : ∀ i, A2 R (l.set i a) (m.set i b) := by
  induction h with
  | nil => intro i; exact .nil
  | cons x h ih => intro i; cases i with
    | zero => exact .cons hx h
    | succ i => exact .cons x (ih i)
theorem insertIdx {l : List α} {m : List β} {a : α} {b : β} (h : A2 R l m) (hx : R a b) (i : Nat) : A2 R (l.take i ++ a :: l.drop i) (m.take i ++ b :: m.drop i) :=
  (h.take i).append (.cons hx (h.drop i))
end A2

def IntV (v : Value) (i : Int) : Prop := ∃ t, v = .int i t
def StrV (v : Value) (s : Str) : Prop := ∃ t, v = .str s t
theorem A2.ints {vs : List Value} {ns : List Int} (h : A2 IntV vs ns) : IntsAre vs ns := by
  induction h with
  | nil => exact .nil
  | cons x _ ih => obtain ⟨t, rfl⟩ := x; exact .cons _ _ ih
theorem A2.of_ints {vs : List Value} {ns : List Int} (h : IntsAre vs ns) : A2 IntV vs ns := by
  induction h with
  | nil => exact .nil
  | cons i t _ ih => exact .cons ⟨_, rfl⟩ ih

/-- a frozen list, a frozen tuple, item by item -/
def LstV {β : Type} (R : KH → Value → β → Prop) (K : KH) (v : Value) (l : List β) : Prop := ∃ a vs, v = .ref a ∧ K a = some (.list vs) ∧ A2 (R K) vs l
def TupV (K : KH) (v : Value) (vs : List Value) : Prop := ∃ a, v = .ref a ∧ K a = some (.tup vs)
def intK (_ : KH) := IntV
def strK (_ : KH) := StrV
def Mono {β : Type} (R : KH → Value → β → Prop) : Prop := ∀ K K' v b, KLe K K' → R K v b → R K' v b
theorem mono_int : Mono intK := fun _ _ _ _ _ h => h
theorem mono_str : Mono strK := fun _ _ _ _ _ h => h
theorem mono_lst {β : Type} {R : KH → Value → β → Prop} (m : Mono R) : Mono (LstV R) := fun K K' v l h ⟨a, vs, e, ha, hA⟩ => ⟨a, vs, e, h _ _ ha, hA.mono fun x y => m _ _ _ _ h⟩
abbrev IntsV := LstV intK
abbrev StrsV := LstV strK
/-- a pair of ints, frozen -/
def PairV (K : KH) (v : Value) (p : Int × Int) : Prop := ∃ a x y t u, v = .ref a ∧ K a = some (.tup [x, y]) ∧ x = .int p.1 t ∧ y = .int p.2 u
theorem mono_pair : Mono PairV := fun K K' v p h ⟨a, x, y, t, u, e, ha, r⟩ => ⟨a, x, y, t, u, e, h _ _ ha, r⟩

section
variable {α β : Type} {C : WC} {n : Nat} {K : KH} {O O' : OL} {env : Env} {x : Str} {pos : Pos}

theorem W_forRange1 {y : Str} {p : Pos} {body : List Stmt} {R : Flow → KH → OL → Prop} {b : Int} {t : Tok} (N : Nat) (I : Nat → KH → OL → Prop) (hb : b.toNat = N) (hs : b < 2 ^ 62) (hs' : -(2 ^ 62) ≤ b)
    (h : I 0 K O)
    (turn : ∀ it j K O st, j < N → I j K O → ∀ t, W C n K ((it, st) :: O) (storeName env y (.int j t)) (K0 C n (execs body env) (TurnJ I (j + 1) it st R)))
    (done : ∀ K O, I N K O → R .next K O) :
    W C n K O (call (.type "range") [.int b t] []) (ForK C n (.Name y p) body env R) := by
  refine W_range1 fun r t₁ t₂ => W_iterRange .here (small_one (by omega) (by omega) hs' hs) fun it => ?_
  rw [rangeSize_nat, Int.sub_zero, hb]
  refine WCd_forRange 0 1 N I (fun j K O st hj hI t => ?_) done h
  have := turn it j K O st hj hI t
  simpa using this
theorem W_forRange2 {y : Str} {p : Pos} {body : List Stmt} {R : Flow → KH → OL → Prop} {a b : Int} {t u : Tok} (N : Nat) (I : Nat → KH → OL → Prop) (hb : (b - a).toNat = N) (ha : 0 ≤ a) (ha' : a < 2 ^ 62) (hs : b < 2 ^ 62) (hs' : -(2 ^ 62) ≤ b)
    (h : I 0 K O)
    (turn : ∀ it j K O st, j < N → I j K O → ∀ t, W C n K ((it, st) :: O) (storeName env y (.int (a + j) t)) (K0 C n (execs body env) (TurnJ I (j + 1) it st R)))
    (done : ∀ K O, I N K O → R .next K O) :
    W C n K O (call (.type "range") [.int a t, .int b u] []) (ForK C n (.Name y p) body env R) := by
  refine W_range2 fun r t₂ => W_iterRange .here (small_one (by omega) ha' hs' hs) fun it => ?_
  rw [rangeSize_nat, hb]
  refine WCd_forRange a 1 N I (fun j K O st hj hI t => ?_) done h
  have := turn it j K O st hj hI t
  simpa using this
theorem W_forLst {y : Str} {p : Pos} {l : Addr} {vs : List Value} {body : List Stmt} {R : Flow → KH → OL → Prop} (I : Nat → KH → OL → Prop) (hl0 : LstAt C K O l vs)
    (hl : ∀ j K O st it, I j K O → LstAt C K ((it, st) :: O) l vs) (h : I 0 K O)
    (turn : ∀ it j K O st v, vs[j]? = some v → I j K O → W C n K ((it, st) :: O) (storeName env y v) (K0 C n (execs body env) (TurnJ I (j + 1) it st R)))
    (done : ∀ K O, I vs.length K O → R .next K O) :
    W C n K O (pyIter (.ref l)) (ForK2 C n (.Name y p) body env R) :=
  W_iterList hl0 fun it => WCd_forList I (fun j K O st => hl j K O st it) (fun j K O st v hv hI => turn it j K O st v hv hI) done h
theorem W_forStr {y : Str} {p : Pos} {z : Str} {tz : Tok} {body : List Stmt} {R : Flow → KH → OL → Prop} (I : Nat → KH → OL → Prop) (h : I 0 K O)
    (turn : ∀ it j K O st c, z.cps[j]? = some c → I j K O → ∀ t, W C n K ((it, st) :: O) (storeName env y (.str ⟨#[c]⟩ t)) (K0 C n (execs body env) (TurnJ I (j + 1) it st R)))
    (done : ∀ K O, I z.cps.size K O → R .next K O) :
    W C n K O (pyIter (.str z tz)) (ForK2 C n (.Name y p) body env R) :=
  W_iterStr fun it => WCd_forStr I (fun j K O st c hc hI => turn it j K O st c hc hI) done h
end
end Mine
end
section
open PySem PySem.W PySem.Calls PyProof.Rows
set_option Elab.async false
set_option linter.unusedVariables false
set_option linter.unusedSectionVars false
namespace Mine
section
variable {α β : Type} {C : WC} {n : Nat} {K : KH} {O O' : OL} {env : Env} {x : Str} {pos : Pos}

theorem turn_next {I : Nat → KH → OL → Prop} {j : Nat} {it : Addr} {st : AO} {R : Flow → KH → OL → Prop} {O₃ : OL} (hs : ((it, st) :: O₃).Sublist O) (h : I j K O₃) : TurnJ I j it st R .next K O := ⟨O₃, hs, h⟩
theorem ret_of {Q : Value → KH → OL → Prop} {v : Value} {O₂ : OL} (hs : O₂.Sublist O) (h : Q v K O₂) : ∃ O₂, O₂.Sublist O ∧ Q (retv (.ret v)) K O₂ := ⟨O₂, hs, h⟩
theorem Del.perm {a : Addr} {y : AO} (d : Del O a y O') : ((a, y) :: O').Perm O := by
  induction d with
  | here => exact .refl _
  | there _ ih => exact (List.Perm.swap _ _ _).trans (ih.cons _)
theorem W_freezeD {a : Addr} {y : AO} {t : Sem α} {Q : α → KH → OL → Prop} (d : Del O a y O') (h : ∀ K', KLe K K' → K' a = some y → W C n K' O' t Q) : W C n K O t Q :=
  W_perm d.perm (W_freeze h)
theorem W_mod {a b : Int} {t u : Tok} {Q : Value → KH → OL → Prop} (hb : b ≠ 0) (h : ∀ t, Q (.int (a.fmod b) t) K O) : W C n K O (binaryOp .Mod (.int a t) (.int b u)) Q :=
  fun A hA s S => PyProof.Rows.mod_int' hb ⟨K, O, S.toks, h _⟩

theorem W_release {vs keep : List Value} {Q : Unit → KH → OL → Prop} (h : Q () K O) : W C n K O (release vs keep) Q := fun A hA s S Γ p hΓ => by
  rw [Sem.wp_release]; exact ⟨K, O, S, h⟩
theorem W_Compare2 {l r₁ r₂ : Expr} {op₁ op₂ : CmpOp} {Q : Value → KH → OL → Prop}
    (h : W C n K O (eval l env) fun a K O => W C n K O (eval r₁ env) fun b K O => W C n K O (compareOp op₁ a b) fun c K O => W C n K O (truthy c) fun t K O =>
      if t then W C n K O (eval r₂ env) fun d K O => W C n K O (compareOp op₂ b d) Q else Q c K O)
    (hm : markedEach [op₁, op₂] [r₁, r₂] (evalEach [r₁, r₂] env) = [eval r₁ env, eval r₂ env] := by rfl) :
    W C n K O (eval (.Compare l [op₁, op₂] [r₁, r₂] pos) env) Q := by
  refine W_eq (arm_eval_Compare ..) (W_bind (W_mono h fun a K O h => ?_))
  rw [hm]
  unfold compareChain
  refine W_bind (W_holding (W_mono h fun b K O h => W_bind (W_standAt (W_bind (W_holding (W_mono h fun c K O h => W_bind (W_release (W_bind (W_holding (W_mono h fun t K O h => ?_)))))))))) 
  cases t with
  | false => exact W_pure h
  | true => exact W_bind (W_holding (W_mono h fun d K O h => W_bind (W_standAt (W_operate h))))
theorem TupAt.has {a : Addr} {vs : List Value} (h : Has C K O a (.tup vs)) : TupAt C K O a vs := fun s S => At.tup (S.has h)
theorem W_tupItem {l : Addr} {vs : List Value} {v : Value} {k : Int} {t : Tok} {Q : Value → KH → OL → Prop} (hl : TupAt C K O l vs) (h0 : 0 ≤ k) (hf : k < 2 ^ 63) (hx : vs[k.toNat]? = some v) (h : Q v K O) : W C n K O (getItem (.ref l) (.int k t)) Q := fun A hA s S =>
  getItem_tuple (j := k.toNat) (x := v) (let ⟨o, h1, h2, h3⟩ := hl s S; ⟨o, h1, h2, h3⟩) (by omega) hf (by
    have hlt : k.toNat < vs.length := by
      rcases Nat.lt_or_ge k.toNat vs.length with h | h
      · exact h
      · rw [List.getElem?_eq_none h] at hx; cases hx
    exact PySem.seqIndex_of h0 (by simp only [List.size_toArray]; omega)) (by simpa using hx) ⟨K, O, S, h⟩
theorem sub_list {l : Addr} {vs : List Value} {i : Value} {Q : Value → KH → OL → Prop} (hl : LstAt C K O l vs) (h : W C n K O (getItem (.ref l) i) Q) :
    SubK C n Q (.ref l) i K O := ⟨"list", _, hl.ty, PySem.F.slot_list_getitem.lookup, h⟩
theorem sub_tup {l : Addr} {vs : List Value} {i : Value} {Q : Value → KH → OL → Prop} (hl : TupAt C K O l vs) (h : W C n K O (getItem (.ref l) i) Q) :
    SubK C n Q (.ref l) i K O := ⟨"tuple", _, fun s S => (hl s S).typeIs, PySem.F.slot_tuple_getitem.lookup, h⟩

theorem W_inOrderE_nil {vs : List Value} {Q : Unit → KH → OL → Prop} (h : Q () K O) : W C n K O (assignInOrder ((assignEach [] env).map (·.2)) vs) Q := W_inOrder_nil h
theorem W_inOrderE_cons {e : Expr} {rest : List Expr} {v : Value} {vs : List Value} {Q : Unit → KH → OL → Prop} (h : W C n K O (assign e env v) (K0 C n (assignInOrder ((assignEach rest env).map (·.2)) vs) Q))
    (he : assignEach (e :: rest) env = (false, assign e env) :: assignEach rest env := by rfl) : W C n K O (assignInOrder ((assignEach (e :: rest) env).map (·.2)) (v :: vs)) Q := by
  rw [he]; exact W_inOrder_cons h
inductive AsTup (C : WC) (n : Nat) (ts : List (Bool × (Value → Sem Unit))) (Q : Flow → KH → OL → Prop) (v : Value) (K : KH) (O : OL) : Prop
  | mk (t : Addr) (vs : List Value) (e : v = .ref t) (hh : Has C K O t (.tup vs)) (hn : vs.length = ts.length) (hw : W C n K O (assignInOrder (ts.map (·.2)) vs) (NQ Q))
theorem W_AssignTup {elts : List Expr} {value : Expr} {kt : Nat} {pt : Pos} {Q : Flow → KH → OL → Prop}
    (h : W C n K O (eval value env) (AsTup C n (assignEach elts env) Q))
    (hstar : (assignEach elts env).findIdx? (·.1) = none := by rfl)
    (hs : swapsWithSole [.Tuple elts kt pt] value pos.line env = pure false := by rfl) (hw : swappedStores [.Tuple elts kt pt] value env = pure none := by rfl)
    (he : (assignEach [.Tuple elts kt pt] env).map (·.2) = [assign (.Tuple elts kt pt) env] := by rfl) : W C n K O (exec (.Assign [.Tuple elts kt pt] value pos) env) Q := by
  refine W_AssignStores (W_mono h fun v K O ⟨t, vs, e, hh, hn, hw⟩ => ?_) hs hw
  rw [he]
  subst e
  exact W_assignTuple hh hn.symm hstar hw

abbrev AppQ (C : WC) (n : Nat) (Q : Value → KH → OL → Prop) (D : Addr) (y : Value) (K : KH) (O : OL) : Prop := W C n K O (call (.builtin "list.append") [.ref D, y] []) Q
inductive AppK (C : WC) (n : Nat) (te : Sem Value) (Q : Value → KH → OL → Prop) (ov : Value) (K : KH) (O : OL) : Prop
  | mk (D : Addr) (vs : List Value) (e : ov = .ref D) (hh : Has C K O D (.list vs)) (hw : W C n K O te (AppQ C n Q D))
theorem W_CallAppend {e elt : Expr} {apos : Pos} {Q : Value → KH → OL → Prop}
    (h : W C n K O (eval e env) (AppK C n (eval elt env) Q))
    (hbase : attributeBase e "append" env (eval e env) = eval e env := by rfl)
    (hfew : ((backTo pos (starEach [elt] env)).all (fun x => !x.1) && (backToKw pos (keywordEach [] env)).all (fun x => x.1.isSome)
      && decide (([elt] : List Expr).length + ([] : List Keyword).length + (if ([] : List Keyword).isEmpty then 0 else 1) < 30)) = true := by rfl)
    (hline : (apos.endLine == pos.line) = true := by rfl) (hplain : (backTo pos (starEach [elt] env)).any (·.1) = false := by rfl) (he : starEach [elt] env = (false, eval elt env) :: starEach [] env := by rfl) :
    W C n K O (eval (.Call (.Attribute e "append" apos) [elt] [] pos) env) Q := by
  refine W_CallMethod (T := "list") (id := "list.append") PySem.F.plainAttrs_list PySem.F.slot_list_append PySem.F.type_list_append (W_mono h fun ov K O ⟨D, vs, e, hh, hw⟩ => ?_) hbase hfew hline hplain
  subst e
  exact ⟨(LstAt.has hh).ty, noDict_list rfl hh, W_callM (W_args_cons (W_mono hw fun y K O hw => W_args_nil hw) he) he⟩
end
end Mine
end
section
open PySem PySem.W PySem.Calls PyProof.Rows
set_option Elab.async false
set_option linter.unusedVariables false
set_option linter.unusedSectionVars false
set_option maxRecDepth 100000
namespace Mine
section
variable {α β : Type} {C : WC} {n : Nat} {K : KH} {O O' : OL} {env : Env} {x : Str} {pos : Pos}

theorem W_fdivE {a b c : Int} {t u : Tok} {Q : Value → KH → OL → Prop} (hb : b ≠ 0) (hs : b.natAbs < 1073741824) (e : a.fdiv b = c) (h : ∀ t, Q (.int c t) K O) : W C n K O (binaryOp .FloorDiv (.int a t) (.int b u)) Q :=
  W_fdiv hb hs fun t => e ▸ h t
theorem W_modE {a b c : Int} {t u : Tok} {Q : Value → KH → OL → Prop} (hb : b ≠ 0) (e : a.fmod b = c) (h : ∀ t, Q (.int c t) K O) : W C n K O (binaryOp .Mod (.int a t) (.int b u)) Q :=
  W_mod hb fun t => e ▸ h t
theorem W_itemE {l : Addr} {vs : List Value} {k : Int} {t : Tok} {j : Nat} {v : Value} {Q : Value → KH → OL → Prop} (hl : LstAt C K O l vs) (hk : k = j) (hf : j < 1000000) (hx : vs[j]? = some v) (h : Q v K O) : W C n K O (getItem (.ref l) (.int k t)) Q :=
  W_item hl (by omega) (by omega) (by rw [hk]; simpa using hx) h
theorem mid_of {lo hi : Int} (h0 : 0 ≤ lo) (h : lo < hi) : ∃ m : Nat, (lo + hi).fdiv 2 = m ∧ lo ≤ m ∧ (m : Int) < hi := by
  refine ⟨((lo + hi) / 2).toNat, ?_, ?_, ?_⟩
  · rw [Int.fdiv_eq_ediv_of_nonneg _ (by decide)]; omega
  · omega
  · omega
inductive LmK (C : WC) (n : Nat) (ta : Sem (List Value)) (id : String) (Q : Value → KH → OL → Prop) (ov : Value) (K : KH) (O : OL) : Prop
  | mk (D : Addr) (vs : List Value) (e : ov = .ref D) (hh : Has C K O D (.list vs)) (hw : W C n K O ta (CallMs C n (.builtin id) (.ref D) Q))
theorem W_CallListM {e a : Expr} {rest : List Expr} {name : Str} {id : String} {apos : Pos} {Q : Value → KH → OL → Prop} (slot : Slot "list" name id) (hty : typeOf (.builtin id) = pure (.type "method_descriptor"))
    (h : W C n K O (eval e env) (LmK C n (spliced (backTo pos (starEach (a :: rest) env))) id Q))
    (hbase : attributeBase e name env (eval e env) = eval e env := by rfl)
    (hfew : ((backTo pos (starEach (a :: rest) env)).all (fun x => !x.1) && (backToKw pos (keywordEach [] env)).all (fun x => x.1.isSome)
      && decide ((a :: rest).length + ([] : List Keyword).length + (if ([] : List Keyword).isEmpty then 0 else 1) < 30)) = true := by rfl)
    (hline : (apos.endLine == pos.line) = true := by rfl) (hplain : (backTo pos (starEach (a :: rest) env)).any (·.1) = false := by rfl) (he : starEach (a :: rest) env = (false, eval a env) :: starEach rest env := by rfl) :
    W C n K O (eval (.Call (.Attribute e name apos) (a :: rest) [] pos) env) Q := by
  refine W_CallMethod (T := "list") (id := id) PySem.F.plainAttrs_list slot hty (W_mono h fun ov K O ⟨D, vs, e, hh, hw⟩ => ?_) hbase hfew hline hplain
  subst e
  exact ⟨(LstAt.has hh).ty, noDict_list rfl hh, W_callM hw he⟩
theorem ite_T {X Y : Prop} (h : X) : if true = true then X else Y := by rw [if_pos rfl]; exact h
theorem ite_F {X Y : Prop} (h : Y) : if false = true then X else Y := by rw [if_neg Bool.false_ne_true]; exact h
def WhileOk (I : Nat → KH → OL → Prop) (j : Nat) (Q : Flow → KH → OL → Prop) (f : Flow) (K : KH) (O : OL) : Prop :=
  match f with
  | .next | .cont => ∃ O₃ i, O₃.Sublist O ∧ i < j ∧ I i K O₃
  | .brk => ∃ O₃, O₃.Sublist O ∧ Q .next K O₃
  | .ret v => ∃ O₃, O₃.Sublist O ∧ Q (.ret v) K O₃
theorem while_next {I : Nat → KH → OL → Prop} {j i : Nat} {Q : Flow → KH → OL → Prop} {O₃ : OL} (hs : O₃.Sublist O) (hi : i < j) (h : I i K O₃) : WhileOk I j Q .next K O := ⟨O₃, i, hs, hi, h⟩
abbrev WhlK (C : WC) (n : Nat) (body : List Stmt) (env : Env) (I : Nat → KH → OL → Prop) (j : Nat) (Q : Flow → KH → OL → Prop) (b : Bool) (K : KH) (O : OL) : Prop := if b then W C n K O (execs body env) (WhileOk I j Q) else Q .next K O
theorem W_while {test : Expr} {body : List Stmt} {Q : Flow → KH → OL → Prop} (I : Nat → KH → OL → Prop) (j : Nat) (h : I j K O)
    (turn : ∀ j K O, I j K O → W C n K O (isTrue test env (eval test env)) (WhlK C n body env I j Q)) : W C n K O (exec (.While test body [] pos) env) Q := by
  refine W_While (WCd_while I (fun j K O hI => W_mono (turn j K O hI) fun b K O hb => ?_) j h)
  cases b with
  | false => exact hb
  | true =>
    refine W_weak (W_mono hb fun f K O hf => ?_)
    cases f with
    | next => obtain ⟨O₃, i, hs, hi, q⟩ := hf; exact ⟨O₃, hs, i, hi, q⟩
    | cont => obtain ⟨O₃, i, hs, hi, q⟩ := hf; exact ⟨O₃, hs, i, hi, q⟩
    | brk => exact hf
    | ret v => exact hf
theorem W_isNN {Q : Value → KH → OL → Prop} (h : Q (.bool true) K O) : W C n K O (compareOp .Is .none .none) Q := fun A hA s S => wpAny_is_self rfl ⟨K, O, S, h⟩
theorem W_isIN {i : Int} {t : Tok} {Q : Value → KH → OL → Prop} (h : Q (.bool false) K O) : W C n K O (compareOp .Is (.int i t) .none) Q := fun A hA s S => wpAny_is_other rfl nofun ⟨K, O, S, h⟩
theorem W_isRN {a : Addr} {Q : Value → KH → OL → Prop} (h : Q (.bool false) K O) : W C n K O (compareOp .Is (.ref a) .none) Q := fun A hA s S => wpAny_is_other rfl nofun ⟨K, O, S, h⟩
theorem W_isNotNN {Q : Value → KH → OL → Prop} (h : Q (.bool false) K O) : W C n K O (compareOp .IsNot .none .none) Q := fun A hA s S => wpAny_isNot_self rfl ⟨K, O, S, h⟩
theorem W_isRR {a : Addr} {Q : Value → KH → OL → Prop} (h : Q (.bool true) K O) : W C n K O (compareOp .Is (.ref a) (.ref a)) Q := fun A hA s S => wpAny_is_ref_self ⟨K, O, S, h⟩

theorem W_len {l : Addr} {vs : List Value} {Q : Value → KH → OL → Prop} (hl : LstAt C K O l vs) (hz : vs.length < 2 ^ 60) (h : ∀ t, Q (.int vs.length t) K O) : W C n K O (call (.builtin "len") [.ref l] []) Q :=
  fun A hA s S => PyProof.Rows.len_list (hl s S) (by simp; omega) (by
    have := h (s.toks + 1)
    simp only [List.size_toArray]
    exact ⟨K, O, S.toks, this⟩)

theorem Has.cons {p : Addr × AO} {a : Addr} {y : AO} (h : Has C K O a y) : Has C K (p :: O) a y := h.imp id (Or.imp (List.Mem.tail _) id)

theorem W_insert {l : Addr} {vs : List Value} {v : Value} {x : Int} {k : Nat} {t : Tok} {Q : Value → KH → OL → Prop} (u : Upd O l (.list vs) (.list (vs.take k ++ v :: vs.drop k)) O') (hx : x = k) (hk : k ≤ vs.length) (hz : vs.length < 1000) (h : Q .none K O') :
    W C n K O (call (.builtin "list.insert") [.ref l, .int x t, v] []) Q := fun A hA s S => by
  obtain ⟨o, ho, m, rfl⟩ := S.own _ u.mem
  have hf : Builtin.List.listFitsIndex x = true := fitsIndex_of (by omega) (by omega)
  have hz' : vs.toArray.size ≤ sizeLine := by rw [List.size_toArray, sizeLine_eq]; omega
  refine call_meets PySem.F.slot_list_insert ⟨_, ho, rfl⟩ PySem.F.entry_list_insert (PySem.F.args_list_insert_3 _ _ _) (PySem.AutoSeq1.list_insert_list_int_val_1 l _ m x t v (by simp [hf]) hz') ⟨ho, K, O', ?_, h⟩
  refine S.upd u (Heap.SameBut.update ..).extBut ?_
  refine ⟨_, Heap.get?_update_self _ ho rfl, ?_⟩
  have e : (if x < 0 then (x + ((vs.toArray.size : Nat) : Int)).toNat else min x.toNat vs.toArray.size) = k := by
    rw [if_neg (by omega)]; simp only [List.size_toArray]; omega
  have e2 : (vs.toArray.extract 0 k).push v ++ vs.toArray.extract k = (vs.take k ++ v :: vs.drop k).toArray := by
    apply Array.toList_inj.mp
    simp
    exact List.take_of_length_le (by simp)
  show ∃ n, Obj.mapSeq _ _ = _
  unfold Obj.mapSeq
  dsimp only
  rw [e, e2]
  exact ⟨_, rfl⟩
end
end Mine
end
section
open PySem PySem.W PySem.Calls PyProof.Rows
set_option Elab.async false
set_option linter.unusedVariables false
set_option linter.unusedSectionVars false
namespace Mine

/-- the top, as the ghost heap bears it -/
structure Wd (C : WC) (mg mb : Str → Option Value) : Prop where
  k : (hd.heap_1 C.w.params).In C.G
  g : C.G.Ns mainGlobals mg
  b : C.G.Ns builtinsNs mb
  bi : ∀ x : Str, x ≠ "__name__" → mb x = bootBuiltins x
  lim : C.G.NoLimit
  bm : ∀ P, (∀ o, C.G.get? P = some o → o.cls ≠ .type "module") → C.G.BuiltinsAt mg P

theorem mg_none {K : Frag} {h : Heap} {mg : Str → Option Value} {n : Str} (X : K.In h) (G : h.Ns mainGlobals mg) (e : nsIn K mainGlobals n = some none) : mg n = none := by
  obtain ⟨o, es, ep, ho, hd, _, hf⟩ := G
  unfold nsIn at e
  split at e
  · rename_i c d es' n' sl q
    have := X _ _ q
    rw [ho] at this
    cases this
    cases hd
    rw [← hf n]
    unfold nsFind findBy
    split at e
    · cases e
    · rename_i he
      have he' : es.find? (·.key.isStr n) = none := by rw [← Array.find?_toList]; exact he
      rw [he']; rfl
  · cases e

theorem ite_dec {p : Prop} [Decidable p] {X Y : Prop} (h1 : p → X) (h2 : ¬ p → Y) : if decide p = true then X else Y := by
  by_cases h : p
  · rw [if_pos (decide_eq_true h)]; exact h1 h
  · rw [if_neg (by simpa using h)]; exact h2 h

section
variable {C : WC} {mg mb : Str → Option Value} (w : Wd C mg mb)
include w
theorem Wd.mgv {x : Str} {v : Value} (e : nsIn (hd.heap_1 C.w.params) mainGlobals x = some (some v)) : mg x = some v := mg_of w.k w.g e
theorem Wd.mgn {x : Str} (e : nsIn (hd.heap_1 C.w.params) mainGlobals x = some none) : mg x = none := mg_none w.k w.g e
theorem Wd.mbv {x : Str} {v : Value} (e : bootBuiltins x = some v) (hx : x ≠ "__name__" := by decide +kernel) : mb x = some v := (w.bi x hx).trans e
theorem Wd.code {K : KH} {O : OL} {cd : Value} {q : Str} (e : codeIn (hd.heap_1 C.w.params) cd q = true) : ∀ s, Sat C K O s → s.heap.CodeRec cd q := fun s S => codeRec_of (w.k.keeps S.base) e
theorem Wd.binds {K : KH} {O : OL} {fd : FuncData} {args : Args} {binds : List (Str × Value)} (e : ∀ S, peek (hd.heap_1 C.w.params) S (bindArgs fd args) = some binds) : ∀ s, Sat C K O s → BindsTo s fd args binds :=
  fun s S => kp_binds (w.k.keeps S.base) e
end

/-- a def of the top, written out -/
structure FnD (a : Addr) where
  fd : FuncData
  body : List Stmt
  lies : ∀ P, ∃ c d s, (hd.heap_1 P).lookup a = some ⟨c, d, .func fd, s⟩
  hb : fd.body = .stmts body

section
variable {C : WC} {mg mb : Str → Option Value} (w : Wd C mg mb)
include w
theorem Wd.fn {K : KH} {O : OL} {a : Addr} (F : FnD a) : FnAt C K O a F.fd := by
  obtain ⟨c, d, s, e⟩ := F.lies C.w.params
  exact FnAt.base (w.k a _ e) rfl

/-- a def of the top is called -/
theorem Wd.call {a : Addr} (F : FnD a) {n : Nat} {K : KH} {O : OL} {ps : List Value} {kw : List (Str × Value)} (binds : List (Str × Value)) {Q : Value → KH → OL → Prop} (hn : n ≤ 390)
    (h3 : codeIn (hd.heap_1 C.w.params) F.fd.code F.fd.qualname = true)
    (h4 : ∀ S, peek (hd.heap_1 C.w.params) S (bindArgs F.fd ⟨ps, kw⟩) = some binds) (h5 : F.fd.scope.isCoroutine = false) (h6 : F.fd.scope.isGenerator = false)
    (h : ∀ L, LayC F.fd.scope.names F.fd.closure ((L, .ns nom) :: O) fun cells O' => W C (n + 1) K O' (storeBinds (fnEnv F.fd a L cells) binds) (K0 C (n + 1) (execs F.body (fnEnv F.fd a L cells)) (RetK Q))) : W C n K O (call (.ref a) ps kw) Q :=
  W_callFn hn (w.fn F) w.lim (w.code h3) F.hb (w.binds h4) h h5 h6
end
set_option maxRecDepth 100000
section
variable {C : WC} {mg mb : Str → Option Value} (w : Wd C mg mb)
include w
theorem Wd.g_get_parent_map : mg (Str.ofString "get_parent_map") = some (.ref 28) := w.mgv (by kernel_rfl)
theorem Wd.g_SelectorContext : mg (Str.ofString "_SelectorContext") = some (.ref 45) := w.mgv (by kernel_rfl)
theorem Wd.g_insort_right : mg (Str.ofString "insort_right") = some (.ref 58) := w.mgv (by kernel_rfl)
theorem Wd.g_bisect_right : mg (Str.ofString "bisect_right") = some (.ref 67) := w.mgv (by kernel_rfl)
theorem Wd.g_insort_left : mg (Str.ofString "insort_left") = some (.ref 76) := w.mgv (by kernel_rfl)
theorem Wd.g_bisect_left : mg (Str.ofString "bisect_left") = some (.ref 85) := w.mgv (by kernel_rfl)
theorem Wd.g_Whitespace : mg (Str.ofString "Whitespace") = some (.ref 147) := w.mgv (by kernel_rfl)
theorem Wd.g_byteswap : mg (Str.ofString "_byteswap") = some (.ref 158) := w.mgv (by kernel_rfl)
theorem Wd.g_law_sums : mg (Str.ofString "_law_sums") = some (.ref 165) := w.mgv (by kernel_rfl)
theorem Wd.g_law_figures : mg (Str.ofString "_law_figures") = some (.ref 172) := w.mgv (by kernel_rfl)
theorem Wd.g_law_run : mg (Str.ofString "_law_run") = some (.ref 177) := w.mgv (by kernel_rfl)
theorem Wd.g_law_rise : mg (Str.ofString "_law_rise") = some (.ref 184) := w.mgv (by kernel_rfl)
theorem Wd.g_law_way : mg (Str.ofString "_law_way") = some (.ref 189) := w.mgv (by kernel_rfl)
theorem Wd.g_law_tile : mg (Str.ofString "_law_tile") = some (.ref 194) := w.mgv (by kernel_rfl)
theorem Wd.g_law_holds : mg (Str.ofString "_law_holds") = some (.ref 201) := w.mgv (by kernel_rfl)
theorem Wd.g_law_table : mg (Str.ofString "_law_table") = some (.ref 208) := w.mgv (by kernel_rfl)
theorem Wd.n_range : mg (Str.ofString "range") = none := w.mgn (by kernel_rfl)
theorem Wd.b_range : mb (Str.ofString "range") = some (.type "range") := w.mbv (by kernel_rfl)
theorem Wd.n_len : mg (Str.ofString "len") = none := w.mgn (by kernel_rfl)
theorem Wd.b_len : mb (Str.ofString "len") = some (.builtin "len") := w.mbv (by kernel_rfl)
theorem Wd.n_tuple : mg (Str.ofString "tuple") = none := w.mgn (by kernel_rfl)
theorem Wd.b_tuple : mb (Str.ofString "tuple") = some (.type "tuple") := w.mbv (by kernel_rfl)
theorem Wd.n_bytearray : mg (Str.ofString "bytearray") = none := w.mgn (by kernel_rfl)
theorem Wd.b_bytearray : mb (Str.ofString "bytearray") = some (.type "bytearray") := w.mbv (by kernel_rfl)
theorem Wd.n_bytes : mg (Str.ofString "bytes") = none := w.mgn (by kernel_rfl)
theorem Wd.b_bytes : mb (Str.ofString "bytes") = some (.type "bytes") := w.mbv (by kernel_rfl)
theorem Wd.n_list : mg (Str.ofString "list") = none := w.mgn (by kernel_rfl)
theorem Wd.b_list : mb (Str.ofString "list") = some (.type "list") := w.mbv (by kernel_rfl)
theorem Wd.n_sum : mg (Str.ofString "sum") = none := w.mgn (by kernel_rfl)
theorem Wd.b_sum : mb (Str.ofString "sum") = some (.builtin "sum") := w.mbv (by kernel_rfl)
theorem Wd.n_enumerate : mg (Str.ofString "enumerate") = none := w.mgn (by kernel_rfl)
theorem Wd.b_enumerate : mb (Str.ofString "enumerate") = some (.type "enumerate") := w.mbv (by kernel_rfl)
theorem Wd.n_chr : mg (Str.ofString "chr") = none := w.mgn (by kernel_rfl)
theorem Wd.b_chr : mb (Str.ofString "chr") = some (.builtin "chr") := w.mbv (by kernel_rfl)
end
noncomputable def f28 : FnD 28 := ⟨_, _, fun _ => ⟨_, _, _, rfl⟩, rfl⟩
noncomputable def f58 : FnD 58 := ⟨_, _, fun _ => ⟨_, _, _, rfl⟩, rfl⟩
noncomputable def f67 : FnD 67 := ⟨_, _, fun _ => ⟨_, _, _, rfl⟩, rfl⟩
noncomputable def f76 : FnD 76 := ⟨_, _, fun _ => ⟨_, _, _, rfl⟩, rfl⟩
noncomputable def f85 : FnD 85 := ⟨_, _, fun _ => ⟨_, _, _, rfl⟩, rfl⟩
noncomputable def f102 : FnD 102 := ⟨_, _, fun _ => ⟨_, _, _, rfl⟩, rfl⟩
noncomputable def f116 : FnD 116 := ⟨_, _, fun _ => ⟨_, _, _, rfl⟩, rfl⟩
noncomputable def f158 : FnD 158 := ⟨_, _, fun _ => ⟨_, _, _, rfl⟩, rfl⟩
noncomputable def f165 : FnD 165 := ⟨_, _, fun _ => ⟨_, _, _, rfl⟩, rfl⟩
noncomputable def f172 : FnD 172 := ⟨_, _, fun _ => ⟨_, _, _, rfl⟩, rfl⟩
noncomputable def f177 : FnD 177 := ⟨_, _, fun _ => ⟨_, _, _, rfl⟩, rfl⟩
noncomputable def f184 : FnD 184 := ⟨_, _, fun _ => ⟨_, _, _, rfl⟩, rfl⟩
noncomputable def f189 : FnD 189 := ⟨_, _, fun _ => ⟨_, _, _, rfl⟩, rfl⟩
noncomputable def f194 : FnD 194 := ⟨_, _, fun _ => ⟨_, _, _, rfl⟩, rfl⟩
noncomputable def f201 : FnD 201 := ⟨_, _, fun _ => ⟨_, _, _, rfl⟩, rfl⟩
noncomputable def f208 : FnD 208 := ⟨_, _, fun _ => ⟨_, _, _, rfl⟩, rfl⟩
noncomputable def f42 : FnD 42 := ⟨_, _, fun _ => ⟨_, _, _, rfl⟩, rfl⟩

end Mine
end
section
open PySem PySem.W PySem.Calls PyProof.Rows
set_option Elab.async false
set_option linter.unusedVariables false
set_option linter.unusedSectionVars false
namespace Mine

def codeR (M : Model) (A : Around) (c : Code) (R : Result → Shared → Prop) (s : Shared) : Prop :=
  ∀ Γ p, Γ.code = c → Γ.Below A → Calm Γ → wpCode M Γ R p s

section
variable {α β : Type} {M : Model} {A : Around} {E : Value → Shared → Prop} {s : Shared}
theorem wpR_of {t : Sem α} {Q : α → Shared → Prop} (h : wpAny M A t Q E s) : wpR M A t Q E s := fun Γ p hΓ _ => h Γ p hΓ
theorem codeR_of {c : Code} {R : Result → Shared → Prop} (h : codeAny M A c R s) : codeR M A c R s := fun Γ p hc hΓ _ => h Γ p hc hΓ
theorem wpR_mono {t : Sem α} {Q Q' : α → Shared → Prop} {E' : Value → Shared → Prop} (h : wpR M A t Q E s) (hQ : ∀ a s, Q a s → Q' a s) (hE : ∀ e s, E e s → E' e s) : wpR M A t Q' E' s :=
  fun Γ p hΓ k => Sem.wp_mono M Γ t (fun a _ s => hQ a s) (fun e _ s => hE e s) p s (h Γ p hΓ k)
theorem codeR_mono {c : Code} {R R' : Result → Shared → Prop} (h : codeR M A c R s) (hR : ∀ r s, R r s → R' r s) : codeR M A c R' s :=
  fun Γ p hc hΓ k => wpCode_mono hR (h Γ p hc hΓ k)
theorem wpR_bind {m : Sem α} {f : α → Sem β} {Q : β → Shared → Prop} (h : wpR M A m (fun a s' => wpR M A (f a) Q E s') E s) : wpR M A (m >>= f) Q E s := fun Γ p hΓ k => by
  rw [Sem.wp_bind']
  exact Sem.wp_mono M Γ m (fun a p' s' q => q Γ p' hΓ k) (fun _ _ _ q => q) p s (h Γ p hΓ k)
theorem wpR_pure {a : α} {Q : α → Shared → Prop} (h : Q a s) : wpR M A (pure a) Q E s := wpR_of (wpAny_pure h)
theorem wpR_holding {vs : List Value} {m : Sem α} {Q : α → Shared → Prop} (h : wpR M A m Q E s) : wpR M A (holding vs m) Q E s := fun Γ p hΓ k => by
  rw [Sem.wp_holding]; exact h Γ p hΓ k
theorem wpR_keep {vs : List Value} {m : Sem α} {Q : α → Shared → Prop} (h : wpR M A m Q E s) : wpR M A (m.keep vs) Q E s := fun Γ p hΓ k => by
  rw [Sem.wp_keep]; exact h Γ p hΓ k
theorem wpR_operate {vs : List Value} {m : Sem Value} {Q : Value → Shared → Prop} (h : wpR M A m Q E s) : wpR M A (operate vs m) Q E s := fun Γ p hΓ k => by
  rw [Sem.wp_operate]; exact h Γ p hΓ k
theorem wpR_onRaise {m : Sem α} {j : Value → Sem Unit} {Q : α → Shared → Prop} (h : wpR M A m Q (fun _ _ => False) s) : wpR M A (m.onRaise j) Q E s := fun Γ p hΓ k => by
  rw [Sem.wp_onRaise]
  exact Sem.wp_mono M Γ m (fun _ _ _ q => q) (fun _ _ _ q => q.elim) p s (h Γ p hΓ k)
theorem calm_enter {Γ : Ctx} {c : Code} {h : Option Value} {p : Pos} (k : Calm Γ) (hc : isDec c = false) : Calm (Γ.enter c h p) :=
  ⟨hc, fun x hx => by
    rcases List.mem_cons.mp hx with rfl | hx
    · exact k.top
    · exact k.low x hx⟩
theorem calm_goto {Γ : Ctx} {c : Code} (k : Calm Γ) (hc : isDec c = false) : Calm (Γ.goto c) := ⟨hc, k.low⟩
theorem wpR_run {c : Code} {h : Option Value} {Q : Flow → Shared → Prop} (hd : isDec c = false) (hnb : h ≠ some byPass)
    (hc : codeR M (A.mark h) c (fun r s' => match r with | .ok f => Q f s' | .error e => E e s') s) : wpR M A (run c h) Q E s := fun Γ p hΓ k => by
  rw [Sem.wp_run]; exact hc _ p rfl (hΓ.enter c h p hnb) (calm_enter k hd)
theorem wpR_runValue {c : Code} {Q : Value → Shared → Prop} (hd : isDec c = false)
    (hc : codeR M A c (fun r s' => match r with | .ok (.ret v) => Q v s' | .ok _ => False | .error e => E e s') s) : wpR M A (runValue c) Q E s := fun Γ p hΓ k => by
  rw [Sem.wp_runValue]; exact hc _ p rfl (hΓ.enter c none p (by intro x; cases x)) (calm_enter k hd)
theorem codeR_tree {c : Code} {R : Result → Shared → Prop}
    (h : wpR M (A.under c) (M.den c) (fun fin s' => match fin with | .done f => R (.ok f) s' | .again c' => c'.quiet = true ∧ isDec c' = false ∧ codeR M A c' R s') (fun e s' => R (.error e) s') s) :
    codeR M A c R s := fun Γ p hc hΓ k => by
  rw [wpCode_iff_wp, hc]
  refine Sem.wp_mono M Γ _ (fun fin p' s' q => ?_) (fun _ _ _ q => q) p s (h Γ p (hc ▸ hΓ.in) k)
  cases fin with
  | done f => exact q
  | again c' => exact ⟨q.1, q.2.2 _ p' rfl (hΓ.goto c') (calm_goto k q.2.1)⟩
theorem codeR_loop {c : Code} {R : Result → Shared → Prop} (hq : c.quiet = true) (hd : isDec c = false) (I : Nat → Shared → Prop)
    (turn : ∀ j s, I j s → wpR M (A.under c) (M.den c) (fun fin s' => match fin with
      | .done f => R (.ok f) s'
      | .again c' => (c' = c ∧ ∃ i, i < j ∧ I i s') ∨ (c'.quiet = true ∧ isDec c' = false ∧ codeR M A c' R s')) (fun e s' => R (.error e) s') s) :
    ∀ (j : Nat) (s : Shared), I j s → codeR M A c R s := fun j => by
  induction j using Nat.strongRecOn with
  | ind j ih =>
    intro s hI
    refine codeR_tree (wpR_mono (turn j s hI) (fun fin s' q => ?_) fun _ _ q => q)
    cases fin with
    | done f => exact q
    | again c' =>
      rcases q with ⟨rfl, i, hi, hI⟩ | q
      · exact ⟨hq, hd, ih i hi s' hI⟩
      · exact q
end

/-- as W, over calm stacks -/
def WR {α : Type} (C : WC) (n : Nat) (K : KH) (O : OL) (t : Sem α) (Q : α → KH → OL → Prop) : Prop :=
  ∀ A, AOk n A → ∀ s, Sat C K O s → wpR (model C.prog C.w) A t (fun v s' => ∃ K' O', Sat C K' O' s' ∧ Q v K' O') (fun _ _ => False) s
def WRd (C : WC) (n : Nat) (K : KH) (O : OL) (c : Code) (R : Flow → KH → OL → Prop) : Prop :=
  ∀ A, AOk n A → ∀ s, Sat C K O s → codeR (model C.prog C.w) A c (fun r s' => match r with | .ok f => ∃ K' O', Sat C K' O' s' ∧ R f K' O' | .error _ => False) s

section
variable {α β : Type} {C : WC} {n : Nat} {K : KH} {O O' : OL} {A : Around} {s : Shared} {env : Env} {x : Str} {pos : Pos}

theorem W.r {t : Sem α} {Q : α → KH → OL → Prop} (h : W C n K O t Q) : WR C n K O t Q := fun A hA s S => wpR_of (h A hA s S)
theorem WCd.r {c : Code} {R : Flow → KH → OL → Prop} (h : WCd C n K O c R) : WRd C n K O c R := fun A hA s S => codeR_of (h A hA s S)
theorem WR.to {t : Sem α} {Q : α → KH → OL → Prop} (h : WR C n K O t Q) (hA : AOk n A) (S : Sat C K O s) {Q' : α → Shared → Prop} {E : Value → Shared → Prop}
    (hQ : ∀ v s' K' O', Sat C K' O' s' → Q v K' O' → Q' v s') : wpR (model C.prog C.w) A t Q' E s :=
  wpR_mono (h A hA s S) (fun v s' ⟨K', O', S', q⟩ => hQ v s' K' O' S' q) (fun _ _ x => x.elim)
theorem WR_mono {t : Sem α} {Q Q' : α → KH → OL → Prop} (h : WR C n K O t Q) (hQ : ∀ v K' O', Q v K' O' → Q' v K' O') : WR C n K O t Q' :=
  fun _ hA _ S => h.to hA S fun _ _ K' O' S' q => ⟨K', O', S', hQ _ _ _ q⟩
theorem WR_eq {t t' : Sem α} {Q : α → KH → OL → Prop} (e : t = t') (h : WR C n K O t' Q) : WR C n K O t Q := e ▸ h
theorem WR_bind {m : Sem α} {f : α → Sem β} {Q : β → KH → OL → Prop} (h : WR C n K O m fun a K O => WR C n K O (f a) Q) : WR C n K O (m >>= f) Q :=
  fun A hA _ S => wpR_bind (h.to hA S fun _ s' _ _ S' q => q A hA s' S')
theorem WR_bindW {m : Sem α} {f : α → Sem β} {Q : β → KH → OL → Prop} (h : W C n K O m fun a K O => WR C n K O (f a) Q) : WR C n K O (m >>= f) Q := WR_bind h.r
theorem WR_pure {a : α} {Q : α → KH → OL → Prop} (h : Q a K O) : WR C n K O (pure a) Q := (W_pure h).r
theorem WR_standAt {pos : Pos} {Q : Unit → KH → OL → Prop} (h : Q () K O) : WR C n K O (standAt pos) Q := (W_standAt h).r
theorem WR_holding {vs : List Value} {m : Sem α} {Q : α → KH → OL → Prop} (h : WR C n K O m Q) : WR C n K O (holding vs m) Q := fun A hA s S => wpR_holding (h A hA s S)
theorem WR_keep {vs : List Value} {m : Sem α} {Q : α → KH → OL → Prop} (h : WR C n K O m Q) : WR C n K O (m.keep vs) Q := fun A hA s S => wpR_keep (h A hA s S)
theorem WR_operate {vs : List Value} {m : Sem Value} {Q : Value → KH → OL → Prop} (h : WR C n K O m Q) : WR C n K O (operate vs m) Q := fun A hA s S => wpR_operate (h A hA s S)
theorem WR_weak {t : Sem α} {Q : α → KH → OL → Prop} (h : WR C n K O t fun v K O => ∃ O₂, O₂.Sublist O ∧ Q v K O₂) : WR C n K O t Q :=
  fun A hA s S => h.to hA S fun _ s' K' O' S' ⟨O₂, hs, q⟩ => ⟨K', O₂, S'.sub hs, q⟩
theorem WR_sub {O' : OL} {t : Sem α} {Q : α → KH → OL → Prop} (hs : O'.Sublist O) (h : WR C n K O' t Q) : WR C n K O t Q := fun A hA s S => h A hA s (S.sub hs)
theorem WR_freeze {a : Addr} {x : AO} {t : Sem α} {Q : α → KH → OL → Prop} (h : ∀ K', KLe K K' → K' a = some x → WR C n K' O t Q) : WR C n K ((a, x) :: O) t Q :=
  fun A hA s S => let ⟨K', h1, h2, S'⟩ := S.freeze; h K' h1 h2 A hA s S'

/- what goes on behind a tree, named -/
section
variable {α β γ : Type} (C : WC) (n : Nat)
abbrev KR0 (t : Sem β) (Q : β → KH → OL → Prop) (_ : α) (K : KH) (O : OL) : Prop := WR C n K O t Q
abbrev KR2 (t : Sem β) (f : α → β → Sem γ) (Q : γ → KH → OL → Prop) (a : α) (K : KH) (O : OL) : Prop := WR C n K O t (K1 C n (f a) Q)
abbrev NextR (rest : List Stmt) (env : Env) (Q : Flow → KH → OL → Prop) (f : Flow) (K : KH) (O : OL) : Prop := match f with | .next => WR C n K O (execs rest env) Q | f => Q f K O
abbrev CallR (pos : Pos) (args : List Expr) (keywords : List Keyword) (env : Env) (Q : Value → KH → OL → Prop) (f : Value) (K : KH) (O : OL) : Prop :=
  WR C n K O (callWith pos f [] (backTo pos (starEach args env)) (backToKw pos (keywordEach keywords env))) Q
abbrev ArgR (pos : Pos) (rest : List Expr) (env : Env) (Q : List Value → KH → OL → Prop) (v : Value) (K : KH) (O : OL) : Prop := WR C n K O (spliced (backTo pos (starEach rest env))) (ConsQ Q v)
abbrev SplR (rest : List (Bool × Sem Value)) (Q : List Value → KH → OL → Prop) (v : Value) (K : KH) (O : OL) : Prop := WR C n K O (spliced rest) (ConsQ Q v)
abbrev CallVsR (f : Value) (Q : Value → KH → OL → Prop) (vs : List Value) (K : KH) (O : OL) : Prop := WR C n K O (call f vs []) Q
abbrev CallMsR (f ov : Value) (Q : Value → KH → OL → Prop) (vs : List Value) (K : KH) (O : OL) : Prop := WR C n K O (call f (ov :: vs) []) Q
abbrev FnVsR (a : Addr) (fd : FuncData) (Q : Value → KH → OL → Prop) (vs : List Value) (K : KH) (O : OL) : Prop := FnAt C K O a fd ∧ WR C n K O (call (.ref a) vs []) Q
abbrev ForR2 (target : Expr) (body : List Stmt) (env : Env) (Q : Flow → KH → OL → Prop) (it : Value) (K : KH) (O : OL) : Prop := WRd C n K O (.forLoop target it body [] env) Q
abbrev ForR (target : Expr) (body : List Stmt) (env : Env) (Q : Flow → KH → OL → Prop) (v : Value) (K : KH) (O : OL) : Prop := W C n K O (pyIter v) (ForR2 C n target body env Q)
end
/- statements -/
theorem WR_execs_cons {st : Stmt} {rest : List Stmt} {Q : Flow → KH → OL → Prop}
    (h : WR C n K O (exec st env) (NextR C n rest env Q)) : WR C n K O (execs (st :: rest) env) Q :=
  WR_eq (execs_cons ..) (WR_bind (WR_mono h fun f K O q => by
    cases f with
    | next => exact q
    | brk => exact WR_pure q
    | cont => exact WR_pure q
    | ret v => exact WR_pure q))
theorem WR_execs_step {b : List Stmt} {st : Stmt} {rest : List Stmt} {Q : Flow → KH → OL → Prop} (e : b = st :: rest)
    (h : WR C n K O (exec st env) (NextR C n rest env Q)) : WR C n K O (execs b env) Q := e ▸ WR_execs_cons h
theorem WR_Assign1 {p' : Pos} {value : Expr} {Q : Flow → KH → OL → Prop} (h : WR C n K O (eval value env) (K1 C n (storeName env x) (NQ Q)))
    (hs : swapsWith value (some (.Name x p')) pos.line env = pure false := by rfl) : WR C n K O (exec (.Assign [.Name x p'] value pos) env) Q := fun A hA s S Γ p hΓ k => by
  simp only [exec_Assign_Name env x p' value pos hs, Sem.wp_bind', Sem.wp_cmd_standAt, Sem.wp_bindName, Sem.wp_pure']
  refine Sem.wp_mono _ Γ _ (fun v p' s' ⟨K', O', S', q⟩ => ?_) (fun _ _ _ q => q) _ _ (h A hA s S Γ _ hΓ k)
  exact q A hA s' S' Γ _ hΓ
theorem WR_Expr {e : Expr} {Q : Flow → KH → OL → Prop} (h : WR C n K O (eval e env) (ExprQ Q))
    (hi : interactive env = false := by rfl) (hs : swapsWith e none pos.line env = pure false := by rfl) : WR C n K O (exec (.Expr e pos) env) Q :=
  WR_eq (exec_Expr env e pos hi hs) (WR_bind (WR_standAt (WR_bind (WR_mono h fun v K O h => by rw [dropValue_plain h.1]; exact WR_pure h.2))))
theorem WR_BinOp {l r : Expr} {op : Operator} {Q : Value → KH → OL → Prop}
    (h : WR C n K O (eval l env) (KR2 C n (eval r env) (binaryOp op) Q)) : WR C n K O (eval (.BinOp l op r pos) env) Q :=
  WR_eq (arm_eval_BinOp ..) (WR_bind (WR_mono h fun a K O h => WR_bind (WR_holding (WR_mono h fun b K O h => WR_bind (WR_standAt (W_operate h).r)))))

/- calls -/
theorem WR_CallName {y : Str} {p : Pos} {args : List Expr} {keywords : List Keyword} {Q : Value → KH → OL → Prop}
    (h : W C n K O (eval (.Name y p) env) (CallR C n pos args keywords env Q)) :
    WR C n K O (eval (.Call (.Name y p) args keywords pos) env) Q :=
  WR_eq (arm_eval_Call_Name' ..) (WR_bindW h)
theorem WR_spliced_cons {t : Sem Value} {rest : List (Bool × Sem Value)} {Q : List Value → KH → OL → Prop}
    (h : WR C n K O t (SplR C n rest Q)) : WR C n K O (spliced ((false, t) :: rest)) Q := by
  rw [spliced]
  refine WR_bind (WR_mono h fun v K O h => ?_)
  simp only [Bool.false_eq_true, if_false]
  exact WR_bind (WR_pure (WR_bind (WR_holding (WR_mono h fun vs K O q => WR_pure q))))
theorem WR_evalArgs {f : Value} {t : Sem Value} {rest : List (Bool × Sem Value)} {Q : Args → KH → OL → Prop}
    (h : WR C n K O (spliced ((false, t) :: rest)) fun vs K O => Q ⟨vs, []⟩ K O) : WR C n K O (evalArgs f true ((false, t) :: rest) []) Q := by
  unfold evalArgs
  show WR C n K O (spliced ((false, t) :: rest) >>= _) Q
  exact WR_bind (WR_mono h fun vs K O q => WR_holding (WR_bind (WR_pure (WR_bind (WR_pure (WR_pure q))))))
theorem WR_args_cons {e : Expr} {rest : List Expr} {Q : List Value → KH → OL → Prop}
    (h : WR C n K O (eval e env) (ArgR C n pos rest env Q))
    (he : starEach (e :: rest) env = (false, eval e env) :: starEach rest env := by rfl) : WR C n K O (spliced (backTo pos (starEach (e :: rest) env))) Q := by
  rw [he, backTo_cons]; exact WR_spliced_cons h
theorem WR_callWithFn {a : Addr} {fd : FuncData} {first : List Value} {args : List (Bool × Sem Value)} {Q : Value → KH → OL → Prop}
    (h : WR C n K O (evalArgs (.ref a) true args []) fun x K O => FnAt C K O a fd ∧ WR C n K O (call (.ref a) (first ++ x.pos) x.kw) Q) : WR C n K O (callWith pos (.ref a) first args []) Q := by
  intro A hA s S
  unfold callWith
  refine wpR_bind (wpR_holding (h.to hA S fun x s₁ K' O' S' q => wpR_bind (wpR_of (wpAny_standAt ?_))))
  obtain ⟨hf, hw⟩ := q
  obtain ⟨o, ho, hd⟩ := hf s₁ S'
  have hw := hw A hA s₁ S'
  have tail : ∀ {t : Sem Value}, wpR (model C.prog C.w) A t (fun v s' => ∃ K' O', Sat C K' O' s' ∧ Q v K' O') (fun _ _ => False) s₁ →
      wpR (model C.prog C.w) A (t >>= fun r => holding [r] point >>= fun _ => pure r) (fun v s' => ∃ K' O', Sat C K' O' s' ∧ Q v K' O') (fun _ _ => False) s₁ :=
    fun ht => wpR_bind (wpR_mono ht (fun r s₂ hr => wpR_bind (wpR_holding (wpR_of (wpAny_point (wpR_pure hr))))) fun _ _ x => x)
  cases hs : args.any (·.1) <;> simp only [List.any_nil, Bool.or_false] <;>
    refine wpR_bind (m := keeperOf (.ref a)) (wpR_of ?_) <;> unfold keeperOf <;>
    refine wpAny_bind (wpAny_load ho ?_) <;> rw [hd] <;> refine wpAny_pure ?_
  all_goals dsimp only
  · by_cases hl : args.length + 2 * ([] : List (Option Str × Sem Value)).length > 30
    · rw [if_pos hl]; exact tail hw
    · rw [if_neg hl]; exact tail (wpR_keep (m := call (.ref a) (first ++ x.pos) x.kw) hw)
  · exact tail (wpR_keep (m := call (.ref a) (first ++ x.pos) x.kw) hw)
theorem WR_callWithB {f : Value} {first : List Value} {args : List (Bool × Sem Value)} {Q : Value → KH → OL → Prop} (hplain : args.any (·.1) = false) (hf : keeperOf f = pure .machine)
    (h : WR C n K O (evalArgs f true args []) fun x K O => WR C n K O (call f (first ++ x.pos) x.kw) Q) : WR C n K O (callWith pos f first args []) Q := by
  unfold callWith
  refine WR_bind (WR_holding (WR_mono h fun x K O h => WR_bind (WR_standAt ?_)))
  simp only [hplain, List.any_nil, Bool.or_false]
  rw [hf]
  refine WR_bind (WR_pure ?_)
  exact WR_bind (WR_mono h fun r K O h => WR_bind (WR_holding (W_point (WR_pure h)).r))
theorem WR_callB {f : Value} {e : Expr} {rest : List Expr} {Q : Value → KH → OL → Prop} (hf : keeperOf f = pure .machine)
    (h : WR C n K O (spliced (backTo pos (starEach (e :: rest) env))) (CallVsR C n f Q))
    (he : starEach (e :: rest) env = (false, eval e env) :: starEach rest env := by rfl) (hp : (backTo pos (starEach (e :: rest) env)).any (·.1) = false := by rfl) :
    WR C n K O (callWith pos f [] (backTo pos (starEach (e :: rest) env)) (backToKw pos (keywordEach [] env))) Q := by
  refine WR_callWithB hp hf ?_
  rw [he, backTo_cons] at h ⊢
  exact WR_evalArgs h
theorem WR_callF {a : Addr} {fd : FuncData} {e : Expr} {rest : List Expr} {Q : Value → KH → OL → Prop}
    (h : WR C n K O (spliced (backTo pos (starEach (e :: rest) env))) (FnVsR C n a fd Q))
    (he : starEach (e :: rest) env = (false, eval e env) :: starEach rest env := by rfl) :
    WR C n K O (callWith pos (.ref a) [] (backTo pos (starEach (e :: rest) env)) (backToKw pos (keywordEach [] env))) Q := by
  refine WR_callWithFn (fd := fd) ?_
  rw [he, backTo_cons] at h ⊢
  exact WR_evalArgs h
theorem WR_callM {f ov : Value} {e : Expr} {rest : List Expr} {Q : Value → KH → OL → Prop}
    (h : WR C n K O (spliced (backTo pos (starEach (e :: rest) env))) (CallMsR C n f ov Q))
    (he : starEach (e :: rest) env = (false, eval e env) :: starEach rest env := by rfl) :
    WR C n K O (evalArgs f true (backTo pos (starEach (e :: rest) env)) []) fun x K O => WR C n K O (call f ([ov] ++ x.pos) x.kw) Q := by
  rw [he, backTo_cons] at h ⊢
  exact WR_evalArgs h

theorem WRd_func {body : List Stmt} {R : Flow → KH → OL → Prop} (h : WR C (n + 1) K O (execs body env) fun f K O => R (.ret (match f with | .ret v => v | _ => .none)) K O) : WRd C n K O (.func body env) R := fun A hA s S => by
  refine codeR_tree ?_
  show wpR _ (A.deeper env) (do point; match ← (execs body env).onRaise (leaving env) with | .ret v => ret v | _ => ret .none) _ _ s
  refine wpR_bind (wpR_of (wpAny_point ?_))
  refine wpR_bind (wpR_onRaise (h.to (hA.deeper env) S fun f s' K' O' S' q => ?_))
  cases f <;> exact wpR_pure ⟨K', O', S', q⟩
theorem WR_callCode {f : Value} {pos : List Value} {kw : List (Str × Value)} {Q : Value → KH → OL → Prop} (h : WRd C n K O (.call f ⟨pos, kw⟩) fun f K O => ∃ v, f = .ret v ∧ Q v K O) : WR C n K O (call f pos kw) Q :=
  fun A hA s S => wpR_runValue rfl (codeR_mono (h A hA s S) fun r s' hr => by
    cases r with
    | error e => exact hr.elim
    | ok f => obtain ⟨K', O', S', v, rfl, q⟩ := hr; exact ⟨K', O', S', q⟩)
theorem WR_callFn {a : Addr} {fd : FuncData} {body : List Stmt} {ps : List Value} {kw : List (Str × Value)} {binds : List (Str × Value)} {Q : Value → KH → OL → Prop} (hn : n ≤ 390)
    (hf : FnAt C K O a fd) (hlim : C.G.NoLimit) (hcd : ∀ s, Sat C K O s → s.heap.CodeRec fd.code fd.qualname) (hbody : fd.body = .stmts body)
    (hbind : ∀ s, Sat C K O s → BindsTo s fd ⟨ps, kw⟩ binds)
    (h : ∀ L, LayC fd.scope.names fd.closure ((L, .ns nom) :: O) fun cells O' => W C (n + 1) K O' (storeBinds (fnEnv fd a L cells) binds) (KR0 C (n + 1) (execs body (fnEnv fd a L cells)) (RetK Q)))
    (hco : fd.scope.isCoroutine = false := by rfl) (hgen : fd.scope.isGenerator = false := by rfl) : WR C n K O (call (.ref a) ps kw) Q :=
  WR_callCode fun A hA s S => by
    obtain ⟨o, ho, hd⟩ := hf s S
    obtain ⟨c, oc, vs, tq, hc, hoc, hdc, hq⟩ := hcd s S
    refine codeR_tree ?_
    show wpR _ A.in1 (callAny (.ref a) ⟨ps, kw⟩) _ _ s
    simp only [callAny]
    refine wpR_bind (wpR_of (wpAny_load ho ?_))
    simp only [hd, callFunction, hco, hgen, hbody, hc]
    refine wpR_bind (m := field (.ref c) 1) (wpR_of (wpAny_field hoc hdc hq ?_))
    refine wpR_bind (wpR_pure ?_)
    refine wpR_bind (wpR_of (hbind s S _ _ _ _ ?_))
    have hnew : W C (n + 1) K O (newFunctionEnv fd.scope fd.globals fd.closure binds (fd.qualname ++ ".<locals>.") (some a) (.ref c) none fd.builtins) fun env K' O' => WRd C n K' O' (.func body env) fun f K O => ∃ v, f = .ret v ∧ Q v K O := by
      refine W_newEnv fun L => ?_
      have h := h L
      unfold fnEnv at h
      rw [hc] at h
      refine W_newEnv.layC_mono h fun cells O' hw => W_mono hw fun _ K' O' hw => WRd_func (WR_weak (WR_mono hw fun f K' O' hq => ?_))
      obtain ⟨O₂, hs, q⟩ := hq
      exact ⟨O₂, hs, _, rfl, by cases f <;> exact q⟩
    refine wpR_bind (wpR_of (hnew.to hA.in1 S fun env s' K' O' S' q => ?_))
    refine wpR_bind (wpR_of (wpAny_enterFrame (hlim.keeps S'.base) (hA.room (by omega)) ?_))
    exact wpR_pure (And.intro rfl (And.intro rfl (q A hA s' S')))

/- the loop -/
theorem WRd_run {c : Code} {Q : Flow → KH → OL → Prop} (hd : isDec c = false) (h : WRd C n K O c Q) : WR C n K O (runOwn c env none) Q := fun A hA s S => by
  unfold runOwn
  exact wpR_onRaise (wpR_run hd (by intro x; cases x) (codeR_mono (h A hA s S) fun r s' hr => by
    cases r with
    | ok f => exact hr
    | error e => exact hr.elim))
theorem WRd_for {target : Expr} {it : Value} {body : List Stmt} {R : Flow → KH → OL → Prop} (I : Nat → KH → OL → Prop)
    (turn : ∀ j K O, I j K O → W C n K O (pyNext it) fun r K O => match r with
      | none => R .next K O
      | some v => W C n K O (letOwnedTupleGo target it v) fun _ K O => W C n K O (assign target env v) fun _ K O => WR C n K O (execs body env) fun f K O => match f with
        | .next | .cont => ∃ i, i < j ∧ I i K O
        | .brk => R .next K O
        | .ret v => R (.ret v) K O)
    (j : Nat) (h : I j K O) : WRd C n K O (.forLoop target it body [] env) R := fun A hA s S => by
  refine codeR_loop rfl rfl (fun j s => ∃ K' O', Sat C K' O' s ∧ I j K' O') (fun j s hI => ?_) j s ⟨K, O, S, h⟩
  obtain ⟨K', O', S', hI⟩ := hI
  show wpR _ _ ((forTurn target it body [] env).onRaise (fun x => do noteFrame x env; theTreesLotGoes x)) _ _ s
  refine wpR_onRaise ?_
  simp only [forTurn]
  have hA' : AOk n (A.under (Code.forLoop target it body [] env)) := hA
  refine wpR_bind (wpR_of (wpAny_standAt ?_))
  refine wpR_bind (wpR_onRaise ((turn j K' O' hI).r.to hA' S' fun r s' K' O' S' q => ?_))
  cases r with
  | none => exact wpR_pure (.inr ⟨rfl, rfl, codeR_of (codeAny_block (wpAny_execs_nil ⟨K', O', S', q⟩))⟩)
  | some v =>
    refine wpR_bind ((W.r q).to hA' S' fun _ s' K' O' S' q => wpR_bind ((W.r q).to hA' S' fun _ s' K' O' S' q => wpR_bind (WR.to q hA' S' fun f s' K' O' S' q => ?_)))
    cases f with
    | next => obtain ⟨i, hi, q⟩ := q; exact wpR_pure (.inl ⟨rfl, i, hi, K', O', S', q⟩)
    | cont => obtain ⟨i, hi, q⟩ := q; exact wpR_pure (.inl ⟨rfl, i, hi, K', O', S', q⟩)
    | brk => exact wpR_pure ⟨K', O', S', q⟩
    | ret v => exact wpR_pure ⟨K', O', S', q⟩
theorem WR_For {target iter : Expr} {body : List Stmt} {Q : Flow → KH → OL → Prop}
    (h : W C n K O (eval iter env) (ForR C n target body env Q))
    (hs : ∀ x, foldedSetIterable iter env x = pure x := by intro _; rfl) : WR C n K O (exec (.For target iter body [] pos) env) Q :=
  WR_eq (exec_For ..) (WR_bind (WR_standAt (WR_bindW (W_mono h fun v K O h => by
    rw [hs v]
    exact WR_bind (WR_pure (WR_bind (WR_standAt (WR_bind (WR_holding (W_mono h fun it K O h => WRd_run rfl h).r)))))))))
theorem WRd_forGen {target : Expr} {it : Addr} {body : List Stmt} {R : Flow → KH → OL → Prop} (N : Nat) (st : Nat → AO) (I : Nat → KH → OL → Prop)
    (next : ∀ j K O, j ≤ N → I j K O → W C n K ((it, st j) :: O) (pyNext (.ref it)) fun r K' O' =>
      (j < N ∧ ∃ v, r = some v ∧ W C n K' O' (letOwnedTupleGo target (.ref it) v) fun _ K' O' => W C n K' O' (assign target env v) fun _ K' O' => WR C n K' O' (execs body env) (TurnOk (I (j + 1)) it (st (j + 1)) R)) ∨
      (r = none ∧ R .next K' O'))
    (h : I 0 K O) : WRd C n K ((it, st 0) :: O) (.forLoop target (.ref it) body [] env) R := by
  refine WRd_for (fun m K O => ∃ j O₀, m = N - j ∧ j ≤ N ∧ O = (it, st j) :: O₀ ∧ I j K O₀) ?_ N ⟨0, O, rfl, Nat.zero_le _, rfl, h⟩
  rintro m K O ⟨j, O₀, rfl, hj, rfl, hI⟩
  refine W_mono (next j K O₀ hj hI) fun r K' O' hr => ?_
  rcases hr with ⟨hlt, v, rfl, hw⟩ | ⟨rfl, hR⟩
  · refine W_mono hw fun _ K' O' hw => W_mono hw fun _ K' O' hw => WR_weak (WR_mono hw fun f K' O' hf => ?_)
    cases f with
    | next => obtain ⟨O₃, hs, hi⟩ := hf; exact ⟨_, hs, N - (j + 1), by omega, j + 1, O₃, rfl, hlt, rfl, hi⟩
    | cont => obtain ⟨O₃, hs, hi⟩ := hf; exact ⟨_, hs, N - (j + 1), by omega, j + 1, O₃, rfl, hlt, rfl, hi⟩
    | brk => exact hf
    | ret v => exact hf
  · exact hR
theorem WRd_forList {y : Str} {p : Pos} {it l : Addr} {vs : List Value} {body : List Stmt} {R : Flow → KH → OL → Prop} (I : Nat → KH → OL → Prop)
    (hl : ∀ j K O st, I j K O → LstAt C K ((it, st) :: O) l vs)
    (turn : ∀ j K O st v, vs[j]? = some v → I j K O → W C n K ((it, st) :: O) (storeName env y v) (KR0 C n (execs body env) (TurnJ I (j + 1) it st R)))
    (done : ∀ K O, I vs.length K O → R .next K O) (h : I 0 K O) : WRd C n K ((it, lit l 0) :: O) (.forLoop (.Name y p) (.ref it) body [] env) R := by
  refine WRd_forGen vs.length (fun j => lit l j) I (fun j K O hj hI => ?_) h
  rcases Nat.lt_or_ge j vs.length with hlt | hge
  · have hx := List.getElem?_eq_getElem hlt
    exact W_nextList .here (hl j K O _ hI) hx (.inl ⟨hlt, _, rfl, W_ownedName (W_assignName (turn j K O _ _ hx hI))⟩)
  · have : j = vs.length := by omega
    subst this
    exact W_nextListEnd .here (hl _ K O _ hI) (by simp) (.inr ⟨rfl, done _ _ hI⟩)
end

section
variable {C : WC} {mg mb : Str → Option Value} (w : Wd C mg mb)
include w
theorem Wd.callR {a : Addr} (F : FnD a) {n : Nat} {K : KH} {O : OL} {ps : List Value} {kw : List (Str × Value)} (binds : List (Str × Value)) {Q : Value → KH → OL → Prop} (hn : n ≤ 390)
    (h3 : codeIn (hd.heap_1 C.w.params) F.fd.code F.fd.qualname = true)
    (h4 : ∀ S, peek (hd.heap_1 C.w.params) S (bindArgs F.fd ⟨ps, kw⟩) = some binds) (h5 : F.fd.scope.isCoroutine = false) (h6 : F.fd.scope.isGenerator = false)
    (h : ∀ L, LayC F.fd.scope.names F.fd.closure ((L, .ns nom) :: O) fun cells O' => W C (n + 1) K O' (storeBinds (fnEnv F.fd a L cells) binds) (KR0 C (n + 1) (execs F.body (fnEnv F.fd a L cells)) (RetK Q))) : WR C n K O (PySem.call (.ref a) ps kw) Q :=
  WR_callFn hn (w.fn F) w.lim (w.code h3) F.hb (w.binds h4) h h5 h6
end
end Mine
end
section
open PySem PySem.W PySem.Calls PyProof.Rows
set_option Elab.async false
set_option linter.unusedVariables false
set_option linter.unusedSectionVars false
set_option maxRecDepth 100000
set_option maxHeartbeats 4000000
namespace Mine

theorem ba_mro : mroOf (.type "bytearray") = pure [.type "bytearray", .type "object"] := by rw [mroOf_type]; kernel_rfl
theorem ba_lookup_new : typeLookup (.type "bytearray") "__new__" = pure (some (.builtin "bytearray.__new__")) := by rw [typeLookup_type, builtinLookup_eq_fast]; kernel_rfl
theorem ba_slot_init : Slot "bytearray" "__init__" "bytearray.__init__" :=
  .of (owner := "bytearray") (n := "__init__") (by rw [typeLookup_type, builtinLookup_eq_fast]; kernel_rfl) (by decide +kernel) (by decide +kernel) (by decide +kernel)
    (by first | exact .inl (by decide +kernel) | exact .inr (by decide +kernel)) (by rw [isSubtype_type]; kernel_rfl)
theorem ba_made : Bind.madeBy (.type "bytearray") = pure (some "bytearray.__new__") := madeBy_type ba_mro ba_lookup_new (by decide +kernel)
theorem ba_sub : isSubtype (.type "bytearray") (.type "bytearray") = pure true := by rw [isSubtype_type]; kernel_rfl
theorem ba_plain_new : plainId "bytearray.__new__" = true := by decide +kernel
theorem ba_typeCall (a : Value) : checkTypeCall "bytearray" ⟨[a], []⟩ = pure () := by kernel_rfl
theorem ba_newCall (a : Value) : checkBuiltinCall "bytearray.__new__" ⟨[.type "bytearray", a], []⟩ = pure () := by kernel_rfl
theorem ba_entry_new : entryFor table "bytearray.__new__" = some Builtin.«list.__new__» :=
  entryFor_alias (id' := "list.__new__") (by rw [fastTable_eq_tree]; kernel_rfl) (by first | rfl | decide +kernel) (by decide +kernel) (by rw [fastTable_eq_tree]; kernel_rfl)
theorem ba_entry_init : entryFor table "bytearray.__init__" = some Builtin.«bytearray.__init__» := by first | exact entryFor_of_fast (by kernel_rfl) | exact entryFor_of_tree (by kernel_rfl)
theorem ba_bind (v : Value) : Builtin.Bytes.bindOptional "bytearray.__init__" "bytearray" ["source", "encoding", "errors"] [v] [] = pure [some v, none, none] := by kernel_rfl
set_option maxRecDepth 1000000 in
set_option maxHeartbeats 4000000 in
theorem ba_owner : ("bytearray.__new__".splitOn ".__new__").headD "" = "bytearray" := by simp +decide [String.splitOn, String.splitOnAux]

section
variable {prog : Program} {w : World} {A : Around} {E : Value → Shared → Prop} {s : Shared}
theorem ba_new (a : Value) {Q₁ : Value → Shared → Prop}
    (h : Q₁ (.ref s.heap.objs.size) { s with heap := s.heap.push { cls := .type "bytearray", data := .bytearray #[] } }) :
    codeAny (model prog w) A (.call (.builtin "bytearray.__new__") ⟨[.type "bytearray", a], []⟩) (wants Q₁ E) s := by
  refine codeAny_of_tree ?_
  show wpAny _ A.in1 (do checkBuiltinCall "bytearray.__new__" ⟨[.type "bytearray", a], []⟩; again (.builtin "bytearray.__new__" ⟨[.type "bytearray", a], []⟩)) _ _ s
  refine wpAny_bind (wpAny_of_eq (ba_newCall a) (wpAny_pure ⟨plainId_quiet ba_plain_new _, codeAny_builtin_stack ba_entry_new rfl fun p st => ?_⟩))
  rw [Around.under_plainId ba_plain_new _]
  have hsub := ba_sub
  have hown := ba_owner
  obtain ⟨hp, g, d, tk, os⟩ := s
  simp only [hown]
  wp_walk
  exact h

theorem ba_args {a b : Value} : argsOk "bytearray.__init__" ⟨[a, b], []⟩ := by unfold argsOk; kernel_rfl
theorem ba_release : typeLookup (.type "bytearray") "__release_buffer__" = pure (some (.builtin "bytearray.__release_buffer__")) := by rw [typeLookup_type, builtinLookup_eq_fast]; kernel_rfl
theorem ba_index : typeLookup (.type "int") "__index__" = pure (some (.builtin "int.__index__")) := by rw [typeLookup_type, builtinLookup_eq_fast]; kernel_rfl
theorem ba_asStr (n : Int) (t : Tok) : asStr? (.int n t) = pure none := rfl
theorem ba_asIndex (n : Int) (t : Tok) : asIndex (.int n t) = pure n := rfl
theorem ba_if_neg {α : Type} {M : Model} {c : Prop} [Decidable c] {a b : Sem α} {Q : α → Shared → Prop} (hc : ¬ c) (h : wpAny M A b Q E s) : wpAny M A (if c then a else b) Q E s := by
  rw [if_neg hc]; exact h
theorem ba_if_pos {α : Type} {M : Model} {c : Prop} [Decidable c] {a b : Sem α} {Q : α → Shared → Prop} (hc : c) (h : wpAny M A a Q E s) : wpAny M A (if c then a else b) Q E s := by
  rw [if_pos hc]; exact h
theorem ba_notGuard {A : Around} {Γ : Ctx} (hΓ : Γ.In A) (k : Calm Γ) (hg : A.guards = some []) (p : Pos) (self : Value) (f : Code × Pos → Bool)
    (hf : ∀ c p, isDec c = false → c.isGuard = false → f (c, p) = false) : ((Γ.code, p) :: Γ.below).any f = false := by
  have hgs : guardsOf ((Γ.code, p) :: Γ.below) = [] := by rw [guardsOf_cons]; exact hΓ.2.2.2.1 [] hg
  have hd : ∀ x ∈ ((Γ.code, p) :: Γ.below), isDec x.1 = false := fun x hx => by
    rcases List.mem_cons.mp hx with rfl | hx
    · exact k.top
    · exact k.low x hx
  revert hgs hd
  generalize ((Γ.code, p) :: Γ.below) = l
  intro hgs hd
  induction l with
  | nil => rfl
  | cons x l ih =>
    obtain ⟨c, p⟩ := x
    rw [guardsOf_cons] at hgs
    have h1 : c.guards = [] := (List.append_eq_nil_iff.mp hgs).1
    have h2 : c.isGuard = false := by
      cases q : c.isGuard with
      | false => rfl
      | true => simp [Code.guards, q] at h1
    rw [List.any_cons, hf c p (hd _ (.head _)) h2, ih (List.append_eq_nil_iff.mp hgs).2 fun x hx => hd x (.tail _ hx)]; rfl

theorem wpR_if_false {α : Type} {M : Model} {A : Around} {E : Value → Shared → Prop} {s : Shared} {c : Bool} {a b : Sem α} {Q : α → Shared → Prop} (hc : c = false) (h : wpR M A b Q E s) : wpR M A (if c = true then a else b) Q E s := by
  subst hc; exact h
theorem ba_write {S : Addr} {b : Array UInt8} {f : Array UInt8 → Array UInt8} {Q : Unit → Shared → Prop} (hS : s.heap.get? S = some { cls := .type "bytearray", data := .bytearray b }) (hz : (f b).size ≤ sizeLine)
    (h : ∀ h', Heap.SameBut S s.heap h' → h'.get? S = some { cls := .type "bytearray", data := .bytearray (f b) } → Q () { s with heap := h' }) :
    wpAny (model prog w) A (updateBytearray S f) Q E s := by
  unfold updateBytearray
  refine wpAny_bind (wpAny_load hS ?_)
  show wpAny _ _ (update S (Obj.mapBytearray f) >>= fun _ => lookBehind S) _ _ _
  refine wpAny_bind (wpAny_update hS ?_)
  have hS₂ : (s.heap.update S (Obj.mapBytearray f)).get? S = some { cls := .type "bytearray", data := .bytearray (f b) } := Heap.get?_update_self (Obj.mapBytearray f) hS rfl
  refine wpAny_lookBehind hS₂ ?_ (h _ (Heap.SameBut.update ..) hS₂)
  show (if (f b).size > sizeLine then some "bytearray:memory" else none) = none
  rw [if_neg (by omega)]
theorem dite_F {α : Sort _} {c : Prop} [Decidable c] {a : c → α} {b : ¬ c → α} {y : α} (h : ¬ c) (e : b h = y) : dite c a b = y := by rw [dif_neg h]; exact e
theorem exp_F (self : Value) (c : Code) (p : Pos) (hd : isDec c = false) (hn : c.isGuard = false) : Builtin.Bytes.exported.match_1 (fun _ => Bool) (c, p) (fun v _ _ _ => Builtin.Bytes.sameRef v self) (fun v _ _ _ => Builtin.Bytes.sameRef v self) (fun _ v _ _ _ => Builtin.Bytes.sameRef v self) (fun v _ _ _ => Builtin.Bytes.sameRef v self)
     (fun _ _ held _ _ => held.any (Builtin.Bytes.sameRef self)) (fun id v _ _ _ => Builtin.Bytes.sameRef v self && Builtin.Bytes.decodersThatHold.contains id) (fun _ => false) = false := by
  cases c with
  | builtin id args =>
    have n : ∀ x : String, (Code.builtin x args).isGuard = true → id ≠ x := fun x h e => by subst e; rw [h] at hn; cases hn
    obtain ⟨pos, kw⟩ := args
    delta Builtin.Bytes.exported.match_1
    refine dite_F (c := id = "bytearray.__contains__") (n _ (by kernel_rfl)) ?_
    refine dite_F (c := id = "bytearray.__mod__") (n _ (by kernel_rfl)) ?_
    refine dite_F (c := id = "bytearray.__rmod__") (n _ (by kernel_rfl)) ?_
    refine dite_F (c := id = "_struct.pack_into.held") (n _ (by kernel_rfl)) ?_
    refine dite_F (c := id = "bytearray.find.held") (n _ (by kernel_rfl)) ?_
    cases pos with
    | nil => rfl
    | cons v vs => show (_ && Builtin.Bytes.decodersThatHold.contains id) = false; rw [show Builtin.Bytes.decodersThatHold.contains id = false from hd]; exact Bool.and_false _
  | _ => rfl
theorem ba_exported {self : Value} {Q : Bool → Shared → Prop} (hg : A.guards = some []) (h : Q false s) : wpR (model prog w) A (Builtin.Bytes.exported self) Q E s := fun Γ p hΓ k => by
  unfold Builtin.Bytes.exported
  show Q (((Γ.code, p) :: Γ.below).any _) s
  rw [ba_notGuard hΓ k hg p self _ fun c p hd hn => ?_]
  · exact h
  · exact exp_F self c p hd hn

theorem den_builtin {prog : Program} {w : World} {id : String} {args : Args} {b : Builtin} (hb : entryFor table id = some b) : (model prog w).den (.builtin id args) = b args := by
  show (match entryFor table id with | some b => b args | none => unsupported ((withoutEnding? id "#data").getD id)) = _
  rw [hb]
theorem ba_init {S : Addr} {n : Nat} {t : Tok} {Q : Shared → Prop} (hg : A.guards = some []) (hS : s.heap.get? S = some { cls := .type "bytearray", data := .bytearray #[] }) (hn : n ≤ 1000)
    (h : ∀ h', Heap.ExtBut S s.heap h' → h'.get? S = some { cls := .type "bytearray", data := .bytearray (Array.replicate n 0) } → Q { s with heap := h' }) :
    codeR (model prog w) A (.call (.builtin "bytearray.__init__") ⟨[.ref S, .int n t], []⟩) (wants (fun r s' => r = .none ∧ Q s') E) s := by
  refine codeR_tree ?_
  have hT : s.TypeIs (.ref S) "bytearray" := ⟨_, hS, rfl⟩
  have hp : plainId "bytearray.__init__" = true := ba_slot_init.plain
  show wpR _ A.in1 (do checkBuiltinCall "bytearray.__init__" ⟨[.ref S, .int n t], []⟩; again (.builtin "bytearray.__init__" ⟨[.ref S, .int n t], []⟩)) _ _ s
  refine wpR_bind (wpR_of (ba_slot_init.check _ _ _ _ _ _ _ _ hT ba_args ?_))
  refine wpR_pure ⟨plainId_quiet hp _, rfl, codeR_tree ?_⟩
  rw [Around.under_plainId hp _]
  rw [den_builtin ba_entry_init]
  unfold Builtin.«bytearray.__init__»
  dsimp only
  unfold Builtin.Bytes.ownRelease Builtin.Bytes.slotIsOwn
  refine wpR_bind (wpR_of ?_)
  refine wpAny_bind (wpAny_bind (wpAny_specialOf hT ba_release ?_))
  show wpAny _ _ (if (!("bytearray.__release_buffer__" : String).endsWith ("." ++ "__release_buffer__")) = true then _ else isInstance (Value.ref S) (Value.type (("bytearray.__release_buffer__" : String).dropRight ("__release_buffer__".length + 1)))) _ _ _
  refine bm_if_false (by decide +kernel) ?_
  rw [show ("bytearray.__release_buffer__" : String).dropRight ("__release_buffer__".length + 1) = "bytearray" by decide +kernel]
  refine wpAny_isInstance hT ba_sub (wpAny_pure ?_)
  refine wpR_if_false rfl ?_
  refine wpR_bind (wpR_of (wpAny_of_eq (ba_bind _) ?_))
  dsimp only
  refine wpR_bind (wpR_of (wpAny_of_eq (a := ()) rfl ?_))
  refine wpR_bind (wpR_of (wpAny_of_eq (a := ()) rfl ?_))
  refine wpR_bind ?_
  unfold orM
  refine wpR_bind (ba_exported hg ?_)
  refine wpR_of ?_
  show wpAny _ _ (Builtin.Bytes.exportsOf (Value.ref S) >>= _) _ _ _
  refine wpAny_bind ?_
  unfold Builtin.Bytes.exportsOf
  refine wpAny_bind (wpAny_load hS (wpAny_pure (wpAny_pure ?_)))
  refine wpR_if_false rfl ?_
  refine wpR_of ?_
  refine wpAny_bind ?_
  show wpAny _ _ (updateBytearray S fun _ => #[]) _ _ _
  refine ba_write hS (by decide +kernel) fun s₁ hs₁ hS₁ => ?_
  with_reducible refine wpAny_bind ?_
  with_reducible refine wpAny_of_eq (ba_asStr _ _) ?_
  with_reducible refine bm_if_false rfl ?_
  with_reducible refine wpAny_bind (bm_if_false rfl (bm_if_false rfl (wpAny_pure ?_)))
  with_reducible refine wpAny_bind (wpAny_specialOf (typeIs_int _ _ _) ba_index ?_)
  with_reducible refine bm_if_true rfl ?_
  with_reducible refine wpAny_bind (wpAny_attempt (wpAny_of_eq (ba_asIndex _ _) ?_))
  dsimp only
  have hn' : (n : Int) ≤ 1000 := by omega
  with_reducible refine bm_if_false (by rw [Builtin.Bytes.fitsIndex]; simp; omega) ?_
  with_reducible refine ba_if_neg (by omega) ?_
  with_reducible refine bm_if_false (beq_eq_false_iff_ne.mpr (by omega)) ?_
  with_reducible refine bm_if_false (by rw [Builtin.Bytes.tooLong, sizeLine_eq]; simp; omega) ?_
  with_reducible refine wpAny_bind (wpAny_rule ?_)
  by_cases h0 : (n : Int) > 0
  · with_reducible refine ba_if_pos h0 ?_
    with_reducible refine wpAny_bind ?_
    show wpAny _ _ (updateBytearray S fun _ => Array.replicate (n : Int).toNat 0) _ _ _
    refine ba_write hS₁ (by rw [Array.size_replicate, sizeLine_eq]; omega) fun s₂ hs₂ hS₂ => ?_
    refine wpAny_pure ⟨rfl, h s₂ (fun b o hb e => hs₂.extBut b o hb (hs₁.extBut b o hb e)) ?_⟩
    simpa using hS₂
  · with_reducible refine ba_if_neg h0 ?_
    have : n = 0 := by omega
    subst this
    exact wpAny_pure ⟨rfl, h s₁ hs₁.extBut hS₁⟩
end
end Mine
end
section
open PySem PySem.W PySem.Calls PyProof.Rows
set_option Elab.async false
set_option linter.unusedVariables false
set_option linter.unusedSectionVars false
set_option maxRecDepth 100000
set_option maxHeartbeats 4000000
namespace Mine
section
variable {prog : Program} {w : World} {A : Around} {E : Value → Shared → Prop} {s : Shared}

theorem ba_call {n : Nat} {t : Tok} {Q : Value → Shared → Prop} (hg : A.guards = some []) (hn : n ≤ 1000)
    (h : ∀ h' S, s.heap.get? S = none → (∀ b o, s.heap.get? b = some o → h'.get? b = some o) → h'.get? S = some { cls := .type "bytearray", data := .bytearray (Array.replicate n 0) } → Q (.ref S) { s with heap := h' }) :
    wpR (model prog w) A (PySem.call (.type "bytearray") [.int n t]) Q E s := by
  refine wpR_runValue rfl (codeR_tree ?_)
  show wpR _ _ (callAny (.type "bytearray") _) _ _ _
  refine wpR_pure ⟨Code.quiet_builtin _ (by decide +kernel), rfl, codeR_tree ?_⟩
  rw [Around.under_plain (weight_type_call_type "bytearray" [.int n t] []) rfl]
  rw [den_builtin F.entry_type_call]
  unfold Builtin.«type.__call__»
  dsimp only
  with_reducible refine wpR_if_false (by decide) ?_
  with_reducible refine wpR_if_false (by decide +kernel) ?_
  with_reducible refine wpR_bind (wpR_of (wpAny_of_eq (ba_typeCall _) ?_))
  with_reducible refine wpR_bind (wpR_of (wpAny_of_eq ba_mro ?_))
  with_reducible refine wpR_if_false rfl ?_
  with_reducible refine wpR_bind (wpR_of (wpAny_of_eq ba_made ?_))
  dsimp only
  with_reducible refine wpR_bind (wpR_pure ?_)
  with_reducible refine wpR_bind (wpR_holding (wpR_of (wpAny_call (codeAny_mono (ba_new (E := fun _ _ => False) (Q₁ := fun o s' => o = .ref s.heap.objs.size ∧ s' = { s with heap := s.heap.push { cls := .type "bytearray", data := .bytearray #[] } }) _ ⟨rfl, rfl⟩) fun r s' hr => ?_))))
  cases r with
  | error e => exact hr.elim
  | ok fl =>
  cases fl with
  | next => exact hr.elim
  | brk => exact hr.elim
  | cont => exact hr.elim
  | ret o =>
  obtain ⟨rfl, rfl⟩ := hr
  have hS : (s.heap.push { cls := .type "bytearray", data := .bytearray #[] }).get? s.heap.objs.size = some { cls := .type "bytearray", data := .bytearray #[] } := Heap.get?_push_size _ rfl
  have hT : ({ s with heap := s.heap.push { cls := .type "bytearray", data := .bytearray #[] } } : Shared).TypeIs (.ref s.heap.objs.size) "bytearray" := ⟨_, hS, rfl⟩
  show wpR _ _ (isInstance _ _ >>= _) _ _ _
  with_reducible refine wpR_bind (wpR_of (wpAny_isInstance hT ba_sub ?_))
  with_reducible refine wpR_if_false rfl ?_
  with_reducible refine wpR_bind (wpR_holding ?_)
  unfold callSpecial?
  with_reducible refine wpR_bind (wpR_of (wpAny_specialOf hT ba_slot_init.lookup ?_))
  dsimp only
  with_reducible refine wpR_holding ?_
  with_reducible refine wpR_bind (wpR_of (wpAny_of_eq (ba_slot_init.bind _) ?_))
  dsimp only
  with_reducible refine wpR_bind ?_
  have main := ba_init (prog := prog) (w := w) (A := A.in1) (E := fun _ _ => False) (S := s.heap.objs.size) (n := n) (t := t) (s := { s with heap := s.heap.push { cls := .type "bytearray", data := .bytearray #[] } })
    (Q := fun s' => Q (.ref s.heap.objs.size) s') hg hS hn fun h' he hb => h h' _ (size_none _) (fun b o e => he b o (Nat.ne_of_lt (Heap.lt_size e)) (Heap.get?_push_of_some _ e)) hb
  refine wpR_runValue rfl (codeR_mono main fun r s' hr => ?_)
  cases r with
  | error e => exact hr.elim
  | ok fl =>
  cases fl with
  | next => exact hr.elim
  | brk => exact hr.elim
  | cont => exact hr.elim
  | ret o =>
  obtain ⟨rfl, hq⟩ := hr
  with_reducible refine wpR_pure ?_
  dsimp only
  with_reducible refine wpR_if_false (by decide) ?_
  exact wpR_pure hq
end
end Mine
end
section
open PySem PySem.W PySem.Calls PyProof.Rows
set_option Elab.async false
set_option linter.unusedVariables false
set_option linter.unusedSectionVars false
set_option linter.deprecated false
set_option maxRecDepth 100000
set_option maxHeartbeats 4000000
namespace Mine
theorem by_slot_set : Slot "bytearray" "__setitem__" "bytearray.__setitem__" :=
  .of (owner := "bytearray") (n := "__setitem__") (by rw [typeLookup_type, builtinLookup_eq_fast]; kernel_rfl) (by decide +kernel) (by decide +kernel) (by decide +kernel)
    (by first | exact .inl (by decide +kernel) | exact .inr (by decide +kernel)) (by rw [isSubtype_type]; kernel_rfl)
theorem by_entry_set : entryFor table "bytearray.__setitem__" = some Builtin.«bytearray.__setitem__» := entryFor_of_tree (by kernel_rfl)
theorem by_args_set (a b c : Value) : argsOk "bytearray.__setitem__" ⟨[a, b, c], []⟩ := by unfold argsOk; kernel_rfl
theorem by_asIndex (n : Int) (t : Tok) : asIndex (.int n t) = pure n := rfl
theorem by_index : typeLookup (.type "int") "__index__" = pure (some (.builtin "int.__index__")) := by rw [typeLookup_type, builtinLookup_eq_fast]; kernel_rfl
theorem by_release : typeLookup (.type "bytearray") "__release_buffer__" = pure (some (.builtin "bytearray.__release_buffer__")) := by rw [typeLookup_type, builtinLookup_eq_fast]; kernel_rfl
theorem by_buffer : typeLookup (.type "bytearray") "__buffer__" = pure (some (.builtin "bytearray.__buffer__")) := by rw [typeLookup_type, builtinLookup_eq_fast]; kernel_rfl
theorem by_no_bytes : typeLookup (.type "bytearray") "__bytes__" = pure none := by rw [typeLookup_type, builtinLookup_eq_fast]; kernel_rfl
theorem by_no_index : typeLookup (.type "bytearray") "__index__" = pure none := by rw [typeLookup_type, builtinLookup_eq_fast]; kernel_rfl
theorem by_sub : isSubtype (.type "bytearray") (.type "bytearray") = pure true := by rw [isSubtype_type]; kernel_rfl
section
variable {prog : Program} {w : World} {A : Around} {E : Value → Shared → Prop} {s : Shared}
abbrev baObj (b : Array UInt8) : Obj := { cls := .type "bytearray", data := .bytearray b }
theorem by_setItem {S : Addr} {b : Array UInt8} {k v : Nat} {t u : Tok} {Q : Unit → Shared → Prop} (hS : s.heap.get? S = some (baObj b)) (hk : k < b.size) (hz : b.size ≤ 1000) (hv : v < 256)
    (h : ∀ h', Heap.SameBut S s.heap h' → h'.get? S = some (baObj (b.setIfInBounds k v.toUInt8)) → Q () { s with heap := h' }) :
    wpAny (model prog w) A (setItem (.ref S) (.int k t) (.int v u)) Q E s := by
  have hT : s.TypeIs (.ref S) "bytearray" := ⟨_, hS, rfl⟩
  unfold setItem
  try with_reducible refine wpAny_holding ?_
  first | refine wpAny_bind (wpAny_pure ?_) | skip
  refine wpAny_bind (wpAny_sequenceKey hT (by decide) ?_)
  refine wpAny_bind (wpAny_callSpecial?_slot (name := Str.ofString "__setitem__") hT by_slot_set (wpAny_call_entry by_slot_set hT by_entry_set ?_ (by_args_set _ _ _)))
  unfold Builtin.«bytearray.__setitem__»
  dsimp only
  with_reducible refine bm_if_false rfl ?_
  show wpAny _ _ (Builtin.Bytes.subscript? (.int k t) >>= _) _ _ _
  with_reducible refine wpAny_bind ?_
  unfold Builtin.Bytes.subscript?
  with_reducible refine wpAny_bind (wpAny_specialOf (typeIs_int _ _ _) by_index ?_)
  with_reducible refine bm_if_false rfl ?_
  with_reducible refine wpAny_bind (wpAny_of_eq (by_asIndex _ _) ?_)
  with_reducible refine bm_if_false (by rw [Builtin.Bytes.fitsIndex]; simp; omega) ?_
  with_reducible refine wpAny_pure ?_
  show wpAny _ _ (Builtin.Bytes.byteValue (.int v u) >>= _) _ _ _
  with_reducible refine wpAny_bind ?_
  unfold Builtin.Bytes.byteValue
  with_reducible refine wpAny_bind (wpAny_of_eq (by_asIndex _ _) ?_)
  with_reducible refine bm_if_false (by simp only [Bool.or_eq_false_iff, decide_eq_false_iff_not]; omega) ?_
  with_reducible refine wpAny_pure ?_
  show wpAny _ _ (Builtin.Bytes.payload (.ref S) >>= _) _ _ _
  with_reducible refine wpAny_bind ?_
  unfold Builtin.Bytes.payload Builtin.Bytes.payload?
  with_reducible refine wpAny_bind (wpAny_bind (wpAny_load hS ?_))
  with_reducible refine wpAny_pure (wpAny_pure ?_)
  have hsi : seqIndex? (k : Int) b.size = some k := by
    have h0 : ¬ ((k : Int) < 0) := by omega
    have h1 : (k : Int) < b.size := by omega
    simp [seqIndex?, h0, hk]
  show wpAny _ _ (match seqIndex? (k : Int) b.size with | some k => _ | none => _) _ _ _
  rw [hsi]
  show wpAny _ _ (updateBytearray S (·.setIfInBounds k ((v : Int).toNat.toUInt8)) >>= _) _ _ _
  with_reducible refine wpAny_bind ?_
  unfold updateBytearray
  with_reducible refine wpAny_bind (wpAny_load hS ?_)
  show wpAny _ _ (update S (Obj.mapBytearray (·.setIfInBounds k ((v : Int).toNat.toUInt8))) >>= fun _ => lookBehind S) _ _ _
  with_reducible refine wpAny_bind (wpAny_update hS ?_)
  have hS₂ : (s.heap.update S (Obj.mapBytearray (·.setIfInBounds k ((v : Int).toNat.toUInt8)))).get? S = some (baObj (b.setIfInBounds k ((v : Int).toNat.toUInt8))) := Heap.get?_update_self _ hS rfl
  refine wpAny_lookBehind hS₂ ?_ ?_
  · show (if (b.setIfInBounds k ((v : Int).toNat.toUInt8)).size > sizeLine then some "bytearray:memory" else none) = none
    rw [if_neg]
    rw [Array.size_setIfInBounds, sizeLine_eq]; omega
  · have := h _ (Heap.SameBut.update ..) hS₂
    first
      | exact wpAny_bind (wpAny_pure (wpAny_pure ⟨.none, rfl, wpAny_pure this⟩))
      | exact wpAny_pure ⟨.none, rfl, wpAny_pure this⟩

theorem by_new {S : Addr} {b : Array UInt8} {Q : Value → Shared → Prop} (hS : s.heap.get? S = some (baObj b)) (hz : b.size ≤ sizeLine)
    (hQ : Q (.bytes b s.toks) { s with toks := s.toks + 1 }) :
    codeAny (model prog w) A (.call (.builtin "bytes.__new__") ⟨[.type "bytes", .ref S], []⟩) (wants Q E) s := by
  refine codeAny_of_tree ?_
  show wpAny _ A.in1 (do checkBuiltinCall "bytes.__new__" ⟨[.type "bytes", .ref S], []⟩; again (.builtin "bytes.__new__" ⟨[.type "bytes", .ref S], []⟩)) _ _ s
  refine wpAny_bind (wpAny_of_eq (F.bm_newCall _) (wpAny_pure ⟨plainId_quiet F.bm_plain _, codeAny_builtin F.bm_entry ?_⟩))
  rw [Around.under_plainId F.bm_plain _]
  have hT : s.TypeIs (.ref S) "bytearray" := ⟨_, hS, rfl⟩
  unfold Builtin.«bytes.__new__»
  refine wpAny_bind (wpAny_of_eq (a := true) rfl ?_)
  refine bm_if_false rfl ?_
  refine wpAny_bind (wpAny_of_eq F.bm_sub ?_)
  refine bm_if_false rfl ?_
  refine wpAny_bind (wpAny_of_eq (F.bm_bind _) ?_)
  refine wpAny_bind (wpAny_of_eq (a := ()) rfl ?_)
  refine wpAny_bind (wpAny_of_eq (a := ()) rfl ?_)
  refine bm_if_false rfl ?_
  refine wpAny_bind (wpAny_specialOf hT by_no_bytes ?_)
  refine wpAny_bind (wpAny_bind ?_)
  show wpAny _ _ (load S >>= _) _ _ _
  refine wpAny_bind (wpAny_load hS ?_)
  refine wpAny_pure (wpAny_pure ?_)
  refine bm_if_false rfl ?_
  refine wpAny_bind (wpAny_specialOf hT by_no_index ?_)
  refine bm_if_true rfl ?_
  first
    | show wpAny _ _ (Builtin.Bytes.buffer? "bytes.__new__" (.ref S) true >>= _) _ _ _
    | (refine wpAny_bind ?_; show wpAny _ _ (Builtin.Bytes.buffer? "bytes.__new__" (.ref S) true >>= _) _ _ _)
  have own : ∀ (n : String) (id : String) {Q : Bool → Shared → Prop}, typeLookup (.type "bytearray") (Str.ofString n) = pure (some (.builtin id)) → id.endsWith ("." ++ n) = true → id.dropRight (n.length + 1) = "bytearray" → Q true s →
      wpAny (model prog w) A.in1 (Builtin.Bytes.slotIsOwn (.ref S) n) Q E s := fun n id Q h1 h2 h3 h4 => by
    unfold Builtin.Bytes.slotIsOwn
    refine wpAny_bind (wpAny_specialOf hT h1 ?_)
    show wpAny _ _ (if (!id.endsWith ("." ++ n)) = true then _ else isInstance (Value.ref S) (Value.type (id.dropRight (n.length + 1)))) _ _ _
    refine bm_if_false (by rw [h2]; rfl) ?_
    rw [h3]
    exact wpAny_isInstance hT by_sub h4
  refine wpAny_bind ?_
  unfold Builtin.Bytes.buffer?
  refine wpAny_bind (wpAny_specialOf hT by_buffer ?_)
  dsimp only
  with_reducible refine wpAny_bind (own "__buffer__" "bytearray.__buffer__" by_buffer (by decide +kernel) (by decide +kernel) ?_)
  with_reducible refine bm_if_false rfl ?_
  with_reducible refine wpAny_bind (wpAny_specialOf hT by_buffer ?_)
  show wpAny _ _ (Builtin.Bytes.ownRelease (.ref S) >>= _) _ _ _
  with_reducible refine wpAny_bind ?_
  unfold Builtin.Bytes.ownRelease
  with_reducible refine wpAny_bind (own "__release_buffer__" "bytearray.__release_buffer__" by_release (by decide +kernel) (by decide +kernel) (wpAny_pure ?_))
  with_reducible refine bm_if_false rfl ?_
  with_reducible refine wpAny_bind ?_
  unfold Builtin.Bytes.payload Builtin.Bytes.payload?
  with_reducible refine wpAny_bind (wpAny_bind (wpAny_load hS ?_))
  with_reducible refine wpAny_pure ?_
  with_reducible refine wpAny_pure ?_
  with_reducible refine wpAny_pure ?_
  dsimp only
  with_reducible refine wpAny_bind (wpAny_rule ?_)
  with_reducible refine wpAny_bind (wpAny_mkBytes ?_ hz)
  show wpAny _ _ (if (Value.type "bytes" == Value.type "bytes") = true then _ else _) _ _ _
  refine bm_if_true (by decide) ?_
  first
    | exact wpAny_pure hQ
    | exact wpAny_bind (wpAny_pure (wpAny_pure hQ))

theorem by_call {S : Addr} {b : Array UInt8} {Q : Value → Shared → Prop} (hS : s.heap.get? S = some (baObj b)) (hz : b.size ≤ sizeLine)
    (hQ : Q (.bytes b s.toks) { s with toks := s.toks + 1 }) : wpAny (model prog w) A (call (.type "bytes") [.ref S]) Q E s := by
  refine callType_codes (Q₁ := fun obj s₁ => s₁.TypeIs obj "bytes" ∧ Q obj s₁) F.bm_called (F.bm_typeCall _) F.entry_object_init
    (by_new hS hz ⟨PySem.W.typeIs_bytes _ _ _, hQ⟩) fun obj s₁ h₁ => ?_
  exact ⟨h₁.1, F.args_object_init_2 obj _, object_init_meets F.bm_called.init.lookup F.bm_called.made (by decide) prog w A.in1 _ s₁ ⟨h₁.1, rfl, h₁.2⟩⟩
end
section
variable {C : WC} {n : Nat} {K : KH} {O O' : OL}
def bar (b : Array UInt8) : AO := .ex (baObj b)
theorem W_setBA {S : Addr} {b : Array UInt8} {k v : Nat} {t u : Tok} {Q : Unit → KH → OL → Prop} (up : Upd O S (bar b) (bar (b.setIfInBounds k v.toUInt8)) O') (hk : k < b.size) (hz : b.size ≤ 1000) (hv : v < 256)
    (h : Q () K O') : W C n K O (setItem (.ref S) (.int k t) (.int v u)) Q := fun A hA s S' =>
  by_setItem (At.ex (S'.own _ up.mem)) hk hz hv fun h' hs hi => ⟨K, O', S'.upd up hs.extBut (At.ex_of hi), h⟩
theorem W_bytesBA {S : Addr} {b : Array UInt8} {Q : Value → KH → OL → Prop} (hm : (S, bar b) ∈ O) (hz : b.size ≤ sizeLine) (h : ∀ t, Q (.bytes b t) K O) : W C n K O (call (.type "bytes") [.ref S]) Q := fun A hA s S' =>
  by_call (At.ex (S'.own _ hm)) hz ⟨K, O, S'.toks, h _⟩
theorem W_bytesInts {l : Addr} {vs : List Value} {ns : List Int} {Q : Value → KH → OL → Prop} (hl : LstAt C K O l vs) (hi : IntsAre vs ns) (hr : ∀ n ∈ ns, 0 ≤ n ∧ n < 256) (hz : vs.length ≤ sizeLine) (h : ∀ t, Q (.bytes (byteArr ns) t) K O) :
    W C n K O (call (.type "bytes") [.ref l]) Q := fun A hA s S' =>
  call_bytes_ints (hl s S') hi hr hz hA.handled fun h' t k hk => ⟨K, O, S'.grow hk, h _⟩
end
end Mine
end
section
open PySem PySem.W PySem.Calls PyProof.Rows
set_option Elab.async false
set_option linter.unusedVariables false
set_option linter.unusedSectionVars false
set_option maxRecDepth 100000
set_option maxHeartbeats 4000000
namespace Mine
section
variable {prog : Program} {w : World} {A : Around} {E : Value → Shared → Prop} {s : Shared}
open PySem.W.KBw in
theorem lb_extend {R : Result → Shared → Prop} (hh : A.handled = none) (b : Array UInt8) (t : Tok) (S : Addr) (c₀ : Nat) (hS : s.heap.get? S = some { cls := .type "list", data := .seq #[] c₀ }) (hn : b.size ≤ sizeLine)
    (hR : ∀ h' tk acc' c', (∀ a o, a ≠ S → s.heap.get? a = some o → h'.get? a = some o) → h'.get? S = some { cls := .type "list", dict := none, data := .seq acc' c', slots := #[] } →
      ItemsOf (fun i v => ∃ c u, b[i]? = some c ∧ v = .int (c.toNat : Int) u) acc' b.size → R (.ok (.ret .none)) { s with heap := h', toks := tk }) :
    wpAny (model prog w) A.in1 (Builtin.List.listExtendWith (.ref S) (.bytes b t) .none)
      (fun fin s' => match fin with | .done f => R (.ok f) s' | .again c' => c'.quiet = true ∧ codeAny (model prog w) A c' R s') (fun e s' => R (.error e) s') s := by
  have hT : ∀ s : Shared, s.TypeIs (.bytes b t) "bytes" := fun s => PySem.W.typeIs_bytes _ _ _
  unfold Builtin.List.listExtendWith
  refine wpAny_bind (wpAny_typeOf (hT _) ?_)
  refine bm_if_false (by rw [show Builtin.List.listSameRef (.ref S) (.bytes b t) = false from rfl]; decide) ?_
  refine wpAny_bind (pyIter_bytes ?_)
  refine wpAny_bind (wpAny_holding ?_)
  unfold Builtin.List.listLengthHint
  refine wpAny_bind (wpAny_specialOf (hT _) FB.slot_bytes_len.lookup ?_)
  dsimp only
  rw [show splitId "bytes.__len__" = some ("bytes", "__len__") by decide +kernel]
  dsimp only
  refine wpAny_bind (wpAny_isInstance (hT _) F.bm_sub ?_)
  refine bm_if_false rfl ?_
  refine bm_if_true (by decide +kernel) ?_
  refine wpAny_bind (wpAny_typeOf (hT _) ?_)
  refine wpAny_pure ?_
  refine bm_if_false (by decide +kernel) ?_
  have hI : s.heap.objs.size ≠ S := Ne.symm (Nat.ne_of_lt (Heap.lt_size hS))
  have hst : IsBytesIter (s.heap.push { cls := .type "bytes_iterator", data := .fields #[.bytes b t, .int 0 0] }) s.heap.objs.size b t 0 := ⟨_, Heap.get?_push_size _ rfl, rfl, rfl⟩
  refine wpAny_pure ⟨plainId_quiet F.plain_extend_loop _, codeAny_extend_loopS (walks (prog := prog) (w := w) (A := A.in1) hh s.heap.objs.size b t).toS hn S (by simp [Ne.symm hI]) .none b.size 0 _ #[] c₀ rfl (Nat.zero_le _) hst (Heap.get?_push_of_some _ hS) (ItemsOf.nil _) fun s' acc' c' hm hS' hacc => ?_⟩
  rw [Moved.eq_with hm]
  refine hR s'.heap s'.toks acc' c' (fun a ob ha e => hm.heap a ob (fun hmem => ?_) (Heap.get?_push_of_some _ e)) hS' hacc
  rcases List.mem_cons.mp hmem with e' | hmem
  · exact ha e'
  · exact absurd (Heap.lt_size e) (by rw [List.mem_singleton.mp hmem]; exact Nat.lt_irrefl _)

theorem lb_init {R : Result → Shared → Prop} (hh : A.handled = none) (b : Array UInt8) (t : Tok) (S : Addr) (hS : s.heap.get? S = some { cls := .type "list", data := .seq #[] }) (hn : b.size ≤ sizeLine)
    (hR : ∀ h' tk acc' c', (∀ a o, a ≠ S → s.heap.get? a = some o → h'.get? a = some o) → h'.get? S = some { cls := .type "list", dict := none, data := .seq acc' c', slots := #[] } →
      ItemsOf (fun i v => ∃ c u, b[i]? = some c ∧ v = .int (c.toNat : Int) u) acc' b.size → R (.ok (.ret .none)) { s with heap := h', toks := tk }) :
    wpAny (model prog w) A.in1 (Builtin.«list.__init__» ⟨[.ref S, .bytes b t], []⟩)
      (fun fin s' => match fin with | .done f => R (.ok f) s' | .again c' => c'.quiet = true ∧ codeAny (model prog w) A c' R s') (fun e s' => R (.error e) s') s := by
  show wpAny _ _ (do let old ← Builtin.List.listItems (.ref S); Builtin.List.listUpdate (.ref S) (fun _ => #[]); letGo old.toList.reverse; Builtin.List.listExtendWith (.ref S) (.bytes b t) .none) _ _ s
  refine wpAny_bind ?_
  unfold Builtin.List.listItems
  refine wpAny_bind (wpAny_seqItems hS rfl (wpAny_pure ?_))
  show wpAny _ _ (updateSeq S (fun _ => #[]) >>= fun _ => letGo (#[] : Array Value).toList.reverse >>= fun _ => Builtin.List.listExtendWith (.ref S) (.bytes b t) .none) _ _ s
  refine wpAny_bind (wpAny_updateSeq hS rfl (wpAny_bind (wpAny_letGo ?_)))
  exact lb_extend hh b t S _ (Heap.get?_update_self (Obj.mapSeq (fun _ => (#[] : Array Value))) hS rfl) hn fun h' tk acc' c' hk hS' hacc =>
    hR h' tk acc' c' (fun a o ha e => hk a o ha ((Heap.get?_update_other _ _ (Ne.symm ha)).trans e)) hS' hacc
end
theorem intsAre_of : ∀ {vs : List Value} {ns : List Int}, vs.length = ns.length → (∀ (i : Nat) (v : Value), vs[i]? = some v → ∃ n t, ns[i]? = some n ∧ v = .int n t) → IntsAre vs ns
  | [], [], _, _ => .nil
  | [], _ :: _, h, _ => by simp at h
  | _ :: _, [], h, _ => by simp at h
  | v :: vs, m :: ns, h, k => by
    obtain ⟨n, t, e, rfl⟩ := k 0 v rfl
    cases e
    exact .cons _ _ (intsAre_of (by simpa using h) fun i v hv => k (i + 1) v hv)
section
variable {C : WC} {n : Nat} {K : KH} {O O' : OL}
/-- the octets of a list of ints -/
def octs (b : Array UInt8) (vs : List Value) : Prop := IntsAre vs (b.toList.map fun c => (c.toNat : Int))
theorem W_listBytes {b : Array UInt8} {t : Tok} {Q : Value → KH → OL → Prop} (hz : b.size ≤ sizeLine) (h : ∀ a vs, octs b vs → Q (.ref a) K ((a, .list vs) :: O)) : W C n K O (call (.type "list") [.bytes b t]) Q := fun A hA s S => by
  refine callType_codes (Q₁ := fun obj s₁ => obj = .ref s.heap.objs.size ∧ s₁ = { s with heap := s.heap.push { cls := .type "list", data := .seq #[] } }) F.called_list (F.typeCall_list_1 _) F.entry_list_init
    (code_list_new _ ⟨rfl, rfl⟩) fun obj s₁ h₁ => ?_
  obtain ⟨rfl, rfl⟩ := h₁
  have hS : (s.heap.push { cls := .type "list", data := .seq #[] }).get? s.heap.objs.size = some { cls := .type "list", data := .seq #[] } := Heap.get?_push_size _ rfl
  refine ⟨⟨_, hS, rfl⟩, F.args_list_init_2 _ _, lb_init (A := A.in1) hA.handled b t _ hS hz fun h' tk acc' c' hk hS' hacc => ⟨rfl, K, _, S.new (x := .list acc'.toList) (size_none _) (fun a o e => hk a o (Nat.ne_of_lt (Heap.lt_size e)) (Heap.get?_push_of_some _ e)) ⟨_, hS', c', rfl⟩, h _ _ ?_⟩⟩
  refine intsAre_of (by simpa using hacc.1) fun i v hv => ?_
  obtain ⟨c, u, hc, rfl⟩ := hacc.2 i v (by simpa using hv)
  refine ⟨_, u, ?_, rfl⟩
  rw [List.getElem?_map, Array.getElem?_toList, hc]; rfl
end
end Mine
end
section
open PySem PySem.W PySem.Calls PyProof.Rows
set_option Elab.async false
set_option linter.unusedVariables false
set_option linter.unusedSectionVars false
set_option maxRecDepth 100000
set_option maxHeartbeats 4000000
namespace Mine

section
variable {C : WC} {n : Nat} {K : KH} {O O' : OL} {env : Env} {pos : Pos} {l sl : Addr} {vs : List Value} {b : Array UInt8} {t : Tok}
def slc (vl vu : Value) : AO := .obj (.type "slice") (.fields #[vl, vu, .none])
theorem W_part_none {Q : Value → KH → OL → Prop} (h : Q .none K O) : W C n K O (evalPart none env) Q := W_pure h
theorem W_part_some {e : Expr} {Q : Value → KH → OL → Prop} (h : W C n K O (eval e env) Q) : W C n K O (evalPart (some e) env) Q := h
abbrev SlQ (Q : Value → KH → OL → Prop) (vl vu : Value) (K : KH) (O : OL) : Prop := ∀ a, Q (.ref a) K ((a, slc vl vu) :: O)
abbrev SlK (C : WC) (n : Nat) (tu : Sem Value) (Q : Value → KH → OL → Prop) (vl : Value) (K : KH) (O : OL) : Prop := W C n K O tu (SlQ Q vl)
theorem W_Slice {lower upper : Option Expr} {Q : Value → KH → OL → Prop}
    (h : W C n K O (evalPart lower env) (SlK C n (evalPart upper env) Q)) : W C n K O (eval (.Slice lower upper none pos) env) Q :=
  fun A hA s S => wpAny_Slice (h.to hA S fun vl s' K' O' S' q => q.to hA S' fun vu s' K' O' S' q => by
    rw [evalPart_none]
    exact wpAny_pure ⟨K', _, S'.push (x := slc vl vu) rfl ⟨rfl, rfl⟩, q _⟩)
theorem isSlice {s : Shared} {vl vu : Value} (S : Sat C K O s) (hm : (sl, slc vl vu) ∈ O) : s.heap.IsSliceOf sl vl vu .none := let ⟨o, ho, hc, hd⟩ := S.own _ hm; ⟨o, ho, hc, hd⟩
theorem W_pickList {vl vu : Value} {lo hi : Option Int} {Q : Value → KH → OL → Prop} (hl : LstAt C K O l vs) (hm : (sl, slc vl vu) ∈ O) (pl : IsPart vl lo) (pu : IsPart vu hi) (hz : vs.length ≤ sizeLine)
    (h : ∀ a, Q (.ref a) K ((a, .list (slicePick vs.toArray lo hi none).toList) :: O)) : W C n K O (getItem (.ref l) (.ref sl)) Q := fun A hA s S =>
  wpAny_getItem_list_slice (hl s S) (isSlice S hm) pl pu .none (by simp) ⟨K, _, S.push (x := .list _) rfl ⟨0, rfl⟩, h _⟩ (by simpa using hz)
theorem W_listRun {i j : Nat} {u v : Tok} {Q : Value → KH → OL → Prop} (hl : LstAt C K O l vs) (hm : (sl, slc (.int i u) (.int j v)) ∈ O) (hij : i ≤ j) (hj : j ≤ vs.length) (hz : vs.length ≤ sizeLine)
    (h : ∀ a, Q (.ref a) K ((a, .list ((vs.drop i).take (j - i))) :: O)) : W C n K O (getItem (.ref l) (.ref sl)) Q :=
  W_pickList hl hm (.int _ _) (.int _ _) hz fun a => by rw [slicePick_run _ _ _ (by simpa using hj) hij]; exact h a
theorem W_listFrom {i : Nat} {u : Tok} {Q : Value → KH → OL → Prop} (hl : LstAt C K O l vs) (hm : (sl, slc (.int i u) .none) ∈ O) (hi : i ≤ vs.length) (hz : vs.length ≤ sizeLine)
    (h : ∀ a, Q (.ref a) K ((a, .list (vs.drop i)) :: O)) : W C n K O (getItem (.ref l) (.ref sl)) Q :=
  W_pickList hl hm (.int _ _) .none hz fun a => by rw [slicePick_from _ _ (by simpa using hi)]; exact h a
theorem W_listUpto {j : Nat} {v : Tok} {Q : Value → KH → OL → Prop} (hl : LstAt C K O l vs) (hm : (sl, slc .none (.int j v)) ∈ O) (hj : j ≤ vs.length) (hz : vs.length ≤ sizeLine)
    (h : ∀ a, Q (.ref a) K ((a, .list (vs.take j)) :: O)) : W C n K O (getItem (.ref l) (.ref sl)) Q :=
  W_pickList hl hm .none (.int _ _) hz fun a => by rw [slicePick_upto _ _ (by simpa using hj)]; exact h a
theorem slicePick_uptoAny (items : Array Value) (b : Nat) : slicePick items none (some b) none = (items.toList.take b).toArray := by
  by_cases hb : b ≤ items.size
  · exact slicePick_upto items b hb
  · have e : slicePick items none (some (b : Int)) none = slicePick items none (some (items.size : Int)) none := by
      unfold slicePick sliceBounds
      have h1 : ¬ ((b : Int) < 0) := by omega
      have h2 : ¬ ((items.size : Int) < 0) := by omega
      simp only [Option.getD_none, h1, h2, if_false, show (1 : Int) > 0 by decide, if_true]
      rw [show min (b : Int) items.size = items.size by omega, show min (items.size : Int) items.size = items.size by omega]
    rw [e, slicePick_upto items items.size (Nat.le_refl _), List.take_of_length_le (by simp), List.take_of_length_le (by simp; omega)]
theorem W_listUptoAny {j : Nat} {v : Tok} {Q : Value → KH → OL → Prop} (hl : LstAt C K O l vs) (hm : (sl, slc .none (.int j v)) ∈ O) (hz : vs.length ≤ sizeLine)
    (h : ∀ a, Q (.ref a) K ((a, .list (vs.take j)) :: O)) : W C n K O (getItem (.ref l) (.ref sl)) Q :=
  W_pickList hl hm .none (.int _ _) hz fun a => by rw [slicePick_uptoAny]; exact h a

/- bytes -/
theorem bytes_ty : TyIs C K O (.bytes b t) "bytes" := fun s S => PySem.W.typeIs_bytes _ _ _
theorem W_lenBytes {Q : Value → KH → OL → Prop} (hz : b.size ≤ 1099511627776) (h : ∀ t, Q (.int b.size t) K O) : W C n K O (call (.builtin "len") [.bytes b t]) Q := fun A hA s S =>
  PySem.W.len_bytes hz ⟨K, O, S.toks, h _⟩
theorem W_itemBytes {k : Nat} {u : Tok} {Q : Value → KH → OL → Prop} (hz : b.size ≤ 1000) (hk : k < b.size) (h : ∀ t, Q (.int (b.getD k 0).toNat t) K O) : W C n K O (getItem (.bytes b t) (.int k u)) Q := fun A hA s S => by
  have e : b = b.toList.toArray := rfl
  rw [e]
  refine PySem.W.getItem_bytes (by simp; omega) (by omega) (by simp; omega) ⟨K, O, S.toks, ?_⟩
  have := h s.toks
  simpa [Array.getD_eq_getD_getElem?, List.getD_eq_getElem?_getD] using this
theorem W_runBytes {i j : Nat} {u v : Tok} {Q : Value → KH → OL → Prop} (hm : (sl, slc (.int i u) (.int j v)) ∈ O) (hij : i ≤ j) (hj : j ≤ b.size) (hne : j - i < b.size) (hz : b.size ≤ 1000)
    (h : ∀ t, Q (.bytes ((b.toList.drop i).take (j - i)).toArray t) K O) : W C n K O (getItem (.bytes b t) (.ref sl)) Q := fun A hA s S => by
  have e : sliceBounds (some (i : Int)) (some (j : Int)) none b.size = ((i : Int), (j : Int), 1) := by
    simp only [sliceBounds, Option.getD_none]
    have h1 : ¬ ((i : Int) < 0) := by omega
    have h2 : ¬ ((j : Int) < 0) := by omega
    simp only [h1, h2, if_false, show (1 : Int) > 0 by decide, if_true]
    congr 1
    · omega
    · congr 1; omega
  have ep : KBy.picked b (some (i : Int)) (some (j : Int)) = ((b.toList.drop i).take (j - i)).toArray := by
    unfold KBy.picked
    rw [e]
    show ((sliceRange (i : Int) (j : Int) 1).filterMap (b[·]?)).toArray = _
    rw [sliceRange_one, pick_run]
  refine getItem_meets (PySem.W.typeIs_bytes _ _ _) (by decide) FB.slot_bytes_getitem FB.entry_bytes_getitem (FB.args_bytes_getitem_2 _ _) (KBy.meets_slice b t _ (.int _ _) (.int _ _) ?_) ⟨isSlice S hm, ?_, ?_⟩
  · unfold KBy.whole
    rw [e]
    by_cases h0 : i = 0
    · have : ((j : Int) == (b.size : Int)) = false := by simp; omega
      simp [this]
    · have : ((i : Int) == 0) = false := by simp; omega
      simp [this]
  · rw [ep, sizeLine_eq]; simp; omega
  · rw [ep]; exact ⟨K, O, S.toks, h _⟩
end
end Mine
end
section
open PySem PySem.W PySem.Calls PyProof.Rows
set_option Elab.async false
set_option linter.unusedVariables false
set_option linter.unusedSectionVars false
set_option maxRecDepth 100000
namespace Mine
section
variable {C : WC} {n : Nat} {K : KH} {O O' : OL} {env : Env} {pos : Pos} {b : Array UInt8}
theorem WR_bytearray {k : Int} {j : Nat} {t : Tok} {Q : Value → KH → OL → Prop} (hk : k = j) (hj : j ≤ 1000) (h : ∀ a, Q (.ref a) K ((a, bar (Array.replicate j 0)) :: O)) : WR C n K O (call (.type "bytearray") [.int k t] []) Q := fun A hA s S => by
  subst hk
  exact ba_call hA.guards hj fun h' a hn hk hb => ⟨K, _, S.new hn hk (At.ex_of hb), h a⟩
theorem W_setBAE {S : Addr} {k v : Int} {i : Nat} {c : UInt8} {t u : Tok} {Q : Unit → KH → OL → Prop} (up : Upd O S (bar b) (bar (b.setIfInBounds i c)) O') (hki : k = i) (hvc : v = c.toNat) (hk : i < b.size) (hz : b.size ≤ 1000)
    (h : Q () K O') : W C n K O (setItem (.ref S) (.int k t) (.int v u)) Q := by
  subst hki hvc
  refine W_setBA (b := b) ?_ hk hz c.toNat_lt h
  have e : c.toNat.toUInt8 = c := UInt8.ofNat_toNat
  rw [e]; exact up
theorem W_itemBytesE {k : Int} {i : Nat} {t u : Tok} {Q : Value → KH → OL → Prop} (hki : k = i) (hz : b.size ≤ 1000) (hk : i < b.size) (h : ∀ t, Q (.int (b.getD i 0).toNat t) K O) : W C n K O (getItem (.bytes b t) (.int k u)) Q := by
  subst hki; exact W_itemBytes hz hk h
theorem sub_bytes {t : Tok} {i : Value} {Q : Value → KH → OL → Prop} (h : W C n K O (getItem (.bytes b t) i) Q) :
    SubK C n Q (.bytes b t) i K O := ⟨"bytes", _, bytes_ty, FB.slot_bytes_getitem.lookup, h⟩
theorem W_range3 {i j c : Int} {t u v : Tok} {Q : Value → KH → OL → Prop} (hc : c ≠ 0) (hs : c.natAbs < 1073741824) (h : ∀ a, Q (.ref a) K ((a, rng i j c t u v) :: O)) : W C n K O (call (.type "range") [.int i t, .int j u, .int c v] []) Q :=
  fun A hA s S => call_range_3 hc ⟨K, _, S.push rfl rel_ex, h _⟩ (.inl (PyProof.noPylong_small hs))
theorem W_forRange3 {y : Str} {p : Pos} {body : List Stmt} {R : Flow → KH → OL → Prop} {a b c : Int} {t u v : Tok} (N : Nat) (I : Nat → KH → OL → Prop) (hc : c ≠ 0) (hs : c.natAbs < 1073741824) (hsm : Builtin.Range.small a b c = true) (hb : Builtin.Range.rangeSize a b c = N)
    (h : I 0 K O)
    (turn : ∀ it j K O st, j < N → I j K O → ∀ t, W C n K ((it, st) :: O) (storeName env y (.int (a + c * j) t)) (K0 C n (execs body env) (TurnJ I (j + 1) it st R)))
    (done : ∀ K O, I N K O → R .next K O) :
    W C n K O (call (.type "range") [.int a t, .int b u, .int c v] []) (ForK C n (.Name y p) body env R) := by
  refine W_range3 hc hs fun r => W_iterRange .here hsm fun it => ?_
  rw [hb]
  exact WCd_forRange a c N I (fun j K O st hj hI t => turn it j K O st hj hI t) done h
end
end Mine
end
section
open PySem PySem.W PySem.Calls PyProof.Rows
set_option Elab.async false
set_option linter.unusedVariables false
set_option linter.unusedSectionVars false
set_option maxRecDepth 100000
namespace Mine
section
variable {α β : Type} {C : WC} {n : Nat} {K : KH} {O O' : OL} {env : Env} {x : Str} {pos : Pos}

theorem WCd_perm {c : Code} {R : Flow → KH → OL → Prop} (hs : O'.Perm O) (h : WCd C n K O' c R) : WCd C n K O c R := fun A hA s S => h A hA s (S.perm hs)
theorem WCd_mono {c : Code} {R R' : Flow → KH → OL → Prop} (h : WCd C n K O c R) (hR : ∀ f K O, R f K O → R' f K O) : WCd C n K O c R' := fun A hA s S => codeAny_mono (h A hA s S) fun r s' hr => by
  cases r with
  | error e => exact hr
  | ok f => obtain ⟨K', O', S', q⟩ := hr; exact ⟨K', O', S', hR _ _ _ q⟩
/-- the conditions of a comprehension -/
def ifsT (ifs : List Expr) (env : Env) : Sem Bool := forIn ifs true fun c r => if r = true then do let ok ← isTrue c env (eval c env); pure (ForInStep.yield ok) else pure (ForInStep.yield r)
theorem W_ifs0 {Q : Bool → KH → OL → Prop} (h : Q true K O) : W C n K O (ifsT [] env) Q := by
  unfold ifsT; rw [List.forIn_nil]; exact W_pure h
theorem W_ifs1 {c : Expr} {Q : Bool → KH → OL → Prop} (h : W C n K O (isTrue c env (eval c env)) Q) : W C n K O (ifsT [c] env) Q := by
  unfold ifsT
  rw [List.forIn_cons]
  simp only [if_true]
  exact W_bind (W_bind (W_mono h fun ok K O q => W_pure (by dsimp only; rw [List.forIn_nil]; exact W_pure q)))

/-- what a turn leaves -/
def CompOk (I : KH → OL → Prop) (it : Addr) (st : AO) (K : KH) (O : OL) : Prop := ∃ O₃, ((it, st) :: O₃).Sublist O ∧ I K O₃
theorem comp_next {I : KH → OL → Prop} {it : Addr} {st : AO} {O₃ : OL} (hs : ((it, st) :: O₃).Sublist O) (h : I K O₃) : CompOk I it st K O := ⟨O₃, hs, h⟩

theorem WCd_comp1 {elt iter : Expr} {y : Str} {p : Pos} {ifs : List Expr} {scope : Scope} {it D : Addr} {R : Flow → KH → OL → Prop} (N : Nat) (st : Nat → AO) (I : Nat → KH → OL → Prop)
    (self : ∀ {K : KH} {O : OL} {Q : Value → KH → OL → Prop}, (it, st 0) ∈ O → Q (.ref it) K O → W C n K O (pyIter (.ref it)) Q)
    (next : ∀ j K O, j ≤ N → I j K O → W C n K ((it, st j) :: O) (pyNext (.ref it)) fun r K' O' =>
      (j < N ∧ ∃ v, r = some v ∧ W C n K' O' (storeName env y v) fun _ K' O' => W C n K' O' (ifsT ifs env) fun ok K' O' =>
        if ok = true then W C n K' O' (eval elt env) fun r K' O' => W C n K' O' (call (.builtin "list.append") [.ref D, r]) fun _ K' O' => CompOk (I (j + 1)) it (st (j + 1)) K' O'
        else CompOk (I (j + 1)) it (st (j + 1)) K' O') ∨
      (r = none ∧ R .next K' O'))
    (h : I 0 K O) : WCd C n K ((it, st 0) :: O) (.compStart (.ListComp elt [⟨.Name y p, iter, ifs, 0⟩] scope pos) 0 (.ref it) (.ref D) env) R := by
  have main : WCd C n K ((it, st 0) :: O) (.compLoop (.ListComp elt [⟨.Name y p, iter, ifs, 0⟩] scope pos) 0 (.ref it) (.ref D) env) R := by
    refine WCd_compLoop (fun m K O => ∃ j O₀, m = N - j ∧ j ≤ N ∧ ((it, st j) :: O₀).Sublist O ∧ I j K O₀) ?_ N ⟨0, O, rfl, Nat.zero_le _, List.Sublist.refl _, h⟩
    rintro m K O ⟨j, O₀, rfl, hj, hs, hI⟩
    refine W_sub hs (W_mono (next j K O₀ hj hI) fun r K' O' hr => ?_)
    rcases hr with ⟨hlt, v, rfl, hw⟩ | ⟨rfl, hR⟩
    · refine W_ownedName (W_assignName (W_mono hw fun _ K' O' hw => W_mono hw fun ok K' O' hw => ?_))
      cases ok with
      | true =>
        rw [if_pos rfl] at hw ⊢
        refine W_mono hw fun r K' O' hw => W_mono hw fun _ K' O' hf => ?_
        obtain ⟨O₃, hs, hi⟩ := hf
        exact ⟨N - (j + 1), by omega, j + 1, O₃, rfl, hlt, hs, hi⟩
      | false =>
        rw [if_neg Bool.false_ne_true] at hw ⊢
        obtain ⟨O₃, hs, hi⟩ := hw
        exact ⟨N - (j + 1), by omega, j + 1, O₃, rfl, hlt, hs, hi⟩
    · exact hR
  exact WCd_compStart (g := ⟨.Name y p, iter, ifs, 0⟩) rfl rfl main (self (.head _) main)

/-- the frame of a comprehension -/
abbrev cEnv (scope : Scope) (env : Env) (L : Addr) (cells : List (Str × Addr)) : Env := { newEnv scope L env.globals cells env.qual none .none (some env) builtinsNs with scope := relabel scope env }

inductive ListI (C : WC) (n : Nat) (env : Env) (elt : Expr) (y : Str) (ifs : List Expr) (scope : Scope) (cl : List (Str × Addr)) (P : KH → OL → Prop) (D L l : Addr) (vs : List Value) (K : KH) (O : OL) : Prop
  | mk (I : Nat → KH → OL → Prop) (h0 : I 0 K ((L, .ns nom) :: (D, .list []) :: O)) (hL : ∀ j K O st it, I j K O → LstAt C K ((it, st) :: O) l vs)
    (turn : ∀ it j K' O' st v, vs[j]? = some v → I j K' O' → W C n K' ((it, st) :: O') (storeName (cEnv scope env L cl) y v) fun _ K' O' =>
        W C n K' O' (ifsT ifs (cEnv scope env L cl)) fun ok K' O' =>
        if ok = true then W C n K' O' (eval elt (cEnv scope env L cl)) fun r K' O' =>
          W C n K' O' (call (.builtin "list.append") [.ref D, r]) fun _ K' O' => CompOk (I (j + 1)) it st K' O'
        else CompOk (I (j + 1)) it st K' O')
    (done : ∀ K' O', I vs.length K' O' → P K' O')
inductive ListK (C : WC) (n : Nat) (env : Env) (elt : Expr) (y : Str) (ifs : List Expr) (scope : Scope) (cl : List (Str × Addr)) (P : Addr → Addr → KH → OL → Prop) (x : Value) (K : KH) (O : OL) : Prop
  | mk (l : Addr) (vs : List Value) (hx : x = .ref l) (hl : LstAt C K O l vs) (hh : ∀ D L, ListI C n env elt y ifs scope cl (P D L) D L l vs K O)
/-- the walk of a comprehension over a list, in one frame without cells -/
theorem comp_list {elt iter : Expr} {y : Str} {p : Pos} {ifs : List Expr} {scope : Scope} {cl : List (Str × Addr)} {P : Addr → Addr → KH → OL → Prop}
    (hlay : ∀ O P, P cl O → LayC scope.names cl O P)
    (h : W C n K O (eval iter env) (ListK C n env elt y ifs scope cl P)) :
    W C n K O (eval iter env) fun x K O => W C n K O (pyIter x) fun it K O => ∀ D L, LayC scope.names cl ((L, .ns nom) :: (D, .list []) :: O) fun cells O' =>
      WCd C n K O' (.compStart (.ListComp elt [⟨.Name y p, iter, ifs, 0⟩] scope pos) 0 it (.ref D) (cEnv scope env L cells)) fun _ K' O' => P D L K' O' := by
  refine W_mono h fun x K O hx => ?_
  obtain ⟨l, vs, rfl, hl, hh⟩ := hx
  refine W_iterList hl fun it D L => hlay _ _ ?_
  obtain ⟨I, h0, hL, turn, done⟩ := hh D L
  refine WCd_perm (O' := (it, lit l 0) :: (L, .ns nom) :: (D, .list []) :: O) ?_ ?_
  · exact (List.Perm.swap _ _ _).trans (List.Perm.cons _ (List.Perm.swap _ _ _))
  refine WCd_comp1 vs.length (fun j => lit l j) I (fun hm q => W_iterListiter hm q) (fun j K' O' hj hI => ?_) h0
  rcases Nat.lt_or_ge j vs.length with hlt | hge
  · have hx := List.getElem?_eq_getElem hlt
    exact W_nextList .here (hL j K' O' _ _ hI) hx (.inl ⟨hlt, _, rfl, turn it j K' O' _ _ hx hI⟩)
  · have : j = vs.length := by omega
    subst this
    exact W_nextListEnd .here (hL _ K' O' _ _ hI) (by simp) (.inr ⟨rfl, done _ _ hI⟩)

/-- over a range -/
inductive RangeI (C : WC) (n : Nat) (env : Env) (elt : Expr) (y : Str) (ifs : List Expr) (scope : Scope) (cl : List (Str × Addr)) (P : KH → OL → Prop) (D L : Addr) (a c : Int) (N : Nat) (K : KH) (O : OL) : Prop
  | mk (I : Nat → KH → OL → Prop) (h0 : I 0 K ((L, .ns nom) :: (D, .list []) :: O))
    (turn : ∀ it j K' O' st, j < N → I j K' O' → ∀ t, W C n K' ((it, st) :: O') (storeName (cEnv scope env L cl) y (.int (a + c * j) t)) fun _ K' O' =>
        W C n K' O' (ifsT ifs (cEnv scope env L cl)) fun ok K' O' =>
        if ok = true then W C n K' O' (eval elt (cEnv scope env L cl)) fun r K' O' =>
          W C n K' O' (call (.builtin "list.append") [.ref D, r]) fun _ K' O' => CompOk (I (j + 1)) it st K' O'
        else CompOk (I (j + 1)) it st K' O')
    (done : ∀ K' O', I N K' O' → P K' O')
inductive RangeK (C : WC) (n : Nat) (env : Env) (elt : Expr) (y : Str) (ifs : List Expr) (scope : Scope) (cl : List (Str × Addr)) (P : Addr → Addr → KH → OL → Prop) (x : Value) (K : KH) (O₁ : OL) : Prop
  | mk (r : Addr) (a b c : Int) (t u v : Tok) (N : Nat) (O : OL) (hx : x = .ref r) (hd : Del O₁ r (rng a b c t u v) O) (hsm : Builtin.Range.small a b c = true) (hN : Builtin.Range.rangeSize a b c = (N : Nat))
    (hh : ∀ D L, RangeI C n env elt y ifs scope cl (P D L) D L a c N K O)
theorem comp_range {elt iter : Expr} {y : Str} {p : Pos} {ifs : List Expr} {scope : Scope} {cl : List (Str × Addr)} {P : Addr → Addr → KH → OL → Prop}
    (hlay : ∀ O P, P cl O → LayC scope.names cl O P)
    (h : W C n K O (eval iter env) (RangeK C n env elt y ifs scope cl P)) :
    W C n K O (eval iter env) fun x K O => W C n K O (pyIter x) fun it K O => ∀ D L, LayC scope.names cl ((L, .ns nom) :: (D, .list []) :: O) fun cells O' =>
      WCd C n K O' (.compStart (.ListComp elt [⟨.Name y p, iter, ifs, 0⟩] scope pos) 0 it (.ref D) (cEnv scope env L cells)) fun _ K' O' => P D L K' O' := by
  refine W_mono h fun x K O₁ hx => ?_
  obtain ⟨r, a, b, c, t, u, v, N, O, rfl, hd, hsm, hN, hh⟩ := hx
  refine W_iterRange hd hsm fun it D L => hlay _ _ ?_
  rw [hN]
  obtain ⟨I, h0, turn, done⟩ := hh D L
  have e : rit a N c = ritAt a c N 0 := by simp [ritAt]
  rw [e]
  refine WCd_perm (O' := (it, ritAt a c N 0) :: (L, .ns nom) :: (D, .list []) :: O) ?_ ?_
  · exact (List.Perm.swap _ _ _).trans (List.Perm.cons _ (List.Perm.swap _ _ _))
  refine WCd_comp1 N (ritAt a c N) I (fun hm q => W_iterRangeiter hm q) (fun j K' O' hj hI => ?_) h0
  rcases Nat.lt_or_ge j N with hlt | hge
  · have e1 : a + c * (j : Int) + c = a + c * ((j + 1 : Nat) : Int) := by rw [show ((j + 1 : Nat) : Int) = (j : Int) + 1 by omega, Int.mul_add, Int.mul_one, Int.add_assoc]
    have e2 : (N : Int) - j - 1 = (N : Int) - ((j + 1 : Nat) : Int) := by omega
    refine W_nextRange (y := a + c * (j : Int)) (left := (N : Int) - j) (step := c) (O' := (it, ritAt a c N (j + 1)) :: O') (by unfold ritAt; rw [← e1, ← e2]; exact Upd.here) (by omega) fun t => .inl ⟨hlt, _, rfl, ?_⟩
    exact turn it j K' O' _ hlt hI t
  · have : j = N := by omega
    subst this
    exact W_nextRangeEnd .here (by omega) (.inr ⟨rfl, done _ _ hI⟩)
end
end Mine
end
section
open PySem PySem.W PySem.Calls PyProof.Rows
set_option Elab.async false
set_option linter.unusedVariables false
set_option linter.unusedSectionVars false
set_option maxRecDepth 100000
namespace Mine
section
variable {α β : Type} {C : WC} {n : Nat} {K : KH} {O O' : OL} {env : Env} {x : Str} {pos : Pos}
theorem WR_forLst {y : Str} {p : Pos} {l : Addr} {vs : List Value} {body : List Stmt} {R : Flow → KH → OL → Prop} (I : Nat → KH → OL → Prop) (hl0 : LstAt C K O l vs)
    (hl : ∀ j K O st it, I j K O → LstAt C K ((it, st) :: O) l vs) (h : I 0 K O)
    (turn : ∀ it j K O st v, vs[j]? = some v → I j K O → W C n K ((it, st) :: O) (storeName env y v) (KR0 C n (execs body env) (TurnJ I (j + 1) it st R)))
    (done : ∀ K O, I vs.length K O → R .next K O) :
    W C n K O (pyIter (.ref l)) (ForR2 C n (.Name y p) body env R) :=
  W_iterList hl0 fun it => WRd_forList I (fun j K O st => hl j K O st it) (fun j K O st v hv hI => turn it j K O st v hv hI) done h

inductive AppR (C : WC) (n : Nat) (te : Sem Value) (Q : Value → KH → OL → Prop) (ov : Value) (K : KH) (O : OL) : Prop
  | mk (D : Addr) (vs : List Value) (e : ov = .ref D) (hh : Has C K O D (.list vs)) (hw : WR C n K O te (AppQ C n Q D))
theorem WR_CallAppend {e elt : Expr} {apos : Pos} {Q : Value → KH → OL → Prop}
    (h : W C n K O (eval e env) (AppR C n (eval elt env) Q))
    (hbase : attributeBase e "append" env (eval e env) = eval e env := by rfl)
    (hfew : ((backTo pos (starEach [elt] env)).all (fun x => !x.1) && (backToKw pos (keywordEach [] env)).all (fun x => x.1.isSome)
      && decide (([elt] : List Expr).length + ([] : List Keyword).length + (if ([] : List Keyword).isEmpty then 0 else 1) < 30)) = true := by rfl)
    (hline : (apos.endLine == pos.line) = true := by rfl) (hplain : (backTo pos (starEach [elt] env)).any (·.1) = false := by rfl) (he : starEach [elt] env = (false, eval elt env) :: starEach [] env := by rfl) :
    WR C n K O (eval (.Call (.Attribute e "append" apos) [elt] [] pos) env) Q := fun A hA s S => by
  rw [arm_eval_Call, hbase]
  refine wpR_bind ((W.r h).to hA S fun ov s₁ K₁ O₁ S₁ q => ?_)
  obtain ⟨D, vs, rfl, hh, hw⟩ := q
  have hT : s₁.TypeIs (.ref D) "list" := (LstAt.has hh).ty s₁ S₁
  have hd := noDict_list (C := C) rfl hh s₁ S₁
  have hform : methodCallForm (([elt] : List Expr).length + ([] : List Keyword).length) (backTo pos (starEach [elt] env)) (backToKw pos (keywordEach [] env)) = true := hfew
  have hpos : methodCallPos true e env apos pos = pure pos := by unfold methodCallPos; simp [hline]
  have main : WR C n K₁ O₁ (callWith pos (.builtin "list.append") [.ref D] (backTo pos (starEach [elt] env)) []) Q :=
    WR_callWithB hplain (keeper_builtin _) (WR_callM (WR_args_cons (WR_mono hw fun y K O hw => (W_args_nil (W.r hw)).r) he) he)
  refine wpR_bind (wpR_of (wpAny_standAt ?_))
  unfold methodCall
  rw [hform]
  refine wpR_bind (wpR_holding (wpR_of (getMethod_builtin hT PySem.F.plainAttrs_list PySem.F.slot_list_append PySem.F.type_list_append hd ?_)))
  exact wpR_bind (wpR_of (wpAny_of_eq hpos (main A hA s₁ S₁)))
end
end Mine
end
section
open PySem PySem.W PySem.Calls PyProof.Rows
set_option Elab.async false
set_option linter.unusedVariables false
set_option linter.unusedSectionVars false
set_option maxRecDepth 100000
namespace Mine
section
variable {α β : Type} {C : WC} {n : Nat} {K : KH} {O O' : OL} {env : Env} {x : Str} {pos : Pos}
def isI (x : Int) : Value → Bool
  | .int i _ => i == x
  | _ => false
theorem W_index {l : Addr} {vs : List Value} {ns : List Int} {x : Int} {t : Tok} {Q : Value → KH → OL → Prop} (hl : Has C K O l (.list vs)) (hv : A2 IntV vs ns) (hx : x ∈ ns) (hz : ns.length < 1000) (h : ∀ t, Q (.int (ns.idxOf x : Nat) t) K O) :
    W C n K O (call (.builtin "list.index") [.ref l, .int x t] []) Q := fun A hA s S => by
  obtain ⟨o, ho, m, rfl⟩ := S.has hl
  have hlen := hv.length
  have hj : ns.idxOf x < ns.length := List.idxOf_lt_length_of_mem hx
  have val : ∀ i (hi : i < ns.length), ∃ u, vs.toArray[i]'(by simp; omega) = .int ns[i] u := fun i hi => by
    obtain ⟨a, e, u, rfl⟩ := hv.get' i hi
    refine ⟨u, ?_⟩
    have := List.getElem?_eq_some_iff.mp e
    obtain ⟨h1, h2⟩ := this
    simpa using h2
  refine call_meets PySem.F.slot_list_index ⟨_, ho, rfl⟩ PySem.F.entry_list_index (PySem.F.args_list_index_2 _ _)
    (MeetsSeq.list_index l vs.toArray m (.int x t) (isI x) (fun y hy => ?_) (ns.idxOf x) (by simp; omega) (by omega) ?_ (fun i hi hlt => ?_)) ⟨ho, K, O, S.toks, h _⟩
  · have hy' : y ∈ vs := by simpa using hy
    obtain ⟨i, hi, e⟩ := List.mem_iff_getElem.mp hy'
    obtain ⟨u, hu⟩ := val i (by omega)
    have : y = .int (ns[i]'(by omega)) u := by rw [← hu, ← e]; simp
    subst this
    exact MeetsSeq.EqGives.int _ _ _ _
  · obtain ⟨u, hu⟩ := val _ hj
    rw [hu]
    show (ns[ns.idxOf x] == x) = true
    simp
  · obtain ⟨u, hu⟩ := val i (by omega)
    rw [hu]
    show (ns[i]'(by omega) == x) = false
    have := List.not_of_lt_findIdx (p := (· == x)) (xs := ns) (i := i) (by simpa [List.idxOf] using hlt)
    simpa using this
end
end Mine
end
section
open PySem PySem.W PySem.Calls PyProof.Rows
set_option Elab.async false
set_option linter.unusedVariables false
set_option linter.unusedSectionVars false
set_option maxRecDepth 100000
namespace Mine
section
variable {α β : Type} {C : WC} {n : Nat} {K : KH} {O O' : OL} {env : Env} {x : Str} {pos : Pos}

/-- what a comprehension's turn gives: the owned things as they were, one item more -/
def TurnC (J : KH → List Value → Prop) (it : Addr) (st : AO) (L D : Addr) (ws : List Value) (O : OL) (r : Value) (K' : KH) (O' : OL) : Prop :=
  ∃ m, ((it, st) :: (L, .ns m) :: (D, .list ws) :: O).Sublist O' ∧ J K' (ws ++ [r])
def TurnS (J : KH → List Value → Prop) (it : Addr) (st : AO) (L D : Addr) (ws : List Value) (O : OL) (K' : KH) (O' : OL) : Prop :=
  ∃ m, ((it, st) :: (L, .ns m) :: (D, .list ws) :: O).Sublist O' ∧ J K' ws
theorem turnC {J : KH → List Value → Prop} {it : Addr} {st : AO} {L D : Addr} {ws : List Value} {O : OL} {r : Value} {K' : KH} {O' : OL} {m : Str → Option Value}
    (hs : ((it, st) :: (L, .ns m) :: (D, .list ws) :: O).Sublist O') (h : J K' (ws ++ [r])) : TurnC J it st L D ws O r K' O' := ⟨m, hs, h⟩
theorem turnS {J : KH → List Value → Prop} {it : Addr} {st : AO} {L D : Addr} {ws : List Value} {O : OL} {K' : KH} {O' : OL} {m : Str → Option Value}
    (hs : ((it, st) :: (L, .ns m) :: (D, .list ws) :: O).Sublist O') (h : J K' ws) : TurnS J it st L D ws O K' O' := ⟨m, hs, h⟩
def CompI (J : Nat → KH → List Value → Prop) (L D : Addr) (O : OL) (j : Nat) (K : KH) (O₁ : OL) : Prop := ∃ m ws, ws.length ≤ j ∧ O₁ = (L, .ns m) :: (D, .list ws) :: O ∧ J j K ws
theorem turn_tail {J : Nat → KH → List Value → Prop} {it : Addr} {st : AO} {L D : Addr} {ws : List Value} {r : Value} {j : Nat} (hz : ws.length ≤ j) (hj : j ≤ 1000000)
    (h : TurnC (J (j + 1)) it st L D ws O r K O') : W C n K O' (call (.builtin "list.append") [.ref D, r] []) fun _ K' O' => CompOk (CompI J L D O (j + 1)) it st K' O' := by
  obtain ⟨m, hs, h⟩ := h
  refine W_sub hs (W_append (.there (.there .here)) (by rw [sizeLine_eq]; omega) ?_)
  exact comp_next (List.Sublist.refl _) ⟨m, _, by simp; omega, rfl, h⟩
theorem turn_skip {J : Nat → KH → List Value → Prop} {it : Addr} {st : AO} {L D : Addr} {ws : List Value} {j : Nat} (hz : ws.length ≤ j)
    (h : TurnS (J (j + 1)) it st L D ws O K O') : CompOk (CompI J L D O (j + 1)) it st K O' := by
  obtain ⟨m, hs, h⟩ := h
  exact comp_next hs ⟨m, ws, by omega, rfl, h⟩

inductive RangeP (C : WC) (n : Nat) (env : Env) (elt : Expr) (y : Str) (ifs : List Expr) (scope : Scope) (cl : List (Str × Addr)) (P : Addr → Addr → KH → OL → Prop) (x : Value) (K : KH) (O₁ : OL) : Prop
  | mk (r : Addr) (a b c : Int) (t u v : Tok) (N : Nat) (O : OL) (hx : x = .ref r) (hd : Del O₁ r (rng a b c t u v) O) (hsm : Builtin.Range.small a b c = true) (hN : Builtin.Range.rangeSize a b c = (N : Nat)) (hN' : N ≤ 1000000)
    (J : Nat → KH → List Value → Prop) (h0 : J 0 K [])
    (turn : ∀ D L it j K' st m ws, j < N → J j K' ws → ∀ t, W C n K' ((it, st) :: (L, .ns m) :: (D, .list ws) :: O) (storeName (cEnv scope env L cl) y (.int (a + c * j) t)) fun _ K' O' =>
        W C n K' O' (ifsT ifs (cEnv scope env L cl)) fun ok K' O' =>
        if ok = true then W C n K' O' (eval elt (cEnv scope env L cl)) fun r K' O' => TurnC (J (j + 1)) it st L D ws O r K' O'
        else TurnS (J (j + 1)) it st L D ws O K' O')
    (done : ∀ D L m K' ws, J N K' ws → P D L K' ((L, .ns m) :: (D, .list ws) :: O))
inductive ListP (C : WC) (n : Nat) (env : Env) (elt : Expr) (y : Str) (ifs : List Expr) (scope : Scope) (cl : List (Str × Addr)) (P : Addr → Addr → KH → OL → Prop) (x : Value) (K : KH) (O : OL) : Prop
  | mk (l : Addr) (vs : List Value) (hx : x = .ref l) (hl : LstAt C K O l vs) (hN : vs.length ≤ 1000000) (J : Nat → KH → List Value → Prop) (h0 : J 0 K [])
    (hL : ∀ D L it j K' st m ws, J j K' ws → LstAt C K' ((it, st) :: (L, .ns m) :: (D, .list ws) :: O) l vs)
    (turn : ∀ D L it j K' st m ws v, vs[j]? = some v → J j K' ws → W C n K' ((it, st) :: (L, .ns m) :: (D, .list ws) :: O) (storeName (cEnv scope env L cl) y v) fun _ K' O' =>
        W C n K' O' (ifsT ifs (cEnv scope env L cl)) fun ok K' O' =>
        if ok = true then W C n K' O' (eval elt (cEnv scope env L cl)) fun r K' O' => TurnC (J (j + 1)) it st L D ws O r K' O'
        else TurnS (J (j + 1)) it st L D ws O K' O')
    (done : ∀ D L m K' ws, J vs.length K' ws → P D L K' ((L, .ns m) :: (D, .list ws) :: O))

/-- a comprehension over a range whose items leave the owned things alone -/
theorem comp_rangeP {elt iter : Expr} {y : Str} {p : Pos} {ifs : List Expr} {scope : Scope} {cl : List (Str × Addr)} {P : Addr → Addr → KH → OL → Prop}
    (hlay : ∀ O P, P cl O → LayC scope.names cl O P)
    (h : W C n K O (eval iter env) (RangeP C n env elt y ifs scope cl P)) :
    W C n K O (eval iter env) fun x K O => W C n K O (pyIter x) fun it K O => ∀ D L, LayC scope.names cl ((L, .ns nom) :: (D, .list []) :: O) fun cells O' =>
      WCd C n K O' (.compStart (.ListComp elt [⟨.Name y p, iter, ifs, 0⟩] scope pos) 0 it (.ref D) (cEnv scope env L cells)) fun _ K' O' => P D L K' O' := by
  refine comp_range hlay (W_mono h fun x K O₁ hx => ?_)
  obtain ⟨r, a, b, c, t, u, v, N, O, rfl, hd, hsm, hN, hN', J, h0, turn, done⟩ := hx
  refine ⟨r, a, b, c, t, u, v, N, O, rfl, hd, hsm, hN, fun D L => ⟨CompI J L D O, ⟨nom, [], by simp, rfl, h0⟩, ?_, ?_⟩⟩
  · rintro it j K' O' st hj ⟨m, ws, hz, rfl, hJ⟩ t
    refine W_mono (turn D L it j K' st m ws hj hJ t) fun _ K' O' hw => W_mono hw fun ok K' O' hw => ?_
    cases ok with
    | true =>
      rw [if_pos rfl] at hw ⊢
      exact W_mono hw fun r K' O' hw => turn_tail hz (by omega) hw
    | false =>
      rw [if_neg Bool.false_ne_true] at hw ⊢
      exact turn_skip hz hw
  · rintro K' O' ⟨m, ws, hz, rfl, hJ⟩
    exact done D L m K' ws hJ

/-- the same over a list -/
theorem comp_listP {elt iter : Expr} {y : Str} {p : Pos} {ifs : List Expr} {scope : Scope} {cl : List (Str × Addr)} {P : Addr → Addr → KH → OL → Prop}
    (hlay : ∀ O P, P cl O → LayC scope.names cl O P)
    (h : W C n K O (eval iter env) (ListP C n env elt y ifs scope cl P)) :
    W C n K O (eval iter env) fun x K O => W C n K O (pyIter x) fun it K O => ∀ D L, LayC scope.names cl ((L, .ns nom) :: (D, .list []) :: O) fun cells O' =>
      WCd C n K O' (.compStart (.ListComp elt [⟨.Name y p, iter, ifs, 0⟩] scope pos) 0 it (.ref D) (cEnv scope env L cells)) fun _ K' O' => P D L K' O' := by
  refine comp_list hlay (W_mono h fun x K O hx => ?_)
  obtain ⟨l, vs, rfl, hl, hN', J, h0, hL, turn, done⟩ := hx
  refine ⟨l, vs, rfl, hl, fun D L => ⟨CompI J L D O, ⟨nom, [], by simp, rfl, h0⟩, ?_, ?_, ?_⟩⟩
  · rintro j K' O' st it ⟨m, ws, hz, rfl, hJ⟩
    exact hL D L it j K' st m ws hJ
  · rintro it j K' O' st v hv ⟨m, ws, hz, rfl, hJ⟩
    have hj : j < vs.length := (List.getElem?_eq_some_iff.mp hv).1
    refine W_mono (turn D L it j K' st m ws v hv hJ) fun _ K' O' hw => W_mono hw fun ok K' O' hw => ?_
    cases ok with
    | true =>
      rw [if_pos rfl] at hw ⊢
      exact W_mono hw fun r K' O' hw => turn_tail hz (by omega) hw
    | false =>
      rw [if_neg Bool.false_ne_true] at hw ⊢
      exact turn_skip hz hw
  · rintro K' O' ⟨m, ws, hz, rfl, hJ⟩
    exact done D L m K' ws hJ
end
end Mine
end
section
open PySem PySem.W PySem.Calls PyProof.Rows
set_option Elab.async false
set_option linter.unusedVariables false
set_option linter.unusedSectionVars false
set_option maxRecDepth 100000
namespace Mine
section
variable {α β : Type} {C : WC} {n : Nat} {K : KH} {O O' : OL} {env : Env} {pos : Pos}
/-- what a tree gives is frozen as it comes out -/
theorem W_thenFreeze {t : Sem α} {Q : α → KH → OL → Prop} (h : W C n K O t fun v K' O' => ∃ a y O'', Del O' a y O'' ∧ ∀ K'', KLe K' K'' → K'' a = some y → Q v K'' O'') : W C n K O t Q := fun A hA s S =>
  h.to hA S fun v s' K' O' S' q => by
    obtain ⟨a, y, O'', d, q⟩ := q
    obtain ⟨K'', h1, h2, S''⟩ := (S'.perm d.perm).freeze
    exact ⟨K'', O'', S'', q K'' h1 h2⟩
theorem WCd_startL {elt : Expr} {gens : List Comprehension} {scope : Scope} {d : Nat} {it l : Addr} {i : Nat} {acc : Value} {g : Comprehension} {R : Flow → KH → OL → Prop} (hg : gens[d]? = some g) (ha : g.is_async = 0) (hm : (it, lit l i) ∈ O)
    (main : WCd C n K O (.compLoop (.ListComp elt gens scope pos) d (.ref it) acc env) R) : WCd C n K O (.compStart (.ListComp elt gens scope pos) d (.ref it) acc env) R :=
  WCd_compStart hg ha main (W_iterListiter hm main)

def RefL (K : KH) (v : Value) (l : List Value) : Prop := ∃ a, v = .ref a ∧ K a = some (.list l)

inductive FlatP (C : WC) (P : Addr → KH → OL → Prop) (v : Value) (K : KH) (O : OL) : Prop
  | mk (l : Addr) (rs : List Value) (vss : List (List Value)) (hv : v = .ref l) (hl : Has C K O l (.list rs)) (hA : A2 (RefL K) rs vss) (hz : vss.flatten.length ≤ 1000) (done : ∀ D, P D K ((D, .list vss.flatten) :: O))
theorem comp_flat {iter : Expr} {x y : Str} {p1 p2 p3 p4 : Pos} {scope : Scope} {P : Addr → KH → OL → Prop}
    (hlay : ∀ O P, P [] O → LayC scope.names [] O P) (hk : (relabel scope env).kind = .function) (h1 : ∀ L, (cEnv scope env L []).kindOf x = some .local) (h2 : ∀ L, (cEnv scope env L []).kindOf y = some .local)
    (hd1 : (x == ("__debug__" : Str)) = false) (hd2 : (y == ("__debug__" : Str)) = false) 
    (h : W C n K O (eval iter env) (FlatP C P))
    (hs : ∀ v L, foldedSetIterable (.Name x p2) (cEnv scope env L []) v = pure v := by intro _ _; rfl) :
    W C n K O (eval iter env) fun v K O => W C n K O (pyIter v) fun it K O => ∀ D L, LayC scope.names [] ((L, .ns nom) :: (D, .list []) :: O) fun cells O' =>
      WCd C n K O' (.compStart (.ListComp (.Name y p4) [⟨.Name x p1, iter, [], 0⟩, ⟨.Name y p3, .Name x p2, [], 0⟩] scope pos) 0 it (.ref D) (cEnv scope env L cells)) fun _ K' O' => ∃ O₂ O₃ m, O₂.Sublist O' ∧ Del O₂ L (.ns m) O₃ ∧ P D K' O₃ := by
  refine W_mono h fun v K O hx => ?_
  obtain ⟨l, rs, vss, rfl, hl, hA, hz, done⟩ := hx
  refine W_iterList (LstAt.has hl) fun it D L => hlay _ _ ?_
  refine WCd_perm (O' := (it, lit l 0) :: (L, .ns nom) :: (D, .list []) :: O) ((List.Perm.swap _ _ _).trans (List.Perm.cons _ (List.Perm.swap _ _ _))) ?_
  refine WCd_startL rfl rfl (.head _) ?_
  have hlen := hA.length
  refine WCd_compTwo0 (fun q K₁ O₁ => ∃ i m, q = rs.length - i ∧ i ≤ rs.length ∧ K₁ = K ∧ ((it, lit l i) :: (L, .ns m) :: (D, .list (vss.take i).flatten) :: O).Sublist O₁) ?_ rs.length ⟨0, nom, rfl, Nat.zero_le _, rfl, by simp⟩ (fun v => hs v L)
  rintro q K₁ O₁ ⟨i, m, rfl, hi, rfl, hsub⟩
  refine W_sub hsub ?_
  have hl3 : ∀ a b c, LstAt C K₁ (a :: b :: c :: O) l rs := fun a b c => LstAt.has (Has.cons (Has.cons (Has.cons hl)))
  rcases Nat.lt_or_ge i rs.length with hlt | hge
  · have hx := List.getElem?_eq_getElem hlt
    obtain ⟨ws, hws, r, hr, hK⟩ := hA.at' i _ hx
    refine W_nextList .here (hl3 _ _ _) hx ?_
    rw [hr]
    refine W_ownedName (W_assignName (W_storeLocal hk (h1 L) (.there .here) ?_))
    refine W_local hk (h1 L) (.inr (.inl (.tail _ (.head _)))) setm_eq ?_ hd1
    refine W_iterList (LstAt.k hK) fun it2 => ?_
    refine WCd_startL rfl rfl (.head _) ?_
    have hpre : (vss.take (i + 1)).flatten = (vss.take i).flatten ++ ws := by rw [List.take_add_one, hws]; simp
    have hbig : ∀ j, ((vss.take i).flatten ++ ws.take j).length ≤ 1000 := fun j => by
      refine Nat.le_trans ?_ hz
      have e : vss.flatten = (vss.take i).flatten ++ (vss.drop i).flatten := by rw [← List.flatten_append, List.take_append_drop]
      have e2 : vss.drop i = ws :: vss.drop (i + 1) := by
        obtain ⟨hi', e'⟩ := List.getElem?_eq_some_iff.mp hws
        rw [List.drop_eq_getElem_cons hi', e']
      rw [e, e2]
      simp; omega
    refine WCd_compTwo1 (fun q K₂ O₂ => ∃ j m, q = ws.length - j ∧ j ≤ ws.length ∧ K₂ = K₁ ∧ ((it2, lit r j) :: (it, lit l (i + 1)) :: (L, .ns m) :: (D, .list ((vss.take i).flatten ++ ws.take j)) :: O).Sublist O₂) ?_ ws.length ⟨0, setm m x (.ref r), rfl, Nat.zero_le _, rfl, by simp⟩
    rintro q K₂ O₂ ⟨j, m₂, rfl, hj, rfl, hsub⟩
    refine W_sub hsub ?_
    rcases Nat.lt_or_ge j ws.length with hlt2 | hge2
    · have hx2 := List.getElem?_eq_getElem hlt2
      refine W_nextList .here (LstAt.k hK) hx2 ?_
      refine W_ownedName (W_assignName (W_storeLocal hk (h2 L) (.there (.there .here)) ?_))
      refine W_local hk (h2 L) (.inr (.inl (.tail _ (.tail _ (.head _))))) setm_eq ?_ hd2
      refine W_append (.there (.there (.there .here))) (by rw [sizeLine_eq]; have := hbig j; omega) ?_
      refine ⟨ws.length - (j + 1), by omega, j + 1, setm m₂ y ws[j], rfl, hlt2, rfl, ?_⟩
      rw [List.take_add_one, hx2]
      simp
    · have : j = ws.length := by omega
      subst this
      refine W_nextListEnd .here (LstAt.k hK) (by simp) ?_
      refine ⟨rs.length - (i + 1), by omega, i + 1, m₂, rfl, hlt, rfl, ?_⟩
      rw [hpre]
      simp
  · have : i = rs.length := by omega
    subst this
    refine W_nextListEnd .here (hl3 _ _ _) (by simp) ⟨_, _, m, List.Sublist.refl _, .here, ?_⟩
    have e : vss.take rs.length = vss := by rw [hlen]; exact List.take_length
    rw [e]
    exact done D
end
end Mine
end
section
open PySem PySem.W PySem.Calls PyProof.Rows
set_option Elab.async false
set_option linter.unusedVariables false
set_option linter.unusedSectionVars false
set_option maxRecDepth 100000
namespace Mine
def enm (it : Addr) (i : Int) (old : Value) : AO := .ex { cls := .type "enumerate", dict := none, data := .fields #[.none, .bool false, .ref it, rawInt i, .none, old], slots := #[] }
def enmOut (it : Addr) (i : Int) (item : Value) (a : Addr) : AO := .ex { cls := .type "enumerate", dict := none, data := .fields #[rawInt a, .bool false, .ref it, rawInt i, .none, item], slots := #[] }
section
variable {α β : Type} {C : WC} {n : Nat} {K : KH} {O O' : OL} {env : Env} {pos : Pos} {s : Shared}

/-- two things change, a third is new -/
theorem Sat.two {e it T : Addr} {x x' y y' z : AO} (S : Sat C K ((e, x) :: (it, y) :: O) s) {h' : Heap} (hT : s.heap.get? T = none)
    (hk : ∀ b o, b ≠ e → b ≠ it → s.heap.get? b = some o → h'.get? b = some o) (hx : x'.At h' e) (hy : y'.At h' it) (hz : z.At h' T) {tk : Nat} : Sat C K ((T, z) :: (e, x') :: (it, y') :: O) { s with heap := h', toks := tk } := by
  have nd := S.nodup
  simp only [List.map_cons, List.nodup_cons, List.mem_cons, not_or] at nd
  have fT := S.fresh hT
  have ae := S.apart _ (.head _)
  have ai := S.apart _ (.tail _ (.head _))
  have ne : ∀ b o, C.G.get? b = some o → b ≠ e ∧ b ≠ it := fun b o h => ⟨fun q => (by rw [q, ae.2] at h; cases h), fun q => (by rw [q, ai.2] at h; cases h)⟩
  have nk : ∀ b w, K b = some w → b ≠ e ∧ b ≠ it := fun b w h => ⟨fun q => (by rw [q, ae.1] at h; cases h), fun q => (by rw [q, ai.1] at h; cases h)⟩
  have no : ∀ p ∈ O, p.1 ≠ e ∧ p.1 ≠ it := fun p hp => ⟨fun q => nd.1.2 (q ▸ List.mem_map_of_mem hp), fun q => nd.2.1 (q ▸ List.mem_map_of_mem hp)⟩
  refine ⟨fun b o h => hk b o (ne b o h).1 (ne b o h).2 (S.base b o h), fun b w h => (S.kn b w h).of_get fun o => hk b o (nk b w h).1 (nk b w h).2, fun p hp => ?_, fun p hp => ?_, ?_, S.gens, S.os⟩
  · rcases List.mem_cons.mp hp with rfl | hp
    · exact hz
    rcases List.mem_cons.mp hp with rfl | hp
    · exact hx
    rcases List.mem_cons.mp hp with rfl | hp
    · exact hy
    · exact (S.own p (.tail _ (.tail _ hp))).of_get fun o => hk _ o (no p hp).1 (no p hp).2
  · rcases List.mem_cons.mp hp with rfl | hp
    · exact ⟨fT.1, fT.2.1⟩
    rcases List.mem_cons.mp hp with rfl | hp
    · exact ae
    rcases List.mem_cons.mp hp with rfl | hp
    · exact ai
    · exact S.apart p (.tail _ (.tail _ hp))
  · simp only [List.map_cons, List.nodup_cons, List.mem_cons, not_or]
    refine ⟨⟨fun q => fT.2.2 _ (.head _) q.symm, fun q => fT.2.2 _ (.tail _ (.head _)) q.symm, fun h => ?_⟩, nd⟩
    obtain ⟨p, hp, q⟩ := List.mem_map.mp h
    exact fT.2.2 p (.tail _ (.tail _ hp)) q

theorem lit_at {h : Heap} {it l : Addr} {i : Nat} (hi : h.IsListIter it l i) : (lit l i).At h it := let ⟨o, ho, hc, hd⟩ := hi; ⟨o, ho, hc, hd⟩
theorem lit_of {h : Heap} {it l : Addr} {i : Nat} (hi : (lit l i).At h it) : h.IsListIter it l i := let ⟨o, ho, hc, hd⟩ := hi; ⟨o, ho, hc, hd⟩
theorem W_enumerate {l : Addr} {vs : List Value} {Q : Value → KH → OL → Prop} (hl : LstAt C K O l vs) (h : ∀ e it, e ≠ it → Q (.ref e) K ((e, enm it 0 .none) :: (it, lit l 0) :: O)) : W C n K O (call (.type "enumerate") [.ref l] []) Q := fun A hA s S =>
  call_enumerate_list (hl s S) fun h' he hi hz hk => by
    refine ⟨K, _, ?_, h _ s.heap.objs.size (Nat.succ_ne_self _)⟩
    have S1 : Sat C K ((s.heap.objs.size, lit l 0) :: O) { s with heap := h' } := S.new (size_none _) hk (lit_at hi)
    have none1 : ∀ b, s.heap.get? (s.heap.objs.size + 1) = some b → False := fun b e => absurd (Heap.lt_size e) (Nat.not_lt.mpr (Nat.le_succ _))
    have n1 : s.heap.get? (s.heap.objs.size + 1) = none := by
      cases q : s.heap.get? (s.heap.objs.size + 1) with
      | none => rfl
      | some b => exact (none1 b q).elim
    have f1 := S.fresh n1
    refine ⟨S1.base, S1.kn, fun p hp => ?_, fun p hp => ?_, ?_, S1.gens, S1.os⟩
    · rcases List.mem_cons.mp hp with rfl | hp
      · exact ⟨_, he, rfl⟩
      · exact S1.own p hp
    · rcases List.mem_cons.mp hp with rfl | hp
      · exact ⟨f1.1, f1.2.1⟩
      · exact S1.apart p hp
    · rw [List.map_cons, List.nodup_cons]
      refine ⟨fun h => ?_, S1.nodup⟩
      rw [List.map_cons, List.mem_cons] at h
      rcases h with h | h
      · exact Nat.succ_ne_self _ h
      obtain ⟨p, hp, q⟩ := List.mem_map.mp h
      exact f1.2.2 p hp q
theorem W_iterEnum {e it : Addr} {i : Int} {old : Value} {Q : Value → KH → OL → Prop} (hm : (e, enm it i old) ∈ O) (h : Q (.ref e) K O) : W C n K O (pyIter (.ref e)) Q := fun A hA s S =>
  wpAny_pyIter_enum (At.ex (S.own _ hm)) ⟨K, O, S, h⟩
theorem W_nextEnum {e it l : Addr} {i : Nat} {old v : Value} {vs : List Value} {Q : Option Value → KH → OL → Prop} (hne : e ≠ it) (hl : LstAt C K ((e, enm it i old) :: (it, lit l i) :: O) l vs) (hx : vs[i]? = some v)
    (h : ∀ T t, Q (some (.ref T)) K ((T, .tup [.int i t, v]) :: (e, enmOut it ((i : Int) + 1) v T) :: (it, lit l (i + 1)) :: O)) : W C n K ((e, enm it i old) :: (it, lit l i) :: O) (pyNext (.ref e)) Q := fun A hA s S => by
  refine wpAny_pyNext_enum_item (At.ex (S.own _ (.head _))) (lit_of (S.own _ (.tail _ (.head _)))) (hl s S) (by simpa using hx) hne fun h' he hi ht hz hk => ?_
  exact ⟨K, _, S.two (x' := enmOut it ((i : Int) + 1) v s.heap.objs.size) (y' := lit l (i + 1)) (z := .tup [.int i s.toks, v]) (size_none _) hk (At.ex_of he) (lit_at hi) ⟨_, ht, 0, rfl⟩, h _ _⟩
theorem W_nextEnumEnd {e it l : Addr} {i : Nat} {old : Value} {vs : List Value} {Q : Option Value → KH → OL → Prop} (hl : LstAt C K ((e, enm it i old) :: (it, lit l i) :: O) l vs) (hx : vs[i]? = none)
    (h : Q none K ((e, enm it i old) :: O)) : W C n K ((e, enm it i old) :: (it, lit l i) :: O) (pyNext (.ref e)) Q := fun A hA s S => by
  refine wpAny_pyNext_enum_end hA.handled (At.ex (S.own _ (.head _))) (lit_of (S.own _ (.tail _ (.head _)))) (hl s S) (by simpa using hx) fun h' hs => ?_
  exact ⟨K, _, S.del (.there .here) hs, h⟩
theorem W_ownedEnum {elts : List Expr} {k : Nat} {e it T : Addr} {i : Int} {v : Value} {Q : Unit → KH → OL → Prop} (u : Upd O e (enmOut it i v T) (enm it i v) O') (h : Q () K O') : W C n K O (letOwnedTupleGo (.Tuple elts k pos) (.ref e) (.ref T)) Q := fun A hA s S =>
  wpAny_letOwnedTupleGo_enum (At.ex (S.own _ u.mem)) fun h' he hs => ⟨K, O', S.upd u hs.extBut (At.ex_of he), h⟩

def enSt (it : Addr) (vs : List Value) (j : Nat) : AO := enm it j (match j with | 0 => .none | j + 1 => vs.getD j .none)
theorem WCd_forEnum {elts : List Expr} {k : Nat} {p : Pos} {e it l : Addr} {vs : List Value} {body : List Stmt} {R : Flow → KH → OL → Prop} (hne : e ≠ it) (J : Nat → KH → OL → Prop)
    (hl : ∀ j K O a b, J j K O → LstAt C K (a :: b :: O) l vs)
    (turn : ∀ j K O st T t v, vs[j]? = some v → J j K O → W C n K ((T, .tup [.int j t, v]) :: (e, st) :: (it, lit l (j + 1)) :: O) (assign (.Tuple elts k p) env (.ref T)) fun _ K' O' => W C n K' O' (execs body env)
      (TurnJ (fun j K O => ∃ O₀, O = (it, lit l j) :: O₀ ∧ J j K O₀) (j + 1) e st R))
    (done : ∀ K O st, J vs.length K O → R .next K (st :: O)) (h : J 0 K O) : WCd C n K ((e, enm it 0 .none) :: (it, lit l 0) :: O) (.forLoop (.Tuple elts k p) (.ref e) body [] env) R := by
  refine WCd_forGen vs.length (enSt it vs) (fun j K O => ∃ O₀, O = (it, lit l j) :: O₀ ∧ J j K O₀) (fun j K O hj hI => ?_) ⟨O, rfl, h⟩
  obtain ⟨O₀, rfl, hJ⟩ := hI
  rcases Nat.lt_or_ge j vs.length with hlt | hge
  · have hx := List.getElem?_eq_getElem hlt
    refine W_nextEnum hne (hl j K O₀ _ _ hJ) hx fun T t => .inl ⟨hlt, _, rfl, ?_⟩
    refine W_ownedEnum (.there .here) ?_
    have e1 : enm it ((j : Int) + 1) vs[j] = enSt it vs (j + 1) := by
      have e2 : vs.getD j .none = vs[j] := by rw [List.getD_eq_getElem?_getD, hx]; rfl
      show _ = enm it _ (vs.getD j .none)
      rw [e2]; rfl
    rw [e1]
    exact turn j K O₀ _ T t _ hx hJ
  · have : j = vs.length := by omega
    subst this
    exact W_nextEnumEnd (hl _ K O₀ _ _ hJ) (by simp) (.inr ⟨rfl, done _ _ _ hJ⟩)
end
end Mine
end
section
open PySem PySem.W PySem.Calls PyProof.Rows
set_option Elab.async false
set_option linter.unusedVariables false
set_option linter.unusedSectionVars false
set_option maxRecDepth 100000
namespace Mine
section
variable {C : WC} {n : Nat} {K : KH} {O O' : OL}
theorem W_sum {l : Addr} {vs : List Value} {ns : List Int} {Q : Value → KH → OL → Prop} (hl : LstAt C K O l vs) (hv : A2 IntV vs ns) (h : ∀ t, Q (.int ns.sum t) K O) : W C n K O (call (.builtin "sum") [.ref l] []) Q := fun A hA s S => by
  have hi := hv.ints
  obtain ⟨xs, e⟩ := hi.allInts.items
  refine sum_intListG hA.handled (e ▸ hl s S) fun h' tk t' hk => ⟨K, O, S.grow hk, ?_⟩
  have e2 : preSum (numAt xs) xs.size = ns.sum := by
    rw [preSum_eq, List.take_of_length_le (by simp), ← nums_intItems, ← e, show vs.toArray.toList = vs from rfl, hi.numsOf]
  rw [e2]; exact h t'
end
end Mine
end
section
open PySem PySem.W PySem.Calls PyProof.Rows
set_option Elab.async false
set_option linter.unusedVariables false
set_option linter.unusedSectionVars false
set_option maxRecDepth 100000
set_option maxHeartbeats 1000000
namespace Mine
local macro_rules | `(tactic| walk_at "f") => `(tactic| first | with_reducible exact Wd.g_get_parent_map (by assumption) | with_reducible exact Wd.g_SelectorContext (by assumption) | with_reducible exact Wd.g_insort_right (by assumption) | with_reducible exact Wd.g_bisect_right (by assumption) | with_reducible exact Wd.g_insort_left (by assumption) | with_reducible exact Wd.g_bisect_left (by assumption) | with_reducible exact Wd.g_Whitespace (by assumption) | with_reducible exact Wd.g_byteswap (by assumption) | with_reducible exact Wd.g_law_sums (by assumption) | with_reducible exact Wd.g_law_figures (by assumption) | with_reducible exact Wd.g_law_run (by assumption) | with_reducible exact Wd.g_law_rise (by assumption) | with_reducible exact Wd.g_law_way (by assumption) | with_reducible exact Wd.g_law_tile (by assumption) | with_reducible exact Wd.g_law_holds (by assumption) | with_reducible exact Wd.g_law_table (by assumption) | with_reducible exact Wd.n_range (by assumption) | with_reducible exact Wd.n_len (by assumption) | with_reducible exact Wd.n_tuple (by assumption) | with_reducible exact Wd.n_bytearray (by assumption) | with_reducible exact Wd.n_bytes (by assumption) | with_reducible exact Wd.n_list (by assumption) | with_reducible exact Wd.n_sum (by assumption) | with_reducible exact Wd.n_enumerate (by assumption) | with_reducible exact Wd.n_chr (by assumption) | with_reducible exact Wd.b_range (by assumption) | with_reducible exact Wd.b_len (by assumption) | with_reducible exact Wd.b_tuple (by assumption) | with_reducible exact Wd.b_bytearray (by assumption) | with_reducible exact Wd.b_bytes (by assumption) | with_reducible exact Wd.b_list (by assumption) | with_reducible exact Wd.b_sum (by assumption) | with_reducible exact Wd.b_enumerate (by assumption) | with_reducible exact Wd.b_chr (by assumption))
local macro_rules | `(tactic| walk_at "a") => `(tactic| first | exact lookup_hit | (refine (lookup_miss (by decide +kernel)).trans ?_; walk_at "a"))
local macro_rules | `(tactic| walk_at "u") => `(tactic| first | exact Upd.here | (apply Upd.there; walk_at "u"))
local macro_rules | `(tactic| walk_at "d") => `(tactic| first | exact Del.here | (apply Del.there; walk_at "d"))
local macro_rules | `(tactic| walk_at "m") => `(tactic| first | exact List.Mem.head _ | (refine List.Mem.tail _ ?_; walk_at "m"))
local macro_rules | `(tactic| walk_at "h") => `(tactic| first | with_reducible assumption | exact Or.inl (by with_reducible assumption) | exact Or.inr (Or.inl (by walk_at "m")) | (apply Has.cons; walk_at "h"))
local macro_rules | `(tactic| walk_at "l") => `(tactic| first | with_reducible assumption | exact LstAt.k (by with_reducible assumption) | exact LstAt.o (by walk_at "m") | exact LstAt.i (by walk_at "m") | exact LstAt.has (by walk_at "h"))
local macro_rules | `(tactic| walk_at "g") => `(tactic| first | with_reducible assumption | with_reducible exact setm_eq | with_reducible exact ofL_eq | ((with_reducible refine (setm_ne (by decide +kernel)).trans ?_); walk_at "g") | ((with_reducible refine (ofL_ne (by decide +kernel)).trans ?_); walk_at "g"))
local macro_rules | `(tactic| walk_at "s") => `(tactic| first | exact List.Sublist.refl _ | (apply List.Sublist.cons_cons; walk_at "s") | (apply List.Sublist.cons; walk_at "s"))
local macro_rules | `(tactic| fin_run) => `(tactic| first
  | refine W_cell (by kernel_rfl) (by kernel_rfl) (by walk_at "a") (by walk_at "h") ?_
  | refine W_local (by kernel_rfl) (by kernel_rfl) (by walk_at "h") (by walk_at "g") ?_
  | refine W_global (by kernel_rfl) (by kernel_rfl) (Wd.g (by assumption)) (by walk_at "f") ?_
  | refine W_builtin (by kernel_rfl) (by kernel_rfl) (Wd.g (by assumption)) (by walk_at "f") (Wd.b (by assumption)) (by walk_at "f") ?_)
local macro_rules | `(tactic| cell_call) => `(tactic| first
  | ((with_reducible show W _ _ _ _ (exec (.Assign [.Name _ _] _ _) _) _); refine W_Assign1 ?_)
  | with_reducible refine W_Return ?_
  | ((with_reducible show W _ _ _ _ (exec (.Expr _ _) _) _); refine W_Expr ?_)
  | with_reducible refine W_If ?_
  | ((with_reducible show W _ _ _ _ (exec (.For _ _ _ _ _) _) _); refine W_For ?_)
  | with_reducible refine W_BinOp ?_
  | with_reducible refine W_int fun _ => ?_
  | with_reducible refine W_str fun _ => ?_
  | ((with_reducible show W _ _ _ _ (eval (.Name _ _) _) _); fin_run)
  | with_reducible refine W_none ?_
  | with_reducible refine W_boolC ?_
  | with_reducible refine W_List ?_
  | with_reducible refine W_Tuple ?_
  | with_reducible refine W_args_nil ?_
  | ((with_reducible show W _ _ _ _ (spliced (backTo _ (starEach (_ :: _) _))) _); refine W_args_cons ?_)
  | with_reducible refine W_CallName ?_
  | ((with_reducible show W _ _ _ _ (storeName _ _ _) _); (first | refine W_storeCell (by kernel_rfl) (by kernel_rfl) (by walk_at "a") (by walk_at "u") ?_ | refine W_storeLocal (by kernel_rfl) (by kernel_rfl) (by walk_at "u") ?_))
  | ((with_reducible show W _ _ _ _ (loadName _ _) _); (first | refine W_loadCell (by kernel_rfl) (by kernel_rfl) (by walk_at "a") (by walk_at "h") ?_ | refine W_loadLocal (by kernel_rfl) (by kernel_rfl) (by walk_at "h") (by walk_at "g") ?_))
  | ((with_reducible show W _ _ _ _ (callWith _ (.type _) _ _ _) _); refine W_callB rfl ?_)
  | ((with_reducible show W _ _ _ _ (callWith _ (.builtin _) _ _ _) _); refine W_callB rfl ?_)
  | ((with_reducible show W _ _ _ _ (eval (.Call (.Attribute _ (Str.ofString "append") _) [_] [] _) _) _); refine W_CallAppend ?_)
  | ((with_reducible show W _ _ _ _ (call (.builtin "list.append") _ _) _); refine W_append (by walk_at "u") ?_ ?_)
  | with_reducible refine ite_T ?_
  | with_reducible refine ite_F ?_
  | with_reducible refine W_isNN ?_
  | with_reducible refine W_isIN ?_
  | with_reducible refine W_isRN ?_
  | with_reducible refine W_isNotNN ?_
  | with_reducible refine W_isRR ?_
  | with_reducible refine W_add fun _ => ?_
  | ((with_reducible show W _ _ _ _ (binaryOp .Mult (.int _ _) (.int _ _)) _); refine W_mul (mulOk_small (by omega) (by omega)) fun _ => ?_)
  | with_reducible refine W_sub' fun _ => ?_
  | with_reducible refine W_lt ?_
  | with_reducible refine W_le ?_
  | with_reducible refine W_eq' ?_
  | ((with_reducible show W _ _ _ _ (isTrue (.Compare _ [_] [_] _) _ _) _); refine W_isTrueCmp ?_)
  | with_reducible refine W_truthyB ?_
  | ((with_reducible show W _ _ _ _ (eval (.Compare _ [_] [_] _) _) _); refine W_Compare1 ?_)
  | with_reducible refine W_AugName ?_
  | ((with_reducible show W _ _ _ _ (exec (.Assign [.Subscript _ _ _] _ _) _) _); refine W_AssignSub ?_)
  | ((with_reducible show W _ _ _ _ (exec (.AugAssign (.Subscript _ _ _) _ _ _) _) _); refine W_AugSub ?_)
  | with_reducible refine W_Break ?_
  | with_reducible refine W_UnaryOp ?_
  | with_reducible refine W_binds_cons ?_
  | with_reducible refine W_binds_nil ?_
  | with_reducible refine W_assignName ?_
  | with_reducible refine W_inOrderE_nil ?_
  | ((with_reducible show W _ _ _ _ (assignInOrder ((assignEach (_ :: _) _).map _) _) _); refine W_inOrderE_cons ?_)
  | ((with_reducible show W _ _ _ _ (exec (.Assign [.Tuple _ _ _] _ _) _) _); refine W_AssignTup ?_)
  | ((with_reducible show W _ _ _ _ (eval (.Subscript _ _ _) _) _); refine W_Subscript ?_)
  | ((with_reducible show W _ _ _ _ (eval (.Compare _ [_, _] [_, _] _) _) _); refine W_Compare2 ?_)
  | with_reducible refine W_And ?_
  | with_reducible refine W_And1 ?_
  | with_reducible refine W_inOrder_nil ?_
  | with_reducible refine W_Slice ?_
  | with_reducible refine W_part_none ?_
  | ((with_reducible show W _ _ _ _ (evalPart (some _) _) _); refine W_part_some ?_)
  | with_reducible refine W_ifs0 ?_
  | with_reducible refine W_ifs1 ?_
  | with_reducible refine W_inOrder_cons ?_
  | ((with_reducible show W _ _ _ _ (execs _ _) _); refine W_execs_step rfl ?_)
  | with_reducible refine W_execs_nil ?_)
section
def figs (base : Int) : Nat → Int → List Int
  | 0, _ => []
  | k + 1, x => x.fmod base :: figs base k (x.fdiv base)
def figx (base : Int) : Nat → Int → Int
  | 0, x => x
  | k + 1, x => (figx base k x).fdiv base
theorem figx_succ (base : Int) : ∀ k x, figx base (k + 1) x = figx base k (x.fdiv base)
  | 0, x => rfl
  | k + 1, x => by show (figx base (k + 1) x).fdiv base = _; rw [figx_succ base k x]; rfl
theorem figs_snoc (base : Int) : ∀ k x, figs base (k + 1) x = figs base k x ++ [(figx base k x).fmod base]
  | 0, x => rfl
  | k + 1, x => by
    show _ :: figs base (k + 1) (x.fdiv base) = _
    rw [figs_snoc base k, ← figx_succ]; rfl

theorem figs_len (base : Int) : ∀ k x, (figs base k x).length = k
  | 0, _ => rfl
  | k + 1, x => by simp [figs, figs_len base k]

theorem c_figures {C : WC} {mg mb} (w : Wd C mg mb) {n : Nat} {K : KH} {O : OL} {num base : Int} {cnt : Nat} {t u v : Tok} {Q : Value → KH → OL → Prop} (hn : n ≤ 380)
    (hb : 0 < base) (hb' : base < 100) (hc : cnt < 100) 
    (h : ∀ K' r, KLe K K' → IntsV K' r (figs base cnt num) → Q r K' O) : W C n K O (call (.ref 172) [.int num t, .int base u, .int cnt v] []) Q := by
  refine w.call f172 [("number", .int num t), ("base", .int base u), ("count", .int cnt v)] (by omega) (by kernel_rfl) (fun _ => by kernel_rfl) (by kernel_rfl) (by kernel_rfl) (fun L => ?_)
  show W _ _ _ _ (storeBinds _ _) _
  repeat cell_call
  refine ⟨by decide, fun D => ?_⟩
  repeat cell_call
  refine W_forRange1 cnt (fun j K' O' => X4 fun vs m y t' => V7 (K' = K) (O' = (D, .list vs) :: (L, .ns m) :: O) (m "number" = some (.int y t')) (m "base" = some (.int base u)) (m "figures" = some (.ref D)) (A2 IntV vs (figs base j num)) (y = figx base j num))
    (by omega) (by omega) (by omega) ⟨[], _, _, _, rfl, rfl, by walk_at "g", by walk_at "g", by walk_at "g", .nil, by rfl⟩ ?_ ?_
  · rintro it j K' O' st hj ⟨vs, m, y, t', rfl, rfl, hm1, hm2, hm3, hv, rfl⟩ t
    repeat cell_call
    refine ⟨D, vs, rfl, by walk_at "h", ?_⟩
    repeat cell_call
    refine W_mod (by omega) fun t₂ => ?_
    repeat cell_call
    · have := hv.length; have := figs_len base j num; have : sizeLine = 16777216 := rfl; omega
    refine ⟨nofun, ?_⟩
    repeat cell_call
    refine W_fdiv (by omega) (by omega) fun t₃ => ?_
    repeat cell_call
    refine turn_next (List.Sublist.refl _) ?_
    refine ⟨_, _, _, _, rfl, rfl, by walk_at "g", by walk_at "g", by walk_at "g", ?_, by rfl⟩
    rw [figs_snoc]; exact hv.snoc ⟨_, rfl⟩
  · rintro K' O' ⟨vs, m, y, t', rfl, rfl, hm1, hm2, hm3, hv, rfl⟩
    refine W_freezeD (by walk_at "d") fun K₁ hle hD => ?_
    repeat cell_call
    exact ret_of (List.sublist_cons_self _ _) (h K₁ _ hle ⟨D, vs, rfl, hD, hv⟩)
end
section
/-- six ints in a frozen tuple -/
structure Tile where
  e : Int
  n : Int
  a : Int
  b : Int
  c : Int
  d : Int
def Tile.ok (z : Tile) : Prop := (0 ≤ z.e ∧ z.e ≤ 100) ∧ (0 ≤ z.n ∧ z.n ≤ 100) ∧ (0 ≤ z.a ∧ z.a ≤ 100) ∧ (0 ≤ z.b ∧ z.b ≤ 100) ∧ (0 ≤ z.c ∧ z.c ≤ 100) ∧ (0 ≤ z.d ∧ z.d ≤ 100)
def TileV (K : KH) (v : Value) (z : Tile) : Prop := X5 fun a t₁ t₂ t₃ t₄ => X2 fun t₅ t₆ => (v = .ref a) ∧ (K a = some (.tup [.int z.e t₁, .int z.n t₂, .int z.a t₃, .int z.b t₄, .int z.c t₅, .int z.d t₆]))
theorem mono_tile : Mono TileV := fun K K' v p h ⟨a, t₁, t₂, t₃, t₄, t₅, t₆, e, ha⟩ => ⟨a, t₁, t₂, t₃, t₄, t₅, t₆, e, h _ _ ha⟩
def holdsB (z : Tile) (x y : Int) : Bool :=
  decide (0 ≤ (x - z.e) * z.d - (y - z.n) * z.c) && decide ((x - z.e) * z.d - (y - z.n) * z.c < z.a * z.d - z.b * z.c) &&
  (decide (0 < z.a * (y - z.n) - z.b * (x - z.e)) && decide (z.a * (y - z.n) - z.b * (x - z.e) ≤ z.a * z.d - z.b * z.c))

theorem c_holds {C : WC} {mg mb} (w : Wd C mg mb) {n : Nat} {K : KH} {O : OL} {z : Tile} {tv : Value} {x y : Int} {u v : Tok} {Q : Value → KH → OL → Prop} (hn : n ≤ 380) (hz : TileV K tv z)
    (ho : z.ok) (hx : -1000 ≤ x ∧ x ≤ 1000) (hy : -1000 ≤ y ∧ y ≤ 1000)
    (h : Q (.bool (holdsB z x y)) K O) : W C n K O (call (.ref 201) [tv, .int x u, .int y v] []) Q := by
  obtain ⟨T, t₁, t₂, t₃, t₄, t₅, t₆, rfl, hT⟩ := hz
  refine w.call f201 [("tile", .ref T), ("x", .int x u), ("y", .int y v)] (by omega) (by kernel_rfl) (fun _ => by kernel_rfl) (by kernel_rfl) (by kernel_rfl) (fun L => ?_)
  show W _ _ _ _ (storeBinds _ _) _
  repeat cell_call
  refine ⟨T, _, rfl, by walk_at "h", rfl, ?_⟩
  obtain ⟨⟨e1, e2⟩, ⟨n1, n2⟩, ⟨a1, a2⟩, ⟨b1, b2⟩, ⟨c1, c2⟩, ⟨d1, d2⟩⟩ := ho
  repeat cell_call
  refine ite_dec (fun h1 => ?_) (fun h1 => ?_)
  · repeat cell_call
    refine ite_dec (fun h2 => ?_) (fun h2 => ?_)
    · repeat cell_call
      refine ite_dec (fun h3 => ?_) (fun h3 => ?_)
      · repeat cell_call
        refine ret_of (List.sublist_cons_self _ _) ?_
        have e : holdsB z x y = decide (z.a * (y - z.n) - z.b * (x - z.e) ≤ z.a * z.d - z.b * z.c) := by unfold holdsB; rw [decide_eq_true h1, decide_eq_true h2, decide_eq_true h3]; rfl
        rw [e] at h; exact h
      · refine ret_of (List.sublist_cons_self _ _) ?_
        have e : holdsB z x y = decide (0 < z.a * (y - z.n) - z.b * (x - z.e)) := by unfold holdsB; rw [decide_eq_true h1, decide_eq_true h2, decide_eq_false h3]; rfl
        rw [e] at h; exact h
    · refine ret_of (List.sublist_cons_self _ _) ?_
      have e : holdsB z x y = decide ((x - z.e) * z.d - (y - z.n) * z.c < z.a * z.d - z.b * z.c) := by unfold holdsB; rw [decide_eq_true h1, decide_eq_false h2]; rfl
      rw [e] at h; exact h
  · repeat cell_call
    refine ite_dec (fun h2 => absurd h2 h1) (fun _ => ?_)
    refine ret_of (List.sublist_cons_self _ _) ?_
    have e : holdsB z x y = decide (0 ≤ (x - z.e) * z.d - (y - z.n) * z.c) := by unfold holdsB; rw [decide_eq_false h1]; rfl
    rw [e] at h; exact h
end
section
/-- a key function: of an int below 4 it gives f's int -/
def KeyOk (C : WC) (n₀ : Nat) (K : KH) (O : OL) (kf : Addr) (f : Int → Int) : Prop :=
  ∃ fd, (∀ P, FnAt C K (P ++ O) kf fd) ∧ ∀ n P i t Q, n ≤ n₀ → 0 ≤ i → i < 4 → (∀ t, Q (.int (f i) t) K (P ++ O)) → W C n K (P ++ O) (call (.ref kf) [.int i t] []) Q

theorem sorted_le {ns : List Int} {f : Int → Int} (hs : (ns.map f).Pairwise (· ≤ ·)) {i j : Nat} (h : i ≤ j) (hj : j < ns.length) : f (ns[i]'(by omega)) ≤ f ns[j] := by
  rcases Nat.lt_or_ge i j with hlt | hge
  · have := List.pairwise_iff_getElem.mp hs i j (by simp; omega) (by simp; omega) hlt
    simpa using this
  · have : i = j := by omega
    subst this
    exact Int.le_refl _

theorem c_bisR {C : WC} {mg mb} (w : Wd C mg mb) {n n₀ : Nat} {K : KH} {O : OL} {D kf : Addr} {vs : List Value} {ns : List Int} {f : Int → Int} {x : Int} {t u : Tok} {Q : Value → KH → OL → Prop} (hn : n ≤ 380) (hn0 : n + 1 ≤ n₀)
    (hD : Has C K O D (.list vs)) (hv : A2 IntV vs ns) (hlen : ns.length < 1000) (hr : ∀ i ∈ ns, 0 ≤ i ∧ i < 4) (hk : KeyOk C n₀ K O kf f) (hs : (ns.map f).Pairwise (· ≤ ·))
    (h : ∀ R : Nat, R ≤ ns.length → (∀ i (hi : i < ns.length), i < R → f ns[i] ≤ x) → (∀ i (hi : i < ns.length), R ≤ i → x < f ns[i]) → ∀ t, Q (.int R t) K O) :
    W C n K O (call (.ref 67) [.ref D, .int x t, .int 0 u, .none] [("key", .ref kf)]) Q := by
  refine w.call f67 [("a", .ref D), ("x", .int x t), ("lo", .int 0 u), ("hi", .none), ("key", .ref kf)] (by omega) (by kernel_rfl) (fun _ => by kernel_rfl) (by kernel_rfl) (by kernel_rfl) (fun L => ?_)
  show W _ _ _ _ (storeBinds _ _) _
  repeat cell_call
  refine ite_dec (fun h => absurd h (by omega)) (fun _ => ?_)
  repeat cell_call
  refine W_len (by walk_at "l") (by have := hv.length; omega) fun t₁ => ?_
  repeat cell_call
  rw [hv.length]
  refine W_while (fun j K' O' => X5 fun m lo hi u₁ t₁ => V7 (K' = K) (O' = (L, .ns m) :: O) (m "a" = some (.ref D)) (m "x" = some (.int x t)) (m "key" = some (.ref kf)) (m "lo" = some (.int lo u₁)) (V7 (m "hi" = some (.int hi t₁)) (0 ≤ lo) (lo ≤ hi) (hi ≤ ns.length) ((j : Int) = hi - lo) ((∀ i (hi : i < ns.length), (i : Int) < lo → f ns[i] ≤ x)) ((∀ i (hi' : i < ns.length), hi ≤ (i : Int) → x < f ns[i])))) ns.length ?_ ?_
  · refine ⟨_, _, _, _, _, rfl, rfl, by walk_at "g", by walk_at "g", by walk_at "g", by walk_at "g", by walk_at "g", by omega, by omega, by omega, by omega, fun i _ h => by omega, fun i _ h => by omega⟩
  rintro j K' O' ⟨m, lo, hi, u₁, t₁, rfl, rfl, m1, m2, m3, m4, m5, h0, h1, h2, hj, hL, hR⟩
  repeat cell_call
  refine ite_dec (fun hlt => ?_) (fun hge => ?_)
  · repeat cell_call
    obtain ⟨mid, hm, hm1, hm2⟩ := mid_of h0 hlt
    refine W_fdivE (by decide) (by decide) hm fun t₂ => ?_
    repeat cell_call
    obtain ⟨fd, hf1, hf2⟩ := hk
    refine W_callF (fd := fd) ?_
    repeat cell_call
    refine sub_list (vs := vs) (by walk_at "l") ?_
    obtain ⟨v, hv1, i, rfl⟩ := hv.get' mid (by omega)
    refine W_itemE (by walk_at "l") rfl (by omega) hv1 ?_
    repeat cell_call
    have hr' := hr ns[mid] (List.getElem_mem _)
    refine ⟨hf1 [_], hf2 _ [_] _ _ _ (by omega) hr'.1 hr'.2 fun t₃ => ?_⟩
    repeat cell_call
    refine ite_dec (fun hc => ?_) (fun hc => ?_)
    · repeat cell_call
      refine while_next (List.Sublist.refl _) (i := j - (hi - mid).toNat) (by omega) ?_
      refine ⟨_, lo, mid, _, _, rfl, rfl, by walk_at "g", by walk_at "g", by walk_at "g", by walk_at "g", by walk_at "g", by omega, by omega, by omega, by omega, hL, fun i hi' hge => ?_⟩
      exact Int.lt_of_lt_of_le hc (sorted_le hs (by omega) hi')
    · repeat cell_call
      refine while_next (List.Sublist.refl _) (i := j - (mid + 1 - lo).toNat) (by omega) ?_
      refine ⟨_, mid + 1, hi, _, _, rfl, rfl, by walk_at "g", by walk_at "g", by walk_at "g", by walk_at "g", by walk_at "g", by omega, by omega, by omega, by omega, fun i hi' hlt' => ?_, hR⟩
      exact Int.le_trans (sorted_le hs (show i ≤ mid by omega) (by omega)) (by omega)
  · repeat cell_call
    refine ret_of (List.sublist_cons_self _ _) ?_
    obtain ⟨R, rfl⟩ := Int.eq_ofNat_of_zero_le h0
    exact h R (by omega) (fun i hi' hlt => hL i hi' (by omega)) (fun i hi' hle => hR i hi' (by omega)) _
end
section
theorem c_bisL {C : WC} {mg mb} (w : Wd C mg mb) {n n₀ : Nat} {K : KH} {O : OL} {D kf : Addr} {vs : List Value} {ns : List Int} {f : Int → Int} {x : Int} {t u : Tok} {Q : Value → KH → OL → Prop} (hn : n ≤ 380) (hn0 : n + 1 ≤ n₀)
    (hD : Has C K O D (.list vs)) (hv : A2 IntV vs ns) (hlen : ns.length < 1000) (hr : ∀ i ∈ ns, 0 ≤ i ∧ i < 4) (hk : KeyOk C n₀ K O kf f) (hs : (ns.map f).Pairwise (· ≤ ·))
    (h : ∀ R : Nat, R ≤ ns.length → (∀ i (hi : i < ns.length), i < R → f ns[i] < x) → (∀ i (hi : i < ns.length), R ≤ i → x ≤ f ns[i]) → ∀ t, Q (.int R t) K O) :
    W C n K O (call (.ref 85) [.ref D, .int x t, .int 0 u, .none] [("key", .ref kf)]) Q := by
  refine w.call f85 [("a", .ref D), ("x", .int x t), ("lo", .int 0 u), ("hi", .none), ("key", .ref kf)] (by omega) (by kernel_rfl) (fun _ => by kernel_rfl) (by kernel_rfl) (by kernel_rfl) (fun L => ?_)
  show W _ _ _ _ (storeBinds _ _) _
  repeat cell_call
  refine ite_dec (fun h => absurd h (by omega)) (fun _ => ?_)
  repeat cell_call
  refine W_len (by walk_at "l") (by have := hv.length; omega) fun t₁ => ?_
  repeat cell_call
  rw [hv.length]
  refine W_while (fun j K' O' => X5 fun m lo hi u₁ t₁ => V7 (K' = K) (O' = (L, .ns m) :: O) (m "a" = some (.ref D)) (m "x" = some (.int x t)) (m "key" = some (.ref kf)) (m "lo" = some (.int lo u₁)) (V7 (m "hi" = some (.int hi t₁)) (0 ≤ lo) (lo ≤ hi) (hi ≤ ns.length) ((j : Int) = hi - lo) ((∀ i (hi : i < ns.length), (i : Int) < lo → f ns[i] < x)) ((∀ i (hi' : i < ns.length), hi ≤ (i : Int) → x ≤ f ns[i])))) ns.length ?_ ?_
  · refine ⟨_, _, _, _, _, rfl, rfl, by walk_at "g", by walk_at "g", by walk_at "g", by walk_at "g", by walk_at "g", by omega, by omega, by omega, by omega, fun i _ h => by omega, fun i _ h => by omega⟩
  rintro j K' O' ⟨m, lo, hi, u₁, t₁, rfl, rfl, m1, m2, m3, m4, m5, h0, h1, h2, hj, hL, hR⟩
  repeat cell_call
  refine ite_dec (fun hlt => ?_) (fun hge => ?_)
  · repeat cell_call
    obtain ⟨mid, hm, hm1, hm2⟩ := mid_of h0 hlt
    refine W_fdivE (by decide) (by decide) hm fun t₂ => ?_
    repeat cell_call
    obtain ⟨fd, hf1, hf2⟩ := hk
    refine W_callF (fd := fd) ?_
    repeat cell_call
    refine sub_list (vs := vs) (by walk_at "l") ?_
    obtain ⟨v, hv1, i, rfl⟩ := hv.get' mid (by omega)
    refine W_itemE (by walk_at "l") rfl (by omega) hv1 ?_
    repeat cell_call
    have hr' := hr ns[mid] (List.getElem_mem _)
    refine ⟨hf1 [_], hf2 _ [_] _ _ _ (by omega) hr'.1 hr'.2 fun t₃ => ?_⟩
    repeat cell_call
    refine ite_dec (fun hc => ?_) (fun hc => ?_)
    · repeat cell_call
      refine while_next (List.Sublist.refl _) (i := j - (mid + 1 - lo).toNat) (by omega) ?_
      refine ⟨_, mid + 1, hi, _, _, rfl, rfl, by walk_at "g", by walk_at "g", by walk_at "g", by walk_at "g", by walk_at "g", by omega, by omega, by omega, by omega, fun i hi' hlt' => ?_, hR⟩
      exact Int.lt_of_le_of_lt (sorted_le hs (show i ≤ mid by omega) (by omega)) hc
    · repeat cell_call
      refine while_next (List.Sublist.refl _) (i := j - (hi - mid).toNat) (by omega) ?_
      refine ⟨_, lo, mid, _, _, rfl, rfl, by walk_at "g", by walk_at "g", by walk_at "g", by walk_at "g", by walk_at "g", by omega, by omega, by omega, by omega, hL, fun i hi' hge => ?_⟩
      exact Int.le_trans (by omega) (sorted_le hs (show mid ≤ i by omega) hi')
  · repeat cell_call
    refine ret_of (List.sublist_cons_self _ _) ?_
    obtain ⟨R, rfl⟩ := Int.eq_ofNat_of_zero_le h0
    exact h R (by omega) (fun i hi' hlt => hL i hi' (by omega)) (fun i hi' hle => hR i hi' (by omega)) _

theorem c_bisL0 {C : WC} {mg mb} (w : Wd C mg mb) {n : Nat} {K : KH} {O : OL} {D : Addr} {vs : List Value} {ns : List Int} {x : Int} {t : Tok} {Q : Value → KH → OL → Prop} (hn : n ≤ 380)
    (hD : Has C K O D (.list vs)) (hv : A2 IntV vs ns) (hlen : ns.length < 1000) (hs : (ns.map id).Pairwise (· ≤ ·))
    (h : ∀ R : Nat, R ≤ ns.length → (∀ i (hi : i < ns.length), i < R → ns[i] < x) → (∀ i (hi : i < ns.length), R ≤ i → x ≤ ns[i]) → ∀ t, Q (.int R t) K O) :
    W C n K O (call (.ref 85) [.ref D, .int x t] []) Q := by
  refine w.call f85 [("a", .ref D), ("x", .int x t), ("lo", .int 0 278), ("hi", .none), ("key", .none)] (by omega) (by kernel_rfl) (fun _ => by kernel_rfl) (by kernel_rfl) (by kernel_rfl) (fun L => ?_)
  show W _ _ _ _ (storeBinds _ _) _
  repeat cell_call
  refine ite_dec (fun h => absurd h (by omega)) (fun _ => ?_)
  repeat cell_call
  refine W_len (by walk_at "l") (by have := hv.length; omega) fun t₁ => ?_
  repeat cell_call
  rw [hv.length]
  refine W_while (fun j K' O' => X5 fun m lo hi u₁ t₁ => V7 (K' = K) (O' = (L, .ns m) :: O) (m "a" = some (.ref D)) (m "x" = some (.int x t)) (m "key" = some .none) (m "lo" = some (.int lo u₁)) (V7 (m "hi" = some (.int hi t₁)) (0 ≤ lo) (lo ≤ hi) (hi ≤ ns.length) ((j : Int) = hi - lo) ((∀ i (hi : i < ns.length), (i : Int) < lo → ns[i] < x)) ((∀ i (hi' : i < ns.length), hi ≤ (i : Int) → x ≤ ns[i])))) ns.length ?_ ?_
  · refine ⟨_, _, _, _, _, rfl, rfl, by walk_at "g", by walk_at "g", by walk_at "g", by walk_at "g", by walk_at "g", by omega, by omega, by omega, by omega, fun i _ h => by omega, fun i _ h => by omega⟩
  rintro j K' O' ⟨m, lo, hi, u₁, t₁, rfl, rfl, m1, m2, m3, m4, m5, h0, h1, h2, hj, hL, hR⟩
  repeat cell_call
  refine ite_dec (fun hlt => ?_) (fun hge => ?_)
  · repeat cell_call
    obtain ⟨mid, hm, hm1, hm2⟩ := mid_of h0 hlt
    refine W_fdivE (by decide) (by decide) hm fun t₂ => ?_
    repeat cell_call
    refine sub_list (vs := vs) (by walk_at "l") ?_
    obtain ⟨v, hv1, i, rfl⟩ := hv.get' mid (by omega)
    refine W_itemE (by walk_at "l") rfl (by omega) hv1 ?_
    repeat cell_call
    refine ite_dec (fun hc => ?_) (fun hc => ?_)
    · repeat cell_call
      refine while_next (List.Sublist.refl _) (i := j - (mid + 1 - lo).toNat) (by omega) ?_
      refine ⟨_, mid + 1, hi, _, _, rfl, rfl, by walk_at "g", by walk_at "g", by walk_at "g", by walk_at "g", by walk_at "g", by omega, by omega, by omega, by omega, fun i hi' hlt' => ?_, hR⟩
      exact Int.lt_of_le_of_lt (sorted_le (f := id) hs (show i ≤ mid by omega) (by omega)) hc
    · repeat cell_call
      refine while_next (List.Sublist.refl _) (i := j - (hi - mid).toNat) (by omega) ?_
      refine ⟨_, lo, mid, _, _, rfl, rfl, by walk_at "g", by walk_at "g", by walk_at "g", by walk_at "g", by walk_at "g", by omega, by omega, by omega, by omega, hL, fun i hi' hge => ?_⟩
      have h5 := sorted_le (f := id) hs (show mid ≤ i by omega) hi'
      simp only [id] at h5
      omega
  · repeat cell_call
    refine ret_of (List.sublist_cons_self _ _) ?_
    obtain ⟨R, rfl⟩ := Int.eq_ofNat_of_zero_le h0
    exact h R (by omega) (fun i hi' hlt => hL i hi' (by omega)) (fun i hi' hle => hR i hi' (by omega)) _
end
section
local macro_rules | `(tactic| cell_call) => `(tactic| ((with_reducible show W _ _ _ _ (eval (.Call (.Attribute _ (Str.ofString "insert") _) [_, _] [] _) _) _); refine W_CallListM PySem.F.slot_list_insert PySem.F.type_list_insert ?_))

theorem KeyOk.cons {C : WC} {n₀ : Nat} {K : KH} {O : OL} {kf : Addr} {f : Int → Int} (h : KeyOk C n₀ K O kf f) (p : Addr × AO) : KeyOk C n₀ K (p :: O) kf f := by
  obtain ⟨fd, h1, h2⟩ := h
  have e : ∀ P : OL, P ++ p :: O = (P ++ [p]) ++ O := fun P => by simp
  refine ⟨fd, fun P => ?_, fun n P => ?_⟩
  · rw [e]; exact h1 _
  · rw [e]; exact h2 _ _

theorem c_insR {C : WC} {mg mb} (w : Wd C mg mb) {n n₀ : Nat} {K : KH} {O : OL} {D kf : Addr} {vs : List Value} {ns : List Int} {f : Int → Int} {x : Int} {t : Tok} {Q : Value → KH → OL → Prop} (hn : n ≤ 370) (hn0 : n + 2 ≤ n₀)
    (hD : Has C K O D (.list vs)) (hv : A2 IntV vs ns) (hlen : ns.length < 900) (hr : ∀ i ∈ ns, 0 ≤ i ∧ i < 4) (hx : 0 ≤ x ∧ x < 4) (hk : KeyOk C n₀ K O kf f) (hs : (ns.map f).Pairwise (· ≤ ·))
    (h : ∀ R : Nat, R ≤ ns.length → (∀ i (hi : i < ns.length), i < R → f ns[i] ≤ f x) → (∀ i (hi : i < ns.length), R ≤ i → f x < f ns[i]) → ∃ O', Upd O D (.list vs) (.list (vs.take R ++ .int x t :: vs.drop R)) O' ∧ Q .none K O') :
    W C n K O (call (.ref 58) [.ref D, .int x t] [("key", .ref kf)]) Q := by
  refine w.call f58 [("a", .ref D), ("x", .int x t), ("lo", .int 0 238), ("hi", .none), ("key", .ref kf)] (by omega) (by kernel_rfl) (fun _ => by kernel_rfl) (by kernel_rfl) (by kernel_rfl) (fun L => ?_)
  show W _ _ _ _ (storeBinds _ _) _
  repeat cell_call
  refine W_callFkw (fd := f67.fd) ?_
  repeat cell_call
  obtain ⟨fd, hf1, hf2⟩ := id hk
  refine W_callF (fd := fd) ?_
  repeat cell_call
  refine ⟨hf1 [_], hf2 _ [_] _ _ _ (by omega) hx.1 hx.2 fun t₃ => ?_⟩
  repeat cell_call
  refine ⟨w.fn f67, ?_⟩
  refine c_bisR w (by omega) (by omega) (Has.cons hD) hv (by omega) hr (hk.cons _) hs fun R h1 h2 h3 t₄ => ?_
  repeat cell_call
  refine ⟨D, vs, rfl, Has.cons hD, ?_⟩
  repeat cell_call
  obtain ⟨O', hu, hq⟩ := h R h1 h2 h3
  refine W_insert (k := R) (Upd.there hu) rfl (by have := hv.length; omega) (by have := hv.length; omega) ?_
  refine ⟨nofun, ?_⟩
  repeat cell_call
  exact ret_of (List.sublist_cons_self _ _) hq

theorem c_insL {C : WC} {mg mb} (w : Wd C mg mb) {n n₀ : Nat} {K : KH} {O : OL} {D kf : Addr} {vs : List Value} {ns : List Int} {f : Int → Int} {x : Int} {t : Tok} {Q : Value → KH → OL → Prop} (hn : n ≤ 370) (hn0 : n + 2 ≤ n₀)
    (hD : Has C K O D (.list vs)) (hv : A2 IntV vs ns) (hlen : ns.length < 900) (hr : ∀ i ∈ ns, 0 ≤ i ∧ i < 4) (hx : 0 ≤ x ∧ x < 4) (hk : KeyOk C n₀ K O kf f) (hs : (ns.map f).Pairwise (· ≤ ·))
    (h : ∀ R : Nat, R ≤ ns.length → (∀ i (hi : i < ns.length), i < R → f ns[i] < f x) → (∀ i (hi : i < ns.length), R ≤ i → f x ≤ f ns[i]) → ∃ O', Upd O D (.list vs) (.list (vs.take R ++ .int x t :: vs.drop R)) O' ∧ Q .none K O') :
    W C n K O (call (.ref 76) [.ref D, .int x t] [("key", .ref kf)]) Q := by
  refine w.call f76 [("a", .ref D), ("x", .int x t), ("lo", .int 0 265), ("hi", .none), ("key", .ref kf)] (by omega) (by kernel_rfl) (fun _ => by kernel_rfl) (by kernel_rfl) (by kernel_rfl) (fun L => ?_)
  show W _ _ _ _ (storeBinds _ _) _
  repeat cell_call
  refine W_callFkw (fd := f85.fd) ?_
  repeat cell_call
  obtain ⟨fd, hf1, hf2⟩ := id hk
  refine W_callF (fd := fd) ?_
  repeat cell_call
  refine ⟨hf1 [_], hf2 _ [_] _ _ _ (by omega) hx.1 hx.2 fun t₃ => ?_⟩
  repeat cell_call
  refine ⟨w.fn f85, ?_⟩
  refine c_bisL w (by omega) (by omega) (Has.cons hD) hv (by omega) hr (hk.cons _) hs fun R h1 h2 h3 t₄ => ?_
  repeat cell_call
  refine ⟨D, vs, rfl, Has.cons hD, ?_⟩
  repeat cell_call
  obtain ⟨O', hu, hq⟩ := h R h1 h2 h3
  refine W_insert (k := R) (Upd.there hu) rfl (by have := hv.length; omega) (by have := hv.length; omega) ?_
  refine ⟨nofun, ?_⟩
  repeat cell_call
  exact ret_of (List.sublist_cons_self _ _) hq
end
section
/-- what _byteswap stores, turn by turn -/
def bsIn (b : Array UInt8) (w i : Nat) : Nat → Array UInt8 → Array UInt8
  | 0, a => a
  | j + 1, a => (bsIn b w i j a).setIfInBounds (i + w - 1 - j) (b.getD (i + j) 0)
def bsOut (b : Array UInt8) (w : Nat) : Nat → Array UInt8 → Array UInt8
  | 0, a => a
  | m + 1, a => bsIn b w (w * m) w (bsOut b w m a)
theorem bsIn_size (b : Array UInt8) (w i : Nat) : ∀ j a, (bsIn b w i j a).size = a.size
  | 0, a => rfl
  | j + 1, a => by simp [bsIn, bsIn_size b w i j]
theorem bsOut_size (b : Array UInt8) (w : Nat) : ∀ m a, (bsOut b w m a).size = a.size
  | 0, a => rfl
  | m + 1, a => by simp [bsOut, bsIn_size, bsOut_size b w m]

theorem c_byteswap {C : WC} {mg mb} (w : Wd C mg mb) {n : Nat} {K : KH} {O : OL} {b : Array UInt8} {wd m : Nat} {t u : Tok} {Q : Value → KH → OL → Prop} (hn : n ≤ 380)
    (hw : 0 < wd) (hw' : wd ≤ 10) (hm : m ≤ 20) (hb : b.size = wd * m) (hsm : Builtin.Range.small 0 (b.size : Int) wd = true) (hsz : Builtin.Range.rangeSize 0 (b.size : Int) wd = m)
    (h : ∀ t, Q (.bytes (bsOut b wd m (Array.replicate b.size 0)) t) K O) : WR C n K O (call (.ref 158) [.bytes b t, .int wd u] []) Q := by
  have hbz : b.size ≤ 200 := by rw [hb]; exact Nat.mul_le_mul hw' hm
  refine w.callR f158 [("data", .bytes b t), ("width", .int wd u)] (by omega) (by kernel_rfl) (fun _ => by kernel_rfl) (by kernel_rfl) (by kernel_rfl) (fun L => ?_)
  show W _ _ _ _ (storeBinds _ _) _
  repeat cell_call
  refine WR_execs_step rfl ?_
  refine WR_Assign1 ?_
  refine WR_CallName ?_
  repeat cell_call
  refine WR_callB rfl ?_
  refine W.r ?_
  repeat cell_call
  refine W_lenBytes (by omega) fun t₂ => ?_
  repeat cell_call
  refine WR_bytearray rfl (by omega) fun S => ?_
  repeat cell_call
  refine W.r ?_
  repeat cell_call
  refine W_lenBytes (by omega) fun t₃ => ?_
  repeat cell_call
  refine W_forRange3 m (fun j K' O' => X1 fun mm => V5 (K' = K) (O' = (S, bar (bsOut b wd j (Array.replicate b.size 0))) :: (L, .ns mm) :: O) (mm "data" = some (.bytes b t)) (mm "width" = some (.int wd u)) (mm "swapped_data" = some (.ref S)))
    (by omega) (by omega) hsm hsz ⟨_, rfl, rfl, by walk_at "g", by walk_at "g", by walk_at "g"⟩ ?_ ?_
  · rintro it j K' O' st hj ⟨mm, rfl, rfl, hm1, hm2, hm3⟩ t₄
    repeat cell_call
    refine W_forRange1 wd (fun i K₂ O' => X2 fun mm y => V7 (K₂ = K') (O' = (it, st) :: (S, bar (bsIn b wd (wd * j) i (bsOut b wd j (Array.replicate b.size 0)))) :: (L, .ns mm) :: O) (mm "data" = some (.bytes b t)) (mm "width" = some (.int wd u)) (mm "swapped_data" = some (.ref S)) (mm "i" = some (.int y t₄)) (y = ((wd * j : Nat) : Int)))
      (by omega) (by omega) (by omega) ?_ ?_ ?_
    · refine ⟨_, _, rfl, rfl, by walk_at "g", by walk_at "g", by walk_at "g", by walk_at "g", ?_⟩
      simp
    · rintro it₂ i K₂ O' st₂ hi ⟨mm, y, rfl, rfl, hm1, hm2, hm3, hm4, rfl⟩ t₅
      have hlt : wd * j + i < b.size := by rw [hb]; exact Nat.lt_of_lt_of_le (Nat.add_lt_add_left hi _) (by rw [← Nat.mul_succ]; exact Nat.mul_le_mul_left _ hj)
      have hlt2 : wd * j + wd - 1 - i < b.size := by rw [hb]; have : wd * j + wd ≤ wd * m := by rw [← Nat.mul_succ]; exact Nat.mul_le_mul_left _ hj
                                                     omega
      repeat cell_call
      refine sub_bytes (W_itemBytesE (i := wd * j + i) (by omega) (by omega) hlt fun t₆ => ?_)
      repeat cell_call
      refine W_setBAE (i := wd * j + wd - 1 - i) (c := b.getD (wd * j + i) 0) (by walk_at "u") (by omega) rfl (by rw [bsIn_size, bsOut_size]; simpa using hlt2) (by rw [bsIn_size, bsOut_size]; simp; omega) ?_
      repeat cell_call
      refine turn_next (List.Sublist.refl _) ?_
      exact ⟨_, _, rfl, rfl, by walk_at "g", by walk_at "g", by walk_at "g", by walk_at "g", rfl⟩
    · rintro K₂ O' ⟨mm, y, rfl, rfl, hm1, hm2, hm3, hm4, rfl⟩
      repeat cell_call
      refine turn_next (List.Sublist.refl _) ?_
      refine ⟨_, rfl, rfl, by walk_at "g", by walk_at "g", by walk_at "g"⟩
  · rintro K' O' ⟨mm, rfl, rfl, hm1, hm2, hm3⟩
    repeat cell_call
    refine W_bytesBA (by walk_at "m") (by rw [bsOut_size, sizeLine_eq]; simp; omega) fun t₇ => ?_
    exact ret_of ((List.sublist_cons_self _ _).trans (List.sublist_cons_self _ _)) (h t₇)
end
section
set_option maxRecDepth 100000
theorem bs28 (x0 x1 x2 x3 x4 x5 x6 x7 x8 x9 x10 x11 x12 x13 x14 x15 x16 x17 x18 x19 x20 x21 x22 x23 x24 x25 x26 x27 : UInt8) :
    (bsOut [x0, x1, x2, x3, x4, x5, x6, x7, x8, x9, x10, x11, x12, x13, x14, x15, x16, x17, x18, x19, x20, x21, x22, x23, x24, x25, x26, x27].toArray 4 7 (Array.replicate 28 0)).toList =
      [x3, x2, x1, x0, x7, x6, x5, x4, x11, x10, x9, x8, x15, x14, x13, x12, x19, x18, x17, x16, x23, x22, x21, x20, x27, x26, x25, x24] := by kernel_rfl
theorem u8_int {x : Int} (h : 0 ≤ x ∧ x < 4) : ((x.toNat.toUInt8.toNat : Nat) : Int) = x := by
  obtain rfl | rfl | rfl | rfl : x = 0 ∨ x = 1 ∨ x = 2 ∨ x = 3 := by omega
  all_goals rfl
theorem four {l : List Int} (h : l.length = 4) : ∃ a b c d, l = [a, b, c, d] := by
  match l, h with
  | [a, b, c, d], _ => exact ⟨a, b, c, d, rfl⟩
theorem oct_rows {R : Nat → List Int} (h : ∀ k, k < 7 → (R k).length = 4 ∧ ∀ x ∈ R k, 0 ≤ x ∧ x < 4) {k : Nat} (hk : k < 7) :
    (((bsOut (byteArr ((List.range 7).map R).flatten) 4 7 (Array.replicate 28 0)).toList.drop (4 * k)).take 4).map (fun c => (c.toNat : Int)) = (R k).reverse := by
  have e : ((List.range 7).map R).flatten = R 0 ++ (R 1 ++ (R 2 ++ (R 3 ++ (R 4 ++ (R 5 ++ (R 6 ++ [])))))) := rfl
  rw [e]
  obtain ⟨a0, b0, c0, d0, e0⟩ := four (h 0 (by omega)).1
  obtain ⟨a1, b1, c1, d1, e1⟩ := four (h 1 (by omega)).1
  obtain ⟨a2, b2, c2, d2, e2⟩ := four (h 2 (by omega)).1
  obtain ⟨a3, b3, c3, d3, e3⟩ := four (h 3 (by omega)).1
  obtain ⟨a4, b4, c4, d4, e4⟩ := four (h 4 (by omega)).1
  obtain ⟨a5, b5, c5, d5, e5⟩ := four (h 5 (by omega)).1
  obtain ⟨a6, b6, c6, d6, e6⟩ := four (h 6 (by omega)).1
  have hb := (h k hk).2
  rw [e0, e1, e2, e3, e4, e5, e6]
  unfold byteArr
  simp only [List.cons_append, List.nil_append, List.map_cons, List.map_nil, bs28]
  obtain rfl | rfl | rfl | rfl | rfl | rfl | rfl : k = 0 ∨ k = 1 ∨ k = 2 ∨ k = 3 ∨ k = 4 ∨ k = 5 ∨ k = 6 := by omega
  all_goals
    simp only [e0, e1, e2, e3, e4, e5, e6, List.mem_cons, List.not_mem_nil, or_false, forall_eq_or_imp, forall_eq] at hb ⊢
    obtain ⟨h1, h2, h3, h4⟩ := hb
    have q1 := u8_int h1
    have q2 := u8_int h2
    have q3 := u8_int h3
    have q4 := u8_int h4
    show [((_ : Nat) : Int), _, _, _] = [_, _, _, _]
    dsimp only
    rw [q1, q2, q3, q4]
end
section
local macro_rules | `(tactic| cell_call) => `(tactic| ((with_reducible show W _ _ _ _ (eval (.Call (.Attribute _ (Str.ofString "index") _) [_] [] _) _) _); refine W_CallListM PySem.F.slot_list_index PySem.F.type_list_index ?_))

def idx (first : List Int) (x : Int) : Nat := first.idxOf x
def goesUp (first row : List Int) (p : Nat) : Bool := decide (idx first (row.getD p 0) < idx first (row.getD (p + 1) 0))
def freeTo (first row : List Int) (i : Nat) : List Nat := (List.range i).filter (goesUp first row)
abbrev freeOf (first row : List Int) : List Nat := freeTo first row 3
def toI (l : List Nat) : List Int := l.map fun (p : Nat) => (p : Int)
def swapAt (row : List Int) (p : Nat) : List Int := row.take p ++ [row.getD (p + 1) 0, row.getD p 0] ++ row.drop (p + 2)
def pick (first row : List Int) (f : Int) : Nat := (freeOf first row).getD (f.fmod (freeOf first row).length).toNat 0
def stepRow (first row : List Int) (f : Int) : List Int := swapAt row (pick first row f)
def curRow (first : List Int) : List Int → List Int
  | [] => first
  | f :: fs => stepRow first (curRow first fs) f
/-- the row after j figures -/
def rowAt (first figs : List Int) (j : Nat) : List Int := curRow first (figs.take j).reverse
def Row4 (first row : List Int) : Prop := row.length = 4 ∧ ∀ x ∈ row, x ∈ first ∧ 0 ≤ x ∧ x < 4

theorem getD_mem {l : List Int} {m i : Nat} (h : l.length = m) (hi : i < m) : l.getD i 0 ∈ l := by
  rw [List.getD_eq_getElem?_getD, List.getElem?_eq_getElem (by omega)]; exact List.getElem_mem _
theorem freeTo_succ (first row : List Int) (i : Nat) : freeTo first row (i + 1) = freeTo first row i ++ (if goesUp first row i = true then [i] else []) := by
  unfold freeTo
  rw [List.range_succ, List.filter_append]
  congr 1
  cases h : goesUp first row i <;> simp [h]
theorem A2.toI_snoc {ws : List Value} {l : List Nat} {x : Int} {t : Tok} {i : Nat} (h : A2 IntV ws (toI l)) (e : x = i) : A2 IntV (ws ++ [.int x t]) (toI (l ++ [i])) := by
  subst e
  unfold toI at *
  rw [List.map_append]
  exact h.snoc ⟨_, rfl⟩

theorem two_of {l : List Int} {p : Nat} (h : l.length = 4) (hp : p < 3) : (l.drop p).take (p + 2 - p) = [l.getD p 0, l.getD (p + 1) 0] := by
  obtain ⟨a, b, c, d, rfl⟩ : ∃ a b c d, l = [a, b, c, d] := by
    match l, h with
    | [a, b, c, d], _ => exact ⟨a, b, c, d, rfl⟩
  obtain rfl | rfl | rfl : p = 0 ∨ p = 1 ∨ p = 2 := by omega
  all_goals rfl
theorem bs_two {x y : Int} (hx : 0 ≤ x ∧ x < 4) (hy : 0 ≤ y ∧ y < 4) :
    (bsOut (byteArr [x, y]) 2 1 (Array.replicate (byteArr [x, y]).size 0)).toList.map (fun c => (c.toNat : Int)) = [y, x] := by
  obtain rfl | rfl | rfl | rfl : x = 0 ∨ x = 1 ∨ x = 2 ∨ x = 3 := by omega
  all_goals
    obtain rfl | rfl | rfl | rfl : y = 0 ∨ y = 1 ∨ y = 2 ∨ y = 3 := by omega
  all_goals decide +kernel

theorem rowAt_succ {first figs : List Int} {j : Nat} {f : Int} (h : figs[j]? = some f) : rowAt first figs (j + 1) = stepRow first (rowAt first figs j) f := by
  unfold rowAt
  rw [List.take_add_one, h]
  simp [curRow]

theorem rows_vals {K : KH} {rs : List Value} {L : List (List Int)} (h : A2 (IntsV K) rs L) : ∃ vss, A2 (RefL K) rs vss ∧ A2 (A2 IntV) vss L := by
  induction h with
  | nil => exact ⟨[], .nil, .nil⟩
  | cons x _ ih =>
    obtain ⟨a, vs, rfl, hK, hv⟩ := x
    obtain ⟨vss, h1, h2⟩ := ih
    exact ⟨vs :: vss, .cons ⟨a, rfl, hK⟩ h1, .cons hv h2⟩
theorem flat_vals {vss : List (List Value)} {L : List (List Int)} (h : A2 (A2 IntV) vss L) : A2 IntV vss.flatten L.flatten := by
  induction h with
  | nil => exact .nil
  | cons x _ ih => simp only [List.flatten_cons]; exact x.append ih

theorem c_run {C : WC} {mg mb} (w : Wd C mg mb) {n : Nat} {K : KH} {O : OL} {fv gv : Value} {first figs : List Int} {Q : Value → KH → OL → Prop} (hn : n ≤ 370)
    (hf : IntsV K fv first) (hg : IntsV K gv figs) (h4 : first.length = 4) (h6 : figs.length = 6) (hrow : ∀ j, j ≤ 6 → Row4 first (rowAt first figs j)) (hfree : ∀ j, j < 6 → freeOf first (rowAt first figs j) ≠ [])
    (hfig : ∀ f ∈ figs, 0 ≤ f)
    (h : ∀ K' r, KLe K K' → LstV IntsV K' r ((List.range 7).map fun k => (rowAt first figs (6 - k)).reverse) → Q r K' O) : WR C n K O (call (.ref 177) [fv, gv] []) Q := by
  obtain ⟨F, fs, rfl, hF, hfs⟩ := hf
  obtain ⟨G, gs, rfl, hG, hgs⟩ := hg
  refine w.callR f177 [("first", .ref F), ("figures", .ref G)] (by omega) (by kernel_rfl) (fun _ => by kernel_rfl) (by kernel_rfl) (by kernel_rfl) (fun L => ?_)
  refine fun c₁ c₂ c₃ => ?_
  show W _ _ _ _ (storeBinds _ _) _
  repeat cell_call
  refine WR_execs_step rfl (W.r ?_)
  repeat cell_call
  refine ⟨by show 1 ≤ sizeLine; decide, fun D => ?_⟩
  repeat cell_call
  refine WR_execs_step rfl ?_
  refine WR_For ?_
  repeat cell_call
  refine WR_forLst (fun j K' O' => X3 fun rs m o => V5 (KLe K K') (O' = (D, .list rs) :: (c₃, .cell none) :: (c₂, .cell o) :: (c₁, .cell (some (.ref F))) :: (L, .ns m) :: O) (m "figures" = some (.ref G)) (m "rows" = some (.ref D)) (A2 (IntsV K') rs ((List.range (j + 1)).map (rowAt first figs)))) (LstAt.k hG) ?_ ?_ ?_ ?_
  · rintro j K' O' st it ⟨rs, m, o, hle, rfl, _⟩
    exact LstAt.k (hle _ _ hG)
  · refine ⟨_, _, _, KLe.refl _, rfl, by walk_at "g", by walk_at "g", ?_⟩
    exact .cons ⟨F, fs, rfl, hF, hfs⟩ .nil
  · rintro it j K' O' st v hv ⟨rs, m, o, hle, rfl, hm1, hm2, hrs⟩
    obtain ⟨fg, hfg, t₁, rfl⟩ := hgs.at' j v hv
    have hj : j < 6 := by have := (List.getElem?_eq_some_iff.mp hfg).1; omega
    have hl := hrs.length
    obtain ⟨rv, hrv, R, rvs, rfl, hR, hrvs⟩ := hrs.get j (rowAt first figs j) (by simp)
    repeat cell_call
    refine WR_execs_step rfl (W.r ?_)
    repeat cell_call
    have hl' : rs.length = j + 1 := by simpa using hl
    refine W_neg fun _ => ?_
    refine sub_list (vs := rs) (by walk_at "l") (W_itemNeg (vs := rs) (v := .ref R) (by walk_at "l") (by omega) (by omega) (by omega) ?_ ?_)
    · rw [hl']
      rw [show (-1 + ((j + 1 : Nat) : Int)).toNat = j by omega]; exact hrv
    repeat cell_call
    have hrat : ∀ i, i < 4 → ∃ t, rvs[i]? = some (.int ((rowAt first figs j).getD i 0) t) := fun i hi => by
      have hr4 := (hrow j (by omega)).1
      obtain ⟨a, e, t, rfl⟩ := hrvs.get' i (by omega)
      exact ⟨t, by rw [e, List.getD_eq_getElem?_getD, List.getElem?_eq_getElem (by omega)]; rfl⟩
    refine WR_execs_step rfl (W.r ?_)
    refine W_AssignComp (cl := [("row", c₂), ("first", c₁)]) (by kernel_rfl) (by kernel_rfl) rfl (by decide +kernel) (comp_rangeP (fun O P h => h) ?_)
    have hF' := hle _ _ hF
    obtain ⟨hr4, hrm⟩ := hrow j (by omega)
    repeat cell_call
    refine W_range1 fun r t₂ t₃ => ?_
    refine ⟨r, 0, 3, 1, _, _, _, 3, _, rfl, by walk_at "d", by kernel_rfl, by kernel_rfl, by omega, fun i K₂ ws => K₂ = K' ∧ A2 IntV ws (toI (freeTo first (rowAt first figs j) i)), ⟨rfl, .nil⟩, ?_, ?_⟩
    · rintro D₂ L₂ it₂ i K₂ st₂ m₂ ws hi ⟨rfl, hws⟩ t₄
      obtain ⟨u₁, hu₁⟩ := hrat i (by omega)
      obtain ⟨u₂, hu₂⟩ := hrat (i + 1) (by omega)
      repeat cell_call
      refine ⟨F, fs, rfl, .inl hF', ?_⟩
      repeat cell_call
      refine sub_list (vs := rvs) (by walk_at "l") (W_itemE (vs := rvs) (j := i) (by walk_at "l") (by omega) (by omega) hu₁ ?_)
      repeat cell_call
      refine W_index (.inl hF') hfs (hrm _ (getD_mem hr4 (by omega))).1 (by omega) fun u₃ => ?_
      repeat cell_call
      refine ⟨F, fs, rfl, .inl hF', ?_⟩
      repeat cell_call
      refine sub_list (vs := rvs) (by walk_at "l") (W_itemE (vs := rvs) (j := i + 1) (by walk_at "l") (by omega) (by omega) hu₂ ?_)
      repeat cell_call
      refine W_index (.inl hF') hfs (hrm _ (getD_mem hr4 (by omega))).1 (by omega) fun u₄ => ?_
      repeat cell_call
      have hgo : (decide (((first.idxOf ((rowAt first figs j).getD i 0) : Nat) : Int) < ((first.idxOf ((rowAt first figs j).getD (i + 1) 0) : Nat) : Int))) = goesUp first (rowAt first figs j) i := by
        unfold goesUp idx; simp
      rw [hgo]
      cases hb : goesUp first (rowAt first figs j) i with
      | true =>
        repeat cell_call
        refine turnC (List.Sublist.refl _) ⟨rfl, ?_⟩
        rw [freeTo_succ, hb]
        exact A2.toI_snoc hws (by omega)
      | false =>
        repeat cell_call
        refine turnS (List.Sublist.refl _) ⟨rfl, ?_⟩
        rw [freeTo_succ, hb]
        simpa using hws
    · rintro D₂ L₂ m₂ K₂ ws ⟨rfl, hws⟩
      repeat cell_call
      refine ⟨_, _, _, List.Sublist.refl _, by walk_at "d", ?_⟩
      refine WR_execs_step rfl (W.r ?_)
      repeat cell_call
      have hwl : ws.length = (freeOf first (rowAt first figs j)).length := by rw [hws.length]; simp [toI]
      have hne : (freeOf first (rowAt first figs j)).length ≠ 0 := by have := hfree j hj; simpa using this
      refine W_len (vs := ws) (by walk_at "l") (by have : (freeOf first (rowAt first figs j)).length ≤ 3 := Nat.le_trans (List.length_filter_le _ _) (by simp); omega) fun u₅ => ?_
      refine W_mod (by omega) fun u₆ => ?_
      have hfg0 : 0 ≤ fg := hfig _ (List.mem_of_getElem? hfg)
      have hm0 : 0 ≤ fg.fmod (freeOf first (rowAt first figs j)).length := Int.fmod_nonneg hfg0 (by omega)
      have hm1' : fg.fmod (freeOf first (rowAt first figs j)).length < (freeOf first (rowAt first figs j)).length := Int.fmod_lt_of_pos _ (by omega)
      have hpk : (freeOf first (rowAt first figs j))[(fg.fmod (freeOf first (rowAt first figs j)).length).toNat]? = some (pick first (rowAt first figs j) fg) := by
        unfold pick
        rw [List.getD_eq_getElem?_getD, List.getElem?_eq_getElem (by omega)]; rfl
      obtain ⟨pv, hpv, u₇, rfl⟩ := hws.get (fg.fmod (freeOf first (rowAt first figs j)).length).toNat (pick first (rowAt first figs j) fg : Int) (by unfold toI; rw [List.getElem?_map, hpk]; rfl)
      have hp3 : pick first (rowAt first figs j) fg < 3 := by
        have := List.mem_of_getElem? hpk
        simpa using (List.mem_filter.mp this).1
      generalize hpp : pick first (rowAt first figs j) fg = pp at hpv hp3
      refine sub_list (vs := ws) (by walk_at "l") (W_itemE (vs := ws) (j := (fg.fmod (freeOf first (rowAt first figs j)).length).toNat) (by walk_at "l") (by rw [hwl]; omega) (by have : (freeOf first (rowAt first figs j)).length ≤ 3 := Nat.le_trans (List.length_filter_le _ _) (by simp); omega) hpv ?_)
      repeat cell_call
      refine WR_execs_step rfl ?_
      refine WR_Expr ?_
      refine WR_CallAppend ?_
      repeat cell_call
      refine ⟨D, rs, rfl, by walk_at "h", ?_⟩
      have hrl : rvs.length = 4 := by rw [hrvs.length]; exact hr4
      refine WR_BinOp (WR_BinOp (W.r ?_))
      repeat cell_call
      intro sl₁
      refine sub_list (vs := rvs) (by walk_at "l") (W_listUpto (vs := rvs) (j := pp) (by walk_at "l") (by walk_at "m") (by omega) (by rw [sizeLine_eq]; omega) fun a₁ => ?_)
      refine WR_CallName ?_
      repeat cell_call
      refine WR_callB rfl (WR_args_cons ?_)
      refine WR_CallName ?_
      repeat cell_call
      refine WR_callF (fd := f158.fd) (W.r ?_)
      repeat cell_call
      intro sl₂
      have hrun := (hrvs.drop pp).take (pp + 2 - pp)
      have htwo : ((rowAt first figs j).drop pp).take (pp + 2 - pp) = [(rowAt first figs j).getD pp 0, (rowAt first figs j).getD (pp + 1) 0] := two_of hr4 hp3
      rw [htwo] at hrun
      have hx1 := (hrm _ (getD_mem hr4 (show pp < 4 by omega))).2
      have hx2 := (hrm _ (getD_mem hr4 (show pp + 1 < 4 by omega))).2
      refine sub_list (vs := rvs) (by walk_at "l") (W_listRun (vs := rvs) (i := pp) (j := pp + 2) (by walk_at "l") (by walk_at "m") (by omega) (by omega) (by rw [sizeLine_eq]; omega) fun a₂ => ?_)
      repeat cell_call
      refine W_bytesInts (vs := (rvs.drop pp).take (pp + 2 - pp)) (by walk_at "l") hrun.ints (fun x hx => ?_) (by rw [hrun.length, sizeLine_eq]; simp) fun t₈ => ?_
      · simp only [List.mem_cons, List.not_mem_nil, or_false] at hx
        rcases hx with rfl | rfl <;> omega
      repeat cell_call
      refine ⟨w.fn f158, ?_⟩
      refine c_byteswap w (wd := 2) (m := 1) (by omega) (by omega) (by omega) (by omega) (by rw [byteArr_size]; rfl) (by rw [byteArr_size]; kernel_rfl) (by rw [byteArr_size]; kernel_rfl) fun t₉ => ?_
      refine W.r ?_
      repeat cell_call
      refine W.r ?_
      refine W_listBytes (by rw [bsOut_size, sizeLine_eq, byteArr_size]; simp) fun a₃ ys hys => ?_
      have hys : A2 IntV ys [(rowAt first figs j).getD (pp + 1) 0, (rowAt first figs j).getD pp 0] := by
        have := A2.of_ints hys
        rwa [bs_two hx1 hx2] at this
      have hyl := hys.length
      refine W_listAdd (vs := rvs.take pp) (ws := ys) (by walk_at "l") (by walk_at "l") (by rw [hyl, sizeLine_eq]; simp; omega) fun a₄ => ?_
      refine W.r ?_
      repeat cell_call
      intro sl₃
      refine sub_list (vs := rvs) (by walk_at "l") (W_listFrom (vs := rvs) (i := pp + 2) (by walk_at "l") (by walk_at "m") (by omega) (by rw [sizeLine_eq]; omega) fun a₅ => ?_)
      have hyl2 : ys.length = 2 := hyl
      refine W_listAdd (vs := rvs.take pp ++ ys) (ws := rvs.drop (pp + 2)) (by walk_at "l") (by walk_at "l") (by rw [sizeLine_eq, List.length_append, List.length_take, List.length_drop, hyl2]; omega) fun a₆ => ?_
      repeat cell_call
      · rw [hl', sizeLine_eq]; omega
      refine ⟨nofun, ?_⟩
      refine W.r ?_
      refine W_freezeD (a := a₆) (by walk_at "d") fun K₃ hle₃ ha₆ => ?_
      repeat cell_call
      refine turn_next (O₃ := (D, .list (rs ++ [.ref a₆])) :: (c₃, .cell none) :: (c₂, .cell (some (.ref R))) :: (c₁, .cell (some (.ref F))) :: (L, .ns _) :: O) (by walk_at "s") ?_
      refine ⟨_, _, _, hle.trans hle₃, rfl, by walk_at "g", by walk_at "g", ?_⟩
      rw [List.range_succ, List.map_append]
      refine (hrs.mono fun v b hv => mono_lst mono_int _ _ _ _ hle₃ hv).snoc ⟨a₆, _, rfl, ha₆, ?_⟩
      rw [rowAt_succ hfg]
      unfold stepRow swapAt
      rw [hpp]
      exact ((hrvs.take pp).append hys).append (hrvs.drop (pp + 2))
  · rintro K' O' ⟨rs, m, o, hle, rfl, hm1, hm2, hrs⟩
    refine WR_execs_step rfl ?_
    refine WR_Assign1 ?_
    refine WR_CallName ?_
    repeat cell_call
    refine WR_callF (fd := f158.fd) (W.r ?_)
    repeat cell_call
    have hlen := hrs.length
    obtain ⟨vss, hvss, hvals⟩ := rows_vals hrs
    refine W_ListComp (cl := []) (by kernel_rfl) rfl (by decide +kernel) (comp_flat (fun O P h => h) rfl (fun _ => by kernel_rfl) (fun _ => by kernel_rfl) (by decide) (by decide) ?_)
    repeat cell_call
    have hg6 : gs.length = 6 := by rw [hgs.length, h6]
    rw [hg6] at hrs hvals
    have hR : ∀ k, k < 7 → (rowAt first figs k).length = 4 ∧ ∀ x ∈ rowAt first figs k, 0 ≤ x ∧ x < 4 := fun k hk => ⟨(hrow k (by omega)).1, fun x hx => ((hrow k (by omega)).2 x hx).2⟩
    have hfl := flat_vals hvals
    have hfll : ((List.range 7).map (rowAt first figs)).flatten.length = 28 := by
      have e : ((List.range 7).map (rowAt first figs)).flatten = rowAt first figs 0 ++ (rowAt first figs 1 ++ (rowAt first figs 2 ++ (rowAt first figs 3 ++ (rowAt first figs 4 ++ (rowAt first figs 5 ++ (rowAt first figs 6 ++ [])))))) := rfl
      rw [e]
      simp only [List.length_append, List.length_nil, (hR 0 (by omega)).1, (hR 1 (by omega)).1, (hR 2 (by omega)).1, (hR 3 (by omega)).1, (hR 4 (by omega)).1, (hR 5 (by omega)).1, (hR 6 (by omega)).1]
    have hfv : vss.flatten.length = 28 := by rw [hfl.length, hfll]
    refine ⟨D, rs, vss, rfl, by walk_at "h", hvss, by omega, fun D₃ => ?_⟩
    repeat cell_call
    refine W_bytesInts (vs := vss.flatten) (by walk_at "l") hfl.ints (fun x hx => ?_) (by rw [hfv, sizeLine_eq]; omega) fun t₈ => ?_
    · obtain ⟨l, hl, hx⟩ := List.mem_flatten.mp hx
      obtain ⟨k, hk, rfl⟩ := List.mem_map.mp hl
      have := (hR k (by simpa using hk)).2 x hx
      omega
    repeat cell_call
    refine ⟨w.fn f158, ?_⟩
    have hsz : (byteArr ((List.range 7).map (rowAt first figs)).flatten).size = 28 := by rw [byteArr_size, hfll]
    refine c_byteswap w (wd := 4) (m := 7) (by omega) (by omega) (by omega) (by omega) (by rw [hsz]) (by rw [hsz]; kernel_rfl) (by rw [hsz]; kernel_rfl) fun t₉ => ?_
    rw [hsz]
    have hosz : (bsOut (byteArr ((List.range 7).map (rowAt first figs)).flatten) 4 7 (Array.replicate 28 0)).size = 28 := by rw [bsOut_size]; simp
    have hrows := fun k (hk : k < 7) => oct_rows hR hk
    generalize bsOut (byteArr ((List.range 7).map (rowAt first figs)).flatten) 4 7 (Array.replicate 28 0) = oct at hosz hrows
    repeat cell_call
    refine WR_execs_step rfl (W.r ?_)
    refine W_Return ?_
    refine W_thenFreeze ?_
    refine W_ListComp (cl := [("octets", c₃)]) (by kernel_rfl) rfl (by decide +kernel) (comp_rangeP (fun O P h => h) ?_)
    repeat cell_call
    refine W_neg fun _ => ?_
    repeat cell_call
    refine W_neg fun _ => ?_
    repeat cell_call
    refine W_range3 (by decide) (by decide) fun r => ?_
    refine ⟨r, 6, -1, -1, _, _, _, 7, _, rfl, by walk_at "d", by kernel_rfl, by kernel_rfl, by omega, fun i K₂ ws => KLe K' K₂ ∧ A2 (IntsV K₂) ws ((List.range i).map fun k => (rowAt first figs (6 - k)).reverse), ⟨KLe.refl _, .nil⟩, ?_, ?_⟩
    · rintro D₂ L₂ it₂ i K₂ st₂ m₂ ws hi ⟨hle₂, hws⟩ t₄
      repeat cell_call
      intro sl₄
      rw [show (4 * (6 + -1 * (i : Int)) + 4) = ((4 * (6 - i) + 4 : Nat) : Int) by omega, show (4 * (6 + -1 * (i : Int))) = ((4 * (6 - i) : Nat) : Int) by omega]
      refine sub_bytes (W_runBytes (i := 4 * (6 - i)) (j := 4 * (6 - i) + 4) (by walk_at "m") (by omega) (by omega) (by omega) (by omega) fun t₅ => ?_)
      repeat cell_call
      refine W_thenFreeze (W_listBytes (by rw [sizeLine_eq]; simp; omega) fun a₅ ys hys => ⟨a₅, _, _, by walk_at "d", fun K₃ hle₃ h5 => ?_⟩)
      refine turnC (by walk_at "s") ⟨hle₂.trans hle₃, ?_⟩
      rw [List.range_succ, List.map_append]
      refine (hws.mono fun v b hv => mono_lst mono_int _ _ _ _ hle₃ hv).snoc ⟨a₅, _, rfl, h5, ?_⟩
      show A2 IntV ys (rowAt first figs (6 - i)).reverse
      rw [← hrows (6 - i) (by omega)]
      have := A2.of_ints hys
      rw [show 4 * (6 - i) + 4 - 4 * (6 - i) = 4 by omega] at this
      exact this
    · rintro D₂ L₂ m₂ K₂ ws ⟨hle₂, hws⟩
      refine ⟨_, _, _, List.Sublist.refl _, by walk_at "d", D₂, _, _, by walk_at "d", fun K₃ hle₃ hD₂ => ?_⟩
      refine ret_of (by walk_at "s") (h K₃ _ ((hle.trans hle₂).trans hle₃) ⟨D₂, _, rfl, hD₂, hws.mono fun v b hv => mono_lst mono_int _ _ _ _ hle₃ hv⟩)
end
section
set_option maxRecDepth 100000
/-- the 24 orders of 0..3 -/
noncomputable def ords : List (List Int) := [[0, 1, 2, 3], [0, 1, 3, 2], [0, 2, 1, 3], [0, 2, 3, 1], [0, 3, 1, 2], [0, 3, 2, 1], [1, 0, 2, 3], [1, 0, 3, 2], [1, 2, 0, 3], [1, 2, 3, 0], [1, 3, 0, 2], [1, 3, 2, 0], [2, 0, 1, 3], [2, 0, 3, 1], [2, 1, 0, 3], [2, 1, 3, 0], [2, 3, 0, 1], [2, 3, 1, 0], [3, 0, 1, 2], [3, 0, 2, 1], [3, 1, 0, 2], [3, 1, 2, 0], [3, 2, 0, 1], [3, 2, 1, 0]]
noncomputable def asc (first row : List Int) : Nat :=
  (([(0, 1), (0, 2), (0, 3), (1, 2), (1, 3), (2, 3)] : List (Nat × Nat)).filter fun q => decide (idx first (row.getD q.1 0) < idx first (row.getD q.2 0))).length
noncomputable def stepOk (first row : List Int) : Bool :=
  (asc first row == 0 || !(freeOf first row).isEmpty) && ((freeOf first row).all fun p => ords.contains (swapAt row p) && asc first (swapAt row p) + 1 == asc first row) && (asc first row != 0 || row == first.reverse) && row.length == 4 && (row.all fun x => first.contains x && decide (0 ≤ x) && decide (x < 4))
theorem all_ok : (ords.all fun first => asc first first == 6 && ords.all fun row => stepOk first row) = true := by decide +kernel
theorem ok_of {first row : List Int} (hf : first ∈ ords) (hr : row ∈ ords) : asc first first = 6 ∧ (asc first row = 0 ∨ freeOf first row ≠ []) ∧ (∀ p ∈ freeOf first row, swapAt row p ∈ ords ∧ asc first (swapAt row p) + 1 = asc first row) ∧ (asc first row = 0 → row = first.reverse) ∧ Row4 first row := by
  have h := all_ok
  rw [List.all_eq_true] at h
  have h1 := h first hf
  rw [Bool.and_eq_true, List.all_eq_true] at h1
  obtain ⟨h0, h1⟩ := h1
  have h2 := h1 row hr
  unfold stepOk at h2
  simp only [Bool.and_eq_true, Bool.or_eq_true, List.all_eq_true, beq_iff_eq, bne_iff_ne, decide_eq_true_eq, List.contains_iff_mem, Bool.not_eq_true'] at h0 h2
  obtain ⟨⟨⟨⟨k1, k2⟩, k3⟩, k4⟩, k5⟩ := h2
  refine ⟨h0, Or.imp id (fun q e => (by rw [e] at q; cases q)) k1, fun p hp => k2 p hp, fun e => ?_, k4, fun x hx => ?_⟩
  · rcases k3 with k3 | k3
    · exact absurd e k3
    · exact k3
  · have := k5 x hx
    exact ⟨this.1.1, this.1.2, this.2⟩
theorem pick_mem {first row : List Int} {f : Int} (hne : freeOf first row ≠ []) (hf : 0 ≤ f) : pick first row f ∈ freeOf first row := by
  have hl : 0 < (freeOf first row).length := List.length_pos_iff.mpr hne
  have h0 : 0 ≤ f.fmod (freeOf first row).length := Int.fmod_nonneg hf (by omega)
  have h1 : f.fmod (freeOf first row).length < (freeOf first row).length := Int.fmod_lt_of_pos _ (by omega)
  unfold pick
  rw [List.getD_eq_getElem?_getD, List.getElem?_eq_getElem (by omega)]
  exact List.getElem_mem _
theorem rows_ok {first figs : List Int} (hf : first ∈ ords) (hg : ∀ f ∈ figs, 0 ≤ f) (h6 : figs.length = 6) : ∀ j, j ≤ 6 → rowAt first figs j ∈ ords ∧ asc first (rowAt first figs j) = 6 - j
  | 0, _ => by
    show first ∈ ords ∧ asc first first = 6
    exact ⟨hf, (ok_of hf hf).1⟩
  | j + 1, hj => by
    obtain ⟨h1, h2⟩ := rows_ok hf hg h6 j (by omega)
    have hfj := List.getElem?_eq_getElem (show j < figs.length by omega)
    rw [rowAt_succ hfj]
    obtain ⟨_, k1, k2, _⟩ := ok_of hf h1
    have hne : freeOf first (rowAt first figs j) ≠ [] := k1.resolve_left (by omega)
    obtain ⟨q1, q2⟩ := k2 _ (pick_mem hne (hg _ (List.getElem_mem (show j < figs.length by omega))))
    refine ⟨q1, ?_⟩
    unfold stepRow
    omega
theorem rows_last {first figs : List Int} (hf : first ∈ ords) (hg : ∀ f ∈ figs, 0 ≤ f) (h6 : figs.length = 6) : rowAt first figs 6 = first.reverse := by
  obtain ⟨h1, h2⟩ := rows_ok hf hg h6 6 (Nat.le_refl _)
  exact (ok_of hf h1).2.2.2.1 h2
theorem rows_free {first figs : List Int} (hf : first ∈ ords) (hg : ∀ f ∈ figs, 0 ≤ f) (h6 : figs.length = 6) {j : Nat} (hj : j < 6) : freeOf first (rowAt first figs j) ≠ [] := by
  obtain ⟨h1, h2⟩ := rows_ok hf hg h6 j (by omega)
  exact (ok_of hf h1).2.1.resolve_left (by omega)
theorem rows_row4 {first figs : List Int} (hf : first ∈ ords) (hg : ∀ f ∈ figs, 0 ≤ f) (h6 : figs.length = 6) {j : Nat} (hj : j ≤ 6) : Row4 first (rowAt first figs j) :=
  (ok_of hf (rows_ok hf hg h6 j hj).1).2.2.2.2
end
section
def sumsTo (xs : List Int) : Nat → Int × Int
  | 0 => (5026, 25063)
  | j + 1 => if j % 2 = 0 then ((sumsTo xs j).1 + xs.getD j 0, (sumsTo xs j).2) else ((sumsTo xs j).1, (sumsTo xs j).2 + xs.getD j 0)

theorem W_iaddInt {C : WC} {n : Nat} {K : KH} {O : OL} {a b : Int} {t u : Tok} {Q : Value → KH → OL → Prop} (h : ∀ t, Q (.int (a + b) t) K O) : W C n K O (inplaceOp .Add (.int a t) (.int b u)) Q := fun A hA s S => wpAny_iadd_int ⟨K, O, S.toks, h _⟩
theorem c_sums {C : WC} {mg mb} (w : Wd C mg mb) {n : Nat} {K : KH} {O : OL} {l : Addr} {xs : List Value} {ns : List Int} {Q : Value → KH → OL → Prop} (hn : n ≤ 370)
    (hl : ∀ K O, LstAt C K O l xs) (hx : A2 IntV xs ns) (hz : xs.length < 1000000)
    (h : ∀ K' r a b t u, KLe K K' → K' r = some (.ilist [.int a t, .int b u]) → a = (sumsTo ns ns.length).1 → b = (sumsTo ns ns.length).2 → Q (.ref r) K' O) : W C n K O (call (.ref 165) [.ref l] []) Q := by
  refine w.call f165 [("script", .ref l)] (by omega) (by kernel_rfl) (fun _ => by kernel_rfl) (by kernel_rfl) (by kernel_rfl) (fun L => ?_)
  show W _ _ _ _ (storeBinds _ _) _
  repeat cell_call
  refine ⟨by show 2 ≤ sizeLine; decide, fun D => ?_⟩
  repeat cell_call
  refine W_ilist (l := D) (by walk_at "u") ?_
  refine W_enumerate (hl _ _) fun e it hne => ?_
  refine W_iterEnum (by walk_at "m") ?_
  refine WCd_forEnum (vs := xs) hne (fun j K' O' => X5 fun m a b t u => V4 (K' = K) (O' = (D, .ilist [.int a t, .int b u]) :: (L, .ns m) :: O) (m "sums" = some (.ref D)) ((a, b) = sumsTo ns j)) (fun _ _ _ _ _ _ => hl _ _) ?_ ?_ ?_
  · rintro j K' O' st T t v hv ⟨m, a, b, t₁, t₂, rfl, rfl, hm, hab⟩
    obtain ⟨x, hxj, t₃, rfl⟩ := hx.at' j v hv
    refine W_assignTuple (vs := [.int j t, .int x t₃]) (by walk_at "h") (by rfl) (by rfl) ?_
    repeat cell_call
    refine W_modE (c := ((j % 2 : Nat) : Int)) (by decide) (by rw [Int.fmod_eq_emod_of_nonneg _ (by decide)]; omega) fun t₄ => ?_
    repeat cell_call
    have hxd : ns.getD j 0 = x := by rw [List.getD_eq_getElem?_getD, hxj]; rfl
    rcases Nat.mod_two_eq_zero_or_one j with h2 | h2
    · rw [h2]
      refine W_itemE (vs := [.int a t₁, .int b t₂]) (j := 0) (by walk_at "l") (by rfl) (by omega) rfl ?_
      repeat cell_call
      refine W_iaddInt fun t₅ => ?_
      refine W_setItem (vs := [.int a t₁, .int b t₂]) (by walk_at "u") (by decide) (by decide) (by simp) ?_
      repeat cell_call
      refine turn_next (O₃ := (it, lit l (j + 1)) :: (D, .ilist [.int (a + x) t₅, .int b t₂]) :: (L, .ns _) :: O) (by walk_at "s") ?_
      refine ⟨_, rfl, _, _, _, _, _, rfl, rfl, by walk_at "g", ?_⟩
      rw [sumsTo, if_pos h2, ← hab, hxd]
    · rw [h2]
      refine W_itemE (vs := [.int a t₁, .int b t₂]) (j := 1) (by walk_at "l") (by rfl) (by omega) rfl ?_
      repeat cell_call
      refine W_iaddInt fun t₅ => ?_
      refine W_setItem (vs := [.int a t₁, .int b t₂]) (by walk_at "u") (by decide) (by decide) (by simp) ?_
      repeat cell_call
      refine turn_next (O₃ := (it, lit l (j + 1)) :: (D, .ilist [.int a t₁, .int (b + x) t₅]) :: (L, .ns _) :: O) (by walk_at "s") ?_
      refine ⟨_, rfl, _, _, _, _, _, rfl, rfl, by walk_at "g", ?_⟩
      rw [sumsTo, if_neg (by omega), ← hab, hxd]
  · rintro K' O' st ⟨m, a, b, t₁, t₂, rfl, rfl, hm, hab⟩
    refine W_freezeD (a := D) (by walk_at "d") fun K₁ hle hD => ?_
    repeat cell_call
    have e : xs.length = ns.length := hx.length
    rw [e] at hab
    exact ret_of (by walk_at "s") (h K₁ D a b t₁ t₂ hle hD (by rw [← hab]) (by rw [← hab]))
  · exact ⟨_, _, _, _, _, rfl, rfl, by walk_at "g", rfl⟩
end
section
def wayStep (way hs : List Int) : List Int := way ++ hs.map fun h => way.getLastD 0 + h
def wayTo (row : List Int) (rises : List (List Int)) : Nat → List Int
  | 0 => [0]
  | j + 1 => wayStep (wayTo row rises j) (rises.getD (row.getD j 0).toNat [])
theorem wayTo_ne (row : List Int) (rises : List (List Int)) : ∀ j, wayTo row rises j ≠ []
  | 0 => by simp [wayTo]
  | j + 1 => by unfold wayTo wayStep; simp [wayTo_ne row rises j]

theorem lastOf {ws : List Value} {l : List Int} (h : A2 IntV ws l) (hne : l ≠ []) : ∃ t, ws[ws.length - 1]? = some (.int (l.getLastD 0) t) := by
  have hp : 0 < l.length := List.length_pos_iff.mpr hne
  obtain ⟨a, e, t, rfl⟩ := h.get' (l.length - 1) (by omega)
  refine ⟨t, ?_⟩
  rw [h.length, e]
  congr 2
  rw [List.getLastD_eq_getLast?, List.getLast?_eq_getElem?, List.getElem?_eq_getElem (by omega)]; rfl
theorem c_way {C : WC} {mg mb} (w : Wd C mg mb) {n : Nat} {K : KH} {O : OL} {rv sv : Value} {row : List Int} {rises : List (List Int)} {Q : Value → KH → OL → Prop} (hn : n ≤ 370)
    (hr : IntsV K rv row) (hs : LstV IntsV K sv rises) (hk : ∀ k ∈ row, 0 ≤ k ∧ k < rises.length) (hz4 : rises.length ≤ 1000) (hz : ∀ l ∈ rises, l.length ≤ 1000) (hzw : ∀ j, j ≤ row.length → (wayTo row rises j).length ≤ 100000)
    (h : ∀ K' r, KLe K K' → IntsV K' r (wayTo row rises row.length) → Q r K' O) : W C n K O (call (.ref 189) [rv, sv] []) Q := by
  obtain ⟨A, rs, rfl, hA, hrs⟩ := hr
  obtain ⟨B, ss, rfl, hB, hss⟩ := hs
  refine w.call f189 [("row", .ref A), ("rises", .ref B)] (by omega) (by kernel_rfl) (fun _ => by kernel_rfl) (by kernel_rfl) (by kernel_rfl) (fun L => ?_)
  refine fun c => ?_
  show W _ _ _ _ (storeBinds _ _) _
  repeat cell_call
  refine ⟨by show 1 ≤ sizeLine; decide, fun D => ?_⟩
  repeat cell_call
  refine W_freezeD (a := D) (by walk_at "d") fun K₁ hle₁ hD => ?_
  have hA₁ := hle₁ _ _ hA
  have hB₁ := hle₁ _ _ hB
  refine W_forLst (fun j K' O' => X3 fun m wr ws => V6 (KLe K₁ K') (O' = (c, .cell (some (.ref wr))) :: (L, .ns m) :: O) (m "row" = some (.ref A)) (m "rises" = some (.ref B)) (K' wr = some (.list ws)) (A2 IntV ws (wayTo row rises j))) (vs := rs) (by walk_at "l") ?_ ?_ ?_ ?_
  · rintro j K' O' st it ⟨m, wr, ws, hle, rfl, _⟩
    exact LstAt.k (hle _ _ hA₁)
  · exact ⟨_, _, _, KLe.refl _, rfl, by walk_at "g", by walk_at "g", hD, .cons ⟨_, rfl⟩ .nil⟩
  · rintro it j K' O' st v hv ⟨m, wr, ws, hle, rfl, hm1, hm2, hwr, hws⟩
    obtain ⟨k, hkj, t, rfl⟩ := hrs.at' j v hv
    obtain ⟨hk0, hk1⟩ := hk k (List.mem_of_getElem? hkj)
    have hj : j < row.length := (List.getElem?_eq_some_iff.mp hkj).1
    have hkd : row.getD j 0 = k := by rw [List.getD_eq_getElem?_getD, hkj]; rfl
    obtain ⟨rr, hrr, R, hs, rfl, hR, hhs⟩ := hss.get' k.toNat (by omega)
    have hR' := hle _ _ (hle₁ _ _ hR)
    have hB' := hle _ _ hB₁
    repeat cell_call
    refine W_ListComp (cl := [("way", c)]) (by kernel_rfl) rfl (by decide +kernel) (comp_listP (fun O P h => h) ?_)
    repeat cell_call
    refine sub_list (vs := ss) (by walk_at "l") (W_itemE (vs := ss) (j := k.toNat) (by walk_at "l") (by omega) (by omega) hrr ?_)
    refine ⟨R, hs, rfl, by walk_at "l", ?_, fun i K₂ ws₂ => K₂ = K' ∧ A2 IntV ws₂ (((rises[k.toNat]'(by omega)).take i).map fun h => (wayTo row rises j).getLastD 0 + h), ⟨rfl, by simp; exact .nil⟩, ?_, ?_, ?_⟩
    · rw [hhs.length]; have := hz _ (List.getElem_mem (show k.toNat < rises.length by omega)); omega
    · rintro D₂ L₂ it₂ i K₂ st₂ m₂ ws₂ ⟨rfl, hws₂⟩
      exact LstAt.k hR'
    · rintro D₂ L₂ it₂ i K₂ st₂ m₂ ws₂ v hv ⟨rfl, hws₂⟩
      obtain ⟨hh, hhi, t₅, rfl⟩ := hhs.at' i v hv
      obtain ⟨t₆, hlast⟩ := lastOf hws (wayTo_ne row rises j)
      have hwl := hws.length
      have hwb := hzw j (by omega)
      have hwp : 0 < (wayTo row rises j).length := List.length_pos_iff.mpr (wayTo_ne row rises j)
      repeat cell_call
      refine W_neg fun _ => ?_
      refine sub_list (vs := ws) (by walk_at "l") (W_itemNeg (vs := ws) (v := .int ((wayTo row rises j).getLastD 0) t₆) (by walk_at "l") (by omega) (by omega) (by omega) ?_ ?_)
      · rw [show (-1 + (ws.length : Int)).toNat = ws.length - 1 by omega]; exact hlast
      repeat cell_call
      refine turnC (List.Sublist.refl _) ⟨rfl, ?_⟩
      rw [List.take_add_one, hhi, List.map_append]
      exact hws₂.snoc ⟨_, rfl⟩
    · rintro D₂ L₂ m₂ K₂ ws₂ ⟨rfl, hws₂⟩
      refine ⟨_, _, _, List.Sublist.refl _, by walk_at "d", ?_⟩
      have hwl := hws.length
      have hwb := hzw j (by omega)
      have hfull : hs.length = (rises[k.toNat]'(by omega)).length := hhs.length
      have hrb := hz _ (List.getElem_mem (show k.toNat < rises.length by omega))
      rw [hfull, List.take_length] at hws₂
      have hw2 := hws₂.length
      rw [List.length_map] at hw2
      refine W_listAdd (vs := ws) (ws := ws₂) (by walk_at "l") (by walk_at "l") (by rw [sizeLine_eq]; omega) fun a => ?_
      refine W_freezeD (a := a) (by walk_at "d") fun K₃ hle₃ ha => ?_
      repeat cell_call
      refine turn_next (O₃ := (c, .cell (some (.ref a))) :: (L, .ns _) :: O) (by walk_at "s") ?_
      refine ⟨_, a, _, hle.trans hle₃, rfl, by walk_at "g", by walk_at "g", ha, ?_⟩
      have e : rises.getD (row.getD j 0).toNat [] = rises[k.toNat]'(by omega) := by rw [hkd, List.getD_eq_getElem?_getD, List.getElem?_eq_getElem (by omega)]; rfl
      rw [wayTo, e]
      exact hws.append hws₂
  · rintro K' O' ⟨m, wr, ws, hle, rfl, hm1, hm2, hwr, hws⟩
    repeat cell_call
    rw [hrs.length] at hws
    exact ret_of (by walk_at "s") (h K' _ (hle₁.trans hle) ⟨wr, ws, rfl, hwr, hws⟩)
end
section
local macro_rules | `(tactic| cell_call) => `(tactic| ((with_reducible show W _ _ _ _ (exec (.Return (some (.Tuple _ _ _)) _) _) _); refine W_Return (W_thenFreeze ?_)))
def diffTo (row after : List Int) (i : Nat) : List Nat := (List.range i).filter fun s => row.getD s 0 != after.getD s 0
def stepOf (steps : List (Int × Int)) (k : Int) : Int × Int := steps.getD k.toNat (0, 0)
def tileOf (steps : List (Int × Int)) (row : List Int) (p : Nat) : Tile :=
  ⟨((row.take p).map fun k => (stepOf steps k).1).sum, ((row.take p).map fun k => (stepOf steps k).2).sum,
    (stepOf steps (row.getD p 0)).1, (stepOf steps (row.getD p 0)).2, (stepOf steps (row.getD (p + 1) 0)).1, (stepOf steps (row.getD (p + 1) 0)).2⟩
theorem diffTo_succ (row after : List Int) (i : Nat) : diffTo row after (i + 1) = diffTo row after i ++ (if (row.getD i 0 != after.getD i 0) = true then [i] else []) := by
  unfold diffTo
  rw [List.range_succ, List.filter_append]
  congr 1
  cases h : (row.getD i 0 != after.getD i 0) <;> simp_all

def toIn (l : List Nat) : List Int := l.map fun (p : Nat) => (p : Int)
theorem toIn_snoc {ws : List Value} {l : List Nat} {x : Int} {t : Tok} {i : Nat} (h : A2 IntV ws (toIn l)) (e : x = i) : A2 IntV (ws ++ [.int x t]) (toIn (l ++ [i])) := by
  subst e
  unfold toIn at *
  rw [List.map_append]
  exact h.snoc ⟨_, rfl⟩
theorem c_tile {C : WC} {mg mb} (w : Wd C mg mb) {n : Nat} {K : KH} {O : OL} {sv rv av : Value} {steps : List (Int × Int)} {row after : List Int} {p : Nat} {rest : List Nat} {Q : Value → KH → OL → Prop} (hn : n ≤ 370)
    (hs : LstV PairV K sv steps) (hr : IntsV K rv row) (ha : IntsV K av after) (h4 : row.length = 4) (h4' : after.length = 4) (hs4 : steps.length = 4) (hk : ∀ k ∈ row, 0 ≤ k ∧ k < 4)
    (hd : diffTo row after 4 = p :: rest) (hp : p < 3)
    (h : ∀ K' r, KLe K K' → TileV K' r (tileOf steps row p) → Q r K' O) : W C n K O (call (.ref 194) [sv, rv, av] []) Q := by
  obtain ⟨S, ss, rfl, hS, hss⟩ := hs
  obtain ⟨A, rs, rfl, hA, hrs⟩ := hr
  obtain ⟨B, as, rfl, hB, has⟩ := ha
  have rat : ∀ i, i < 4 → ∃ t, rs[i]? = some (.int (row.getD i 0) t) := fun i hi => by
    obtain ⟨a, e, t, rfl⟩ := hrs.get' i (by omega)
    exact ⟨t, by rw [e, List.getD_eq_getElem?_getD, List.getElem?_eq_getElem (by omega)]; rfl⟩
  have aat : ∀ i, i < 4 → ∃ t, as[i]? = some (.int (after.getD i 0) t) := fun i hi => by
    obtain ⟨a, e, t, rfl⟩ := has.get' i (by omega)
    exact ⟨t, by rw [e, List.getD_eq_getElem?_getD, List.getElem?_eq_getElem (by omega)]; rfl⟩
  have sat : ∀ k : Int, 0 ≤ k → k < 4 → ∃ T t u, ss[k.toNat]? = some (.ref T) ∧ K T = some (.tup [.int (stepOf steps k).1 t, .int (stepOf steps k).2 u]) := fun k h0 h1 => by
    obtain ⟨a, e, T, x, y, t, u, rfl, hK, rfl, rfl⟩ := hss.get' k.toNat (by omega)
    have e2 : stepOf steps k = steps[k.toNat]'(by omega) := by unfold stepOf; rw [List.getD_eq_getElem?_getD, List.getElem?_eq_getElem (by omega)]; rfl
    exact ⟨T, t, u, e, by rw [e2]; exact hK⟩
  have rmem : ∀ i, i < 4 → 0 ≤ row.getD i 0 ∧ row.getD i 0 < 4 := fun i hi => hk _ (by rw [List.getD_eq_getElem?_getD, List.getElem?_eq_getElem (by omega)]; exact List.getElem_mem _)
  refine w.call f194 [("steps", .ref S), ("row", .ref A), ("after", .ref B)] (by omega) (by kernel_rfl) (fun _ => by kernel_rfl) (by kernel_rfl) (by kernel_rfl) (fun L => ?_)
  refine fun c₁ c₂ c₃ => ?_
  show W _ _ _ _ (storeBinds _ _) _
  repeat cell_call
  refine W_ListComp (cl := [("row", c₂), ("after", c₃)]) (by kernel_rfl) rfl (by decide +kernel) (comp_rangeP (fun O P h => h) ?_)
  repeat cell_call
  refine W_range1 fun r t₂ t₃ => ?_
  refine ⟨r, 0, 4, 1, _, _, _, 4, _, rfl, by walk_at "d", by kernel_rfl, by kernel_rfl, by omega, fun i K₂ ws => K₂ = K ∧ A2 IntV ws (toIn (diffTo row after i)), ⟨rfl, .nil⟩, ?_, ?_⟩
  · rintro D₂ L₂ it₂ i K₂ st₂ m₂ ws hi ⟨rfl, hws⟩ t₄
    obtain ⟨u₁, hu₁⟩ := rat i hi
    obtain ⟨u₂, hu₂⟩ := aat i hi
    repeat cell_call
    refine sub_list (vs := rs) (by walk_at "l") (W_itemE (vs := rs) (j := i) (by walk_at "l") (by omega) (by omega) hu₁ ?_)
    repeat cell_call
    refine sub_list (vs := as) (by walk_at "l") (W_itemE (vs := as) (j := i) (by walk_at "l") (by omega) (by omega) hu₂ ?_)
    repeat cell_call
    refine W_ne ?_
    repeat cell_call
    cases hb : (row.getD i 0 != after.getD i 0) with
    | true =>
      repeat cell_call
      refine turnC (List.Sublist.refl _) ⟨rfl, ?_⟩
      rw [diffTo_succ, hb]
      exact toIn_snoc hws (by omega)
    | false =>
      repeat cell_call
      refine turnS (List.Sublist.refl _) ⟨rfl, ?_⟩
      rw [diffTo_succ, hb]
      simpa using hws
  · rintro D₂ L₂ m₂ K₂ ws ⟨rfl, hws⟩
    rw [hd] at hws
    refine ⟨_, _, _, List.Sublist.refl _, by walk_at "d", ?_⟩
    obtain ⟨x, hx0, t₅, rfl⟩ := hws.get 0 (p : Int) rfl
    repeat cell_call
    refine sub_list (vs := ws) (by walk_at "l") (W_itemE (vs := ws) (j := 0) (by walk_at "l") (by rfl) (by omega) hx0 ?_)
    repeat cell_call
    obtain ⟨u₁, hu₁⟩ := rat p (by omega)
    obtain ⟨u₂, hu₂⟩ := rat (p + 1) (by omega)
    refine sub_list (vs := rs) (by walk_at "l") (W_itemE (vs := rs) (j := p) (by walk_at "l") (by omega) (by omega) hu₁ ?_)
    obtain ⟨T₁, v₁, v₂, hT₁, hK₁⟩ := sat _ (rmem p (by omega)).1 (rmem p (by omega)).2
    obtain ⟨T₂, v₃, v₄, hT₂, hK₂⟩ := sat _ (rmem (p + 1) (by omega)).1 (rmem (p + 1) (by omega)).2
    have b1 := rmem p (by omega)
    have b2 := rmem (p + 1) (by omega)
    have hrl := hrs.length
    refine sub_list (vs := ss) (by walk_at "l") (W_itemE (vs := ss) (j := (row.getD p 0).toNat) (by walk_at "l") (by omega) (by omega) hT₁ ?_)
    refine ⟨T₁, _, rfl, .inl hK₁, rfl, ?_⟩
    repeat cell_call
    refine sub_list (vs := rs) (by walk_at "l") (W_itemE (vs := rs) (j := p + 1) (by walk_at "l") (by omega) (by omega) hu₂ ?_)
    refine sub_list (vs := ss) (by walk_at "l") (W_itemE (vs := ss) (j := (row.getD (p + 1) 0).toNat) (by walk_at "l") (by omega) (by omega) hT₂ ?_)
    refine ⟨T₂, _, rfl, .inl hK₂, rfl, ?_⟩
    repeat cell_call
    refine W_ListComp (cl := [("steps", c₁)]) (by kernel_rfl) rfl (by decide +kernel) (comp_listP (fun O P h => h) ?_)
    repeat cell_call
    intro sl₁
    refine sub_list (vs := rs) (by walk_at "l") (W_listUpto (vs := rs) (j := p) (by walk_at "l") (by walk_at "m") (by omega) (by rw [sizeLine_eq]; omega) fun a₁ => ?_)
    refine ⟨a₁, rs.take p, rfl, by walk_at "l", by simp; omega, fun i K' ws => K' = K₂ ∧ A2 IntV ws (((row.take p).take i).map fun k => (stepOf steps k).1), ⟨rfl, by simp; exact .nil⟩, ?_, ?_, ?_⟩
    · rintro D₃ L₃ it₃ i K' st₃ m₃ ws₃ ⟨rfl, _⟩
      exact LstAt.o (by walk_at "m")
    · rintro D₃ L₃ it₃ i K' st₃ m₃ ws₃ v hv ⟨rfl, hws₃⟩
      obtain ⟨k, hki, t, rfl⟩ := (hrs.take p).at' i v hv
      obtain ⟨k0, k1⟩ := hk k (List.mem_of_mem_take (List.mem_of_getElem? hki))
      obtain ⟨T₃, w₁, w₂, hT₃, hK₃⟩ := sat k k0 k1
      repeat cell_call
      refine sub_list (vs := ss) (by walk_at "l") (W_itemE (vs := ss) (j := k.toNat) (by walk_at "l") (by omega) (by omega) hT₃ ?_)
      repeat cell_call
      refine sub_tup (TupAt.has (.inl hK₃)) (W_tupItem (TupAt.has (.inl hK₃)) (by decide) (by decide) (by rfl) ?_)
      refine turnC (List.Sublist.refl _) ⟨rfl, ?_⟩
      rw [List.take_add_one, hki, List.map_append]
      exact hws₃.snoc ⟨_, rfl⟩
    rintro D₄ L₄ m₄ K' ws₄ ⟨rfl, hws₄⟩
    rw [show (rs.take p).length = (row.take p).length by simp [hrs.length], List.take_length] at hws₄
    refine ⟨_, _, _, List.Sublist.refl _, by walk_at "d", ?_⟩
    repeat cell_call
    refine W_sum (vs := ws₄) (by walk_at "l") hws₄ fun z₄ => ?_
    repeat cell_call
    refine W_ListComp (cl := [("steps", c₁)]) (by kernel_rfl) rfl (by decide +kernel) (comp_listP (fun O P h => h) ?_)
    repeat cell_call
    intro sl₂
    refine sub_list (vs := rs) (by walk_at "l") (W_listUpto (vs := rs) (j := p) (by walk_at "l") (by walk_at "m") (by omega) (by rw [sizeLine_eq]; omega) fun a₂ => ?_)
    refine ⟨a₂, rs.take p, rfl, by walk_at "l", by simp; omega, fun i K₇ ws => K₇ = K' ∧ A2 IntV ws (((row.take p).take i).map fun k => (stepOf steps k).2), ⟨rfl, by simp; exact .nil⟩, ?_, ?_, ?_⟩
    · rintro D₃ L₃ it₃ i K₇ st₃ m₃ ws₃ ⟨rfl, _⟩
      exact LstAt.o (by walk_at "m")
    · rintro D₃ L₃ it₃ i K₇ st₃ m₃ ws₃ v hv ⟨rfl, hws₃⟩
      obtain ⟨k, hki, t, rfl⟩ := (hrs.take p).at' i v hv
      obtain ⟨k0, k1⟩ := hk k (List.mem_of_mem_take (List.mem_of_getElem? hki))
      obtain ⟨T₃, w₁, w₂, hT₃, hK₃⟩ := sat k k0 k1
      repeat cell_call
      refine sub_list (vs := ss) (by walk_at "l") (W_itemE (vs := ss) (j := k.toNat) (by walk_at "l") (by omega) (by omega) hT₃ ?_)
      repeat cell_call
      refine sub_tup (TupAt.has (.inl hK₃)) (W_tupItem (TupAt.has (.inl hK₃)) (by decide) (by decide) (by rfl) ?_)
      refine turnC (List.Sublist.refl _) ⟨rfl, ?_⟩
      rw [List.take_add_one, hki, List.map_append]
      exact hws₃.snoc ⟨_, rfl⟩
    rintro D₅ L₅ m₅ K₇ ws₅ ⟨rfl, hws₅⟩
    rw [show (rs.take p).length = (row.take p).length by simp [hrs.length], List.take_length] at hws₅
    refine ⟨_, _, _, List.Sublist.refl _, by walk_at "d", ?_⟩
    repeat cell_call
    refine W_sum (vs := ws₅) (by walk_at "l") hws₅ fun z₅ => ?_
    repeat cell_call
    refine ⟨by show 6 ≤ sizeLine; decide, fun a => ⟨a, _, _, by walk_at "d", fun K₈ hle ha => ?_⟩⟩
    exact ret_of (by walk_at "s") (h K₈ _ hle ⟨a, z₄, z₅, v₁, v₂, v₃, v₄, rfl, ha⟩)
end
section
set_option maxRecDepth 100000
noncomputable def turnOk (first r : List Int) : Bool :=
  (freeOf first r).all fun p => decide (p < 3) && (diffTo (swapAt r p).reverse r.reverse 4 == [2 - p, 3 - p]) && (r.reverse == swapAt (swapAt r p).reverse (2 - p)) && goesUp first (swapAt r p).reverse (2 - p)
theorem all_turn : (ords.all fun first => ords.all fun r => turnOk first r) = true := by decide +kernel
/-- the k-th row of the run -/
def runAt (first figs : List Int) (k : Nat) : List Int := (rowAt first figs (6 - k)).reverse
theorem run_turn {first figs : List Int} (hf : first ∈ ords) (hg : ∀ f ∈ figs, 0 ≤ f) (h6 : figs.length = 6) {k : Nat} (hk : k < 6) :
    ∃ p, p < 3 ∧ diffTo (runAt first figs k) (runAt first figs (k + 1)) 4 = [p, p + 1] ∧ runAt first figs (k + 1) = swapAt (runAt first figs k) p ∧ goesUp first (runAt first figs k) p = true := by
  have hfj := List.getElem?_eq_getElem (show 5 - k < figs.length by omega)
  have e1 : runAt first figs k = (stepRow first (rowAt first figs (5 - k)) (figs[5 - k]'(by omega))).reverse := by
    unfold runAt
    rw [show 6 - k = (5 - k) + 1 by omega, rowAt_succ hfj]
  have e2 : runAt first figs (k + 1) = (rowAt first figs (5 - k)).reverse := by
    unfold runAt
    rw [show 6 - (k + 1) = 5 - k by omega]
  have hr := (rows_ok hf hg h6 (5 - k) (by omega)).1
  have hp := pick_mem (rows_free hf hg h6 (show 5 - k < 6 by omega)) (hg _ (List.getElem_mem (show 5 - k < figs.length by omega)))
  have h := all_turn
  rw [List.all_eq_true] at h
  have h1 := h first hf
  rw [List.all_eq_true] at h1
  have h2 := h1 _ hr
  unfold turnOk at h2
  rw [List.all_eq_true] at h2
  have h3 := h2 _ hp
  simp only [Bool.and_eq_true, decide_eq_true_eq, beq_iff_eq] at h3
  obtain ⟨⟨⟨k1, k2⟩, k3⟩, k4⟩ := h3
  rw [e1, e2]
  unfold stepRow
  refine ⟨2 - pick first (rowAt first figs (5 - k)) (figs[5 - k]'(by omega)), by omega, ?_, k3, k4⟩
  rw [k2]
  congr 2
  omega
theorem run_first {first figs : List Int} (hf : first ∈ ords) (hg : ∀ f ∈ figs, 0 ≤ f) (h6 : figs.length = 6) : runAt first figs 0 = first := by
  unfold runAt
  rw [show 6 - 0 = 6 from rfl, rows_last hf hg h6, List.reverse_reverse]
theorem run_last (first figs : List Int) : runAt first figs 6 = first.reverse := rfl
end
section
set_option maxRecDepth 100000
/-- the order of the slopes, insertion by insertion; only comparisons count -/
def insAt (lt : Int → Int → Bool) (ns : List Int) (x : Int) : List Int := ns.take (ns.findIdx (lt x)) ++ x :: ns.drop (ns.findIdx (lt x))
def insTo (lt : Int → Int → Bool) : Nat → List Int
  | 0 => []
  | k + 1 => insAt lt (insTo lt k) (k : Int)
/-- insort_right by f, insort_left by -f -/
def ltR (f : Int → Int) (x i : Int) : Bool := decide (f x < f i)
def leL (f : Int → Int) (x i : Int) : Bool := decide (-f x ≤ -f i)
noncomputable def vals4 : List (List Int) := ([0, 1, 2, 3] : List Int).flatMap fun a => ([0, 1, 2, 3] : List Int).flatMap fun b => ([0, 1, 2, 3] : List Int).flatMap fun c => ([0, 1, 2, 3] : List Int).map fun d => [a, b, c, d]
def fOf (v : List Int) (i : Int) : Int := v.getD i.toNat 0
noncomputable def insOk (v : List Int) : Bool :=
  let f := fOf v
  ords.contains (insTo (ltR f) 4) && (insTo (leL f) 4 == (insTo (ltR f) 4).reverse) &&
  ([0, 1, 2, 3, 4].all fun k => (insTo (ltR f) k).length == k && ((insTo (ltR f) k).all fun i => decide (0 ≤ i) && decide (i < k)) && decide (((insTo (ltR f) k).map f).Pairwise (· ≤ ·)) && (insTo (leL f) k).length == k && ((insTo (leL f) k).all fun i => decide (0 ≤ i) && decide (i < k)) && decide (((insTo (leL f) k).map fun i => -f i).Pairwise (· ≤ ·)))
theorem all_ins : (vals4.all insOk) = true := by decide +kernel
theorem findIdx_congr' {p q : Int → Bool} : ∀ {l : List Int}, (∀ x ∈ l, p x = q x) → l.findIdx p = l.findIdx q
  | [], _ => rfl
  | a :: l, h => by
    rw [List.findIdx_cons, List.findIdx_cons, h a (.head _), findIdx_congr' fun x hx => h x (.tail _ hx)]
theorem insTo_congr {lt lt' : Int → Int → Bool} (h : ∀ x i, 0 ≤ x → x < 4 → 0 ≤ i → i < 4 → lt x i = lt' x i) : ∀ k, k ≤ 4 → insTo lt k = insTo lt' k ∧ ∀ i ∈ insTo lt k, 0 ≤ i ∧ i < k
  | 0, _ => ⟨rfl, fun i hi => by cases hi⟩
  | k + 1, hk => by
    obtain ⟨e, hm⟩ := insTo_congr h k (by omega)
    have ef : (insTo lt k).findIdx (lt k) = (insTo lt k).findIdx (lt' k) := findIdx_congr' fun x hx => h _ _ (by omega) (by omega) (hm x hx).1 (by have := (hm x hx).2; omega)
    refine ⟨?_, fun i hi => ?_⟩
    · unfold insTo insAt
      rw [← e, ef]
    · unfold insTo insAt at hi
      rcases List.mem_append.mp hi with hi | hi
      · have := hm i (List.mem_of_mem_take hi); omega
      · rcases List.mem_cons.mp hi with rfl | hi
        · omega
        · have := hm i (List.mem_of_mem_drop hi); omega
end
section
set_option maxRecDepth 100000
def rk (f : Int → Int) (i : Int) : Nat := ([0, 1, 2, 3] : List Int).countP fun m => decide (f m < f i)
theorem count_lt {f : Int → Int} {i : Int} : ∀ {l : List Int}, i ∈ l → l.countP (fun m => decide (f m < f i)) < l.countP (fun m => decide (f m ≤ f i))
  | a :: l, h => by
    have hle : l.countP (fun m => decide (f m < f i)) ≤ l.countP (fun m => decide (f m ≤ f i)) := List.countP_mono_left fun x _ hx => by
      simp only [decide_eq_true_eq] at hx ⊢; omega
    rw [List.countP_cons, List.countP_cons]
    rcases List.mem_cons.mp h with rfl | h
    · simp; omega
    · have := count_lt (f := f) h
      by_cases h1 : f a < f i
      · have h2 : f a ≤ f i := by omega
        simp only [h1, h2, decide_true, if_true]; omega
      · simp only [h1, decide_false, Bool.false_eq_true, if_false]; omega
theorem rk_lt {f : Int → Int} {i j : Int} (h0 : 0 ≤ i) (h1 : i < 4) : f i < f j ↔ rk f i < rk f j := by
  constructor
  · intro h
    have hi : i ∈ ([0, 1, 2, 3] : List Int) := by
      obtain rfl | rfl | rfl | rfl : i = 0 ∨ i = 1 ∨ i = 2 ∨ i = 3 := by omega
      all_goals decide
    refine Nat.lt_of_lt_of_le (count_lt hi) (List.countP_mono_left fun x _ hx => ?_)
    simp only [decide_eq_true_eq] at hx ⊢; omega
  · intro h
    by_cases h' : f i < f j
    · exact h'
    · have : rk f j ≤ rk f i := List.countP_mono_left fun x _ hx => by simp only [decide_eq_true_eq] at hx ⊢; omega
      omega
theorem rk_small {f : Int → Int} {i : Int} (h0 : 0 ≤ i) (h1 : i < 4) : rk f i < 4 := by
  have hi : i ∈ ([0, 1, 2, 3] : List Int) := by
    obtain rfl | rfl | rfl | rfl : i = 0 ∨ i = 1 ∨ i = 2 ∨ i = 3 := by omega
    all_goals decide
  exact Nat.lt_of_lt_of_le (count_lt hi) List.countP_le_length
def rkl (f : Int → Int) : List Int := [(rk f 0 : Int), rk f 1, rk f 2, rk f 3]
theorem rkl_at {f : Int → Int} {i : Int} (h0 : 0 ≤ i) (h1 : i < 4) : fOf (rkl f) i = rk f i := by
  obtain rfl | rfl | rfl | rfl : i = 0 ∨ i = 1 ∨ i = 2 ∨ i = 3 := by omega
  all_goals rfl
theorem rkl_mem (f : Int → Int) : rkl f ∈ vals4 := by
  have h0 := rk_small (f := f) (i := 0) (by decide) (by decide)
  have h1 := rk_small (f := f) (i := 1) (by decide) (by decide)
  have h2 := rk_small (f := f) (i := 2) (by decide) (by decide)
  have h3 := rk_small (f := f) (i := 3) (by decide) (by decide)
  have four' : ∀ k : Nat, k < 4 → (k : Int) ∈ ([0, 1, 2, 3] : List Int) := fun k hk => by
    obtain rfl | rfl | rfl | rfl : k = 0 ∨ k = 1 ∨ k = 2 ∨ k = 3 := by omega
    all_goals decide
  unfold vals4 rkl
  exact List.mem_flatMap.mpr ⟨_, four' _ h0, List.mem_flatMap.mpr ⟨_, four' _ h1, List.mem_flatMap.mpr ⟨_, four' _ h2, List.mem_map.mpr ⟨_, four' _ h3, rfl⟩⟩⟩⟩
theorem ins_facts (f : Int → Int) : insTo (ltR f) 4 ∈ ords ∧ insTo (leL f) 4 = (insTo (ltR f) 4).reverse ∧
    ∀ k, k ≤ 4 → ((insTo (ltR f) k).length = k ∧ ((insTo (ltR f) k).map f).Pairwise (· ≤ ·)) ∧ (insTo (leL f) k).length = k ∧ ((insTo (leL f) k).map fun i => -f i).Pairwise (· ≤ ·) := by
  have hR : ∀ x i : Int, 0 ≤ x → x < 4 → 0 ≤ i → i < 4 → ltR f x i = ltR (fOf (rkl f)) x i := fun x i a b c d => by
    unfold ltR
    rw [rkl_at a b, rkl_at c d]
    exact decide_eq_decide.mpr ((rk_lt a b).trans (by omega))
  have hL : ∀ x i : Int, 0 ≤ x → x < 4 → 0 ≤ i → i < 4 → leL f x i = leL (fOf (rkl f)) x i := fun x i a b c d => by
    unfold leL
    rw [rkl_at a b, rkl_at c d]
    refine decide_eq_decide.mpr ?_
    have := rk_lt (f := f) (j := i) a b
    have h2 := rk_lt (f := f) (j := x) c d
    omega
  have h := all_ins
  rw [List.all_eq_true] at h
  have h1 := h _ (rkl_mem f)
  unfold insOk at h1
  simp only [Bool.and_eq_true, List.all_eq_true, beq_iff_eq, decide_eq_true_eq, List.contains_iff_mem] at h1
  obtain ⟨⟨k1, k2⟩, k3⟩ := h1
  rw [← (insTo_congr hR 4 (by omega)).1] at k1 k2
  rw [← (insTo_congr hL 4 (by omega)).1] at k2
  refine ⟨k1, k2, fun k hk => ?_⟩
  have hk' : k ∈ [0, 1, 2, 3, 4] := by
    obtain rfl | rfl | rfl | rfl | rfl : k = 0 ∨ k = 1 ∨ k = 2 ∨ k = 3 ∨ k = 4 := by omega
    all_goals decide
  obtain ⟨⟨⟨⟨⟨q1, q2⟩, q3⟩, q4⟩, q5⟩, q6⟩ := k3 k hk'
  obtain ⟨e1, m1⟩ := insTo_congr hR k hk
  obtain ⟨e2, m2⟩ := insTo_congr hL k hk
  rw [← e1] at q1 q3
  rw [← e2] at q4 q6
  refine ⟨⟨q1, ?_⟩, q4, ?_⟩
  · rw [List.pairwise_map] at q3 ⊢
    refine q3.imp_of_mem fun {x y} hx hy hxy => ?_
    obtain ⟨a, b⟩ := m1 x hx
    obtain ⟨c, d⟩ := m1 y hy
    rw [rkl_at a (by omega), rkl_at c (by omega)] at hxy
    have := rk_lt (f := f) (i := y) (j := x) c (by omega)
    omega
  · rw [List.pairwise_map] at q6 ⊢
    refine q6.imp_of_mem fun {x y} hx hy hxy => ?_
    obtain ⟨a, b⟩ := m2 x hx
    obtain ⟨c, d⟩ := m2 y hy
    rw [rkl_at a (by omega), rkl_at c (by omega)] at hxy
    have := rk_lt (f := f) (i := x) (j := y) a (by omega)
    omega
end
section
set_option maxRecDepth 100000
theorem findIdx_eq {p : Int → Bool} : ∀ {ns : List Int} {R : Nat}, R ≤ ns.length → (∀ i (hi : i < ns.length), i < R → p ns[i] = false) → (∀ i (hi : i < ns.length), R ≤ i → p ns[i] = true) → ns.findIdx p = R
  | [], R, h, _, _ => by simp at h; subst h; rfl
  | a :: ns, 0, _, _, h2 => by
    have := h2 0 (by simp) (Nat.le_refl _)
    rw [List.findIdx_cons]
    simp only [List.getElem_cons_zero] at this
    rw [this]; rfl
  | a :: ns, R + 1, h, h1, h2 => by
    have h0 := h1 0 (by simp) (by omega)
    simp only [List.getElem_cons_zero] at h0
    have ih := findIdx_eq (p := p) (ns := ns) (R := R) (by simpa using h) (fun i hi hr => h1 (i + 1) (Nat.succ_lt_succ hi) (by omega)) (fun i hi hr => h2 (i + 1) (Nat.succ_lt_succ hi) (by omega))
    rw [List.findIdx_cons, h0, ih]; rfl
theorem insR_eq {f : Int → Int} {ns : List Int} {x : Int} {R : Nat} (hR : R ≤ ns.length) (h1 : ∀ i (hi : i < ns.length), i < R → f ns[i] ≤ f x) (h2 : ∀ i (hi : i < ns.length), R ≤ i → f x < f ns[i]) :
    ns.take R ++ x :: ns.drop R = insAt (ltR f) ns x := by
  have e : ns.findIdx (ltR f x) = R := findIdx_eq hR (fun i hi hr => by have := h1 i hi hr; unfold ltR; simp; omega) (fun i hi hr => by have := h2 i hi hr; unfold ltR; simpa using this)
  unfold insAt; rw [e]
theorem insL_eq {f : Int → Int} {ns : List Int} {x : Int} {R : Nat} (hR : R ≤ ns.length) (h1 : ∀ i (hi : i < ns.length), i < R → -f ns[i] < -f x) (h2 : ∀ i (hi : i < ns.length), R ≤ i → -f x ≤ -f ns[i]) :
    ns.take R ++ x :: ns.drop R = insAt (leL f) ns x := by
  have e : ns.findIdx (leL f x) = R := findIdx_eq hR (fun i hi hr => by have := h1 i hi hr; unfold leL; simp only [decide_eq_false_iff_not]; omega) (fun i hi hr => by have := h2 i hi hr; unfold leL; simp only [decide_eq_true_eq]; omega)
  unfold insAt; rw [e]
end
section
set_option linter.unusedVariables false
set_option linter.unusedSectionVars false
set_option maxRecDepth 100000
set_option maxHeartbeats 1000000
section
variable {α β : Type} {C : WC} {n : Nat} {K : KH} {O O' : OL} {env : Env} {x y : Str} {pos : Pos} {t u : Tok}

theorem str_ext {a b : Str} (h : a.cps = b.cps) : a = b := by cases a; cases b; cases h; rfl
def catS (x y : Str) : Str := ⟨x.cps ++ y.cps⟩
def repS (x : Str) (k : Nat) : Str := ⟨(List.replicate k x.cps).foldl (· ++ ·) #[]⟩
theorem W_addStr {Q : Value → KH → OL → Prop} (hz : x.cps.size + y.cps.size ≤ sizeLine) (h : ∀ t, Q (.str (catS x y) t) K O) : W C n K O (binaryOp .Add (.str x t) (.str y u)) Q := fun A hA s S => by
  refine PySem.P.add_str ?_
  by_cases h1 : (x.length == 0) = true
  · rw [if_pos h1]
    refine ⟨K, O, S, ?_⟩
    have e : catS x y = y := by
      apply str_ext
      have : x.cps = #[] := Array.eq_empty_of_size_eq_zero (by simpa [Str.length] using h1)
      simp [catS, this]
    exact e ▸ h u
  · rw [if_neg h1]
    by_cases h2 : (y.length == 0) = true
    · rw [if_pos h2]
      refine ⟨K, O, S, ?_⟩
      have e : catS x y = x := by
        apply str_ext
        have : y.cps = #[] := Array.eq_empty_of_size_eq_zero (by simpa [Str.length] using h2)
        simp [catS, this]
      exact e ▸ h t
    · rw [if_neg h2]
      exact ⟨by show (x.cps ++ y.cps).size ≤ sizeLine; simpa using hz, K, O, S.toks, h _⟩
theorem W_iaddStr {Q : Value → KH → OL → Prop} (hz : x.cps.size + y.cps.size ≤ sizeLine) (h : ∀ t, Q (.str (catS x y) t) K O) : W C n K O (inplaceOp .Add (.str x t) (.str y u)) Q := fun A hA s S => by
  refine PySem.P.iadd_str ?_
  by_cases h1 : (x.length == 0) = true
  · rw [if_pos h1]
    refine ⟨K, O, S, ?_⟩
    have e : catS x y = y := by
      apply str_ext
      have : x.cps = #[] := Array.eq_empty_of_size_eq_zero (by simpa [Str.length] using h1)
      simp [catS, this]
    exact e ▸ h u
  · rw [if_neg h1]
    by_cases h2 : (y.length == 0) = true
    · rw [if_pos h2]
      refine ⟨K, O, S, ?_⟩
      have e : catS x y = x := by
        apply str_ext
        have : y.cps = #[] := Array.eq_empty_of_size_eq_zero (by simpa [Str.length] using h2)
        simp [catS, this]
      exact e ▸ h t
    · rw [if_neg h2]
      exact ⟨by show (x.cps ++ y.cps).size ≤ sizeLine; simpa using hz, K, O, S.toks, h _⟩
theorem W_mulStr {k : Int} {Q : Value → KH → OL → Prop} (h1 : x.cps.size = 1) (h0 : 0 ≤ k) (hk : k < 1000) (h : ∀ t, Q (.str (repS x k.toNat) t) K O) : W C n K O (binaryOp .Mult (.str x t) (.int k u)) Q := fun A hA s S => by
  have hl : x.length = 1 := h1
  refine PySem.P.mul_str ?_ ?_ ?_ ?_
  · rw [decide_eq_false (by omega), decide_eq_false (by omega)]; rfl
  · intro h2 _ h3
    rw [hl] at h3
    have : k * (1 : Nat) ≤ 2 ^ 63 - 1 := by omega
    have h4 : (1 : Int) ≤ (2 ^ 63 - 1) / k := by
      rw [Int.le_ediv_iff_mul_le (by omega)]; omega
    omega
  · intro _ _
    rw [hl]
    have : sizeLine = 16777216 := rfl
    simp only [Builtin.Str.tooLong, decide_eq_false_iff_not]
    omega
  · by_cases h2 : k < 1
    · rw [if_pos h2]
      have e : k.toNat = 0 := by omega
      rw [e] at h
      exact ⟨by decide, K, O, S.toks, h _⟩
    · rw [if_neg h2]
      by_cases h3 : (k == 1 || x.length == 0) = true
      · rw [if_pos h3]
        have e : k.toNat = 1 := by simp [hl] at h3; omega
        rw [e] at h
        refine ⟨K, O, S, ?_⟩
        have e2 : repS x 1 = x := by apply str_ext; simp [repS]
        exact e2 ▸ h t
      · rw [if_neg h3]
        refine ⟨?_, K, O, S.toks, h _⟩
        show ((List.replicate k.toNat x.cps).foldl (· ++ ·) #[]).size ≤ sizeLine
        have : ∀ (m : Nat) (acc : Array Nat), ((List.replicate m x.cps).foldl (· ++ ·) acc).size = acc.size + m := by
          intro m
          induction m with
          | zero => intro acc; simp
          | succ m ih => intro acc; rw [List.replicate_succ, List.foldl_cons, ih]; simp [h1]; omega
        rw [this, sizeLine_eq]
        simp; omega
theorem W_eqStr {Q : Value → KH → OL → Prop} (h : Q (.bool (x.cps.toList == y.cps.toList)) K O) : W C n K O (compareOp .Eq (.str x t) (.str y u)) Q := fun A hA s S => PySem.P.eq_str ⟨K, O, S, h⟩
theorem W_neStr {Q : Value → KH → OL → Prop} (h : Q (.bool (x.cps.toList != y.cps.toList)) K O) : W C n K O (compareOp .NotEq (.str x t) (.str y u)) Q := fun A hA s S => PySem.P.ne_str ⟨K, O, S, h⟩
theorem W_chr {i : Int} {Q : Value → KH → OL → Prop} (h0 : 0 ≤ i) (h1 : i < 100000) (h : ∀ t, Q (.str ⟨#[i.toNat]⟩ t) K O) : W C n K O (call (.builtin "chr") [.int i t]) Q := fun A hA s S =>
  PySem.P.chr_of_int (by rw [decide_eq_false (by omega), decide_eq_false (by omega)]; rfl) ⟨K, O, S.toks, h _⟩
theorem W_tupleList {l : Addr} {vs : List Value} {Q : Value → KH → OL → Prop} (hl : LstAt C K O l vs) (hz : vs.length ≤ 100000) (h : ∀ a, Q (.ref a) K ((a, .tup vs) :: O)) : W C n K O (call (.type "tuple") [.ref l]) Q := fun A hA s S =>
  call_tuple_list (hl s S) (fun h' hk => ⟨K, _, (S.grow (tk := s.toks) (dr := s.drawn) hk).push (x := .tup vs) rfl ⟨0, rfl⟩, h _⟩) (by simp [sizeLine_eq]; omega)
theorem W_listMul {l : Addr} {vs : List Value} {k : Int} {Q : Value → KH → OL → Prop} (hl : Has C K O l (.list vs)) (h0 : 0 ≤ k) (hk : vs.length * k.toNat ≤ 100000) (hv : vs ≠ []) (h : ∀ a, Q (.ref a) K ((a, .list (List.replicate k.toNat vs).flatten) :: O)) :
    W C n K O (binaryOp .Mult (.ref l) (.int k u)) Q := fun A hA s S => by
  obtain ⟨o, ho, m, rfl⟩ := S.has hl
  have hp : 0 < vs.length := List.length_pos_iff.mpr hv
  have hsz : vs.toArray.size = vs.length := List.size_toArray
  have hsl : sizeLine = 16777216 := rfl
  have hkk : k.toNat ≤ 100000 := Nat.le_trans (Nat.le_mul_of_pos_left _ hp) hk
  refine wpAny_binaryOp_repeat_ref (T := "list") (U := "int") (by decide) ⟨_, ho, rfl⟩ (fun s' => typeIs_int s' k u) noFill_list_mul F.fills_int_mul F.slot_int_rmul repeat_list F.slot_int_index.lookup
    (call_meets F.slot_int_rmul (typeIs_int s k u) F.entry_int_rmul (F.args_int_rmul_2 _ _) (int___rmul___int_list k u l vs.toArray m)
      ⟨ho, rfl, ⟨_, ho, rfl⟩, call_meets F.slot_list_mul ⟨_, ho, rfl⟩ F.entry_list_mul (F.args_list_mul_2 _ _)
        (AutoListH.list___mul___list_int_3 l vs.toArray m k u (by simp [Builtin.List.listFitsIndex]; omega) (by rw [hsz]; omega) (by simp only [Builtin.List.listTooLong, hsz]; simp; omega))
        ⟨ho, K, _, S.push (x := .list (List.replicate k.toNat vs).flatten) (tk := s.toks) (dr := s.drawn) rfl ?_, h _⟩⟩)
  have e : List.foldl (fun x1 x2 => x1 ++ x2) #[] (List.replicate (if vs.toArray.isEmpty = true then 0 else k.toNat) vs.toArray) = (List.replicate k.toNat vs).flatten.toArray := by
    rw [if_neg (by simp [hv])]
    have : ∀ (m : Nat) (acc : Array Value), (List.replicate m vs.toArray).foldl (fun x1 x2 => x1 ++ x2) acc = acc ++ (List.replicate m vs).flatten.toArray := by
      intro m
      induction m with
      | zero => intro acc; simp
      | succ m ih => intro acc; rw [List.replicate_succ, List.foldl_cons, ih, List.replicate_succ, List.flatten_cons]; simp
    rw [this]; simp
  exact ⟨0, by rw [e]⟩

/-- the letters of a text -/
def letters (x : Str) : List Str := x.cps.toList.map fun c => ⟨#[c]⟩
theorem strsA2 {vs : List Value} {ss : List Str} (hl : vs.length = ss.length) (k : ∀ (i : Nat) (v : Value), vs[i]? = some v → ∃ x, ss[i]? = some x ∧ StrV v x) : A2 StrV vs ss := by
  induction vs generalizing ss with
  | nil => cases ss with
    | nil => exact .nil
    | cons _ _ => simp at hl
  | cons v vs ih => cases ss with
    | nil => simp at hl
    | cons x ss =>
      obtain ⟨y, e, hv⟩ := k 0 v rfl
      cases e
      exact .cons hv (ih (by simpa using hl) fun i v hv => k (i + 1) v hv)
theorem W_listStr {Q : Value → KH → OL → Prop} (hz : x.cps.size ≤ 100000) (h : ∀ a vs, A2 StrV vs (letters x) → Q (.ref a) K ((a, .list vs) :: O)) : W C n K O (call (.type "list") [.str x t]) Q := fun A hA s S =>
  call_list_str hA.handled x t (fun h' tk acc' c' hk hD hacc => ⟨K, _, S.new (x := .list acc'.toList) (size_none _) hk ⟨_, hD, c', rfl⟩, h _ _ (strsA2 (by simpa [letters] using hacc.1) fun i v hv => by
    obtain ⟨c, u, hc, rfl⟩ := hacc.2 i v (by simpa using hv)
    refine ⟨⟨#[c]⟩, ?_, u, rfl⟩
    unfold letters
    rw [List.getElem?_map, Array.getElem?_toList, hc]; rfl)⟩) (by rw [sizeLine_eq]; omega)

def joinS (l : List Str) : Str := ⟨(l.map fun x => x.cps.toList).flatten.toArray⟩
end
end
section
set_option linter.unusedVariables false
set_option linter.unusedSectionVars false
set_option maxRecDepth 100000
set_option maxHeartbeats 1000000
theorem joinS_eq (l : List Str) : Txt.join ⟨#[]⟩ l = joinS l := by
  have h : ∀ (r : List Str) (acc : Array Nat), r.foldl (fun acc p => acc ++ (⟨#[]⟩ : Str).cps ++ p.cps) acc = acc ++ (r.map fun x => x.cps.toList).flatten.toArray := by
    intro r
    induction r with
    | nil => intro acc; simp
    | cons x r ih =>
      intro acc
      rw [List.foldl_cons, ih]
      apply Array.toList_inj.mp
      simp
  cases l with
  | nil => rfl
  | cons x r =>
    show (⟨r.foldl (fun acc p => acc ++ (⟨#[]⟩ : Str).cps ++ p.cps) x.cps⟩ : Str) = _
    rw [h]
    apply str_ext
    simp [joinS]
theorem strVals : ∀ {vs : List Value} {ss : List Str}, A2 StrV vs ss → ∃ l, strValues l = vs ∧ l.map (·.1) = ss
  | _, _, .nil => ⟨[], rfl, rfl⟩
  | _, _, .cons (a := v) (b := x) ⟨t, e⟩ r => by
    obtain ⟨l, h1, h2⟩ := strVals r
    exact ⟨(x, t) :: l, by subst e; simp [strValues] at h1 ⊢; exact h1, by simp [h2]⟩
section
variable {C : WC} {n : Nat} {K : KH} {O O' : OL} {env : Env} {x y : Str} {pos : Pos} {t u : Tok} {l : Addr} {vs : List Value} {ss : List Str}
theorem W_join {Q : Value → KH → OL → Prop} (hl : LstAt C K O l vs) (hv : A2 StrV vs ss) (hz : ∀ x ∈ ss, x.cps.size ≤ 100) (hn : ss.length ≤ 10000) (h : ∀ t, Q (.str (joinS ss) t) K O) :
    W C n K O (call (.builtin "str.join") [.str ⟨#[]⟩ t, .ref l]) Q := fun A hA s S => by
  obtain ⟨l', h1, h2⟩ := strVals hv
  refine SC.join (l := l') (texts := ss) (by rw [h1]; exact hl s S) h2 ?_ fun t' k => ?_
  · unfold JoinOk
    rw [Bool.not_eq_true']
    have : ∀ (r : List Str) (acc : Nat), (∀ x ∈ r, x.cps.size ≤ 100) → r.foldl (fun (b : Nat) (x : Str) => b + x.length + (⟨#[]⟩ : Str).length) acc ≤ acc + 100 * r.length := by
      intro r
      induction r with
      | nil => intro acc _; simp
      | cons x r ih =>
        intro acc hx
        rw [List.foldl_cons]
        refine Nat.le_trans (ih _ fun y hy => hx y (.tail _ hy)) ?_
        have := hx x (.head _)
        simp [Str.length]; omega
    have h3 := this ss 0 hz
    have : sizeLine = 16777216 := rfl
    simp only [Builtin.Str.tooLong, decide_eq_false_iff_not, List.foldl_toArray]
    omega
  · rw [joinS_eq]
    exact ⟨K, O, S.toks, h _⟩

/- lists of texts -/
theorem strsCarried : ∀ {vs : List Value} {ss : List Str}, A2 StrV vs ss → CarriedAll vs (ss.map PyData.str)
  | _, _, .nil => .nil
  | _, _, .cons ⟨t, rfl⟩ r => .cons (.str _ t) (strsCarried r)
theorem strs_canLay : ∀ ns : List Str, (∀ x ∈ ns, PyData.canLay0 (.str x) = true) → PyData.canLayAll0 (ns.map PyData.str) = true
  | [], _ => rfl
  | x :: r, h => by
    have h1 := h x (.head _)
    have h2 := strs_canLay r fun y hy => h y (.tail _ hy)
    simp only [List.map_cons, PyData.canLayAll0, h1, h2, Bool.and_self]
theorem strs_depth : ∀ ns : List Str, PyData.depthAll (ns.map PyData.str) = 0
  | [] => rfl
  | _ :: r => by simp [PyData.depthAll, PyData.depth, strs_depth r]
theorem strs_same : ∀ ns ms : List Str, PySem.Spec.sameAll (ns.map PyData.str) (ms.map PyData.str) = decide (ns = ms)
  | [], [] => by simp [PySem.Spec.sameAll]
  | [], _ :: _ => by simp [PySem.Spec.sameAll]
  | _ :: _, [] => by simp [PySem.Spec.sameAll]
  | a :: r, b :: t => by
    simp only [List.map_cons, PySem.Spec.sameAll, PySem.Spec.same, strs_same r t]
    by_cases h : a = b <;> by_cases h' : r = t <;> simp [h, h']
theorem W_neStrs {l' : Addr} {ws : List Value} {ts : List Str} {Q : Value → KH → OL → Prop} (hn : n ≤ 390) (hl : LstAt C K O l vs) (hm : LstAt C K O l' ws) (hi : A2 StrV vs ss) (hj : A2 StrV ws ts) (o1 : ∀ x ∈ ss, PyData.strOk x = true) (o2 : ∀ x ∈ ts, PyData.strOk x = true)
    (h : Q (.bool (!decide (ss = ts))) K O) : W C n K O (compareOp .NotEq (.ref l) (.ref l')) Q := fun A hA s S => by
  have sh : ∀ ns : List Str, (∀ x ∈ ns, PyData.strOk x = true) → SeqAt.shaped (.list (ns.map PyData.str)) = true := fun ns ho => by
    simp [SeqAt.shaped, PyData.canLay0, PyData.depth, strs_depth]
    exact strs_canLay ns fun x hx => by simp [PyData.canLay0, ho x hx]
  refine ne_dataH_same (reads_newData (hl s S) (strsCarried hi)) (reads_newData (hm s S) (strsCarried hj)) (sh _ o1) (sh _ o2) (by have := hA.units; show A.units + 64 < 9900; omega)
    (SeqAt.noMix_of_shape (.list .str) rfl _ _ (list_map_has fun _ => rfl) (list_map_has fun _ => rfl)) ?_
  have e : PySem.Spec.same (.list (ss.map PyData.str)) (.list (ts.map PyData.str)) = decide (ss = ts) := by simp only [PySem.Spec.same]; exact strs_same _ _
  rw [e]
  exact ⟨K, O, S, h⟩

/- dicts with texts as keys -/
abbrev DictO (C : WC) (o : Obj) (kvs : List (Str × Value)) : Prop := o.IsDictOf (strKind C.prog C.w) kvs
theorem W_Dict0 {Q : Value → KH → OL → Prop} (hb : ∃ o, C.G.get? 28 = some o) (h : ∀ d o, d ≠ sysModules → DictO C o [] → Q (.ref d) K ((d, .ex o) :: O)) : W C n K O (eval (.Dict [] [] pos) env) Q := fun A hA s S =>
  wpAny_Dict_empty ⟨K, _, S.push (tk := s.toks) (dr := s.drawn) rfl rel_ex, h _ _ (by
    obtain ⟨o, ho⟩ := hb
    have := Heap.lt_size (S.base _ _ ho)
    have : (28 : Nat) < s.heap.objs.size := this
    show (s.heap.objs.size : Nat) ≠ (1 : Nat)
    omega) ⟨#[], 0, ⟨rfl, rfl, rfl⟩, rfl, fun _ he => by simp at he, Pairs.nil, List.nodup_nil⟩⟩
theorem W_setDict {d : Addr} {o : Obj} {kvs : List (Str × Value)} {v : Value} {O' : Obj → OL} {Q : Unit → KH → OL → Prop} (u : ∀ o', Upd O d (.ex o) (.ex o') (O' o')) (hd : DictO C o kvs) (hz : kvs.length ≤ 100000)
    (h : ∀ o', DictO C o' (stored kvs x v) → Q () K (O' o')) : W C n K O (setItem (.ref d) (.str x t) v) Q := fun A hA s S => by
  refine wpAny_setItem_pairs (knd := strKind C.prog C.w) (k := x) (by show Value.isStrOf x (.str x t) = true; simp [Value.isStrOf]) (Heap.dictOf_iff.mpr ⟨o, At.ex (S.own _ (u o).mem), hd⟩) (fun h' hm hs => ?_) (by rw [sizeLine_eq]; omega)
  obtain ⟨o', ho', hd'⟩ := Heap.dictOf_iff.mp hm
  exact ⟨K, _, S.upd (u o') hs.extBut (At.ex_of ho'), h o' hd'⟩
theorem W_getDict {d : Addr} {o : Obj} {kvs : List (Str × Value)} {v : Value} {Q : Value → KH → OL → Prop} (hh : Has C K O d (.ex o)) (hd : DictO C o kvs) (hv : valueAt kvs x = some v) (h : Q v K O) :
    W C n K O (getItem (.ref d) (.str x t)) Q := fun A hA s S =>
  wpAny_getItem_of (knd := strKind C.prog C.w) (k := x) (by show Value.isStrOf x (.str x t) = true; simp [Value.isStrOf]) (Heap.dictOf_iff.mpr ⟨o, At.ex (S.has hh), hd⟩).mapOf hv ⟨K, O, S.toks, h⟩
theorem sub_dict {d : Addr} {o : Obj} {kvs : List (Str × Value)} {i : Value} {Q : Value → KH → OL → Prop} (hh : Has C K O d (.ex o)) (hd : DictO C o kvs) (h : W C n K O (getItem (.ref d) i) Q) :
    SubK C n Q (.ref d) i K O :=
  ⟨"dict", _, fun s S => (Heap.dictOf_iff (knd := strKind C.prog C.w).mpr ⟨o, At.ex (S.has hh), hd⟩).typeIs, slot_dict_getitem.lookup, h⟩
theorem W_listDict {d : Addr} {o : Obj} {kvs : List (Str × Value)} {Q : Value → KH → OL → Prop} (lo : d ≠ sysModules) (hh : Has C K O d (.ex o)) (hd : DictO C o kvs) (hz : kvs.length ≤ 100000)
    (h : ∀ a ws, A2 StrV ws (kvs.map (·.1)) → Q (.ref a) K ((a, .list ws) :: O)) : W C n K O (call (.type "list") [.ref d]) Q := fun A hA s S => by
  obtain ⟨ep, hm⟩ := (Heap.dictOf_iff (knd := strKind C.prog C.w).mpr ⟨o, At.ex (S.has hh), hd⟩).dictAt
  refine kdl_call (kdl_dict (by simpa using lo)) hA.handled hm (by rw [sizeLine_eq]; omega) fun h' tk acc' c' hk hD hacc => ⟨K, _, S.new (x := .list acc'.toList) (size_none _) hk ⟨_, hD, c', rfl⟩, h _ _ (strsA2 (by simpa using hacc.1) fun i v hv => ?_)⟩
  obtain ⟨k, z, hkv, hs⟩ := hacc.2 i v (by simpa using hv)
  obtain ⟨u, rfl⟩ := Value.isStrOf_shape hs
  exact ⟨k, by rw [List.getElem?_map, hkv]; rfl, u, rfl⟩

/- more expressions -/
theorem W_IfExp {test body orelse : Expr} {Q : Value → KH → OL → Prop} (h : W C n K O (isTrue test env (eval test env)) fun b K O => if b then W C n K O (eval body env) Q else W C n K O (eval orelse env) Q) :
    W C n K O (eval (.IfExp test body orelse pos) env) Q := W_eq (arm_eval_IfExp ..) (W_bind (W_mono h fun b K O h => by cases b <;> exact h))
theorem W_isNotRN {a : Addr} {Q : Value → KH → OL → Prop} (h : Q (.bool true) K O) : W C n K O (compareOp .IsNot (.ref a) .none) Q := fun A hA s S => wpAny_isNot_other rfl nofun ⟨K, O, S, h⟩
end
end
section
open PySem PySem.W PySem.Calls PyProof.Rows Builtin Builtin.ObjectAttr
set_option linter.unusedVariables false
set_option linter.unusedSectionVars false
set_option maxRecDepth 100000
set_option maxHeartbeats 1000000

theorem look_of {o : Obj} {es : Array DictEntry} {ep : Nat} {m : Str → Option Value} (hd : o.data = .dict es ep) (hk : StrKeys es) (hf : ∀ name, nsFind es name = m name) (name : Str) : lookIn name o = some (m name) := by
  unfold lookIn
  rw [hd]
  dsimp only
  have h := hf name
  unfold nsFind findBy at h
  rw [← Array.find?_toList] at h
  cases e : es.toList.find? (·.key.isStr name) with
  | some x => rw [e] at h; exact congrArg some h
  | none =>
    rw [e] at h
    have : es.toList.any (·.refKey) = false := by
      rw [List.any_eq_false]
      intro x hx
      obtain ⟨n, t, hn⟩ := hk x (by simpa using hx)
      simp [DictEntry.refKey, hn]
    dsimp only
    rw [this]
    exact congrArg some h

/-- a dict of names, of k entries at most -/
def NsK (o : Obj) (m : Str → Option Value) (k : Nat) : Prop := ∃ es ep, o.data = .dict es ep ∧ StrKeys es ∧ (∀ name, nsFind es name = m name) ∧ es.size ≤ k
theorem NsK.look {o : Obj} {m : Str → Option Value} {k : Nat} (h : NsK o m k) (name : Str) : lookIn name o = some (m name) := by
  obtain ⟨es, ep, hd, hk, hf, _⟩ := h
  exact look_of hd hk hf name
theorem nsK_new : NsK emptyDict nom 0 := ⟨#[], 0, rfl, fun _ he => by simp at he, fun _ => rfl, Nat.le_refl _⟩
theorem NsK.put {o : Obj} {m : Str → Option Value} {k : Nat} (h : NsK o m k) (name : Str) (hash : Int) (t : Tok) (v : Value) : NsK (Obj.putName name hash (.str name t) v o) (setm m name v) (k + 1) := by
  obtain ⟨es, ep, hd, hk, hm, hz⟩ := h
  obtain ⟨c, d, dt, sl⟩ := o
  subst hd
  cases hi : es.findIdx? (·.key.isStr name) with
  | some i =>
    refine ⟨_, ep, by simp only [Obj.putName_eq, Obj.putNameByArray, hi]; rfl, hk.modify _ _, fun x => ?_, by simp; omega⟩
    show _ = if x = name then some v else m x
    rw [← hm]; exact findBy_modify (fun n v => v.isStr n) Value.isStr_inj es name x v i hi
  | none =>
    refine ⟨_, ep + 1, by simp only [Obj.putName_eq, Obj.putNameByArray, hi]; rfl, hk.push _ _ _ _, fun x => ?_, by simp; omega⟩
    show _ = if x = name then some v else m x
    rw [← hm]
    exact findBy_push (fun n v => v.isStr n) es name x _ _ v (fun y => by
      show (name == y) = decide (y = name)
      by_cases h : y = name
      · subst h; simp
      · rw [decide_eq_false h]; exact beq_eq_false_iff_ne.mpr fun e => h e.symm) hi
theorem NsK.free {o : Obj} {m : Str → Option Value} {k : Nat} (h : NsK o m k) : o.isFreed = false := by
  obtain ⟨es, ep, hd, _⟩ := h
  exact Obj.isFreed_of_dict hd
theorem wpAny_nsSetK {M : Model} {A : Around} {E : Value → Shared → Prop} {s : Shared} {a : Addr} {o : Obj} {m : Str → Option Value} {k : Nat} {name : Str} {v : Value} {Q : Unit → Shared → Prop} (ho : s.heap.get? a = some o) (hn : NsK o m k)
    (h : ∀ o' h', NsK o' (setm m name v) (k + 1) → h'.get? a = some o' → Heap.SameBut a s.heap h' → Q () { s with heap := h', toks := s.toks + 1 }) : wpAny M A (nsSet a name v) Q E s := fun Γ p _ => by
  obtain ⟨es, ep, hd, hk, hm, hz⟩ := id hn
  simp only [nsSet, strHash, Sem.wp_bind', Sem.wp_cmd_ask, Sem.wp_pure', Sem.wp_cmd_mkText]
  rw [Sem.wp_loadPart_of M Γ _ p { s with toks := s.toks + 1 } (o := o) _ ho]
  have hany : es.any (·.refKey) = false := by
    rw [Array.any_eq_false']; intro e he; obtain ⟨n, t, h⟩ := hk e he; simp [DictEntry.refKey, h]
  simp only [hd, aRefKeyMayBeTheName_at, hany, Bool.and_false, Bool.false_eq_true, if_false, Sem.wp_cmd_updatePart]
  exact ⟨by rw [ho]; rfl, h _ _ (hn.put name _ _ v) (Heap.get?_update_self _ ho (hn.put name _ _ v).free) (Heap.SameBut.update ..)⟩

/-- what a class says of a name -/
def attrOwn (K : Frag) (c : Addr) (name : Str) : Bool := (clsIn K c).any (·.hasDict) && (match findIn K (.ref c) name with
  | some none => true
  | some (some a) => specialIn K a "__get__" == some none
  | none => false)
def attrCls (K : Frag) (c : Addr) (name : Str) (a : Value) : Bool := (clsIn K c).any (·.hasDict) && findIn K (.ref c) name == some (some a) && specialIn K a "__get__" == some none && handedIn a && !copiedNames.contains name
theorem find_own {K : Frag} {c : Addr} {name : Str} {od : Obj} {v : Value} (h : attrOwn K c name = true) (hl : lookIn name od = some (some v)) : findObj K c (some od) name = some (.value v) := by
  unfold attrOwn at h
  obtain ⟨h1, h2⟩ := Bool.and_eq_true_iff.mp h
  obtain ⟨cd, hcd, hh⟩ := any_some h1
  have ho : PySem.W.ownOf cd (some od) name = some (some v) := by unfold PySem.W.ownOf; rw [if_pos hh]; exact hl
  unfold findObj
  rw [hcd, Option.bind_some]
  split at h2
  · rename_i e
    rw [e]
    simp only [Option.bind_some]
    rw [ho]; rfl
  · rename_i a e
    rw [e]
    simp only [Option.bind_some]
    rw [beq_iff_eq.mp h2]
    simp only [Option.bind_some]
    rw [ho]; rfl
  · cases h2
theorem find_cls {K : Frag} {c : Addr} {name : Str} {od : Obj} {a : Value} (h : attrCls K c name a = true) (hl : lookIn name od = some none) : findObj K c (some od) name = some (.value a) := by
  unfold attrCls at h
  simp only [Bool.and_eq_true, Bool.not_eq_true', beq_iff_eq] at h
  obtain ⟨⟨⟨⟨h1, h2⟩, h3⟩, h4⟩, h5⟩ := h
  obtain ⟨cd, hcd, hh⟩ := any_some h1
  have ho : PySem.W.ownOf cd (some od) name = some none := by unfold PySem.W.ownOf; rw [if_pos hh]; exact hl
  unfold findObj
  rw [hcd, Option.bind_some, h2, Option.bind_some]
  simp only [h3, Option.bind_some, ho]
  rw [h5]
  simp [h4]

section
variable {C : WC} {n : Nat} {K : KH} {O O' : OL} {env : Env} {x y : Str} {pos : Pos} {mg mb : Str → Option Value}

/-- an object of a class -/
def InsAt (C : WC) (K : KH) (O : OL) (a dx c : Addr) (m : Str → Option Value) : Prop := Has C K O a (.ex (instObj c dx)) ∧ ∃ o k, Has C K O dx (.ex o) ∧ NsK o m k
theorem InsAt.get {a dx c : Addr} {m : Str → Option Value} (h : InsAt C K O a dx c m) {s : Shared} (S : Sat C K O s) : ∃ od, InstAt s.heap a (instObj c dx) c (some od) ∧ ∀ name, lookIn name od = some (m name) := by
  have h1 := At.ex (S.has h.1)
  obtain ⟨_, od, k, h2, hk⟩ := h
  exact ⟨od, ⟨h1, rfl, rfl, At.ex (S.has h2)⟩, hk.look⟩

theorem WCd_callFn {a : Addr} {fd : FuncData} {body : List Stmt} {ps : List Value} {kw : List (Str × Value)} {binds : List (Str × Value)} {R : Flow → KH → OL → Prop} (hn : n ≤ 390)
    (hf : FnAt C K O a fd) (hlim : C.G.NoLimit) (hcd : ∀ s, Sat C K O s → s.heap.CodeRec fd.code fd.qualname) (hbody : fd.body = .stmts body)
    (hbind : ∀ s, Sat C K O s → BindsTo s fd ⟨ps, kw⟩ binds)
    (h : ∀ L, LayC fd.scope.names fd.closure ((L, .ns nom) :: O) fun cells O' => W C (n + 1) K O' (storeBinds (fnEnv fd a L cells) binds) (K0 C (n + 1) (execs body (fnEnv fd a L cells)) (RetK (RetQ R))))
    (hco : fd.scope.isCoroutine = false := by rfl) (hgen : fd.scope.isGenerator = false := by rfl) : WCd C n K O (.call (.ref a) ⟨ps, kw⟩) R := fun A hA s S => by
  obtain ⟨o, ho, hd⟩ := hf s S
  refine codeAny_call_function (hA.room (by omega)) ho hd hco hgen hbody (hcd s S) ?_
  refine hbind s S _ _ _ _ ?_
  refine W.to (n := n + 1) (Q := fun env K' O' => WCd C n K' O' (.func body env) R) (W_newEnv (Q := fun env K' O' => WCd C n K' O' (.func body env) R) fun L => ?_) hA.in1 S fun env s' K' O' S' q => ?_
  · refine W_newEnv.layC_mono (h L) fun cells O' hw => W_mono hw fun _ K' O' hw => WCd_func (W_weak (W_mono hw fun f K' O' hq => ?_))
    obtain ⟨O₂, hs, q⟩ := hq
    exact ⟨O₂, hs, by cases f <;> exact q⟩
  · exact ⟨hlim.keeps S'.base, codeAny_mono (q A hA s' S') fun r s' hr => by cases r with
      | error e => exact hr.elim
      | ok f => exact hr⟩

theorem tc_under {A : Around} {c : Addr} {rest : List Value} {kw : List (Str × Value)} (hA : AOk n A) : AOk (n + 1) (A.under (.builtin "type.__call__" ⟨.ref c :: rest, kw⟩)) := by
  have h1 : (Code.builtin "type.__call__" ⟨.ref c :: rest, kw⟩).weight = 1 := by kernel_rfl
  have h2 : (Code.builtin "type.__call__" ⟨.ref c :: rest, kw⟩).cUnits = 1 := by kernel_rfl
  refine ⟨hA.handled, ?_, ?_, ?_⟩
  · show A.depth + _ ≤ _; rw [h1]; have := hA.depth; omega
  · show A.units + _ ≤ _; rw [h2]; have := hA.units; omega
  · show pushGuards (Code.builtin "type.__call__" ⟨.ref c :: rest, kw⟩).guards A.guards = _
    rw [hA.guards]; kernel_rfl

/-- a class of the top is called; its __init__ is a def -/
theorem W_make (w : Wd C mg mb) {c fI : Addr} {rest : List Value} {Q : Value → KH → OL → Prop} (hm : makesIn (hd.heap_1 C.w.params) c = true)
    (hi : findIn (hd.heap_1 C.w.params) (.ref c) "__init__" = some (some (.ref fI))) (hf : typeIn (hd.heap_1 C.w.params) (.ref fI) = some (.type "function"))
    (h : ∀ a dx o, NsK o nom 0 → WCd C (n + 1) K ((a, .ex (instObj c dx)) :: (dx, .ex o) :: O) (.call (.ref fI) ⟨.ref a :: rest, []⟩) fun f K' O' => f = .ret .none ∧ Q (.ref a) K' O') : W C n K O (call (.ref c) rest []) Q := fun A hA s S => by
  obtain ⟨hh, g, d, t, os⟩ := s
  have X : (hd.heap_1 C.w.params).In hh := w.k.keeps S.base
  refine wpAny_call ?_
  have h0 := S.push (o := emptyDict) (x := .ex emptyDict) (tk := t) (dr := d) rfl rel_ex
  have h1 := h0.push (o := instObj c hh.objs.size) (x := .ex (instObj c hh.objs.size)) (tk := t) (dr := d) rfl rel_ex
  rw [show ({ heap := hh.push emptyDict, gens := g, drawn := d, toks := t, os := os } : Shared).heap.objs.size = hh.objs.size + 1 from Heap.size_push ..] at h1
  refine make_core (makes_of X hm) (looks_findIn X hi) (fun self => bind_fn X self hf) (.inl rfl) ?_
  refine codeAny_mono (h _ _ _ nsK_new _ (tc_under hA) _ h1) fun r s' hr => ?_
  cases r with
  | error e => exact hr.elim
  | ok f =>
    obtain ⟨K', O', S', rfl, q⟩ := hr
    exact ⟨rfl, K', O', S', q⟩

/- attributes -/
abbrev AttK (C : WC) (n : Nat) (x : Str) (Q : Value → KH → OL → Prop) (o : Value) (K : KH) (O : OL) : Prop := W C n K O (getAttr o x true) Q
abbrev SatK (C : WC) (n : Nat) (x : Str) (v : Value) (Q : Unit → KH → OL → Prop) (o : Value) (K : KH) (O : OL) : Prop := W C n K O (setAttr o x v) Q
theorem W_Attribute {e : Expr} {Q : Value → KH → OL → Prop} (h : W C n K O (eval e env) (AttK C n x Q))
    (hbase : attributeBase e x env (eval e env) = eval e env := by rfl) : W C n K O (eval (.Attribute e x pos) env) Q := by
  refine W_eq (arm_eval_Attribute ..) ?_
  rw [hbase]
  exact W_bind (W_mono h fun o K O h => W_bind (W_standAt (W_bind (W_holding (W_mono h fun r K O h => W_bind (W_letTemp (W_pure h)))))))
theorem W_getOwn (w : Wd C mg mb) {a dx c : Addr} {m : Str → Option Value} {v : Value} {ex : Bool} {Q : Value → KH → OL → Prop} (hi : InsAt C K O a dx c m) (hv : m x = some v)
    (hga : findIn (hd.heap_1 C.w.params) (.ref c) "__getattribute__" = some (some (.builtin "object.__getattribute__"))) (ho : attrOwn (hd.heap_1 C.w.params) c x = true) (hh : handedIn v = true) (h : Q v K O) :
    W C n K O (getAttr (.ref a) x ex) Q := fun A hA s S => by
  obtain ⟨od, I, hl⟩ := hi.get S
  exact get_value (w.k.keeps S.base) I hga (find_own ho (by rw [hl, hv])) hh ⟨K, O, S.toks, h⟩
theorem W_getOfCls (w : Wd C mg mb) {a dx c : Addr} {m : Str → Option Value} {v : Value} {ex : Bool} {Q : Value → KH → OL → Prop} (hi : InsAt C K O a dx c m) (hv : m x = none)
    (hga : findIn (hd.heap_1 C.w.params) (.ref c) "__getattribute__" = some (some (.builtin "object.__getattribute__"))) (ho : attrCls (hd.heap_1 C.w.params) c x v = true) (h : Q v K O) :
    W C n K O (getAttr (.ref a) x ex) Q := fun A hA s S => by
  obtain ⟨od, I, hl⟩ := hi.get S
  have hh : handedIn v = true := by
    unfold attrCls at ho
    simp only [Bool.and_eq_true] at ho
    exact ho.1.2
  exact get_value (w.k.keeps S.base) I hga (find_cls ho (by rw [hl, hv])) hh ⟨K, O, S.toks, h⟩
theorem W_getCls (w : Wd C mg mb) {c : Addr} {v : Value} {ex : Bool} {Q : Value → KH → OL → Prop} (hr : readsIn (hd.heap_1 C.w.params) c (.type "type") = true)
    (e : findCls (hd.heap_1 C.w.params) (.ref c) (.type "type") x = some (.val v)) (hh : handedIn v = true) (h : Q v K O) : W C n K O (getAttr (.ref c) x ex) Q := fun A hA s S =>
  cls_value (w.k.keeps S.base) hr e hh ⟨K, O, S.toks, h⟩
theorem W_setAttr (w : Wd C mg mb) {a dx c : Addr} {o : Obj} {m : Str → Option Value} {k : Nat} {v : Value} {O' : Obj → OL} {Q : Unit → KH → OL → Prop} (hx : Has C K O a (.ex (instObj c dx))) (hn : NsK o m k) (hk : k ≤ 1000) (u : ∀ o', Upd O dx (.ex o) (.ex o') (O' o'))
    (hs : findIn (hd.heap_1 C.w.params) (.ref c) "__setattr__" = some (some (.builtin "object.__setattr__"))) (hp : plainOver (hd.heap_1 C.w.params) c = true)
    (ht : takerIn (hd.heap_1 C.w.params) c x = some none) (hh : (clsIn (hd.heap_1 C.w.params) c).any (·.hasDict) = true) (h : ∀ o', NsK o' (setm m x v) (k + 1) → Q () K (O' o')) : W C n K O (setAttr (.ref a) x v) Q := fun A hA s S => by
  obtain ⟨hp0, g, d, t, os⟩ := s
  have X : (hd.heap_1 C.w.params).In hp0 := w.k.keeps S.base
  obtain ⟨od, I, hl⟩ := InsAt.get (C := C) (K := K) (O := O) ⟨hx, o, k, .inr (.inl (u o).mem), hn⟩ S
  have ho := At.ex (S.own _ (u o).mem)
  have hat := At.ex (S.has hx)
  refine set_plain X I hs (osa_open (s := (⟨hp0, g, d, t + 1, os⟩ : Shared)) X I hp ht fun b => ?_)
  obtain ⟨cd, hc, hd'⟩ := any_some hh
  refine wpAny_bind (wpAny_pure (wpAny_bind (wpAny_bind (wpAny_loadPart (s := (⟨hp0, g, d, t + 1, os⟩ : Shared)) hat (wpAny_bind ((looks_clsIn X hc).at ?_))))))
  rw [hd']
  refine wpAny_pure (a := some dx) (wpAny_bind (wpAny_pure (wpAny_bind ?_)))
  refine wpAny_nsSetK (s := (⟨hp0, g, d, t + 1, os⟩ : Shared)) ho hn fun o' h' hn' ho' hs' => ?_
  obtain ⟨es, ep, hd2, _, _, hz⟩ := id hn'
  refine wpAny_bind (wpAny_lookBehind ho' (by rw [hd2]; exact pastItsLine_dict (by rw [sizeLine_eq]; omega)) (wpAny_pure ?_))
  show ∃ K' O', Sat C K' O' _ ∧ Q () K' O'
  exact ⟨K, _, S.upd (u o') hs'.extBut (At.ex_of ho'), h o' hn'⟩
theorem W_assignAttr {e : Expr} {v : Value} {Q : Unit → KH → OL → Prop} (h : W C n K O (eval e env) (SatK C n x v Q)) : W C n K O (assign (.Attribute e x pos) env v) Q := by
  refine W_eq (arm_assign_Attribute ..) (W_bind (W_holding (W_mono h fun o K O h => W_bind (W_standAt (W_bind (W_holding (W_mono h fun _ K O h => W_release h)))))))
theorem W_AssignAttr {e value : Expr} {p' : Pos} {Q : Flow → KH → OL → Prop} (h : W C n K O (eval value env) (K1 C n (assign (.Attribute e x p') env) (NQ Q)))
    (hs : swapsWith value (some (.Attribute e x p')) pos.line env = pure false := by rfl) : W C n K O (exec (.Assign [.Attribute e x p'] value pos) env) Q :=
  W_eq (plainObj_exec_Assign_Attribute _ _ _ _ _ hs) (W_bind (W_standAt (W_bind (W_mono h fun v K O h => W_bind (W_mono h fun _ K O h => W_pure h)))))

/- methods of such an object -/
theorem W_CallSelf (w : Wd C mg mb) {e : Expr} {name : Str} {apos : Pos} {args : List Expr} {c f : Addr} {fd : FuncData} {Q : Value → KH → OL → Prop}
    (hga : findIn (hd.heap_1 C.w.params) (.ref c) "__getattribute__" = some (some (.builtin "object.__getattribute__"))) (hk : findIn (hd.heap_1 C.w.params) (.ref c) "__getattr__" = some none)
    (hf : findIn (hd.heap_1 C.w.params) (.ref c) name = some (some (.ref f))) (ht : typeIn (hd.heap_1 C.w.params) (.ref f) = some (.type "function"))
    (h : W C n K O (eval e env) fun ov K O => ∃ a dx m, ov = .ref a ∧ InsAt C K O a dx c m ∧ m name = none ∧
      W C n K O (evalArgs (.ref f) true (backTo pos (starEach args env)) []) fun z K O => FnAt C K O f fd ∧ W C n K O (call (.ref f) (.ref a :: z.pos) z.kw) Q)
    (hbase : attributeBase e name env (eval e env) = eval e env := by rfl)
    (hfew : ((backTo pos (starEach args env)).all (fun x => !x.1) && (backToKw pos (keywordEach [] env)).all (fun x => x.1.isSome)
      && decide (args.length + ([] : List Keyword).length + (if ([] : List Keyword).isEmpty then 0 else 1) < 30)) = true := by rfl)
    (hline : (apos.endLine == pos.line) = true := by rfl) : W C n K O (eval (.Call (.Attribute e name apos) args [] pos) env) Q := fun A hA s S => by
  rw [arm_eval_Call, hbase]
  refine wpAny_bind (h.to hA S fun ov s₁ K₁ O₁ S₁ q => ?_)
  obtain ⟨a, dx, m, rfl, hi, hm, hw⟩ := q
  obtain ⟨od, I, hl⟩ := hi.get S₁
  have hform : methodCallForm (args.length + ([] : List Keyword).length) (backTo pos (starEach args env)) (backToKw pos (keywordEach [] env)) = true := hfew
  have hpos : methodCallPos true e env apos pos = pure pos := by unfold methodCallPos; simp [hline]
  refine wpAny_bind (wpAny_standAt ?_)
  unfold methodCall
  rw [hform]
  refine wpAny_bind (wpAny_holding (method_fn (w.k.keeps S₁.base) I hga hk hf ht (by unfold shadowIn; dsimp only; rw [hl, hm]; rfl) ?_))
  exact wpAny_bind (wpAny_of_eq hpos (W_callWithFn (first := [.ref a]) (fd := fd) hw A hA s₁ S₁))
/-- a function that lies in such an object is called -/
theorem W_CallHeld (w : Wd C mg mb) {e : Expr} {name : Str} {apos : Pos} {c : Addr} {Q : Value → KH → OL → Prop}
    (hga : findIn (hd.heap_1 C.w.params) (.ref c) "__getattribute__" = some (some (.builtin "object.__getattribute__"))) (hk : findIn (hd.heap_1 C.w.params) (.ref c) "__getattr__" = some none)
    (hf : findIn (hd.heap_1 C.w.params) (.ref c) name = some none) (ho : attrOwn (hd.heap_1 C.w.params) c name = true)
    (h : W C n K O (eval e env) fun ov K O => ∃ a dx m f fd, ov = .ref a ∧ InsAt C K O a dx c m ∧ m name = some (.ref f) ∧ FnAt C K O f fd ∧ W C n K O (call (.ref f) [] []) Q)
    (hbase : attributeBase e name env (eval e env) = eval e env := by rfl)
    (hline : (apos.endLine == pos.line) = true := by rfl) : W C n K O (eval (.Call (.Attribute e name apos) [] [] pos) env) Q := fun A hA s S => by
  rw [arm_eval_Call, hbase]
  refine wpAny_bind (h.to hA S fun ov s₁ K₁ O₁ S₁ q => ?_)
  obtain ⟨a, dx, m, f, fd, rfl, hi, hm, hfn, hw⟩ := q
  obtain ⟨od, I, hl⟩ := hi.get S₁
  have hform : methodCallForm (([] : List Expr).length + ([] : List Keyword).length) (backTo pos (starEach [] env)) (backToKw pos (keywordEach [] env)) = true := rfl
  have hpos : methodCallPos true e env apos pos = pure pos := by unfold methodCallPos; simp [hline]
  refine wpAny_bind (wpAny_standAt ?_)
  unfold methodCall
  rw [hform]
  have hget : W C n K₁ O₁ (getAttr (.ref a) name) fun v K O => v = .ref f ∧ K = K₁ ∧ O = O₁ := W_getOwn w hi hm hga ho rfl ⟨rfl, rfl, rfl⟩
  refine wpAny_bind (wpAny_holding (method_usual (w.k.keeps S₁.base) I hga hk hf rfl (hget.to hA S₁ fun v s₂ K₂ O₂ S₂ q => ?_)))
  obtain ⟨rfl, rfl, rfl⟩ := q
  exact wpAny_bind (wpAny_of_eq hpos (W_callF0 hfn hw A hA s₂ S₂))

/- two names swapped -/
theorem W_AssignSwap {elts : List Expr} {value : Expr} {kt : Nat} {pt : Pos} {names : List Str} {Q : Flow → KH → OL → Prop}
    (h : W C n K O (eval value env) fun v K O => ∃ t vs, v = .ref t ∧ Has C K O t (.tup vs) ∧ names.length = vs.length ∧ W C n K O (assignInOrder (names.reverse.map fun n => bindName env n) vs.reverse) fun _ K O => Q .next K O)
    (hs : swapsWithSole [.Tuple elts kt pt] value pos.line env = pure false := by rfl)
    (hw : swappedStores [.Tuple elts kt pt] value env = pure (some names) := by rfl) : W C n K O (exec (.Assign [.Tuple elts kt pt] value pos) env) Q := fun A hA s S =>
  Assign_Tuple_swapped (h.to hA S fun v s₁ K₁ O₁ S₁ q => by
    obtain ⟨t, vs, rfl, hh, hn, hw⟩ := q
    have hx := At.tup (S₁.has hh)
    have hl : names.length = vs.toArray.size := by rw [List.size_toArray]; exact hn
    rw [hl]
    exact unpackItems_tuple hA.handled hx fun h' he => by
      have := hw A hA { s₁ with heap := h' } (S₁.grow fun b o e => he b o (Nat.ne_of_lt (Heap.lt_size e)) e)
      simpa using this) hs hw
end
end
section
set_option linter.unusedVariables false
set_option linter.unusedSectionVars false
set_option maxRecDepth 100000
theorem Upd.app {O O' : OL} {a : Addr} {x y : AO} (u : Upd O a x y O') : ∀ X : OL, Upd (X ++ O) a x y (X ++ O')
  | [] => u
  | p :: X => .there (u.app X)
section
variable {α β : Type} {C : WC} {n : Nat} {K : KH} {O O' : OL} {env : Env} {pos : Pos}
/-- what a turn gives, with some things of the frame beside -/
def TurnX (J : KH → List Value → Prop) (XL : OL → Prop) (it : Addr) (st : AO) (L D : Addr) (ws : List Value) (O : OL) (r : Value) (K' : KH) (O' : OL) : Prop :=
  ∃ m X, XL X ∧ ((it, st) :: (X ++ (L, .ns m) :: (D, .list ws) :: O)).Sublist O' ∧ J K' (ws ++ [r])

inductive ListG (C : WC) (n : Nat) (env : Env) (elt target : Expr) (scope : Scope) (XL : OL → List (Str × Addr) → Prop) (P : Addr → Addr → KH → OL → Prop) (x : Value) (K : KH) (O : OL) : Prop
  | mk (l : Addr) (vs : List Value) (hx : x = .ref l) (hl : LstAt C K O l vs) (hN : vs.length ≤ 1000000)
    (hown : ∀ it i K O Q v, v ∈ vs → (it, lit l i) ∈ O → Q () K O → W C n K O (letOwnedTupleGo target (.ref it) v) Q)
    (J : Nat → KH → List Value → Prop) (h0 : J 0 K [])
    (hL : ∀ D L X it j K' st m ws, J j K' ws → LstAt C K' ((it, st) :: (X ++ (L, .ns m) :: (D, .list ws) :: O)) l vs)
    (turn : ∀ D L X cells it j K' st m ws v, XL X cells → vs[j]? = some v → J j K' ws → W C n K' ((it, st) :: (X ++ (L, .ns m) :: (D, .list ws) :: O)) (assign target (cEnv scope env L cells) v) fun _ K' O' =>
        W C n K' O' (eval elt (cEnv scope env L cells)) fun r K' O' => TurnX (J (j + 1)) (fun X => XL X cells) it st L D ws O r K' O')
    (done : ∀ D L X cells m K' ws, XL X cells → J vs.length K' ws → P D L K' (X ++ (L, .ns m) :: (D, .list ws) :: O))
/-- a comprehension over a list, whatever its target; the frame may hold cells -/
theorem comp_listG {elt iter target : Expr} {scope : Scope} {cl : List (Str × Addr)} {P : Addr → Addr → KH → OL → Prop} (XL : OL → List (Str × Addr) → Prop)
    (hlay : ∀ O P, (∀ X cells, XL X cells → P cells (X ++ O)) → LayC scope.names cl O P)
    (h : W C n K O (eval iter env) (ListG C n env elt target scope XL P)) :
    W C n K O (eval iter env) fun x K O => W C n K O (pyIter x) fun it K O => ∀ D L, LayC scope.names cl ((L, .ns nom) :: (D, .list []) :: O) fun cells O' =>
      WCd C n K O' (.compStart (.ListComp elt [⟨target, iter, [], 0⟩] scope pos) 0 it (.ref D) (cEnv scope env L cells)) fun _ K' O' => P D L K' O' := by
  refine W_mono h fun x K O hx => ?_
  obtain ⟨l, vs, rfl, hl, hz, hown, J, h0, hL, turn, done⟩ := hx
  refine W_iterList hl fun it D L => hlay _ _ fun X cells hX => ?_
  refine WCd_perm (O' := (it, lit l 0) :: (X ++ (L, .ns nom) :: (D, .list []) :: O)) ?_ ?_
  · exact ((List.Perm.append_left X (List.perm_middle (l₁ := [(L, .ns nom), (D, .list [])]))).trans List.perm_middle).symm
  refine WCd_startL rfl rfl (.head _) ?_
  refine WCd_compLoop (fun q K₁ O₁ => ∃ i m ws X, XL X cells ∧ q = vs.length - i ∧ i ≤ vs.length ∧ ws.length ≤ i ∧ ((it, lit l i) :: (X ++ (L, .ns m) :: (D, .list ws) :: O)).Sublist O₁ ∧ J i K₁ ws) ?_ vs.length ⟨0, nom, [], X, hX, rfl, Nat.zero_le _, Nat.le_refl _, List.Sublist.refl _, h0⟩
  rintro q K₁ O₁ ⟨i, m, ws, X, hX, rfl, hi, hz2, hs, hJ⟩
  refine W_sub hs ?_
  rcases Nat.lt_or_ge i vs.length with hlt | hge
  · have hx := List.getElem?_eq_getElem hlt
    refine W_nextList .here (hL D L X it i K₁ _ m ws hJ) hx ?_
    refine hown it (i + 1) _ _ _ _ (List.getElem_mem hlt) (.head _) ?_
    refine W_mono (turn D L X cells it i K₁ _ m ws _ hX hx hJ) fun _ K₂ O₂ hw => ?_
    rw [List.forIn_nil]
    refine W_pure ?_
    rw [if_pos rfl]
    refine W_mono hw fun r K₃ O₃ hw => ?_
    obtain ⟨m', X', hX', hs', hJ'⟩ := hw
    refine W_sub hs' (W_append (.there (Upd.app (.there .here) X')) (by rw [sizeLine_eq]; omega) ?_)
    exact ⟨vs.length - (i + 1), by omega, i + 1, m', _, X', hX', rfl, hlt, by simp; omega, List.Sublist.refl _, hJ'⟩
  · have : i = vs.length := by omega
    subst this
    exact W_nextListEnd .here (hL D L X it _ K₁ _ m ws hJ) (by simp) (done D L X cells m K₁ ws hX hJ)

inductive RR (C : WC) (n : Nat) (env : Env) (elt i2 : Expr) (x y : Str) (scope : Scope) (cl : List (Str × Addr)) (P : Addr → Addr → KH → OL → Prop) (v : Value) (K : KH) (O₁ : OL) : Prop
  | mk (r : Addr) (t₁ t₂ t₃ : Tok) (b : Int) (N : Nat) (M : Nat → Nat) (O : OL) (hv : v = .ref r) (hd : Del O₁ r (rng 0 b 1 t₁ t₂ t₃) O) (hb : b = (N : Nat)) (hN : N ≤ 1000) (hM : ∀ i, M i ≤ 1000)
    (J : Nat → Nat → List Value → Prop) (j0 : J 0 0 [])
    (jz : ∀ i j ws, J i j ws → ws.length ≤ 100000)
    (jn : ∀ i ws, i < N → J i (M i) ws → J (i + 1) 0 ws)
    (it2 : ∀ D L it i st m ws t Q, i < N → (∀ (r : Addr) (b : Int) (t₁ t₂ t₃ : Tok), b = (M i : Nat) → Q (.ref r) K ((r, rng 0 b 1 t₁ t₂ t₃) :: (it, st) :: (L, .ns (setm m x (.int i t))) :: (D, .list ws) :: O)) → W C n K ((it, st) :: (L, .ns (setm m x (.int i t))) :: (D, .list ws) :: O) (eval i2 (cEnv scope env L cl)) Q)
    (el : ∀ D L it it2 i j st st2 m ws t t' Q, i < N → j < M i → J i j ws → m x = some (.int i t) → (∀ v, J i (j + 1) (ws ++ [v]) → Q v K ((it2, st2) :: (it, st) :: (L, .ns (setm m y (.int j t'))) :: (D, .list ws) :: O)) → W C n K ((it2, st2) :: (it, st) :: (L, .ns (setm m y (.int j t'))) :: (D, .list ws) :: O) (eval elt (cEnv scope env L cl)) Q)
    (done : ∀ D L m ws, J N 0 ws → P D L K ((L, .ns m) :: (D, .list ws) :: O))
/-- [elt for x in range(N) for y in range(M(x))] -/
theorem comp_rr {elt i1 i2 : Expr} {x y : Str} {p1 p2 : Pos} {scope : Scope} {cl : List (Str × Addr)} {P : Addr → Addr → KH → OL → Prop}
    (hlay : ∀ O P, P cl O → LayC scope.names cl O P) (hk : (relabel scope env).kind = .function) (h1 : ∀ L, (cEnv scope env L cl).kindOf x = some .local) (h2 : ∀ L, (cEnv scope env L cl).kindOf y = some .local)
    (h : W C n K O (eval i1 env) (RR C n env elt i2 x y scope cl P))
    (hxy : x ≠ y) (hs : ∀ v L, foldedSetIterable i2 (cEnv scope env L cl) v = pure v := by intro _ _; rfl) :
    W C n K O (eval i1 env) fun v K O => W C n K O (pyIter v) fun it K O => ∀ D L, LayC scope.names cl ((L, .ns nom) :: (D, .list []) :: O) fun cells O' =>
      WCd C n K O' (.compStart (.ListComp elt [⟨.Name x p1, i1, [], 0⟩, ⟨.Name y p2, i2, [], 0⟩] scope pos) 0 it (.ref D) (cEnv scope env L cells)) fun _ K' O' => P D L K' O' := by
  refine W_mono h fun v K O₁ hx => ?_
  obtain ⟨r, t₁, t₂, t₃, b, N, M, O, rfl, hd, rfl, hN, hM, J, j0, jz, jn, it2, el, done⟩ := hx
  refine W_iterRange hd (small_one (by omega) (by omega) (by omega) (by omega)) fun it D L => hlay _ _ ?_
  rw [rangeSize_nat, show ((N : Int) - 0).toNat = N by omega]
  refine WCd_perm (O' := (it, rit 0 N 1) :: (L, .ns nom) :: (D, .list []) :: O) ((List.Perm.swap _ _ _).trans (List.Perm.cons _ (List.Perm.swap _ _ _))) ?_
  have main : WCd C n K ((it, rit 0 N 1) :: (L, .ns nom) :: (D, .list []) :: O) (.compLoop (.ListComp elt [⟨.Name x p1, i1, [], 0⟩, ⟨.Name y p2, i2, [], 0⟩] scope pos) 0 (.ref it) (.ref D) (cEnv scope env L cl)) fun _ K' O' => P D L K' O' := by
    refine WCd_compTwo0 (fun q K₁ O₁ => ∃ i m ws, q = N - i ∧ i ≤ N ∧ K₁ = K ∧ ((it, rit (0 + 1 * i) ((N : Int) - i) 1) :: (L, .ns m) :: (D, .list ws) :: O).Sublist O₁ ∧ J i 0 ws) ?_ N ⟨0, nom, [], rfl, Nat.zero_le _, rfl, by simp, j0⟩ (fun v => hs v L)
    rintro q K₁ O₁ ⟨i, m, ws, rfl, hi, rfl, hsub, hJ⟩
    refine W_sub hsub ?_
    rcases Nat.lt_or_ge i N with hlt | hge
    · refine W_nextRange (y := 0 + 1 * (i : Int)) (left := (N : Int) - i) (step := 1) .here (by omega) fun t => ?_
      refine W_ownedName (W_assignName (W_storeLocal hk (h1 L) (.there .here) ?_))
      rw [show (0 + 1 * (i : Int)) = i by omega]
      refine it2 D L it i _ m ws t _ hlt fun r b t₁ t₂ t₃ hb => ?_
      subst hb
      have hMi := hM i
      refine W_iterRange .here (small_one (by omega) (by omega) (by omega) (by omega)) fun it₂ => ?_
      rw [rangeSize_nat, show ((M i : Int) - 0).toNat = M i by omega]
      have inner : WCd C n K₁ ((it₂, rit 0 (M i) 1) :: (it, rit ((i : Int) + 1) ((N : Int) - i - 1) 1) :: (L, .ns (setm m x (.int i t))) :: (D, .list ws) :: O)
          (.compLoop (.ListComp elt [⟨.Name x p1, i1, [], 0⟩, ⟨.Name y p2, i2, [], 0⟩] scope pos) 1 (.ref it₂) (.ref D) (cEnv scope env L cl)) fun _ K' O' => ∃ i', i' < N - i ∧ ∃ i₁ m ws, i' = N - i₁ ∧ i₁ ≤ N ∧ K' = K₁ ∧ ((it, rit (0 + 1 * i₁) ((N : Int) - i₁) 1) :: (L, .ns m) :: (D, .list ws) :: O).Sublist O' ∧ J i₁ 0 ws := by
        refine WCd_compTwo1 (fun q K₂ O₂ => ∃ j m₂ ws₂, q = M i - j ∧ j ≤ M i ∧ K₂ = K₁ ∧ m₂ x = some (.int i t) ∧ ((it₂, rit (0 + 1 * j) ((M i : Int) - j) 1) :: (it, rit ((i : Int) + 1) ((N : Int) - i - 1) 1) :: (L, .ns m₂) :: (D, .list ws₂) :: O).Sublist O₂ ∧ J i j ws₂) ?_ (M i) ⟨0, _, ws, rfl, Nat.zero_le _, rfl, setm_eq, (by rw [show (0 + 1 * ((0 : Nat) : Int)) = 0 by omega, show ((M i : Int) - ((0 : Nat) : Int)) = M i by omega]; exact List.Sublist.refl _), hJ⟩
        rintro q K₂ O₂ ⟨j, m₂, ws₂, rfl, hj, rfl, hm₂, hsub2, hJ2⟩
        refine W_sub hsub2 ?_
        rcases Nat.lt_or_ge j (M i) with hlt2 | hge2
        · refine W_nextRange (y := 0 + 1 * (j : Int)) (left := (M i : Int) - j) (step := 1) .here (by omega) fun t' => ?_
          refine W_ownedName (W_assignName (W_storeLocal hk (h2 L) (.there (.there .here)) ?_))
          rw [show (0 + 1 * (j : Int)) = j by omega]
          refine el D L it it₂ i j _ _ m₂ ws₂ t t' _ hlt hlt2 hJ2 hm₂ fun v hJ3 => ?_
          refine W_append (.there (.there (.there .here))) (by rw [sizeLine_eq]; have := jz _ _ _ hJ2; omega) ?_
          refine ⟨M i - (j + 1), by omega, j + 1, setm m₂ y (.int j t'), ws₂ ++ [v], rfl, hlt2, rfl, (setm_ne hxy).trans hm₂, ?_, hJ3⟩
          rw [show (0 + 1 * ((j + 1 : Nat) : Int)) = (j : Int) + 1 by omega, show ((M i : Int) - ((j + 1 : Nat) : Int)) = (M i : Int) - j - 1 by omega]
          exact List.Sublist.refl _
        · have : j = M i := by omega
          subst this
          refine W_nextRangeEnd .here (by omega) ?_
          refine ⟨N - (i + 1), by omega, i + 1, m₂, ws₂, rfl, hlt, rfl, ?_, jn i ws₂ hlt hJ2⟩
          rw [show (0 + 1 * ((i + 1 : Nat) : Int)) = (i : Int) + 1 by omega, show ((N : Int) - ((i + 1 : Nat) : Int)) = (N : Int) - i - 1 by omega]
          exact List.Sublist.refl _
      exact WCd_compStart (g := ⟨.Name y p2, i2, [], 0⟩) rfl rfl inner (W_iterRangeiter (.head _) inner)
    · have : i = N := by omega
      subst this
      exact W_nextRangeEnd .here (by omega) (done D L m ws hJ)
  exact WCd_compStart (g := ⟨.Name x p1, i1, [], 0⟩) rfl rfl main (W_iterRangeiter (.head _) main)
end
end
section
theorem W_pull {α : Type} {C : WC} {n : Nat} {K : KH} {O O' : OL} {a : Addr} {y : AO} {t : Sem α} {Q : α → KH → OL → Prop} (d : Del O a y O') (h : W C n K ((a, y) :: O') t Q) : W C n K O t Q := W_perm d.perm h
theorem W_Assign3 {C : WC} {n : Nat} {K : KH} {O : OL} {env : Env} {pos : Pos} {x y z : Str} {px py pz : Pos} {value : Expr} {Q : Flow → KH → OL → Prop}
    (h : W C n K O (eval value env) fun v K O => W C n K O (storeName env x v) fun _ K O => W C n K O (storeName env y v) fun _ K O => W C n K O (storeName env z v) fun _ K O => Q .next K O)
    (hs : swapsWithSole [.Name x px, .Name y py, .Name z pz] value pos.line env = pure false := by rfl) (hw : swappedStores [.Name x px, .Name y py, .Name z pz] value env = pure none := by rfl)
    (he : (assignEach [.Name x px, .Name y py, .Name z pz] env).map (·.2) = [assign (.Name x px) env, assign (.Name y py) env, assign (.Name z pz) env] := by rfl) :
    W C n K O (exec (.Assign [.Name x px, .Name y py, .Name z pz] value pos) env) Q := by
  refine W_AssignStores (W_mono h fun v K O h => ?_) hs hw
  rw [he]
  exact W_assignAll2 (W_assignName (W_mono h fun _ K O h => W_assignAll2 (W_assignName (W_mono h fun _ K O h => W_assignAll1 (W_assignName h)))))
theorem Wd.callD {C : WC} {mg mb : Str → Option Value} (w : Wd C mg mb) {a : Addr} (F : FnD a) {n : Nat} {K : KH} {O : OL} {ps : List Value} {kw : List (Str × Value)} (binds : List (Str × Value)) {R : Flow → KH → OL → Prop} (hn : n ≤ 390)
    (h3 : codeIn (hd.heap_1 C.w.params) F.fd.code F.fd.qualname = true)
    (h4 : ∀ S, peek (hd.heap_1 C.w.params) S (bindArgs F.fd ⟨ps, kw⟩) = some binds) (h5 : F.fd.scope.isCoroutine = false) (h6 : F.fd.scope.isGenerator = false)
    (h : ∀ L, LayC F.fd.scope.names F.fd.closure ((L, .ns nom) :: O) fun cells O' => W C (n + 1) K O' (storeBinds (fnEnv F.fd a L cells) binds) (K0 C (n + 1) (execs F.body (fnEnv F.fd a L cells)) (RetK (RetQ R)))) : WCd C n K O (.call (.ref a) ⟨ps, kw⟩) R :=
  WCd_callFn hn (w.fn F) w.lim (w.code h3) F.hb (w.binds h4) h h5 h6

/- what Whitespace reckons -/
structure WS where
  cnt : List Int
  b : Nat
  nt : Int
def bump (cnt : List Int) (b : Nat) : List Int :=
  let c := if cnt.length ≤ b then cnt ++ List.replicate (b - cnt.length + 1) 0 else cnt
  c.set b (c.getD b 0 + 1)
def wsStep (s : WS) (c : Nat) : Option WS := if c = 32 then some ⟨s.cnt, s.b + 1, s.nt⟩ else if c = 9 then some ⟨bump s.cnt s.b, 0, s.nt + 1⟩ else none
def wsRun : List Nat → WS → WS
  | [], s => s
  | c :: r, s => match wsStep s c with
    | some s' => wsRun r s'
    | none => s
section
variable {P : Params}
theorem ws_make : makesIn (hd.heap_1 P) 147 = true := by kernel_rfl
theorem ws_init : findIn (hd.heap_1 P) (.ref 147) "__init__" = some (some (.ref 102)) := by kernel_rfl
theorem ws_fn : typeIn (hd.heap_1 P) (.ref 102) = some (.type "function") := by kernel_rfl
theorem ws_ga : findIn (hd.heap_1 P) (.ref 147) "__getattribute__" = some (some (.builtin "object.__getattribute__")) := by kernel_rfl
theorem ws_gt : findIn (hd.heap_1 P) (.ref 147) "__getattr__" = some none := by kernel_rfl
theorem ws_sa : findIn (hd.heap_1 P) (.ref 147) "__setattr__" = some (some (.builtin "object.__setattr__")) := by kernel_rfl
theorem ws_po : plainOver (hd.heap_1 P) 147 = true := by kernel_rfl
theorem ws_hd : (clsIn (hd.heap_1 P) 147).any (·.hasDict) = true := by kernel_rfl
theorem ws_rd : readsIn (hd.heap_1 P) 147 (.type "type") = true := by kernel_rfl
theorem ws_S : findCls (hd.heap_1 P) (.ref 147) (.type "type") "S" = some (.val (.str ⟨#[32]⟩ 307)) := by kernel_rfl
theorem ws_T : findCls (hd.heap_1 P) (.ref 147) (.type "type") "T" = some (.val (.str ⟨#[9]⟩ 308)) := by kernel_rfl
theorem ws_ind : findIn (hd.heap_1 P) (.ref 147) "indent_level" = some (some (.ref 116)) := by kernel_rfl
theorem ws_fni : typeIn (hd.heap_1 P) (.ref 116) = some (.type "function") := by kernel_rfl
end

/-- such an object, frozen -/
def WsV (K : KH) (v : Value) (s : WS) : Prop := X5 fun a dx od m T => X4 fun CT cs t u => V7 (v = .ref a) (K a = some (.ex (instObj 147 dx))) (K dx = some (.ex od)) (NsK od m 5) (m "norm" = some (.ref T)) (K T = some (.tup [.ref CT, .int s.b t])) (V4 (K CT = some (.tup cs)) (A2 IntV cs s.cnt) (m "nt" = some (.int s.nt u)) (m "indent_level" = none))
theorem len1 (x : Nat) : (⟨#[x]⟩ : Str).cps.toList = [x] := rfl
theorem ws_eq (a b : Nat) : ((⟨#[a]⟩ : Str).cps.toList == (⟨#[b]⟩ : Str).cps.toList) = decide (a = b) := by
  rw [len1, len1]
  by_cases h : a = b
  · subst h; simp
  · rw [decide_eq_false h]; simp [h]

theorem setA {m : Str → Option Value} {x y : Str} {v w : Value} (h : m x = some v) (hn : x ≠ y) : setm m y w x = some v := (setm_ne hn).trans h
theorem c_ws {C : WC} {mg mb} (w : Wd C mg mb) {n : Nat} {K : KH} {O : OL} {z : Str} {t : Tok} {Q : Value → KH → OL → Prop} (hn : n ≤ 370) (hz : z.cps.size ≤ 200)
    (h : ∀ K' r, KLe K K' → WsV K' r (wsRun z.cps.toList ⟨[], 0, 0⟩) → Q r K' O) : W C n K O (call (.ref 147) [.str z t] []) Q := by
  refine W_make w ws_make ws_init ws_fn fun a dx od hod => ?_
  refine w.callD f102 [("self", .ref a), ("ws", .str z t)] (by omega) (by kernel_rfl) (fun _ => by kernel_rfl) (by kernel_rfl) (by kernel_rfl) (fun L => ?_)
  show W _ _ _ _ (storeBinds _ _) _
  repeat cell_call
  -- self.raw = ws
  refine W_AssignAttr ?_
  repeat cell_call
  refine W_assignAttr ?_
  repeat cell_call
  refine W_setAttr w (m := nom) (by walk_at "h") hod (by omega) (fun o' => by walk_at "u") ws_sa ws_po (by kernel_rfl) ws_hd fun od1 hod1 => ?_
  -- S, T
  repeat cell_call
  refine W_AssignSwap (names := ["S", "T"]) ?_ (by kernel_rfl) (by kernel_rfl)
  repeat cell_call
  refine W_Attribute ?_
  repeat cell_call
  refine W_getCls w ws_rd (v := .str ⟨#[32]⟩ 307) ws_S rfl ?_
  repeat cell_call
  refine W_Attribute ?_
  repeat cell_call
  refine W_getCls w ws_rd (v := .str ⟨#[9]⟩ 308) ws_T rfl ?_
  repeat cell_call
  refine ⟨by show 2 ≤ sizeLine; decide, fun ta => ⟨ta, _, rfl, by walk_at "h", rfl, ?_⟩⟩
  refine W_inOrder_cons (W_bindName ?_)
  repeat cell_call
  refine W_inOrder_cons (W_bindName ?_)
  repeat cell_call
  refine W_inOrder_nil ?_
  repeat cell_call
  refine ⟨by show 0 ≤ sizeLine; decide, fun D => ?_⟩
  repeat cell_call
  refine W_Assign3 ?_
  repeat cell_call
  refine W_Attribute ?_
  repeat cell_call
  refine W_getOwn w (m := setm nom _ (.str z t)) ⟨by walk_at "h", od1, _, by walk_at "h", hod1⟩ setm_eq ws_ga (by kernel_rfl) rfl ?_
  refine W_ilist (l := D) (vs := []) (by walk_at "u") ?_
  refine W_sub (O' := (D, .ilist []) :: (L, .ns _) :: (a, .ex (instObj 147 dx)) :: (dx, .ex od1) :: O) (by walk_at "s") ?_
  refine W_mono (W_forStr (R := fun f K' O' => f = .next ∧ X5 fun m cs D cnt b => X5 fun bi n nt t1 t2 => X1 fun t3 => V7 (K' = K) (O' = (D, .ilist cs) :: (L, .ns m) :: (a, .ex (instObj 147 dx)) :: (dx, .ex od1) :: O) (m "self" = some (.ref a)) (m "count" = some (.ref D)) (m "b" = some (.int bi t1)) (m "n" = some (.int n t2)) (V5 (m "nt" = some (.int nt t3)) (A2 IntV cs cnt) (bi = (b : Nat)) (cnt.length ≤ 300) (WS.mk cnt b nt = wsRun z.cps.toList ⟨[], 0, 0⟩)))
    (fun j K' O' => X5 fun m cs D cnt b => X5 fun bi n nt t1 t2 => X1 fun t3 => V7 (K' = K) (O' = (D, .ilist cs) :: (L, .ns m) :: (a, .ex (instObj 147 dx)) :: (dx, .ex od1) :: O) (m "self" = some (.ref a)) (m "count" = some (.ref D)) (m "b" = some (.int bi t1)) (m "n" = some (.int n t2)) (V8 (m "nt" = some (.int nt t3)) (m "S" = some (.str ⟨#[32]⟩ 307)) (m "T" = some (.str ⟨#[9]⟩ 308)) (A2 IntV cs cnt) (bi = (b : Nat)) (b ≤ j) (cnt.length ≤ j + 1) (wsRun (z.cps.toList.drop j) ⟨cnt, b, nt⟩ = wsRun z.cps.toList ⟨[], 0, 0⟩))) ?_ ?_ ?_) fun it K₁ O₁ hw => WCd_mono hw ?_
  · exact ⟨_, _, D, [], 0, 0, 0, 0, _, _, _, rfl, rfl, by walk_at "g", by walk_at "g", by walk_at "g", by walk_at "g", by walk_at "g", by walk_at "g", by walk_at "g", .nil, rfl, Nat.le_refl _, by simp, by simp⟩
  · rintro it j K' O' st c hc ⟨m, cs, D, cnt, b, bi, n', nt, t1, t2, t3, rfl, rfl, m1, m2, m3, m4, m5, m6, m7, hcs, rfl, hb, hl, hrun⟩ tc
    have hlen := hcs.length
    have hj : j < z.cps.size := (Array.getElem?_eq_some_iff.mp hc).1
    have hdrop : z.cps.toList.drop j = c :: z.cps.toList.drop (j + 1) := by
      have hc' : z.cps.toList[j]? = some c := by rw [Array.getElem?_toList]; exact hc
      obtain ⟨hi, e⟩ := List.getElem?_eq_some_iff.mp hc'
      rw [List.drop_eq_getElem_cons hi, e]
    rw [hdrop] at hrun
    repeat cell_call
    refine W_eqStr ?_
    rw [ws_eq]
    refine W_truthyB ?_
    refine ite_dec (fun h32 => ?_) (fun h32 => ?_)
    · repeat cell_call
      refine turn_next (List.Sublist.refl _) ?_
      refine ⟨_, cs, D, cnt, b + 1, _, _, nt, _, _, _, rfl, rfl, by walk_at "g", by walk_at "g", by walk_at "g", by walk_at "g", by walk_at "g", by walk_at "g", by walk_at "g", hcs, by omega, by omega, by omega, ?_⟩
      rw [← hrun, h32]; rfl
    · repeat cell_call
      refine W_eqStr ?_
      rw [ws_eq]
      refine W_truthyB ?_
      refine ite_dec (fun h9 => ?_) (fun h9 => ?_)
      · repeat cell_call
        refine W_len (vs := cs) (by walk_at "l") (by omega) fun t4 => ?_
        repeat cell_call
        refine W_ge ?_
        refine W_truthyB ?_
        refine ite_dec (fun hge => ?_) (fun hge => ?_)
        · repeat cell_call
          refine ⟨by show 1 ≤ sizeLine; decide, fun Z => ?_⟩
          repeat cell_call
          refine W_len (vs := cs) (by walk_at "l") (by omega) fun t5 => ?_
          repeat cell_call
          refine W_listMul (vs := [.int 0 _]) (by walk_at "h") (by omega) (by simp; omega) (by simp) fun Y => ?_
          have hbl : (((b : Int) - (cs.length : Int) + 1).toNat) = b - cnt.length + 1 := by omega
          have hcz0 : ∀ u : Tok, A2 IntV (cs ++ (List.replicate (((b : Int) - (cs.length : Int) + 1).toNat) [Value.int 0 u]).flatten) (cnt ++ List.replicate (b - cnt.length + 1) 0) := by
            intro u
            rw [hbl]
            refine hcs.append ?_
            have : ∀ (k : Nat) (u : Tok), A2 IntV (List.replicate k [Value.int 0 u]).flatten (List.replicate k 0) := by
              intro k u
              induction k with
              | zero => exact .nil
              | succ k ih => rw [List.replicate_succ, List.replicate_succ, List.flatten_cons]; exact .cons ⟨_, rfl⟩ ih
            exact this _ _
          refine W_listAdd (vs := cs) (by walk_at "l") (by walk_at "l") (by rw [sizeLine_eq, hbl]; simp; omega) fun D2 => ?_
          generalize ez : cs ++ (List.replicate _ [Value.int 0 _]).flatten = zs
          have hcz : A2 IntV zs (cnt ++ List.replicate (b - cnt.length + 1) 0) := by rw [← ez]; exact hcz0 _
          have hzl := hcz.length
          have hgl : (cnt ++ List.replicate (b - cnt.length + 1) (0 : Int)).length = b + 1 := by simp; omega
          refine W_ilist (l := D2) (vs := zs) (by walk_at "u") ?_
          refine W_pull (a := it) (by walk_at "d") ?_
          repeat cell_call
          obtain ⟨x, hx, t6, rfl⟩ := hcz.get' b (by omega)
          refine sub_list (vs := zs) (by walk_at "l") (W_itemE (vs := zs) (j := b) (by walk_at "l") rfl (by omega) hx ?_)
          repeat cell_call
          refine W_setItem (vs := zs) (by walk_at "u") (by omega) (by omega) (by omega) ?_
          repeat cell_call
          refine turn_next (O₃ := (D2, .ilist (zs.set b (.int _ _))) :: (L, .ns _) :: (a, .ex (instObj 147 dx)) :: (dx, .ex od1) :: O) (by walk_at "s") ?_
          refine ⟨_, _, D2, _, 0, 0, _, nt + 1, _, _, _, rfl, rfl, by walk_at "g", by walk_at "g", by walk_at "g", by walk_at "g", by walk_at "g", by walk_at "g", by walk_at "g", hcz.set ⟨_, rfl⟩ b, rfl, by omega, by simp; omega, ?_⟩
          rw [← hrun]
          show _ = (match wsStep _ c with | some s' => _ | none => _)
          rw [show wsStep ⟨cnt, b, nt⟩ c = some ⟨bump cnt b, 0, nt + 1⟩ by unfold wsStep; rw [if_neg h32, if_pos h9]]
          dsimp only
          congr 2
          unfold bump
          rw [if_pos (by omega)]
          dsimp only
          congr 2
          rw [List.getD_eq_getElem?_getD, List.getElem?_eq_getElem (by omega)]; rfl
        · repeat cell_call
          obtain ⟨x, hx, t6, rfl⟩ := hcs.get' b (by omega)
          refine sub_list (vs := cs) (by walk_at "l") (W_itemE (vs := cs) (j := b) (by walk_at "l") rfl (by omega) hx ?_)
          repeat cell_call
          refine W_setItem (vs := cs) (by walk_at "u") (by omega) (by omega) (by omega) ?_
          repeat cell_call
          refine turn_next (O₃ := (D, .ilist (cs.set b (.int _ _))) :: (L, .ns _) :: (a, .ex (instObj 147 dx)) :: (dx, .ex od1) :: O) (by walk_at "s") ?_
          refine ⟨_, _, D, _, 0, 0, _, nt + 1, _, _, _, rfl, rfl, by walk_at "g", by walk_at "g", by walk_at "g", by walk_at "g", by walk_at "g", by walk_at "g", by walk_at "g", hcs.set ⟨_, rfl⟩ b, rfl, by omega, by simp; omega, ?_⟩
          rw [← hrun]
          show _ = (match wsStep _ c with | some s' => _ | none => _)
          rw [show wsStep ⟨cnt, b, nt⟩ c = some ⟨bump cnt b, 0, nt + 1⟩ by unfold wsStep; rw [if_neg h32, if_pos h9]]
          dsimp only
          congr 2
          unfold bump
          rw [if_neg (by omega)]
          dsimp only
          congr 2
          rw [List.getD_eq_getElem?_getD, List.getElem?_eq_getElem (by omega)]; rfl
      · repeat cell_call
        refine ⟨_, List.sublist_cons_self _ _, rfl, _, cs, D, cnt, b, _, _, nt, _, _, _, rfl, rfl, by walk_at "g", by walk_at "g", by walk_at "g", by walk_at "g", by walk_at "g", hcs, rfl, by omega, ?_⟩
        rw [← hrun]
        show _ = (match wsStep _ c with | some s' => _ | none => _)
        rw [show wsStep ⟨cnt, b, nt⟩ c = none by unfold wsStep; rw [if_neg h32, if_neg h9]]
  · rintro K' O' ⟨m, cs, D, cnt, b, bi, n', nt, t1, t2, t3, rfl, rfl, m1, m2, m3, m4, m5, m6, m7, hcs, rfl, hb, hl, hrun⟩
    refine ⟨rfl, m, cs, D, cnt, b, _, n', nt, t1, t2, t3, rfl, rfl, m1, m2, m3, m4, m5, hcs, rfl, by omega, ?_⟩
    rw [← hrun, show z.cps.toList.drop z.cps.size = [] by simp]; rfl
  rintro f K' O' ⟨rfl, m, cs, D, cnt, b, bi, n', nt, t1, t2, t3, rfl, rfl, m1, m2, m3, m4, m5, hcs, rfl, hl, hrun⟩
  have hlen := hcs.length
  rw [← hrun] at h
  repeat cell_call
  refine W_AssignAttr ?_
  repeat cell_call
  refine W_assignAttr ?_
  repeat cell_call
  refine W_setAttr w (m := setm nom _ (.str z t)) (by walk_at "h") hod1 (by omega) (fun o' => by walk_at "u") ws_sa ws_po (by kernel_rfl) ws_hd fun od2 hod2 => ?_
  repeat cell_call
  refine W_AssignAttr ?_
  repeat cell_call
  refine W_assignAttr ?_
  repeat cell_call
  refine W_setAttr w (by walk_at "h") hod2 (by omega) (fun o' => by walk_at "u") ws_sa ws_po (by kernel_rfl) ws_hd fun od3 hod3 => ?_
  repeat cell_call
  refine W_AssignAttr ?_
  repeat cell_call
  refine W_tupleList (vs := cs) (by walk_at "l") (by omega) fun CT => ?_
  refine W_freezeD (a := CT) (by walk_at "d") fun K₁ hle₁ hCT => ?_
  repeat cell_call
  refine ⟨by show 2 ≤ sizeLine; decide, fun T => ?_⟩
  refine W_freezeD (a := T) (by walk_at "d") fun K₂ hle₂ hT => ?_
  refine W_assignAttr ?_
  repeat cell_call
  refine W_setAttr w (by walk_at "h") hod3 (by omega) (fun o' => by walk_at "u") ws_sa ws_po (by kernel_rfl) ws_hd fun od4 hod4 => ?_
  repeat cell_call
  refine W_AssignAttr ?_
  repeat cell_call
  refine W_len (vs := cs) (by walk_at "l") (by omega) fun t5 => ?_
  repeat cell_call
  refine W_assignAttr ?_
  repeat cell_call
  refine W_setAttr w (by walk_at "h") hod4 (by omega) (fun o' => by walk_at "u") ws_sa ws_po (by kernel_rfl) ws_hd fun od5 hod5 => ?_
  refine W_freezeD (a := a) (by walk_at "d") fun K₃ hle₃ ha => ?_
  refine W_freezeD (a := dx) (by walk_at "d") fun K₄ hle₄ hdx => ?_
  repeat cell_call
  refine ⟨O, by walk_at "s", rfl, h K₄ _ ((hle₁.trans hle₂).trans (hle₃.trans hle₄)) ?_⟩
  refine ⟨a, dx, od5, _, T, CT, cs, _, _, rfl, hle₄ _ _ ha, hdx, hod5, by walk_at "g", hle₄ _ _ (hle₃ _ _ hT), hle₄ _ _ (hle₃ _ _ (hle₂ _ _ hCT)), hcs, by walk_at "g", by rfl⟩
end
section
theorem W_lenTup {C : WC} {n : Nat} {K : KH} {O : OL} {l : Addr} {vs : List Value} {Q : Value → KH → OL → Prop} (hl : TupAt C K O l vs) (hz : vs.length < 2 ^ 60) (h : ∀ t, Q (.int vs.length t) K O) : W C n K O (call (.builtin "len") [.ref l] []) Q :=
  fun A hA s S => PyProof.Rows.len_tuple (let ⟨o, h1, h2, h3⟩ := hl s S; ⟨o, h1, h2, h3⟩) (by simp; omega) (by
    have := h (s.toks + 1)
    simp only [List.size_toArray]
    exact ⟨K, O, S.toks, this⟩)
def ilTo (cnt : List Int) (ts : Nat) : Nat → Int
  | 0 => 0
  | j + 1 => ilTo cnt ts j + ((ts + j) / ts : Nat) * cnt.getD (ts + j) 0
def indent (s : WS) (ts : Nat) : Int := s.b + ts * (ilTo s.cnt ts (s.cnt.length - ts) + s.nt)
theorem c_indent {C : WC} {mg mb} (w : Wd C mg mb) {n : Nat} {K : KH} {O : OL} {a : Addr} {s : WS} {ts : Int} {tsn : Nat} {t : Tok} {Q : Value → KH → OL → Prop} (hn : n ≤ 370) (hw : WsV K (.ref a) s) (e : ts = tsn) (h1 : 0 < tsn) (h2 : tsn < 100) (hc : s.cnt.length ≤ 1000)
    (h : ∀ t, Q (.int (indent s tsn) t) K O) : W C n K O (call (.ref 116) [.ref a, .int ts t] []) Q := by
  subst e
  obtain ⟨a, dx, od, m, T, CT, cs, tb, tn, e, ha, hdx, hod, hm1, hT, hCT, hcs, hm2, hm3⟩ := hw
  cases e
  have hlen := hcs.length
  refine w.call f116 [("self", .ref a), ("tabsize", .int tsn t)] (by omega) (by kernel_rfl) (fun _ => by kernel_rfl) (by kernel_rfl) (by kernel_rfl) (fun L => ?_)
  show W _ _ _ _ (storeBinds _ _) _
  repeat cell_call
  refine W_Attribute ?_
  repeat cell_call
  refine W_getOwn w (m := m) ⟨by walk_at "h", od, _, by walk_at "h", hod⟩ hm1 ws_ga (by kernel_rfl) rfl ?_
  refine ⟨T, _, rfl, by walk_at "h", rfl, ?_⟩
  repeat cell_call
  refine W_lenTup (vs := cs) (TupAt.has (by walk_at "h")) (by omega) fun t1 => ?_
  repeat cell_call
  refine W_forRange2 (cs.length - tsn) (fun j K' O' => X3 fun mm il ti => V8 (K' = K) (O' = (L, .ns mm) :: O) (mm "self" = some (.ref a)) (mm "tabsize" = some (.int tsn t)) (mm "count" = some (.ref CT)) (mm "trailing" = some (.int s.b tb)) (mm "il" = some (.int il ti)) (il = ilTo s.cnt tsn j))
    (by omega) (by omega) (by omega) (by omega) (by omega) ⟨_, 0, _, rfl, rfl, by walk_at "g", by walk_at "g", by walk_at "g", by walk_at "g", by walk_at "g", rfl⟩ ?_ ?_
  · rintro it j K' O' st hj ⟨mm, il, ti, rfl, rfl, g1, g2, g3, g4, g5, rfl⟩ t2
    have hx := List.getElem?_eq_getElem (show tsn + j < s.cnt.length by omega)
    obtain ⟨x, hxc, t3, rfl⟩ := hcs.get (tsn + j) _ hx
    repeat cell_call
    refine W_fdivE (c := ((tsn + j) / tsn : Nat)) (by omega) (by omega) (by rw [Int.fdiv_eq_ediv_of_nonneg _ (by omega)]; rfl) fun t4 => ?_
    repeat cell_call
    refine sub_tup (TupAt.has (by walk_at "h")) (W_tupItem (vs := cs) (TupAt.has (by walk_at "h")) (by omega) (by omega) (by rw [show ((tsn : Int) + (j : Int)).toNat = tsn + j by omega]; exact hxc) ?_)
    have hdv : ((tsn + j) / tsn : Nat) ≤ tsn + j := Nat.div_le_self _ _
    have hq0 : (0 : Int) ≤ ((tsn + j) / tsn : Nat) := Int.natCast_nonneg _
    refine W_mul (mulOk_small (by omega) (by omega)) fun t5 => ?_
    repeat cell_call
    refine turn_next (List.Sublist.refl _) ?_
    refine ⟨_, _, _, rfl, rfl, by walk_at "g", by walk_at "g", by walk_at "g", by walk_at "g", by walk_at "g", ?_⟩
    rw [ilTo, List.getD_eq_getElem?_getD, hx]; rfl
  · rintro K' O' ⟨mm, il, ti, rfl, rfl, g1, g2, g3, g4, g5, rfl⟩
    repeat cell_call
    refine W_Attribute ?_
    repeat cell_call
    refine W_getOwn w (m := m) ⟨by walk_at "h", od, _, by walk_at "h", hod⟩ hm2 ws_ga (by kernel_rfl) rfl ?_
    repeat cell_call
    refine ret_of (List.sublist_cons_self _ _) ?_
    rw [hlen]
    exact h _
end
section
theorem W_looks {C : WC} {mg mb} (w : Wd C mg mb) {α : Type} {n : Nat} {K : KH} {O : OL} {t : Sem α} {r : α} {Q : α → KH → OL → Prop} (hl : ∀ h, (hd.heap_1 C.w.params).In h → Looks (model C.prog C.w) h t r) (h : Q r K O) : W C n K O t Q := fun A hA s S =>
  (hl s.heap (w.k.keeps S.base)).here ⟨K, O, S, h⟩
theorem keeper_cls {P : Params} {M : Model} {c : Addr} (hm : makesIn (hd.heap_1 P) c = true) (h : Heap) (X : (hd.heap_1 P).In h) : Looks M h (keeperOf (.ref c)) .machine := by
  have Y := makes_of (M := M) X hm
  obtain ⟨oc, od, cd, sl, ho, _⟩ := Y.obj
  unfold keeperOf
  refine (Looks.ld (part := none) ho).andThen ?_
  exact Y.call.andThen .now
theorem W_callCls {C : WC} {mg mb} (w : Wd C mg mb) {n : Nat} {K : KH} {O : OL} {env : Env} {pos : Pos} {c : Addr} {e : Expr} {rest : List Expr} {Q : Value → KH → OL → Prop} (hm : makesIn (hd.heap_1 C.w.params) c = true)
    (h : W C n K O (spliced (backTo pos (starEach (e :: rest) env))) (CallVs C n (.ref c) Q))
    (he : starEach (e :: rest) env = (false, eval e env) :: starEach rest env := by rfl) (hplain : (backTo pos (starEach (e :: rest) env)).any (·.1) = false := by rfl) :
    W C n K O (callWith pos (.ref c) [] (backTo pos (starEach (e :: rest) env)) (backToKw pos (keywordEach [] env))) Q := by
  have h2 : W C n K O (evalArgs (.ref c) true (backTo pos (starEach (e :: rest) env)) []) fun x K O => W C n K O (call (.ref c) ([] ++ x.pos) x.kw) Q := by
    rw [he, backTo_cons] at h ⊢
    exact W_evalArgs rfl (W_mono h fun vs K O h => W_evalAll_nil h)
  show W C n K O (callWith pos (.ref c) [] (backTo pos (starEach (e :: rest) env)) []) Q
  unfold callWith
  refine W_bind (W_holding (W_mono h2 fun x K O h => W_bind (W_standAt ?_)))
  simp only [hplain, List.any_nil, Bool.or_false]
  refine W_bind (W_looks w (keeper_cls hm) ?_)
  exact W_bind (W_mono h fun r K O h => W_bind (W_holding (W_point (W_pure h))))

theorem W_selfArgs {C : WC} {n : Nat} {K : KH} {O : OL} {env : Env} {pos : Pos} {f a : Addr} {fd : FuncData} {e : Expr} {rest : List Expr} {Q : Value → KH → OL → Prop}
    (h : W C n K O (spliced (backTo pos (starEach (e :: rest) env))) fun vs K O => FnAt C K O f fd ∧ W C n K O (call (.ref f) (.ref a :: vs) []) Q)
    (he : starEach (e :: rest) env = (false, eval e env) :: starEach rest env := by rfl) :
    W C n K O (evalArgs (.ref f) true (backTo pos (starEach (e :: rest) env)) []) fun z K O => FnAt C K O f fd ∧ W C n K O (call (.ref f) (.ref a :: z.pos) z.kw) Q := by
  rw [he, backTo_cons] at h ⊢
  exact W_evalArgs rfl (W_mono h fun vs K O h => W_evalAll_nil h)

/- what _law_rise reckons -/
def blanks (k : Nat) : List Nat := List.replicate k 32
def leadTo (b : Nat) : Nat → List Nat
  | 0 => []
  | j + 1 => leadTo b j ++ (blanks (b * (j + 1)) ++ [9])
def reachAt (a b j : Nat) : Int := indent (wsRun (leadTo b j ++ blanks j ++ [120, 9]) ⟨[], 0, 0⟩) a - j
def columnAt (a b : Nat) : Nat → Int
  | 0 => 0
  | j + 1 => reachAt a b (j + 1)
def riseTo (a b : Nat) (j : Nat) : List Int := (List.range j).map fun i => (reachAt a b (i + 1) - columnAt a b i).fdiv a - 1
theorem rep_list (k : Nat) : (repS ⟨#[32]⟩ k).cps.toList = blanks k := by
  have : ∀ (m : Nat) (acc : Array Nat), ((List.replicate m (#[32] : Array Nat)).foldl (· ++ ·) acc).toList = acc.toList ++ List.replicate m 32 := by
    intro m
    induction m with
    | zero => intro acc; simp
    | succ m ih => intro acc; rw [List.replicate_succ, List.foldl_cons, ih, List.replicate_succ]; simp
  exact (this k #[]).trans (by simp [blanks])
theorem W_mulBlank {C : WC} {n : Nat} {K : KH} {O : OL} {k : Nat} {ki : Int} {t u : Tok} {Q : Value → KH → OL → Prop} (e : ki = k) (hk : k < 1000) (h : ∀ y t, y.cps.toList = blanks k → Q (.str y t) K O) : W C n K O (binaryOp .Mult (.str (Str.ofString " ") t) (.int ki u)) Q := by
  subst e
  refine W_mulStr (by decide +kernel) (by omega) (by omega) fun t => h _ t ?_
  rw [show Str.ofString " " = ⟨#[32]⟩ by decide +kernel, Int.toNat_natCast]
  exact rep_list k
theorem W_addL {C : WC} {n : Nat} {K : KH} {O : OL} {x y : Str} {t u : Tok} {Q : Value → KH → OL → Prop} (hz : x.cps.toList.length + y.cps.toList.length ≤ 16777216) (h : ∀ z t, z.cps.toList = x.cps.toList ++ y.cps.toList → Q (.str z t) K O) :
    W C n K O (binaryOp .Add (.str x t) (.str y u)) Q := W_addStr (by rw [sizeLine_eq]; simpa using hz) fun t => h _ t (by simp [catS])
theorem W_iaddL {C : WC} {n : Nat} {K : KH} {O : OL} {x y : Str} {t u : Tok} {Q : Value → KH → OL → Prop} (hz : x.cps.toList.length + y.cps.toList.length ≤ 16777216) (h : ∀ z t, z.cps.toList = x.cps.toList ++ y.cps.toList → Q (.str z t) K O) :
    W C n K O (inplaceOp .Add (.str x t) (.str y u)) Q := W_iaddStr (by rw [sizeLine_eq]; simpa using hz) fun t => h _ t (by simp [catS])
theorem tab_list : (Str.ofString "\t").cps.toList = [9] := by decide +kernel
theorem xt_list : (Str.ofString "x\t").cps.toList = [120, 9] := by decide +kernel
theorem blanks_len (k : Nat) : (blanks k).length = k := by simp [blanks]
theorem lead_len (b : Nat) (hb : b ≤ 2) : ∀ j, j ≤ 3 → (leadTo b j).length ≤ 30
  | 0, _ => by simp [leadTo]
  | 1, _ => by simp [leadTo, blanks]; omega
  | 2, _ => by simp [leadTo, blanks]; omega
  | 3, _ => by simp [leadTo, blanks]; omega
theorem c_rise {C : WC} {mg mb} (w : Wd C mg mb) {n : Nat} {K : KH} {O : OL} {a b : Nat} {ai bi : Int} {t u : Tok} {Q : Value → KH → OL → Prop} (hn : n ≤ 360) (ea : ai = a) (eb : bi = b) (ha : 0 < a) (ha3 : a ≤ 3) (hb : b ≤ 2)
    (hcl : ∀ j, j < 3 → (wsRun (leadTo b (j + 1) ++ blanks (j + 1) ++ [120, 9]) ⟨[], 0, 0⟩).cnt.length ≤ 1000)
    (h : ∀ K' r, KLe K K' → IntsV K' r (riseTo a b a) → Q r K' O) : W C n K O (call (.ref 184) [.int ai t, .int bi u] []) Q := by
  subst ea eb
  refine w.call f184 [("a", .int a t), ("b", .int b u)] (by omega) (by kernel_rfl) (fun _ => by kernel_rfl) (by kernel_rfl) (by kernel_rfl) (fun L => ?_)
  show W _ _ _ _ (storeBinds _ _) _
  repeat cell_call
  refine ⟨by show 0 ≤ sizeLine; decide, fun D => ?_⟩
  repeat cell_call
  refine W_forRange2 a (fun j K' O' => X5 fun m vs lead col tl => X1 fun tc => V7 (KLe K K') (O' = (D, .list vs) :: (L, .ns m) :: O) (m "a" = some (.int a t)) (m "b" = some (.int b u)) (m "lead" = some (.str lead tl)) (m "column" = some (.int col tc)) (V4 (m "heights" = some (.ref D)) (lead.cps.toList = leadTo b j) (col = columnAt a b j) (A2 IntV vs (riseTo a b j))))
    (by omega) (by omega) (by omega) (by omega) (by omega) ⟨_, [], Str.ofString "", 0, _, _, KLe.refl _, rfl, by walk_at "g", by walk_at "g", by walk_at "g", by walk_at "g", by walk_at "g", by show (Str.ofString "").cps.toList = []; decide +kernel, rfl, .nil⟩ ?_ ?_
  · rintro it j K' O' st hj ⟨m, vs, lead, col, tl, tc, hle, rfl, g1, g2, g3, g4, g5, hlead, hcol, hvs⟩ t2
    iterate 10 cell_call
    refine W_mul (mulOk_small (by omega) (by omega)) fun t3 => ?_
    have hbk : b * (j + 1) ≤ 6 := by
      have : b * (j + 1) ≤ 2 * 3 := Nat.mul_le_mul (by omega) (by omega)
      omega
    have ebk : (b : Int) * (1 + (j : Int)) = ((b * (j + 1) : Nat) : Int) := by
      rw [Int.natCast_mul, Int.natCast_add]; congr 1; omega
    rw [ebk]
    refine W_mulBlank (k := b * (j + 1)) rfl (by omega) fun y1 t4 hy1 => ?_
    cell_call
    have l1 := blanks_len (b * (j + 1))
    have l2 := blanks_len (j + 1)
    have l3 := lead_len b hb j (by omega)
    refine W_addL (by rw [hy1, tab_list, l1]; simp; omega) fun y2 t5 hy2 => ?_
    rw [hy1, tab_list] at hy2
    refine W_iaddL (by rw [hlead, hy2]; simp [l1]; omega) fun y3 t6 hy3 => ?_
    rw [hlead, hy2] at hy3
    have hy3 : y3.cps.toList = leadTo b (j + 1) := hy3
    have l4 := lead_len b hb (j + 1) (by omega)
    iterate 3 cell_call
    refine W_BinOp ?_
    refine W_CallSelf w (c := 147) (f := 116) (fd := f116.fd) ws_ga ws_gt ws_ind ws_fni ?_
    iterate 2 cell_call
    refine W_callCls w ws_make ?_
    iterate 7 cell_call
    refine W_mulBlank (k := j + 1) (by omega) (by omega) fun y4 t7 hy4 => ?_
    refine W_addL (by rw [hy3, hy4]; omega) fun y5 t8 hy5 => ?_
    rw [hy3, hy4] at hy5
    cell_call
    have l5 := congrArg List.length hy5
    rw [List.length_append] at l5
    refine W_addL (by rw [xt_list, l5]; simp; omega) fun y6 t9 hy6 => ?_
    rw [hy5, xt_list] at hy6
    have l6 := congrArg List.length hy6
    simp only [List.length_append, List.length_cons, List.length_nil] at l6
    repeat cell_call
    refine c_ws w (by omega) (by rw [← Array.length_toList]; omega) fun K₁ r hle₁ hr => ?_
    rw [hy6] at hr
    obtain ⟨ra, rdx, rod, rm, rT, rCT, rcs, rt, ru, rfl, r1, r2, r3, r4, r5, r6, r7, r8, r9⟩ := id hr
    refine ⟨ra, rdx, rm, rfl, ⟨.inl r1, rod, 5, .inl r2, r3⟩, r9, ?_⟩
    refine W_selfArgs ?_
    repeat cell_call
    refine ⟨w.fn f116, c_indent w (by omega) ⟨ra, rdx, rod, rm, rT, rCT, rcs, rt, ru, rfl, r1, r2, r3, r4, r5, r6, r7, r8, r9⟩ rfl ha (by omega) (hcl j (by omega)) fun t10 => ?_⟩
    have er : indent (wsRun (leadTo b (j + 1) ++ blanks (j + 1) ++ [120, 9]) ⟨[], 0, 0⟩) a - (1 + (j : Int)) = reachAt a b (j + 1) := by
      unfold reachAt; congr 1; omega
    repeat cell_call
    rw [er]
    refine ⟨D, vs, rfl, by walk_at "h", ?_⟩
    repeat cell_call
    refine W_fdiv (by omega) (by omega) fun t11 => ?_
    repeat cell_call
    · have := hvs.length; simp [riseTo] at this; have : sizeLine = 16777216 := rfl; omega
    refine ⟨nofun, ?_⟩
    repeat cell_call
    refine turn_next (List.Sublist.refl _) ?_
    refine ⟨_, _, y3, reachAt a b (j + 1), _, _, hle.trans hle₁, rfl, by walk_at "g", by walk_at "g", by walk_at "g", by walk_at "g", by walk_at "g", hy3, rfl, ?_⟩
    unfold riseTo
    rw [List.range_succ, List.map_append]
    subst hcol
    exact hvs.snoc ⟨_, rfl⟩
  · rintro K' O' ⟨m, vs, lead, col, tl, tc, hle, rfl, g1, g2, g3, g4, g5, hlead, hcol, hvs⟩
    refine W_freezeD (a := D) (by walk_at "d") fun K₁ hle₁ hD => ?_
    repeat cell_call
    exact ret_of (List.sublist_cons_self _ _) (h K₁ _ (hle.trans hle₁) ⟨D, vs, rfl, hD, hvs⟩)
end
section
def codeHdIn (K : Frag) (c P : Addr) : Bool := match K.lookup c with
  | some ⟨.type "code", _, .fields vs, _⟩ => vs[11]? == some (.ref P) && vs.getD 11 .none == .ref P && c != P && (match vs.getD 18 .none, vs.getD 7 .none, vs.getD 9 .none, vs.getD 10 .none with
    | .str .., .int .., .bool .., .int .. => true
    | _, _, _, _ => false)
  | _ => false
theorem codeHd_of {K : Frag} {h : Heap} {c P : Addr} (X : K.In h) (e : codeHdIn K c P = true) : CodeHd h c P := by
  unfold codeHdIn at e
  split at e
  · rename_i d vs sl ho
    simp only [Bool.and_eq_true, beq_iff_eq, bne_iff_ne, ne_eq] at e
    obtain ⟨⟨⟨e1, e2⟩, e3⟩, e4⟩ := e
    split at e4
    · rename_i h1 h2 h3 h4
      exact ⟨_, vs, _, _, _, _, _, _, _, X _ _ ho, rfl, rfl, e1, e2, h1, h2, h3, h4, e3⟩
    · cases e4
  · cases e
def OcOk (oc : Obj) (qual : Str) : Prop := ∃ vs t, oc.data = .fields vs ∧ vs[1]? = some (.str qual t)
theorem Sat.adopt {C : WC} {K : KH} {O : OL} {s : Shared} (S : Sat C K O s) {a : Addr} {x : AO} (hK : K a = none) (hG : C.G.get? a = none) (hO : ∀ p ∈ O, p.1 ≠ a) (hx : x.At s.heap a) : Sat C K ((a, x) :: O) s where
  base := S.base
  kn := S.kn
  own := fun p hp => by
    rcases List.mem_cons.mp hp with rfl | hp
    · exact hx
    · exact S.own p hp
  apart := fun p hp => by
    rcases List.mem_cons.mp hp with rfl | hp
    · exact ⟨hK, hG⟩
    · exact S.apart p hp
  nodup := by
    simp only [List.map_cons, List.nodup_cons]
    refine ⟨fun h => ?_, S.nodup⟩
    obtain ⟨p, hp, e⟩ := List.mem_map.mp h
    exact hO p hp e
  gens := S.gens
  os := S.os
theorem none_of_ge {h : Heap} {a : Addr} (e : h.objs.size ≤ a) : h.get? a = none := by
  cases q : h.get? a with
  | none => rfl
  | some o => exact absurd (Heap.lt_size q) (Nat.not_lt.mpr e)
abbrev lamObj (mg : Str → Option Value) (qual : Str) (params : Arguments) (body : Expr) (scope : Scope) (clos : List (Str × Addr)) (c' : Addr) (ctv : Value) : Obj := kla_obj "<lambda>" qual params body scope clos ((mg "__name__").getD .none) c' ctv

section
variable {C : WC} {mg mb : Str → Option Value} (w : Wd C mg mb) {n : Nat} {K : KH} {O O₂ : OL} {env : Env} {pos : Pos} {params : Arguments} {body : Expr} {scope : Scope} {clos : List (Str × Addr)} {cc P : Addr} {ps : Array Value}
include w
/-- a lambda is made; its code is new -/
theorem W_lamNew {O' : Obj → OL} {Q : Value → KH → OL → Prop} (hdef : defaultsOf params env = ([], [])) (hcl : closureFor scope env = pure clos) (hge : env.globals = mainGlobals) (hcode : env.code = .ref cc) (hC : CodeHd C.G cc P)
    (ht : TriplesOk ps.toList) (hnf : codeAmong pos ps.toList = none) (u : ∀ o', Upd O P (.ex (tabObj ps)) (.ex o') (O' o'))
    (h : ∀ f c' ctv oc, OcOk oc (env.qual ++ "<lambda>") → Q (.ref f) K ((f, .ex (lamObj mg (env.qual ++ "<lambda>") params body scope clos c' ctv)) :: (c', .ex oc) :: O' (tabObj (ps ++ #[rawInt pos.line, rawInt pos.col, .ref c'])))) :
    W C n K O (eval (.Lambda params body scope pos) env) Q := fun A hA s S => by
  have hP := At.ex (S.own _ (u (tabObj ps)).mem)
  have hPG := (S.apart _ (u (tabObj ps)).mem).2
  have hgP : mainGlobals ≠ P := fun q => by
    obtain ⟨o, es, ep, e, hd, _⟩ := w.g
    rw [q, hPG] at e; cases e
  refine kla_eval hdef (kla_makeFunction (mg := mg) hcl hge (w.g.keeps S.base) hcode (hC.keeps S.base) hP ht hnf hgP ((w.bm P fun o e => by rw [hPG] at e; cases e).keeps S.base) fun c' ctv h' tk hx hge hlt hrec htb => ?_)
  obtain ⟨c₂, oc, vs, t, e2, hoc, hd, hv⟩ := hrec
  cases e2
  have fr := fun (a : Addr) (ha : s.heap.objs.size ≤ a) => S.fresh (none_of_ge ha)
  have S1 : Sat C K (O' (tabObj (ps ++ #[rawInt pos.line, rawInt pos.col, .ref c']))) { s with heap := h', toks := tk } := S.upd (u _) hx (At.ex_of htb)
  have hk := (u (tabObj (ps ++ #[rawInt pos.line, rawInt pos.col, .ref c']))).keys
  have S2 : Sat C K ((c', .ex oc) :: O' (tabObj (ps ++ #[rawInt pos.line, rawInt pos.col, .ref c']))) { s with heap := h', toks := tk } := S1.adopt (fr c' hge).1 (fr c' hge).2.1 (fun p hp e => by
    have : p.1 ∈ O.map (·.1) := by rw [← hk]; exact List.mem_map_of_mem hp
    obtain ⟨q, hq, e'⟩ := List.mem_map.mp this
    exact (fr c' hge).2.2 q hq (e'.trans e)) (At.ex_of hoc)
  exact ⟨K, _, S2.push (tk := tk) (dr := s.drawn) rfl rel_ex, h _ c' ctv oc ⟨vs, t, hd, hv⟩⟩
/-- its code lies there -/
theorem W_lamHit {c' : Addr} {Q : Value → KH → OL → Prop} (hdef : defaultsOf params env = ([], [])) (hcl : closureFor scope env = pure clos) (hge : env.globals = mainGlobals) (hcode : env.code = .ref cc) (hC : CodeHd C.G cc P)
    (ht : TriplesOk ps.toList) (hf : codeAmong pos ps.toList = some (.ref c')) (hm : (P, .ex (tabObj ps)) ∈ O)
    (h : ∀ f ctv, Q (.ref f) K ((f, .ex (lamObj mg (env.qual ++ "<lambda>") params body scope clos c' ctv)) :: O)) :
    W C n K O (eval (.Lambda params body scope pos) env) Q := fun A hA s S => by
  have hP := At.ex (S.own _ hm)
  have hPG := (S.apart _ hm).2
  refine kla_eval hdef (kla_makeFunctionHit (mg := mg) hcl hge (w.g.keeps S.base) hcode (hC.keeps S.base) hP ht hf ((w.bm P fun o e => by rw [hPG] at e; cases e).keeps S.base) fun ctv h' tk hk hsz => ?_)
  exact ⟨K, _, (S.grow (tk := tk) (dr := s.drawn) hk).push (tk := tk) (dr := s.drawn) rfl rel_ex, h _ ctv⟩
end

section
variable {P : Params}
theorem sc_make : makesIn (hd.heap_1 P) 45 = true := by kernel_rfl
theorem sc_init : findIn (hd.heap_1 P) (.ref 45) "__init__" = some (some (.ref 42)) := by kernel_rfl
theorem sc_fn : typeIn (hd.heap_1 P) (.ref 42) = some (.type "function") := by kernel_rfl
theorem sc_ga : findIn (hd.heap_1 P) (.ref 45) "__getattribute__" = some (some (.builtin "object.__getattribute__")) := by kernel_rfl
theorem sc_gt : findIn (hd.heap_1 P) (.ref 45) "__getattr__" = some none := by kernel_rfl
theorem sc_sa : findIn (hd.heap_1 P) (.ref 45) "__setattr__" = some (some (.builtin "object.__setattr__")) := by kernel_rfl
theorem sc_po : plainOver (hd.heap_1 P) 45 = true := by kernel_rfl
theorem sc_hd : (clsIn (hd.heap_1 P) 45).any (·.hasDict) = true := by kernel_rfl
theorem sc_it : findIn (hd.heap_1 P) (.ref 45) "iter" = some none := by kernel_rfl
theorem sc_ito : attrOwn (hd.heap_1 P) 45 "iter" = true := by kernel_rfl
theorem sc_pm : attrCls (hd.heap_1 P) 45 "parent_map" .none = true := by kernel_rfl
theorem sc_pmo : attrOwn (hd.heap_1 P) 45 "parent_map" = true := by kernel_rfl
theorem sc_rto : attrOwn (hd.heap_1 P) 45 "root" = true := by kernel_rfl
theorem tab_208 : codeHdIn (hd.heap_1 P) 207 203 = true := by kernel_rfl
theorem tab_law : codeHdIn (hd.heap_1 P) 212 210 = true := by kernel_rfl
end
theorem c_sel {C : WC} {mg mb} (w : Wd C mg mb) {n : Nat} {K : KH} {O : OL} {v : Value} {Q : Value → KH → OL → Prop} (hn : n ≤ 370)
    (h : ∀ a dx od, NsK od (setm nom "root" v) 1 → Q (.ref a) K ((a, .ex (instObj 45 dx)) :: (dx, .ex od) :: O)) : W C n K O (call (.ref 45) [v] []) Q := by
  refine W_make w sc_make sc_init sc_fn fun a dx od hod => ?_
  refine w.callD f42 [("self", .ref a), ("root", v)] (by omega) (by kernel_rfl) (fun _ => by kernel_rfl) (by kernel_rfl) (by kernel_rfl) (fun L => ?_)
  show W _ _ _ _ (storeBinds _ _) _
  repeat cell_call
  refine W_AssignAttr ?_
  repeat cell_call
  refine W_assignAttr ?_
  repeat cell_call
  refine W_setAttr w (m := nom) (by walk_at "h") hod (by omega) (fun o' => by walk_at "u") sc_sa sc_po (by kernel_rfl) sc_hd fun od1 hod1 => ?_
  repeat cell_call
  exact ⟨_, List.sublist_cons_self _ _, rfl, h a dx od1 hod1⟩
end
section
/- a table of texts -/
def putS (ps : List (Str × Str)) (k v : Str) : List (Str × Str) := if ps.any (fun p => p.1 = k) then ps.map (fun p => if p.1 = k then (p.1, v) else p) else ps ++ [(k, v)]
def famStep (acc : List (Str × Str)) (p : Str) : List (Str × Str) := (letters p).foldl (fun acc e => putS acc e p) acc
def famOf (ss : List Str) : List (Str × Str) := ss.foldl famStep []
def KV : List (Str × Value) → List (Str × Str) → Prop := A2 fun kv p => kv.1 = p.1 ∧ StrV kv.2 p.2
theorem KV.any {kvs : List (Str × Value)} {ps : List (Str × Str)} (h : KV kvs ps) (k : Str) : (kvs.any fun kv => kv.1 = k) = ps.any fun p => p.1 = k := by
  unfold KV at h
  induction h with
  | nil => rfl
  | cons x _ ih => simp only [List.any_cons, ih, x.1]
theorem KV.mapPut {kvs : List (Str × Value)} {ps : List (Str × Str)} (h : KV kvs ps) {k : Str} {v : Value} {s : Str} (hv : StrV v s) :
    KV (kvs.map fun kv => if kv.1 = k then (kv.1, v) else kv) (ps.map fun p => if p.1 = k then (p.1, s) else p) := by
  unfold KV at *
  induction h with
  | nil => exact .nil
  | cons x _ ih =>
    rw [List.map_cons, List.map_cons]
    refine .cons ?_ ih
    rw [x.1]
    split
    · exact ⟨rfl, hv⟩
    · exact x
theorem KV.put {kvs : List (Str × Value)} {ps : List (Str × Str)} (h : KV kvs ps) {k : Str} {v : Value} {s : Str} (hv : StrV v s) : KV (stored kvs k v) (putS ps k s) := by
  unfold stored putS
  rw [h.any]
  split
  · exact h.mapPut hv
  · exact h.snoc ⟨rfl, hv⟩
theorem putS_len (ps : List (Str × Str)) (k v : Str) : (putS ps k v).length ≤ ps.length + 1 := by
  unfold putS
  split <;> simp
theorem KV.at' {kvs : List (Str × Value)} {ps : List (Str × Str)} (h : KV kvs ps) {k s : Str} (e : (ps.find? fun p => p.1 = k).map (·.2) = some s) : ∃ v, valueAt kvs k = some v ∧ StrV v s := by
  unfold KV at h
  induction h with
  | nil => simp at e
  | cons x _ ih =>
    rename_i a b l m _
    unfold valueAt at ih ⊢
    rw [List.find?_cons] at e ⊢
    rw [x.1]
    by_cases hb : b.1 = k
    · simp only [hb, decide_true, Option.map_some, Option.some.injEq] at e ⊢
      exact ⟨_, rfl, e ▸ x.2⟩
    · simp only [hb, decide_false] at e ⊢
      exact ih e
theorem KV.keys {kvs : List (Str × Value)} {ps : List (Str × Str)} (h : KV kvs ps) : kvs.map (·.1) = ps.map (·.1) := by
  unfold KV at h
  induction h with
  | nil => rfl
  | cons x _ ih => simp only [List.map_cons, ih, x.1]

theorem W_AssignAN {C : WC} {n : Nat} {K : KH} {O : OL} {env : Env} {pos : Pos} {e : Expr} {x y : Str} {px py : Pos} {value : Expr} {Q : Flow → KH → OL → Prop}
    (h : W C n K O (eval value env) fun v K O => W C n K O (assign (.Attribute e x px) env v) fun _ K O => W C n K O (storeName env y v) fun _ K O => Q .next K O)
    (hs : swapsWithSole [.Attribute e x px, .Name y py] value pos.line env = pure false := by rfl) (hw : swappedStores [.Attribute e x px, .Name y py] value env = pure none := by rfl)
    (he : (assignEach [.Attribute e x px, .Name y py] env).map (·.2) = [assign (.Attribute e x px) env, assign (.Name y py) env] := by rfl) :
    W C n K O (exec (.Assign [.Attribute e x px, .Name y py] value pos) env) Q := by
  refine W_AssignStores (W_mono h fun v K O h => ?_) hs hw
  rw [he]
  exact W_assignAll2 (W_mono h fun _ K O h => W_assignAll1 (W_assignName h))

theorem Wd.g28 {C : WC} {mg mb} (w : Wd C mg mb) : ∃ o, C.G.get? 28 = some o := by
  obtain ⟨c, d, s, e⟩ := f28.lies C.w.params
  exact ⟨_, w.k _ _ e⟩

/-- get_parent_map, when the context has no map yet -/
theorem c_map1 {C : WC} {mg mb} (w : Wd C mg mb) {n : Nat} {K : KH} {O : OL} {x dx r rdx f F : Addr} {od ro : Obj} {fd : FuncData} {m rm : Str → Option Value} {vs : List Value} {ss : List Str} {Q : Value → KH → OL → Prop} (hn : n ≤ 360)
    (hx : K x = some (.ex (instObj 45 dx))) (hod : NsK od m 1) (hm1 : m "parent_map" = none) (hm2 : m "root" = some (.ref r)) (hr : K r = some (.ex (instObj 45 rdx))) (hrd : K rdx = some (.ex ro)) (hro : NsK ro rm 2) (hrm : rm "iter" = some (.ref f))
    (hf : ∀ O', FnAt C K O' f fd) (hcall : ∀ n' O' Q, n' ≤ 370 → Q (.ref F) K O' → W C n' K O' (call (.ref f) [] []) Q)
    (hF : ∀ O', O.Sublist O' → LstAt C K O' F vs) (hvs : A2 StrV vs ss) (hz : ∀ s ∈ ss, s.cps.size ≤ 200) (hl : ss.length ≤ 400)
    (h : ∀ d o od' kvs, d ≠ sysModules → DictO C o kvs → KV kvs (famOf ss) → kvs.length ≤ 100000 → NsK od' (setm m "parent_map" (.ref d)) 2 → Q (.ref d) K ((d, .ex o) :: (dx, .ex od') :: O)) :
    W C n K ((dx, .ex od) :: O) (call (.ref 28) [.ref x] []) Q := by
  refine w.call f28 [("context", .ref x)] (by omega) (by kernel_rfl) (fun _ => by kernel_rfl) (by kernel_rfl) (by kernel_rfl) (fun L => ?_)
  show W _ _ _ _ (storeBinds _ _) _
  repeat cell_call
  refine W_Attribute ?_
  repeat cell_call
  refine W_getOfCls w (m := m) (v := .none) ⟨by walk_at "h", od, _, by walk_at "h", hod⟩ hm1 sc_ga sc_pm ?_
  repeat cell_call
  refine W_AssignAN ?_
  refine W_Dict0 w.g28 fun d o hd ho => ?_
  refine W_assignAttr ?_
  repeat cell_call
  refine W_setAttr w (m := m) (by walk_at "h") hod (by omega) (fun o' => by walk_at "u") sc_sa sc_po (by kernel_rfl) sc_hd fun od1 hod1 => ?_
  repeat cell_call
  refine W_CallHeld w (c := 45) sc_ga sc_gt sc_it sc_ito ?_
  refine W_Attribute ?_
  repeat cell_call
  refine W_getOwn w (m := setm m _ (.ref d)) ⟨by walk_at "h", od1, _, by walk_at "h", hod1⟩ ((setm_ne (by decide +kernel)).trans hm2) sc_ga sc_rto rfl ?_
  refine ⟨r, rdx, rm, f, fd, rfl, ⟨.inl hr, ro, _, .inl hrd, hro⟩, hrm, hf _, hcall _ _ _ (by omega) ?_⟩
  have hlv := hvs.length
  refine W_forLst (vs := vs) (fun i K' O' => X3 fun mm o' kvs => V6 (K' = K) (O' = (d, .ex o') :: (L, .ns mm) :: (dx, .ex od1) :: O) (mm "parent_map" = some (.ref d)) (DictO C o' kvs) (KV kvs ((ss.take i).foldl famStep [])) (kvs.length ≤ 200 * i))
    (hF _ (by walk_at "s")) ?_ ?_ ?_ ?_
  · rintro i K' O' st it ⟨mm, o', kvs, rfl, rfl, _⟩
    exact hF _ (by walk_at "s")
  · exact ⟨_, o, [], rfl, rfl, by walk_at "g", ho, .nil, by simp⟩
  · rintro it i K' O' st v hv ⟨mm, o', kvs, rfl, rfl, g1, ho', hkv, hkl⟩
    obtain ⟨z, hzi, tz, rfl⟩ := hvs.at' i v hv
    have hzs := hz z (List.mem_of_getElem? hzi)
    repeat cell_call
    refine W_forStr (fun j K₂ O₂ => X3 fun mm o' kvs => V7 (K₂ = K') (O₂ = (it, st) :: (d, .ex o') :: (L, .ns mm) :: (dx, .ex od1) :: O) (mm "parent_map" = some (.ref d)) (mm "p" = some (.str z tz)) (DictO C o' kvs) (KV kvs (((letters z).take j).foldl (fun acc e => putS acc e z) ((ss.take i).foldl famStep []))) (kvs.length ≤ 200 * i + j)) ?_ ?_ ?_
    · exact ⟨_, o', kvs, rfl, rfl, by walk_at "g", by walk_at "g", ho', by simpa using hkv, by omega⟩
    · rintro it₂ j K₂ O₂ st₂ c hc ⟨mm, o', kvs, rfl, rfl, g1, g2, ho', hkv, hkl⟩ tc
      repeat cell_call
      refine W_setDict (kvs := kvs) (fun o'' => by walk_at "u") ho' (by
        have := (List.getElem?_eq_some_iff.mp hzi).1
        have := (Array.getElem?_eq_some_iff.mp hc).1
        omega) fun o'' ho'' => ?_
      repeat cell_call
      refine turn_next (List.Sublist.refl _) ?_
      refine ⟨_, o'', _, rfl, rfl, by walk_at "g", by walk_at "g", ho'', ?_, ?_⟩
      · have hx : (letters z)[j]? = some ⟨#[c]⟩ := by
          unfold letters
          rw [List.getElem?_map, Array.getElem?_toList, hc]; rfl
        rw [List.take_add_one, hx, List.foldl_append]
        exact hkv.put ⟨_, rfl⟩
      · have h1 := (hkv.put (k := ⟨#[c]⟩) (v := .str z tz) ⟨tz, rfl⟩).length
        have h2 := putS_len (((letters z).take j).foldl (fun acc e => putS acc e z) ((ss.take i).foldl famStep [])) ⟨#[c]⟩ z
        have h3 := hkv.length
        omega
    · rintro K₂ O₂ ⟨mm, o', kvs, rfl, rfl, g1, g2, ho', hkv, hkl⟩
      repeat cell_call
      refine turn_next (List.Sublist.refl _) ?_
      refine ⟨_, o', kvs, rfl, rfl, by walk_at "g", ho', ?_, by omega⟩
      rw [List.take_add_one, hzi, List.foldl_append]
      rw [show (letters z).take z.cps.size = letters z from List.take_of_length_le (by simp [letters])] at hkv
      exact hkv
  · rintro K' O' ⟨mm, o', kvs, rfl, rfl, g1, ho', hkv, hkl⟩
    repeat cell_call
    rw [hlv, List.take_length] at hkv
    refine ret_of (O₂ := (d, .ex o') :: (dx, .ex od1) :: O) (by walk_at "s") (h d o' od1 kvs hd ho' hkv (by omega) hod1)

/-- and when it has one -/
theorem c_map2 {C : WC} {mg mb} (w : Wd C mg mb) {n : Nat} {K : KH} {O : OL} {x dx d : Addr} {m : Str → Option Value} {Q : Value → KH → OL → Prop} (hn : n ≤ 360)
    (hi : InsAt C K O x dx 45 m) (hm1 : m "parent_map" = some (.ref d)) (h : Q (.ref d) K O) : W C n K O (call (.ref 28) [.ref x] []) Q := by
  refine w.call f28 [("context", .ref x)] (by omega) (by kernel_rfl) (fun _ => by kernel_rfl) (by kernel_rfl) (by kernel_rfl) (fun L => ?_)
  show W _ _ _ _ (storeBinds _ _) _
  repeat cell_call
  refine W_Attribute ?_
  repeat cell_call
  obtain ⟨i1, o, k', i2, i3⟩ := hi
  refine W_getOwn w (m := m) ⟨i1.cons, o, k', i2.cons, i3⟩ hm1 sc_ga sc_pmo rfl ?_
  repeat cell_call
  exact ret_of (List.sublist_cons_self _ _) h
end
section
theorem W_callLamK {C : WC} {mg mb} (w : Wd C mg mb) {n : Nat} {K : KH} {O : OL} {f c' : Addr} {qual : Str} {params : Arguments} {body : Expr} {scope : Scope} {clos : List (Str × Addr)} {ctv : Value} {oc : Obj} {ps : List Value} {Q : Value → KH → OL → Prop} (hn : n ≤ 390)
    (hf : Has C K O f (.ex (lamObj mg qual params body scope clos c' ctv))) (hc : Has C K O c' (.ex oc)) (ho : OcOk oc qual) (binds : List (Str × Value))
    (hb : bindArgs (kla_fn "<lambda>" qual params body scope clos ((mg "__name__").getD .none) (.ref c') ctv) ⟨ps, []⟩ = pure binds)
    (h : ∀ L, LayC scope.names clos ((L, .ns nom) :: O) fun cells O' => W C (n + 1) K O' (storeBinds (fnEnv (kla_fn "<lambda>" qual params body scope clos ((mg "__name__").getD .none) (.ref c') ctv) f L cells) binds) fun _ K O' =>
      W C (n + 1) K O' (eval body (fnEnv (kla_fn "<lambda>" qual params body scope clos ((mg "__name__").getD .none) (.ref c') ctv) f L cells)) fun v K' O' => ∃ O₂, O₂.Sublist O' ∧ Q v K' O₂)
    (hco : scope.isCoroutine = false) (hgen : scope.isGenerator = false) : W C n K O (call (.ref f) ps []) Q := by
  refine W_callLam (fd := kla_fn "<lambda>" qual params body scope clos ((mg "__name__").getD .none) (.ref c') ctv) hn (FnAt.has hf rfl) w.lim (fun s S => ?_) rfl (fun s S => BindsTo.of_eq hb) h hco hgen
  obtain ⟨vs, t, hd, hv⟩ := ho
  exact ⟨c', oc, vs, t, rfl, At.ex (S.has hc), hd, hv⟩

theorem c_table {C : WC} {mg mb} (w : Wd C mg mb) {n : Nat} {K : KH} {O : OL} {F : Addr} {vs : List Value} {ss : List Str} {Q : Value → KH → OL → Prop} (hn : n ≤ 350)
    (hvs : A2 StrV vs ss) (hz : ∀ s ∈ ss, s.cps.size ≤ 200) (hl : ss.length ≤ 400)
    (h : ∀ K' d o kvs ps, KLe K K' → K' 203 = some (.ex (tabObj ps)) → d ≠ sysModules → K' d = some (.ex o) → DictO C o kvs → KV kvs (famOf ss) → kvs.length ≤ 100000 → Q (.ref d) K' O) :
    W C n K ((203, .ex (tabObj #[])) :: (F, .list vs) :: O) (call (.ref 208) [.ref F] []) Q := by
  refine w.call f208 [("families", .ref F)] (by omega) (by kernel_rfl) (fun _ => by kernel_rfl) (by kernel_rfl) (by kernel_rfl) (fun L => ?_)
  refine fun c => ?_
  show W _ _ _ _ (storeBinds _ _) _
  repeat cell_call
  refine W_callCls w sc_make ?_
  repeat cell_call
  refine c_sel w (by omega) fun r rdx ro hro => ?_
  refine W_freezeD (a := r) (by walk_at "d") fun K₁ hle₁ hr => ?_
  refine W_freezeD (a := c) (by walk_at "d") fun K₂ hle₂ hc => ?_
  repeat cell_call
  refine W_AssignAttr ?_
  refine W_lamNew w (P := 203) (cc := 207) (clos := [("families", c)]) (ps := #[]) (by kernel_rfl) (by kernel_rfl) (by kernel_rfl) (by kernel_rfl) (codeHd_of w.k tab_208) True.intro (by kernel_rfl) (fun o' => by walk_at "u") fun f c' ctv oc hoc => ?_
  refine W_freezeD (a := f) (by walk_at "d") fun K₃ hle₃ hf => ?_
  refine W_freezeD (a := c') (by walk_at "d") fun K₄ hle₄ hc' => ?_
  refine W_freezeD (a := 203) (by walk_at "d") fun Kt hlet ht => ?_
  replace hle₄ := hle₄.trans hlet
  replace hc' := hlet _ _ hc'
  have hc4 := hle₄ _ _ (hle₃ _ _ hc)
  have hf4 := hle₄ _ _ hf
  have hr4 := hle₄ _ _ (hle₃ _ _ (hle₂ _ _ hr))
  refine W_assignAttr ?_
  repeat cell_call
  refine W_setAttr w (a := r) (by walk_at "h") hro (by omega) (fun o' => by walk_at "u") sc_sa sc_po (by kernel_rfl) sc_hd fun ro1 hro1 => ?_
  refine W_freezeD (a := rdx) (by walk_at "d") fun K₅ hle₅ hrd => ?_
  have hc5 := hle₅ _ _ hc4
  have hf5 := hle₅ _ _ hf4
  have hr5 := hle₅ _ _ hr4
  have hc5' := hle₅ _ _ hc'
  repeat cell_call
  refine W_callCls w sc_make ?_
  repeat cell_call
  refine c_sel w (by omega) fun x dx od hod => ?_
  refine W_freezeD (a := x) (by walk_at "d") fun K₆ hle₆ hx => ?_
  have hc6 := hle₆ _ _ hc5
  have hf6 := hle₆ _ _ hf5
  have hr6 := hle₆ _ _ hr5
  have hrd6 := hle₆ _ _ hrd
  have hc6' := hle₆ _ _ hc5'
  repeat cell_call
  refine W_callF (fd := f28.fd) ?_
  repeat cell_call
  refine ⟨w.fn f28, ?_⟩
  refine c_map1 w (x := x) (r := r) (rdx := rdx) (f := f) (F := F) (vs := vs) (ss := ss) (by omega) hx hod (by rfl) (by rfl) hr6 hrd6 hro1 setm_eq (fun O' => FnAt.has (.inl hf6) rfl) (fun n' O' Q' hn' hQ => ?_) (fun O' hs => LstAt.o (hs.subset (by walk_at "m"))) hvs hz hl fun d o od' kvs hd ho hkv hkl hod' => ?_
  · refine W_callLamK w (by omega) (.inl hf6) (.inl hc6') hoc [] (by kernel_rfl) (fun L' => ?_) (by kernel_rfl) (by kernel_rfl)
    show W _ _ _ _ (storeBinds _ _) _
    refine W_binds_nil ?_
    refine W_free (c := c) (by kernel_rfl) (by kernel_rfl) (by walk_at "a") (.inl hc6) ?_ (by decide +kernel) (by decide +kernel)
    exact ⟨O', List.sublist_cons_self _ _, hQ⟩
  repeat cell_call
  refine ⟨F, vs, rfl, by walk_at "h", ?_⟩
  repeat cell_call
  · have := hvs.length; have : sizeLine = 16777216 := rfl; omega
  refine ⟨nofun, ?_⟩
  repeat cell_call
  refine W_IfExp ?_
  repeat cell_call
  refine W_callF (fd := f28.fd) ?_
  repeat cell_call
  refine ⟨w.fn f28, ?_⟩
  refine c_map2 w (d := d) (m := setm _ _ (.ref d)) (by omega) ⟨.inl hx, od', _, by walk_at "h", hod'⟩ setm_eq ?_
  refine W_freezeD (a := d) (by walk_at "d") fun K₇ hle₇ hd7 => ?_
  repeat cell_call
  exact ret_of (by walk_at "s") (h K₇ d o kvs _ (hle₁.trans (hle₂.trans (hle₃.trans (hle₄.trans (hle₅.trans (hle₆.trans hle₇)))))) (hle₇ _ _ (hle₆ _ _ (hle₅ _ _ ht))) hd hd7 ho hkv hkl)
end
section
local macro_rules | `(tactic| fin_run) => `(tactic| (refine W_free (by kernel_rfl) (by kernel_rfl) (by walk_at "a") (by walk_at "h") ?_ (by decide +kernel) (by decide +kernel)))
noncomputable def f213 : FnD 213 := ⟨_, _, fun _ => ⟨_, _, _, rfl⟩, rfl⟩
theorem Upd.same' {O O' : OL} {a : Addr} {x y : AO} (u : Upd O a x y O') (e : x = y) : O' = O := by
  induction u with
  | here => rw [e]
  | there _ ih => rw [ih e]
theorem Upd.same {O O' : OL} {a : Addr} {x : AO} (u : Upd O a x x O') : O' = O := u.same' rfl

theorem LstAt.ki {C : WC} {K : KH} {O : OL} {a : Addr} {vs : List Value} (h : K a = some (.ilist vs)) : LstAt C K O a vs := fun s S => by
  obtain ⟨o, ho, hc, n, hd⟩ := S.kn _ _ h
  exact ⟨o, ho, hc, n, hd⟩

/-- what a table of code objects tells of a place -/
def Lk (K : KH) (ps : Array Value) (pos : Pos) (qual : Str) : Prop := codeAmong pos ps.toList = none ∨ ∃ c' oc, codeAmong pos ps.toList = some (.ref c') ∧ K c' = some (.ex oc) ∧ OcOk oc qual
theorem among_ne {pos pos' : Pos} {c : Value} (hne : (((pos.line : Int) == pos'.line) && ((pos.col : Int) == pos'.col)) = false) : ∀ (l : List Value), TriplesOk l → codeAmong pos' (l ++ [rawInt pos.line, rawInt pos.col, c]) = codeAmong pos' l := fun l h => by
  fun_induction TriplesOk l with
  | case1 => simp [codeAmong, rawInt]; intro a b; simp [a, b] at hne
  | case2 a t b u x rest ih =>
    simp only [List.cons_append, codeAmong]
    split
    · rfl
    · exact ih h
  | case3 => exact h.elim
theorem Lk.none {K : KH} {pos : Pos} {qual : Str} : Lk K #[] pos qual := .inl rfl
theorem Lk.mono {K K' : KH} {ps : Array Value} {pos : Pos} {qual : Str} (h : Lk K ps pos qual) (hle : KLe K K') : Lk K' ps pos qual := by
  rcases h with h | ⟨c', oc, h1, h2, h3⟩
  · exact .inl h
  · exact .inr ⟨c', oc, h1, hle _ _ h2, h3⟩

/-- a lambda is made, new or not -/
theorem W_lam {C : WC} {mg mb} (w : Wd C mg mb) {n : Nat} {K : KH} {O : OL} {env : Env} {pos : Pos} {params : Arguments} {body : Expr} {scope : Scope} {clos : List (Str × Addr)} {cc P : Addr} {ps : Array Value} {O' : Obj → OL} {Q : Value → KH → OL → Prop}
    (hdef : defaultsOf params env = ([], [])) (hcl : closureFor scope env = pure clos) (hge : env.globals = mainGlobals) (hcode : env.code = .ref cc) (hC : CodeHd C.G cc P)
    (ht : TriplesOk ps.toList) (hlk : Lk K ps pos (env.qual ++ "<lambda>")) (u : ∀ o', Upd O P (.ex (tabObj ps)) (.ex o') (O' o'))
    (h : ∀ f c' ctv oc K' ps', KLe K K' → K' f = some (.ex (lamObj mg (env.qual ++ "<lambda>") params body scope clos c' ctv)) → K' c' = some (.ex oc) → OcOk oc (env.qual ++ "<lambda>") → TriplesOk ps'.toList →
      (∀ pos', Lk K ps pos' (env.qual ++ "<lambda>") → Lk K' ps' pos' (env.qual ++ "<lambda>")) → Q (.ref f) K' (O' (tabObj ps'))) :
    W C n K O (eval (.Lambda params body scope pos) env) Q := by
  rcases hlk with hnf | ⟨c', oc, hf, hc, hoc⟩
  · refine W_thenFreeze (W_thenFreeze (W_lamNew w hdef hcl hge hcode hC ht hnf u fun f c' ctv oc hoc => ⟨f, _, _, .here, fun K₁ hle₁ hf => ⟨c', _, _, .here, fun K₂ hle₂ hc => ?_⟩⟩))
    refine h f c' ctv oc K₂ _ (hle₁.trans hle₂) (hle₂ _ _ hf) hc hoc (by simpa using TriplesOk_snoc _ _ _ _ ht) fun pos' hl => ?_
    cases hp : (((pos.line : Int) == pos'.line) && ((pos.col : Int) == pos'.col)) with
    | false =>
      have e : codeAmong pos' (ps ++ #[rawInt pos.line, rawInt pos.col, .ref c']).toList = codeAmong pos' ps.toList := by simpa using among_ne hp ps.toList ht
      rcases hl with hl | ⟨c'', oc', h1, h2, h3⟩
      · exact .inl (e.trans hl)
      · exact .inr ⟨c'', oc', e.trans h1, hle₂ _ _ (hle₁ _ _ h2), h3⟩
    | true =>
      have hp' : pos'.line = pos.line ∧ pos'.col = pos.col := by simp at hp; exact ⟨by omega, by omega⟩
      have e : ∀ l, codeAmong pos' l = codeAmong pos l := fun l => by
        fun_induction codeAmong pos l with
        | case1 line t col u c rest hh => rw [codeAmong, hp'.1, hp'.2, if_pos hh]
        | case2 line t col u c rest hh ih => rw [codeAmong, hp'.1, hp'.2, if_neg hh, ih]
        | case3 l hne =>
          unfold codeAmong
          split
          · rename_i a b c d e f; exact (hne _ _ _ _ _ _ rfl).elim
          · rfl
      refine .inr ⟨c', oc, ?_, hc, hoc⟩
      rw [e]
      simpa using codeAmong_snoc ps.toList ht hnf
  · have hs : O' (tabObj ps) = O := (u (tabObj ps)).same
    refine W_thenFreeze (W_lamHit w hdef hcl hge hcode hC ht hf (u (tabObj ps)).mem fun f ctv => ⟨f, _, _, .here, fun K₁ hle₁ hf => ?_⟩)
    have := h f c' ctv oc K₁ ps hle₁ hf (hle₁ _ _ hc) hoc ht fun pos' hl => hl.mono hle₁
    rwa [hs] at this
abbrev lamPar (p : Pos) : Arguments := { posonlyargs := [], args := [{ arg := Str.ofString "i", annotation := none, pos := p }], vararg := none, kwonlyargs := [], kw_defaults := [], kwarg := none, defaults := [] }
abbrev lamSc : Scope := { kind := ScopeKind.function, names := [(Str.ofString "i", NameKind.local), (Str.ofString "steps", NameKind.free)], isGenerator := false, isCoroutine := false }
abbrev lamKey (p1 p2 p3 p4 p5 p6 p7 p8 p9 q1 q2 q3 q4 : Pos) : Expr :=
  ((Expr.Constant (Const.int 6) 0 p1).BinOp Operator.Mult (((Expr.Name (Str.ofString "steps") p2).Subscript (Expr.Name (Str.ofString "i") p3) p4).Subscript (Expr.Constant (Const.int 1) 0 p5) p6) p7).BinOp
    Operator.FloorDiv (((Expr.Name (Str.ofString "steps") p8).Subscript (Expr.Name (Str.ofString "i") p9) q1).Subscript (Expr.Constant (Const.int 0) 0 q2) q3) q4
def keyF (steps : List (Int × Int)) (i : Int) : Int := (6 * (stepOf steps i).2).fdiv (stepOf steps i).1
def StepsOk (steps : List (Int × Int)) : Prop := steps.length = 4 ∧ ∀ p ∈ steps, (1 ≤ p.1 ∧ p.1 ≤ 3) ∧ 0 ≤ p.2 ∧ p.2 ≤ 2
theorem StepsOk.at {K : KH} {ss : List Value} {steps : List (Int × Int)} (h : StepsOk steps) (hss : A2 (PairV K) ss steps) {k : Int} (h0 : 0 ≤ k) (h1 : k < 4) :
    ((1 ≤ (stepOf steps k).1 ∧ (stepOf steps k).1 ≤ 3) ∧ 0 ≤ (stepOf steps k).2 ∧ (stepOf steps k).2 ≤ 2) ∧ ∃ T t u, ss[k.toNat]? = some (.ref T) ∧ K T = some (.tup [.int (stepOf steps k).1 t, .int (stepOf steps k).2 u]) := by
  have h4 := h.1
  have e2 : stepOf steps k = steps[k.toNat]'(by omega) := by unfold stepOf; rw [List.getD_eq_getElem?_getD, List.getElem?_eq_getElem (by omega)]; rfl
  refine ⟨by rw [e2]; exact h.2 _ (List.getElem_mem _), ?_⟩
  obtain ⟨a, e, T, x, y, t, u, rfl, hK, rfl, rfl⟩ := hss.get' k.toNat (by omega)
  exact ⟨T, t, u, e, by rw [e2]; exact hK⟩
theorem W_key {C : WC} {n : Nat} {K : KH} {O : OL} {L c7 S : Addr} {ss : List Value} {steps : List (Int × Int)} {p1 p2 p3 p4 p5 p6 p7 p8 p9 q1 q2 q3 q4 : Pos} {i : Int} {t : Tok} {cd : Value} {fa : Addr} {q : Str} {Q : Value → KH → OL → Prop}
    (hc : K c7 = some (.cell (some (.ref S)))) (hS : K S = some (.list ss)) (hss : A2 (PairV K) ss steps) (hs : StepsOk steps) (h0 : 0 ≤ i) (h1 : i < 4)
    (h : ∀ t', Q (.int (keyF steps i) t') K ((L, .ns (setm nom (Str.ofString "i") (.int i t))) :: O)) :
    W C n K ((L, .ns (setm nom (Str.ofString "i") (.int i t))) :: O) (eval (lamKey p1 p2 p3 p4 p5 p6 p7 p8 p9 q1 q2 q3 q4) (newEnv lamSc L mainGlobals [(Str.ofString "steps", c7)] q (some fa) cd none builtinsNs)) Q := by
  obtain ⟨⟨⟨b1, b2⟩, b3, b4⟩, T, u1, u2, hT, hK⟩ := hs.at hss h0 h1
  have hl := hss.length
  have h4 := hs.1
  repeat cell_call
  refine sub_list (vs := ss) (by walk_at "l") (W_itemE (vs := ss) (j := i.toNat) (by walk_at "l") (by omega) (by omega) hT ?_)
  repeat cell_call
  refine sub_tup (TupAt.has (.inl hK)) (W_tupItem (TupAt.has (.inl hK)) (by decide) (by decide) (by rfl) ?_)
  repeat cell_call
  refine sub_list (vs := ss) (by walk_at "l") (W_itemE (vs := ss) (j := i.toNat) (by walk_at "l") (by omega) (by omega) hT ?_)
  repeat cell_call
  refine sub_tup (TupAt.has (.inl hK)) (W_tupItem (TupAt.has (.inl hK)) (by decide) (by decide) (by rfl) ?_)
  exact W_fdiv (by omega) (by omega) fun t' => h t'
theorem key1 {C : WC} {mg mb} (w : Wd C mg mb) {K : KH} {O : OL} {c7 S kf c' : Addr} {ss : List Value} {steps : List (Int × Int)} {p p1 p2 p3 p4 p5 p6 p7 p8 p9 q1 q2 q3 q4 : Pos} {q : Str} {ctv : Value} {oc : Obj}
    (hf : K kf = some (.ex (lamObj mg q (lamPar p) (lamKey p1 p2 p3 p4 p5 p6 p7 p8 p9 q1 q2 q3 q4) lamSc [(Str.ofString "steps", c7)] c' ctv))) (hc' : K c' = some (.ex oc)) (ho : OcOk oc q)
    (hc : K c7 = some (.cell (some (.ref S)))) (hS : K S = some (.list ss)) (hss : A2 (PairV K) ss steps) (hs : StepsOk steps) : KeyOk C 380 K O kf (keyF steps) :=
  ⟨_, fun P => FnAt.has (.inl hf) rfl, fun n P i t Q hn h0 h1 hq => by
    refine W_callLamK w (by omega) (.inl hf) (.inl hc') ho [(Str.ofString "i", .int i t)] (by kernel_rfl) (fun L => ?_) rfl rfl
    show W _ _ _ _ (storeBinds _ _) _
    iterate 3 cell_call
    exact W_key hc hS hss hs h0 h1 fun t' => ⟨P ++ O, List.sublist_cons_self _ _, hq t'⟩⟩
theorem key2 {C : WC} {mg mb} (w : Wd C mg mb) {K : KH} {O : OL} {c7 S kf c' : Addr} {ss : List Value} {steps : List (Int × Int)} {p p0 p1 p2 p3 p4 p5 p6 p7 p8 p9 q1 q2 q3 q4 : Pos} {q : Str} {ctv : Value} {oc : Obj}
    (hf : K kf = some (.ex (lamObj mg q (lamPar p) (.UnaryOp .USub (lamKey p1 p2 p3 p4 p5 p6 p7 p8 p9 q1 q2 q3 q4) p0) lamSc [(Str.ofString "steps", c7)] c' ctv))) (hc' : K c' = some (.ex oc)) (ho : OcOk oc q)
    (hc : K c7 = some (.cell (some (.ref S)))) (hS : K S = some (.list ss)) (hss : A2 (PairV K) ss steps) (hs : StepsOk steps) : KeyOk C 380 K O kf (fun i => -keyF steps i) :=
  ⟨_, fun P => FnAt.has (.inl hf) rfl, fun n P i t Q hn h0 h1 hq => by
    refine W_callLamK w (by omega) (.inl hf) (.inl hc') ho [(Str.ofString "i", .int i t)] (by kernel_rfl) (fun L => ?_) rfl rfl
    show W _ _ _ _ (storeBinds _ _) _
    iterate 3 cell_call
    refine W_UnaryOp ?_
    exact W_key hc hS hss hs h0 h1 fun t' => W_neg fun t'' => ⟨P ++ O, List.sublist_cons_self _ _, hq t''⟩⟩
end
section
theorem WR_perm {α : Type} {C : WC} {n : Nat} {K : KH} {O O' : OL} {t : Sem α} {Q : α → KH → OL → Prop} (hs : O'.Perm O) (h : WR C n K O' t Q) : WR C n K O t Q := fun A hA s S => h A hA s (S.perm hs)
theorem WR_freezeD {α : Type} {C : WC} {n : Nat} {K : KH} {O O' : OL} {a : Addr} {y : AO} {t : Sem α} {Q : α → KH → OL → Prop} (d : Del O a y O') (h : ∀ K', KLe K K' → K' a = some y → WR C n K' O' t Q) : WR C n K O t Q := WR_perm d.perm (WR_freeze h)
abbrev lawCells (c1 c2 c3 c4 c5 c6 c7 : Addr) : List (Str × Addr) := [(Str.ofString "steps", c7), (Str.ofString "tiles", c6), (Str.ofString "texts", c5), (Str.ofString "y", c4), (Str.ofString "x", c3), (Str.ofString "rises", c2), (Str.ofString "run", c1)]
noncomputable abbrev lawEnv (L c1 c2 c3 c4 c5 c6 c7 : Addr) : Env := fnEnv f213.fd 213 L (lawCells c1 c2 c3 c4 c5 c6 c7)
def stepsOf (figs : List Int) : List (Int × Int) := figs.map fun d => (1 + d.fmod 3, d.fdiv 3)
theorem steps_ok {figs : List Int} (h4 : figs.length = 4) (h : ∀ d ∈ figs, 0 ≤ d ∧ d < 9) : StepsOk (stepsOf figs) := by
  refine ⟨by simp [stepsOf, h4], fun p hp => ?_⟩
  obtain ⟨d, hd, rfl⟩ := List.mem_map.mp hp
  obtain ⟨h0, h1⟩ := h d hd
  dsimp only
  rw [Int.fmod_eq_emod_of_nonneg _ (by decide), Int.fdiv_eq_ediv_of_nonneg _ (by decide)]
  omega
theorem figs_mem (base : Int) (hb : 0 < base) : ∀ k x, ∀ d ∈ figs base k x, 0 ≤ d ∧ d < base
  | 0, x, d, h => by cases h
  | k + 1, x, d, h => by
    rcases List.mem_cons.mp h with rfl | h
    · exact ⟨Int.fmod_nonneg_of_pos _ hb, Int.fmod_lt_of_pos _ hb⟩
    · exact figs_mem base hb k _ d h
/-- the frame's cells and names before the steps are laid -/
theorem law1 {C : WC} {mg mb} (w : Wd C mg mb) {n : Nat} {K : KH} {O : OL} {l L c1 c2 c3 c4 c5 c6 c7 : Addr} {m : Str → Option Value} {xs : List Value} {ns : List Int} {Q : Flow → KH → OL → Prop} (hn : n ≤ 100)
    (hl : ∀ K O, LstAt C K O l xs) (hx : A2 IntV xs ns) (hz : xs.length < 1000000) (hm : m "script" = some (.ref l))
    (h : ∀ K' m' R F La a b ta tb, KLe K K' → K' R = some (.ilist [.int a ta, .int b tb]) → a = (sumsTo ns ns.length).1 → b = (sumsTo ns ns.length).2 →
      (∃ S, K' c7 = some (.cell (some (.ref S))) ∧ LstV PairV K' (.ref S) (stepsOf (figs 9 4 a))) →
      m' "sums" = some (.ref R) → m' "first" = some (.ref F) → m' "last" = some (.ref La) → IntsV K' (.ref F) (insTo (ltR (keyF (stepsOf (figs 9 4 a)))) 4) → IntsV K' (.ref La) (insTo (leL (keyF (stepsOf (figs 9 4 a)))) 4) →
      (∃ ps, K' 210 = some (.ex (tabObj ps))) →
      WR C n K' ((c6, .cell none) :: (c5, .cell none) :: (c4, .cell none) :: (c3, .cell none) :: (c2, .cell none) :: (c1, .cell none) :: (L, .ns m') :: O) (execs (f213.body.drop 5) (lawEnv L c1 c2 c3 c4 c5 c6 c7)) Q) :
    WR C n K ((c7, .cell none) :: (c6, .cell none) :: (c5, .cell none) :: (c4, .cell none) :: (c3, .cell none) :: (c2, .cell none) :: (c1, .cell none) :: (L, .ns m) :: (210, .ex (tabObj #[])) :: O) (execs f213.body (lawEnv L c1 c2 c3 c4 c5 c6 c7)) Q := by
  refine WR_execs_step rfl (W.r ?_)
  repeat cell_call
  refine W_callF (fd := f165.fd) ?_
  repeat cell_call
  refine ⟨w.fn f165, c_sums w (by omega) hl hx hz fun K₁ R a b ta tb hle₁ hR ea eb => ?_⟩
  repeat cell_call
  refine WR_execs_step rfl (W.r ?_)
  refine W_Assign1 ?_ (by kernel_rfl)
  refine W_ListComp (cl := []) (by kernel_rfl) rfl (by decide +kernel) (comp_listP (fun O P h => h) ?_)
  repeat cell_call
  refine W_callF (fd := f172.fd) ?_
  repeat cell_call
  refine sub_list (vs := [.int a ta, .int b tb]) (LstAt.ki hR) (W_itemE (vs := [.int a ta, .int b tb]) (j := 0) (LstAt.ki hR) (by rfl) (by omega) rfl ?_)
  repeat cell_call
  refine ⟨w.fn f172, c_figures w (cnt := 4) (by omega) (by omega) (by omega) (by omega) fun K₂ r hle₂ hr => ?_⟩
  obtain ⟨fa, fs, rfl, hfa, hfs⟩ := hr
  have hfl := hfs.length
  rw [figs_len] at hfl
  refine ⟨fa, fs, rfl, .k hfa, by omega, fun j K' ws => KLe K₂ K' ∧ A2 (PairV K') ws (stepsOf ((figs 9 4 a).take j)), ⟨KLe.refl _, .nil⟩, ?_, ?_, ?_⟩
  · rintro D L₂ it j K' st m₂ ws ⟨hle, _⟩
    exact .k (hle _ _ hfa)
  · rintro D L₂ it j K' st m₂ ws v hv ⟨hle, hws⟩
    obtain ⟨d, hdj, td, rfl⟩ := hfs.at' j v hv
    have hd := figs_mem 9 (by decide) 4 a d (List.mem_of_getElem? hdj)
    iterate 3 cell_call
    refine W_thenFreeze ?_
    repeat cell_call
    refine W_modE (c := d.fmod 3) (by decide) rfl fun t3 => ?_
    repeat cell_call
    refine W_fdivE (c := d.fdiv 3) (by decide) (by decide) rfl fun t4 => ?_
    repeat cell_call
    refine ⟨by show 2 ≤ sizeLine; decide, fun T => ⟨T, _, _, .here, fun K₃ hle₃ hT => ?_⟩⟩
    refine turnC (List.Sublist.refl _) ⟨hle.trans hle₃, ?_⟩
    rw [List.take_add_one, hdj]
    unfold stepsOf at hws ⊢
    rw [List.map_append]
    exact (hws.mono fun v p hp => mono_pair _ _ _ _ hle₃ hp).snoc ⟨T, _, _, _, _, rfl, hT, rfl, rfl⟩
  rintro S L₂ m₂ K₃ ss ⟨hle₃, hss⟩
  rw [hfl, List.take_of_length_le (by rw [figs_len]; omega)] at hss
  refine ⟨_, _, _, List.Sublist.refl _, by walk_at "d", ?_⟩
  refine W_freezeD (a := S) (by walk_at "d") fun K₄ hle₄ hS => ?_
  replace hss := hss.mono fun v p hp => mono_pair _ _ _ _ hle₄ hp
  repeat cell_call
  refine WR_freezeD (a := c7) (by walk_at "d") fun K₅ hle₅ hc7 => ?_
  replace hS := hle₅ _ _ hS
  replace hss := hss.mono fun v p hp => mono_pair _ _ _ _ hle₅ hp
  have hso : StepsOk (stepsOf (figs 9 4 a)) := steps_ok (figs_len _ _ _) (figs_mem 9 (by decide) 4 a)
  have hR5 := hle₅ _ _ (hle₄ _ _ (hle₃ _ _ (hle₂ _ _ hR)))
  have hle05 : KLe K K₅ := hle₁.trans (hle₂.trans (hle₃.trans (hle₄.trans hle₅)))
  refine WR_execs_step rfl (W.r ?_)
  repeat cell_call
  refine ⟨by show 0 ≤ sizeLine; decide, fun F => ?_⟩
  repeat cell_call
  refine WR_execs_step rfl (W.r ?_)
  repeat cell_call
  refine ⟨by show 0 ≤ sizeLine; decide, fun La => ?_⟩
  repeat cell_call
  refine WR_execs_step rfl (W.r ?_)
  repeat cell_call
  generalize hst : stepsOf (figs 9 4 a) = steps at *
  obtain ⟨_, _, hfacts⟩ := ins_facts (keyF steps)
  have hmR : ∀ j, j ≤ 4 → ∀ i ∈ insTo (ltR (keyF steps)) j, 0 ≤ i ∧ i < 4 := fun j hj i hi => by
    have := (insTo_congr (lt := ltR (keyF steps)) (fun _ _ _ _ _ _ => rfl) j hj).2 i hi
    omega
  have hmL : ∀ j, j ≤ 4 → ∀ i ∈ insTo (leL (keyF steps)) j, 0 ≤ i ∧ i < 4 := fun j hj i hi => by
    have := (insTo_congr (lt := leL (keyF steps)) (fun _ _ _ _ _ _ => rfl) j hj).2 i hi
    omega
  refine W_forRange1 4 (fun j K' O' => X4 fun m vs1 vs2 ps => V7 (KLe K₅ K') (O' = (La, .list vs2) :: (F, .list vs1) :: (c6, .cell none) :: (c5, .cell none) :: (c4, .cell none) :: (c3, .cell none) :: (c2, .cell none) :: (c1, .cell none) :: (L, .ns m) :: (210, .ex (tabObj ps)) :: O) (m "sums" = some (.ref R)) (m "first" = some (.ref F)) (m "last" = some (.ref La)) (A2 IntV vs1 (insTo (ltR (keyF steps)) j)) (V3 (A2 IntV vs2 (insTo (leL (keyF steps)) j)) (TriplesOk ps.toList) ((∀ pos, Lk K' ps pos ((lawEnv L c1 c2 c3 c4 c5 c6 c7).qual ++ "<lambda>")))))
    (by omega) (by omega) (by omega) ⟨_, [], [], #[], KLe.refl _, rfl, by walk_at "g", by walk_at "g", by walk_at "g", .nil, .nil, True.intro, fun pos => .inl rfl⟩ ?_ ?_
  · rintro it j K' O' st hj ⟨m, vs1, vs2, ps, hle, rfl, g1, g2, g3, hv1, hv2, ht, hlk⟩ tj
    have hj4 : j ≤ 4 := by omega
    obtain ⟨⟨l1, s1⟩, l2, s2⟩ := hfacts j hj4
    have hc7' := hle _ _ hc7
    have hS' := hle _ _ hS
    repeat cell_call
    refine W_callFkw (fd := f58.fd) ?_
    repeat cell_call
    refine W_lam w (P := 210) (cc := 212) (clos := [(Str.ofString "steps", c7)]) (ps := ps) (by kernel_rfl) (by kernel_rfl) (by kernel_rfl) (by kernel_rfl) (codeHd_of w.k tab_law) ht (hlk _) (fun o' => by walk_at "u") fun f1 k1 ctv1 oc1 K₆ ps6 hle₆ hf1 hk1 ho1 ht6 hlk6 => ?_
    have hss6 : A2 (PairV K₆) ss steps := hss.mono fun v p hp => mono_pair _ _ _ _ (hle.trans hle₆) hp
    refine ⟨w.fn f58, c_insR w (n₀ := 380) (by omega) (by omega) (by walk_at "h") hv1 (by rw [l1]; omega) (hmR j hj4) (by omega) (key1 w hf1 hk1 ho1 (hle₆ _ _ hc7') (hle₆ _ _ hS') hss6 hso) s1 fun R1 r1 r2 r3 => ⟨_, by walk_at "u", ?_⟩⟩
    have hv1' := (hv1.take R1).append (.cons ⟨tj, rfl⟩ (hv1.drop R1) : A2 IntV (Value.int (j : Int) tj :: vs1.drop R1) ((j : Int) :: (insTo (ltR (keyF steps)) j).drop R1))
    rw [insR_eq r1 r2 r3] at hv1'
    repeat cell_call
    refine W_isTrueOr ?_
    repeat cell_call
    refine W_isTrueOr ?_
    repeat cell_call
    refine W_callFkw (fd := f76.fd) ?_
    repeat cell_call
    refine W_lam w (P := 210) (cc := 212) (clos := [(Str.ofString "steps", c7)]) (ps := ps6) (by kernel_rfl) (by kernel_rfl) (by kernel_rfl) (by kernel_rfl) (codeHd_of w.k tab_law) ht6 (hlk6 _ (hlk _)) (fun o' => by walk_at "u") fun f2 k2 ctv2 oc2 K₇ ps7 hle₇ hf2 hk2 ho2 ht7 hlk7 => ?_
    have hss7 : A2 (PairV K₇) ss steps := hss6.mono fun v p hp => mono_pair _ _ _ _ hle₇ hp
    refine ⟨w.fn f76, c_insL w (n₀ := 380) (by omega) (by omega) (by walk_at "h") hv2 (by rw [l2]; omega) (hmL j hj4) (by omega) (key2 w hf2 hk2 ho2 (hle₇ _ _ (hle₆ _ _ hc7')) (hle₇ _ _ (hle₆ _ _ hS')) hss7 hso) s2 fun R2 r1 r2 r3 => ⟨_, by walk_at "u", ?_⟩⟩
    have hv2' := (hv2.take R2).append (.cons ⟨tj, rfl⟩ (hv2.drop R2) : A2 IntV (Value.int (j : Int) tj :: vs2.drop R2) ((j : Int) :: (insTo (leL (keyF steps)) j).drop R2))
    rw [insL_eq r1 r2 r3] at hv2'
    repeat cell_call
    refine W_isTrueOrNil ?_
    repeat cell_call
    refine turn_next (List.Sublist.refl _) ?_
    exact ⟨_, _, _, ps7, hle.trans (hle₆.trans hle₇), rfl, by walk_at "g", by walk_at "g", by walk_at "g", hv1', hv2', ht7, fun pos => hlk7 _ (hlk6 _ (hlk pos))⟩
  · rintro K' O' ⟨m, vs1, vs2, ps, hle, rfl, g1, g2, g3, hv1, hv2, ht, hlk⟩
    subst hst
    refine WR_freezeD (a := La) (by walk_at "d") fun K₆ hle₆ hLa => ?_
    refine WR_freezeD (a := F) (by walk_at "d") fun K₇ hle₇ hF => ?_
    refine WR_freezeD (a := 210) (by walk_at "d") fun K₈ hle₈ hT => ?_
    have hle58 : KLe K₅ K₈ := hle.trans (hle₆.trans (hle₇.trans hle₈))
    exact h K₈ m R F La a b ta tb (hle05.trans hle58) (hle58 _ _ hR5) ea eb ⟨S, hle58 _ _ hc7, S, ss, rfl, hle58 _ _ hS, hss.mono fun v p hp => mono_pair _ _ _ _ hle58 hp⟩ g1 g2 g3 ⟨F, vs1, rfl, hle₈ _ _ hF, hv1⟩ ⟨La, vs2, rfl, hle₈ _ _ (hle₇ _ _ hLa), hv2⟩ ⟨ps, hT⟩
end
section
theorem law2 {C : WC} {mg mb} (w : Wd C mg mb) {n : Nat} {K : KH} {O : OL} {L c1 c2 c3 c4 c5 c6 c7 R F La : Addr} {m : Str → Option Value} {a b : Int} {ta tb : Tok} {first : List Int} {Q : Flow → KH → OL → Prop} (hn : n ≤ 100)
    (hR : K R = some (.ilist [.int a ta, .int b tb])) (g1 : m "sums" = some (.ref R)) (g2 : m "first" = some (.ref F)) (g3 : m "last" = some (.ref La)) (hF : IntsV K (.ref F) first) (hLa : IntsV K (.ref La) first.reverse) (ho : first ∈ ords)
    (h : ∀ K' m' U, KLe K K' → K' c1 = some (.cell (some (.ref U))) → LstV IntsV K' (.ref U) ((List.range 7).map (runAt first (figs 6 6 b))) →
      W C n K' ((c6, .cell none) :: (c5, .cell none) :: (c4, .cell none) :: (c3, .cell none) :: (c2, .cell none) :: (L, .ns m') :: O) (execs (f213.body.drop 7) (lawEnv L c1 c2 c3 c4 c5 c6 c7)) Q) :
    WR C n K ((c6, .cell none) :: (c5, .cell none) :: (c4, .cell none) :: (c3, .cell none) :: (c2, .cell none) :: (c1, .cell none) :: (L, .ns m) :: O) (execs (f213.body.drop 5) (lawEnv L c1 c2 c3 c4 c5 c6 c7)) Q := by
  have h6 : (figs 6 6 b).length = 6 := figs_len _ _ _
  have hg : ∀ f ∈ figs 6 6 b, 0 ≤ f := fun f hf => (figs_mem 6 (by decide) 6 b f hf).1
  refine WR_execs_step rfl ?_
  refine WR_Assign1 ?_ (by kernel_rfl)
  refine WR_CallName ?_
  repeat cell_call
  refine WR_callF (fd := f177.fd) (W.r ?_)
  repeat cell_call
  refine W_callF (fd := f172.fd) ?_
  repeat cell_call
  refine sub_list (vs := [.int a ta, .int b tb]) (LstAt.ki hR) (W_itemE (vs := [.int a ta, .int b tb]) (j := 1) (LstAt.ki hR) (by rfl) (by omega) rfl ?_)
  repeat cell_call
  refine ⟨w.fn f172, c_figures w (cnt := 6) (by omega) (by omega) (by omega) (by omega) fun K₁ r hle₁ hr => ?_⟩
  repeat cell_call
  refine ⟨w.fn f177, c_run w (by omega) (mono_lst mono_int _ _ _ _ hle₁ hF) hr (rows_row4 ho hg h6 (Nat.zero_le 6)).1 h6 (fun j hj => rows_row4 ho hg h6 hj) (fun j hj => rows_free ho hg h6 hj) hg fun K₂ r₂ hle₂ hr₂ => ?_⟩
  obtain ⟨U, rs, rfl, hU, hrs⟩ := id hr₂
  have hrl := hrs.length
  obtain ⟨_, hr0, A0, v0, rfl, hA0, hv0⟩ := hrs.get 0 (runAt first (figs 6 6 b) 0) rfl
  obtain ⟨_, hr6, A6, v6, rfl, hA6, hv6⟩ := hrs.get 6 (runAt first (figs 6 6 b) 6) rfl
  rw [run_first ho hg h6] at hv0
  rw [run_last] at hv6
  obtain ⟨F', fs, eF, hF1, hfs⟩ := mono_lst mono_int _ _ _ _ (hle₁.trans hle₂) hF
  cases eF
  obtain ⟨La', ls, eL, hLa1, hls⟩ := mono_lst mono_int _ _ _ _ (hle₁.trans hle₂) hLa
  cases eL
  repeat cell_call
  refine WR_freezeD (a := c1) (by walk_at "d") fun K₃ hle₃ hc1 => ?_
  have hU3 := hle₃ _ _ hU
  have hA03 := hle₃ _ _ hA0
  have hA63 := hle₃ _ _ hA6
  have hF3 := hle₃ _ _ hF1
  have hLa3 := hle₃ _ _ hLa1
  refine WR_execs_step rfl (W.r ?_)
  repeat cell_call
  refine W_isTrueOr ?_
  repeat cell_call
  refine sub_list (vs := rs) (by walk_at "l") (W_itemE (vs := rs) (j := 0) (by walk_at "l") rfl (by omega) hr0 ?_)
  repeat cell_call
  refine W_neInts (vs := v0) (ws := fs) (by omega) (by walk_at "l") (by walk_at "l") (A2.ints hv0) (A2.ints hfs) ?_
  rw [decide_eq_true rfl]
  refine W_truthyB ?_
  refine ite_F ?_
  refine W_isTrueOr ?_
  repeat cell_call
  refine sub_list (vs := rs) (by walk_at "l") (W_itemE (vs := rs) (j := 6) (by walk_at "l") rfl (by omega) hr6 ?_)
  repeat cell_call
  refine W_neInts (vs := v6) (ws := ls) (by omega) (by walk_at "l") (by walk_at "l") (A2.ints hv6) (A2.ints hls) ?_
  rw [decide_eq_true rfl]
  refine W_truthyB ?_
  refine ite_F ?_
  refine W_isTrueOrNil ?_
  refine ite_F ?_
  refine W_execs_nil ?_
  refine W.r ?_
  exact h K₃ m U (hle₁.trans (hle₂.trans hle₃)) hc1 (mono_lst (mono_lst mono_int) _ _ _ _ hle₃ hr₂)
end
section
def risesOf (steps : List (Int × Int)) : List (List Int) := steps.map fun p => riseTo p.1.toNat p.2.toNat p.1.toNat
theorem rise_cnt (b : Nat) (hb : b ≤ 2) : ∀ j, j < 3 → (wsRun (leadTo b (j + 1) ++ blanks (j + 1) ++ [120, 9]) ⟨[], 0, 0⟩).cnt.length ≤ 1000 := by
  intro j hj
  obtain rfl | rfl | rfl : b = 0 ∨ b = 1 ∨ b = 2 := by omega
  all_goals
    obtain rfl | rfl | rfl : j = 0 ∨ j = 1 ∨ j = 2 := by omega
  all_goals decide +kernel
/-- the fifth-last statements: rises -/
theorem law3 {C : WC} {mg mb} (w : Wd C mg mb) {n : Nat} {K : KH} {O : OL} {L c1 c2 c3 c4 c5 c6 c7 S : Addr} {m : Str → Option Value} {steps : List (Int × Int)} {Q : Flow → KH → OL → Prop} (hn : n ≤ 100)
    (hc7 : K c7 = some (.cell (some (.ref S)))) (hS : LstV PairV K (.ref S) steps) (hso : StepsOk steps)
    (h : ∀ K' m' V, KLe K K' → K' c2 = some (.cell (some (.ref V))) → LstV IntsV K' (.ref V) (risesOf steps) →
      W C n K' ((c6, .cell none) :: (c5, .cell none) :: (c4, .cell none) :: (c3, .cell none) :: (L, .ns m') :: O) (execs (f213.body.drop 8) (lawEnv L c1 c2 c3 c4 c5 c6 c7)) Q) :
    W C n K ((c6, .cell none) :: (c5, .cell none) :: (c4, .cell none) :: (c3, .cell none) :: (c2, .cell none) :: (L, .ns m) :: O) (execs (f213.body.drop 7) (lawEnv L c1 c2 c3 c4 c5 c6 c7)) Q := by
  obtain ⟨S, ss, e, hS1, hss⟩ := hS
  cases e
  have hsl := hss.length
  refine W_execs_step rfl ?_
  refine W_Assign1 ?_ (by kernel_rfl)
  refine W_ListComp (cl := []) (by kernel_rfl) rfl (by decide +kernel) (comp_listG (fun X cells => X = [] ∧ cells = []) (fun O P h => h [] [] ⟨rfl, rfl⟩) ?_)
  repeat cell_call
  refine ⟨S, ss, rfl, by walk_at "l", by rw [hsl, hso.1]; omega, fun it i K₁ O₁ Q₁ v hv hm hq => ?_, fun j K' ws => KLe K K' ∧ A2 (IntsV K') ws (risesOf (steps.take j)), ⟨KLe.refl _, .nil⟩, ?_, ?_, ?_⟩
  · obtain ⟨i', hi'⟩ := List.getElem?_of_mem hv
    obtain ⟨p, _, T, _, _, _, _, rfl, _⟩ := hss.at' i' v hi'
    exact W_ownedList hm hq
  · rintro D L₂ X it j K' st m₂ ws ⟨hle, _⟩
    exact .k (hle _ _ hS1)
  · rintro D L₂ X cells it j K' st m₂ ws v ⟨rfl, rfl⟩ hv ⟨hle, hws⟩
    obtain ⟨p, hpj, T, _, _, t1, t2, rfl, hT, rfl, rfl⟩ := hss.at' j v hv
    obtain ⟨⟨b1, b2⟩, b3, b4⟩ := hso.2 p (List.mem_of_getElem? hpj)
    have hT' := hle _ _ hT
    show W _ _ _ ((it, st) :: (L₂, .ns m₂) :: (D, .list ws) :: _) _ _
    refine W_assignTuple (vs := [.int p.1 t1, .int p.2 t2]) (by walk_at "h") (by rfl) (by rfl) ?_
    repeat cell_call
    refine W_callF (fd := f184.fd) ?_
    repeat cell_call
    refine ⟨w.fn f184, c_rise w (a := p.1.toNat) (b := p.2.toNat) (by omega) (by omega) (by omega) (by omega) (by omega) (by omega) (rise_cnt _ (by omega)) fun K₂ r hle₂ hr => ?_⟩
    refine ⟨_, [], ⟨rfl, rfl⟩, List.Sublist.refl _, hle.trans hle₂, ?_⟩
    rw [List.take_add_one, hpj]
    unfold risesOf at hws ⊢
    rw [List.map_append]
    exact (hws.mono fun v b hb => mono_lst mono_int _ _ _ _ hle₂ hb).snoc hr
  rintro V L₂ X cells m₂ K₃ vs ⟨rfl, rfl⟩ ⟨hle₃, hvs⟩
  rw [hsl, List.take_of_length_le (Nat.le_refl _)] at hvs
  refine ⟨_, _, _, List.Sublist.refl _, .here, ?_⟩
  refine W_freezeD (a := V) (by walk_at "d") fun K₄ hle₄ hV => ?_
  cell_call
  refine W_freezeD (a := c2) (by walk_at "d") fun K₅ hle₅ hc2 => ?_
  exact h K₅ m V (hle₃.trans (hle₄.trans hle₅)) hc2 ⟨V, vs, rfl, hle₅ _ _ hV, hvs.mono fun v b hb => mono_lst mono_int _ _ _ _ (hle₄.trans hle₅) hb⟩

/-- ways -/
theorem law4 {C : WC} {mg mb} (w : Wd C mg mb) {n : Nat} {K : KH} {O : OL} {L c1 c2 c3 c4 c5 c6 c7 U V : Addr} {m : Str → Option Value} {rows rises : List (List Int)} {Q : Flow → KH → OL → Prop} (hn : n ≤ 100)
    (hc1 : K c1 = some (.cell (some (.ref U)))) (hU : LstV IntsV K (.ref U) rows) (hc2 : K c2 = some (.cell (some (.ref V)))) (hV : LstV IntsV K (.ref V) rises)
    (hrl : rows.length ≤ 1000) (h4 : rises.length = 4) (hz : ∀ l ∈ rises, l.length ≤ 1000) (hrow : ∀ row ∈ rows, (∀ k ∈ row, 0 ≤ k ∧ k < 4) ∧ ∀ j, j ≤ row.length → (wayTo row rises j).length ≤ 100000)
    (h : ∀ K' m' Y, KLe K K' → m' "ways" = some (.ref Y) → LstV IntsV K' (.ref Y) (rows.map fun row => wayTo row rises row.length) →
      W C n K' ((c6, .cell none) :: (c5, .cell none) :: (c4, .cell none) :: (c3, .cell none) :: (L, .ns m') :: O) (execs (f213.body.drop 9) (lawEnv L c1 c2 c3 c4 c5 c6 c7)) Q) :
    W C n K ((c6, .cell none) :: (c5, .cell none) :: (c4, .cell none) :: (c3, .cell none) :: (L, .ns m) :: O) (execs (f213.body.drop 8) (lawEnv L c1 c2 c3 c4 c5 c6 c7)) Q := by
  obtain ⟨U, us, e, hU1, hus⟩ := hU
  cases e
  have hul := hus.length
  refine W_execs_step rfl ?_
  refine W_AssignComp (cl := [(Str.ofString "rises", c2)]) (by kernel_rfl) (by kernel_rfl) rfl (by decide +kernel) (comp_listP (fun O P h => h) ?_)
  repeat cell_call
  refine ⟨U, us, rfl, by walk_at "l", by rw [hul]; omega, fun j K' ws => KLe K K' ∧ A2 (IntsV K') ws ((rows.take j).map fun row => wayTo row rises row.length), ⟨KLe.refl _, .nil⟩, ?_, ?_, ?_⟩
  · rintro D L₂ it j K' st m₂ ws ⟨hle, _⟩
    exact .k (hle _ _ hU1)
  · rintro D L₂ it j K' st m₂ ws v hv ⟨hle, hws⟩
    obtain ⟨row, hrj, hr⟩ := hus.at' j v hv
    obtain ⟨q1, q2⟩ := hrow row (List.mem_of_getElem? hrj)
    have hc2' := hle _ _ hc2
    repeat cell_call
    refine W_callF (fd := f189.fd) ?_
    repeat cell_call
    refine ⟨w.fn f189, c_way w (by omega) (mono_lst mono_int _ _ _ _ hle hr) (mono_lst (mono_lst mono_int) _ _ _ _ hle hV) (fun k hk => by have := q1 k hk; omega) (by omega) hz q2 fun K₂ r hle₂ hr₂ => ?_⟩
    refine turnC (List.Sublist.refl _) ⟨hle.trans hle₂, ?_⟩
    rw [List.take_add_one, hrj, List.map_append]
    exact (hws.mono fun v b hb => mono_lst mono_int _ _ _ _ hle₂ hb).snoc hr₂
  rintro Y L₂ m₂ K₃ vs ⟨hle₃, hvs⟩
  rw [hul, List.take_of_length_le (Nat.le_refl _)] at hvs
  repeat cell_call
  refine ⟨_, _, _, List.Sublist.refl _, by walk_at "d", ?_⟩
  refine W_freezeD (a := Y) (by walk_at "d") fun K₄ hle₄ hY => ?_
  exact h K₄ _ Y (hle₃.trans hle₄) (by walk_at "g") ⟨Y, vs, rfl, hY, hvs.mono fun v b hb => mono_lst mono_int _ _ _ _ hle₄ hb⟩
end
section
theorem W_joinE {C : WC} {n : Nat} {K : KH} {O : OL} {x : Str} {t : Tok} {l : Addr} {vs : List Value} {ss : List Str} {Q : Value → KH → OL → Prop} (hx : x = ⟨#[]⟩) (hl : LstAt C K O l vs) (hv : A2 StrV vs ss) (hz : ∀ x ∈ ss, x.cps.size ≤ 100) (hn : ss.length ≤ 10000) (h : ∀ t, Q (.str (joinS ss) t) K O) :
    W C n K O (call (.builtin "str.join") [.str x t, .ref l]) Q := by
  subst hx
  exact W_join hl hv hz hn h
/-- the letters of a way -/
def chS (x y : Nat) : Str := ⟨#[100 + 16 * x + y]⟩
def rowS (x k : Nat) : List Str := (List.range k).map (chS x)
def hgt (way : List Int) (x : Nat) : Nat := (way.getD x 0 + 1).toNat
def charsTo (way : List Int) : Nat → List Str
  | 0 => []
  | i + 1 => charsTo way i ++ rowS i (hgt way i)
def textOf (way : List Int) : Str := joinS (charsTo way way.length)
theorem rowS_succ (x k : Nat) : rowS x (k + 1) = rowS x k ++ [chS x k] := by
  unfold rowS; rw [List.range_succ, List.map_append]; rfl
theorem rowS_len (x k : Nat) : (rowS x k).length = k := by simp [rowS]
theorem chars_one (way : List Int) : ∀ i, ∀ x ∈ charsTo way i, x.cps.size ≤ 100
  | 0, x, h => by cases h
  | i + 1, x, h => by
    rcases List.mem_append.mp h with h | h
    · exact chars_one way i x h
    · obtain ⟨y, _, rfl⟩ := List.mem_map.mp h
      show 1 ≤ 100; omega
theorem law5 {C : WC} {mg mb} (w : Wd C mg mb) {n : Nat} {K : KH} {O : OL} {L c1 c2 c3 c4 c5 c6 c7 Y : Addr} {m : Str → Option Value} {ways : List (List Int)} {Q : Flow → KH → OL → Prop} (hn : n ≤ 100)
    (hm : m "ways" = some (.ref Y)) (hY : LstV IntsV K (.ref Y) ways) (hwl : ways.length ≤ 1000) (hw : ∀ way ∈ ways, way.length ≤ 50 ∧ ∀ v ∈ way, 0 ≤ v ∧ v ≤ 100)
    (h : ∀ K' X, KLe K K' → K' c5 = some (.cell (some (.ref X))) → LstV strK K' (.ref X) (ways.map textOf) →
      W C n K' ((c6, .cell none) :: (c4, .cell none) :: (c3, .cell none) :: (L, .ns m) :: O) (execs (f213.body.drop 10) (lawEnv L c1 c2 c3 c4 c5 c6 c7)) Q) :
    W C n K ((c6, .cell none) :: (c5, .cell none) :: (c4, .cell none) :: (c3, .cell none) :: (L, .ns m) :: O) (execs (f213.body.drop 9) (lawEnv L c1 c2 c3 c4 c5 c6 c7)) Q := by
  obtain ⟨Y, ys, e, hY1, hys⟩ := hY
  cases e
  have hyl := hys.length
  refine W_execs_step rfl ?_
  refine W_Assign1 ?_ (by kernel_rfl)
  refine W_ListComp (cl := []) (by kernel_rfl) rfl (by decide +kernel) (comp_listG (fun X cells => ∃ c, cells = [(Str.ofString "way", c)] ∧ ∃ v, X = [(c, .cell v)]) (fun O P h c => h [(c, .cell none)] [(Str.ofString "way", c)] ⟨c, rfl, none, rfl⟩) ?_)
  repeat cell_call
  refine ⟨Y, ys, rfl, by walk_at "l", by omega, fun it i K₁ O₁ Q₁ v hv hm hq => W_ownedName hq, fun j K' ws => K' = K ∧ A2 StrV ws ((ways.take j).map textOf), ⟨rfl, .nil⟩, ?_, ?_, ?_⟩
  · rintro D L₂ X it j K' st m₂ ws ⟨rfl, _⟩
    exact .k hY1
  · rintro D L₂ X cells it j K' st m₂ ws v ⟨c, rfl, v0, rfl⟩ hv ⟨rfl, hws⟩
    obtain ⟨way, hwj, A, as, rfl, hA, has⟩ := hys.at' j v hv
    obtain ⟨q1, q2⟩ := hw way (List.mem_of_getElem? hwj)
    have hal := has.length
    have hat : ∀ i, i < way.length → ∃ t, as[i]? = some (.int (way.getD i 0) t) ∧ 0 ≤ way.getD i 0 ∧ way.getD i 0 ≤ 100 := fun i hi => by
      obtain ⟨a, e, t, rfl⟩ := has.get' i hi
      have e2 : way.getD i 0 = way[i] := by rw [List.getD_eq_getElem?_getD, List.getElem?_eq_getElem hi]; rfl
      exact ⟨t, by rw [e, e2], by rw [e2]; exact q2 _ (List.getElem_mem _)⟩
    have hM : ∀ i, hgt way i ≤ 101 := fun i => by
      unfold hgt
      rcases Nat.lt_or_ge i way.length with hi | hi
      · obtain ⟨_, _, h1, h2⟩ := hat i hi; omega
      · rw [List.getD_eq_getElem?_getD, List.getElem?_eq_none hi]; simp
    show W _ _ _ ((it, st) :: (c, .cell v0) :: (L₂, .ns m₂) :: (D, .list ws) :: _) _ _
    repeat cell_call
    refine W_CallMethod (T := "str") (id := "str.join") PySem.F.plainAttrs_str PySem.F.slot_str_join PySem.F.type_str_join ?_
    repeat cell_call
    refine ⟨fun s S => typeIs_str _ _ _, (fun s S a e => by cases e), W_callM ?_⟩
    repeat cell_call
    refine W_ListComp (cl := [(Str.ofString "way", c)]) (by kernel_rfl) rfl (by decide +kernel) (comp_rr (fun O P h => h) (by kernel_rfl) (fun L => by kernel_rfl) (fun L => by kernel_rfl) ?_ (by decide +kernel))
    repeat cell_call
    refine W_len (vs := as) (by walk_at "l") (by omega) fun t1 => ?_
    repeat cell_call
    refine W_range1 fun r t2 t3 => ?_
    refine ⟨r, _, _, _, _, way.length, hgt way, _, rfl, by walk_at "d", by rw [hal], by omega, fun i => Nat.le_trans (hM i) (by omega), fun i j ws => A2 StrV ws (charsTo way i ++ rowS i j) ∧ ws.length ≤ 101 * i + j ∧ i ≤ 50 ∧ j ≤ 101, ⟨.nil, by simp, by omega, by omega⟩, fun i j ws hJ => by omega, fun i ws hi hJ => ⟨?_, by have := hM i; omega, by omega, by omega⟩, ?_, ?_, ?_⟩
    · have := hJ.1
      simpa [charsTo, rowS] using this
    · intro D₂ L₃ it₂ i st₂ m₃ ws₂ t Q₂ hi hq
      obtain ⟨u, hu, h0, h1⟩ := hat i hi
      repeat cell_call
      refine sub_list (vs := as) (by walk_at "l") (W_itemE (vs := as) (j := i) (by walk_at "l") rfl (by omega) hu ?_)
      repeat cell_call
      refine W_range1 fun r t4 t5 => hq r _ _ _ _ (by unfold hgt; omega)
    · intro D₂ L₃ it₂ it₃ i j st₂ st₃ m₃ ws₂ t t' Q₂ hi hj hJ hmx hq
      obtain ⟨u, hu, h0, h1⟩ := hat i hi
      have hMi := hM i
      repeat cell_call
      refine W_chr (by omega) (by omega) fun t6 => hq _ ⟨?_, by simp; omega, by omega, by omega⟩
      rw [rowS_succ, ← List.append_assoc]
      refine hJ.1.snoc ⟨t6, ?_⟩
      rw [show ((100 : Int) + 16 * (i : Int) + (j : Int)).toNat = 100 + 16 * i + j by omega]
      rfl
    · intro D₂ L₃ m₃ ws₂ hJ
      refine ⟨_, _, _, List.Sublist.refl _, by walk_at "d", ?_⟩
      repeat cell_call
      have hJ1 : A2 StrV ws₂ (charsTo way way.length) := by simpa [rowS] using hJ.1
      have hl2 := hJ1.length
      refine W_joinE (vs := ws₂) (by decide +kernel) (by walk_at "l") hJ1 (chars_one way _) (by have := hJ.2.1; omega) fun t7 => ?_
      refine ⟨_, [(c, .cell _)], ⟨c, rfl, _, rfl⟩, by walk_at "s", rfl, ?_⟩
      rw [List.take_add_one, hwj, List.map_append]
      exact hws.snoc ⟨t7, rfl⟩
  rintro X L₂ X₂ cells m₂ K₃ vs ⟨c, rfl, v0, rfl⟩ ⟨rfl, hvs⟩
  rw [hyl, List.take_of_length_le (Nat.le_refl _)] at hvs
  refine ⟨_, _, _, List.sublist_cons_self _ _, .here, ?_⟩
  refine W_freezeD (a := X) (by walk_at "d") fun K₄ hle₄ hX => ?_
  cell_call
  refine W_freezeD (a := c5) (by walk_at "d") fun K₅ hle₅ hc5 => ?_
  exact h K₅ X (hle₄.trans hle₅) hc5 ⟨X, vs, rfl, hle₅ _ _ hX, hvs⟩
end
section
theorem W_pickStr {C : WC} {n : Nat} {K : KH} {O : OL} {l : Addr} {vs : List Value} {ss : List Str} {k : Int} {t : Tok} {j : Nat} {s : Str} {Q : Value → KH → OL → Prop} (hl : LstAt C K O l vs) (hv : A2 StrV vs ss) (hk : k = j) (hf : j < 1000000) (hx : ss[j]? = some s) (h : ∀ t, Q (.str s t) K O) :
    SubK C n Q (.ref l) (.int k t) K O := by
  obtain ⟨a, e, u, rfl⟩ := hv.get j s hx
  exact sub_list hl (W_itemE hl hk hf e (h u))
def famsOf (texts : List Str) : List Str := letters (texts.getD 6 ⟨#[]⟩) ++ (List.range 7).map fun i => texts.getD (6 - i) ⟨#[]⟩
theorem law6 {C : WC} {mg mb} (w : Wd C mg mb) {n : Nat} {K : KH} {O : OL} {L c1 c2 c3 c4 c5 c6 c7 X : Addr} {m : Str → Option Value} {texts : List Str} {Q : Flow → KH → OL → Prop} (hn : n ≤ 100)
    (hc5 : K c5 = some (.cell (some (.ref X)))) (hX : LstV strK K (.ref X) texts) (h7 : texts.length = 7) (hz : ∀ s ∈ texts, s.cps.size ≤ 200) (hok : ∀ x ∈ letters (texts.getD 6 ⟨#[]⟩), PyData.strOk x = true)
    (hkeys : (famOf (famsOf texts)).map (·.1) = letters (texts.getD 6 ⟨#[]⟩))
    (h : ∀ K' m' d o kvs ps, KLe K K' → K' 203 = some (.ex (tabObj ps)) → (∀ x, x ≠ Str.ofString "table" → m' x = m x) → m' "table" = some (.ref d) → K' d = some (.ex o) → DictO C o kvs → KV kvs (famOf (famsOf texts)) →
      W C n K' ((c6, .cell none) :: (c4, .cell none) :: (c3, .cell none) :: (L, .ns m') :: O) (execs (f213.body.drop 12) (lawEnv L c1 c2 c3 c4 c5 c6 c7)) Q) :
    W C n K ((c6, .cell none) :: (c4, .cell none) :: (c3, .cell none) :: (L, .ns m) :: (203, .ex (tabObj #[])) :: O) (execs (f213.body.drop 10) (lawEnv L c1 c2 c3 c4 c5 c6 c7)) Q := by
  obtain ⟨X, xs, e, hX1, hxs⟩ := hX
  cases e
  have hxs : A2 StrV xs texts := hxs
  have tat : ∀ i, i < 7 → texts[i]? = some (texts.getD i ⟨#[]⟩) := fun i hi => by rw [List.getD_eq_getElem?_getD, List.getElem?_eq_getElem (by omega)]; rfl
  have tsz : ∀ i, i < 7 → (texts.getD i ⟨#[]⟩).cps.size ≤ 200 := fun i hi => hz _ (List.mem_of_getElem? (tat i hi))
  refine W_execs_step rfl ?_
  refine W_Assign1 ?_ (by kernel_rfl)
  repeat cell_call
  refine W_callF (fd := f208.fd) ?_
  repeat cell_call
  refine W_pickStr (by walk_at "l") hxs (j := 6) rfl (by omega) (tat 6 (by omega)) fun t1 => ?_
  repeat cell_call
  refine W_listStr (by have := tsz 6 (by omega); omega) fun a1 vs1 hvs1 => ?_
  repeat cell_call
  refine W_ListComp (cl := [(Str.ofString "texts", c5)]) (by kernel_rfl) rfl (by decide +kernel) (comp_rangeP (fun O P h => h) ?_)
  repeat cell_call
  refine W_neg fun t2 => ?_
  repeat cell_call
  refine W_neg fun t3 => ?_
  repeat cell_call
  refine W_range3 (by decide) (by decide) fun r => ?_
  refine ⟨r, 6, -1, -1, _, _, _, 7, _, rfl, by walk_at "d", by kernel_rfl, by kernel_rfl, by omega, fun j K' ws => K' = K ∧ A2 StrV ws ((List.range j).map fun i => texts.getD (6 - i) ⟨#[]⟩), ⟨rfl, .nil⟩, ?_, ?_⟩
  · rintro D L₂ it j K' st m₂ ws hj ⟨rfl, hws⟩ t4
    repeat cell_call
    refine W_pickStr (by walk_at "l") hxs (j := 6 - j) (by omega) (by omega) (tat (6 - j) (by omega)) fun t5 => ?_
    refine turnC (List.Sublist.refl _) ⟨rfl, ?_⟩
    rw [List.range_succ, List.map_append]
    exact hws.snoc ⟨t5, rfl⟩
  rintro D L₂ m₂ K' ws ⟨rfl, hws⟩
  refine ⟨_, _, _, List.Sublist.refl _, by walk_at "d", ?_⟩
  have l1 := hvs1.length
  have l2 := hws.length
  simp only [List.length_map, List.length_range, letters, Array.length_toList] at l1 l2
  have t6 := tsz 6 (by omega)
  refine W_listAdd (vs := vs1) (ws := ws) (by walk_at "l") (by walk_at "l") (by rw [sizeLine_eq]; omega) fun F => ?_
  repeat cell_call
  refine ⟨w.fn f208, ?_⟩
  refine W_pull (a := F) (by walk_at "d") ?_
  refine W_pull (a := 203) (by walk_at "d") ?_
  refine c_table w (ss := famsOf texts) (by omega) (hvs1.append hws) (fun s hs => ?_) (by unfold famsOf letters; rw [List.length_append, List.length_map, List.length_map, List.length_range, Array.length_toList]; omega) fun K₁ d o kvs ps hle₁ hT hd0 hd ho hkv hkl => ?_
  · rcases List.mem_append.mp hs with hs | hs
    · obtain ⟨c, _, rfl⟩ := List.mem_map.mp hs
      show 1 ≤ 200; omega
    · obtain ⟨i, hi, rfl⟩ := List.mem_map.mp hs
      exact tsz _ (by have := List.mem_range.mp hi; omega)
  have hc5' := hle₁ _ _ hc5
  have hX' := hle₁ _ _ hX1
  repeat cell_call
  refine W_listDict (kvs := kvs) hd0 (by walk_at "h") ho hkl fun a2 vs2 hvs2 => ?_
  repeat cell_call
  refine W_pickStr (by walk_at "l") hxs (j := 6) rfl (by omega) (tat 6 (by omega)) fun t7 => ?_
  repeat cell_call
  refine W_listStr (by omega) fun a3 vs3 hvs3 => ?_
  rw [hkv.keys, hkeys] at hvs2
  refine W_neStrs (vs := vs2) (ws := vs3) (by omega) (by walk_at "l") (by walk_at "l") hvs2 hvs3 hok hok ?_
  rw [decide_eq_true rfl]
  refine W_truthyB ?_
  refine ite_F ?_
  refine W_execs_nil ?_
  refine W_sub (O' := (c6, .cell none) :: (c4, .cell none) :: (c3, .cell none) :: (L, .ns _) :: O) (by walk_at "s") ?_
  exact h K₁ _ d o kvs ps hle₁ hT (fun x hx => setm_ne hx) (by walk_at "g") hd ho hkv
end
section
/-- tiles -/
theorem law7 {C : WC} {mg mb} (w : Wd C mg mb) {n : Nat} {K : KH} {O : OL} {L c1 c2 c3 c4 c5 c6 c7 S U : Addr} {m : Str → Option Value} {steps : List (Int × Int)} {rows : List (List Int)} {pAt : Nat → Nat} {Q : Flow → KH → OL → Prop} (hn : n ≤ 100)
    (hc7 : K c7 = some (.cell (some (.ref S)))) (hS : LstV PairV K (.ref S) steps) (hso : StepsOk steps) (hc1 : K c1 = some (.cell (some (.ref U)))) (hU : LstV IntsV K (.ref U) rows) (h7 : rows.length = 7)
    (hrow : ∀ row ∈ rows, row.length = 4 ∧ ∀ k ∈ row, 0 ≤ k ∧ k < 4) (hp : ∀ k, k < 6 → pAt k < 3 ∧ diffTo (rows.getD k []) (rows.getD (k + 1) []) 4 = [pAt k, pAt k + 1])
    (h : ∀ K' T, KLe K K' → K' c6 = some (.cell (some (.ref T))) → LstV TileV K' (.ref T) ((List.range 6).map fun k => tileOf steps (rows.getD k []) (pAt k)) →
      W C n K' ((c4, .cell none) :: (c3, .cell none) :: (L, .ns m) :: O) (execs (f213.body.drop 13) (lawEnv L c1 c2 c3 c4 c5 c6 c7)) Q) :
    W C n K ((c6, .cell none) :: (c4, .cell none) :: (c3, .cell none) :: (L, .ns m) :: O) (execs (f213.body.drop 12) (lawEnv L c1 c2 c3 c4 c5 c6 c7)) Q := by
  obtain ⟨U, us, e, hU1, hus⟩ := hU
  cases e
  obtain ⟨S, ss, e, hS1, hss⟩ := id hS
  cases e
  have hul := hus.length
  have rat : ∀ i, i < 7 → ∃ v, us[i]? = some v ∧ IntsV K v (rows.getD i []) ∧ (rows.getD i []).length = 4 ∧ ∀ k ∈ rows.getD i [], 0 ≤ k ∧ k < 4 := fun i hi => by
    obtain ⟨v, hv, hr⟩ := hus.get' i (by omega)
    have e2 : rows.getD i [] = rows[i] := by rw [List.getD_eq_getElem?_getD, List.getElem?_eq_getElem (by omega)]; rfl
    rw [e2]
    exact ⟨v, hv, hr, hrow _ (List.getElem_mem _)⟩
  refine W_execs_step rfl ?_
  refine W_Assign1 ?_ (by kernel_rfl)
  refine W_ListComp (cl := [(Str.ofString "steps", c7), (Str.ofString "run", c1)]) (by kernel_rfl) rfl (by decide +kernel) (comp_rangeP (fun O P h => h) ?_)
  repeat cell_call
  refine W_range1 fun r t1 t2 => ?_
  refine ⟨r, 0, 6, 1, _, _, _, 6, _, rfl, by walk_at "d", by kernel_rfl, by kernel_rfl, by omega, fun j K' ws => KLe K K' ∧ A2 (TileV K') ws ((List.range j).map fun k => tileOf steps (rows.getD k []) (pAt k)), ⟨KLe.refl _, .nil⟩, ?_, ?_⟩
  · rintro D L₂ it j K' st m₂ ws hj ⟨hle, hws⟩ t4
    obtain ⟨v1, hv1, r1, r2, r3⟩ := rat j (by omega)
    obtain ⟨v2, hv2, s1, s2, s3⟩ := rat (j + 1) (by omega)
    obtain ⟨p1, p2⟩ := hp j hj
    have hc7' := hle _ _ hc7
    have hc1' := hle _ _ hc1
    have hU' := hle _ _ hU1
    repeat cell_call
    refine W_callF (fd := f194.fd) ?_
    repeat cell_call
    refine sub_list (vs := us) (by walk_at "l") (W_itemE (vs := us) (j := j) (by walk_at "l") (by omega) (by omega) hv1 ?_)
    repeat cell_call
    refine sub_list (vs := us) (by walk_at "l") (W_itemE (vs := us) (j := j + 1) (by walk_at "l") (by omega) (by omega) hv2 ?_)
    repeat cell_call
    refine ⟨w.fn f194, c_tile w (by omega) (mono_lst mono_pair _ _ _ _ hle hS) (mono_lst mono_int _ _ _ _ hle r1) (mono_lst mono_int _ _ _ _ hle s1) r2 s2 hso.1 r3 p2 p1 fun K₂ r hle₂ hr => ?_⟩
    refine turnC (List.Sublist.refl _) ⟨hle.trans hle₂, ?_⟩
    rw [List.range_succ, List.map_append]
    exact (hws.mono fun v b hb => mono_tile _ _ _ _ hle₂ hb).snoc hr
  rintro T L₂ m₂ K₃ vs ⟨hle₃, hvs⟩
  refine ⟨_, _, _, List.Sublist.refl _, by walk_at "d", ?_⟩
  refine W_freezeD (a := T) (by walk_at "d") fun K₄ hle₄ hT => ?_
  cell_call
  refine W_freezeD (a := c6) (by walk_at "d") fun K₅ hle₅ hc6 => ?_
  exact h K₅ T (hle₃.trans (hle₄.trans hle₅)) hc6 ⟨T, vs, rfl, hle₅ _ _ hT, hvs.mono fun v b hb => mono_tile _ _ _ _ (hle₄.trans hle₅) hb⟩
end
section
def colAt (ways : List (List Int)) (x : Nat) : List Int := ways.map fun way => way.getD x 0
def hitsTo (tiles : List Tile) (x y : Int) (i : Nat) : List Int := ((List.range i).filter fun k => holdsB (tiles.getD k ⟨0, 0, 0, 0, 0, 0⟩) x y).map fun (k : Nat) => (k : Int) + 1
theorem hitsTo_succ (tiles : List Tile) (x y : Int) (i : Nat) : hitsTo tiles x y (i + 1) = hitsTo tiles x y i ++ (if holdsB (tiles.getD i ⟨0, 0, 0, 0, 0, 0⟩) x y = true then [(i : Int) + 1] else []) := by
  unfold hitsTo
  rw [List.range_succ, List.filter_append, List.map_append]
  congr 1
  cases h : holdsB (tiles.getD i ⟨0, 0, 0, 0, 0, 0⟩) x y <;> simp_all
/-- the points, one by one -/
theorem law8 {C : WC} {mg mb} (w : Wd C mg mb) {n : Nat} {K : KH} {O : OL} {L c1 c2 c3 c4 c5 c6 c7 X Y T d : Addr} {m : Str → Option Value} {ways : List (List Int)} {texts : List Str} {tiles : List Tile} {fam : List (Str × Str)} {o : Obj} {kvs : List (Str × Value)} {N : Nat} {Q : Flow → KH → OL → Prop} (hn : n ≤ 100)
    (hm1 : m "ways" = some (.ref Y)) (hY : LstV IntsV K (.ref Y) ways) (h7 : ways.length = 7) (hway : ∀ way ∈ ways, way.length = N) (hN : N ≤ 50) (hval : ∀ way ∈ ways, ∀ v ∈ way, 0 ≤ v ∧ v ≤ 100)
    (hc5 : K c5 = some (.cell (some (.ref X)))) (hX : LstV strK K (.ref X) texts) (ht7 : texts.length = 7)
    (hm2 : m "table" = some (.ref d)) (hd : K d = some (.ex o)) (ho : DictO C o kvs) (hkv : KV kvs fam)
    (hc6 : K c6 = some (.cell (some (.ref T)))) (hT : LstV TileV K (.ref T) tiles) (hT6 : tiles.length = 6) (hTo : ∀ z ∈ tiles, z.ok)
    (hsort : ∀ x, x < N → (colAt ways x).Pairwise (· ≤ ·))
    (hpt : ∀ x y R : Nat, x < N → (y : Int) ≤ (colAt ways x).getD 6 0 → R ≤ 7 → (∀ i, i < R → (colAt ways x).getD i 0 < (y : Int)) → (∀ i, i < 7 → R ≤ i → (y : Int) ≤ (colAt ways x).getD i 0) →
      R ≤ 6 ∧ (fam.find? fun p => p.1 = chS x y).map (·.2) = some (texts.getD R ⟨#[]⟩) ∧ hitsTo tiles x y 6 = ([(R : Int)] : List Int).take R)
    (h : ∀ K' O', KLe K K' → Q (.ret (.bool true)) K' O') :
    W C n K ((c4, .cell none) :: (c3, .cell none) :: (L, .ns m) :: O) (execs (f213.body.drop 13) (lawEnv L c1 c2 c3 c4 c5 c6 c7)) Q := by
  obtain ⟨Y, ys, e, hY1, hys⟩ := hY
  cases e
  obtain ⟨X, xs, e, hX1, hxs⟩ := hX
  cases e
  obtain ⟨T, ts, e, hT1, hts⟩ := hT
  cases e
  have hxs : A2 StrV xs texts := hxs
  have hyl := hys.length
  have tat : ∀ i, i < 7 → texts[i]? = some (texts.getD i ⟨#[]⟩) := fun i hi => by rw [List.getD_eq_getElem?_getD, List.getElem?_eq_getElem (by omega)]; rfl
  obtain ⟨v6, hv6, A6, as6, rfl, hA6, has6⟩ := hys.get' 6 (by omega)
  have hw6 : ways[6].length = N := hway _ (List.getElem_mem _)
  have has6l := has6.length
  refine W_execs_step rfl ?_
  repeat cell_call
  refine sub_list (vs := ys) (by walk_at "l") (W_itemE (vs := ys) (j := 6) (by walk_at "l") rfl (by omega) hv6 ?_)
  repeat cell_call
  refine W_len (vs := as6) (by walk_at "l") (by omega) fun t1 => ?_
  repeat cell_call
  refine W_forRange1 N (fun j K' O' => X3 fun m vx vy => V4 (KLe K K') (O' = (c4, .cell vy) :: (c3, .cell vx) :: (L, .ns m) :: O) (m "ways" = some (.ref Y)) (m "table" = some (.ref d)))
    (by omega) (by omega) (by omega) ⟨m, none, none, KLe.refl _, rfl, hm1, hm2⟩ ?_ ?_
  · rintro it x K' O' st hx ⟨m, vx, vy, hle, rfl, g1, g2⟩ tx
    have hY2 := hle _ _ hY1
    have hX2 := hle _ _ hX1
    have hT2 := hle _ _ hT1
    have hc52 := hle _ _ hc5
    have hc62 := hle _ _ hc6
    have hd2 := hle _ _ hd
    cell_call
    refine W_execs_step rfl ?_
    refine W_AssignComp (cl := [(Str.ofString "x", c3)]) (by kernel_rfl) (by kernel_rfl) rfl (by decide +kernel) (comp_listP (fun O P h => h) ?_)
    repeat cell_call
    refine ⟨Y, ys, rfl, by walk_at "l", by omega, fun j K₂ ws => K₂ = K' ∧ A2 IntV ws (((ways.take j)).map fun way => way.getD x 0), ⟨rfl, .nil⟩, ?_, ?_, ?_⟩
    · rintro D L₂ it₂ j K₂ st₂ m₂ ws ⟨rfl, _⟩
      exact .k hY2
    · rintro D L₂ it₂ j K₂ st₂ m₂ ws v hv ⟨rfl, hws⟩
      obtain ⟨way, hwj, A, as, rfl, hA, has⟩ := hys.at' j v hv
      have hwl := hway way (List.mem_of_getElem? hwj)
      have hA2 := hle _ _ hA
      obtain ⟨a, e, t, rfl⟩ := has.get' x (by omega)
      repeat cell_call
      refine sub_list (vs := as) (by walk_at "l") (W_itemE (vs := as) (j := x) (by walk_at "l") rfl (by omega) e ?_)
      refine turnC (List.Sublist.refl _) ⟨rfl, ?_⟩
      rw [List.take_add_one, hwj, List.map_append]
      exact hws.snoc ⟨t, by dsimp only; rw [List.getD_eq_getElem?_getD, List.getElem?_eq_getElem (by omega)]; rfl⟩
    rintro H L₂ m₂ K₂ hs ⟨rfl, hhs⟩
    rw [hyl, List.take_of_length_le (Nat.le_refl _)] at hhs
    have hhs : A2 IntV hs (colAt ways x) := hhs
    have hcl : (colAt ways x).length = 7 := by simp [colAt, h7]
    have hhl := hhs.length
    have cat : ∀ i, i < 7 → ∃ t, hs[i]? = some (.int ((colAt ways x).getD i 0) t) ∧ 0 ≤ (colAt ways x).getD i 0 ∧ (colAt ways x).getD i 0 ≤ 100 := fun i hi => by
      obtain ⟨a, e, t, rfl⟩ := hhs.get' i (by omega)
      have e2 : (colAt ways x).getD i 0 = (colAt ways x)[i] := by rw [List.getD_eq_getElem?_getD, List.getElem?_eq_getElem (by omega)]; rfl
      refine ⟨t, by rw [e, e2], ?_⟩
      have e3 : (colAt ways x).getD i 0 = (ways[i]'(by omega)).getD x 0 := by rw [e2]; simp [colAt]
      rw [e3, List.getD_eq_getElem?_getD, List.getElem?_eq_getElem (by have := hway _ (List.getElem_mem (show i < ways.length by omega)); omega)]
      exact hval _ (List.getElem_mem (show i < ways.length by omega)) _ (List.getElem_mem _)
    cell_call
    refine ⟨_, _, _, List.Sublist.refl _, by walk_at "d", ?_⟩
    refine W_freezeD (a := H) (by walk_at "d") fun K₃ hle₃ hH => ?_
    have hle' := hle.trans hle₃
    have hX3 := hle₃ _ _ hX2
    have hT3 := hle₃ _ _ hT2
    have hc53 := hle₃ _ _ hc52
    have hc63 := hle₃ _ _ hc62
    have hd3 := hle₃ _ _ hd2
    obtain ⟨t6, ht6, h60, h61⟩ := cat 6 (by omega)
    repeat cell_call
    refine sub_list (vs := hs) (by walk_at "l") (W_itemE (vs := hs) (j := 6) (by walk_at "l") rfl (by omega) ht6 ?_)
    repeat cell_call
    refine W_forRange1 (((colAt ways x).getD 6 0) + 1).toNat (fun j K' O' => X2 fun m vy => V5 (K' = K₃) (O' = (it, st) :: (c4, .cell vy) :: (c3, .cell (some (.int x tx))) :: (L, .ns m) :: O) (m "ways" = some (.ref Y)) (m "table" = some (.ref d)) (m "heights" = some (.ref H)))
      rfl (by omega) (by omega) ⟨_, vy, rfl, rfl, by walk_at "g", by walk_at "g", by walk_at "g"⟩ ?_ ?_
    · rintro it₂ y K' O' st₂ hy ⟨m, vy, rfl, rfl, g1, g2, g3⟩ ty
      repeat cell_call
      refine W_callF (fd := f85.fd) ?_
      repeat cell_call
      refine ⟨w.fn f85, c_bisL0 w (by omega) (by walk_at "h") hhs (by omega) (by simpa using hsort x hx) fun R r1 r2 r3 t3 => ?_⟩
      have e2 : ∀ i (hi : i < 7), (colAt ways x).getD i 0 = (colAt ways x)[i]'(by omega) := fun i hi => by rw [List.getD_eq_getElem?_getD, List.getElem?_eq_getElem (by omega)]; rfl
      have hR7 : R ≤ 7 := by omega
      obtain ⟨p1, p2, p3⟩ := hpt x y R hx (by omega) hR7 (fun i hi => by rw [e2 i (by omega)]; exact r2 i (by omega) hi) (fun i hi hle => by rw [e2 i hi]; exact r3 i (by omega) hle)
      obtain ⟨dv, hdv, t4, rfl⟩ := hkv.at' p2
      repeat cell_call
      refine W_chr (by omega) (by omega) fun t5 => ?_
      rw [show (⟨#[((100 : Int) + 16 * (x : Int) + (y : Int)).toNat]⟩ : Str) = chS x y by unfold chS; congr 3]
      refine sub_dict (.inl hd3) ho (W_getDict (.inl hd3) ho hdv ?_)
      repeat cell_call
      refine W_pickStr (by walk_at "l") hxs (j := R) rfl (by omega) (tat R (by omega)) fun t6 => ?_
      refine W_neStr ?_
      rw [show ((texts.getD R ⟨#[]⟩).cps.toList != (texts.getD R ⟨#[]⟩).cps.toList) = false by simp]
      refine W_truthyB ?_
      refine ite_F ?_
      refine W_execs_nil ?_
      repeat cell_call
      refine W_ListComp (cl := [(Str.ofString "y", c4), (Str.ofString "x", c3), (Str.ofString "tiles", c6)]) (by kernel_rfl) rfl (by decide +kernel) (comp_rangeP (fun O P h => h) ?_)
      repeat cell_call
      refine W_range1 fun r t7 t8 => ?_
      refine ⟨r, 0, 6, 1, _, _, _, 6, _, rfl, by walk_at "d", by kernel_rfl, by kernel_rfl, by omega, fun i K₂ ws => K₂ = K' ∧ A2 IntV ws (hitsTo tiles x y i), ⟨rfl, .nil⟩, ?_, ?_⟩
      · rintro D L₂ it₃ i K₂ st₃ m₂ ws hi ⟨rfl, hws⟩ t9
        obtain ⟨zv, hzv, hz⟩ := hts.get' i (by omega)
        have hzt := mono_tile _ _ _ _ hle' hz
        have e3 : tiles.getD i ⟨0, 0, 0, 0, 0, 0⟩ = tiles[i]'(by omega) := by rw [List.getD_eq_getElem?_getD, List.getElem?_eq_getElem (by omega)]; rfl
        rw [← e3] at hzt
        have hzo : (tiles.getD i ⟨0, 0, 0, 0, 0, 0⟩).ok := by rw [e3]; exact hTo _ (List.getElem_mem _)
        repeat cell_call
        refine W_isTruePlain ?_
        repeat cell_call
        refine W_callF (fd := f201.fd) ?_
        repeat cell_call
        refine sub_list (vs := ts) (by walk_at "l") (W_itemE (vs := ts) (j := i) (by walk_at "l") (by omega) (by omega) hzv ?_)
        repeat cell_call
        refine ⟨w.fn f201, c_holds w (by omega) hzt hzo (by omega) (by omega) ?_⟩
        refine W_truthyB ?_
        cases hb : holdsB (tiles.getD i ⟨0, 0, 0, 0, 0, 0⟩) x y with
        | true =>
          repeat cell_call
          refine turnC (List.Sublist.refl _) ⟨rfl, ?_⟩
          rw [hitsTo_succ, hb]
          exact hws.snoc ⟨_, by rw [show (0 + 1 * (i : Int) + 1) = (i : Int) + 1 by omega]⟩
        | false =>
          repeat cell_call
          refine turnS (List.Sublist.refl _) ⟨rfl, ?_⟩
          rw [hitsTo_succ, hb]
          simpa using hws
      rintro D L₂ m₂ K₂ ws ⟨rfl, hws⟩
      rw [p3] at hws
      refine ⟨_, _, _, List.Sublist.refl _, by walk_at "d", ?_⟩
      repeat cell_call
      refine ⟨by show 1 ≤ sizeLine; decide, fun a1 => ?_⟩
      repeat cell_call
      intro sl
      refine sub_list (vs := [.int R t3]) (by walk_at "l") (W_listUptoAny (vs := [.int R t3]) (j := R) (by walk_at "l") (by walk_at "m") (by show 1 ≤ sizeLine; decide) fun a2 => ?_)
      have hR1 : A2 IntV (([.int R t3] : List Value).take R) (([(R : Int)] : List Int).take R) := A2.take (.cons ⟨t3, rfl⟩ .nil) R
      refine W_neInts (vs := ws) (by omega) (by walk_at "l") (by walk_at "l") (A2.ints hws) (A2.ints hR1) ?_
      rw [decide_eq_true rfl]
      refine W_truthyB ?_
      refine ite_F ?_
      refine W_execs_nil ?_
      repeat cell_call
      refine turn_next (O₃ := (it, st) :: (c4, .cell _) :: (c3, .cell (some (.int x tx))) :: (L, .ns _) :: O) (by walk_at "s") ?_
      exact ⟨_, _, rfl, rfl, by walk_at "g", by walk_at "g", by walk_at "g"⟩
    · rintro K' O' ⟨m, vy, rfl, rfl, g1, g2, g3⟩
      repeat cell_call
      refine turn_next (List.Sublist.refl _) ?_
      exact ⟨_, _, _, hle', rfl, g1, g2⟩
  · rintro K' O' ⟨m, vx, vy, hle, rfl, g1, g2⟩
    repeat cell_call
    exact h K' _ hle
end
section
set_option linter.unusedVariables false
set_option maxRecDepth 100000
/-- how high a path of steps lies over each place -/
def H : List (Nat × Nat) → Nat → Nat
  | [], _ => 0
  | (a, b) :: r, x => if x ≤ a then b * x / a else b + H r (x - a)
def sA (l : List (Nat × Nat)) : Nat := (l.map (·.1)).sum
def sB (l : List (Nat × Nat)) : Nat := (l.map (·.2)).sum
def Pos1 (l : List (Nat × Nat)) : Prop := ∀ p ∈ l, 0 < p.1
theorem H_zero : ∀ l, H l 0 = 0
  | [] => rfl
  | (a, b) :: r => by rw [H, if_pos (Nat.zero_le _)]; simp
theorem H_full : ∀ {l}, Pos1 l → H l (sA l) = sB l
  | [], _ => rfl
  | (a, b) :: r, h => by
    have ha : 0 < a := h (a, b) (.head _)
    have ih := H_full (l := r) fun p hp => h p (.tail _ hp)
    have e1 : sA ((a, b) :: r) = a + sA r := by simp [sA]
    have e2 : sB ((a, b) :: r) = b + sB r := by simp [sB]
    rw [e1, e2, H]
    by_cases hr : sA r = 0
    · rw [hr, Nat.add_zero, if_pos (Nat.le_refl _), Nat.mul_div_cancel _ ha]
      rw [hr, H_zero] at ih; omega
    · rw [if_neg (by omega), show a + sA r - a = sA r by omega, ih]
theorem H_append : ∀ l r x, H (l ++ r) x = if x ≤ sA l then H l x else sB l + H r (x - sA l)
  | [], r, x => by
    show H r x = _
    by_cases hx : x ≤ sA []
    · have : x = 0 := by simpa [sA] using hx
      subst this
      rw [if_pos hx, H_zero]; rfl
    · rw [if_neg hx]; simp [sA, sB]
  | (a, b) :: l, r, x => by
    have e1 : sA ((a, b) :: l) = a + sA l := by simp [sA]
    have e2 : sB ((a, b) :: l) = b + sB l := by simp [sB]
    rw [List.cons_append, H, H, H_append l r, e1, e2]
    by_cases h1 : x ≤ a
    · rw [if_pos h1, if_pos (by omega), if_pos h1]
    · rw [if_neg h1, if_neg h1]
      by_cases h2 : x ≤ a + sA l
      · rw [if_pos (by omega), if_pos h2]
      · rw [if_neg (by omega), if_neg h2, show x - a - sA l = x - (a + sA l) by omega, Nat.add_assoc]
theorem sA_append (l r) : sA (l ++ r) = sA l + sA r := by simp [sA]
theorem sB_append (l r) : sB (l ++ r) = sB l + sB r := by simp [sB]

theorem rise_eq {a b : Nat} (h0 : 1 ≤ a) (h1 : a ≤ 3) (h2 : b ≤ 2) : riseTo a b a = (List.range a).map fun i => ((b * (i + 1) / a : Nat) : Int) := by
  obtain rfl | rfl | rfl : a = 1 ∨ a = 2 ∨ a = 3 := by omega
  all_goals
    obtain rfl | rfl | rfl : b = 0 ∨ b = 1 ∨ b = 2 := by omega
  all_goals decide +kernel

/-- the step that a number means, in whole numbers -/
def nst (steps : List (Int × Int)) (k : Int) : Nat × Nat := ((stepOf steps k).1.toNat, (stepOf steps k).2.toNat)
def Row (row : List Int) : Prop := row.length = 4 ∧ ∀ k ∈ row, 0 ≤ k ∧ k < 4
theorem nst_ok {steps : List (Int × Int)} (h : StepsOk steps) {k : Int} (h0 : 0 ≤ k) (h1 : k < 4) : 1 ≤ (nst steps k).1 ∧ (nst steps k).1 ≤ 3 ∧ (nst steps k).2 ≤ 2 ∧ stepOf steps k = (((nst steps k).1 : Int), ((nst steps k).2 : Int)) := by
  have h4 := h.1
  have e2 : stepOf steps k = steps[k.toNat]'(by omega) := by unfold stepOf; rw [List.getD_eq_getElem?_getD, List.getElem?_eq_getElem (by omega)]; rfl
  obtain ⟨⟨b1, b2⟩, b3, b4⟩ := h.2 _ (List.getElem_mem (show k.toNat < steps.length by omega))
  rw [← e2] at b1 b2 b3 b4
  unfold nst
  refine ⟨by dsimp only; omega, by dsimp only; omega, by dsimp only; omega, ?_⟩
  refine Prod.ext ?_ ?_ <;> dsimp only <;> omega
def sig (steps : List (Int × Int)) (row : List Int) : List (Nat × Nat) := row.map (nst steps)
theorem sig_pos {steps : List (Int × Int)} (h : StepsOk steps) {row : List Int} (hr : ∀ k ∈ row, 0 ≤ k ∧ k < 4) : Pos1 (sig steps row) := fun p hp => by
  obtain ⟨k, hk, rfl⟩ := List.mem_map.mp hp
  have := (nst_ok h (hr k hk).1 (hr k hk).2).1
  omega
theorem rises_at {steps : List (Int × Int)} (h : StepsOk steps) {k : Int} (h0 : 0 ≤ k) (h1 : k < 4) : (risesOf steps).getD k.toNat [] = (List.range (nst steps k).1).map fun i => (((nst steps k).2 * (i + 1) / (nst steps k).1 : Nat) : Int) := by
  obtain ⟨b1, b2, b3, b4⟩ := nst_ok h h0 h1
  rw [← rise_eq b1 b2 b3]
  have h4 := h.1
  have e2 : stepOf steps k = steps[k.toNat]'(by omega) := by unfold stepOf; rw [List.getD_eq_getElem?_getD, List.getElem?_eq_getElem (by omega)]; rfl
  unfold risesOf
  rw [List.getD_eq_getElem?_getD, List.getElem?_map, List.getElem?_eq_getElem (by omega)]
  unfold nst
  rw [e2]; rfl
theorem way_eq {steps : List (Int × Int)} (h : StepsOk steps) {row : List Int} (hr : ∀ k ∈ row, 0 ≤ k ∧ k < 4) : ∀ j, j ≤ row.length → wayTo row (risesOf steps) j = (List.range (sA (sig steps (row.take j)) + 1)).map fun x => (H (sig steps (row.take j)) x : Int)
  | 0, _ => by simp [wayTo, sig, sA, H, List.range_succ]
  | j + 1, hj => by
    have ih := way_eq h hr j (by omega)
    have hk : row.getD j 0 = row[j]'(by omega) := by rw [List.getD_eq_getElem?_getD, List.getElem?_eq_getElem (by omega)]; rfl
    obtain ⟨k0, k1⟩ := hr _ (List.getElem_mem (show j < row.length by omega))
    have hp : Pos1 (sig steps (row.take j)) := sig_pos h fun k hk => hr k (List.mem_of_mem_take hk)
    obtain ⟨b1, b2, b3, b4⟩ := nst_ok h k0 k1
    have es : sig steps (row.take (j + 1)) = sig steps (row.take j) ++ [nst steps row[j]] := by
      unfold sig
      rw [List.take_add_one, List.getElem?_eq_getElem (by omega), List.map_append]; rfl
    rw [wayTo, hk, rises_at h k0 k1, es, sA_append]
    generalize hs : sig steps (row.take j) = s at *
    generalize hq : nst steps row[j] = q at *
    obtain ⟨a, b⟩ := q
    dsimp only at *
    have ea : sA [(a, b)] = a := by simp [sA]
    have hlast : (wayTo row (risesOf steps) j).getLastD 0 = (sB s : Int) := by
      rw [ih, List.range_succ, List.map_append, List.getLastD_eq_getLast?]
      simp [H_full hp]
    have er : List.range (sA s + a + 1) = List.range (sA s + 1) ++ (List.range a).map (sA s + 1 + ·) := by rw [show sA s + a + 1 = (sA s + 1) + a by omega]; exact List.range_add ..
    unfold wayStep
    rw [hlast, ih, ea, er, List.map_append, List.map_map, List.map_map]
    congr 1
    · apply List.map_congr_left
      intro x hx
      have := List.mem_range.mp hx
      rw [H_append, if_pos (by omega)]
    · apply List.map_congr_left
      intro i hi
      have := List.mem_range.mp hi
      simp only [Function.comp]
      rw [H_append, if_neg (by omega), show sA s + 1 + i - sA s = i + 1 by omega, H, if_pos (by omega)]
      push_cast; rfl
end
section
set_option linter.unusedVariables false
set_option maxRecDepth 100000
noncomputable def nines : List (Nat × Nat) := [(1, 0), (1, 1), (1, 2), (2, 0), (2, 1), (2, 2), (3, 0), (3, 1), (3, 2)]
noncomputable def pts : List Int := (List.range 19).map fun (i : Nat) => (i : Int) - 6
noncomputable def ptsY : List Int := (List.range 13).map fun (i : Nat) => (i : Int) - 4
noncomputable def winOk (a b c d : Nat) : Bool := !decide (b * c ≤ a * d) ||
  (pts.all fun X => decide (H [(a, b), (c, d)] X.toNat ≤ H [(c, d), (a, b)] X.toNat) && ptsY.all fun Y => holdsB ⟨0, 0, a, b, c, d⟩ X Y ==
    (decide (1 ≤ X) && decide (X ≤ a + c) && decide ((H [(a, b), (c, d)] X.toNat : Int) < Y) && decide (Y ≤ H [(c, d), (a, b)] X.toNat)))
noncomputable def winFor (p : Nat × Nat) : Bool := nines.all fun q => winOk p.1 p.2 q.1 q.2
theorem win1 : winFor (1, 0) = true := by decide +kernel
theorem win2 : winFor (1, 1) = true := by decide +kernel
theorem win3 : winFor (1, 2) = true := by decide +kernel
theorem win4 : winFor (2, 0) = true := by decide +kernel
theorem win5 : winFor (2, 1) = true := by decide +kernel
theorem win6 : winFor (2, 2) = true := by decide +kernel
theorem win7 : winFor (3, 0) = true := by decide +kernel
theorem win8 : winFor (3, 1) = true := by decide +kernel
theorem win9 : winFor (3, 2) = true := by decide +kernel
theorem all_win {p q : Nat × Nat} (hp : p ∈ nines) (hq : q ∈ nines) : winOk p.1 p.2 q.1 q.2 = true := by
  have h : winFor p = true := by
    unfold nines at hp
    simp only [List.mem_cons, List.not_mem_nil, or_false] at hp
    rcases hp with rfl | rfl | rfl | rfl | rfl | rfl | rfl | rfl | rfl
    · exact win1
    · exact win2
    · exact win3
    · exact win4
    · exact win5
    · exact win6
    · exact win7
    · exact win8
    · exact win9
  exact List.all_eq_true.mp h q hq
noncomputable def slopeOk (p q : Nat × Nat) : Bool := !decide ((6 * (p.2 : Int)).fdiv p.1 ≤ (6 * (q.2 : Int)).fdiv q.1) || decide (p.2 * q.1 ≤ p.1 * q.2)
theorem all_slope : (nines.all fun p => nines.all fun q => slopeOk p q) = true := by decide +kernel
theorem nines_of {a b : Nat} (h0 : 1 ≤ a) (h1 : a ≤ 3) (h2 : b ≤ 2) : (a, b) ∈ nines := by
  obtain rfl | rfl | rfl : a = 1 ∨ a = 2 ∨ a = 3 := by omega
  all_goals
    obtain rfl | rfl | rfl : b = 0 ∨ b = 1 ∨ b = 2 := by omega
  all_goals decide
theorem slope_of {p q : Nat × Nat} (hp : p ∈ nines) (hq : q ∈ nines) (h : (6 * (p.2 : Int)).fdiv p.1 ≤ (6 * (q.2 : Int)).fdiv q.1) : p.2 * q.1 ≤ p.1 * q.2 := by
  have h1 := all_slope
  rw [List.all_eq_true] at h1
  have h2 := h1 p hp
  rw [List.all_eq_true] at h2
  have h3 := h2 q hq
  unfold slopeOk at h3
  rw [decide_eq_true h] at h3
  simpa using h3

theorem holds_shift (e n a b c d x y : Int) : holdsB ⟨e, n, a, b, c, d⟩ x y = holdsB ⟨0, 0, a, b, c, d⟩ (x - e) (y - n) := by
  unfold holdsB
  simp only [Int.sub_zero]
theorem mem_pts {X : Int} (h0 : -6 ≤ X) (h1 : X ≤ 12) : X ∈ pts := List.mem_map.mpr ⟨(X + 6).toNat, List.mem_range.mpr (by omega), by omega⟩
theorem mem_ptsY {Y : Int} (h0 : -4 ≤ Y) (h1 : Y ≤ 8) : Y ∈ ptsY := List.mem_map.mpr ⟨(Y + 4).toNat, List.mem_range.mpr (by omega), by omega⟩
theorem win_at {p q : Nat × Nat} (hp : p ∈ nines) (hq : q ∈ nines) (h : p.2 * q.1 ≤ p.1 * q.2) {X : Int} (hX0 : -6 ≤ X) (hX1 : X ≤ 12) :
    H [p, q] X.toNat ≤ H [q, p] X.toNat ∧ ∀ Y : Int, -4 ≤ Y → Y ≤ 8 → holdsB ⟨0, 0, p.1, p.2, q.1, q.2⟩ X Y = (decide (1 ≤ X) && decide (X ≤ (p.1 : Int) + q.1) && decide ((H [p, q] X.toNat : Int) < Y) && decide (Y ≤ H [q, p] X.toNat)) := by
  have h1 := all_win hp hq
  unfold winOk at h1
  rw [decide_eq_true h] at h1
  have h2 : (pts.all fun X => decide (H [(p.1, p.2), (q.1, q.2)] X.toNat ≤ H [(q.1, q.2), (p.1, p.2)] X.toNat) && ptsY.all fun Y => holdsB ⟨0, 0, p.1, p.2, q.1, q.2⟩ X Y ==
    (decide (1 ≤ X) && decide (X ≤ (p.1 : Int) + q.1) && decide ((H [(p.1, p.2), (q.1, q.2)] X.toNat : Int) < Y) && decide (Y ≤ H [(q.1, q.2), (p.1, p.2)] X.toNat))) = true := h1
  rw [List.all_eq_true] at h2
  have h3 := h2 X (mem_pts hX0 hX1)
  rw [Bool.and_eq_true, List.all_eq_true] at h3
  refine ⟨of_decide_eq_true h3.1, fun Y hY0 hY1 => ?_⟩
  exact beq_iff_eq.mp (h3.2 Y (mem_ptsY hY0 hY1))

/-- two neighbours exchanged -/
theorem turn_H {pre suf : List (Nat × Nat)} {p q : Nat × Nat} (hp : p ∈ nines) (hq : q ∈ nines) (h : p.2 * q.1 ≤ p.1 * q.2) (he : sA pre ≤ 6) (hn : sB pre ≤ 4) {x : Nat} (hx : x ≤ 12) :
    H (pre ++ ([p, q] ++ suf)) x ≤ H (pre ++ ([q, p] ++ suf)) x ∧ ∀ y : Nat, y ≤ 8 → holdsB ⟨sA pre, sB pre, p.1, p.2, q.1, q.2⟩ x y = (decide (H (pre ++ ([p, q] ++ suf)) x < y) && decide (y ≤ H (pre ++ ([q, p] ++ suf)) x)) := by
  obtain ⟨w1, w2⟩ := win_at hp hq h (X := (x : Int) - sA pre) (by omega) (by omega)
  have both : ∀ v y : Nat, (decide (v < y) && decide (y ≤ v)) = false := fun v y => by
    by_cases h : v < y
    · rw [decide_eq_true h, decide_eq_false (by omega)]; rfl
    · rw [decide_eq_false h]; rfl
  have s1 : sA [p, q] = p.1 + q.1 := by simp [sA]
  have s2 : sA [q, p] = q.1 + p.1 := by simp [sA]
  have s3 : sB [p, q] = p.2 + q.2 := by simp [sB]
  have s4 : sB [q, p] = q.2 + p.2 := by simp [sB]
  rw [H_append, H_append pre]
  by_cases h1 : x ≤ sA pre
  · rw [if_pos h1, if_pos h1]
    refine ⟨Nat.le_refl _, fun y hy => ?_⟩
    rw [both, holds_shift, w2 _ (by omega) (by omega), decide_eq_false (by omega)]; rfl
  · rw [if_neg h1, if_neg h1]
    have ex : ((x : Int) - sA pre).toNat = x - sA pre := by omega
    rw [ex] at w1 w2
    rw [H_append, H_append [q, p], s1, s2, s3, s4, show q.1 + p.1 = p.1 + q.1 by omega]
    by_cases h2 : x - sA pre ≤ p.1 + q.1
    · rw [if_pos h2, if_pos h2]
      refine ⟨by omega, fun y hy => ?_⟩
      rw [holds_shift, w2 _ (by omega) (by omega), decide_eq_true (show (1 : Int) ≤ (x : Int) - sA pre by omega), decide_eq_true (show (x : Int) - sA pre ≤ (p.1 : Int) + q.1 by omega)]
      rw [Bool.true_and, Bool.true_and]
      congr 1
      · exact decide_eq_decide.mpr (by omega)
      · exact decide_eq_decide.mpr (by omega)
    · rw [if_neg h2, if_neg h2, show q.2 + p.2 = p.2 + q.2 by omega]
      refine ⟨Nat.le_refl _, fun y hy => ?_⟩
      rw [both, holds_shift, w2 _ (by omega) (by omega), decide_eq_true (show (1 : Int) ≤ (x : Int) - sA pre by omega), decide_eq_false (show ¬ (x : Int) - sA pre ≤ (p.1 : Int) + q.1 by omega)]
      rfl
end
section
set_option linter.unusedVariables false
set_option maxRecDepth 100000
theorem ords_rev : (ords.all fun r => ords.contains r.reverse) = true := by decide +kernel
theorem runAt_ords {first figs : List Int} (hf : first ∈ ords) (hg : ∀ f ∈ figs, 0 ≤ f) (h6 : figs.length = 6) {k : Nat} (hk : k ≤ 6) : runAt first figs k ∈ ords := by
  have h := ords_rev
  rw [List.all_eq_true] at h
  have := h _ (rows_ok hf hg h6 (6 - k) (by omega)).1
  simpa [runAt] using this
theorem row_split {row : List Int} (h4 : row.length = 4) {p : Nat} (hp : p < 3) : row = row.take p ++ ([row.getD p 0, row.getD (p + 1) 0] ++ row.drop (p + 2)) := by
  obtain ⟨a, b, c, d, rfl⟩ : ∃ a b c d, row = [a, b, c, d] := by
    match row, h4 with
    | [a, b, c, d], _ => exact ⟨a, b, c, d, rfl⟩
  obtain rfl | rfl | rfl : p = 0 ∨ p = 1 ∨ p = 2 := by omega
  all_goals rfl
theorem swap_split (row : List Int) (p : Nat) : swapAt row p = row.take p ++ ([row.getD (p + 1) 0, row.getD p 0] ++ row.drop (p + 2)) := by
  unfold swapAt; rw [List.append_assoc]
theorem sums_sig {steps : List (Int × Int)} (h : StepsOk steps) : ∀ {l : List Int}, (∀ k ∈ l, 0 ≤ k ∧ k < 4) → (l.map fun k => (stepOf steps k).1).sum = (sA (sig steps l) : Int) ∧ (l.map fun k => (stepOf steps k).2).sum = (sB (sig steps l) : Int) ∧ sA (sig steps l) ≤ 3 * l.length ∧ sB (sig steps l) ≤ 2 * l.length
  | [], _ => by simp [sig, sA, sB]
  | k :: l, hl => by
    obtain ⟨i1, i2, i3, i4⟩ := sums_sig h (l := l) fun k hk => hl k (.tail _ hk)
    obtain ⟨b1, b2, b3, b4⟩ := nst_ok h (hl k (.head _)).1 (hl k (.head _)).2
    have e1 : sA (sig steps (k :: l)) = (nst steps k).1 + sA (sig steps l) := by simp [sA, sig]
    have e2 : sB (sig steps (k :: l)) = (nst steps k).2 + sB (sig steps l) := by simp [sB, sig]
    rw [e1, e2, List.map_cons, List.map_cons, List.sum_cons, List.sum_cons, i1, i2, b4, List.length_cons]
    refine ⟨by push_cast; rfl, by push_cast; rfl, by omega, by omega⟩
theorem sorted_idx {f : Int → Int} {first : List Int} (hs : (first.map f).Pairwise (· ≤ ·)) {u v : Int} (hu : u ∈ first) (hv : v ∈ first) (h : idx first u < idx first v) : f u ≤ f v := by
  have iu := List.idxOf_lt_length_of_mem hu
  have iv := List.idxOf_lt_length_of_mem hv
  have := List.pairwise_iff_getElem.mp hs (first.idxOf u) (first.idxOf v) (by simpa using iu) (by simpa using iv) h
  simpa [List.getElem_idxOf] using this
theorem turn_facts {steps : List (Int × Int)} {first figs : List Int} (hs : StepsOk steps) (hf : first ∈ ords) (hg : ∀ f ∈ figs, 0 ≤ f) (h6 : figs.length = 6) (hso : (first.map (keyF steps)).Pairwise (· ≤ ·)) {k p : Nat} (hk : k < 6) (hp : p < 3)
    (hsw : runAt first figs (k + 1) = swapAt (runAt first figs k) p) (hup : goesUp first (runAt first figs k) p = true) :
    ∃ pre suf s t, sig steps (runAt first figs k) = pre ++ ([s, t] ++ suf) ∧ sig steps (runAt first figs (k + 1)) = pre ++ ([t, s] ++ suf) ∧ s ∈ nines ∧ t ∈ nines ∧ s.2 * t.1 ≤ s.1 * t.2 ∧
      tileOf steps (runAt first figs k) p = ⟨sA pre, sB pre, s.1, s.2, t.1, t.2⟩ ∧ sA pre ≤ 6 ∧ sB pre ≤ 4 := by
  have hr := runAt_ords hf hg h6 (show k ≤ 6 by omega)
  obtain ⟨h4, hm⟩ := (ok_of hf hr).2.2.2.2
  generalize runAt first figs k = row at *
  have m1 : row.getD p 0 ∈ row := getD_mem h4 (by omega)
  have m2 : row.getD (p + 1) 0 ∈ row := getD_mem h4 (by omega)
  obtain ⟨f1, k0, k1⟩ := hm _ m1
  obtain ⟨f2, l0, l1⟩ := hm _ m2
  obtain ⟨b1, b2, b3, b4⟩ := nst_ok hs k0 k1
  obtain ⟨d1, d2, d3, d4⟩ := nst_ok hs l0 l1
  have ht : ∀ k ∈ row.take p, 0 ≤ k ∧ k < 4 := fun k hk => (hm k (List.mem_of_mem_take hk)).2
  obtain ⟨q1, q2, q3, q4⟩ := sums_sig hs ht
  have hlen : (row.take p).length ≤ 2 := by rw [List.length_take]; omega
  have n1 : nst steps (row.getD p 0) ∈ nines := nines_of b1 b2 b3
  have n2 : nst steps (row.getD (p + 1) 0) ∈ nines := nines_of d1 d2 d3
  refine ⟨sig steps (row.take p), sig steps (row.drop (p + 2)), nst steps (row.getD p 0), nst steps (row.getD (p + 1) 0), ?_, ?_, n1, n2, ?_, ?_, by omega, by omega⟩
  · conv => lhs; rw [row_split h4 hp]
    unfold sig
    rw [List.map_append, List.map_append]; rfl
  · rw [hsw, swap_split]
    unfold sig
    rw [List.map_append, List.map_append]; rfl
  · refine slope_of n1 n2 ?_
    unfold goesUp at hup
    have := sorted_idx hso f1 f2 (of_decide_eq_true hup)
    unfold keyF at this
    rw [b4, d4] at this
    exact this
  · unfold tileOf
    rw [q1, q2, b4, d4]
end
section
set_option linter.unusedVariables false
set_option maxRecDepth 100000
/- letters of a way -/
theorem letters_join : ∀ {l : List Str}, (∀ s ∈ l, ∃ c, s = ⟨#[c]⟩) → letters (joinS l) = l
  | [], _ => rfl
  | s :: l, h => by
    obtain ⟨c, rfl⟩ := h s (.head _)
    have ih := letters_join (l := l) fun s hs => h s (.tail _ hs)
    unfold letters joinS at ih ⊢
    simp only [List.map_cons, List.flatten_cons, List.cons_append, List.nil_append] at ih ⊢
    congr 1
theorem chS_inj {x y x' y' : Nat} (h : chS x y = chS x' y') (hy : y < 16) (hy' : y' < 16) : x = x' ∧ y = y' := by
  unfold chS at h
  have : 100 + 16 * x + y = 100 + 16 * x' + y' := by
    have := congrArg (fun s : Str => s.cps.toList) h
    simpa using this
  omega
theorem chars_single (way : List Int) : ∀ i, ∀ s ∈ charsTo way i, ∃ c, s = ⟨#[c]⟩
  | 0, s, h => by cases h
  | i + 1, s, h => by
    rcases List.mem_append.mp h with h | h
    · exact chars_single way i s h
    · obtain ⟨y, _, rfl⟩ := List.mem_map.mp h
      exact ⟨_, rfl⟩
theorem letters_text (way : List Int) : letters (textOf way) = charsTo way way.length := letters_join (chars_single way _)
theorem mem_chars {way : List Int} {i : Nat} {s : Str} : s ∈ charsTo way i ↔ ∃ x y, x < i ∧ y < hgt way x ∧ s = chS x y := by
  induction i with
  | zero => simp [charsTo]
  | succ i ih =>
    rw [charsTo, List.mem_append, ih]
    constructor
    · rintro (⟨x, y, h1, h2, h3⟩ | h)
      · exact ⟨x, y, by omega, h2, h3⟩
      · obtain ⟨y, hy, rfl⟩ := List.mem_map.mp h
        exact ⟨i, y, by omega, List.mem_range.mp hy, rfl⟩
    · rintro ⟨x, y, h1, h2, rfl⟩
      rcases Nat.lt_or_ge x i with h | h
      · exact .inl ⟨x, y, h, h2, rfl⟩
      · have : x = i := by omega
        subst this
        exact .inr (List.mem_map.mpr ⟨y, List.mem_range.mpr h2, rfl⟩)
theorem mem_chS {way : List Int} (hw : ∀ x, hgt way x ≤ 16) {i x y : Nat} (hy : y < 16) : chS x y ∈ charsTo way i ↔ x < i ∧ y < hgt way x := by
  rw [mem_chars]
  constructor
  · rintro ⟨x', y', h1, h2, h3⟩
    obtain ⟨rfl, rfl⟩ := chS_inj h3 hy (by have := hw x'; omega)
    exact ⟨h1, h2⟩
  · rintro ⟨h1, h2⟩
    exact ⟨x, y, h1, h2, rfl⟩
theorem chars_nodup {way : List Int} (hw : ∀ x, hgt way x ≤ 16) : ∀ i, (charsTo way i).Nodup
  | 0 => List.nodup_nil
  | i + 1 => by
    rw [charsTo, List.nodup_append]
    refine ⟨chars_nodup hw i, ?_, ?_⟩
    · unfold rowS
      unfold List.Nodup
      rw [List.pairwise_map]
      refine List.pairwise_lt_range.imp_of_mem fun {a b} ha hb hab e => ?_
      have h1 := List.mem_range.mp ha
      have h2 := List.mem_range.mp hb
      have := chS_inj e (by have := hw i; omega) (by have := hw i; omega)
      omega
    · rintro s hs t ht rfl
      obtain ⟨y, hy, rfl⟩ := List.mem_map.mp ht
      have hy := List.mem_range.mp hy
      have := (mem_chS hw (by have := hw i; omega)).mp hs
      omega
theorem chars_len {way : List Int} {k : Nat} (hw : ∀ x, hgt way x ≤ k) : ∀ i, (charsTo way i).length ≤ k * i
  | 0 => by simp [charsTo]
  | i + 1 => by
    have := chars_len hw i
    rw [charsTo, List.length_append, rowS_len, Nat.mul_succ]
    have := hw i
    omega

/- the table -/
def findS (ps : List (Str × Str)) (k : Str) : Option Str := (ps.find? fun p => p.1 = k).map (·.2)
def keysS (ps : List (Str × Str)) : List Str := ps.map (·.1)
theorem keys_put (ps : List (Str × Str)) (k v : Str) : keysS (putS ps k v) = if k ∈ keysS ps then keysS ps else keysS ps ++ [k] := by
  unfold putS keysS
  by_cases h : ps.any (fun p => p.1 = k) = true
  · rw [if_pos h, if_pos]
    · rw [List.map_map]
      apply List.map_congr_left
      intro p _
      simp only [Function.comp]
      split <;> rfl
    · obtain ⟨p, hp, e⟩ := List.any_eq_true.mp h
      exact List.mem_map.mpr ⟨p, hp, of_decide_eq_true e⟩
  · rw [if_neg h, if_neg]
    · simp
    · intro hk
      obtain ⟨p, hp, e⟩ := List.mem_map.mp hk
      exact h (List.any_eq_true.mpr ⟨p, hp, decide_eq_true e⟩)
theorem find_map (k v k' : Str) : ∀ ps : List (Str × Str), findS (ps.map fun p => if p.1 = k then (p.1, v) else p) k' = if k' = k then (findS ps k').map fun _ => v else findS ps k'
  | [] => by simp [findS]
  | p :: ps => by
    have ih := find_map k v k' ps
    unfold findS at ih ⊢
    rw [List.map_cons, List.find?_cons, List.find?_cons]
    by_cases h1 : p.1 = k
    · rw [if_pos h1]
      by_cases h2 : p.1 = k'
      · have : k' = k := h2.symm.trans h1
        simp [h2, this]
      · have : k' ≠ k := fun e => h2 (h1.trans e.symm)
        simp only [h2, decide_false]
        rw [ih, if_neg this]
    · rw [if_neg h1]
      by_cases h2 : p.1 = k'
      · have : k' ≠ k := fun e => h1 (h2.trans e)
        simp [h2, this]
      · simp only [h2, decide_false]
        exact ih
theorem find_put (ps : List (Str × Str)) (k v k' : Str) : findS (putS ps k v) k' = if k' = k then some v else findS ps k' := by
  unfold putS
  by_cases h : ps.any (fun p => p.1 = k) = true
  · rw [if_pos h, find_map]
    by_cases e : k' = k
    · rw [if_pos e, if_pos e]
      obtain ⟨p, hp, hk⟩ := List.any_eq_true.mp h
      have hs : (ps.find? fun p => p.1 = k').isSome = true := by
        rw [List.find?_isSome]
        exact ⟨p, hp, by rw [e]; exact hk⟩
      obtain ⟨q, hq⟩ := Option.isSome_iff_exists.mp hs
      unfold findS
      rw [hq]; rfl
    · rw [if_neg e, if_neg e]
  · rw [if_neg h]
    unfold findS
    rw [List.find?_append]
    by_cases e : k' = k
    · subst e
      have : ps.find? (fun p => decide (p.1 = k')) = none := by
        rw [List.find?_eq_none]
        intro p hp hk
        exact h (List.any_eq_true.mpr ⟨p, hp, hk⟩)
      rw [this, if_pos rfl]; simp
    · rw [if_neg e]
      have : (List.find? (fun p : Str × Str => decide (p.1 = k')) [(k, v)]) = none := by simp; exact fun e' => e e'.symm
      rw [this, Option.or_none]
theorem find_puts (p k : Str) : ∀ (ls : List Str) (acc : List (Str × Str)), findS (ls.foldl (fun acc e => putS acc e p) acc) k = if k ∈ ls then some p else findS acc k
  | [], acc => by simp
  | e :: ls, acc => by
    rw [List.foldl_cons, find_puts p k ls, find_put]
    by_cases h1 : k ∈ ls
    · rw [if_pos h1, if_pos (.tail _ h1)]
    · by_cases h2 : k = e
      · subst h2
        rw [if_neg h1, if_pos rfl, if_pos (.head _)]
      · rw [if_neg h1, if_neg h2, if_neg (by simp [h1, h2])]
theorem find_step (acc : List (Str × Str)) (p k : Str) : findS (famStep acc p) k = if k ∈ letters p then some p else findS acc k := find_puts p k _ acc
theorem keys_puts (p : Str) : ∀ (ls : List Str) (acc : List (Str × Str)), (∀ e ∈ ls, e ∈ keysS acc) → keysS (ls.foldl (fun acc e => putS acc e p) acc) = keysS acc
  | [], acc, _ => rfl
  | e :: ls, acc, h => by
    have h1 : keysS (putS acc e p) = keysS acc := by rw [keys_put, if_pos (h e (.head _))]
    rw [List.foldl_cons, keys_puts p ls _ fun e' he => by rw [h1]; exact h e' (.tail _ he), h1]
theorem keys_singles : ∀ (ls : List Str) (acc : List (Str × Str)), (∀ s ∈ ls, ∃ c, s = ⟨#[c]⟩) → (keysS acc ++ ls).Nodup → keysS (ls.foldl famStep acc) = keysS acc ++ ls
  | [], acc, _, _ => by simp
  | s :: ls, acc, h, hn => by
    obtain ⟨c, hc⟩ := h s (.head _)
    have e1 : famStep acc s = putS acc s s := by subst hc; rfl
    have h1 : s ∉ keysS acc := fun hm => by
      rw [List.nodup_append] at hn
      exact hn.2.2 s hm s (.head _) rfl
    have e2 : keysS (putS acc s s) = keysS acc ++ [s] := by rw [keys_put, if_neg h1]
    rw [List.foldl_cons, e1, keys_singles ls _ (fun t ht => h t (.tail _ ht)) (by rw [e2]; simpa using hn), e2]
    simp
theorem keys_rest : ∀ (rs : List Str) (acc : List (Str × Str)), (∀ p ∈ rs, ∀ e ∈ letters p, e ∈ keysS acc) → keysS (rs.foldl famStep acc) = keysS acc
  | [], acc, _ => rfl
  | p :: rs, acc, h => by
    have h1 : keysS (famStep acc p) = keysS acc := keys_puts p _ acc (h p (.head _))
    rw [List.foldl_cons, keys_rest rs _ fun q hq e he => by rw [h1]; exact h q (.tail _ hq) e he, h1]
end
section
set_option linter.unusedVariables false
set_option maxRecDepth 100000
structure RunOk (steps : List (Int × Int)) (first figs : List Int) : Prop where
  hs : StepsOk steps
  hf : first ∈ ords
  hg : ∀ f ∈ figs, 0 ≤ f
  h6 : figs.length = 6
  hso : (first.map (keyF steps)).Pairwise (· ≤ ·)
def rowsL (first figs : List Int) : List (List Int) := (List.range 7).map (runAt first figs)
def waysL (steps : List (Int × Int)) (first figs : List Int) : List (List Int) := (rowsL first figs).map fun row => wayTo row (risesOf steps) row.length
def textsL (steps : List (Int × Int)) (first figs : List Int) : List Str := (waysL steps first figs).map textOf
def wk (steps : List (Int × Int)) (first figs : List Int) (k x : Nat) : Nat := H (sig steps (runAt first figs k)) x
def wide (steps : List (Int × Int)) (first figs : List Int) : Nat := sA (sig steps (runAt first figs 0)) + 1
theorem H_le : ∀ l x, H l x ≤ sB l
  | [], _ => Nat.le_refl _
  | (a, b) :: r, x => by
    have e2 : sB ((a, b) :: r) = b + sB r := by simp [sB]
    rw [H, e2]
    split
    · rename_i h
      have : b * x / a ≤ b := Nat.div_le_of_le_mul (by rw [Nat.mul_comm]; exact Nat.mul_le_mul_right _ h)
      omega
    · have := H_le r (x - a); omega
section
variable {steps : List (Int × Int)} {first figs : List Int} (R : RunOk steps first figs)
include R
theorem RunOk.row {k : Nat} (hk : k ≤ 6) : (runAt first figs k).length = 4 ∧ ∀ x ∈ runAt first figs k, x ∈ first ∧ 0 ≤ x ∧ x < 4 := (ok_of R.hf (runAt_ords R.hf R.hg R.h6 hk)).2.2.2.2
theorem RunOk.turn {k : Nat} (hk : k < 6) : ∃ p, p < 3 ∧ diffTo (runAt first figs k) (runAt first figs (k + 1)) 4 = [p, p + 1] ∧ ∃ pre suf s t, sig steps (runAt first figs k) = pre ++ ([s, t] ++ suf) ∧ sig steps (runAt first figs (k + 1)) = pre ++ ([t, s] ++ suf) ∧ s ∈ nines ∧ t ∈ nines ∧ s.2 * t.1 ≤ s.1 * t.2 ∧
      tileOf steps (runAt first figs k) p = ⟨sA pre, sB pre, s.1, s.2, t.1, t.2⟩ ∧ sA pre ≤ 6 ∧ sB pre ≤ 4 := by
  obtain ⟨p, h1, h2, h3, h4⟩ := run_turn R.hf R.hg R.h6 hk
  exact ⟨p, h1, h2, turn_facts R.hs R.hf R.hg R.h6 R.hso hk h1 h3 h4⟩
theorem RunOk.len : ∀ k, k ≤ 6 → sA (sig steps (runAt first figs k)) + 1 = wide steps first figs
  | 0, _ => rfl
  | k + 1, hk => by
    have ih := RunOk.len k (by omega)
    obtain ⟨p, _, _, pre, suf, s, t, e1, e2, _⟩ := R.turn (show k < 6 by omega)
    rw [e1] at ih
    rw [e2, ← ih]
    simp [sA]; omega
theorem RunOk.small {k : Nat} (hk : k ≤ 6) : sA (sig steps (runAt first figs k)) ≤ 12 ∧ sB (sig steps (runAt first figs k)) ≤ 8 := by
  obtain ⟨h4, hm⟩ := R.row hk
  obtain ⟨_, _, h1, h2⟩ := sums_sig R.hs (l := runAt first figs k) fun x hx => (hm x hx).2
  omega
theorem RunOk.wide_le : wide steps first figs ≤ 13 := by
  have := (R.small (Nat.zero_le 6)).1
  unfold wide; omega
theorem RunOk.wk_le {k : Nat} (hk : k ≤ 6) (x : Nat) : wk steps first figs k x ≤ 8 := Nat.le_trans (H_le _ _) (R.small hk).2
theorem RunOk.up {k x : Nat} (hk : k < 6) (hx : x ≤ 12) : wk steps first figs k x ≤ wk steps first figs (k + 1) x := by
  obtain ⟨p, _, _, pre, suf, s, t, e1, e2, n1, n2, hsl, _, q1, q2⟩ := R.turn hk
  unfold wk
  rw [e1, e2]
  exact (turn_H n1 n2 hsl q1 q2 hx).1
theorem RunOk.upTo {x : Nat} (hx : x ≤ 12) : ∀ {i j : Nat}, i ≤ j → j ≤ 6 → wk steps first figs i x ≤ wk steps first figs j x := fun {i j} hij => by
  induction hij with
  | refl => intro _; exact Nat.le_refl _
  | step h ih => intro hj; exact Nat.le_trans (ih (by omega)) (R.up (by omega) hx)
theorem RunOk.way {k : Nat} (hk : k ≤ 6) : wayTo (runAt first figs k) (risesOf steps) (runAt first figs k).length = (List.range (wide steps first figs)).map fun x => (wk steps first figs k x : Int) := by
  rw [way_eq R.hs (fun x hx => ((R.row hk).2 x hx).2) _ (Nat.le_refl _), List.take_length, R.len k hk]
  rfl
theorem RunOk.ways : waysL steps first figs = (List.range 7).map fun k => (List.range (wide steps first figs)).map fun x => (wk steps first figs k x : Int) := by
  unfold waysL rowsL
  rw [List.map_map]
  apply List.map_congr_left
  intro k hk
  exact R.way (by have := List.mem_range.mp hk; omega)
theorem RunOk.ways_at {k : Nat} (hk : k ≤ 6) : (waysL steps first figs).getD k [] = (List.range (wide steps first figs)).map fun x => (wk steps first figs k x : Int) := by
  rw [R.ways, List.getD_eq_getElem?_getD, List.getElem?_map, List.getElem?_range (by omega)]; rfl
theorem RunOk.hgt_at {k : Nat} (hk : k ≤ 6) (x : Nat) : hgt ((waysL steps first figs).getD k []) x = if x < wide steps first figs then wk steps first figs k x + 1 else 1 := by
  rw [R.ways_at hk]
  unfold hgt
  rw [List.getD_eq_getElem?_getD, List.getElem?_map]
  by_cases hx : x < wide steps first figs
  · rw [List.getElem?_range hx, if_pos hx]
    simp only [Option.map_some, Option.getD_some]
    omega
  · rw [List.getElem?_eq_none (by simpa using hx), if_neg hx]; rfl
theorem RunOk.hgt_le {k : Nat} (hk : k ≤ 6) (x : Nat) : hgt ((waysL steps first figs).getD k []) x ≤ 9 := by
  rw [R.hgt_at hk]
  have := R.wk_le hk x
  split <;> omega
theorem RunOk.col {x : Nat} (hx : x < wide steps first figs) : colAt (waysL steps first figs) x = (List.range 7).map fun k => (wk steps first figs k x : Int) := by
  unfold colAt
  rw [R.ways, List.map_map]
  apply List.map_congr_left
  intro k _
  simp only [Function.comp]
  rw [List.getD_eq_getElem?_getD, List.getElem?_map, List.getElem?_range hx]; rfl
theorem RunOk.col_at {x k : Nat} (hx : x < wide steps first figs) (hk : k ≤ 6) : (colAt (waysL steps first figs) x).getD k 0 = wk steps first figs k x := by
  rw [R.col hx, List.getD_eq_getElem?_getD, List.getElem?_map, List.getElem?_range (by omega)]; rfl
theorem RunOk.sorted {x : Nat} (hx : x < wide steps first figs) : (colAt (waysL steps first figs) x).Pairwise (· ≤ ·) := by
  rw [R.col hx, List.pairwise_map]
  refine List.pairwise_lt_range.imp_of_mem fun {a b} ha hb hab => ?_
  have := List.mem_range.mp hb
  have := R.upTo (x := x) (by have := R.wide_le; omega) (Nat.le_of_lt hab) (by omega)
  omega
/-- the texts -/
theorem RunOk.text_at {k : Nat} (hk : k ≤ 6) : (textsL steps first figs).getD k ⟨#[]⟩ = textOf ((waysL steps first figs).getD k []) := by
  have hl : (waysL steps first figs).length = 7 := by simp [waysL, rowsL]
  unfold textsL
  rw [List.getD_eq_getElem?_getD, List.getElem?_map, List.getD_eq_getElem?_getD, List.getElem?_eq_getElem (by omega)]; rfl
theorem RunOk.mem {k x y : Nat} (hk : k ≤ 6) (hy : y < 16) : chS x y ∈ letters ((textsL steps first figs).getD k ⟨#[]⟩) ↔ x < wide steps first figs ∧ y ≤ wk steps first figs k x := by
  have hl : ((waysL steps first figs).getD k []).length = wide steps first figs := by rw [R.ways_at hk]; simp
  rw [R.text_at hk, letters_text, mem_chS (fun x => Nat.le_trans (R.hgt_le hk x) (by omega)) hy, hl, R.hgt_at hk]
  constructor
  · rintro ⟨h1, h2⟩; rw [if_pos h1] at h2; exact ⟨h1, by omega⟩
  · rintro ⟨h1, h2⟩; rw [if_pos h1]; exact ⟨h1, by omega⟩
theorem RunOk.sub {k : Nat} (hk : k ≤ 6) : ∀ e ∈ letters ((textsL steps first figs).getD k ⟨#[]⟩), e ∈ letters ((textsL steps first figs).getD 6 ⟨#[]⟩) := fun e he => by
  have he' := he
  rw [R.text_at hk, letters_text] at he'
  obtain ⟨x, y, _, h2, rfl⟩ := mem_chars.mp he'
  have hy : y < 16 := by have := R.hgt_le hk x; omega
  rw [R.mem hk hy] at he
  rw [R.mem (Nat.le_refl 6) hy]
  refine ⟨he.1, Nat.le_trans he.2 (R.upTo (by have := R.wide_le; omega) hk (Nat.le_refl 6))⟩
theorem RunOk.keys : keysS (famOf (famsOf (textsL steps first figs))) = letters ((textsL steps first figs).getD 6 ⟨#[]⟩) := by
  unfold famOf famsOf
  rw [List.foldl_append]
  have h1 : keysS ((letters ((textsL steps first figs).getD 6 ⟨#[]⟩)).foldl famStep []) = letters ((textsL steps first figs).getD 6 ⟨#[]⟩) := by
    rw [R.text_at (Nat.le_refl 6), letters_text]
    have := keys_singles (charsTo ((waysL steps first figs).getD 6 []) ((waysL steps first figs).getD 6 []).length) [] (chars_single _ _) (by
      simpa [keysS] using chars_nodup (fun x => Nat.le_trans (R.hgt_le (Nat.le_refl 6) x) (by omega)) _)
    simpa [keysS] using this
  rw [keys_rest, h1]
  intro p hp e he
  rw [h1]
  obtain ⟨i, hi, rfl⟩ := List.mem_map.mp hp
  exact R.sub (by omega) e he
theorem RunOk.find {x y r : Nat} (hx : x < wide steps first figs) (hr : r ≤ 6) (hlo : ∀ i, i < r → wk steps first figs i x < y) (hhi : ∀ i, i ≤ 6 → r ≤ i → y ≤ wk steps first figs i x) :
    findS (famOf (famsOf (textsL steps first figs))) (chS x y) = some ((textsL steps first figs).getD r ⟨#[]⟩) := by
  have hy : y < 16 := by have := hhi 6 (Nat.le_refl 6) hr; have := R.wk_le (Nat.le_refl 6) x; omega
  unfold famOf famsOf
  rw [List.foldl_append]
  generalize (letters ((textsL steps first figs).getD 6 ⟨#[]⟩)).foldl famStep [] = acc
  have main : ∀ j, j ≤ 6 → findS (((List.range (j + 1)).map fun i => (textsL steps first figs).getD (6 - i) ⟨#[]⟩).foldl famStep acc) (chS x y) = some ((textsL steps first figs).getD (max r (6 - j)) ⟨#[]⟩) := by
    intro j
    induction j with
    | zero =>
      intro _
      rw [show (List.range (0 + 1)) = [0] by rfl, List.map_cons, List.map_nil, List.foldl_cons, List.foldl_nil, find_step, if_pos ((R.mem (by omega) hy).mpr ⟨hx, hhi 6 (Nat.le_refl 6) hr⟩)]
      rw [show max r (6 - 0) = 6 - 0 by omega]
    | succ j ih =>
      intro hj
      have ih := ih (by omega)
      rw [List.range_succ, List.map_append, List.foldl_append, List.map_cons, List.map_nil, List.foldl_cons, List.foldl_nil, find_step, ih]
      by_cases h : r ≤ 6 - (j + 1)
      · rw [if_pos ((R.mem (by omega) hy).mpr ⟨hx, hhi _ (by omega) h⟩), show max r (6 - (j + 1)) = 6 - (j + 1) by omega]
      · rw [if_neg, show max r (6 - (j + 1)) = max r (6 - j) by omega]
        rw [R.mem (by omega) hy]
        rintro ⟨_, h2⟩
        have := hlo (6 - (j + 1)) (by omega)
        omega
  have := main 6 (Nat.le_refl 6)
  rwa [show max r (6 - 6) = r by omega] at this
end
end
section
set_option linter.unusedVariables false
set_option linter.unusedSectionVars false
set_option maxRecDepth 100000
theorem nines_le {p : Nat × Nat} (h : p ∈ nines) : p.1 ≤ 3 ∧ p.2 ≤ 2 := by
  unfold nines at h
  simp only [List.mem_cons, List.not_mem_nil, or_false] at h
  rcases h with rfl | rfl | rfl | rfl | rfl | rfl | rfl | rfl | rfl <;> decide
def tilesL (steps : List (Int × Int)) (first figs : List Int) (pAt : Nat → Nat) : List Tile := (List.range 6).map fun k => tileOf steps ((rowsL first figs).getD k []) (pAt k)
structure PtsOk (steps : List (Int × Int)) (first figs : List Int) (pAt : Nat → Nat) : Prop where
  p : ∀ k, k < 6 → pAt k < 3 ∧ diffTo ((rowsL first figs).getD k []) ((rowsL first figs).getD (k + 1) []) 4 = [pAt k, pAt k + 1]
  ok : ∀ z ∈ tilesL steps first figs pAt, z.ok
  holds : ∀ k, k < 6 → ∀ x y : Nat, x < wide steps first figs → y ≤ 8 → holdsB ((tilesL steps first figs pAt).getD k ⟨0, 0, 0, 0, 0, 0⟩) x y = (decide (wk steps first figs k x < y) && decide (y ≤ wk steps first figs (k + 1) x))
theorem rows_at {first figs : List Int} {k : Nat} (hk : k ≤ 6) : (rowsL first figs).getD k [] = runAt first figs k := by
  unfold rowsL
  rw [List.getD_eq_getElem?_getD, List.getElem?_map, List.getElem?_range (by omega)]; rfl
theorem tiles_at {steps : List (Int × Int)} {first figs : List Int} {pAt : Nat → Nat} {k : Nat} (hk : k < 6) : (tilesL steps first figs pAt).getD k ⟨0, 0, 0, 0, 0, 0⟩ = tileOf steps (runAt first figs k) (pAt k) := by
  unfold tilesL
  rw [List.getD_eq_getElem?_getD, List.getElem?_map, List.getElem?_range hk]
  simp only [Option.map_some, Option.getD_some]
  rw [rows_at (by omega)]
section
variable {steps : List (Int × Int)} {first figs : List Int} (R : RunOk steps first figs)
include R
theorem RunOk.pts : ∃ pAt, PtsOk steps first figs pAt := by
  have hT : ∀ k, ∃ p : Nat, k < 6 → p < 3 ∧ diffTo (runAt first figs k) (runAt first figs (k + 1)) 4 = [p, p + 1] ∧ (tileOf steps (runAt first figs k) p).ok ∧
      ∀ x y : Nat, x < wide steps first figs → y ≤ 8 → holdsB (tileOf steps (runAt first figs k) p) x y = (decide (wk steps first figs k x < y) && decide (y ≤ wk steps first figs (k + 1) x)) := fun k => by
    by_cases hk : k < 6
    · obtain ⟨p, h1, h2, pre, suf, s, t, e1, e2, n1, n2, hsl, ht, q1, q2⟩ := R.turn hk
      refine ⟨p, fun _ => ⟨h1, h2, ?_, fun x y hx hy => ?_⟩⟩
      · rw [ht]
        obtain ⟨a1, a2⟩ := nines_le n1
        obtain ⟨b1, b2⟩ := nines_le n2
        unfold Tile.ok
        dsimp only
        omega
      · rw [ht]
        unfold wk
        rw [e1, e2]
        exact (turn_H n1 n2 hsl q1 q2 (by have := R.wide_le; omega)).2 y hy
    · exact ⟨0, fun h => absurd h hk⟩
  refine ⟨fun k => Classical.choose (hT k), ⟨fun k hk => ?_, fun z hz => ?_, fun k hk x y hx hy => ?_⟩⟩
  · have := Classical.choose_spec (hT k) hk
    rw [rows_at (by omega), rows_at (by omega)]
    exact ⟨this.1, this.2.1⟩
  · obtain ⟨k, hk, rfl⟩ := List.mem_map.mp hz
    have hk := List.mem_range.mp hk
    rw [rows_at (by omega)]
    exact (Classical.choose_spec (hT k) hk).2.2.1
  · rw [tiles_at hk]
    exact (Classical.choose_spec (hT k) hk).2.2.2 x y hx hy
theorem RunOk.hits {pAt : Nat → Nat} (P : PtsOk steps first figs pAt) {x y r : Nat} (hx : x < wide steps first figs) (hr : r ≤ 6) (hlo : ∀ i, i < r → wk steps first figs i x < y) (hhi : ∀ i, i ≤ 6 → r ≤ i → y ≤ wk steps first figs i x) :
    hitsTo (tilesL steps first figs pAt) x y 6 = ([(r : Int)] : List Int).take r := by
  have hy : y ≤ 8 := Nat.le_trans (hhi 6 (Nat.le_refl 6) hr) (R.wk_le (Nat.le_refl 6) x)
  have e : (List.range 6).filter (fun k => holdsB ((tilesL steps first figs pAt).getD k ⟨0, 0, 0, 0, 0, 0⟩) x y) = (List.range 6).filter (fun k => decide (k + 1 = r)) := by
    apply List.filter_congr
    intro k hk
    have hk := List.mem_range.mp hk
    rw [P.holds k hk x y hx hy]
    by_cases h1 : k < r
    · rw [decide_eq_true (hlo k h1), Bool.true_and]
      by_cases h2 : r ≤ k + 1
      · rw [decide_eq_true (hhi (k + 1) (by omega) h2), decide_eq_true (show k + 1 = r by omega)]
      · rw [decide_eq_false (show ¬ y ≤ wk steps first figs (k + 1) x by have := hlo (k + 1) (by omega); omega), decide_eq_false (show ¬ k + 1 = r by omega)]
    · rw [decide_eq_false (show ¬ wk steps first figs k x < y by have := hhi k (by omega) (by omega); omega), decide_eq_false (show ¬ k + 1 = r by omega)]; rfl
  unfold hitsTo
  rw [e]
  obtain rfl | rfl | rfl | rfl | rfl | rfl | rfl : r = 0 ∨ r = 1 ∨ r = 2 ∨ r = 3 ∨ r = 4 ∨ r = 5 ∨ r = 6 := by omega
  all_goals decide
theorem RunOk.point {pAt : Nat → Nat} (P : PtsOk steps first figs pAt) (x y r : Nat) (hx : x < wide steps first figs) (hy : (y : Int) ≤ (colAt (waysL steps first figs) x).getD 6 0) (hr : r ≤ 7)
    (hlo : ∀ i, i < r → (colAt (waysL steps first figs) x).getD i 0 < (y : Int)) (hhi : ∀ i, i < 7 → r ≤ i → (y : Int) ≤ (colAt (waysL steps first figs) x).getD i 0) :
    r ≤ 6 ∧ ((famOf (famsOf (textsL steps first figs))).find? fun p => p.1 = chS x y).map (·.2) = some ((textsL steps first figs).getD r ⟨#[]⟩) ∧ hitsTo (tilesL steps first figs pAt) x y 6 = ([(r : Int)] : List Int).take r := by
  have hr6 : r ≤ 6 := by
    rcases Nat.lt_or_ge 6 r with h | h
    · have := hlo 6 h; omega
    · exact h
  have l1 : ∀ i, i < r → wk steps first figs i x < y := fun i hi => by
    have := hlo i hi
    rw [R.col_at hx (by omega)] at this
    omega
  have l2 : ∀ i, i ≤ 6 → r ≤ i → y ≤ wk steps first figs i x := fun i hi hle => by
    have := hhi i (by omega) hle
    rw [R.col_at hx hi] at this
    omega
  exact ⟨hr6, R.find hx hr6 l1 l2, R.hits P hx hr6 l1 l2⟩
theorem RunOk.way_mem : ∀ way ∈ waysL steps first figs, way.length = wide steps first figs ∧ ∀ v ∈ way, 0 ≤ v ∧ v ≤ 100 := by
  rw [R.ways]
  intro way hw
  obtain ⟨k, hk, rfl⟩ := List.mem_map.mp hw
  refine ⟨by simp, fun v hv => ?_⟩
  obtain ⟨x, hx, rfl⟩ := List.mem_map.mp hv
  have := R.wk_le (show k ≤ 6 by have := List.mem_range.mp hk; omega) x
  omega
theorem RunOk.way_pre {k : Nat} (hk : k ≤ 6) (j : Nat) (hj : j ≤ (runAt first figs k).length) : (wayTo (runAt first figs k) (risesOf steps) j).length ≤ 100000 := by
  obtain ⟨h4, hm⟩ := R.row hk
  rw [way_eq R.hs (fun x hx => (hm x hx).2) j hj, List.length_map, List.length_range]
  have := (sums_sig R.hs (l := (runAt first figs k).take j) fun x hx => (hm x (List.mem_of_mem_take hx)).2).2.2.1
  have : ((runAt first figs k).take j).length ≤ 4 := by rw [List.length_take]; omega
  omega
theorem RunOk.text_size : ∀ s ∈ textsL steps first figs, s.cps.size ≤ 200 := fun s hs => by
  obtain ⟨i, hi⟩ := List.getElem?_of_mem hs
  have hl : (textsL steps first figs).length = 7 := by simp [textsL, waysL, rowsL]
  have hi7 : i < 7 := by have := (List.getElem?_eq_some_iff.mp hi).1; omega
  have e : (textsL steps first figs).getD i ⟨#[]⟩ = s := by rw [List.getD_eq_getElem?_getD, hi]; rfl
  have h1 := R.text_at (k := i) (by omega)
  rw [e] at h1
  have h2 : (letters s).length = s.cps.size := by simp [letters]
  rw [← h2, h1, letters_text]
  have h3 := chars_len (R.hgt_le (k := i) (by omega)) ((waysL steps first figs).getD i []).length
  have h4 : ((waysL steps first figs).getD i []).length = wide steps first figs := by rw [R.ways_at (by omega)]; simp
  have := R.wide_le
  rw [h4] at h3 ⊢
  omega
theorem RunOk.text_ok : ∀ s ∈ letters ((textsL steps first figs).getD 6 ⟨#[]⟩), PyData.strOk s = true := fun s hs => by
  rw [R.text_at (Nat.le_refl 6), letters_text] at hs
  obtain ⟨x, y, h1, h2, rfl⟩ := mem_chars.mp hs
  have h3 := R.hgt_le (Nat.le_refl 6) x
  have h4 : ((waysL steps first figs).getD 6 []).length = wide steps first figs := by rw [R.ways_at (by omega)]; simp
  have := R.wide_le
  show (#[100 + 16 * x + y].all (· < 0x110000)) = true
  simp
  omega
end
theorem rises_ok {steps : List (Int × Int)} (h : StepsOk steps) : (risesOf steps).length = 4 ∧ ∀ l ∈ risesOf steps, l.length ≤ 1000 := by
  refine ⟨by simp [risesOf, h.1], fun l hl => ?_⟩
  obtain ⟨p, hp, rfl⟩ := List.mem_map.mp hl
  have := h.2 p hp
  simp [riseTo]
  omega
end
section
theorem c_law {C : WC} {mg mb} (w : Wd C mg mb) {n : Nat} {K : KH} {O : OL} {l : Addr} {xs : List Value} {ns : List Int} {Q : Value → KH → OL → Prop} (hn : n ≤ 50)
    (hl : ∀ K O, LstAt C K O l xs) (hx : A2 IntV xs ns) (hz : xs.length < 1000000)
    (h : ∀ K' O' ps qs, KLe K K' → K' 203 = some (.ex (tabObj ps)) → K' 210 = some (.ex (tabObj qs)) → Q (.bool true) K' O') :
    WR C n K ((210, .ex (tabObj #[])) :: (203, .ex (tabObj #[])) :: O) (call (.ref 213) [.ref l] []) Q := by
  refine w.callR f213 [(Str.ofString "script", .ref l)] (by omega) (by kernel_rfl) (fun _ => by kernel_rfl) (by kernel_rfl) (by kernel_rfl) (fun L => ?_)
  refine fun c1 c2 c3 c4 c5 c6 c7 => ?_
  show W _ _ _ _ (storeBinds _ _) _
  iterate 3 cell_call
  refine law1 w (by omega) hl hx hz setm_eq fun K₁ m₁ R F La a b ta tb hle₁ hR ea eb ⟨S, hc7, hS⟩ g1 g2 g3 hF hLa ⟨qs, hq⟩ => ?_
  obtain ⟨i1, i2, i3⟩ := ins_facts (keyF (stepsOf (figs 9 4 a)))
  have hso : StepsOk (stepsOf (figs 9 4 a)) := steps_ok (figs_len _ _ _) (figs_mem 9 (by decide) 4 a)
  rw [i2] at hLa
  generalize hst : stepsOf (figs 9 4 a) = steps at *
  have hsort := (i3 4 (Nat.le_refl 4)).1.2
  generalize hfi : insTo (ltR (keyF steps)) 4 = first at *
  have RO : RunOk steps first (figs 6 6 b) := ⟨hso, i1, fun f hf => (figs_mem 6 (by decide) 6 b f hf).1, figs_len _ _ _, hsort⟩
  refine law2 w (by omega) hR g1 g2 g3 hF hLa i1 fun K₂ m₂ U hle₂ hc1 hU => ?_
  have hU' : LstV IntsV K₂ (.ref U) (rowsL first (figs 6 6 b)) := hU
  refine law3 w (by omega) (hle₂ _ _ hc7) (mono_lst mono_pair _ _ _ _ hle₂ hS) hso fun K₃ m₃ V hle₃ hc2 hV => ?_
  obtain ⟨ro1, ro2⟩ := rises_ok hso
  refine law4 w (by omega) (hle₃ _ _ hc1) (mono_lst (mono_lst mono_int) _ _ _ _ hle₃ hU') hc2 hV (by simp [rowsL]) ro1 ro2 (fun row hr => ?_) fun K₄ m₄ Y hle₄ g4 hY => ?_
  · obtain ⟨k, hk, rfl⟩ := List.mem_map.mp hr
    have hk6 : k ≤ 6 := by have := List.mem_range.mp hk; omega
    exact ⟨fun x hx => ((RO.row hk6).2 x hx).2, RO.way_pre hk6⟩
  have hY' : LstV IntsV K₄ (.ref Y) (waysL steps first (figs 6 6 b)) := hY
  have hwm := RO.way_mem
  have hw13 := RO.wide_le
  refine law5 w (by omega) g4 hY' (by simp [waysL, rowsL]) (fun way hw => ⟨by have := (hwm way hw).1; omega, (hwm way hw).2⟩) fun K₅ X hle₅ hc5 hX => ?_
  have hX' : LstV strK K₅ (.ref X) (textsL steps first (figs 6 6 b)) := hX
  refine law6 w (by omega) hc5 hX' (by simp [textsL, waysL, rowsL]) RO.text_size RO.text_ok RO.keys fun K₆ m₆ d o kvs ps hle₆ h203 hm6 g6 hd ho hkv => ?_
  obtain ⟨pAt, P⟩ := RO.pts
  have hle26 : KLe K₂ K₆ := hle₃.trans (hle₄.trans (hle₅.trans hle₆))
  refine law7 w (by omega) (hle26 _ _ (hle₂ _ _ hc7)) (mono_lst mono_pair _ _ _ _ (hle₂.trans hle26) hS) hso (hle26 _ _ hc1) (mono_lst (mono_lst mono_int) _ _ _ _ hle26 hU') (by simp [rowsL]) (fun row hr => ?_) P.p fun K₇ T hle₇ hc6 hT => ?_
  · obtain ⟨k, hk, rfl⟩ := List.mem_map.mp hr
    have hk6 : k ≤ 6 := by have := List.mem_range.mp hk; omega
    exact ⟨(RO.row hk6).1, fun x hx => ((RO.row hk6).2 x hx).2⟩
  have hT' : LstV TileV K₇ (.ref T) (tilesL steps first (figs 6 6 b) pAt) := hT
  have hle67 := hle₆.trans hle₇
  refine law8 w (by omega) ((hm6 _ (by decide +kernel)).trans g4) (mono_lst (mono_lst mono_int) _ _ _ _ (hle₅.trans hle67) hY') (by simp [waysL, rowsL]) (fun way hw => (hwm way hw).1) (by omega) (fun way hw => (hwm way hw).2)
    (hle67 _ _ hc5) (mono_lst mono_str _ _ _ _ hle67 hX') (by simp [textsL, waysL, rowsL]) g6 (hle₇ _ _ hd) ho hkv hc6 hT' (by simp [tilesL]) P.ok (fun x hx => RO.sorted hx) (fun x y r => RO.point P x y r) fun K' O' hle => ?_
  have hleA : KLe K₂ K' := hle26.trans (hle₇.trans hle)
  exact ⟨O', List.Sublist.refl _, h K' O' ps qs (hle₁.trans (hle₂.trans hleA)) (hle _ _ (hle₇ _ _ h203)) (hleA _ _ (hle₂ _ _ hq))⟩
end
section
set_option linter.unusedVariables false
set_option maxRecDepth 100000
set_option maxHeartbeats 4000000
/-- what holds of a code's end, from what codeAny tells of a code that just ends -/
theorem good_of {s s₁ : Shared} {w : World} {cw : ClaimW} {cl : Str → Option Addr} {mean : ExcName → Option Value} {args : List WData} {tabs : List (Addr × Addr)} {v : Value} (hT : TabsAt tabs s₁.heap) (hr : ∀ a x, cw.raises a x = false)
    (h : GoodW cw cl mean args { s₁ with heap := ghostOf s₁.heap tabs } (.ok (.ret v)) s ∧ GrownAll tabs s.heap) : GoodWG cw cl mean args s₁ (.ok (.ret v)) s := by
  have h1 : codeAny (⟨fun _ => pure (.done (.ret v)), default, w⟩ : Model) {} (.call .none ⟨[], []⟩) (GoodWG cw cl mean args s₁) s := kn_post hT hr (codeAny_of_tree (wpAny_pure h))
  have h2 := h1 ⟨.call .none ⟨[], []⟩, none, none, [], none⟩ default rfl ⟨rfl, Nat.le_refl _, (fun l hl => by cases hl), (fun g hg => by cases hg), by decide +kernel⟩
  rw [wpCode_iff_wp] at h2
  have h3 := (Sem.wp_pure' ..).mp h2
  exact h3
theorem claim_raises : ∀ a x, PySem.Challenge.rw_wu0088_01.row.claim.raises a x = false := fun _ _ => rfl
theorem lawHolds : PySem.Challenge.rw_wu0088_01.Holds := hd9 (by rfl) (by rfl) (by rfl) (by
  intro w s₀ s₁ mg mb G Y fa o pm cd doc dV kV ho hd' hcd hD hmg hg args vals as hpre hlay hrd hwl hlo
  have X := km_in_of Y
  have hT := km_tabs_of Y
  have T := G.T
  have e213 : mg (Str.ofString "law") = some (.ref 213) := mg_of X T.g (by kernel_rfl)
  have efa : fa = 213 := by
    have : some (Value.ref fa) = some (Value.ref 213) := hmg.symm.trans e213
    cases this; rfl
  subst efa
  clear hd' hmg hD hcd ho
  wrow_args hpre hlay hrd hwl hlo
  rename_i ns hs0 hl0 hL1 hr1 hl2 as1 as2 l xs as3 hL ra w1 r0 hI hr hc1 hc2
  have hT9 : TabsAt [(207, 203), (212, 210)] s₁.heap := fun q hq => by
    rcases List.mem_cons.mp hq with rfl | hq
    · exact ⟨codeHd_of X tab_208, hT 203 (.head _)⟩
    · rcases List.mem_cons.mp hq with rfl | hq
      · exact ⟨codeHd_of X tab_law, hT 210 (.tail _ (.head _))⟩
      · cases hq
  let C : WC := ⟨PySem.Challenge.rw_wu0088_01.row.prog, w, ghostOf s₁.heap [(207, 203), (212, 210)], s₁.os⟩
  have hw : Wd C mg mb := by
    refine ⟨ghost_K hT9 X (by kernel_rfl), ghost_ns hT9 T.g, ghost_ns hT9 T.b, T.builtins, ?_, ?_⟩
    · obtain ⟨mc, a, r⟩ := T.nolimit
      exact ⟨mc, ghost_ns hT9 a, r⟩
    · intro P hP
      obtain ⟨bm, ob, b1, b2, b3, b4, b5, b6⟩ := T.bmain
      have b3' : C.G.get? bm = some ob := ghost_get hT9 b3 (fun q => by rw [q] at b4; cases b4)
      refine ⟨bm, ob, b1, b2, fun q => ?_, fun q => ?_, b3', b4, b5, b6⟩
      · obtain ⟨o', es, ep, e, hd2, _⟩ := T.g
        rw [q, e] at b3
        cases b3
        rw [hd2] at b6
        cases b6
      · subst q
        exact hP _ b3' b4
  have S : Sat C (fun _ => none) [(210, .ex (tabObj #[])), (203, .ex (tabObj #[]))] s₁ := by
    refine ⟨fun b o e => of_hideAll _ e, (fun a x e => by cases e), fun p hp => ?_, fun p hp => ?_, by decide, hg, rfl⟩
    · rcases List.mem_cons.mp hp with rfl | hp
      · exact At.ex_of (hT 210 (.tail _ (.head _)))
      · rcases List.mem_cons.mp hp with rfl | hp
        · exact At.ex_of (hT 203 (.head _))
        · cases hp
    · refine ⟨rfl, ?_⟩
      rcases List.mem_cons.mp hp with rfl | hp
      · exact hideAll_none _ (.tail _ (.head _))
      · rcases List.mem_cons.mp hp with rfl | hp
        · exact hideAll_none _ (.head _)
        · cases hp
  have hA : AOk 0 callerA := ⟨rfl, by decide +kernel, by decide, rfl⟩
  have main : WR C 0 (fun _ => none) [(210, .ex (tabObj #[])), (203, .ex (tabObj #[]))] (call (.ref 213) [.ref l] []) fun v K' O' => v = .bool true ∧ (∃ ps, K' 203 = some (.ex (tabObj ps))) ∧ ∃ qs, K' 210 = some (.ex (tabObj qs)) :=
    c_law hw (by omega) (fun K O => LstAt.g (ghost_list hT9 hL)) (A2.of_ints hI) (by have := hI.length; omega) fun K' O' ps qs _ h1 h2 => ⟨rfl, ⟨ps, h1⟩, qs, h2⟩
  refine main.to hA S fun v s' K' O' S' q => ?_
  obtain ⟨rfl, ⟨ps, h1⟩, qs, h2⟩ := q
  refine good_of (w := w) hT9 claim_raises ⟨⟨.inl ⟨_, _, _, rfl, fun cls => claim_raises _ _, .bool true, ?_, unshared_nil⟩, S'.base, S'.os, S'.gens⟩, ⟨ps, At.ex (S'.kn _ _ h1)⟩, ⟨qs, At.ex (S'.kn _ _ h2)⟩, trivial⟩
  wrow_post)
end
end Mine
end
set_option maxRecDepth 100000 in
set_option maxHeartbeats 8000000 in
theorem PySem.Challenge.cw_wu0088_01_holds : PySem.Challenge.rw_wu0088_01.Holds := by
  exact Mine.lawHolds
