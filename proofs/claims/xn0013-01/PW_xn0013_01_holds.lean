import PyProof.Rows.All
import Wide.All
import OpenK.AllK
import Wide.FinOn
import PySem.Challenge.RW_xn0013_01
open PySem PySem.W PyProof.Rows
set_option Elab.async false
set_option maxRecDepth 100000
set_option maxHeartbeats 8000000

namespace Mine
theorem said : OpenLaw.wellSaid PySem.Challenge.rw_xn0013_01 = true := by
  rw [PySem.W.Fast.te9446332074065402090]
  kernel_rfl
theorem pass_head {r : OpenRow} (hw : r.promised) (hc : r.Holds) : r.Holds := hc
section
local macro_rules | `(tactic| o_law) => `(tactic| refine holds_law said fun said => ?_)
set_option hygiene false in
local macro_rules | `(tactic| o_head $H:term) => `(tactic| refine pass_head ?hw ?hc)
open_top hd for PySem.Challenge.rw_xn0013_01
end
end Mine

namespace Mine
/-- the addresses of the written part -/
def asK : List Addr := [2, 3, 22, 23, 25, 26, 28, 29, 30, 32, 33, 35, 36, 37, 39, 40, 42, 43, 44, 46, 47, 49, 50, 51, 53, 54, 56, 57, 58, 60, 61, 63, 64, 65, 67, 68, 70, 71, 72, 74, 75, 77, 78, 79, 81, 82, 84, 85, 86, 87, 88, 89, 90, 93, 95, 96, 98, 99, 100, 102, 103, 105, 106, 107, 114, 115, 116, 117, 120, 127, 128, 129, 132, 139, 140, 141, 144, 146, 147, 149, 150, 151, 153, 154, 156, 157, 158, 161, 163, 164, 166, 167, 168, 170, 171, 173, 174, 175, 177, 178, 180, 181, 182, 184, 185, 187, 188, 189, 192, 193, 194, 197, 198, 199, 201, 202, 204, 205, 206, 209, 210, 211, 214, 215, 216, 218, 219, 221, 222, 223, 225, 226, 228, 229, 230, 233, 234, 235, 238, 239]
/-- the statements whose names the walk may lean on -/
def V : Program := view PySem.Challenge.pw_xn0013_01 [1, 2, 3, 5, 6, 7, 8, 9, 10, 12, 13, 14, 15, 16, 17, 18, 19, 20, 21, 22, 23, 24, 25, 26, 27, 28, 29, 30, 31, 32, 33, 34, 35, 36, 37, 38, 39, 40, 41, 42, 43, 44, 45, 46, 47, 48, 49, 50, 51, 52, 53, 54, 55, 56, 57, 58, 59, 60, 61, 62, 63, 64, 66, 67, 68, 69, 70, 71, 72, 73, 74, 75, 76]
abbrev rr : RowW := OpenRow.toRowW (OpenLaw.row PySem.Challenge.rw_xn0013_01)
theorem asK_ok : ∀ P, asK = (hd.heap_1 P).map (·.1) := fun _ => by kernel_rfl
noncomputable abbrev HK : Hook := kHook hd.heap_1 asK asK_ok
abbrev Xt : Shared → Bool := fun s => xlAt V [] s && recOk (RowW.records rr) s
/-- the run on a tree of objects -/
noncomputable def goT (ok : Thread → Bool) (st : SharedT → Thread → Option (SharedT × Thread)) (n : Nat) : SharedT → Thread → Option SharedT :=
  @Nat.rec (fun _ => SharedT → Thread → Option SharedT) (fun _ _ => none)
    (fun _ ih s t => @Bool.rec (fun _ => Option SharedT) (@Bool.rec (fun _ => Option SharedT) none (@Option.rec _ (fun _ => Option SharedT) none (fun x => @Prod.rec _ _ (fun _ => Option SharedT) ih x) (st s t)) (ok t)) (some s) (through t)) n
theorem goT_ok {tb : String → Option Builtin} {p : Program} {w : World} {n₀ : Nat} {ann : Option Value} {r : SharedT} : ∀ (n : Nat) (s : SharedT) (t : Thread),
    goT (stepOk n₀ ann) (stepT (denote tb) p w) n s t = some r → topRun tb p w n₀ ann n s.abs t = some r.abs
  | 0, s, t, h => by cases h
  | n + 1, s, t, h => by
    have h' : @Bool.rec (fun _ => Option SharedT) (@Bool.rec (fun _ => Option SharedT) none (@Option.rec _ (fun _ => Option SharedT) none (fun x => @Prod.rec _ _ (fun _ => Option SharedT) (goT (stepOk n₀ ann) (stepT (denote tb) p w) n) x) (stepT (denote tb) p w s t)) (stepOk n₀ ann t)) (some s) (through t) = some r := h
    show (match through t with | true => some s.abs | false => match stepOk n₀ ann t with | false => none | true => match step (denote tb) p w s.abs t with | .go s' t' => topRun tb p w n₀ ann n s' t' | .halt _ _ => none) = some r.abs
    cases ht : through t with
    | true => rw [ht] at h'; cases h'; rfl
    | false =>
      rw [ht] at h'
      cases ho : stepOk n₀ ann t with
      | false => rw [ho] at h'; cases h'
      | true =>
        rw [ho] at h'
        cases hs : stepT (denote tb) p w s t with
        | none => rw [hs] at h'; cases h'
        | some x =>
          obtain ⟨s', t'⟩ := x
          rw [hs] at h'
          rw [stepT_spec hs]
          exact goT_ok n s' t' h'
noncomputable def insAll (l : List Obj) : Nat → BT → BT := @List.rec _ (fun _ => Nat → BT → BT) (fun _ t => t) (fun o _ ih n t => ih (n + 1) (t.ins n o)) l
noncomputable def bootT (P : Params) (os : OsState) : SharedT := ⟨insAll (boot_heap P).objs.toList 0 BT.nil, (boot_heap P).objs.size, (boot_heap P).life, Array.mk [], boot_drawn, boot_toks, os⟩
theorem bootT_abs (P : Params) (os : OsState) : (bootT P os).abs = ⟨boot_heap P, Array.mk [], boot_drawn, boot_toks, os⟩ := by kernel_rfl
/-- forcing: a list's cells, an object's dict, a heap's cells are brought to constructors ahead of what comes next (for the kernel's sake alone) -/
noncomputable def forceL {α β : Type} (f : α → (α → β) → β) (l : List α) : (List α → β) → β :=
  @List.rec α (fun _ => (List α → β) → β) (fun k => k []) (fun a _ ih k => f a fun a' => ih fun r => k (a' :: r)) l
theorem forceL_eq {α β : Type} {f : α → (α → β) → β} (hf : ∀ a k, f a k = k a) : ∀ (l : List α) (k : List α → β), forceL f l k = k l
  | [], _ => rfl
  | a :: r, k => by
    show f a (fun a' => forceL f r fun r => k (a' :: r)) = _
    rw [hf]
    exact forceL_eq hf r _
noncomputable def forceE {β : Type} (e : DictEntry) (k : DictEntry → β) : β := @DictEntry.rec (fun _ => β) (fun h x v => k ⟨h, x, v⟩) e
theorem forceE_eq {β : Type} (e : DictEntry) (k : DictEntry → β) : forceE e k = k e := rfl
noncomputable def forceD {β : Type} (d : Data) (k : Data → β) : β :=
  @Data.rec (fun _ => β) (k .plain) (fun v => k (.prim v)) (fun xs n => forceL (fun a k => k a) xs.toList fun l => k (.seq ⟨l⟩ n)) (fun es n => forceL forceE es.toList fun l => k (.dict ⟨l⟩ n)) (fun a b c => k (.set a b c))
    (fun a n => k (.bytearray a n)) (fun v => k (.cell v)) (fun f => k (.func f)) (fun c => k (.cls c)) (fun vs => forceL (fun a k => k a) vs.toList fun l => k (.fields ⟨l⟩)) (k .freed) d
theorem forceD_eq {β : Type} (d : Data) (k : Data → β) : forceD d k = k d := by
  cases d with
  | seq xs n => exact forceL_eq (fun _ _ => rfl) _ _
  | dict es n => exact forceL_eq forceE_eq _ _
  | fields vs => exact forceL_eq (fun _ _ => rfl) _ _
  | _ => rfl
noncomputable def forceO {β : Type} (o : Obj) (k : Obj → β) : β := @Obj.rec (fun _ => β) (fun c d x s => forceD x fun x' => k ⟨c, d, x', s⟩) o
theorem forceO_eq {β : Type} (o : Obj) (k : Obj → β) : forceO o k = k o := by
  cases o with
  | mk c d x s => exact forceD_eq x fun x' => k ⟨c, d, x', s⟩
noncomputable def forceH {β : Type} (h : Heap) (k : Heap → β) : β := @Heap.rec (fun _ => β) (fun os li => forceL forceO os.toList fun l => k ⟨⟨l⟩, li⟩) h
theorem forceH_eq {β : Type} (h : Heap) (k : Heap → β) : forceH h k = k h := by
  cases h with
  | mk os li => exact forceL_eq forceO_eq _ _
noncomputable def forceS {β : Type} (s : Shared) (k : Shared → β) : β := @Shared.rec (fun _ => β) (fun h g d t os => forceH h fun h' => k ⟨h', g, d, t, os⟩) s
theorem forceS_eq {β : Type} (s : Shared) (k : Shared → β) : forceS s k = k s := by
  cases s with
  | mk h g d t os => exact forceH_eq h fun h' => k ⟨h', g, d, t, os⟩
/-- looks that ask the text alone -/
theorem tables_ok (h : Heap) : tablesOk V h = true := by
  rw [PySem.W.Fast.te10994771534591457954]
  kernel_rfl
theorem loose_is : looseW V [Str.ofString "EXACT_TOKEN_TYPES"] = [Str.ofString "EXACT_TOKEN_TYPES", Str.ofString "QName"] := by
  rw [PySem.W.Fast.te821141287760084731]
  kernel_rfl
theorem clss_is : (clssOf V [Str.ofString "EXACT_TOKEN_TYPES", Str.ofString "QName"]).map (·.name) = [Str.ofString "Error", Str.ofString "error_reply", Str.ofString "error_proto"] := by kernel_rfl
/-- what is looked at behind the top -/
noncomputable abbrev seenAt (s : Shared) := openSeen V [Str.ofString "EXACT_TOKEN_TYPES"] (importedModules PySem.Challenge.pw_xn0013_01.main.body) Xt true s
noncomputable def lookAt (P : Params) (s : Shared) :=
  ((staticsOk (importedModules PySem.Challenge.pw_xn0013_01.main.body) (boot_heap P) s.heap && namesBound PySem.Challenge.pw_xn0013_01 s.heap && gensDone s && laidKept (boot_heap P) s.heap), seenAt s, asK.map s.heap.get?)
/-- the whole top, run from the booted heap -/
noncomputable abbrev topOf (w : World) (os : OsState) : Option SharedT :=
  goT (stepOk (boot_heap w.params).objs.size ((boot_heap w.params).nsMap mainGlobals "__annotations__")) (stepT (denote treeTable) PySem.Challenge.pw_xn0013_01 w) 6272 (bootT w.params os) (topStub PySem.Challenge.pw_xn0013_01)
abbrev TopIs (w : World) : Prop :=
  (fun os => Option.map (fun s => forceS s.abs (lookAt w.params)) (topOf w os)) = fun _ => some (true, openGood V [Str.ofString "EXACT_TOKEN_TYPES"], (hd.heap_1 w.params).map fun p => some p.2)
theorem top_f (w : World) : TopIs (w.withFollow "special-get-raises" false) := by
  unfold TopIs topOf lookAt seenAt openSeen openGood
  simp only [tables_ok, loose_is, clss_is]
  rw [PySem.W.Fast.te10156331382660048174, PySem.W.Fast.te11892475500146522536, PySem.W.Fast.te6613529449190102663, PySem.W.Fast.te14364793385576792824, PySem.W.Fast.te5923862056798008813, PySem.W.Fast.te5160383126252970620, PySem.W.Fast.te3399658132070893891, PySem.W.Fast.te5991557255702980513, PySem.W.Fast.te10880121769531294198, PySem.W.Fast.te14722251495701143533, PySem.W.Fast.te479339242167458305, PySem.W.Fast.te16090120013241838585, PySem.W.Fast.te2386780881361962483, PySem.W.Fast.te11698064438423848299, PySem.W.Fast.te7317090234206586261, PySem.W.Fast.te7369524293546568484]
  kernel_rfl
theorem top_t (w : World) : TopIs (w.withFollow "special-get-raises" true) := by
  unfold TopIs topOf lookAt seenAt openSeen openGood
  simp only [tables_ok, loose_is, clss_is]
  rw [PySem.W.Fast.te10156331382660048174, PySem.W.Fast.te11892475500146522536, PySem.W.Fast.te6613529449190102663, PySem.W.Fast.te14364793385576792824, PySem.W.Fast.te5923862056798008813, PySem.W.Fast.te5160383126252970620, PySem.W.Fast.te3399658132070893891, PySem.W.Fast.te5991557255702980513, PySem.W.Fast.te10880121769531294198, PySem.W.Fast.te14722251495701143533, PySem.W.Fast.te479339242167458305, PySem.W.Fast.te16090120013241838585, PySem.W.Fast.te2386780881361962483, PySem.W.Fast.te11698064438423848299, PySem.W.Fast.te7317090234206586261, PySem.W.Fast.te7369524293546568484]
  kernel_rfl
theorem top_is (w : World) : TopIs w := byRow2 "special-get-raises" top_f top_t w
theorem opens (w : World) : (fencedOpening treeTable PySem.Challenge.pw_xn0013_01 w 6272).map (fun s => (s.heap, s.gens, s.drawn, s.toks)) = some (boot_heap w.params, Array.mk [], boot_drawn, boot_toks) :=
  boot_open (p := PySem.Challenge.pw_xn0013_01) (N := 6272) (by kernel_rfl) (by kernel_rfl) (fun _ => by kernel_rfl) w
theorem booted (P : Params) : (boot_heap P).isNs mainGlobals = true := by kernel_rfl
/-- the head's law from one run, nothing of the text in sight -/
theorem left_gen {p q : Program} {loose : List Str} {X : Shared → Bool} {α : Type} {Yf : Shared → α} {Ya : World → α} {N : Nat} {w : World} {H₀ : Heap} {gs : Array GenState} {d : Drawn} {k : Nat}
    (open_ : (fencedOpening treeTable p w N).map (fun s => (s.heap, s.gens, s.drawn, s.toks)) = some (H₀, gs, d, k)) (z : (H₀.isNs mainGlobals && gs.size == 0) = true)
    (run : ∀ os, ∃ s, topRun treeTable p w H₀.objs.size (H₀.nsMap mainGlobals "__annotations__") N ⟨H₀, gs, d, k, os⟩ (topStub p) = some s ∧
      (staticsOk (importedModules p.main.body) H₀ s.heap && namesBound p s.heap && gensDone s && laidKept H₀ s.heap) = true ∧ (openSeen q loose (importedModules p.main.body) X true s, Yf s) = (openGood q loose, Ya w)) :
    (openEnds treeTable p w N).map (fun s => (openSeen q loose (importedModules p.main.body) X true s, Yf s)) = some (openGood q loose, Ya w) := by
  obtain ⟨⟨h, gs', d', k', os⟩, e, e'⟩ := Option.map_eq_some_iff.mp open_
  simp only [Prod.mk.injEq] at e'
  obtain ⟨rfl, rfl, rfl, rfl⟩ := e'
  obtain ⟨s, r1, l1, l2⟩ := run os
  have t : topFrom treeTable p w N ⟨h, gs', d', k', os⟩ = some s := by
    unfold topFrom
    show (match (h.isNs mainGlobals && gs'.size == 0) with | true => _ | false => _) = _
    rw [z]
    show (topRun _ _ _ _ _ _ _ _).bind _ = _
    rw [r1]
    show (match _ with | true => _ | false => _) = _
    rw [l1]
  unfold openEnds
  rw [e]
  show (topFrom treeTable p w N _).map _ = _
  rw [t]
  exact congrArg some l2
theorem ran (w : World) (os : OsState) : ∃ s', topOf w os = some s' ∧ lookAt w.params s'.abs = (true, openGood V [Str.ofString "EXACT_TOKEN_TYPES"], (hd.heap_1 w.params).map fun p => some p.2) := by
  obtain ⟨s', r1, r2⟩ := Option.map_eq_some_iff.mp (congrFun (top_is w) os)
  rw [forceS_eq] at r2
  exact ⟨s', r1, r2⟩
theorem ran_top (w : World) (os : OsState) {s' : SharedT} (h : topOf w os = some s') : topRun treeTable PySem.Challenge.pw_xn0013_01 w (boot_heap w.params).objs.size ((boot_heap w.params).nsMap mainGlobals "__annotations__") 6272 ⟨boot_heap w.params, Array.mk [], boot_drawn, boot_toks, os⟩ (topStub PySem.Challenge.pw_xn0013_01) = some s'.abs := by
  unfold topOf at h
  have r := goT_ok _ _ _ h
  rw [bootT_abs] at r
  exact r
theorem left : LeftO PySem.Challenge.pw_xn0013_01 V [Str.ofString "EXACT_TOKEN_TYPES"] Xt (Hook.obs HK) (Hook.val HK) 6272 := fun w => by
  refine left_gen (opens w) ?_ fun os => ?_
  · rw [booted]; rfl
  · obtain ⟨s', r1, r2⟩ := ran w os
    unfold lookAt seenAt at r2
    obtain ⟨l1, l2⟩ := Prod.mk.inj r2
    exact ⟨s'.abs, ran_top w os r1, l1, l2⟩
theorem names_ok : namesOk V (looseW V [Str.ofString "EXACT_TOKEN_TYPES"]) (namesW V [Str.ofString "EXACT_TOKEN_TYPES"]) = true := by
  rw [loose_is, PySem.W.Fast.te17448422675489707002]
  kernel_rfl
theorem imps_none : importsNone V = true := by decide +kernel
end Mine

section
open PySem PySem.W PyProof.Rows
namespace Mine
abbrev Led := List (Addr × Obj)
/-- a call's contract: from the ledger pre, with n frames of room, the call answers r with the ledger news' behind it, as post says -/
def Spec (prog : Program) (w : World) (mean : ExcName → Option Value) (mg mb : Str → Option Value) (f : Addr) (n : Nat) (vs : List Value) (pre : Led) (post : Value → Led → Prop) : Prop :=
  ∀ (dp un : Nat) (gd : Option (List Code)) (cn : Str) (cs : Scope) (a : Addr) (ccd : Value) (cl : List (Str × Addr)) (outer : List Env) (A₀ : Around) (base h₀ : Heap) (L : Addr) (m : Str → Option Value) (s : Shared) (Q E : Value → Shared → Prop),
    Below A₀ base outer h₀ → Fr h₀ L s.heap m → (hd.heap_1 w.params).In h₀ → News h₀ L s.heap pre → Top V (looseW V [Str.ofString "EXACT_TOKEN_TYPES"]) mean mg mb h₀ → cs.kind = .function →
    dp + n < recursionLimit → un + 8 * n < cLine →
    (∀ r news' h' tk', Fr h₀ L h' m → News h₀ L h' news' → post r news' → Q r { s with heap := h', toks := tk' }) →
    wpAny (model prog w) (ktrTop dp un gd cn cs L a ccd cl outer) (call (.ref f) vs) Q E s
/-- the same of any tree -/
def SpecT (prog : Program) (w : World) (mean : ExcName → Option Value) (mg mb : Str → Option Value) (tree : Sem Value) (n : Nat) (pre : Led) (post : Value → Led → Prop) : Prop :=
  ∀ (dp un : Nat) (gd : Option (List Code)) (cn : Str) (cs : Scope) (a : Addr) (ccd : Value) (cl : List (Str × Addr)) (outer : List Env) (A₀ : Around) (base h₀ : Heap) (L : Addr) (m : Str → Option Value) (s : Shared) (Q E : Value → Shared → Prop),
    Below A₀ base outer h₀ → Fr h₀ L s.heap m → (hd.heap_1 w.params).In h₀ → News h₀ L s.heap pre → Top V (looseW V [Str.ofString "EXACT_TOKEN_TYPES"]) mean mg mb h₀ → cs.kind = .function →
    dp + n < recursionLimit → un + 8 * n < cLine →
    (∀ r news' h' tk', Fr h₀ L h' m → News h₀ L h' news' → post r news' → Q r { s with heap := h', toks := tk' }) →
    wpAny (model prog w) (ktrTop dp un gd cn cs L a ccd cl outer) tree Q E s
theorem Spec.mono {prog : Program} {w : World} {mean : ExcName → Option Value} {mg mb : Str → Option Value} {f : Addr} {n : Nat} {vs : List Value} {pre : Led} {post post' : Value → Led → Prop}
    (h : Spec prog w mean mg mb f n vs pre post) (hp : ∀ r news, post r news → post' r news) : Spec prog w mean mg mb f n vs pre post' := by
  intro dp un gd cn cs a ccd cl outer A₀ base h₀ L m s Q E B F X N T hk hd hu hret
  exact h dp un gd cn cs a ccd cl outer A₀ base h₀ L m s Q E B F X N T hk hd hu fun r news' h' tk' F' N' p => hret r news' h' tk' F' N' (hp _ _ p)
theorem fill : PySem.Challenge.rw_xn0013_01 = PySem.Challenge.rw_xn0013_01 ∧ hd.heap_1 = hd.heap_1 := by
  k_fill
  exact ⟨rfl, rfl⟩
end Mine
end

section
open PySem PySem.W PyProof.Rows
namespace Mine
theorem cps_app (a b : Str) : (a ++ b).cps.toList = a.cps.toList ++ b.cps.toList := by
  show (a.cps ++ b.cps).toList = _
  simp
theorem len_app (a b : Str) : (a ++ b).length = a.length + b.length := by
  show (a.cps ++ b.cps).size = _
  simp [Str.length]
theorem str_of {d : Str} {l : List Nat} (h : d.cps.toList = l) : d = ⟨l.toArray⟩ := by
  subst h; rfl
theorem len_is (x : Str) : x.length = x.cps.toList.length := by simp [Str.length]
theorem item_at {x : Str} {i : Int} (h0 : 0 ≤ i) (h1 : i < (x.length : Int)) : ∃ c, Txt.item x i = ⟨#[c]⟩ ∧ x.cps.toList.drop i.toNat = c :: x.cps.toList.drop (i.toNat + 1) := by
  refine ⟨x.cps.getD i.toNat 0, item_meets ⟨h0, h1⟩, ?_⟩
  have hlt : i.toNat < x.cps.toList.length := by
    show i.toNat < x.cps.size
    have : (x.length : Int) = (x.cps.size : Int) := rfl
    omega
  rw [List.drop_eq_getElem_cons hlt]
  congr 1
  have hs : i.toNat < x.cps.size := hlt
  simp [Array.getD, hs]
theorem toNat_succ {i : Int} (h : 0 ≤ i) : (i + 1).toNat = i.toNat + 1 := by omega
theorem slice_clamp {x : Str} {i j : Int} (h0 : 0 ≤ i) (h1 : i ≤ (x.length : Int)) (h2 : i ≤ j) : Txt.slice x (some i) (some j) = Txt.slice x (some i) (some (min j x.length)) := by
  have e : PySem.Builtin.Str.strSliceIndices (some i) (some j) 1 x.length = PySem.Builtin.Str.strSliceIndices (some i) (some (min j x.length)) 1 x.length := by
    unfold PySem.Builtin.Str.strSliceIndices
    simp only [show (1 : Int) > 0 by decide, if_true]
    congr 1
    split <;> split <;> (try split) <;> (try split) <;> omega
  unfold Txt.slice
  rw [e]
theorem slice_is {x : Str} {i j : Int} (h0 : 0 ≤ i) (h1 : i ≤ (x.length : Int)) (h2 : i ≤ j) : Txt.slice x (some i) (some j) = ⟨((x.cps.toList.drop i.toNat).take (j - i).toNat).toArray⟩ := by
  rw [slice_clamp h0 h1 h2]
  have hl : (x.length : Int) = (x.cps.toList.length : Int) := by rw [len_is]
  have := beq_iff_eq.mp (slice_closes (x := x) (i := i) (j := min j x.length) ⟨h0, by omega, by omega⟩)
  rw [this]
  congr 2
  by_cases hj : j ≤ x.length
  · rw [Int.min_eq_left hj]
  · rw [Int.min_eq_right (by omega)]
    rw [List.take_of_length_le, List.take_of_length_le]
    · rw [List.length_drop]; omega
    · rw [List.length_drop]; omega
theorem off_lt {l : List (Addr × Obj)} {a b : Nat} (h : ∀ p ∈ l, p.1 < a) (hb : a ≤ b) : ∀ p ∈ l, p.1 ≠ b := fun p hp => Nat.ne_of_lt (Nat.lt_of_lt_of_le (h p hp) hb)
end Mine
namespace Mine
theorem join_flat {α : Type} (f : α → List Nat) : ∀ l : List α, Txt.join ⟨#[]⟩ (l.map fun x => (⟨(f x).toArray⟩ : Str)) = ⟨(l.flatMap f).toArray⟩ := by
  intro l
  unfold Txt.join
  rw [StrLaws.glued_eq_join]
  induction l with
  | nil => rfl
  | cons x l ih =>
    cases l with
    | nil => simp [Str.join]
    | cons y l =>
      simp only [List.map_cons, List.flatMap_cons] at ih ⊢
      show (⟨(f x).toArray⟩ : Str) ++ ⟨#[]⟩ ++ Str.join ⟨#[]⟩ (_ :: _) = _
      rw [ih]
      apply str_of
      rw [cps_app, cps_app]
      simp
end Mine
namespace Mine
theorem slice_to {x : Str} {k : Int} (h0 : 0 ≤ k) (h1 : k ≤ (x.length : Int)) : Txt.slice x none (some k) = ⟨(x.cps.toList.take k.toNat).toArray⟩ := by
  have hl : (x.length : Int) = (x.cps.toList.length : Int) := by rw [len_is]
  have := beq_iff_eq.mp (slice_closes_to (x := x) (j := k) ⟨h0, by omega⟩)
  rw [this]
  congr 2
  simp
/-- a text by its signs' numbers -/
def S (l : List Nat) : Str := ⟨l.toArray⟩
theorem S_len (l : List Nat) : (S l).length = l.length := by simp [S, Str.length]
theorem S_app (a b : List Nat) : S a ++ S b = S (a ++ b) := by
  show (⟨a.toArray ++ b.toArray⟩ : Str) = _
  simp [S]
theorem S_cps (l : List Nat) : (S l).cps.toList = l := by simp [S]
theorem S_of (x : Str) : S x.cps.toList = x := by cases x; simp [S]
theorem S_inj {a b : List Nat} (h : S a = S b) : a = b := by rw [← S_cps a, h, S_cps]
end Mine
namespace Mine
/-- a glued text by another writing of it, its size told -/
theorem add_to {prog : Program} {w : World} {A : Around} {E : Value → Shared → Prop} {s : Shared} {x y z : Str} {t u : Tok} {Q : Value → Shared → Prop} (n : Nat) (e : x ++ y = z) (hz : z.length ≤ n) (hn : n ≤ 16777216)
    (h : ∀ t' tk, Q (.str z t') { s with toks := tk }) : wpAny (model prog w) A (binaryOp .Add (.str x t) (.str y u)) Q E s := by
  subst e
  refine PyProof.Rows.add_str h ?_
  rw [len_app] at hz
  rw [sizeLine_eq]
  omega
end Mine
end

section
open PySem PySem.W PyProof.Rows
namespace Mine
/-- the operators' table: signs' numbers, the operator's number -/
def ettN : List (List Nat × Int) := [([33], 54), ([33, 61], 28), ([37], 24), ([37, 61], 40), ([38], 19), ([38, 61], 41), ([40], 7), ([41], 8), ([42], 16), ([42, 42], 35), ([42, 42, 61], 46), ([42, 61], 38), ([43], 14), ([43, 61], 36), ([44], 12), ([45], 15), ([45, 61], 37), ([45, 62], 51), ([46], 23), ([46, 46, 46], 52), ([47], 17), ([47, 47], 47), ([47, 47, 61], 48), ([47, 61], 39), ([58], 11), ([58, 61], 53), ([59], 13), ([60], 20), ([60, 60], 33), ([60, 60, 61], 44), ([60, 61], 29), ([61], 22), ([61, 61], 27), ([62], 21), ([62, 61], 30), ([62, 62], 34), ([62, 62, 61], 45), ([64], 49), ([64, 61], 50), ([91], 9), ([93], 10), ([94], 32), ([94, 61], 43), ([123], 25), ([124], 18), ([124, 61], 42), ([125], 26), ([126], 31)]
def ettGet (l : List Nat) : Option Int := (ettN.find? fun p => p.1 == l).map (·.2)
def ettS : List Str := ettN.map fun p => ⟨p.1.toArray⟩
def ettP : List (PyData × PyData) := ettN.map fun p => (PyData.str ⟨p.1.toArray⟩, PyData.int p.2)
def inE (x : Str) : Bool := ettS.any fun y => decide (x = y)
theorem str_eq_iff {a b : List Nat} : ((⟨a.toArray⟩ : Str) = ⟨b.toArray⟩) ↔ a = b := by
  constructor
  · intro h
    have := congrArg (fun x : Str => x.cps.toList) h
    simpa using this
  · rintro rfl; rfl
theorem any_find (T : List (List Nat × Int)) (l : List Nat) : ((T.map fun p => (⟨p.1.toArray⟩ : Str)).any fun y => decide ((⟨l.toArray⟩ : Str) = y)) = ((T.find? fun p => p.1 == l).map (·.2)).isSome := by
  induction T with
  | nil => rfl
  | cons p T ih =>
    simp only [List.map_cons, List.any_cons, List.find?_cons, ih]
    by_cases h : p.1 = l
    · subst h; simp
    · have h1 : (p.1 == l) = false := by simp [h]
      have h2 : ¬ ((⟨l.toArray⟩ : Str) = ⟨p.1.toArray⟩) := fun e => h (str_eq_iff.mp e).symm
      rw [h1, decide_eq_false h2, Bool.false_or]
theorem inE_is (l : List Nat) : inE ⟨l.toArray⟩ = (ettGet l).isSome := any_find ettN l
theorem lookup_find (T : List (List Nat × Int)) (l : List Nat) : Spec.lookup (PyData.str ⟨l.toArray⟩) (T.map fun p => (PyData.str ⟨p.1.toArray⟩, PyData.int p.2)) = ((T.find? fun p => p.1 == l).map (·.2)).map PyData.int := by
  induction T with
  | nil => rfl
  | cons p T ih =>
    simp only [List.map_cons, Spec.lookup, List.find?_cons, ih, Spec.same]
    by_cases h : p.1 = l
    · subst h; simp
    · have h1 : (p.1 == l) = false := by simp [h]
      have h2 : ((⟨p.1.toArray⟩ : Str) == ⟨l.toArray⟩) = false := by
        rw [beq_eq_false_iff_ne]; exact fun e => h (str_eq_iff.mp e)
      rw [h1, h2]; simp
theorem lookupE (l : List Nat) : Spec.lookup (PyData.str ⟨l.toArray⟩) ettP = (ettGet l).map PyData.int := lookup_find ettN l
/-- the longest operator's length at the head of the signs -/
def szOf (l : List Nat) : Nat := if (ettGet (l.take 3)).isSome then 3 else if (ettGet (l.take 2)).isSome then 2 else 1
def symsF : Nat → List Nat → List Int
  | 0, _ => []
  | _ + 1, [] => []
  | f + 1, c :: r => (ettGet ((c :: r).take (szOf (c :: r)))).getD (256 + (c : Int)) :: symsF f ((c :: r).drop (szOf (c :: r)))
def syms (l : List Nat) : List Int := symsF l.length l
theorem szOf_pos (l : List Nat) : 1 ≤ szOf l ∧ szOf l ≤ 3 := by
  unfold szOf; split
  · omega
  · split <;> omega
theorem symsF_enough : ∀ (n : Nat) (l : List Nat) (f g : Nat), l.length ≤ n → l.length ≤ f → l.length ≤ g → symsF f l = symsF g l := by
  intro n
  induction n with
  | zero =>
    intro l f g h _ _
    have : l = [] := List.length_eq_zero_iff.mp (by omega)
    subst this
    cases f <;> cases g <;> rfl
  | succ n ih =>
    intro l f g h hf hg
    cases l with
    | nil => cases f <;> cases g <;> rfl
    | cons c r =>
      cases f with
      | zero => simp at hf
      | succ f =>
        cases g with
        | zero => simp at hg
        | succ g =>
          simp only [symsF]
          have hp := szOf_pos (c :: r)
          congr 1
          have hd : ((c :: r).drop (szOf (c :: r))).length ≤ r.length := by rw [List.length_drop]; simp; omega
          simp only [List.length_cons] at h hf hg
          exact ih _ _ _ (by omega) (by omega) (by omega)
theorem syms_cons (c : Nat) (r : List Nat) : syms (c :: r) = (ettGet ((c :: r).take (szOf (c :: r)))).getD (256 + (c : Int)) :: syms ((c :: r).drop (szOf (c :: r))) := by
  show symsF (r.length + 1) (c :: r) = _
  simp only [symsF]
  congr 1
  have hp := szOf_pos (c :: r)
  have hd : ((c :: r).drop (szOf (c :: r))).length ≤ r.length := by rw [List.length_drop]; simp; omega
  exact symsF_enough _ _ _ _ (Nat.le_refl _) hd (Nat.le_refl _)
theorem syms_nil : syms [] = [] := rfl
/-- between the turns of the inner while: the larger sizes are no operators -/
def SzI (l : List Nat) (size : Int) : Prop := 1 ≤ size ∧ size ≤ 3 ∧ (size < 3 → ettGet (l.take 3) = none) ∧ (size < 2 → ettGet (l.take 2) = none)
theorem SzI.start (l : List Nat) : SzI l 3 := ⟨by omega, by omega, fun h => absurd h (by omega), fun h => absurd h (by omega)⟩
theorem SzI.step {l : List Nat} {size : Int} (h : SzI l size) (h1 : 1 < size) (hn : ettGet (l.take size.toNat) = none) : SzI l (size - 1) := by
  obtain ⟨a, b, c, d⟩ := h
  have : size = 2 ∨ size = 3 := by omega
  rcases this with rfl | rfl
  · exact ⟨by omega, by omega, fun _ => c (by omega), fun _ => hn⟩
  · exact ⟨by omega, by omega, fun _ => hn, fun h => absurd h (by omega)⟩
theorem SzI.done1 {l : List Nat} {size : Int} (h : SzI l size) (h1 : ¬ 1 < size) : szOf l = size.toNat := by
  obtain ⟨a, b, c, d⟩ := h
  have : size = 1 := by omega
  subst this
  simp [szOf, c (by omega), d (by omega)]
theorem SzI.done2 {l : List Nat} {size : Int} (h : SzI l size) (h1 : 1 < size) (hn : (ettGet (l.take size.toNat)).isSome = true) : szOf l = size.toNat := by
  obtain ⟨a, b, c, d⟩ := h
  have : size = 2 ∨ size = 3 := by omega
  rcases this with rfl | rfl
  · have hn' : (ettGet (l.take 2)).isSome = true := hn
    simp [szOf, c (by omega), hn']
  · have hn' : (ettGet (l.take 3)).isSome = true := hn
    simp [szOf, hn']
end Mine
end

section
open PySem PySem.W PyProof.Rows
namespace Mine
/-- what a written sign's name stands for -/
def sgn (w : List Nat) : Option (List Nat) := if w = [108, 116] then some [60] else if w = [103, 116] then some [62] else if w = [113, 117, 111, 116] then some [] else none
/-- the page's symbols read back: none behind a sign's end, some w within a sign's name -/
def und : Option (List Nat) → List Int → Option (List Nat)
  | _, [] => none
  | none, x :: r => if x = 0 then some [] else if x = 19 then und (some []) r else if x = 21 then (und none r).map (62 :: ·) else if x = 22 then (und none r).map (61 :: ·) else none
  | some w, x :: r => if 256 ≤ x then (if x < 384 then und (some (w ++ [(x - 256).toNat])) r else none) else match sgn w with
    | some s => (und none r).map (s ++ ·)
    | none => none
def UO (ns : List Int) (k : Int) (text : Str) (out : List Nat) : Prop := (und none (ns.drop k.toNat)).map (text.cps.toList ++ ·) = some out
def UW (ns : List Int) (k : Int) (text : Str) (word : Str) (out : List Nat) : Prop := (und (some word.cps.toList) (ns.drop (k + 1).toNat)).map (text.cps.toList ++ ·) = some out
theorem getD_drop {ns : List Int} {k : Nat} (h : k < ns.length) : ns.drop k = ns.getD k 0 :: ns.drop (k + 1) := by
  rw [List.drop_eq_getElem_cons h]
  congr 1
  simp [List.getD, h]
theorem UO.lt {ns : List Int} {k : Int} {text : Str} {out : List Nat} (h : UO ns k text out) : k.toNat < ns.length := by
  unfold UO at h
  by_cases hk : k.toNat < ns.length
  · exact hk
  · rw [List.drop_eq_nil_of_le (by omega)] at h
    simp [und] at h
theorem UW.lt {ns : List Int} {k : Int} {text word : Str} {out : List Nat} (h : UW ns k text word out) : (k + 1).toNat < ns.length := by
  unfold UW at h
  by_cases hk : (k + 1).toNat < ns.length
  · exact hk
  · rw [List.drop_eq_nil_of_le (by omega)] at h
    simp [und] at h
theorem UW.bound {ns : List Int} {k : Int} {text word : Str} {out : List Nat} (h : UW ns k text word out) : ns.getD (k + 1).toNat 0 < 384 := by
  have hl := h.lt
  unfold UW at h
  rw [getD_drop hl] at h
  by_cases h1 : 256 ≤ ns.getD (k + 1).toNat 0
  · by_cases h2 : ns.getD (k + 1).toNat 0 < 384
    · exact h2
    · simp only [und, if_pos h1, if_neg h2, Option.map_none, reduceCtorEq] at h
  · omega
/-- the sign's end -/
theorem UO.done {ns : List Int} {k : Int} {text : Str} {out : List Nat} (h : UO ns k text out) (h0 : ns.getD k.toNat 0 = 0) : text.cps.toList = out := by
  have hl := h.lt
  unfold UO at h
  rw [getD_drop hl, h0] at h
  simpa [und] using h
theorem UO.amp {ns : List Int} {k : Int} {text : Str} {out : List Nat} (hk : 0 ≤ k) (h : UO ns k text out) (h0 : ns.getD k.toNat 0 = 19) : UW ns k text ⟨#[]⟩ out := by
  have hl := h.lt
  unfold UO at h
  rw [getD_drop hl, h0] at h
  unfold UW
  rw [toNat_succ hk]
  simpa [und] using h
theorem UW.step {ns : List Int} {k : Int} {text word : Str} {out : List Nat} (hk : 0 ≤ k) (h : UW ns k text word out) (h0 : 256 ≤ ns.getD (k + 1).toNat 0) : UW ns (k + 1) text (word ++ ⟨#[(ns.getD (k + 1).toNat 0 - 256).toNat]⟩) out := by
  have hl := h.lt
  have hb := h.bound
  unfold UW at h ⊢
  rw [getD_drop hl] at h
  rw [toNat_succ (i := k + 1) (by omega), cps_app]
  simp only [und, if_pos h0, if_pos hb] at h
  exact h
theorem UW.word {ns : List Int} {k : Int} {text word : Str} {out : List Nat} (hk : 0 ≤ k) (h : UW ns k text word out) (h0 : ¬ 256 ≤ ns.getD (k + 1).toNat 0) : ∃ s, sgn word.cps.toList = some s ∧ UO ns (k + 2) (text ++ ⟨s.toArray⟩) out := by
  have hl := h.lt
  unfold UW at h
  rw [getD_drop hl] at h
  simp only [und, if_neg h0] at h
  cases hs : sgn word.cps.toList with
  | none => rw [hs] at h; simp at h
  | some s =>
    rw [hs] at h
    refine ⟨s, rfl, ?_⟩
    unfold UO
    have e : (k + 2).toNat = (k + 1).toNat + 1 := by omega
    rw [e, cps_app]
    simp only [Option.map_map] at h
    rw [← h]
    congr 1
    funext l
    simp
theorem UO.bare {ns : List Int} {k : Int} {text : Str} {out : List Nat} (hk : 0 ≤ k) (h : UO ns k text out) (h0 : ns.getD k.toNat 0 ≠ 0) (h1 : ns.getD k.toNat 0 ≠ 19) :
    ∃ c, ((ns.getD k.toNat 0 = 21 ∧ c = 62) ∨ (ns.getD k.toNat 0 = 22 ∧ c = 61)) ∧ UO ns (k + 1) (text ++ ⟨#[c]⟩) out := by
  have hl := h.lt
  unfold UO at h
  rw [getD_drop hl] at h
  simp only [und, if_neg h0, if_neg h1] at h
  have key : ∀ c, (und none (ns.drop (k.toNat + 1))).map ((text.cps.toList ++ ·) ∘ (c :: ·)) = some out → UO ns (k + 1) (text ++ ⟨#[c]⟩) out := by
    intro c h
    unfold UO
    rw [toNat_succ hk, cps_app, ← h]
    congr 1
    funext l
    simp
  by_cases h2 : ns.getD k.toNat 0 = 21
  · rw [if_pos h2, Option.map_map] at h
    exact ⟨62, .inl ⟨h2, rfl⟩, key _ h⟩
  · rw [if_neg h2] at h
    by_cases h3 : ns.getD k.toNat 0 = 22
    · rw [if_pos h3, Option.map_map] at h
      exact ⟨61, .inr ⟨h3, rfl⟩, key _ h⟩
    · rw [if_neg h3] at h; simp at h
end Mine
end

section
open PySem PySem.W PyProof.Rows PySem.Calls
namespace Mine
theorem at_list {prog : Program} {w : World} {A : Around} {E : Value → Shared → Prop} {s : Shared} {h₀ : Heap} {L D : Addr} {news : List (Addr × Obj)} {value slice : PySem.Expr} {vs : List Value} {n : Nat} {k : Int} {u : Tok} {v : Value} {Q : Value → Shared → Prop}
    (N : News h₀ L s.heap news) (hm : (D, W.listOf vs.toArray n) ∈ news) (h0 : 0 ≤ k) (hx : vs[k.toNat]? = some v) (hl : vs.length < 2 ^ 62) (h : Q v s)
    (hs : subscripted slice false (.ref D) (.int k u) = operate [.ref D, .int k u] (getItem (.ref D) (.int k u)) := by with_unfolding_all rfl) :
    wpAny (model prog w) A (subscriptTail value slice (.ref D) (.int k u)) Q E s := by
  have hL := News.isList N hm
  have hlt : k.toNat < vs.length := by
    by_cases h : k.toNat < vs.length
    · exact h
    · rw [List.getElem?_eq_none (by omega)] at hx; cases hx
  exact tail_any hL.typeIs slot_list_getitem.lookup (wpAny_getItem_list hL h0 (by omega) (by simpa using hx) h) hs
theorem at_ints {prog : Program} {w : World} {A : Around} {E : Value → Shared → Prop} {s : Shared} {h₀ : Heap} {L D : Addr} {news : List (Addr × Obj)} {value slice : PySem.Expr} {vs : List Value} {ns : List Int} {n : Nat} {k : Int} {u : Tok} {Q : Value → Shared → Prop}
    (N : News h₀ L s.heap news) (hm : (D, W.listOf vs.toArray n) ∈ news) (hi : IntsAre vs ns) (h0 : 0 ≤ k) (h1 : k < (ns.length : Int)) (hl : ns.length < 2 ^ 62) (h : ∀ t, Q (.int (ns.getD k.toNat 0) t) s)
    (hs : subscripted slice false (.ref D) (.int k u) = operate [.ref D, .int k u] (getItem (.ref D) (.int k u)) := by with_unfolding_all rfl) :
    wpAny (model prog w) A (subscriptTail value slice (.ref D) (.int k u)) Q E s := by
  have hlt : k.toNat < ns.length := by omega
  obtain ⟨t, ht⟩ := hi.get k.toNat (ns.getD k.toNat 0) (by simp [List.getD, hlt])
  exact at_list N hm h0 ht (by rw [hi.length]; exact hl) (h t) hs
theorem at_dictS {prog : Program} {w : World} {A : Around} {E : Value → Shared → Prop} {s : Shared} {h₀ : Heap} {L d : Addr} {news : List (Addr × Obj)} {value slice : PySem.Expr} {o : Obj} {kvs : List (Str × Value)} {x : Str} {u : Tok} {v : Value} {Q : Value → Shared → Prop}
    (N : News h₀ L s.heap news) (hm : (d, o) ∈ news) (hd : o.IsDictOf (PySem.strKind prog w) kvs) (hv : valueAt kvs x = some v) (h : Q v { s with toks := s.toks + 1 })
    (hs : subscripted slice false (.ref d) (.str x u) = operate [.ref d, .str x u] (getItem (.ref d) (.str x u)) := by with_unfolding_all rfl) :
    wpAny (model prog w) A (subscriptTail value slice (.ref d) (.str x u)) Q E s :=
  kdt_tail (knd := PySem.strKind prog w) N hm hd (kdt_getItem N hm hd (strKind_is _ _ _ _) hv h) hs
theorem at_dictI {prog : Program} {w : World} {A : Around} {E : Value → Shared → Prop} {s : Shared} {h₀ : Heap} {L d : Addr} {news : List (Addr × Obj)} {value slice : PySem.Expr} {o : Obj} {kvs : List (Int × Value)} {x : Int} {u : Tok} {v : Value} {Q : Value → Shared → Prop}
    (N : News h₀ L s.heap news) (hm : (d, o) ∈ news) (hd : o.IsDictOf (PySem.intKind prog w) kvs) (hv : valueAt kvs x = some v) (h : Q v { s with toks := s.toks + 1 })
    (hs : subscripted slice false (.ref d) (.int x u) = operate [.ref d, .int x u] (getItem (.ref d) (.int x u)) := by with_unfolding_all rfl) :
    wpAny (model prog w) A (subscriptTail value slice (.ref d) (.int x u)) Q E s :=
  kdt_tail (knd := PySem.intKind prog w) N hm hd (kdt_getItem N hm hd (intKind_is _ _ _ _) hv h) hs
end Mine
namespace Mine
theorem ne_nil {prog : Program} {w : World} {A : Around} {E : Value → Shared → Prop} {s : Shared} {l b : Addr} {vs : List Value} {us : Array Value} {Q : Value → Shared → Prop} (hl : s.heap.IsList l vs.toArray) (hb : s.heap.IsList b us) (hus : us.size = 0) (hu : A.units < cLine)
    (h : Q (.bool (!vs.isEmpty)) s) : wpAny (model prog w) A (compareOp .NotEq (.ref l) (.ref b)) Q E s := by
  refine cmp_ofNotEq ?_
  cases vs with
  | nil =>
    refine SeqAt.RcNeAt.lists (e := fun _ => true) hl hb (by rw [hus]; rfl) hu (fun j h1 _ => absurd h1 (Nat.not_lt_zero _)) prog w E Q ?_
    exact h
  | cons v r =>
    refine SeqAt.RcNeAt.lists_lengths hl hb (by rw [hus]; simp) hu prog w E Q ?_
    exact h
end Mine
end

section
open PySem PySem.W PyProof.Rows PySem.Calls
namespace Mine
open LCg LCt
theorem use_led {h₀ h : Heap} {L : Addr} {led : List (Addr × Obj)} (N : News h₀ L h led) {G : Prop} (k : ∀ led', led' = led → News h₀ L h led' → G) : G := k led rfl N
section
variable {prog : Program} {w : World} {A : Around} {h₀ : Heap} {L : Addr} {m : Str → Option Value} {env : Env} {elt ct : PySem.Expr} {x : Str} {scope : Scope} {cl : List (Str × Addr)} {s : Shared} {S : List (Addr × Obj) → Prop} {P : Nat → Value → Prop} {Fin : List Value → List (Addr × Obj) → Prop}
theorem compEnd_mono {s₁ : Shared} {I : Addr} {oI : Obj} {C : Addr} {oC : Obj} {D : Addr} {oD : Obj} {rest rest' : Value → List (Addr × Obj) → Prop} {y : Value} {s₂ : Shared} (h : ∀ y news, rest y news → rest' y news)
    (x : CompEnd h₀ L m s₁ I oI C oC D oD S rest y s₂) : CompEnd h₀ L m s₁ I oI C oC D oD S rest' y s₂ := by
  obtain ⟨h', tk, news', e, F, N, o, hS, r⟩ := x
  exact ⟨h', tk, news', e, F, N, o, hS, h _ _ r⟩
/-- a comprehension without a test, by an invariant over the turn's number, what is made, and the ledger -/
theorem comp_ind {n : Nat} (J : Nat → List Value → List (Addr × Obj) → Prop)
    (step : ∀ i ys news, i < n → J i ys news → ∀ v I oI C oC D m₂ h tk (E' : Value → Shared → Prop), P i v → NsObj oC m₂ → m₂ x = some v → Fr h₀ L h m → News h₀ L h ((I, oI) :: (C, oC) :: (D, lst ys) :: news) → Off3 I C D news → ((@Ne Nat I C) ∧ (@Ne Nat I D) ∧ (@Ne Nat C D)) →
      wpAny (model prog w) A (eval elt (compEnvC scope cl C env)) (CompEnd h₀ L m { s with heap := h, toks := tk } I oI C oC D (lst ys) S (fun y news' => J (i + 1) (ys ++ [y]) news')) E' { s with heap := h, toks := tk })
    (fin : ∀ ys news, J n ys news → Fin ys news) :
    ∀ k i ys news, i + k = n → J i ys news → CompRest prog w A h₀ L m env elt x scope cl s S P Fin k i ys news := by
  intro k
  induction k with
  | zero => intro i ys news e hJ; exact CompRest.zero (fin _ _ (by rw [← e]; exact hJ))
  | succ k ih =>
    intro i ys news e hJ
    refine CompRest.succ ?_
    intro v I oI C oC D m₂ h tk E' hP hN hx F N o ne
    exact wpAny_mono (step i ys news (by omega) hJ v I oI C oC D m₂ h tk E' hP hN hx F N o ne) (fun y s' q => compEnd_mono (fun y news' r => ih (i + 1) _ _ (by omega) r) q) fun _ _ q => q
/-- the same with one test -/
theorem comp_indT {n : Nat} (J : Nat → List Value → List (Addr × Obj) → Prop)
    (step : ∀ i ys news, i < n → J i ys news → ∀ v I oI C oC D m₂ h tk (E' : Value → Shared → Prop), P i v → NsObj oC m₂ → m₂ x = some v → Fr h₀ L h m → News h₀ L h ((I, oI) :: (C, oC) :: (D, lst ys) :: news) → Off3 I C D news → ((@Ne Nat I C) ∧ (@Ne Nat I D) ∧ (@Ne Nat C D)) →
      wpAny (model prog w) A (isTrue ct (compEnvC scope cl C env) (eval ct (compEnvC scope cl C env))) (fun ok s' => if ok = true then
        wpAny (model prog w) A (eval elt (compEnvC scope cl C env)) (CompEnd h₀ L m { s with heap := h, toks := tk } I oI C oC D (lst ys) S (fun y news' => J (i + 1) (ys ++ [y]) news')) E' s'
        else CompEnd h₀ L m { s with heap := h, toks := tk } I oI C oC D (lst ys) S (fun _ news' => J (i + 1) ys news') Value.none s') E' { s with heap := h, toks := tk })
    (fin : ∀ ys news, J n ys news → Fin ys news) :
    ∀ k i ys news, i + k = n → J i ys news → CompRestT prog w A h₀ L m env ct elt x scope cl s S P Fin k i ys news := by
  intro k
  induction k with
  | zero => intro i ys news e hJ; exact CompRestT.zero (fin _ _ (by rw [← e]; exact hJ))
  | succ k ih =>
    intro i ys news e hJ
    refine CompRestT.succ ?_
    intro v I oI C oC D m₂ h tk E' hP hN hx F N o ne
    refine wpAny_mono (step i ys news (by omega) hJ v I oI C oC D m₂ h tk E' hP hN hx F N o ne) (fun ok s' q => ?_) fun _ _ q => q
    cases ok with
    | true =>
      simp only [if_true] at q ⊢
      exact wpAny_mono q (fun y s' q => compEnd_mono (fun y news' r => ih (i + 1) _ _ (by omega) r) q) fun _ _ q => q
    | false =>
      simp only [Bool.false_eq_true, if_false] at q ⊢
      exact compEnd_mono (fun y news' r => ih (i + 1) _ _ (by omega) r) q
end
end Mine
namespace Mine
open LCg LCt
section
variable {prog : Program} {w : World} {A : Around} {E : Value → Shared → Prop} {s : Shared} {h₀ : Heap} {L : Addr} {m : Str → Option Value} {env : Env}
/-- a comprehension over any iterator that the library can walk -/
def SrcG (prog : Program) (w : World) (A : Around) (h₀ : Heap) (L : Addr) (m : Str → Option Value) (env : Env) (elt : PySem.Expr) (x : Str) (scope : Scope) (cl : List (Str × Addr)) (Q : Value → Shared → Prop) (it : Value) (s₂ : Shared) : Prop :=
  ∃ (I : Addr) (fp : List Addr) (n : Nat) (P : Nat → Value → Prop) (St : Nat → Heap → Prop) (S : List (Addr × Obj) → Prop) (news : List (Addr × Obj)), it = .ref I ∧ Walks prog w A I fp [I] n P St ∧ n ≤ sizeLine ∧ (∀ i h, St i h → ∃ o, h.get? I = some o) ∧
    (∀ i h h' o nw, St i h → h.get? I = some o → h'.get? I = some o → (∀ b o, h₀.get? b = some o → h'.get? b = some o) → News h₀ L h' nw → S nw → St i h') ∧
    St 0 s₂.heap ∧ (∀ b ∈ fp, b < s₂.heap.objs.size) ∧ Fr h₀ L s₂.heap m ∧ News h₀ L s₂.heap news ∧ L ≠ I ∧ h₀.get? I = none ∧ (∀ p ∈ news, p.1 ≠ I) ∧ S news ∧
    CompRest prog w A h₀ L m env elt x scope cl s₂ S P (FinE h₀ L m s₂ Q) n 0 [] news
theorem ListComp_G {elt iter : PySem.Expr} {x : Str} {px : Pos} {scope : Scope} {cl : List (Str × Addr)} {pos : Pos} {Q : Value → Shared → Prop} (_F₀ : Fr h₀ L s.heap m)
    (hclos : closureFor scope env = pure cl) (hcell : ∀ y ∈ scope.names, y.2 ≠ .cell) (hkind : scope.kind = .function)
    (hnames : ∀ y ∈ scope.names, y.2 = .local → scope.names.lookup y.1 = some .local) (hx : scope.names.lookup x = some .local)
    (h : wpAny (model prog w) A (eval iter env) (fun xv s₁ => wpAny (model prog w) A (pyIter xv) (SrcG prog w A h₀ L m env elt x scope cl Q) E s₁) E s)
    (hs : ∀ x, foldedSetIterable iter env x = pure x := by intro _; rfl) :
    wpAny (model prog w) A (eval (.ListComp elt [⟨.Name x px, iter, [], 0⟩] scope pos) env) Q E s := by
  rw [eval_ListComp]
  refine wpAny_comprehension_free (use := none) rfl hs hclos hkind hnames (wpAny_mono h (fun xv s₁ h₁ => ?_) fun _ _ e => e)
  refine wpAny_mono h₁ (fun it s₂ h₂ => ?_) fun _ _ e => e
  obtain ⟨I, fp, n, P, St, S, news, rfl, W, hsz, hIo, hSt, hst, hfp, F, N, hIL, hI₀, off, hS, R⟩ := h₂
  refine block_U W hsz hIo hSt hcell hkind hx hst hfp F N hIL hI₀ off hS R ?_
  intro D C h tk m' ys news' F' N' o1 hn hC₀ hD₀ hCL hDL hCD offC fin
  refine ⟨m', hn, fun h'' hs'' => fin D h'' tk (F'.change hs'' hCL hC₀) (fun p hp => ?_) o1⟩
  refine ⟨hs''.extBut _ _ ?_ (N' p hp).1, (N' p hp).2⟩
  rcases List.mem_cons.mp hp with rfl | hp
  · exact Ne.symm hCD
  · exact offC p hp
/-- a text's signs as the source -/
theorem src_text {elt : PySem.Expr} {x : Str} {scope : Scope} {cl : List (Str × Addr)} {Q : Value → Shared → Prop} {xt : Str} {tx : Tok} {news : List (Addr × Obj)}
    (hh : A.handled = none) (F : Fr h₀ L s.heap m) (N : News h₀ L s.heap news) (hsz : xt.length ≤ sizeLine)
    (R : ∀ g, CompRest prog w A h₀ L m env elt x scope cl { s with heap := g } (fun _ => True) (SignAt xt) (FinE h₀ L m { s with heap := g } Q) xt.length 0 [] news) :
    wpAny (model prog w) A (pyIter (.str xt tx)) (SrcG prog w A h₀ L m env elt x scope cl Q) E s := by
  have go : ∀ (T : String) (o : Obj), Walks prog w A s.heap.objs.size [s.heap.objs.size] [s.heap.objs.size] xt.cps.size (SignAt xt) (fun i h => h.IsStrIter s.heap.objs.size T xt tx i) →
      (s.heap.push o).IsStrIter s.heap.objs.size T xt tx 0 → SrcG prog w A h₀ L m env elt x scope cl Q (.ref s.heap.objs.size) { s with heap := s.heap.push o } := by
    intro T o W st
    refine ⟨_, _, _, _, _, fun _ => True, news, rfl, W, hsz, fun i h st => let ⟨o, e, _⟩ := st; ⟨o, e⟩, fun i h h' o nw st e e' _ _ _ => ?_, st, fun b hb => ?_, F.push _, N.grown fun _ _ e => Heap.get?_push_of_some _ e, Nat.ne_of_lt F.ns.lt, next_is_new F, fun p hp => Nat.ne_of_lt (Heap.lt_size (N p hp).1), trivial, R _⟩
    · obtain ⟨o', q, r⟩ := st
      rw [e] at q; cases q
      exact ⟨o, e', r⟩
    · rw [List.mem_singleton.mp hb]
      show s.heap.objs.size < (s.heap.push _).objs.size
      rw [Heap.size_push]; exact Nat.lt_succ_self _
  cases ha : xt.cps.all (· < 128)
  · exact wpAny_pyIter_wide ha (go "str_iterator" _ (Walks.strWide hh _ xt tx) ⟨_, Heap.get?_push_size _ rfl, rfl, rfl⟩)
  · exact wpAny_pyIter_ascii ha (go "str_ascii_iterator" _ (Walks.strAscii hh _ xt tx) ⟨_, Heap.get?_push_size _ rfl, rfl, rfl⟩)
/-- a range by steps as the source -/
theorem src_range {elt : PySem.Expr} {x : Str} {scope : Scope} {cl : List (Str × Addr)} {Q : Value → Shared → Prop} {r : Addr} {a b c : Int} {t u v : Tok} {n : Nat} {news : List (Addr × Obj)}
    (hh : A.handled = none) (F : Fr h₀ L s.heap m) (N : News h₀ L s.heap news) (hr : IsRange s.heap r a b c t u v) (hsm : Builtin.Range.small a b c = true) (hn : Builtin.Range.rangeSize a b c = ((n : Nat) : Int)) (hsz : n ≤ sizeLine)
    (R : ∀ g, CompRest prog w A h₀ L m env elt x scope cl { s with heap := g } (fun _ => True) (fun i v => i < n ∧ ∃ t, v = .int (a + (i : Int) * c) t) (FinE h₀ L m { s with heap := g } Q) n 0 [] news) :
    wpAny (model prog w) A (pyIter (.ref r)) (SrcG prog w A h₀ L m env elt x scope cl Q) E s := by
  refine wpAny_pyIter_range hr hsm ?_
  have W : Walks prog w A s.heap.objs.size [s.heap.objs.size] [s.heap.objs.size] n (fun i v => i < n ∧ ∃ t, v = .int (a + i * c) t)
      (fun i h => IsRangeIter h s.heap.objs.size (a + (i : Nat) * c) ((n : Int) - (i : Nat)) c) := (Walks.range hh _ a c n).bound
  refine ⟨_, _, _, _, _, fun _ => True, news, rfl, W, hsz, fun i h st => ⟨_, st⟩, fun i h h' o nw st e e' _ _ _ => ?_, by show IsRangeIter _ _ _ _ _; rw [hn]; simpa using Heap.get?_push_size _ rfl, fun b hb => ?_, F.push _, N.grown fun _ _ e => Heap.get?_push_of_some _ e, Nat.ne_of_lt F.ns.lt, next_is_new F, fun p hp => Nat.ne_of_lt (Heap.lt_size (N p hp).1), trivial, R _⟩
  · have st' : h.get? s.heap.objs.size = some _ := st
    show h'.get? s.heap.objs.size = some _
    rw [e', ← e]; exact st'
  · rw [List.mem_singleton.mp hb]
    show s.heap.objs.size < (s.heap.push _).objs.size
    rw [Heap.size_push]; exact Nat.lt_succ_self _
end
end Mine
end

section
open PySem PySem.W PyProof.Rows
namespace Mine
/-- an operator's number: the bare signs in it -/
def runN : List (Int × List Nat) := [(20, [60]), (29, [60]), (33, [60, 60]), (44, [60, 60]), (21, [62]), (30, [62]), (34, [62, 62]), (45, [62, 62]), (22, []), (0, [])]
def runGet (x : Int) : Option (List Nat) := (runN.find? fun p => p.1 == x).map (·.2)
def sgns (ns : List Int) : List Nat := ns.flatMap fun x => (runGet x).getD []
theorem runGet_len {x : Int} {o : List Nat} (h : runGet x = some o) : o.length ≤ 2 := by
  unfold runGet at h
  cases hf : runN.find? fun p => p.1 == x with
  | none => rw [hf] at h; cases h
  | some p =>
    rw [hf] at h; cases h
    have hm := List.mem_of_find?_eq_some hf
    revert hm; revert p
    intro p _ hm
    simp only [runN, List.mem_cons, List.not_mem_nil, or_false] at hm
    rcases hm with rfl | rfl | rfl | rfl | rfl | rfl | rfl | rfl | rfl | rfl <;> decide
end Mine
end

section
open PySem PySem.W PyProof.Rows
namespace Mine
/-- what parse257 reads behind the first quote -/
def scan : List Nat → List Nat
  | [] => []
  | [c] => if c = 34 then [] else [c]
  | c :: d :: r => if c = 34 then (if d = 34 then 34 :: scan r else []) else c :: scan (d :: r)
def wstep (c0 : Int) (x : Int × Int × Bool) (n : Int) : Int × Int × Bool :=
  let run := x.2.2 && n == c0
  let step := if run then x.2.1 else x.2.1.fdiv 2
  (if n == 62 then x.1 + step else x.1 - step, step, run)
def wfold (c0 : Int) (pre : List Int) : Int × Int × Bool := pre.foldl (wstep c0) (0, 64, true)
/-- the named line: two quotes ahead of each sign -/
def qqs (l : List Nat) : List Nat := l.flatMap fun c => [34, 34, c]
def namedL (rl : List Nat) : List Nat := [50, 53, 55, 32, 34] ++ qqs (rl ++ [61]) ++ [34, 32, 105, 115, 32, 116, 111, 108, 100]
def cutL (rl : List Nat) (k : Nat) : List Nat := (namedL rl).take (5 + 3 * k) ++ (namedL rl).drop (6 + 3 * k)
def toldF (rl : List Nat) : List (List Nat) := (List.range (rl.length + 1)).map fun k => scan ((cutL rl k).drop 5)
def ok257 (l : List Nat) : Bool := decide (5 ≤ l.length) && l.take 3 == [50, 53, 55] && (l.drop 3).take 2 == [32, 34]
theorem ok257_len {l : List Nat} (h : ok257 l = true) : 5 ≤ (S l).length := by
  unfold ok257 at h
  simp only [Bool.and_eq_true, decide_eq_true_eq] at h
  rw [S_len]; exact h.1.1
theorem ok257_a {l : List Nat} (h : ok257 l = true) : (Txt.slice (S l) none (some 3) != Str.ofString "257") = false := by
  have h5 := ok257_len h
  unfold ok257 at h
  simp only [Bool.and_eq_true, decide_eq_true_eq, beq_iff_eq] at h
  have e : Str.ofString "257" = S [50, 53, 55] := by decide +kernel
  rw [slice_to (by omega) (by omega), S_cps, e]
  show ((S (l.take 3)) != _) = false
  rw [h.1.2]; decide
theorem ok257_b {l : List Nat} (h : ok257 l = true) : (Txt.slice (S l) (some 3) (some 5) != Str.ofString " \"") = false := by
  have h5 := ok257_len h
  unfold ok257 at h
  simp only [Bool.and_eq_true, decide_eq_true_eq, beq_iff_eq] at h
  have e : Str.ofString " \"" = S [32, 34] := by decide +kernel
  rw [slice_is (by omega) (by omega) (by omega), S_cps, e]
  show ((S ((l.drop 3).take 2)) != _) = false
  rw [h.2]; decide
theorem qqs_len (l : List Nat) : (qqs l).length = 3 * l.length := by
  induction l with
  | nil => rfl
  | cons a l ih => simp only [qqs, List.flatMap_cons, List.length_append, List.length_cons, List.length_nil] at ih ⊢; omega
theorem namedL_len (l : List Nat) : (namedL l).length = 3 * l.length + 17 := by
  unfold namedL
  rw [List.length_append, List.length_append, qqs_len]
  simp; omega
theorem qqs_sum {l : List Nat} (h : l.length ≤ 65) : ((l.map fun c => S [34, 34, c]).map fun x => x.length).sum + (l.map fun c => S [34, 34, c]).length * 64 ≤ 16777216 := by
  have : ∀ l : List Nat, ((l.map fun c => S [34, 34, c]).map fun x => x.length).sum = 3 * l.length := by
    intro l
    induction l with
    | nil => rfl
    | cons a l ih => simp only [List.map_cons, List.sum_cons, List.length_cons, ih, S_len, List.length_nil]; omega
  rw [this, List.length_map]; omega
theorem join_qqs (l : List Nat) : Txt.join (Str.ofString "") (l.map fun c => S [34, 34, c]) = S (qqs l) := by
  have e : Str.ofString "" = ⟨#[]⟩ := by decide +kernel
  rw [e]
  exact join_flat (fun c => [34, 34, c]) l
theorem qqs_step {ys : List Value} {l : List Nat} {j c : Nat} {t : Tok} (hs : StrsAre ys ((l.take j).map fun c => S [34, 34, c])) (hc : (S l).cps[j]? = some c) :
    StrsAre (ys ++ [.str (Str.ofString "\"\"" ++ ⟨#[c]⟩) t]) ((l.take (j + 1)).map fun c => S [34, 34, c]) := by
  have hc' : l[j]? = some c := by simpa [S] using hc
  rw [List.take_add_one, hc', List.map_append]
  refine hs.append' ?_
  have e : Str.ofString "\"\"" = S [34, 34] := by decide +kernel
  have e2 : Str.ofString "\"\"" ++ ⟨#[c]⟩ = S [34, 34, c] := by
    rw [e]; exact S_app [34, 34] [c]
  rw [e2]
  exact .cons _ _ .nil
theorem row_eq (row : Str) : row ++ Str.ofString "=" = S (row.cps.toList ++ [61]) := by
  have e : Str.ofString "=" = S [61] := by decide +kernel
  rw [e, ← S_app, S_of]
theorem named_eq (rl : List Nat) : Str.ofString "257 \"" ++ S (qqs (rl ++ [61])) ++ Str.ofString "\" is told" = S (namedL rl) := by
  have e : Str.ofString "257 \"" = S [50, 53, 55, 32, 34] := by decide +kernel
  have e2 : Str.ofString "\" is told" = S [34, 32, 105, 115, 32, 116, 111, 108, 100] := by decide +kernel
  rw [e, e2, S_app, S_app]; rfl
def portL (c : Nat) (num : List Nat) : List Nat := [50, 50, 57, 32, 40, c, c, c] ++ num ++ [c, 41]
def okPort (c : Nat) (num : List Nat) (n : Int) : Bool :=
  Txt.slice (S (portL c num)) none (some 3) == Str.ofString "229" && (Txt.find (S (portL c num)) (Str.ofString "(") : Int) == 4 && (Txt.find3 (S (portL c num)) (Str.ofString ")") 5 : Int) == (9 + num.length : Nat) && Txt.item (S (portL c num)) 5 == Txt.item (S (portL c num)) (8 + num.length : Nat) &&
  Txt.split (Txt.slice (S (portL c num)) (some 5) (some (9 + num.length : Nat))) (Txt.item (S (portL c num)) 5) == [S [], S [], S [], S num, S []] && PySem.intText? (S num) == some n
theorem okPort_all {c : Nat} {num : List Nat} {n : Int} (h : okPort c num n = true) :
    (Txt.slice (S (portL c num)) none (some 3) != Str.ofString "229") = false ∧ (Txt.find (S (portL c num)) (Str.ofString "(") : Int) = 4 ∧ (Txt.find3 (S (portL c num)) (Str.ofString ")") (4 + 1) : Int) = (9 + num.length : Nat) ∧ (Txt.item (S (portL c num)) (4 + 1) != Txt.item (S (portL c num)) (((9 + num.length : Nat) : Int) - 1)) = false ∧
    Txt.split (Txt.slice (S (portL c num)) (some (4 + 1)) (some (9 + num.length : Nat))) (Txt.item (S (portL c num)) (4 + 1)) = [S [], S [], S [], S num, S []] ∧ PySem.intText? (S num) = some n := by
  unfold okPort at h
  simp only [Bool.and_eq_true, beq_iff_eq] at h
  obtain ⟨⟨⟨⟨⟨h1, h2⟩, h3⟩, h4⟩, h5⟩, h6⟩ := h
  have e : (((9 + num.length : Nat) : Int) - 1) = ((8 + num.length : Nat) : Int) := by omega
  rw [e]
  refine ⟨?_, h2, h3, ?_, h5, h6⟩
  · rw [h1]; exact bne_self_eq_false' ..
  · show (Txt.item (S (portL c num)) 5 != _) = false
    rw [h4]; exact bne_self_eq_false' ..
theorem portL_len (c : Nat) (num : List Nat) : (S (portL c num)).length = 10 + num.length := by
  rw [S_len]; unfold portL; simp; omega
theorem ported_eq (c : Nat) (num : List Nat) : Str.ofString "229 (" ++ S [c, c, c] ++ S num ++ S [c] ++ Str.ofString ")" = S (portL c num) := by
  have e : Str.ofString "229 (" = S [50, 50, 57, 32, 40] := by decide +kernel
  have e2 : Str.ofString ")" = S [41] := by decide +kernel
  rw [e, e2, S_app, S_app, S_app, S_app]
  congr 1
  unfold portL
  simp
theorem mul3 (c : Nat) : Txt.mul (S [c]) 3 = S [c, c, c] := by
  rfl
theorem cut_a {rl : List Nat} {k : Nat} (hk : k ≤ rl.length) : Txt.slice (S (namedL rl)) none (some (5 + 3 * (k : Int))) = S ((namedL rl).take (5 + 3 * k)) := by
  have h := namedL_len rl
  rw [slice_to (by omega) (by rw [S_len]; omega), S_cps]
  have : (5 + 3 * (k : Int)).toNat = 5 + 3 * k := by omega
  rw [this]; rfl
theorem slice_from {x : Str} {k : Int} (h0 : 0 ≤ k) (h1 : k ≤ (x.length : Int)) : Txt.slice x (some k) none = ⟨(x.cps.toList.drop k.toNat).toArray⟩ := by
  have hl : (x.length : Int) = (x.cps.toList.length : Int) := by rw [len_is]
  have := beq_iff_eq.mp (slice_closes_fromL (x := x) (i := k) h0 h1 rfl)
  rw [this]
  congr 2
  rw [List.take_of_length_le]
  rw [List.length_drop]; omega
theorem cut_b {rl : List Nat} {k : Nat} (hk : k ≤ rl.length) : Txt.slice (S (namedL rl)) (some (6 + 3 * (k : Int))) none = S ((namedL rl).drop (6 + 3 * k)) := by
  have h := namedL_len rl
  rw [slice_from (by omega) (by rw [S_len]; omega), S_cps]
  have : (6 + 3 * (k : Int)).toNat = 6 + 3 * k := by omega
  rw [this]; rfl
theorem cut_eq {rl : List Nat} {k : Nat} (hk : k ≤ rl.length) : Txt.slice (S (namedL rl)) none (some (5 + 3 * (k : Int))) ++ Txt.slice (S (namedL rl)) (some (6 + 3 * (k : Int))) none = S (cutL rl k) := by
  rw [cut_a hk, cut_b hk, S_app]; rfl
theorem cutL_len (rl : List Nat) (k : Nat) : (cutL rl k).length ≤ 6 * rl.length + 40 := by
  have h := namedL_len rl
  unfold cutL
  rw [List.length_append, List.length_take, List.length_drop]; omega
theorem told_step {ys : List Value} {rl : List Nat} {i : Nat} {t : Tok} (hs : StrsAre ys (((List.range i).map fun k => scan ((cutL rl k).drop 5)).map S)) :
    StrsAre (ys ++ [.str ⟨(scan ((S (cutL rl i)).cps.toList.drop 5)).toArray⟩ t]) (((List.range (i + 1)).map fun k => scan ((cutL rl k).drop 5)).map S) := by
  rw [List.range_succ, List.map_append, List.map_append]
  rw [S_cps]
  exact hs.append' (.cons _ _ .nil)
end Mine
namespace Mine
theorem ok257_of (t : List Nat) : ok257 (50 :: 53 :: 55 :: 32 :: 34 :: t) = true := by
  simp [ok257]
theorem ok257_named (rl : List Nat) : ok257 (namedL rl) = true := ok257_of _
theorem ok257_cut (rl : List Nat) (k : Nat) : ok257 (cutL rl k) = true := by
  unfold cutL namedL
  have e : 5 + 3 * k = 3 * k + 1 + 1 + 1 + 1 + 1 := by omega
  rw [e]
  simp only [List.cons_append, List.take_succ_cons]
  exact ok257_of _
theorem told_fin {ys : List Value} {rl : List Nat} {n : Nat} (hn : n = rl.length + 1) (hs : StrsAre ys (((List.range n).map fun k => scan ((cutL rl k).drop 5)).map S)) : StrsAre ys ((toldF rl).map S) := by
  subst hn; exact hs
end Mine
end

section
open PySem PySem.W PyProof.Rows
namespace Mine
def sub1 (c : Nat) (z l : List Nat) : List Nat := l.flatMap fun d => if d = c then z else [d]
theorem sub1_free {c : Nat} (z : List Nat) {l : List Nat} (h : c ∉ l) : sub1 c z l = l := by
  induction l with
  | nil => rfl
  | cons a l ih =>
    have h1 : ¬ a = c := fun e => h (e ▸ List.mem_cons_self ..)
    simp only [sub1, List.flatMap_cons, if_neg h1] at ih ⊢
    rw [ih fun m => h (List.mem_cons_of_mem _ m)]; rfl
theorem sub1_app (c : Nat) (z a b : List Nat) : sub1 c z (a ++ b) = sub1 c z a ++ sub1 c z b := by simp [sub1]
theorem sub1_join (c : Nat) (z : List Nat) : ∀ parts : List Str, (∀ p ∈ parts, c ∉ p.cps.toList) → sub1 c z (Str.join ⟨#[c]⟩ parts).cps.toList = (Str.join ⟨z.toArray⟩ parts).cps.toList
  | [], _ => rfl
  | [p], h => sub1_free z (h p (List.mem_singleton.mpr rfl))
  | p :: q :: r, h => by
    have ih := sub1_join c z (q :: r) fun a ha => h a (List.mem_cons_of_mem _ ha)
    show sub1 c z (p ++ ⟨#[c]⟩ ++ Str.join ⟨#[c]⟩ (q :: r)).cps.toList = (p ++ ⟨z.toArray⟩ ++ Str.join ⟨z.toArray⟩ (q :: r)).cps.toList
    simp only [Str.cps_append, Array.toList_append]
    rw [sub1_app, sub1_app, ih, sub1_free z (h p (List.mem_cons_self ..))]
    simp [sub1]
theorem replace_sub (l : List Nat) (c : Nat) (z : List Nat) : Txt.replace (S l) (S [c]) (S z) = S (sub1 c z l) := by
  have e : (Txt.replace (S l) ⟨#[c]⟩ ⟨z.toArray⟩).cps.toList = sub1 c z l := by
    rw [StrLaws.replace_one, ← sub1_join c z _ (StrLaws.split_free (S l) c), StrLaws.join_split, S_cps]
  rw [← e, S_of]; rfl
theorem in_one (l : List Nat) (c : Nat) : (!(Builtin.Str.occurrences (S l) (S [c]) 0 (S l).length 1).isEmpty) = decide (c ∈ l) := by
  have := StrLaws.found_one (S l) c
  rw [S_cps] at this
  exact this
def escC (c : Nat) : List Nat := if c = 60 then [38, 108, 116, 59] else if c = 34 then [38, 113, 117, 111, 116, 59] else [c]
/-- as _escape_attrib_c14n writes it -/
def esc (l : List Nat) : List Nat := l.flatMap escC
theorem esc_two (l : List Nat) : sub1 34 [38, 113, 117, 111, 116, 59] (sub1 60 [38, 108, 116, 59] l) = esc l := by
  simp only [sub1, esc, List.flatMap_assoc]
  congr 1
  funext c
  unfold escC
  by_cases h : c = 60
  · subst h; decide
  · simp [h]
theorem esc_len (l : List Nat) : (esc l).length ≤ 6 * l.length := by
  induction l with
  | nil => simp [esc]
  | cons a l ih =>
    simp only [esc, List.flatMap_cons, List.length_append, List.length_cons] at ih ⊢
    have : (escC a).length ≤ 6 := by unfold escC; split; simp; split <;> simp
    omega
theorem sub1_len (c : Nat) (z l : List Nat) : (sub1 c z l).length ≤ (z.length + 1) * l.length := by
  induction l with
  | nil => simp [sub1]
  | cons a l ih =>
    simp only [sub1, List.flatMap_cons, List.length_append, List.length_cons] at ih ⊢
    have : (if a = c then z else [a]).length ≤ z.length + 1 := by split <;> simp
    rw [Nat.mul_add]; omega
theorem mem_sub1 {c d : Nat} {z l : List Nat} (h : d ∈ sub1 c z l) : d ∈ z ∨ d ∈ l := by
  unfold sub1 at h
  obtain ⟨a, ha, hd⟩ := List.mem_flatMap.mp h
  split at hd
  · exact .inl hd
  · rw [List.mem_singleton.mp hd]; exact .inr ha
theorem sub1_mem {c d : Nat} {z l : List Nat} (hn : d ≠ c) (h : d ∈ l) : d ∈ sub1 c z l := by
  unfold sub1
  exact List.mem_flatMap.mpr ⟨d, h, by rw [if_neg hn]; exact List.mem_singleton.mpr rfl⟩
/-- the signs of a row -/
def RowC (l : List Nat) : Prop := ∀ c ∈ l, c = 34 ∨ c = 60 ∨ c = 61 ∨ c = 62
theorem not_in_esc {l : List Nat} (h : RowC l) {c : Nat} (hc : c < 34) : c ∉ esc l := by
  rw [← esc_two]
  intro hm
  rcases mem_sub1 hm with h1 | h1
  · simp at h1; omega
  · rcases mem_sub1 h1 with h2 | h2
    · simp at h2; omega
    · have := h c h2; omega
theorem amp_not {l : List Nat} (h : RowC l) : 38 ∉ l := fun hm => by have := h 38 hm; omega
end Mine
end

section
open PySem PySem.W PyProof.Rows
namespace Mine
/-- a QName's dict: its text -/
abbrev qTxt (w : World) (k t : Tok) (l : List Nat) : Obj := dictOf [{ hash := PyData.keyHash w.params (Str.ofString "text"), key := .str (Str.ofString "text") k, val := .str (S l) t }] 1
/-- the QName at q bears the text l -/
def QAt (w : World) (led : List (Addr × Obj)) (q : Addr) (l : List Nat) : Prop := ∃ dq k t, (q, instObj 88 dq) ∈ led ∧ (dq, qTxt w k t l) ∈ led
theorem QAt.mono {w : World} {led led' : List (Addr × Obj)} {q : Addr} {l : List Nat} (h : QAt w led q l) (hs : ∀ p ∈ led, p ∈ led') : QAt w led' q l :=
  let ⟨dq, k, t, a, b⟩ := h; ⟨dq, k, t, hs _ a, hs _ b⟩
/-- a row's name's text -/
def nmL (l : List Nat) : List Nat := esc (l ++ [34, 61])
/-- the dict of names: at d, its pairs, its QNames in led -/
structure Names (prog : Program) (w : World) (d : Addr) (o : Obj) (kvs : List (Str × Value)) (led : List (Addr × Obj)) : Prop where
  dict : o.IsDictOf (PySem.strKind prog w) kvs
  low : (d == sysModules) = false
  off : ∀ p ∈ led, p.1 ≠ d
  has : ∀ k v, valueAt kvs k = some v → ∃ l q, k = S l ∧ v = .ref q ∧ QAt w led q (nmL l)
theorem valueAt_snoc {kvs : List (Str × Value)} {k : Str} {v : Value} (x : Str) : valueAt (kvs ++ [(k, v)]) x = (valueAt kvs x).or (if k = x then some v else none) := by
  unfold valueAt
  rw [List.find?_append]
  cases h : kvs.find? fun kv => decide (kv.1 = x) with
  | some a => simp
  | none =>
    by_cases e : k = x
    · simp [e]
    · simp [e]
theorem valueAt_new {kvs : List (Str × Value)} {k : Str} {v : Value} (h : valueAt kvs k = none) : valueAt (stored kvs k v) k = some v := by
  rw [stored_absent h, valueAt_snoc, h]; simp
theorem valueAt_keep {kvs : List (Str × Value)} {k : Str} {v : Value} (h : valueAt kvs k = none) {x : Str} {u : Value} (hx : valueAt kvs x = some u) : valueAt (stored kvs k v) x = some u := by
  rw [stored_absent h, valueAt_snoc, hx]; simp
theorem Names.grow {prog : Program} {w : World} {d : Addr} {o o' : Obj} {kvs : List (Str × Value)} {led own : List (Addr × Obj)} {l : List Nat} {q : Addr} (N : Names prog w d o kvs led) (hn : valueAt kvs (S l) = none)
    (hd : o'.IsDictOf (PySem.strKind prog w) (stored kvs (S l) (.ref q))) (hoff : ∀ p ∈ own, p.1 ≠ d) (hq : QAt w own q (nmL l)) : Names prog w d o' (stored kvs (S l) (.ref q)) (own ++ led) := by
  refine ⟨hd, N.low, fun p hp => ?_, fun k v hv => ?_⟩
  · rcases List.mem_append.mp hp with hp | hp
    · exact hoff p hp
    · exact N.off p hp
  · rw [stored_absent hn, valueAt_snoc] at hv
    cases h : valueAt kvs k with
    | some u =>
      rw [h] at hv
      simp only [Option.some_or, Option.some.injEq] at hv
      subst hv
      obtain ⟨l', q', e1, e2, e3⟩ := N.has _ _ h
      exact ⟨l', q', e1, e2, e3.mono fun p hp => List.mem_append_right _ hp⟩
    | none =>
      rw [h, Option.none_or] at hv
      by_cases e : S l = k
      · rw [if_pos e] at hv
        exact ⟨l, q, e.symm, (Option.some.inj hv).symm, hq.mono fun p hp => List.mem_append_left _ hp⟩
      · rw [if_neg e] at hv; cases hv
/-- what a step that may name leaves behind -/
structure Grown (prog : Program) (w : World) (d : Addr) (kvs : List (Str × Value)) (led : List (Addr × Obj)) (n : Nat) (o' : Obj) (kvs' : List (Str × Value)) (own : List (Addr × Obj)) : Prop where
  names : Names prog w d o' kvs' (own ++ led)
  above : ∀ p ∈ own, d < p.1 ∧ ∀ q ∈ led, q.1 < p.1
  keep : ∀ x u, valueAt kvs x = some u → valueAt kvs' x = some u
  few : kvs'.length ≤ kvs.length + n
theorem Grown.refl {prog : Program} {w : World} {d : Addr} {o : Obj} {kvs : List (Str × Value)} {led : List (Addr × Obj)} (N : Names prog w d o kvs led) (n : Nat) : Grown prog w d kvs led n o kvs [] :=
  ⟨N, fun _ h => (nomatch h), fun _ _ h => h, Nat.le_add_right _ _⟩
theorem Grown.trans {prog : Program} {w : World} {d : Addr} {o₁ o₂ : Obj} {kvs kvs₁ kvs₂ : List (Str × Value)} {led own₁ own₂ : List (Addr × Obj)} {n₁ n₂ : Nat}
    (G₁ : Grown prog w d kvs led n₁ o₁ kvs₁ own₁) (G₂ : Grown prog w d kvs₁ (own₁ ++ led) n₂ o₂ kvs₂ own₂) : Grown prog w d kvs led (n₁ + n₂) o₂ kvs₂ (own₂ ++ own₁) := by
  refine ⟨by rw [List.append_assoc]; exact G₂.names, fun p hp => ?_, fun x u h => G₂.keep x u (G₁.keep x u h), by have := G₁.few; have := G₂.few; omega⟩
  rcases List.mem_append.mp hp with hp | hp
  · exact ⟨(G₂.above p hp).1, fun q hq => (G₂.above p hp).2 q (List.mem_append_right _ hq)⟩
  · exact G₁.above p hp
end Mine
namespace Mine
def leL (x y : List Nat) : Bool := !decide (y < x)
def ltL (x y : List Nat) : Bool := decide (x < y)
end Mine
namespace Mine
theorem Grown.le {prog : Program} {w : World} {d : Addr} {o' : Obj} {kvs kvs' : List (Str × Value)} {led own : List (Addr × Obj)} {n k : Nat} (G : Grown prog w d kvs led n o' kvs' own) (h : n ≤ k) : Grown prog w d kvs led k o' kvs' own :=
  ⟨G.names, G.above, G.keep, Nat.le_trans G.few (Nat.add_le_add_left h _)⟩
end Mine
end

section
open PySem PySem.W PyProof.Rows
namespace Mine
/-- the QNames of a list -/
def QsAre (w : World) (led : List (Addr × Obj)) (vs : List Value) (ls : List (List Nat)) : Prop := vs.length = ls.length ∧ ∀ (i : Nat) (h : i < ls.length), ∃ q, vs[i]? = some (.ref q) ∧ QAt w led q ls[i]
theorem QsAre.mono {w : World} {led led' : List (Addr × Obj)} {vs : List Value} {ls : List (List Nat)} (h : QsAre w led vs ls) (hs : ∀ p ∈ led, p ∈ led') : QsAre w led' vs ls :=
  ⟨h.1, fun i hi => let ⟨q, a, b⟩ := h.2 i hi; ⟨q, a, b.mono hs⟩⟩
theorem QsAre.nil {w : World} {led : List (Addr × Obj)} : QsAre w led [] [] := ⟨rfl, fun _ h => absurd h (Nat.not_lt_zero _)⟩
theorem QsAre.snoc {w : World} {led : List (Addr × Obj)} {vs : List Value} {ls : List (List Nat)} {q : Addr} {l : List Nat} (h : QsAre w led vs ls) (hq : QAt w led q l) : QsAre w led (vs ++ [.ref q]) (ls ++ [l]) := by
  refine ⟨by simp [h.1], fun i hi => ?_⟩
  by_cases e : i < ls.length
  · obtain ⟨p, a, b⟩ := h.2 i e
    refine ⟨p, by rw [List.getElem?_append_left (by rw [h.1]; exact e)]; exact a, by rw [List.getElem_append_left e]; exact b⟩
  · have e2 : i = ls.length := by simp at hi; omega
    subst e2
    exact ⟨q, by rw [← h.1]; simp, by simp; exact hq⟩
theorem QsAre.append {w : World} {led : List (Addr × Obj)} {vs us : List Value} {ls ks : List (List Nat)} (h : QsAre w led vs ls) (g : QsAre w led us ks) : QsAre w led (vs ++ us) (ls ++ ks) := by
  refine ⟨by simp [h.1, g.1], fun i hi => ?_⟩
  by_cases e : i < ls.length
  · obtain ⟨p, a, b⟩ := h.2 i e
    refine ⟨p, by rw [List.getElem?_append_left (by rw [h.1]; exact e)]; exact a, by rw [List.getElem_append_left e]; exact b⟩
  · have e2 : i - ls.length < ks.length := by simp at hi; omega
    obtain ⟨p, a, b⟩ := g.2 _ e2
    refine ⟨p, by rw [List.getElem?_append_right (by rw [h.1]; omega), h.1]; exact a, by rw [List.getElem_append_right (by omega)]; exact b⟩
/-- the first row between, by signs behind a quote -/
def btw (lows highs : List (List Nat)) : Nat → List Nat → Option (List Nat)
  | 0, _ => none
  | f + 1, row => if lows.any (fun low => leL (nmL row) low) then btw lows highs f (row ++ [34, 62]) else if highs.any (fun high => leL high (nmL row)) then btw lows highs f (row ++ [34, 60]) else some row
theorem btw_end {lows highs : List (List Nat)} {row r : List Nat} (h : btw lows highs 0 row = some r) : False := by cases h
theorem btw_low {lows highs : List (List Nat)} {f : Nat} {row r : List Nat} (h : btw lows highs (f + 1) row = some r) (hl : lows.any (fun low => leL (nmL row) low) = true) : btw lows highs f (row ++ [34, 62]) = some r := by
  rw [btw, if_pos hl] at h; exact h
theorem btw_high {lows highs : List (List Nat)} {f : Nat} {row r : List Nat} (h : btw lows highs (f + 1) row = some r) (hl : lows.any (fun low => leL (nmL row) low) = false) (hh : highs.any (fun high => leL high (nmL row)) = true) : btw lows highs f (row ++ [34, 60]) = some r := by
  rw [btw, if_neg (by rw [hl]; decide), if_pos hh] at h; exact h
theorem btw_here {lows highs : List (List Nat)} {f : Nat} {row r : List Nat} (h : btw lows highs (f + 1) row = some r) (hl : lows.any (fun low => leL (nmL row) low) = false) (hh : highs.any (fun high => leL high (nmL row)) = false) : row = r := by
  rw [btw, if_neg (by rw [hl]; decide), if_neg (by rw [hh]; decide)] at h; exact Option.some.inj h
end Mine
namespace Mine
/-- between the turns of _law_between -/
structure BtJ (prog : Program) (w : World) (c d : Addr) (kvs : List (Str × Value)) (pre led : List (Addr × Obj)) (lows highs : List (List Nat)) (res : List Nat) (m0 : Str → Option Value) (i : Nat) (m : Str → Option Value) (row : List Nat) (tr : Tok) (o' : Obj) (kvs' : List (Str × Value)) (own : List (Addr × Obj)) (co : Obj) (v0 : Option Value) : Prop where
  cell : co.data = .cell v0
  bears : m (Str.ofString "row") = some (.str (S row) tr)
  same : ∀ z, z ≠ Str.ofString "turn" → z ≠ Str.ofString "row" → m z = m0 z
  grown : Grown prog w d kvs led i o' kvs' own
  above : ∀ p ∈ own, c < p.1 ∧ d < p.1 ∧ ∀ q ∈ pre, q.1 < p.1
  signs : RowC row
  few : row.length ≤ 2 * i
  goes : btw lows highs (9 - i) row = some res
theorem RowC.two {row : List Nat} (h : RowC row) {c : Nat} (hc : c = 60 ∨ c = 62) : RowC (row ++ [34, c]) := by
  intro x hx
  rcases List.mem_append.mp hx with hx | hx
  · exact h x hx
  · simp at hx; omega
theorem RowC.nil : RowC [] := fun _ h => nomatch h
theorem row_two {row : List Nat} {x y : Str} {a b : Nat} (hx : x = S row) (hy : y = S [a, b]) : x ++ y = S (row ++ [a, b]) := by
  subst hx; subst hy; exact S_app _ _
theorem any_snoc {α : Type} {f : α → Bool} {l : List α} {i : Nat} (h : i < l.length) : (l.take (i + 1)).any f = ((l.take i).any f || f l[i]) := by
  rw [List.take_add_one, List.getElem?_eq_getElem h, List.any_append]; simp
end Mine
namespace Mine
theorem news_312 {h₀ h : Heap} {L : Addr} {a b c : Addr × Obj} {r : List (Addr × Obj)} (N : News h₀ L h (a :: b :: c :: r)) : News h₀ L h (c :: a :: b :: r) := by
  intro p hp
  apply N
  simp only [List.mem_cons] at hp ⊢
  rcases hp with h | h | h | h <;> simp [h]
theorem news_back {h₀ h : Heap} {L : Addr} {a b d : Addr × Obj} {o r : List (Addr × Obj)} (N : News h₀ L h (d :: (o ++ (a :: b :: r)))) : News h₀ L h (a :: b :: d :: (o ++ r)) := by
  intro p hp
  apply N
  simp only [List.mem_cons, List.mem_append] at hp ⊢
  rcases hp with h | h | h | h | h <;> simp [h]
theorem sub_tail2 {own led pre : List (Addr × Obj)} {a b : Addr × Obj} (h : ∀ p ∈ led, p ∈ pre) : ∀ p ∈ own ++ led, p ∈ a :: b :: (own ++ pre) := by
  intro p hp
  simp only [List.mem_cons, List.mem_append] at hp ⊢
  rcases hp with h1 | h1
  · simp [h1]
  · simp [h p h1]
theorem sub_app {own led pre : List (Addr × Obj)} (h : ∀ p ∈ led, p ∈ pre) : ∀ p ∈ own ++ led, p ∈ own ++ pre := by
  intro p hp
  rcases List.mem_append.mp hp with h1 | h1
  · exact List.mem_append_left _ h1
  · exact List.mem_append_right _ (h p h1)
end Mine
namespace Mine
theorem btw_off8 {I c d : Addr} {oI co o1 : Obj} {own pre : List (Addr × Obj)} (hI : ∀ p ∈ (c, co) :: (d, o1) :: (own ++ pre), p.1 ≠ I) (hcd : (@LT.lt Nat _ d c)) (hab : ∀ p ∈ own, c < p.1 ∧ d < p.1 ∧ ∀ q ∈ pre, q.1 < p.1) (hpre : ∀ p ∈ pre, p.1 ≠ d) :
    ∀ p ∈ (I, oI) :: (c, co) :: (own ++ pre), p.1 ≠ d := by
  intro p hp
  rcases List.mem_cons.mp hp with rfl | hp
  · exact fun e => hI (d, o1) (.tail _ (.head _)) e.symm
  rcases List.mem_cons.mp hp with rfl | hp
  · exact Nat.ne_of_gt hcd
  rcases List.mem_append.mp hp with hp | hp
  · exact Nat.ne_of_gt (hab p hp).2.1
  · exact hpre p hp
theorem btw_above {I c d : Addr} {oI co o1 : Obj} {own own2 pre : List (Addr × Obj)} (hI : ∀ p ∈ (c, co) :: (d, o1) :: (own ++ pre), p.1 ≠ I) (hab : ∀ p ∈ own, c < p.1 ∧ d < p.1 ∧ ∀ q ∈ pre, q.1 < p.1)
    (h2 : ∀ p ∈ own2, d < p.1 ∧ ∀ q ∈ (I, oI) :: (c, co) :: (own ++ pre), q.1 < p.1) : ∀ p ∈ own2 ++ own, c < p.1 ∧ d < p.1 ∧ (∀ q ∈ pre, q.1 < p.1) ∧ p.1 ≠ I := by
  intro p hp
  rcases List.mem_append.mp hp with hp | hp
  · have h := h2 p hp
    exact ⟨h.2 (c, co) (.tail _ (.head _)), h.1, fun q hq => h.2 q (.tail _ (.tail _ (List.mem_append_right _ hq))), Nat.ne_of_gt (h.2 (I, oI) (.head _))⟩
  · have h := hab p hp
    exact ⟨h.1, h.2.1, h.2.2, hI p (.tail _ (.tail _ (List.mem_append_left _ hp)))⟩
theorem btw_offI {I c d : Addr} {co o1 co2 o2 : Obj} {own own3 pre : List (Addr × Obj)} (hI : ∀ p ∈ (c, co) :: (d, o1) :: (own ++ pre), p.1 ≠ I) (hab : ∀ p ∈ own3, c < p.1 ∧ d < p.1 ∧ (∀ q ∈ pre, q.1 < p.1) ∧ p.1 ≠ I) :
    ∀ p ∈ (c, co2) :: (d, o2) :: (own3 ++ pre), p.1 ≠ I := by
  intro p hp
  rcases List.mem_cons.mp hp with rfl | hp
  · exact hI (c, co) (.head _)
  rcases List.mem_cons.mp hp with rfl | hp
  · exact hI (d, o1) (.tail _ (.head _))
  rcases List.mem_append.mp hp with hp | hp
  · exact (hab p hp).2.2.2
  · exact hI p (.tail _ (.tail _ (List.mem_append_right _ hp)))
theorem btw_offc {c d : Addr} {o2 : Obj} {own3 pre : List (Addr × Obj)} (hcd : (@LT.lt Nat _ d c)) (hpc : ∀ p ∈ pre, (@LT.lt Nat _ p.1 c)) (hab : ∀ p ∈ own3, c < p.1) : ∀ p ∈ (d, o2) :: (own3 ++ pre), p.1 ≠ c := by
  intro p hp
  rcases List.mem_cons.mp hp with rfl | hp
  · exact Nat.ne_of_lt hcd
  rcases List.mem_append.mp hp with hp | hp
  · exact Nat.ne_of_gt (hab p hp)
  · exact Nat.ne_of_lt (hpc p hp)
theorem any_true {α : Type} {f : α → Bool} {l : List α} {i : Nat} (h : i < l.length) {ys : List Value} {y : Value} (hf : f l[i] = true) : (ys ++ [y]).isEmpty = !(l.take (i + 1)).any f := by
  rw [any_snoc h, hf]; cases ys <;> simp
theorem any_false {α : Type} {f : α → Bool} {l : List α} {i : Nat} (h : i < l.length) {ys : List Value} (hf : f l[i] = false) (hy : ys.isEmpty = !(l.take i).any f) : ys.isEmpty = !(l.take (i + 1)).any f := by
  rw [any_snoc h, hf, hy]; simp
end Mine
end

section
open PySem PySem.W PyProof.Rows PySem.Calls
namespace Mine
/-- a turn's end, the iterator I kept -/
def TurnEnd (h₀ : Heap) (L : Addr) (J : (Str → Option Value) → List (Addr × Obj) → Prop) (I : Addr) (oI : Obj) (s₁ : Shared) (s₂ : Shared) : Prop :=
  ∃ h' tk m' news', s₂ = { s₁ with heap := h', toks := tk } ∧ Fr h₀ L h' m' ∧ News h₀ L h' ((I, oI) :: news') ∧ (∀ p ∈ news', p.1 ≠ I) ∧ J m' news'
theorem TurnEnd.intro {h₀ h' : Heap} {L : Addr} {J : (Str → Option Value) → List (Addr × Obj) → Prop} {I : Addr} {oI : Obj} {s₁ : Shared} {tk : Nat} {m' : Str → Option Value} {all : List (Addr × Obj)}
    (F : Fr h₀ L h' m') (N : News h₀ L h' all) (news' : List (Addr × Obj)) (sub : ∀ p ∈ (I, oI) :: news', p ∈ all) (off : ∀ p ∈ news', p.1 ≠ I) (hj : J m' news') : TurnEnd h₀ L J I oI s₁ { s₁ with heap := h', toks := tk } :=
  ⟨h', tk, m', news', rfl, F, fun p hp => N p (sub p hp), off, hj⟩
def TurnPost (h₀ : Heap) (L : Addr) (J : (Str → Option Value) → List (Addr × Obj) → Prop) (I : Addr) (oI : Obj) (s₁ : Shared) (Q : Flow → Shared → Prop) (f : Flow) (s₂ : Shared) : Prop :=
  match f with
  | .ret v => Q (.ret v) s₂
  | .brk => Q .next s₂
  | _ => TurnEnd h₀ L J I oI s₁ s₂
def TurnOnly (h₀ : Heap) (L : Addr) (J : (Str → Option Value) → List (Addr × Obj) → Prop) (I : Addr) (oI : Obj) (s₁ : Shared) (f : Flow) (s₂ : Shared) : Prop := f = .next ∧ TurnEnd h₀ L J I oI s₁ s₂
section
variable {prog : Program} {w : World} {A : Around} {E : Value → Shared → Prop} {s : Shared} {env : Env} {h₀ : Heap} {x : Str} {body : List Stmt} {Q : Flow → Shared → Prop}
theorem own_two {h : Heap} {L I : Addr} {oI : Obj} {own news : List (Addr × Obj)} (hI : (I, oI) ∈ own) (N : News h₀ L h (own ++ news)) : News h₀ L h ((I, oI) :: news) := by
  intro p hp
  rcases List.mem_cons.mp hp with rfl | hp
  · exact N _ (List.mem_append_left _ hI)
  · exact N _ (List.mem_append_right _ hp)
theorem own_one {h : Heap} {I : Addr} {oI : Obj} {own news : List (Addr × Obj)} (hI : h.get? I = some oI) (hs : ∀ p ∈ own, p.1 ∈ [I]) (hg : ∀ p ∈ own, h.get? p.1 = some p.2) : ∀ p ∈ own ++ news, p ∈ (I, oI) :: news := by
  intro p hp
  rcases List.mem_append.mp hp with hp | hp
  · have e1 := List.mem_singleton.mp (hs p hp)
    have e2 := hg p hp
    rw [e1, hI] at e2
    obtain ⟨a, b⟩ := p
    cases e1; cases e2; exact .head _
  · exact .tail _ hp
theorem turnU {h : Heap} {L I : Addr} {oI : Obj} {own : List (Addr × Obj)} {J : (Str → Option Value) → List (Addr × Obj) → Prop} {s₁ s₂ : Shared} (hI : h.get? I = some oI) (hs : ∀ p ∈ own, p.1 ∈ [I]) (hg : ∀ p ∈ own, h.get? p.1 = some p.2)
    (q : TurnEnd h₀ L J I oI s₁ s₂) : LoopStepU h₀ L [I] own J s₁ .next s₂ := by
  obtain ⟨h', tk, m', news', e, F', N', hoff', hj⟩ := q
  exact ⟨rfl, h', tk, m', news', e, F', fun p hp => N' p (own_one hI hs hg p hp), fun p hp hm => hoff' p hp (List.mem_singleton.mp hm), hj⟩
theorem range_V {r : Addr} {t u v : Tok} {n : Nat} {b : Int} {m₀ : Str → Option Value} {news : List (Addr × Obj)} (J : Nat → (Str → Option Value) → List (Addr × Obj) → Prop)
    (hh : A.handled = none) (hr : IsRange s.heap r 0 b 1 t u v) (hsm : Builtin.Range.small 0 b 1 = true) (hn : Builtin.Range.rangeSize 0 b 1 = (n : Int)) (F : Fr h₀ env.locals s.heap m₀) (N : News h₀ env.locals s.heap news) (h0 : J 0 m₀ news)
    (turn : ∀ i ti m₁ news₁ I oI h tk, i < n → J i m₁ news₁ → (∀ p ∈ news₁, p.1 ≠ I) → Fr h₀ env.locals h (fun y => if y = x then some (.int (i : Int) ti) else m₁ y) → News h₀ env.locals h ((I, oI) :: news₁) →
      wpAny (model prog w) A (execs body env) (TurnPost h₀ env.locals (J (i + 1)) I oI { s with heap := h, toks := tk } Q) E { s with heap := h, toks := tk })
    (done : ∀ m₁ news₁ h tk, J n m₁ news₁ → Fr h₀ env.locals h m₁ → News h₀ env.locals h news₁ → Q .next { s with heap := h, toks := tk }) :
    wpAny (model prog w) A (pyIter (.ref r)) (fun it s₂ => LoopAtV prog w A h₀ env x body Q E it s₂) E s := by
  refine wpAny_pyIter_range hr hsm ?_
  have W : Walks prog w A s.heap.objs.size [s.heap.objs.size] [s.heap.objs.size] n (fun i v => i < n ∧ ∃ t, v = .int (0 + i * 1) t)
      (fun i h => IsRangeIter h s.heap.objs.size (0 + (i : Nat) * 1) ((n : Int) - (i : Nat)) 1) := (Walks.range hh _ 0 1 n).bound
  refine ⟨_, _, _, n, _, _, m₀, news, J, rfl, W, ?_, ?_, ?_, (by show IsRangeIter _ _ _ _ _; rw [hn]; simpa using Heap.get?_push_size _ rfl), F.push _, (fun p hp => ⟨Heap.get?_push_of_some _ (N p hp).1, (N p hp).2⟩), h0, ?_, ?_⟩
  · intro hm
    exact absurd F.ns.lt ((List.mem_singleton.mp hm) ▸ Nat.lt_irrefl _)
  · intro b hb
    rw [List.mem_singleton.mp hb]
    exact next_is_new F
  · intro p hp hI
    exact absurd (Heap.lt_size (N p hp).1) ((List.mem_singleton.mp hI) ▸ Nat.lt_irrefl _)
  · rintro i v m₁ news₁ s₁ own ⟨hh', tk', rfl⟩ hin ⟨_, ti, rfl⟩ hJ hoff hown hget hall st F₁ N₁
    have hI : hh'.get? s.heap.objs.size = some _ := st
    have hIo := hall s.heap.objs.size (.head _) (next_is_new F) _ hI
    have e0 : (0 + (i : Int) * 1) = (i : Int) := by omega
    rw [e0] at F₁
    refine wpAny_mono (turn i ti m₁ news₁ s.heap.objs.size _ hh' tk' hin hJ (fun p hp e => hoff p hp (by rw [e]; exact .head _)) F₁ (own_two hIo N₁)) (fun f s₂ q => ?_) fun _ _ e => e
    cases f with
    | ret v => exact .ret q
    | brk => exact .brk q
    | next => exact .next (turnU hI hown hget q)
    | cont => exact .cont (turnU hI hown hget q)
  · rintro h' tk m' news' F' N' _ hJ
    exact done m' news' h' tk hJ F' N'
/-- the same where the target is no plain local (a cell): the storing is the turn's own -/
theorem range_T {target : PySem.Expr} {r : Addr} {t u v : Tok} {n : Nat} {b : Int} {m₀ : Str → Option Value} {news : List (Addr × Obj)} (J : Nat → (Str → Option Value) → List (Addr × Obj) → Prop)
    (hh : A.handled = none) (hr : IsRange s.heap r 0 b 1 t u v) (hsm : Builtin.Range.small 0 b 1 = true) (hn : Builtin.Range.rangeSize 0 b 1 = (n : Int)) (F : Fr h₀ env.locals s.heap m₀) (N : News h₀ env.locals s.heap news) (h0 : J 0 m₀ news)
    (hgo : ∀ it v, letOwnedTupleGo target it v = pure ())
    (turn : ∀ i ti m₁ news₁ I oI (s₁ : Shared), i < n → J i m₁ news₁ → (∀ p ∈ news₁, p.1 ≠ I) → Fr h₀ env.locals s₁.heap m₁ → News h₀ env.locals s₁.heap ((I, oI) :: news₁) →
      wpAny (model prog w) A (assign target env (.int (i : Int) ti)) (fun _ s₃ => wpAny (model prog w) A (execs body env) (TurnOnly h₀ env.locals (J (i + 1)) I oI s₁) E s₃) E s₁)
    (done : ∀ m₁ news₁ h tk, J n m₁ news₁ → Fr h₀ env.locals h m₁ → News h₀ env.locals h news₁ → Q .next { s with heap := h, toks := tk }) :
    wpAny (model prog w) A (pyIter (.ref r)) (fun it s₂ => LoopAtT prog w A h₀ env target body Q E it s₂) E s := by
  refine wpAny_pyIter_range hr hsm ?_
  have W : Walks prog w A s.heap.objs.size [s.heap.objs.size] [s.heap.objs.size] n (fun i v => i < n ∧ ∃ t, v = .int (0 + i * 1) t)
      (fun i h => IsRangeIter h s.heap.objs.size (0 + (i : Nat) * 1) ((n : Int) - (i : Nat)) 1) := (Walks.range hh _ 0 1 n).bound
  refine ⟨_, _, _, n, _, _, m₀, news, J, rfl, W, ?_, ?_, ?_, (by show IsRangeIter _ _ _ _ _; rw [hn]; simpa using Heap.get?_push_size _ rfl), F.push _, (fun p hp => ⟨Heap.get?_push_of_some _ (N p hp).1, (N p hp).2⟩), fun _ _ _ _ _ hq => by rw [hgo]; exact wpAny_pure hq, h0, ?_, ?_⟩
  · intro hm
    exact absurd F.ns.lt ((List.mem_singleton.mp hm) ▸ Nat.lt_irrefl _)
  · intro b hb
    rw [List.mem_singleton.mp hb]
    exact next_is_new F
  · intro p hp hI
    exact absurd (Heap.lt_size (N p hp).1) ((List.mem_singleton.mp hI) ▸ Nat.lt_irrefl _)
  · rintro i v m₁ news₁ s₁ own hin ⟨_, ti, rfl⟩ hJ hoff hown hget hall st F₁ N₁
    have hI : s₁.heap.get? s.heap.objs.size = some _ := st
    have hIo := hall s.heap.objs.size (.head _) (next_is_new F) _ hI
    have e0 : (0 + (i : Int) * 1) = (i : Int) := by omega
    rw [e0]
    refine wpAny_mono (turn i ti m₁ news₁ s.heap.objs.size _ s₁ hin hJ (fun p hp e => hoff p hp (by rw [e]; exact .head _)) F₁ (own_two hIo N₁)) (fun _ s₃ q3 => ?_) fun _ _ e => e
    refine wpAny_mono q3 (fun f s₂ q => ?_) fun _ _ e => e
    obtain ⟨rfl, q⟩ := q
    exact turnU hI hown hget q
  · rintro h' tk m' news' F' N' _ hJ
    exact done m' news' h' tk hJ F' N'
end
end Mine
end

section
open PySem PySem.W PyProof.Rows
namespace Mine
def at2 (T : List (List (List Nat))) (i j : Nat) : List Nat := (T.getD i []).getD j []
def pick (c : Nat → Bool) (g : Nat → List Nat) (n : Nat) : List (List Nat) := ((List.range n).filter c).map g
theorem pick_yes {c : Nat → Bool} {g : Nat → List Nat} {n : Nat} (h : c n = true) : pick c g (n + 1) = pick c g n ++ [g n] := by
  unfold pick; rw [List.range_succ, List.filter_append]; simp [h]
theorem pick_no {c : Nat → Bool} {g : Nat → List Nat} {n : Nat} (h : c n = false) : pick c g (n + 1) = pick c g n := by
  unfold pick; rw [List.range_succ, List.filter_append]; simp [h]
theorem pick_len (c : Nat → Bool) (g : Nat → List Nat) (n : Nat) : (pick c g n).length ≤ n := by
  unfold pick
  rw [List.length_map]
  exact Nat.le_trans (List.length_filter_le _ _) (by simp)
def nx (xs : List (List Nat)) (k : Nat) : List Nat := nmL (xs.getD k [])
def lowX (xs : List (List Nat)) (T : List (List (List Nat))) (i j : Nat) (n : Nat) : List (List Nat) := pick (fun k => ltL (nx xs k) (nx xs i)) (fun k => nmL (at2 T k j)) n
def lowY (ys : List (List Nat)) (T : List (List (List Nat))) (i j : Nat) (n : Nat) : List (List Nat) := pick (fun k => ltL (nx ys k) (nx ys j)) (fun k => nmL (at2 T i k)) n
def highX (xs : List (List Nat)) (T : List (List (List Nat))) (i j : Nat) (n : Nat) : List (List Nat) := pick (fun k => ltL (nx xs i) (nx xs k)) (fun k => nmL (at2 T k j)) n
def highY (ys : List (List Nat)) (T : List (List (List Nat))) (i j : Nat) (n : Nat) : List (List Nat) := pick (fun k => ltL (nx ys j) (nx ys k)) (fun k => nmL (at2 T i k)) n
/-- T is the whole table of the sums -/
structure SumOk (xs ys : List (List Nat)) (T : List (List (List Nat))) : Prop where
  cell : ∀ i < xs.length, ∀ j < ys.length, btw (lowX xs T i j i ++ lowY ys T i j j) (highX xs T i j i ++ highY ys T i j j) 9 [] = some (at2 T i j)
/-- the finished rows of the table -/
def RowsAre (led : List (Addr × Obj)) (tvs : List Value) (T : List (List (List Nat))) (m i : Nat) : Prop :=
  ∀ k < i, ∃ (R : Addr) (vs : List Value) (n : Nat), tvs[k]? = some (.ref R) ∧ (R, W.listOf vs.toArray n) ∈ led ∧ vs.length = m ∧ ∀ l < m, ∃ t, vs[l]? = some (.str (S (at2 T k l)) t)
theorem RowsAre.mono {led led' : List (Addr × Obj)} {tvs : List Value} {T : List (List (List Nat))} {m i : Nat} (h : RowsAre led tvs T m i) (hs : ∀ p ∈ led, p ∈ led') : RowsAre led' tvs T m i :=
  fun k hk => let ⟨R, vs, n, a, b, c⟩ := h k hk; ⟨R, vs, n, a, hs _ b, c⟩
/-- what stands between the turns: the names, the two lists, the finished rows -/
structure SumF (prog : Program) (w : World) (xs ys : List (List Nat)) (T : List (List (List Nat))) (d : Addr) (adr : List Addr) (pre : List (Addr × Obj)) (X Y : Addr) (xq yq : List Value) (i : Nat) (tvs : List Value) (o' : Obj) (kvs' : List (Str × Value)) (rest led : List (Addr × Obj)) (n : Nat) : Prop where
  names : Names prog w d o' kvs' led
  sub : ∀ p ∈ led, p ∈ rest
  off : ∀ p ∈ rest, ∀ a ∈ adr, p.1 ≠ a
  hX : (X, LCg.lst xq) ∈ rest
  hY : (Y, LCg.lst yq) ∈ rest
  qX : QsAre w led xq (xs.map nmL)
  qY : QsAre w led yq (ys.map nmL)
  rows : RowsAre rest tvs T ys.length i
  keys : ∀ k < i, ∀ l < ys.length, (valueAt kvs' (S (at2 T k l))).isSome = true
  few : kvs'.length ≤ n
  base : ∀ p ∈ pre, p ∈ rest
/-- the dict of names while the fronts are named -/
structure NmSt (prog : Program) (w : World) (d : Addr) (o' : Obj) (kvs' : List (Str × Value)) (own : List (Addr × Obj)) (n : Nat) : Prop where
  names : Names prog w d o' kvs' own
  above : ∀ p ∈ own, @LT.lt Nat _ d p.1
  few : kvs'.length ≤ n
theorem NmSt.start {prog : Program} {w : World} {d : Addr} {o : Obj} (hd : o.IsDictOf (PySem.strKind prog w) []) (lo : (d == sysModules) = false) : NmSt prog w d o [] [] 0 :=
  ⟨⟨hd, lo, fun _ h => (nomatch h), fun _ _ h => by simp [valueAt] at h⟩, fun _ h => (nomatch h), Nat.le_refl _⟩
theorem NmSt.step {prog : Program} {w : World} {d : Addr} {o o' : Obj} {kvs kvs' : List (Str × Value)} {own own2 : List (Addr × Obj)} {n : Nat} (N : NmSt prog w d o kvs own n) (G : Grown prog w d kvs own 1 o' kvs' own2) : NmSt prog w d o' kvs' (own2 ++ own) (n + 1) :=
  ⟨G.names, fun p hp => (List.mem_append.mp hp).elim (fun h => (G.above p h).1) (N.above p), by have := G.few; have := N.few; omega⟩
theorem QsAre.step {w : World} {own own2 : List (Addr × Obj)} {ys : List Value} {xs : List (List Nat)} {i : Nat} {q : Addr} (hi : i < xs.length) (h : QsAre w own ys ((xs.take i).map nmL)) (hq : QAt w (own2 ++ own) q (nmL xs[i])) :
    QsAre w (own2 ++ own) (ys ++ [.ref q]) ((xs.take (i + 1)).map nmL) := by
  rw [List.take_add_one, List.getElem?_eq_getElem hi, List.map_append]
  exact (h.mono fun p hp => List.mem_append_right _ hp).snoc hq
/-- an item of an own list at a natural place -/
theorem at_nat {prog : Program} {w : World} {A : Around} {E : Value → Shared → Prop} {s : Shared} {h₀ : Heap} {L D : Addr} {news : List (Addr × Obj)} {value slice : PySem.Expr} {vs : List Value} {n k : Nat} {u : Tok} {v : Value} {Q : Value → Shared → Prop}
    (N : News h₀ L s.heap news) (hm : (D, W.listOf vs.toArray n) ∈ news) (hx : vs[k]? = some v) (hl : vs.length < 2 ^ 62) (h : Q v s)
    (hs : subscripted slice false (.ref D) (.int (k : Int) u) = operate [.ref D, .int (k : Int) u] (getItem (.ref D) (.int (k : Int) u)) := by with_unfolding_all rfl) :
    wpAny (model prog w) A (subscriptTail value slice (.ref D) (.int (k : Int) u)) Q E s :=
  at_list N hm (Int.natCast_nonneg k) (by rw [Int.toNat_natCast]; exact hx) hl h hs
theorem names_at {prog : Program} {w : World} {d : Addr} {o : Obj} {kvs : List (Str × Value)} {led : List (Addr × Obj)} (N : Names prog w d o kvs led) {l : List Nat} (h : (valueAt kvs (S l)).isSome = true) : ∃ q, valueAt kvs (S l) = some (.ref q) ∧ QAt w led q (nmL l) := by
  obtain ⟨v, hv⟩ := Option.isSome_iff_exists.mp h
  obtain ⟨l', q, e1, rfl, hq⟩ := N.has _ _ hv
  cases S_inj e1
  exact ⟨q, hv, hq⟩
theorem qs_at {w : World} {led : List (Addr × Obj)} {vs : List Value} {xs : List (List Nat)} (h : QsAre w led vs (xs.map nmL)) {k : Nat} (hk : k < xs.length) : ∃ q, vs[k]? = some (.ref q) ∧ QAt w led q (nx xs k) := by
  obtain ⟨q, a, b⟩ := h.2 k (by rw [List.length_map]; exact hk)
  refine ⟨q, a, ?_⟩
  rw [List.getElem_map] at b
  unfold nx
  rw [List.getD_eq_getElem?_getD, List.getElem?_eq_getElem hk]
  exact b
end Mine
namespace Mine
open LCg
theorem comp_nm {h₀ h : Heap} {L : Addr} {a b c e : Addr × Obj} {cs own1 own2 pre : List (Addr × Obj)} (N : News h₀ L h (e :: (own2 ++ (a :: b :: c :: (cs ++ (own1 ++ pre)))))) : News h₀ L h (a :: b :: c :: e :: (cs ++ ((own2 ++ own1) ++ pre))) := by
  intro p hp
  apply N
  simp only [List.mem_cons, List.mem_append] at hp ⊢
  rcases hp with h | h | h | h | h | ((h | h) | h) <;> simp [h]
theorem comp_pre {h₀ h : Heap} {L : Addr} {a b c e : Addr × Obj} {r : List (Addr × Obj)} (N : News h₀ L h (a :: b :: c :: e :: r)) : News h₀ L h (e :: a :: b :: c :: r) := by
  intro p hp
  apply N
  simp only [List.mem_cons] at hp ⊢
  rcases hp with h | h | h | h | h <;> simp [h]
theorem comp_off {I C D d : Addr} {oI oC oD o1 : Obj} {cs own1 pre : List (Addr × Obj)} (off : Off3 I C D ((d, o1) :: (cs ++ (own1 ++ pre)))) (hcs : ∀ p ∈ cs, p.1 ≠ d) (hab : ∀ p ∈ own1, @LT.lt Nat _ d p.1) (hpre : ∀ p ∈ pre, @LT.lt Nat _ p.1 d) :
    ∀ p ∈ (I, oI) :: (C, oC) :: (D, oD) :: (cs ++ (own1 ++ pre)), p.1 ≠ d := by
  have h0 := off.1
  intro p hp
  rcases List.mem_cons.mp hp with rfl | hp
  · exact h0.1.symm
  rcases List.mem_cons.mp hp with rfl | hp
  · exact h0.2.1.symm
  rcases List.mem_cons.mp hp with rfl | hp
  · exact h0.2.2.symm
  rcases List.mem_append.mp hp with hp | hp
  · exact hcs p hp
  rcases List.mem_append.mp hp with hp | hp
  · exact Nat.ne_of_gt (hab p hp)
  · exact Nat.ne_of_lt (hpre p hp)
theorem comp_off3 {I C D d : Addr} {oI oC oD o1 o2 : Obj} {cs own1 own2 pre : List (Addr × Obj)} (off : Off3 I C D ((d, o1) :: (cs ++ (own1 ++ pre)))) (hab : ∀ p ∈ own2, d < p.1 ∧ ∀ q ∈ (I, oI) :: (C, oC) :: (D, oD) :: (cs ++ (own1 ++ pre)), q.1 < p.1) :
    Off3 I C D ((d, o2) :: (cs ++ ((own2 ++ own1) ++ pre))) := by
  have h := off.mem
  refine Off3.of fun p hp => ?_
  rcases List.mem_cons.mp hp with rfl | hp
  · exact h (d, o1) (.head _)
  rcases List.mem_append.mp hp with hp | hp
  · exact h p (.tail _ (List.mem_append_left _ hp))
  rw [List.append_assoc] at hp
  rcases List.mem_append.mp hp with hp | hp
  · have h2 := (hab p hp).2
    exact ⟨Nat.ne_of_gt (h2 _ (.head _)), Nat.ne_of_gt (h2 _ (.tail _ (.head _))), Nat.ne_of_gt (h2 _ (.tail _ (.tail _ (.head _))))⟩
  · exact h p (.tail _ (List.mem_append_right _ hp))
theorem own_pre_ne {d c l : Addr} {own pre : List (Addr × Obj)} (hab : ∀ p ∈ own, @LT.lt Nat _ d p.1) (hpre : ∀ p ∈ pre, @LT.lt Nat _ p.1 l) (hc : @LT.lt Nat _ c d) (hl : @LE.le Nat _ l c) : ∀ p ∈ own ++ pre, p.1 ≠ c := by
  intro p hp
  rcases List.mem_append.mp hp with hp | hp
  · exact Nat.ne_of_gt (Nat.lt_trans hc (hab p hp))
  · exact Nat.ne_of_lt (Nat.lt_of_lt_of_le (hpre p hp) hl)
theorem strs_at {vs : List Value} {xs : List (List Nat)} (h : StrsAre vs (xs.map S)) {k : Nat} (hk : k < xs.length) : ∃ t, vs[k]? = some (.str (S xs[k]) t) :=
  h.at (by rw [List.getElem?_map, List.getElem?_eq_getElem hk]; rfl)
end Mine
namespace Mine
theorem news_swap {h₀ h : Heap} {L : Addr} {a b : Addr × Obj} {r : List (Addr × Obj)} (N : News h₀ L h (a :: b :: r)) : News h₀ L h (b :: a :: r) := by
  intro p hp
  apply N
  simp only [List.mem_cons] at hp ⊢
  rcases hp with h | h | h <;> simp [h]
end Mine
namespace Mine
open LCg
theorem off1_of {I : Addr} : ∀ {l : List (Addr × Obj)}, (∀ p ∈ l, p.1 ≠ I) → Off1 I l
  | [], _ => trivial
  | p :: l, h => ⟨h p (.head _), off1_of fun q hq => h q (.tail _ hq)⟩
theorem perm_sum {h₀ h : Heap} {L : Addr} {t y d x a b c e f g : Addr × Obj} {r : List (Addr × Obj)} (N : News h₀ L h (t :: y :: d :: x :: a :: b :: c :: e :: f :: g :: r)) : News h₀ L h (t :: d :: a :: b :: c :: e :: f :: g :: y :: x :: r) := by
  intro p hp
  apply N
  simp only [List.mem_cons] at hp ⊢
  rcases hp with h | h | h | h | h | h | h | h | h | h | h <;> simp [h]
theorem len_at {prog : Program} {w : World} {A : Around} {E : Value → Shared → Prop} {s : Shared} {h₀ : Heap} {L D : Addr} {news : List (Addr × Obj)} {vs : List Value} {n k : Nat} {Q : Value → Shared → Prop}
    (N : News h₀ L s.heap news) (hm : (D, W.listOf vs.toArray n) ∈ news) (hs : vs.length = k) (hk : k ≤ 100) (h : Q (.int (k : Nat) (s.toks + 1)) { s with toks := s.toks + 1 + 1 }) : wpAny (model prog w) A (call (.builtin "len") [.ref D]) Q E s := by
  refine PySem.Calls.call_len_list (News.isList N hm) (by rw [List.size_toArray, hs]; omega) ?_
  rw [List.size_toArray, hs]; exact h
theorem sum_start {prog : Program} {w : World} {xs ys : List (List Nat)} {T : List (List (List Nat))} {d X Y TB l : Addr} {cells : List Addr} {own3 pre : List (Addr × Obj)} {xq yq : List Value} {o3 : Obj} {kvs3 : List (Str × Value)} {n : Nat}
    (M : NmSt prog w d o3 kvs3 own3 n) (qY : QsAre w own3 yq (ys.map nmL)) (qX : QsAre w own3 xq (xs.map nmL)) (hpre : ∀ p ∈ pre, @LT.lt Nat _ p.1 l) (hld : @LE.le Nat _ l d) (hcl : ∀ a ∈ cells, @LE.le Nat _ l a ∧ @LT.lt Nat _ a d)
    (hX : ∀ a ∈ cells ++ [d, TB], X ≠ a) (hY : ∀ a ∈ cells ++ [d, TB], Y ≠ a) (hTB : ∀ p ∈ own3 ++ pre, p.1 ≠ TB) (hn : n ≤ 10) :
    SumF prog w xs ys T d (cells ++ [d, TB]) pre X Y xq yq 0 [] o3 kvs3 ((Y, LCg.lst yq) :: (X, LCg.lst xq) :: (own3 ++ pre)) own3 (10 + 0 * (ys.length * 9)) := by
  refine ⟨M.names, fun p hp => .tail _ (.tail _ (List.mem_append_left _ hp)), fun p hp a ha => ?_, .tail _ (.head _), .head _, qX, qY, fun k hk => absurd hk (Nat.not_lt_zero _), fun k hk => absurd hk (Nat.not_lt_zero _), by have := M.few; omega, fun p hp => .tail _ (.tail _ (List.mem_append_right _ hp))⟩
  rcases List.mem_cons.mp hp with rfl | hp
  · exact hY a ha
  rcases List.mem_cons.mp hp with rfl | hp
  · exact hX a ha
  rcases List.mem_append.mp ha with hc | hc
  · have hc := hcl a hc
    rcases List.mem_append.mp hp with hp | hp
    · exact Nat.ne_of_gt (Nat.lt_trans hc.2 (M.above p hp))
    · exact Nat.ne_of_lt (Nat.lt_of_lt_of_le (hpre p hp) hc.1)
  · rcases List.mem_cons.mp hc with rfl | hc
    · rcases List.mem_append.mp hp with hp | hp
      · exact Nat.ne_of_gt (M.above p hp)
      · exact Nat.ne_of_lt (Nat.lt_of_lt_of_le (hpre p hp) hld)
    · rw [List.mem_singleton.mp hc]; exact hTB p hp
end Mine
namespace Mine
theorem rangeSize_nat' (n : Nat) : Builtin.Range.rangeSize 0 ((n : Nat) : Int) 1 = ((n : Nat) : Int) := by
  have := rangeSize_nat 0 ((n : Nat) : Int)
  simpa using this
end Mine
namespace Mine
theorem RowsAre.snoc {led : List (Addr × Obj)} {tvs : List Value} {T : List (List (List Nat))} {m i : Nat} {v : Value} (h : RowsAre led tvs T m i) (hl : tvs.length = i) : RowsAre led (tvs ++ [v]) T m i := by
  intro k hk
  obtain ⟨R, vs, n, a, b, c⟩ := h k hk
  exact ⟨R, vs, n, by rw [List.getElem?_append_left (by rw [hl]; exact hk)]; exact a, b, c⟩
theorem lowX_yes {xs : List (List Nat)} {T : List (List (List Nat))} {i j k : Nat} (h : ltL (nx xs k) (nx xs i) = true) : lowX xs T i j (k + 1) = lowX xs T i j k ++ [nmL (at2 T k j)] := pick_yes (c := fun k => ltL (nx xs k) (nx xs i)) h
theorem lowX_no {xs : List (List Nat)} {T : List (List (List Nat))} {i j k : Nat} (h : ltL (nx xs k) (nx xs i) = false) : lowX xs T i j (k + 1) = lowX xs T i j k := pick_no (c := fun k => ltL (nx xs k) (nx xs i)) h
theorem highX_yes {xs : List (List Nat)} {T : List (List (List Nat))} {i j k : Nat} (h : ltL (nx xs i) (nx xs k) = true) : highX xs T i j (k + 1) = highX xs T i j k ++ [nmL (at2 T k j)] := pick_yes (c := fun k => ltL (nx xs i) (nx xs k)) h
theorem highX_no {xs : List (List Nat)} {T : List (List (List Nat))} {i j k : Nat} (h : ltL (nx xs i) (nx xs k) = false) : highX xs T i j (k + 1) = highX xs T i j k := pick_no (c := fun k => ltL (nx xs i) (nx xs k)) h
theorem lowY_yes {ys : List (List Nat)} {T : List (List (List Nat))} {i j k : Nat} (h : ltL (nx ys k) (nx ys j) = true) : lowY ys T i j (k + 1) = lowY ys T i j k ++ [nmL (at2 T i k)] := pick_yes (c := fun k => ltL (nx ys k) (nx ys j)) h
theorem lowY_no {ys : List (List Nat)} {T : List (List (List Nat))} {i j k : Nat} (h : ltL (nx ys k) (nx ys j) = false) : lowY ys T i j (k + 1) = lowY ys T i j k := pick_no (c := fun k => ltL (nx ys k) (nx ys j)) h
theorem highY_yes {ys : List (List Nat)} {T : List (List (List Nat))} {i j k : Nat} (h : ltL (nx ys j) (nx ys k) = true) : highY ys T i j (k + 1) = highY ys T i j k ++ [nmL (at2 T i k)] := pick_yes (c := fun k => ltL (nx ys j) (nx ys k)) h
theorem highY_no {ys : List (List Nat)} {T : List (List (List Nat))} {i j k : Nat} (h : ltL (nx ys j) (nx ys k) = false) : highY ys T i j (k + 1) = highY ys T i j k := pick_no (c := fun k => ltL (nx ys j) (nx ys k)) h
section
variable {prog : Program} {w : World} {xs ys : List (List Nat)} {T : List (List (List Nat))} {d X Y : Addr} {adr : List Addr} {pre rest led : List (Addr × Obj)} {xq yq tvs : List Value} {i n : Nat} {o' : Obj} {kvs' : List (Str × Value)}
/-- the row i is begun at R -/
theorem SumF.inner (H : SumF prog w xs ys T d adr pre X Y xq yq i tvs o' kvs' rest led n) (hl : tvs.length = i) {R I : Addr} (hR : ∀ p ∈ rest, p.1 ≠ R) (hI : ∀ p ∈ rest, p.1 ≠ I) :
    SumF prog w xs ys T d (adr ++ [R, I]) pre X Y xq yq i (tvs ++ [.ref R]) o' kvs' rest led (n + 0 * 9) := by
  refine ⟨H.names, H.sub, fun p hp a ha => ?_, H.hX, H.hY, H.qX, H.qY, H.rows.snoc hl, H.keys, by rw [Nat.zero_mul]; exact H.few, H.base⟩
  rcases List.mem_append.mp ha with ha | ha
  · exact H.off p hp a ha
  · rcases List.mem_cons.mp ha with rfl | ha
    · exact hR p hp
    · rw [List.mem_singleton.mp ha]; exact hI p hp
/-- a cell of the row is found -/
theorem SumF.cell {j : Nat} {o7 : Obj} {kvs7 : List (Str × Value)} {own7 big : List (Addr × Obj)} (H : SumF prog w xs ys T d adr pre X Y xq yq i tvs o' kvs' rest led (n + j * 9)) (G : Grown prog w d kvs' led 9 o7 kvs7 own7)
    (hab : ∀ p ∈ own7, @LT.lt Nat _ d p.1 ∧ ∀ q ∈ big, @LT.lt Nat _ q.1 p.1) (hadr : ∀ a ∈ adr, a = d ∨ ∃ o, (a, o) ∈ big) : SumF prog w xs ys T d adr pre X Y xq yq i tvs o7 kvs7 (own7 ++ rest) (own7 ++ led) (n + (j + 1) * 9) := by
  refine ⟨G.names, sub_app H.sub, fun p hp a ha => ?_, List.mem_append_right _ H.hX, List.mem_append_right _ H.hY, H.qX.mono fun p hp => List.mem_append_right _ hp, H.qY.mono fun p hp => List.mem_append_right _ hp,
    H.rows.mono fun p hp => List.mem_append_right _ hp, fun k hk l hl => ?_, by have := G.few; have := H.few; omega, fun p hp => List.mem_append_right _ (H.base p hp)⟩
  · rcases List.mem_append.mp hp with hp | hp
    · rcases hadr a ha with rfl | ⟨o, ho⟩
      · exact Nat.ne_of_gt (hab p hp).1
      · exact Nat.ne_of_gt ((hab p hp).2 _ ho)
    · exact H.off p hp a ha
  · obtain ⟨v, hv⟩ := Option.isSome_iff_exists.mp (H.keys k hk l hl)
    rw [G.keep _ _ hv]; rfl
theorem Grown.isSome {o7 : Obj} {kvs7 : List (Str × Value)} {own7 : List (Addr × Obj)} {k : Nat} (G : Grown prog w d kvs' led k o7 kvs7 own7) {x : Str} (h : (valueAt kvs' x).isSome = true) : (valueAt kvs7 x).isSome = true := by
  obtain ⟨v, hv⟩ := Option.isSome_iff_exists.mp h
  rw [G.keep _ _ hv]; rfl
/-- the row is whole -/
theorem SumF.outer {R I : Addr} {rvs : List Value} {nR c : Nat} (H : SumF prog w xs ys T d (adr ++ [R, I]) pre X Y xq yq i (tvs ++ [.ref R]) o' kvs' rest led (10 + i * c + c)) (hl : tvs.length = i) (hr : rvs.length = ys.length) (hv : ∀ l < ys.length, ∃ t, rvs[l]? = some (.str (S (at2 T i l)) t))
    (hk : ∀ l < ys.length, (valueAt kvs' (S (at2 T i l))).isSome = true) (hR : ∀ a ∈ adr, R ≠ a) : SumF prog w xs ys T d adr pre X Y xq yq (i + 1) (tvs ++ [.ref R]) o' kvs' ((R, W.listOf rvs.toArray nR) :: rest) led (10 + (i + 1) * c) := by
  refine ⟨H.names, fun p hp => .tail _ (H.sub p hp), fun p hp a ha => ?_, .tail _ H.hX, .tail _ H.hY, H.qX, H.qY, fun k hk' => ?_, fun k hk' l hl' => ?_, by have := H.few; rw [Nat.add_mul]; omega, fun p hp => .tail _ (H.base p hp)⟩
  · rcases List.mem_cons.mp hp with rfl | hp
    · exact hR a ha
    · exact H.off p hp a (List.mem_append_left _ ha)
  · by_cases e : k < i
    · obtain ⟨R', vs, n', a, b, c'⟩ := H.rows k e
      exact ⟨R', vs, n', a, .tail _ b, c'⟩
    · have : k = i := by omega
      subst this
      exact ⟨R, rvs, nR, by rw [← hl]; simp, .head _, hr, hv⟩
  · by_cases e : k < i
    · exact H.keys k e l hl'
    · have : k = i := by omega
      subst this
      exact hk l hl'
end
theorem row_snoc {rvs : List Value} {T : List (List (List Nat))} {i j : Nat} {t0 : Tok} (hl : rvs.length = j) (h : ∀ l < j, ∃ t, rvs[l]? = some (.str (S (at2 T i l)) t)) : ∀ l < j + 1, ∃ t, (rvs ++ [Value.str (S (at2 T i j)) t0])[l]? = some (.str (S (at2 T i l)) t) := by
  intro l hl'
  by_cases e : l < j
  · obtain ⟨t', ht⟩ := h l e
    exact ⟨t', by rw [List.getElem?_append_left (by rw [hl]; exact e)]; exact ht⟩
  · have : l = j := by omega
    subst this
    exact ⟨t0, by rw [← hl]; simp⟩
end Mine
namespace Mine
theorem add_two {prog : Program} {w : World} {A : Around} {E : Value → Shared → Prop} {s : Shared} {h₀ : Heap} {L l b : Addr} {m : Str → Option Value} {news : List (Addr × Obj)} {vs us : List Value} {n1 n2 : Nat} {Q : Value → Shared → Prop}
    (F : Fr h₀ L s.heap m) (N : News h₀ L s.heap news) (hm1 : (l, W.listOf vs.toArray n1) ∈ news) (hm2 : (b, W.listOf us.toArray n2) ∈ news) (hsz : vs.length + us.length ≤ 1000)
    (h : ∀ D h', Fr h₀ L h' m → News h₀ L h' ((D, W.listOf (vs ++ us).toArray 0) :: news) → (∀ p ∈ news, @LT.lt Nat _ p.1 D) → Q (.ref D) { s with heap := h' }) :
    wpAny (model prog w) A (binaryOp .Add (.ref l) (.ref b)) Q E s := by
  refine add_arrays F N (News.isList N hm1) (News.isList N hm2) (fun h' F' N' => ?_) (by rw [sizeLine_eq]; simp; omega)
  have e : (vs.toArray.toList ++ us.toArray.toList).toArray = (vs ++ us).toArray := by simp
  rw [e] at N'
  exact h _ h' F' N' fun p hp => Heap.lt_size (N p hp).1
theorem low_len (xs : List (List Nat)) (T : List (List (List Nat))) (i j n : Nat) : (lowX xs T i j n).length ≤ n ∧ (lowY xs T i j n).length ≤ n ∧ (highX xs T i j n).length ≤ n ∧ (highY xs T i j n).length ≤ n :=
  ⟨pick_len _ _ _, pick_len _ _ _, pick_len _ _ _, pick_len _ _ _⟩
end Mine
namespace Mine
theorem news_add {h₀ h : Heap} {L : Addr} {all l : List (Addr × Obj)} {x : Addr × Obj} (N : News h₀ L h all) (hx : x ∈ all) (M : News h₀ L h l) : News h₀ L h (x :: l) := by
  intro p hp
  rcases List.mem_cons.mp hp with rfl | hp
  · exact N _ hx
  · exact M p hp
theorem news_sub {h₀ h : Heap} {L : Addr} {all l : List (Addr × Obj)} (N : News h₀ L h all) (hs : ∀ p ∈ l, p ∈ all) : News h₀ L h l := fun p hp => N p (hs p hp)
theorem in_big {a : Addr × Obj} {e : Addr × Obj} {own big : List (Addr × Obj)} (h : a ∈ big) : a ∈ e :: (own ++ big) := List.mem_cons_of_mem _ (List.mem_append_right _ h)
theorem own_sub {e : Addr × Obj} {own big rest : List (Addr × Obj)} (h : ∀ p ∈ rest, p ∈ big) : ∀ p ∈ own ++ rest, p ∈ e :: (own ++ big) := by
  intro p hp
  rcases List.mem_append.mp hp with hp | hp
  · exact List.mem_cons_of_mem _ (List.mem_append_left _ hp)
  · exact in_big (h p hp)
theorem keys_snoc {prog : Program} {w : World} {d : Addr} {kvs kvs7 : List (Str × Value)} {led own7 : List (Addr × Obj)} {k : Nat} {o7 : Obj} {T : List (List (List Nat))} {i j : Nat} (G : Grown prog w d kvs led k o7 kvs7 own7) (h : ∀ l < j, (valueAt kvs (S (at2 T i l))).isSome = true) (hv : (valueAt kvs7 (S (at2 T i j))).isSome = true) :
    ∀ l < j + 1, (valueAt kvs7 (S (at2 T i l))).isSome = true := by
  intro l hl
  by_cases e : l < j
  · exact G.isSome (h l e)
  · have : l = j := by omega
    subst this; exact hv
theorem off_own {own rest : List (Addr × Obj)} {a : Addr} (h : ∀ p ∈ own, @LT.lt Nat _ a p.1) (g : ∀ p ∈ rest, p.1 ≠ a) : ∀ p ∈ own ++ rest, p.1 ≠ a := by
  intro p hp
  rcases List.mem_append.mp hp with hp | hp
  · exact Nat.ne_of_gt (h p hp)
  · exact g p hp
theorem at_neg1 {prog : Program} {w : World} {A : Around} {E : Value → Shared → Prop} {s : Shared} {h₀ : Heap} {L D : Addr} {news : List (Addr × Obj)} {value slice : PySem.Expr} {vs : List Value} {n : Nat} {u : Tok} {v : Value} {Q : Value → Shared → Prop}
    (N : News h₀ L s.heap news) (hm : (D, W.listOf vs.toArray n) ∈ news) (h0 : 0 < vs.length) (hx : vs[vs.length - 1]? = some v) (hl : vs.length < 2 ^ 62) (h : Q v s)
    (hs : subscripted slice false (.ref D) (.int (-1) u) = operate [.ref D, .int (-1) u] (getItem (.ref D) (.int (-1) u)) := by with_unfolding_all rfl) :
    wpAny (model prog w) A (subscriptTail value slice (.ref D) (.int (-1) u)) Q E s := by
  have hL := News.isList N hm
  have e : (-1 + (vs.toArray.size : Int)).toNat = vs.length - 1 := by rw [List.size_toArray]; omega
  refine tail_any hL.typeIs slot_list_getitem.lookup (wpAny_getItem_list_neg hL (by omega) (by rw [List.size_toArray]; omega) (by omega) ?_ h) hs
  rw [e]; simpa using hx
end Mine
end

section
open PySem PySem.W PyProof.Rows
namespace Mine
theorem small_two {a b : Int} (ha : 0 ≤ a) (ha' : a ≤ 1) (hb : 0 ≤ b) (hb' : b ≤ 100) : Builtin.Range.small a b 2 = true := by
  unfold Builtin.Range.small Builtin.Range.rangeSize
  simp only [Builtin.Range.rangeFitsLong, Bool.and_eq_true, Bool.or_eq_true, decide_eq_true_eq, beq_iff_eq, show (2 : Int) > 0 by decide, if_true]
  split <;> omega
theorem two_lt {a b : Int} {k : Nat} (h : k < (Builtin.Range.rangeSize a b 2).toNat) : a + (k : Int) * 2 < b := by
  unfold Builtin.Range.rangeSize at h
  simp only [show (2 : Int) > 0 by decide, if_true] at h
  split at h <;> omega
theorem two_le {a b : Int} (ha : 0 ≤ a) (hb : b ≤ 100) : (Builtin.Range.rangeSize a b 2).toNat ≤ 100 := by
  unfold Builtin.Range.rangeSize
  simp only [show (2 : Int) > 0 by decide, if_true]
  split <;> omega
/-- every second of the numbers from a on -/
def evens (ns : List Int) (a : Int) (n : Nat) : List Int := (List.range n).map fun k : Nat => ns.getD (a + (k : Int) * 2).toNat 0
theorem evens_step {ys : List Value} {ns : List Int} {a : Int} {k : Nat} {t : Tok} (h : IntsAre ys (evens ns a k)) : IntsAre (ys ++ [.int (ns.getD (a + (k : Int) * 2).toNat 0) t]) (evens ns a (k + 1)) := by
  unfold evens at *
  rw [List.range_succ, List.map_append]
  exact h.append (.cons _ _ .nil)
end Mine
end

section
open PySem PySem.W PyProof.Rows
namespace Mine
def rowG : Nat → Nat → List Nat
  | 0, _ => []
  | f + 1, n => if n ≤ 1 then [] else rowG f (n / 2) ++ [60 + 2 * (n % 2)]
def rowL (n : Nat) : List Nat := rowG 4 n
def cellF (xs ys : List (List Nat)) (T : List (List (List Nat))) (i j : Nat) : List Nat := (btw (lowX xs T i j i ++ lowY ys T i j j) (highX xs T i j i ++ highY ys T i j j) 9 []).getD []
def rowF (xs ys : List (List Nat)) (T : List (List (List Nat))) (i : Nat) : Nat → List (List Nat)
  | 0 => []
  | j + 1 => let r := rowF xs ys T i j; r ++ [cellF xs ys (T ++ [r]) i j]
def tabF (xs ys : List (List Nat)) : Nat → List (List (List Nat))
  | 0 => []
  | i + 1 => let T := tabF xs ys i; T ++ [rowF xs ys T i ys.length]
def okSum (xs ys : List (List Nat)) (T : List (List (List Nat))) : Bool := (List.range xs.length).all fun i => (List.range ys.length).all fun j => btw (lowX xs T i j i ++ lowY ys T i j j) (highX xs T i j i ++ highY ys T i j j) 9 [] == some (at2 T i j)
def qs (l : List Nat) : List Nat := l.flatMap fun c => [34, c]
def frontsF (l : List Nat) : List (List Nat) := (List.range (l.length + 1)).map (fun k => qs (l.take k)) ++ [qs l ++ [34, 61]]
def intsL (l : List Nat) : List Int := l.map fun c : Nat => (c : Int)
def wv (l : List Nat) : Int := (wfold ((intsL l).headD 0) (intsL l)).1
def pageF (r1 r2 : List Nat) : List Nat := let xs := toldF r1; let ys := toldF r2; nmL (at2 (tabF xs ys xs.length) (xs.length - 1) (ys.length - 1))
def rowOk (r : List Nat) : Bool := toldF r ++ [scan ((namedL r).drop 5)] == frontsF r && decide (-1000 ≤ wv r) && decide (wv r ≤ 1000) && decide (r.length ≤ 3) && (toldF r).all (fun l => decide (l.length ≤ 90) && l.all fun c => c == 34 || c == 60 || c == 61 || c == 62) && decide ((toldF r).length ≤ 5) && decide (0 < (toldF r).length)
def lawOk (r1 r2 : List Nat) : Bool :=
  okSum (toldF r1) (toldF r2) (tabF (toldF r1) (toldF r2) (toldF r1).length) &&
  decide ((pageF r1 r2).length ≤ 4096) &&
  match und none (syms (pageF r1 r2) ++ [0]) with
  | none => false
  | some out => decide (out.length ≤ 4000) && (syms out ++ [0]).all (fun x => (runGet x).isSome) && wv (sgns (syms out ++ [0])) == 16 * ((wv r1).fdiv 16 + (wv r2).fdiv 16)
theorem rows_ok : ((List.range 15).all fun n => rowOk (rowL (n + 1))) = true := by decide +kernel
set_option maxHeartbeats 8000000 in
theorem laws_ok : ((List.range 15).all fun n => (List.range 15).all fun k => lawOk (rowL (n + 1)) (rowL (k + 1))) = true := by decide +kernel
end Mine
end

section
open PySem PySem.W PyProof.Rows
namespace Mine
theorem row_ok {n : Nat} (h : n < 15) : rowOk (rowL (n + 1)) = true := List.all_eq_true.mp rows_ok n (List.mem_range.mpr h)
theorem law_ok {n k : Nat} (h : n < 15) (hk : k < 15) : lawOk (rowL (n + 1)) (rowL (k + 1)) = true := List.all_eq_true.mp (List.all_eq_true.mp laws_ok n (List.mem_range.mpr h)) k (List.mem_range.mpr hk)
def numF (v : Int) : List Nat := (Str.ofString (toString v)).cps.toList
def marks : List Nat := [60, 62, 61, 38, 124, 34]
theorem ports_ok : ((List.range 15).all fun n => decide ((numF ((wv (rowL (n + 1))).fdiv 16)).length ≤ 8) && marks.all fun c => okPort c (numF ((wv (rowL (n + 1))).fdiv 16)) ((wv (rowL (n + 1))).fdiv 16)) = true := by decide +kernel
theorem mark6 (y : Int) : ∃ c, c ∈ marks ∧ Txt.item (Str.ofString "<>=&|\"") (y.fmod 6) = S [c] := by
  have h : y.fmod 6 = y % 6 := Int.fmod_eq_emod_of_nonneg _ (by decide)
  have h2 : y.fmod 6 = 0 ∨ y.fmod 6 = 1 ∨ y.fmod 6 = 2 ∨ y.fmod 6 = 3 ∨ y.fmod 6 = 4 ∨ y.fmod 6 = 5 := by omega
  rcases h2 with h | h | h | h | h | h <;> rw [h]
  · exact ⟨60, by decide, by decide +kernel⟩
  · exact ⟨62, by decide, by decide +kernel⟩
  · exact ⟨61, by decide, by decide +kernel⟩
  · exact ⟨38, by decide, by decide +kernel⟩
  · exact ⟨124, by decide, by decide +kernel⟩
  · exact ⟨34, by decide, by decide +kernel⟩
end Mine
end

section
open PySem PySem.W PyProof.Rows
namespace Mine
theorem wfold_snoc (c0 : Int) (pre : List Int) (n : Int) : wfold c0 (pre ++ [n]) = wstep c0 (wfold c0 pre) n := by simp [wfold, List.foldl_append]
theorem gt_code (n : Nat) : ((⟨#[n]⟩ : Str) == Str.ofString ">") = ((n : Int) == 62) := by
  have e : Str.ofString ">" = ⟨#[62]⟩ := by decide +kernel
  rw [e]
  by_cases h : n = 62
  · subst h; decide
  · have h1 : ((n : Int) == 62) = false := by simp; omega
    rw [h1]
    simp [h]
theorem item0_code {row : Str} {p q : List Int} {m : Nat} (h : KStt.codes row = p ++ (m : Int) :: q) (n : Nat) : ((⟨#[n]⟩ : Str) == Txt.item row 0) = ((n : Int) == (KStt.codes row).headD 0) := by
  have hl : 0 < row.length := by
    have := congrArg List.length h
    rw [KStt.codes_length] at this
    simp at this; omega
  rw [item_meets ⟨by omega, by omega⟩]
  obtain ⟨⟨l⟩⟩ := row
  cases l with
  | nil => simp [Str.length] at hl
  | cons c r =>
    simp [KStt.codes]
    by_cases e : n = c
    · subst e; simp
    · have h1 : ((n : Int) == (c : Int)) = false := by simp; omega
      rw [h1]; simp [e]
theorem worth_c (prog : Program) (w : World) (mean) (mg mb) (pre : Led) (row : Str) (t : Tok) :
    Spec prog w mean mg mb 188 1 [.str row t] pre (fun r news' => news' = pre ∧ ∃ t, r = .int (wfold ((KStt.codes row).headD 0) (KStt.codes row)).1 t) := by
  intro dp un gd cn cs a ccd cl outer A₀ base h₀ L m s Q E B F X N T hk hd hu hret
  w_top off
  k_with_none
  refine wpAny_call ?_
  k_dflt cell_enter
  (k_with "pyIter str" => k_state (fun pre wo st ru => (wo, st, ru) = wfold ((KStt.codes row).headD 0) pre) "worth" "step" "run")
  (k_with "state" => first | rfl | ((try dsimp only); rw [wfold_snoc]; simp only [← kInv]; simp only [wstep, ← gt_code, ← item0_code (by assumption)]; simp_all; done))
  k_steps
  all_goals (exact hret _ _ _ _ (by k_asm) (by k_asm) ⟨rfl, _, by rw [← kInv]⟩)
end Mine
end

section
open PySem PySem.W PyProof.Rows
namespace Mine
theorem scan_other {c : Nat} {r : List Nat} (h : c ≠ 34) : scan (c :: r) = c :: scan r := by
  cases r with
  | nil => simp [scan, h]
  | cons d r => simp [scan, h]
def PI (resp : Str) (i : Int) (d : Str) : Prop := d.cps.toList ++ scan (resp.cps.toList.drop i.toNat) = scan (resp.cps.toList.drop 5)
theorem PI.start {resp : Str} (h : 5 ≤ resp.length) : 5 ≤ (5 : Int) ∧ 5 ≤ (resp.length : Int) ∧ (Str.ofString "").length ≤ (5 : Int) ∧ PI resp 5 (Str.ofString "") := ⟨by omega, by omega, by decide, by
  have e : Str.ofString "" = ⟨#[]⟩ := by decide +kernel
  rw [e]; rfl⟩
theorem quote_is : Str.ofString "\"" = ⟨#[34]⟩ := by decide +kernel
theorem one_quote {c : Nat} : ((⟨#[c]⟩ : Str) == Str.ofString "\"") = decide (c = 34) := by
  rw [quote_is]
  by_cases h : c = 34
  · subst h; decide
  · simp [h]
theorem one_quote_ne {c : Nat} : ((⟨#[c]⟩ : Str) != Str.ofString "\"") = !decide (c = 34) := by
  rw [← one_quote]; rfl
theorem PI.end1 {resp d : Str} {i : Int} (h : PI resp i d) (h0 : 5 ≤ i) (h1 : i < (resp.length : Int)) (hq : (Txt.item resp i == Str.ofString "\"") = true) (h2 : (resp.length : Int) ≤ i + 1) : d.cps.toList = scan (resp.cps.toList.drop 5) := by
  obtain ⟨c, e, ed⟩ := item_at (by omega) h1
  rw [e, one_quote, decide_eq_true_eq] at hq
  unfold PI at h
  have : resp.cps.toList.drop (i.toNat + 1) = [] := by
    apply List.drop_eq_nil_of_le
    show resp.cps.size ≤ _
    have : (resp.length : Int) = (resp.cps.size : Int) := rfl
    omega
  rw [ed, this, hq] at h
  simpa [scan] using h
theorem PI.end2 {resp d : Str} {i : Int} (h : PI resp i d) (h0 : 5 ≤ i) (h1 : i < (resp.length : Int)) (hq : (Txt.item resp i == Str.ofString "\"") = true) (h2 : ¬ (resp.length : Int) ≤ i + 1) (hq2 : (Txt.item resp (i + 1) != Str.ofString "\"") = true) : d.cps.toList = scan (resp.cps.toList.drop 5) := by
  obtain ⟨c, e, ed⟩ := item_at (by omega) h1
  obtain ⟨c2, e2, ed2⟩ := item_at (x := resp) (i := i + 1) (by omega) (by omega)
  rw [e, one_quote, decide_eq_true_eq] at hq
  rw [e2, one_quote_ne] at hq2
  have hq2 : c2 ≠ 34 := by simpa using hq2
  unfold PI at h
  rw [toNat_succ (by omega)] at ed2
  rw [ed, ed2, hq] at h
  simpa [scan, hq2] using h
theorem PI.end3 {resp d : Str} {i : Int} (h : PI resp i d) (h0 : 5 ≤ i) (h1 : ¬ i < (resp.length : Int)) : d.cps.toList = scan (resp.cps.toList.drop 5) := by
  unfold PI at h
  have : resp.cps.toList.drop i.toNat = [] := by
    apply List.drop_eq_nil_of_le
    show resp.cps.size ≤ _
    have : (resp.length : Int) = (resp.cps.size : Int) := rfl
    omega
  rw [this] at h
  simpa [scan] using h
theorem PI.two {resp d : Str} {i : Int} (h : PI resp i d) (h0 : 5 ≤ i) (hd : (d.length : Int) ≤ i) (h1 : i < (resp.length : Int)) (hq : (Txt.item resp i == Str.ofString "\"") = true) (h2 : ¬ (resp.length : Int) ≤ i + 1) (hq2 : (Txt.item resp (i + 1) != Str.ofString "\"") = false) :
    5 ≤ i + 1 + 1 ∧ i + 1 + 1 ≤ (resp.length : Int) ∧ ((d ++ Txt.item resp i).length : Int) ≤ i + 1 + 1 ∧ PI resp (i + 1 + 1) (d ++ Txt.item resp i) := by
  obtain ⟨c, e, ed⟩ := item_at (by omega) h1
  obtain ⟨c2, e2, ed2⟩ := item_at (x := resp) (i := i + 1) (by omega) (by omega)
  rw [e, one_quote, decide_eq_true_eq] at hq
  rw [e2, one_quote_ne] at hq2
  have hq2 : c2 = 34 := by simpa using hq2
  refine ⟨by omega, by omega, ?_, ?_⟩
  · rw [len_app, e]; simp [Str.length] at hd ⊢; omega
  · unfold PI at h ⊢
    rw [toNat_succ (by omega)] at ed2
    rw [ed, ed2, hq, hq2] at h
    rw [cps_app, e, hq, toNat_succ (by omega), toNat_succ (by omega), ← h]
    simp [scan]
theorem PI.one {resp d : Str} {i : Int} (h : PI resp i d) (h0 : 5 ≤ i) (hd : (d.length : Int) ≤ i) (h1 : i < (resp.length : Int)) (hq : (Txt.item resp i == Str.ofString "\"") = false) :
    5 ≤ i + 1 ∧ i + 1 ≤ (resp.length : Int) ∧ ((d ++ Txt.item resp i).length : Int) ≤ i + 1 ∧ PI resp (i + 1) (d ++ Txt.item resp i) := by
  obtain ⟨c, e, ed⟩ := item_at (by omega) h1
  rw [e, one_quote] at hq
  have hq : c ≠ 34 := by simpa using hq
  refine ⟨by omega, by omega, ?_, ?_⟩
  · rw [len_app, e]; simp [Str.length] at hd ⊢; omega
  · unfold PI at h ⊢
    rw [ed, scan_other hq] at h
    rw [cps_app, e, toNat_succ (by omega), ← h]
    simp
theorem p257_c (prog : Program) (w : World) (mean) (mg mb) (pre : Led) (resp : Str) (t : Tok) (hl : resp.length ≤ 4096) (hl5 : 5 ≤ resp.length) (hs1 : (Txt.slice resp none (some 3) != Str.ofString "257") = false) (hs2 : (Txt.slice resp (some 3) (some 5) != Str.ofString " \"") = false) :
    Spec prog w mean mg mb 157 1 [.str resp t] pre (fun r news' => news' = pre ∧ ∃ t, r = .str ⟨(scan (resp.cps.toList.drop 5)).toArray⟩ t) := by
  intro dp un gd cn cs a ccd cl outer A₀ base h₀ L m s Q E B F X N T hk hd hu hret
  w_top off
  k_with_none
  refine wpAny_call ?_
  k_dflt cell_enter
  (k_with "state" => first | exact PI.start hl5 | exact PI.two (by assumption) (by assumption) (by assumption) (by assumption) (by assumption) (by assumption) (by assumption) | exact PI.one (by assumption) (by assumption) (by assumption) (by assumption) (by assumption))
  (k_with "exec While Compare cons nil" => k_while (fun _ i d => 5 ≤ i ∧ i ≤ (resp.length : Int) ∧ d.length ≤ i ∧ PI resp i d) (fun _ i _ => resp.length - i.toNat) "i" "dirname")
  k_steps
  · have e := str_of (PI.end1 (by assumption) (by assumption) (by assumption) (by assumption) (by assumption))
    subst e
    exact hret _ _ _ _ (by k_asm) (by k_asm) ⟨rfl, _, rfl⟩
  · have e := str_of (PI.end2 (by assumption) (by assumption) (by assumption) (by assumption) (by assumption) (by assumption))
    subst e
    exact hret _ _ _ _ (by k_asm) (by k_asm) ⟨rfl, _, rfl⟩
  · have e := str_of (PI.end3 (by assumption) (by assumption) (by assumption))
    subst e
    exact hret _ _ _ _ (by k_asm) (by k_asm) ⟨rfl, _, rfl⟩
end Mine
end

section
open PySem PySem.W PyProof.Rows
namespace Mine
theorem rowL_step : ∀ n, n < 16 → 1 < n → rowL n = rowL (n / 2) ++ [60 + 2 * (n % 2)] := by decide
def RI (k left : Int) (row : Str) : Prop := rowL left.toNat ++ row.cps.toList = rowL k.toNat
theorem RI.start (k : Int) (h1 : 1 ≤ k) (h2 : k ≤ 15) : 1 ≤ k ∧ k ≤ 15 ∧ ((Str.ofString "").length : Int) + k ≤ 15 ∧ RI k k (Str.ofString "") := ⟨h1, h2, by
  have e : (Str.ofString "").length = 0 := by decide +kernel
  rw [e]; omega, by
  have e : Str.ofString "" = ⟨#[]⟩ := by decide +kernel
  rw [e]; simp [RI]⟩
theorem lg_item (l : Int) : Txt.item (Str.ofString "<>") (l.fmod 2) = ⟨#[60 + 2 * (l.fmod 2).toNat]⟩ := by
  have h : l.fmod 2 = 0 ∨ l.fmod 2 = 1 := by
    rw [Int.fmod_eq_emod_of_nonneg _ (by omega)]; omega
  rcases h with h | h <;> rw [h] <;> decide +kernel
theorem RI.step {k l : Int} {row : Str} (h : RI k l row) (h1 : 1 < l) (h2 : l ≤ 15) (h3 : (row.length : Int) + l ≤ 15) :
    1 ≤ l.fdiv 2 ∧ l.fdiv 2 ≤ 15 ∧ ((Txt.item (Str.ofString "<>") (l.fmod 2) ++ row).length : Int) + l.fdiv 2 ≤ 15 ∧ RI k (l.fdiv 2) (Txt.item (Str.ofString "<>") (l.fmod 2) ++ row) := by
  have hd : l.fdiv 2 = l / 2 := Int.fdiv_eq_ediv_of_nonneg _ (by omega)
  have hm : l.fmod 2 = l % 2 := Int.fmod_eq_emod_of_nonneg _ (by omega)
  rw [len_app, lg_item, hd]
  refine ⟨by omega, by omega, ?_, ?_⟩
  · simp [Str.length] at h3 ⊢; omega
  · unfold RI at h ⊢
    rw [rowL_step l.toNat (by omega) (by omega)] at h
    rw [cps_app, ← h, hm]
    have e1 : (l / 2).toNat = l.toNat / 2 := by omega
    have e2 : (l % 2).toNat = l.toNat % 2 := by omega
    rw [e1, e2]; simp
theorem RI.done {k l : Int} {row : Str} (h : RI k l row) (h1 : 1 ≤ l) (h2 : ¬ 1 < l) : row.cps.toList = rowL k.toNat := by
  have : l = 1 := by omega
  subst this
  simpa [RI, rowL, rowG] using h
theorem row_c (prog : Program) (w : World) (mean) (mg mb) (pre : Led) (k : Int) (t : Tok) (hk1 : 1 ≤ k) (hk2 : k ≤ 15) :
    Spec prog w mean mg mb 181 1 [.int k t] pre (fun r news' => news' = pre ∧ ∃ t, r = .str ⟨(rowL k.toNat).toArray⟩ t) := by
  intro dp un gd cn cs a ccd cl outer A₀ base h₀ L m s Q E B F X N T hk hd hu hret
  w_top off
  k_with_none
  refine wpAny_call ?_
  k_dflt cell_enter
  (k_with "state" => first | exact RI.start k hk1 hk2 | exact RI.step (by assumption) (by assumption) (by assumption) (by assumption))
  (k_with "exec While Compare cons nil" => k_while (fun _ l row => 1 ≤ l ∧ l ≤ 15 ∧ (row.length : Int) + l ≤ 15 ∧ RI k l row) (fun _ l _ => l.toNat) "left" "row")
  (k_with "measure" => ((try dsimp only); rw [Int.fdiv_eq_ediv_of_nonneg _ (by omega)]; omega))
  k_steps
  have e := str_of (RI.done (by assumption) (by assumption) (by assumption))
  subst e
  exact hret _ _ _ _ (by k_asm) (by k_asm) ⟨rfl, _, rfl⟩
end Mine
end

section
open PySem PySem.W PyProof.Rows
namespace Mine
theorem sym_slice {text : Str} {k size : Int} (h0 : 0 ≤ k) (hk : k < (text.length : Int)) (hs : 1 ≤ size) :
    Txt.slice text (some k) (some (k + size)) = ⟨((text.cps.toList.drop k.toNat).take size.toNat).toArray⟩ := by
  rw [slice_is h0 (by omega) (by omega)]
  congr 3
  omega
theorem SzI.first (l : List Nat) : 1 ≤ (3 : Int) ∧ (3 : Int) ≤ 3 ∧ SzI l 3 := ⟨by omega, by omega, SzI.start l⟩
theorem SzI.next {text : Str} {k size : Int} (h0 : 0 ≤ k) (hk : k < (text.length : Int)) (h3 : size ≤ 3) (h : SzI (text.cps.toList.drop k.toNat) size) (h1 : 1 < size) (hn : inE (Txt.slice text (some k) (some (k + size))) = false) :
    1 ≤ size - 1 ∧ size - 1 ≤ 3 ∧ SzI (text.cps.toList.drop k.toNat) (size - 1) := by
  refine ⟨by omega, by omega, h.step h1 ?_⟩
  rw [sym_slice h0 hk (by omega), inE_is] at hn
  simpa using hn
theorem SzI.size1 {l : List Nat} {size : Int} (h : SzI l size) (h1 : ¬ 1 < size) : szOf l = size.toNat := h.done1 h1
theorem SzI.size2 {text : Str} {k size : Int} (h0 : 0 ≤ k) (hk : k < (text.length : Int)) (h : SzI (text.cps.toList.drop k.toNat) size) (h1 : 1 < size) (hn : inE (Txt.slice text (some k) (some (k + size))) = true) :
    szOf (text.cps.toList.drop k.toNat) = size.toNat := by
  rw [sym_slice h0 hk (by omega), inE_is] at hn
  exact h.done2 h1 hn
theorem flat_int {v : Value} {o : Option Int} {e : Int} (h : PyProof.V.Flat v ((o.map PyData.int).getD (PyData.int e))) : ∃ t, v = .int (o.getD e) t := by
  cases o with
  | none => simp only [Option.map_none, Option.getD_none] at h ⊢; have h' := h {}; cases h'; exact ⟨_, rfl⟩
  | some i => simp only [Option.map_some, Option.getD_some] at h ⊢; have h' := h {}; cases h'; exact ⟨_, rfl⟩
def SyI (text : Str) (k : Int) (its : List Int) : Prop := its ++ syms (text.cps.toList.drop k.toNat) = syms text.cps.toList
theorem SyI.start (text : Str) : 0 ≤ (0 : Int) ∧ (0 : Int) ≤ (text.length : Int) + 3 ∧ (([] : List Int).length : Int) ≤ 0 ∧ SyI text 0 [] := ⟨by omega, by omega, by simp, by simp [SyI]⟩
theorem sy_val {text : Str} {k size : Int} {v : Value} (h0 : 0 ≤ k) (hk : k < (text.length : Int)) (hs1 : 1 ≤ size) (hs : szOf (text.cps.toList.drop k.toNat) = size.toNat)
    (hv : PyProof.V.Flat v ((Spec.lookup (PyData.str (Txt.slice text (some k) (some (k + size)))) ettP).getD (PyData.int (256 + (((Txt.item text k).cps.getD 0 0 : Nat) : Int))))) :
    ∃ i t, v = .int i t ∧ ∀ its, SyI text k its → SyI text (k + size) (its ++ [i]) := by
  obtain ⟨c, e, ed⟩ := item_at h0 hk
  rw [sym_slice h0 hk hs1, lookupE, e] at hv
  obtain ⟨t, ht⟩ := flat_int hv
  refine ⟨_, t, ht, fun its hI => ?_⟩
  unfold SyI at hI ⊢
  rw [← hI, List.append_assoc]
  congr 1
  have e2 : (k + size).toNat = k.toNat + szOf (text.cps.toList.drop k.toNat) := by rw [hs]; omega
  rw [e2, ← List.drop_drop]
  rw [ed] at hs ⊢
  rw [syms_cons]
  simp only [List.singleton_append]
  congr 1
  rw [hs]
  simp
theorem symbols_c (prog : Program) (w : World) (mean) (mg mb) (pre : Led) (text : Str) (t : Tok) (hl : text.length ≤ 4096) :
    Spec prog w mean mg mb 222 1 [.str text t] pre (fun r news' => ∃ D vs n, r = .ref D ∧ news' = (D, W.listOf vs.toArray n) :: pre ∧ IntsAre vs (syms text.cps.toList ++ [0]) ∧ (∀ p ∈ pre, p.1 < D)) := by
  intro dp un gd cn cs a ccd cl outer A₀ base h₀ L m s Q E B F X N T hk hd hu hret
  w_top off
  k_with_none
  refine wpAny_call ?_
  k_dflt cell_enter
  (k_with "state" => first | exact SzI.first _ | exact SzI.next (text := text) (by assumption) (by assumption) (by assumption) (by assumption) (by assumption) (by (rename (decide _ || _) = false => hq; exact hq)))
  (k_with "exec While BoolOp cons nil" => k_while (fun _ size => 1 ≤ size ∧ size ≤ 3 ∧ SzI (text.cps.toList.drop k.toNat) size) (fun _ size => size.toNat) "size")
  (k_with "exec While Compare cons nil" => (
    rename Fr _ _ _ _ => lF
    rename News _ _ _ _ => lN
    refine' ksw_while (σ := Int × Tok × List Value × List Int × Nat) (fun c => (_, W.listOf c.2.2.1.toArray c.2.2.2.2) :: pre) (fun c => [(Str.ofString "k", .int c.1 c.2.1)]) (fun c => IntsAre c.2.2.1 c.2.2.2.1) [Str.ofString "size"] (fun c => 0 ≤ c.1 ∧ c.1 ≤ (text.length : Int) + 3 ∧ (c.2.2.2.1.length : Int) ≤ c.1 ∧ SyI text c.1 c.2.2.2.1) (fun c => text.length - c.1.toNat) (0, _, [], [], 0) lF lN .nil ?hk ?hp ?_
    case hp => exact SyI.start text
    case hk => kst_all
    clear lF lN
    rintro ⟨k, kt, vs, its, n⟩ u h2 tk2 hints ⟨hk0, hk1, hk2, hk3⟩ F2 N2
    dsimp only at hints hk0 hk1 hk2 hk3 F2 N2 ⊢
    dsimp only [kstB] at F2
    (try k_fold)))
  k_steps
  · have hlt : k < (text.length : Int) := by assumption
    rename (decide _ || _) = true => hq
    rename PyProof.V.Flat _ _ => hv
    rename News _ _ _ _ => N9
    have hsz := SzI.size2 hk0 hlt (by assumption) (by assumption) hq
    obtain ⟨i, ti, rfl, hi⟩ := sy_val hk0 hlt (by assumption) hsz hv
    (try simp only [List.push_toArray] at N9)
    refine' ksw_end (⟨_, _, vs ++ [.int i ti], its ++ [i], n + 1⟩ : Int × Tok × List Value × List Int × Nat) ?f N9 ?a ?b ?c ?d ?e ?m
    case f => assumption
    case a => exact fun _ h => h
    case b => exact hints.append (.cons _ _ .nil)
    case c => kst_all
    case d => ksw_same
    case e => exact ⟨by dsimp only; omega, by dsimp only; omega, by simp; omega, hi _ hk3⟩
    case m => dsimp only; omega
  · have hlt : k < (text.length : Int) := by assumption
    rename PyProof.V.Flat _ _ => hv
    rename News _ _ _ _ => N9
    rename ¬ 1 < _ => hn1
    have hsz := SzI.size1 (l := text.cps.toList.drop k.toNat) (by assumption) hn1
    obtain ⟨i, ti, rfl, hi⟩ := sy_val hk0 hlt (by assumption) hsz hv
    (try simp only [List.push_toArray] at N9)
    refine' ksw_end (⟨_, _, vs ++ [.int i ti], its ++ [i], n + 1⟩ : Int × Tok × List Value × List Int × Nat) ?f2 N9 ?a2 ?b2 ?c2 ?d2 ?e2 ?m2
    case f2 => assumption
    case a2 => exact fun _ h => h
    case b2 => exact hints.append (.cons _ _ .nil)
    case c2 => kst_all
    case d2 => ksw_same
    case e2 => exact ⟨by dsimp only; omega, by dsimp only; omega, by simp; omega, hi _ hk3⟩
    case m2 => dsimp only; omega
  · rename IntsAre _ (its ++ [0]) => hI9
    rename News _ _ _ _ => N9
    have he : text.cps.toList.drop k.toNat = [] := by
      apply List.drop_eq_nil_of_le
      rw [← len_is]; omega
    have e : its = syms text.cps.toList := by
      unfold SyI at hk3
      rw [he, syms_nil, List.append_nil] at hk3
      exact hk3
    rw [e] at hI9
    refine hret _ _ _ _ (by k_asm) (fun p hp => N9 p ?_) ⟨_, _, 0, rfl, rfl, hI9, ?_⟩
    · rcases List.mem_cons.mp hp with rfl | hp
      · exact .head _
      · exact .tail _ (.tail _ (.tail _ hp))
    · rename _ ∧ _ ∧ AllLt _ pre => hlt9
      exact kst_ltOf hlt9.2.2
end Mine
end

section
open PySem PySem.W PyProof.Rows
namespace Mine
theorem syms_len : ∀ (n : Nat) (l : List Nat), l.length ≤ n → (syms l).length ≤ l.length := by
  intro n
  induction n with
  | zero =>
    intro l h
    have : l = [] := List.length_eq_zero_iff.mp (by omega)
    subst this; simp [syms_nil]
  | succ n ih =>
    intro l h
    cases l with
    | nil => simp [syms_nil]
    | cons c r =>
      rw [syms_cons]
      have hp := szOf_pos (c :: r)
      have hd : ((c :: r).drop (szOf (c :: r))).length ≤ r.length := by rw [List.length_drop]; simp; omega
      have := ih ((c :: r).drop (szOf (c :: r))) (by simp only [List.length_cons] at h; omega)
      simp only [List.length_cons]
      omega
theorem bare_at {x : Int} {c : Nat} (t1 t2 : Tok) (h : (x = 21 ∧ c = 62) ∨ (x = 22 ∧ c = 61)) : ∃ t, valueAt [((21 : Int), Value.str (Str.ofString ">") t1), (22, Value.str (Str.ofString "=") t2)] x = some (.str ⟨#[c]⟩ t) := by
  have e1 : Str.ofString ">" = ⟨#[62]⟩ := by decide +kernel
  have e2 : Str.ofString "=" = ⟨#[61]⟩ := by decide +kernel
  rcases h with ⟨rfl, rfl⟩ | ⟨rfl, rfl⟩
  · exact ⟨t1, by rw [e1]; rfl⟩
  · exact ⟨t2, by rw [e2]; rfl⟩
theorem sign_at {x : Str} {o : List Nat} (t1 t2 t3 : Tok) (h : sgn x.cps.toList = some o) : ∃ t, valueAt [(Str.ofString "lt", Value.str (Str.ofString "<") t1), (Str.ofString "gt", .str (Str.ofString ">") t2), (Str.ofString "quot", .str (Str.ofString "") t3)] x = some (.str ⟨o.toArray⟩ t) := by
  have e1 : Str.ofString ">" = ⟨#[62]⟩ := by decide +kernel
  have e2 : Str.ofString "<" = ⟨#[60]⟩ := by decide +kernel
  have e3 : Str.ofString "" = ⟨#[]⟩ := by decide +kernel
  have k1 : Str.ofString "lt" = ⟨#[108, 116]⟩ := by decide +kernel
  have k2 : Str.ofString "gt" = ⟨#[103, 116]⟩ := by decide +kernel
  have k3 : Str.ofString "quot" = ⟨#[113, 117, 111, 116]⟩ := by decide +kernel
  rw [e1, e2, e3, k1, k2, k3]
  unfold sgn at h
  split at h
  · rename_i e
    rw [str_of e]; cases h
    exact ⟨t1, rfl⟩
  · split at h
    · rename_i e
      rw [str_of e]; cases h
      exact ⟨t2, rfl⟩
    · split at h
      · rename_i e
        rw [str_of e]; cases h
        exact ⟨t3, rfl⟩
      · cases h
theorem sgn_len {w o : List Nat} (h : sgn w = some o) : o.length ≤ 1 := by
  unfold sgn at h
  split at h
  · cases h; simp
  · split at h
    · cases h; simp
    · split at h
      · cases h; simp
      · cases h
theorem UW.first {ns : List Int} {k : Int} {text : Str} {out : List Nat} (hk : 0 ≤ k) (h : UW ns k text ⟨#[]⟩ out) :
    0 ≤ k ∧ k + 1 < (ns.length : Int) ∧ ((Str.ofString "").length : Int) ≤ k ∧ k ≤ k ∧ ns.getD (k + 1).toNat 0 < 384 ∧ UW ns k text (Str.ofString "") out := by
  have hl := h.lt
  have e : Str.ofString "" = ⟨#[]⟩ := by decide +kernel
  rw [e]
  exact ⟨hk, by omega, hk, Int.le_refl _, h.bound, h⟩
theorem UW.next {ns : List Int} {k k₀ : Int} {text word : Str} {out : List Nat} (hk : 0 ≤ k) (hw : (word.length : Int) ≤ k) (h0 : k₀ ≤ k) (h : UW ns k text word out) (hb : 256 ≤ ns.getD (k + 1).toNat 0) :
    0 ≤ k + 1 ∧ k + 1 + 1 < (ns.length : Int) ∧ ((word ++ ⟨#[(ns.getD (k + 1).toNat 0 - 256).toNat]⟩ : Str).length : Int) ≤ k + 1 ∧ k₀ ≤ k + 1 ∧ ns.getD (k + 1 + 1).toNat 0 < 384 ∧ UW ns (k + 1) text (word ++ ⟨#[(ns.getD (k + 1).toNat 0 - 256).toNat]⟩) out := by
  have h' := h.step hk hb
  have hl := h'.lt
  refine ⟨by omega, by omega, ?_, by omega, h'.bound, h'⟩
  rw [len_app]; simp [Str.length] at hw ⊢; omega
theorem UO.word {ns : List Int} {k k₀ : Int} {text : Str} {o out : List Nat} (hk : 0 ≤ k) (h0 : k₀ ≤ k) (ht : (text.length : Int) ≤ k₀) (ho : o.length ≤ 1) (h : UO ns (k + 2) (text ++ ⟨o.toArray⟩) out) :
    0 ≤ k + 2 ∧ k + 2 < (ns.length : Int) ∧ ((text ++ ⟨o.toArray⟩ : Str).length : Int) ≤ k + 2 ∧ UO ns (k + 2) (text ++ ⟨o.toArray⟩) out := by
  have hl := h.lt
  refine ⟨by omega, by omega, ?_, h⟩
  rw [len_app]; simp [Str.length] at ht ⊢; omega
theorem UO.next {ns : List Int} {k : Int} {text : Str} {c : Nat} {out : List Nat} (hk : 0 ≤ k) (ht : (text.length : Int) ≤ k) (h : UO ns (k + 1) (text ++ ⟨#[c]⟩) out) :
    0 ≤ k + 1 ∧ k + 1 < (ns.length : Int) ∧ ((text ++ ⟨#[c]⟩ : Str).length : Int) ≤ k + 1 ∧ UO ns (k + 1) (text ++ ⟨#[c]⟩) out := by
  have hl := h.lt
  refine ⟨by omega, by omega, ?_, h⟩
  rw [len_app]; simp [Str.length] at ht ⊢; omega
theorem UO.first {ns : List Int} {out : List Nat} (h : und none ns = some out) : 0 ≤ (0 : Int) ∧ (0 : Int) < (ns.length : Int) ∧ ((Str.ofString "").length : Int) ≤ 0 ∧ UO ns 0 (Str.ofString "") out := by
  have e : Str.ofString "" = ⟨#[]⟩ := by decide +kernel
  have h' : UO ns 0 ⟨#[]⟩ out := by simp [UO, h]
  have hl := h'.lt
  rw [e]
  refine ⟨by omega, by simpa using hl, by decide, h'⟩
theorem meas1 {n : Nat} {k : Int} (h0 : 0 ≤ k) (h1 : k + 1 < (n : Int)) : n - (k + 1).toNat < n - k.toNat := by omega
theorem meas2 {n : Nat} {k k₀ : Int} (h0 : 0 ≤ k₀) (h : k₀ ≤ k) (h1 : k + 1 < (n : Int)) : n - (k + 2).toNat < n - k₀.toNat := by omega
theorem meas3 {n : Nat} {k : Int} (h0 : 0 ≤ k) (h1 : k < (n : Int)) : n - (k + 1).toNat < n - k.toNat := by omega
theorem undressed_c (prog : Program) (w : World) (mean) (mg mb) (pre : Led) (page : Str) (t : Tok) (out : List Nat) (hl : page.length ≤ 4096) (hout : und none (syms page.cps.toList ++ [0]) = some out) :
    Spec prog w mean mg mb 229 2 [.str page t] pre (fun r news' => news' = pre ∧ ∃ t, r = .str ⟨out.toArray⟩ t) := by
  intro dp un gd cn cs a ccd cl outer A₀ base h₀ L m s Q E B F X N T hk hd hu hret
  w_top off
  k_with_none
  refine wpAny_call ?_
  k_dflt cell_enter
  w_top off
  k_with_none
  (k_with "eval Dict" => ((with_reducible show wpAny _ _ (eval (PySem.Expr.Dict (some (PySem.Expr.Name _ _) :: _) _ _) _) _ _ _); (k_dflt (refine' kdn_eval (knd := PySem.intKind prog w) ?F ?N ?b ?a ?l ?e ?n ?_; (case F => k_asm); (case N => first | k_asm | exact News.nil); (case b => exact Top.nolimit (by k_asm)); (case a => rfl); (case l => rfl); (case e => exact List.cons_ne_nil _ _); (case n => exact Nat.le_of_ble_eq_true rfl))); intro d' h' o' F' N' l1 lo' hd'; (try k_lt l1)))
  (k_with "call ref" => (refine wpAny_call ?_; k_dflt (refine' code_def ?k1 ?k2 ?k3 ?k4 ?k5 ?kA ?kF ?kK ?k6 ?k7 ?k8 ?k9 ?kB ?_ ?c2 ?c3 ?c4 ?c5; (case kA => exact rfl); (case kF => exact rfl); (case kK => exact rfl); (case k1 => k_asm); (case k2 => k_asm); (case k3 => k_asm); (case k4 => k_asm); (case k5 => k_asm); (case k6 => k_is); (case k7 => k_is); (case k8 => ktr_room); (case k9 => exact BindsTo.of_eq rfl); (case c5 => decide); (case kB => exact locs rfl); (case c2 => exact rfl); (case c3 => exact rfl); (case c4 => exact rfl); k_whole; intro g' L' h' FG' F' N' B' X' T'; (try dsimp only); (try k_lift B'); (try k_fold))))
  (k_with "call ref" => ((k_dflt (refine' symbols_c prog w mean mg mb _ page _ hl _ _ _ _ _ _ _ _ _ _ _ _ _ _ _ _ _ ?k1 ?k2 ?k3 ?k4 ?k5 ?kK ?kd ?ku ?_; (case k1 => k_asm); (case k2 => k_asm); (case k3 => k_asm); (case k4 => k_asm); (case k5 => k_asm); (case kK => first | exact rfl | assumption); (case kd => ktr_room); (case ku => ktr_units))); rintro r9 news9 h9 tk9 F9 N9 ⟨D9, vs9, n9, rfl, rfl, hI9, hlt9⟩; (try dsimp only); (try k_fold)))
  (k_with "exec While UnaryOp cons nil" => (
    rename Fr _ _ _ _ => lF
    rename News _ _ _ _ => lN
    rename IntsAre _ _ => hI
    generalize hns : syms page.cps.toList ++ [0] = ns at *
    have hlen := hI.length
    have hnl : ns.length < 2 ^ 62 := by
      have h1 := syms_len _ page.cps.toList (Nat.le_refl _)
      rw [← len_is] at h1
      rw [← hns, List.length_append, List.length_singleton]; omega
    have hnl2 : ns.length ≤ 4097 := by
      have h1 := syms_len _ page.cps.toList (Nat.le_refl _)
      rw [← len_is] at h1
      rw [← hns, List.length_append, List.length_singleton]; omega
    rename Obj.IsDictOf (PySem.intKind _ _) _ (intKeyPairs _) => hB0
    rename Obj.IsDictOf (PySem.strKind _ _) _ (strPairs _) => hS0
    obtain ⟨b1, b2, hB⟩ : ∃ t1 t2, Obj.IsDictOf (PySem.intKind prog w) _ [((21 : Int), Value.str (Str.ofString ">") t1), (22, Value.str (Str.ofString "=") t2)] := ⟨_, _, hB0⟩
    obtain ⟨s1, s2, s3, hS⟩ : ∃ t1 t2 t3, Obj.IsDictOf (PySem.strKind prog w) _ [(Str.ofString "lt", Value.str (Str.ofString "<") t1), (Str.ofString "gt", .str (Str.ofString ">") t2), (Str.ofString "quot", .str (Str.ofString "") t3)] := ⟨_, _, _, hS0⟩
    rename PyProof.V.FlatPairs PyData.int _ _ => hx1
    rename PyProof.V.FlatPairs PyData.str _ _ => hx2
    clear hx1 hx2 hB0 hS0
    refine' ksw_while (σ := Int × Tok × Str × Tok) (fun c => _) (fun c => [(Str.ofString "k", .int c.1 c.2.1), (Str.ofString "text", .str c.2.2.1 c.2.2.2)]) (fun c => True) [Str.ofString "word"] (fun c => 0 ≤ c.1 ∧ c.1 < (ns.length : Int) ∧ (c.2.2.1.length : Int) ≤ c.1 ∧ UO ns c.1 c.2.2.1 out) (fun c => ns.length - c.1.toNat) (0, _, Str.ofString "", _) lF lN trivial ?hk ?hp ?_
    case hp => exact UO.first hout
    case hk => kst_all
    clear lF lN
    rintro ⟨k, kt, text, tt⟩ u h2 tk2 - ⟨hk0, hk1, hk2, hk3⟩ F2 N2
    dsimp only at hk0 hk1 hk2 hk3 F2 N2 ⊢
    dsimp only [kstB] at F2
    (try k_fold)))
  (k_with "subscriptTail" => ((k_dflt (refine' at_ints (ns := ns) ?N ?m ?i ?a ?b ?c ?_; (case N => k_asm); (case m => k_mem); (case i => assumption); (case a => omega); (case b => omega); (case c => assumption))); intro t8; (try dsimp only)))
  (k_with "subscriptTail Name Subscript ref int" => (
    (with_reducible show wpAny _ _ (subscriptTail (PySem.Expr.Name _ _) (PySem.Expr.Subscript _ _ _) (Value.ref _) (Value.int _ _)) _ _ _)
    rename ¬ (_ : Int) = 19 => hne19
    rename ¬ (_ : Int) = 0 => hne0
    obtain ⟨bc, hbc, hbU⟩ := UO.bare hk0 hk3 hne0 hne19
    obtain ⟨btv, hbv⟩ := bare_at b1 b2 hbc
    have hbl : Str.length ⟨#[bc]⟩ ≤ 1 := by simp [Str.length]
    (rename News _ _ _ _ => N9)
    refine' at_dictI N9 ?m ?d ?v ?_
    case d => exact hB
    case v => exact hbv
    case m => k_mem))
  (k_with "exec While Call cons nil" => (
    rename Fr _ _ _ _ => lF
    rename News _ _ _ _ => lN
    rename (_ : Int) = 19 => hamp
    have hW := UO.amp hk0 hk3 hamp
    have hWl := hW.lt
    have hWb := hW.bound
    refine' ksw_while (σ := Int × Tok × Str × Tok) (fun c => _) (fun c => [(Str.ofString "k", .int c.1 c.2.1), (Str.ofString "word", .str c.2.2.1 c.2.2.2)]) (fun c => True) [] (fun c => 0 ≤ c.1 ∧ c.1 + 1 < (ns.length : Int) ∧ (c.2.2.1.length : Int) ≤ c.1 ∧ k ≤ c.1 ∧ ns.getD (c.1 + 1).toNat 0 < 384 ∧ UW ns c.1 text c.2.2.1 out) (fun c => ns.length - c.1.toNat) (k, _, Str.ofString "", _) lF lN trivial ?hk ?hp ?_
    case hp => exact UW.first hk0 hW
    case hk => kst_all
    clear lF lN
    rintro ⟨kk, kkt, word, wt⟩ u h3 tk3 - ⟨hj0, hj1, hj2, hj5, hj3, hj4⟩ F3 N3
    dsimp only at hj0 hj1 hj2 hj3 hj4 hj5 F3 N3 ⊢
    dsimp only [kstB] at F3
    (try k_fold)))
  (k_with "subscriptTail Name Name ref str" => (
    (with_reducible show wpAny _ _ (subscriptTail (PySem.Expr.Name _ _) (PySem.Expr.Name _ _) (Value.ref _) (Value.str _ _)) _ _ _)
    rename ¬ (256 : Int) ≤ _ => hn256
    obtain ⟨so, hso, hsU⟩ := UW.word hj0 hj4 hn256
    obtain ⟨stv, hsv⟩ := sign_at s1 s2 s3 hso
    have hsl : Str.length ⟨so.toArray⟩ ≤ 1 := by simpa [Str.length] using sgn_len hso
    (rename News _ _ _ _ => N9)
    refine' at_dictS N9 ?m ?d ?v ?_
    case d => exact hS
    case v => exact hsv
    case m => k_mem))
  (k_with "KswEnd" => (
    rename News _ _ _ _ => N9
    refine' ksw_end (⟨_, _, _, _⟩ : Int × Tok × Str × Tok) ?f N9 ?a ?b ?c ?d ?e ?m
    case f => assumption
    case a => exact fun _ h => h
    case b => exact trivial
    case c => kst_all
    case d => ksw_same
    case e => first | exact UO.word hj0 hj5 hk2 (sgn_len hso) hsU | exact UO.next hk0 hk2 hbU | exact UW.next hj0 hj2 hj5 hj4 (by assumption)
    case m => first | exact (fun _ => meas2 hk0 hj5 hj1) hso | exact (fun _ => meas3 hk0 hk1) hbU | exact meas1 hj0 hj1))
  k_steps
  rename _ = (0 : Int) => hz
  have e := str_of (UO.done hk3 hz)
  subst e
  rename News _ _ _ _ => N9
  exact hret _ pre _ _ (by k_asm) (fun p hp => N9 p (.tail _ (.tail _ (.tail _ hp)))) ⟨rfl, _, rfl⟩
end Mine
end

section
open PySem PySem.W PyProof.Rows
namespace Mine
theorem runs_at {x : Int} {o : List Nat} (t1 t2 t3 t4 t5 t6 t7 t8 t9 t10 : Tok) (h : runGet x = some o) : ∃ t, valueAt [((20 : Int), Value.str (Str.ofString "<") t1), (29, .str (Str.ofString "<") t2), (33, .str (Str.ofString "<<") t3), (44, .str (Str.ofString "<<") t4), (21, .str (Str.ofString ">") t5), (30, .str (Str.ofString ">") t6), (34, .str (Str.ofString ">>") t7), (45, .str (Str.ofString ">>") t8), (22, .str (Str.ofString "") t9), (0, .str (Str.ofString "") t10)] x = some (.str ⟨o.toArray⟩ t) := by
  have e1 : Str.ofString ">" = ⟨#[62]⟩ := by decide +kernel
  have e2 : Str.ofString "<" = ⟨#[60]⟩ := by decide +kernel
  have e3 : Str.ofString "" = ⟨#[]⟩ := by decide +kernel
  have e4 : Str.ofString ">>" = ⟨#[62, 62]⟩ := by decide +kernel
  have e5 : Str.ofString "<<" = ⟨#[60, 60]⟩ := by decide +kernel
  rw [e1, e2, e3, e4, e5]
  unfold runGet at h
  cases hf : runN.find? fun p => p.1 == x with
  | none => rw [hf] at h; cases h
  | some p =>
    rw [hf] at h; cases h
    have hm := List.mem_of_find?_eq_some hf
    have hx : p.1 = x := by simpa using List.find?_some (p := fun p : Int × List Nat => p.1 == x) hf
    subst hx
    simp only [runN, List.mem_cons, List.not_mem_nil, or_false] at hm
    rcases hm with rfl | rfl | rfl | rfl | rfl | rfl | rfl | rfl | rfl | rfl
    · exact ⟨t1, rfl⟩
    · exact ⟨t2, rfl⟩
    · exact ⟨t3, rfl⟩
    · exact ⟨t4, rfl⟩
    · exact ⟨t5, rfl⟩
    · exact ⟨t6, rfl⟩
    · exact ⟨t7, rfl⟩
    · exact ⟨t8, rfl⟩
    · exact ⟨t9, rfl⟩
    · exact ⟨t10, rfl⟩
def runS (x : Int) : Str := ⟨((runGet x).getD []).toArray⟩
theorem runS_len (x : Int) : (runS x).length ≤ 2 := by
  unfold runS
  cases h : runGet x with
  | none => simp [Str.length]
  | some o => simpa [Str.length] using runGet_len h
theorem runs_sum {ns : List Int} (h : ns.length ≤ 4097) : ((ns.map runS).map fun x => x.length).sum + (ns.map runS).length * 64 ≤ 16777216 := by
  have : ∀ l : List Int, ((l.map runS).map fun x => x.length).sum ≤ 2 * l.length := by
    intro l
    induction l with
    | nil => simp
    | cons a l ih => simp only [List.map_cons, List.sum_cons, List.length_cons]; have := runS_len a; omega
  have h1 := this ns
  rw [List.length_map]
  omega
theorem join_runs (ns : List Int) : Txt.join (Str.ofString "") (ns.map runS) = ⟨(sgns ns).toArray⟩ := by
  have e : Str.ofString "" = ⟨#[]⟩ := by decide +kernel
  rw [e]
  exact join_flat (fun x => (runGet x).getD []) ns
local macro_rules | `(tactic| k_all) => `(tactic| exact off_lt (by assumption) (by omega))
theorem signs_c (prog : Program) (w : World) (mean) (mg mb) (pre : Led) (lD : Addr) (vs : List Value) (ns : List Int) (n : Nat) (hm : (lD, W.listOf vs.toArray n) ∈ pre) (hI : IntsAre vs ns) (hl : ns.length ≤ 4097) (hr : ∀ x ∈ ns, (runGet x).isSome = true) :
    Spec prog w mean mg mb 234 1 [.ref lD] pre (fun r news' => news' = pre ∧ ∃ t, r = .str ⟨(sgns ns).toArray⟩ t) := by
  intro dp un gd cn cs a ccd cl outer A₀ base h₀ L m s Q E B F X N T hk hd hu hret
  w_top off
  k_with_none
  refine wpAny_call ?_
  k_dflt (refine' code_defC ?k1 ?k2 ?k3 ?k4 ?k5 ?kA ?kF ?kK ?k6 ?k7 ?k8 ?k9 ?kB ?kD ?_ ?c2 ?c3 ?c4; (case kA => exact rfl); (case kF => exact rfl); (case kK => assumption); (case k1 => k_asm); (case k2 => k_asm); (case k3 => k_asm); (case k4 => k_asm); (case k5 => k_asm); (case k6 => k_is); (case k7 => k_is); (case k8 => ktr_room); (case k9 => exact BindsTo.of_eq rfl); (case kB => exact rfl); (case kD => decide +kernel); (case c2 => exact rfl); (case c3 => exact rfl); (case c4 => exact rfl); k_whole; intro g' L' h' tk' cells' FG' F' N' Y' B' X' T' l1; (try k_lt l1); k_cells Y'; (try simp only [List.cons_append, List.nil_append] at N'); (try dsimp only); (try k_lift B'); (try k_fold))
  w_top off
  k_with_none
  (k_with "eval Dict" => ((with_reducible show wpAny _ _ (eval (PySem.Expr.Dict (some (PySem.Expr.Name _ _) :: _) _ _) _) _ _ _); (k_dflt (refine' kdn_eval (knd := PySem.intKind prog w) ?F ?N ?b ?a ?l ?e ?n ?_; (case F => k_asm); (case N => first | k_asm | exact News.nil); (case b => exact Top.nolimit (by k_asm)); (case a => rfl); (case l => rfl); (case e => exact List.cons_ne_nil _ _); (case n => exact Nat.le_of_ble_eq_true rfl))); intro d' h' o' F' N' l1 lo' hd'; (try k_lt l1)))
  (k_with "CompSrc" => (
    rename Obj.IsDictOf (PySem.intKind _ _) _ (intKeyPairs _) => hR0
    obtain ⟨t1, t2, t3, t4, t5, t6, t7, t8, t9, t10, hR⟩ : ∃ t1 t2 t3 t4 t5 t6 t7 t8 t9 t10, Obj.IsDictOf (PySem.intKind prog w) _ [((20 : Int), Value.str (Str.ofString "<") t1), (29, .str (Str.ofString "<") t2), (33, .str (Str.ofString "<<") t3), (44, .str (Str.ofString "<<") t4), (21, .str (Str.ofString ">") t5), (30, .str (Str.ofString ">") t6), (34, .str (Str.ofString ">>") t7), (45, .str (Str.ofString ">>") t8), (22, .str (Str.ofString "") t9), (0, .str (Str.ofString "") t10)] := ⟨_, _, _, _, _, _, _, _, _, _, hR0⟩
    rename PyProof.V.FlatPairs PyData.int _ _ => hx1
    clear hx1 hR0
    rename News _ _ _ _ => N9
    refine use_led N9 fun led hled N10 => ?_
    have hmL : (lD, W.listOf vs.toArray n) ∈ led := by rw [hled]; exact List.mem_cons_of_mem _ (List.mem_cons_of_mem _ hm)
    k_dflt (refine' LCg.CompSrc.ledger ?hh ?F N10 ?m ?z ?_)
    case hh => k_dflt (exact rfl)
    case F => k_asm
    case m => k_dflt (exact hmL)
    case z => rw [List.size_toArray, hI.length, sizeLine_eq]; omega
    intro gg
    k_dflt (refine' comp_ind (fun i ys news => news = led ∧ StrsAre ys ((ns.take i).map runS)) ?stp ?fin _ 0 [] led (Nat.zero_add _) ⟨rfl, .nil⟩)
    case' stp =>
      rintro i ys news hi ⟨rfl, hs⟩ v I oI C oC D m₂ h3 tk3 E3 hP hNC hx F3 N3 off3 ne3
      subst hled
      have hi' : i < ns.length := by rw [List.size_toArray, hI.length] at hi; exact hi
      obtain ⟨kt, hkt⟩ := hI.get i ns[i] (by simp [hi'])
      have hv : v = .int ns[i] kt := by
        have hP' : vs[i]? = some v := by simpa using hP
        rw [hkt] at hP'; exact (Option.some.inj hP').symm
      subst hv
      obtain ⟨ro, hro⟩ := Option.isSome_iff_exists.mp (hr ns[i] (List.getElem_mem hi'))
      obtain ⟨rv, hrv⟩ := runs_at t1 t2 t3 t4 t5 t6 t7 t8 t9 t10 hro
      (try k_fold)
    case' fin =>
      rintro ys news ⟨rfl, hs⟩
      rw [List.size_toArray, hI.length, List.take_length] at hs
      subst hled
      unfold LCg.FinE
      intro D3 h3 tk3 F3 N3 off3
      (try k_fold)))
  (k_with "subscriptTail Name Name ref int" => (
    rename News _ _ _ _ => N9
    refine' at_dictI N9 ?m ?d ?v ?_
    case d => exact hR
    case v => exact hrv
    case m => k_mem))
  (k_with "CompEnd" => (
    rename News _ _ _ _ => N9
    refine' LCg.CompEnd.intro ?F N9 _ (fun _ h => h) off3 ?S ⟨rfl, ?J⟩
    case F => assumption
    case S => exact .inr ⟨_, hmL, rfl, _, rfl⟩
    case J =>
      rw [List.take_add_one, List.getElem?_eq_getElem hi', List.map_append]
      refine hs.append' ?_
      have e : runS ns[i] = ⟨ro.toArray⟩ := by simp [runS, hro]
      simp only [Option.toList_some, List.map_cons, List.map_nil, e]
      exact .cons _ _ .nil))
  (k_with "call builtin:str.join" => (
    k_dflt (refine' join_listC (ys := ns.map runS) (News.isList N3 (.head _)) ?S ?a ?b ?_)
    case S => simpa using hs
    case a => decide +kernel
    case b => exact runs_sum hl
    intro tj kj))
  k_steps
  rw [join_runs]
  rename News _ _ _ _ => N9
  exact hret _ pre _ _ (by k_asm) (fun p hp => N9 p (by simp [hp])) ⟨rfl, _, rfl⟩
end Mine
end

section
open PySem PySem.W PyProof.Rows
namespace Mine
theorem qs_len (l : List Nat) : (qs l).length = 2 * l.length := by
  induction l with
  | nil => rfl
  | cons a l ih => simp only [qs, List.flatMap_cons, List.length_append, List.length_cons, List.length_nil] at ih ⊢; omega
theorem last_front (rl : List Nat) (n : Nat) (hn : n = rl.length + 1) : ((List.range n).map fun k => S (qs (rl.take k))).getD (-1 + (((List.range n).map fun k => S (qs (rl.take k))).length : Int)).toNat Str.empty = S (qs rl) := by
  subst hn
  have e : (-1 + (((List.range (rl.length + 1)).map fun k => S (qs (rl.take k))).length : Int)).toNat = rl.length := by simp; omega
  rw [e]
  simp [List.getD]
theorem qs_sum {l : List Nat} (h : l.length ≤ 64) : ((l.map fun c => S [34, c]).map fun x => x.length).sum + (l.map fun c => S [34, c]).length * 64 ≤ 16777216 := by
  have : ∀ l : List Nat, ((l.map fun c => S [34, c]).map fun x => x.length).sum = 2 * l.length := by
    intro l
    induction l with
    | nil => rfl
    | cons a l ih => simp only [List.map_cons, List.sum_cons, List.length_cons, ih, S_len, List.length_nil]; omega
  rw [this, List.length_map]; omega
theorem join_qs (l : List Nat) : Txt.join (Str.ofString "") (l.map fun c => S [34, c]) = S (qs l) := by
  have e : Str.ofString "" = ⟨#[]⟩ := by decide +kernel
  rw [e]
  exact join_flat (fun c => [34, c]) l
theorem qs_step {ys : List Value} {l : List Nat} {j c : Nat} {t : Tok} (hs : StrsAre ys ((l.take j).map fun c => S [34, c])) (hc : (S l).cps[j]? = some c) :
    StrsAre (ys ++ [.str (Str.ofString "\"" ++ ⟨#[c]⟩) t]) ((l.take (j + 1)).map fun c => S [34, c]) := by
  have hc' : l[j]? = some c := by simpa [S] using hc
  rw [List.take_add_one, hc', List.map_append]
  refine hs.append' ?_
  have e : Str.ofString "\"" = S [34] := by decide +kernel
  have e2 : Str.ofString "\"" ++ ⟨#[c]⟩ = S [34, c] := by
    rw [e]; exact S_app [34] [c]
  rw [e2]
  exact .cons _ _ .nil
theorem fr_step {ys : List Value} {l : List Nat} {i : Nat} {t : Tok} (hs : StrsAre ys ((List.range i).map fun k => S (qs (l.take k)))) :
    StrsAre (ys ++ [.str (S (qs (l.take i))) t]) ((List.range (i + 1)).map fun k => S (qs (l.take k))) := by
  rw [List.range_succ, List.map_append]
  exact hs.append' (.cons _ _ .nil)
local macro_rules | `(tactic| walk_at "eval ListComp") => `(tactic| k_extra "my eval ListComp")
local macro_rules | `(tactic| walk_at "pyIter str") => `(tactic| k_extra "my pyIter str")
local macro_rules | `(tactic| walk_at "CompSrc") => `(tactic| k_extra "my CompSrc")
local macro_rules | `(tactic| walk_at "CompEnd") => `(tactic| k_extra "my CompEnd")
local macro_rules | `(tactic| walk_at "subscriptTail") => `(tactic| k_extra "my subscriptTail")
local macro_rules | `(tactic| walk_at "binaryOp Add ref ref") => `(tactic| k_extra "my Add ref ref")
local macro_rules | `(tactic| walk_at "call builtin:str.join") => `(tactic| k_extra "my join")
local macro_rules | `(tactic| walk_at "binaryOp Add str str") => `(tactic| k_extra "my Add str str")
local macro_rules | `(tactic| k_all) => `(tactic| exact off_lt (by assumption) (by omega))
theorem fr_fin {ys : List Value} {l : List Nat} {t : Tok} (hs : StrsAre ys ((List.range (l.length + 1)).map fun k => S (qs (l.take k)))) :
    StrsAre (ys ++ [.str (S (qs l) ++ Str.ofString "\"=") t]) ((frontsF l).map S) := by
  unfold frontsF
  rw [List.map_append, List.map_map]
  refine StrsAre.append' hs ?_
  have e : Str.ofString "\"=" = S [34, 61] := by decide +kernel
  rw [e, S_app]
  exact .cons _ _ .nil
theorem fr_news {h₀ h : Heap} {L a : Addr} {ys : List Value} {v : Value} {x y z : Addr × Obj} {pre : Led}
    (N : News h₀ L h ((a, { cls := Value.type "list", data := Data.seq (ys.toArray.toList ++ #[v].toList).toArray }) :: x :: y :: z :: pre)) :
    News h₀ L h ((a, W.listOf (ys ++ [v]).toArray 0) :: pre) := by
  intro p hp
  rcases List.mem_cons.mp hp with rfl | hp
  · exact N _ (.head _)
  · exact N _ (.tail _ (.tail _ (.tail _ (.tail _ hp))))
theorem fronts_c (prog : Program) (w : World) (mean) (mg mb) (pre : Led) (row : Str) (t : Tok) (hl : row.length ≤ 64) :
    Spec prog w mean mg mb 193 1 [.str row t] pre (fun r news' => ∃ D vs n, r = .ref D ∧ news' = (D, W.listOf vs.toArray n) :: pre ∧ StrsAre vs ((frontsF row.cps.toList).map S) ∧ (∀ p ∈ pre, p.1 < D)) := by
  intro dp un gd cn cs a ccd cl outer A₀ base h₀ L m s Q E B F X N T hk hd hu hret
  w_top off
  k_with_none
  refine wpAny_call ?_
  k_dflt (refine' code_defC ?k1 ?k2 ?k3 ?k4 ?k5 ?kA ?kF ?kK ?k6 ?k7 ?k8 ?k9 ?kB ?kD ?_ ?c2 ?c3 ?c4; (case kA => exact rfl); (case kF => exact rfl); (case kK => assumption); (case k1 => k_asm); (case k2 => k_asm); (case k3 => k_asm); (case k4 => k_asm); (case k5 => k_asm); (case k6 => k_is); (case k7 => k_is); (case k8 => ktr_room); (case k9 => exact BindsTo.of_eq rfl); (case kB => exact rfl); (case kD => decide +kernel); (case c2 => exact rfl); (case c3 => exact rfl); (case c4 => exact rfl); k_whole; intro g' L' h' tk' cells' FG' F' N' Y' B' X' T' l1; (try k_lt l1); k_cells Y'; (try simp only [List.cons_append, List.nil_append] at N'); (try dsimp only); (try k_lift B'); (try k_fold))
  w_top off
  k_with_none
  (k_with "my CompSrc" => k_dflt (
    rename IsRange _ _ _ _ _ _ _ _ => hR
    rename News _ _ _ _ => N9
    refine use_led N9 fun led hled N10 => ?_
    k_dflt (refine' LCg.CompSrc.range (n := ((row.length : Int) + 1 - 0).toNat) ?hh ?F N10 hR ?sm ?hn ?z ?_)
    case hh => k_dflt (exact rfl)
    case F => k_asm
    case sm => exact small_one (by omega) (by omega) (by omega) (by omega)
    case hn => exact rangeSize_nat _ _
    case z => rw [sizeLine_eq]; omega
    intro gg
    k_dflt (refine' comp_ind (fun i ys news => news = led ∧ StrsAre ys ((List.range i).map fun k => S (qs (row.cps.toList.take k)))) ?stp ?fin _ 0 [] led (Nat.zero_add _) ⟨rfl, .nil⟩)
    case' stp =>
      rintro i ys news hi ⟨rfl, hs⟩ v I oI C oC D m₂ h3 tk3 E3 ⟨kt, rfl⟩ hNC hx F3 N3 off3 ne3
      subst hled
      have hi' : i ≤ row.length := by omega
      have hsl : Txt.slice row none (some (0 + (i : Int))) = S (row.cps.toList.take i) := by
        rw [slice_to (by omega) (by omega)]
        simp [S]
      have hsn : (S (row.cps.toList.take i)).length ≤ 64 := by
        rw [S_len, List.length_take]; omega
      (try k_fold)
    case' fin =>
      rintro ys news ⟨rfl, hs⟩
      subst hled
      have hlast := last_front row.cps.toList ((row.length : Int) + 1 - 0).toNat (by rw [← len_is]; omega)
      have hlq : (S (qs row.cps.toList)).length ≤ 128 := by
        rw [S_len, qs_len, ← len_is]; omega
      unfold LCg.FinA
      intro D3 h3 tk3 F3 N3 off3
      (try k_fold)))
  (k_with "my eval ListComp" => k_dflt (
    (with_reducible show wpAny _ _ (eval (PySem.Expr.ListComp _ _ _ _) (compEnvC _ _ _ _)) _ _ _)
    k_dflt (refine' ListComp_G ?F0 ?a ?b ?c ?d ?e ?_)
    case F0 => k_asm
    case a => with_unfolding_all rfl
    case b => decide
    case c => rfl
    case d => decide
    case e => rfl))
  (k_with "my pyIter str" => k_dflt (
    rename News _ _ _ _ => N9
    refine use_led N9 fun led hled N10 => ?_
    k_dflt (refine' src_text ?hh ?F N10 ?z ?_)
    case hh => k_dflt (exact rfl)
    case F => k_asm
    case z => rw [sizeLine_eq]; omega
    intro gg
    k_dflt (refine' comp_ind (fun j ys news => news = led ∧ StrsAre ys (((row.cps.toList.take i).take j).map fun c => S [34, c])) ?stq ?fiq _ 0 [] led (Nat.zero_add _) ⟨rfl, .nil⟩)
    case' stq =>
      rintro j ys2 news hj ⟨rfl, hs2⟩ v I2 oI2 C2 oC2 D2 m₃ h4 tk4 E4 hP2 hNC2 hx2 F4 N4 off4 ne4
      subst hled
      rw [hsl] at hP2
      obtain ⟨c, ct, hc, rfl⟩ := hP2
      (try k_fold)
    case' fiq =>
      rintro ys2 news ⟨rfl, hs2⟩
      rw [hsl, S_len, List.take_length] at hs2
      subst hled
      unfold LCg.FinE
      intro D4 h4 tk4 F4 N4 off4
      (try k_fold)))
  (k_with "my Add str str" => (rw [hlast]))
  (k_with "my join" => k_dflt (
    refine' join_listC (ys := (row.cps.toList.take i).map fun c => S [34, c]) (News.isList N4 (.head _)) ?jS ?ja ?jb ?_
    case jS => simpa using hs2
    case ja => decide +kernel
    case jb => exact qs_sum (by rw [List.length_take]; omega)
    (rw [join_qs])
    intro tj kj))
  (k_with "my CompEnd" => k_dflt (
    rename News _ _ _ _ => N9
    refine' LCg.CompEnd.intro ?cF N9 _ (fun _ h => h) off4 trivial ⟨rfl, ?cJ⟩
    case cF => assumption
    case cJ => exact qs_step hs2 hc))
  (k_with "my CompEnd" => k_dflt (
    rename News _ _ _ _ => N9
    refine' LCg.CompEnd.intro ?cF N9 _ (fun _ h => .tail _ h) off3 trivial ⟨rfl, ?cJ⟩
    case cF => assumption
    case cJ => exact fr_step hs))
  (k_with "my Add ref ref" => k_dflt (
    rename News _ _ _ _ => N9
    have hltp : ∀ p ∈ pre, p.1 < _ := fun p hp => Heap.lt_size (N9 p (.tail _ (.tail _ (.tail _ hp)))).1
    refine' add_arrays ?aF N9 (News.isList N9 (.tail _ (.head _))) (News.isList N9 (.head _)) ?_ ?az
    case aF => assumption
    case az => (have hlen := hs.len_eq; simp at hlen; rw [sizeLine_eq]; simp; omega)
    intro h5 F5 N5
    (try k_fold)))
  k_steps
  all_goals (
    have hlen := hs.len_eq
    have e1 : ((row.length : Int) + 1 - 0).toNat = row.cps.toList.length + 1 := by rw [← len_is]; omega
    rw [e1] at hs
    rename News _ _ _ _ => N9
    exact hret _ _ _ _ (by k_asm) (fr_news N9) ⟨_, _, 0, rfl, rfl, fr_fin hs, hltp⟩)
end Mine
end

section
open PySem PySem.W PyProof.Rows
namespace Mine
local macro_rules | `(tactic| walk_at "call builtin:str.find") => `(tactic| k_extra "my find")
local macro_rules | `(tactic| walk_at "call builtin:str.split") => `(tactic| k_extra "my split")
local macro_rules | `(tactic| walk_at "subscriptTail") => `(tactic| k_extra "my subscriptTail")
local macro_rules | `(tactic| walk_at "call type:int") => `(tactic| k_extra "my int")
abbrev tupO (vs : Array Value) : Obj := { cls := .type "tuple", data := .seq vs }
theorem drop1 {h₀ h : Heap} {L : Addr} {x y : Addr × Obj} {pre : Led} (N : News h₀ L h (x :: y :: pre)) : News h₀ L h (x :: pre) := by
  intro p hp
  rcases List.mem_cons.mp hp with rfl | hp
  · exact N _ (.head _)
  · exact N _ (.tail _ (.tail _ hp))
theorem allLt {D : Addr} : ∀ {pre : Led}, AllLt D pre → ∀ p ∈ pre, p.1 < D
  | [], _ => fun p h => nomatch h
  | q :: l, h => fun p hp => by
    rcases List.mem_cons.mp hp with rfl | hp
    · exact h.1
    · exact allLt h.2 p hp
theorem p229_c (prog : Program) (w : World) (mean) (mg mb) (pre : Led) (resp : Str) (t : Tok) (pa : Addr) (host : Value) (q : Tok) (l e n : Int) (x0 x1 x2 x3 x4 : Str) (hl : resp.length ≤ 64) (h3 : 3 ≤ resp.length)
    (h1 : (Txt.slice resp none (some 3) != Str.ofString "229") = false) (hf1 : (Txt.find resp (Str.ofString "(") : Int) = l) (hl0 : 0 ≤ l) (hf2 : (Txt.find3 resp (Str.ofString ")") (l + 1) : Int) = e) (hle : l + 1 < e) (hel : e < resp.length)
    (hq : (Txt.item resp (l + 1) != Txt.item resp (e - 1)) = false) (hsp : Txt.split (Txt.slice resp (some (l + 1)) (some e)) (Txt.item resp (l + 1)) = [x0, x1, x2, x3, x4]) (hn : PySem.intText? x3 = some n) (hx : x3.length ≤ 640) (hp : (pa, tupO #[host, .int 21 q]) ∈ pre) :
    Spec prog w mean mg mb 150 1 [.str resp t, .ref pa] pre (fun r news' => ∃ D u, r = .ref D ∧ news' = (D, tupO #[host, .int n u]) :: pre ∧ (∀ p ∈ pre, p.1 < D)) := by
  intro dp un gd cn cs a ccd cl outer A₀ base h₀ L m s Q E B F X N T hk hd hu hret
  w_top off
  k_with_none
  refine wpAny_call ?_
  k_dflt cell_enter
  w_top off
  k_with_none
  (k_with "my find" => k_dflt (first | (refine SC.find ?_; rw [hf1]) | (refine SC.find3 ?_; rw [hf2])))
  (k_with "my split" => k_dflt (
    rename Fr _ _ _ _ => lF
    rename News _ _ _ _ => lN
    refine KSpl.split1 (by k_asm) (by k_asm) ?sA ?_ ?sB
    case sA => exact beq_eq_false_iff_ne.mpr (by omega)
    case sB => rw [sizeLine_eq]; omega
    rw [hsp]
    intro D' l' h' k' e' a' F' N' l1
    (try k_lt l1)
    kspl_open e'
    (simp only [strValues, List.map_cons, List.map_nil] at N' a')))
  (k_with "my subscriptTail" => k_dflt (
    (with_reducible show wpAny _ _ (subscriptTail _ _ (.ref pa) _) _ _ _)
    rename News _ _ _ _ => N9
    refine item_tupleT (l := [host, .int 21 q]) (j := 0) (x := host) (News.isTup N9 (.tail _ hp)) (by decide) (by decide) rfl rfl ?_))
  (k_with "my int" => k_dflt (refine KIN.call_text hn hx ?_))
  k_steps
  rename News _ _ _ _ => N9
  rename _ ∧ AllLt _ _ => l9
  exact hret _ ((_, tupO #[host, .int n _]) :: pre) _ _ (by k_asm) (drop1 N9) ⟨_, _, rfl, rfl, allLt l9.2⟩
end Mine
end

section
open PySem PySem.W PyProof.Rows
namespace Mine
local macro_rules | `(tactic| walk_at "eval ListComp") => `(tactic| k_extra "my eval ListComp")
local macro_rules | `(tactic| walk_at "pyIter str") => `(tactic| k_extra "my pyIter str")
local macro_rules | `(tactic| walk_at "CompSrc") => `(tactic| k_extra "my CompSrc")
local macro_rules | `(tactic| walk_at "CompEnd") => `(tactic| k_extra "my CompEnd")
local macro_rules | `(tactic| walk_at "call builtin:str.join") => `(tactic| k_extra "my join")
local macro_rules | `(tactic| walk_at "binaryOp Add str str") => `(tactic| k_extra "my Add str str")
local macro_rules | `(tactic| k_all) => `(tactic| exact off_lt (by assumption) (by omega))
theorem told_c (prog : Program) (w : World) (mean) (mg mb) (pre : Led) (row : Str) (c : Nat) (t t2 : Tok) (wv : Int) (hr : row.length ≤ 16) (hw : (wfold ((KStt.codes row).headD 0) (KStt.codes row)).1 = wv) (hw1 : -1000 ≤ wv) (hw2 : wv ≤ 1000) (num : List Nat) (hnum : Str.ofString (toString (wv.fdiv 16)) = S num) (hnl : num.length ≤ 8) (hP : okPort c num (wv.fdiv 16) = true) :
    Spec prog w mean mg mb 198 2 [.str row t, .str (S [c]) t2] pre (fun r news' => ∃ T F vs k u ts, r = .ref T ∧ news' = (T, tupO #[.ref F, .str (S (scan ((namedL row.cps.toList).drop 5))) ts, .int (wv.fdiv 16) u]) :: (F, W.listOf vs.toArray k) :: pre ∧ StrsAre vs ((toldF row.cps.toList).map S)) := by
  intro dp un gd cn cs a ccd cl outer A₀ base h₀ L m s Q E B F X N T hk hd hu hret
  w_top off
  k_with_none
  refine wpAny_call ?_
  k_dflt (refine' code_defC ?k1 ?k2 ?k3 ?k4 ?k5 ?kA ?kF ?kK ?k6 ?k7 ?k8 ?k9 ?kB ?kD ?_ ?c2 ?c3 ?c4; (case kA => exact rfl); (case kF => exact rfl); (case kK => assumption); (case k1 => k_asm); (case k2 => k_asm); (case k3 => k_asm); (case k4 => k_asm); (case k5 => k_asm); (case k6 => k_is); (case k7 => k_is); (case k8 => ktr_room); (case k9 => exact BindsTo.of_eq rfl); (case kB => exact rfl); (case kD => decide +kernel); (case c2 => exact rfl); (case c3 => exact rfl); (case c4 => exact rfl); k_whole; intro g' L' h' tk' cells' FG' F' N' Y' B' X' T' l1; (try k_lt l1); k_cells Y'; (try simp only [List.cons_append, List.nil_append] at N'); (try dsimp only); (try k_lift B'); (try k_fold))
  w_top off
  k_with_none
  have hc3 : (S [c, c, c]).length ≤ 3 := by rw [S_len]; exact Nat.le_refl _
  obtain ⟨nm, hnm⟩ : ∃ nm, nm = S (namedL row.cps.toList) := ⟨_, rfl⟩
  have hnn : nm.length = 3 * row.length + 17 := by rw [hnm, S_len, namedL_len, ← len_is]
  have hnl2 : (S num).length ≤ 8 := by rw [S_len]; exact hnl
  obtain ⟨hP1, hP2, hP3, hP4, hP5, hP6⟩ := okPort_all hP
  have hpl := portL_len c num
  have hc1 : (S [c]).length = 1 := by rw [S_len]; rfl
  (k_with "my eval ListComp" => k_dflt (
    k_dflt (refine' ListComp_G ?F0 ?a ?b ?c ?d ?e ?_)
    case F0 => k_asm
    case a => with_unfolding_all rfl
    case b => decide
    case c => rfl
    case d => decide
    case e => rfl))
  (k_with "my pyIter str" => k_dflt (
    (rw [row_eq])
    rename News _ _ _ _ => N9
    refine use_led N9 fun led hled N10 => ?_
    k_dflt (refine' src_text ?hh ?F N10 ?z ?_)
    case hh => k_dflt (exact rfl)
    case F => k_asm
    case z => rw [sizeLine_eq, S_len, List.length_append, ← len_is, List.length_singleton]; omega
    intro gg
    k_dflt (refine' comp_ind (fun j ys news => news = led ∧ StrsAre ys (((row.cps.toList ++ [61]).take j).map fun c => S [34, 34, c])) ?stq ?fiq _ 0 [] led (Nat.zero_add _) ⟨rfl, .nil⟩)
    case' stq =>
      rintro j ys2 news hj ⟨rfl, hs2⟩ v I2 oI2 C2 oC2 D2 m₃ h4 tk4 E4 hP2 hNC2 hx2 F4 N4 off4 ne4
      subst hled
      obtain ⟨c, ct, hc, rfl⟩ := hP2
      (try k_fold)
    case' fiq =>
      rintro ys2 news ⟨rfl, hs2⟩
      rw [S_len, List.take_length] at hs2
      subst hled
      have hqlen : (S (qqs (row.cps.toList ++ [61]))).length ≤ 51 := by
        rw [S_len, qqs_len, List.length_append, ← len_is, List.length_singleton]; omega
      unfold LCg.FinE
      intro D4 h4 tk4 F4 N4 off4
      have neD := off4.1
      (try dsimp only at neD)
      (try k_fold)))
  (k_with "my join" => k_dflt (
    refine' join_listC (ys := (row.cps.toList ++ [61]).map fun c => S [34, 34, c]) (News.isList N4 (.head _)) ?jS ?ja ?jb ?_
    case jS => simpa using hs2
    case ja => decide +kernel
    case jb => exact qqs_sum (by rw [List.length_append, ← len_is, List.length_singleton]; omega)
    (rw [join_qqs])
    intro tj kj))
  (k_with "my CompEnd" => k_dflt (
    rename News _ _ _ _ => N9
    refine' LCg.CompEnd.intro ?cF N9 _ (fun _ h => h) off4 trivial ⟨rfl, ?cJ⟩
    case cF => assumption
    case cJ => exact qqs_step hs2 hc))
  (k_with "my Add str str" => (rw [named_eq]))
  (k_with "my Add str str" => (rw [mul3]))
  (k_with "my Add str str" => (rw [hnum]))
  (k_with "call ref" => ((k_dflt (refine' worth_c prog w mean mg mb _ row _ _ _ _ _ _ _ _ _ _ _ _ _ _ _ _ _ _ ?k1 ?k2 ?k3 ?k4 ?k5 ?kK ?kd ?ku ?_; (case k1 => k_asm); (case k2 => k_asm); (case k3 => k_asm); (case k4 => k_asm); (case k5 => k_asm); (case kK => first | exact rfl | assumption); (case kd => ktr_room); (case ku => ktr_units))); rintro r9 news9 h9 tk9 F9 N9 ⟨rfl, t9, rfl⟩; (try rw [hw]); (try dsimp only); (try k_fold)))
  (k_with "call ref" => ((k_dflt ((try rw [ported_eq]); (refine' p229_c prog w mean mg mb _ (S (portL c num)) _ _ _ _ 4 (9 + num.length : Nat) (wv.fdiv 16) _ _ _ _ _ (by omega) (by omega) hP1 hP2 (by decide) hP3 (by omega) (by omega) hP4 hP5 hP6 (by omega) ?kp _ _ _ _ _ _ _ _ _ _ _ _ _ _ _ _ _ ?k1 ?k2 ?k3 ?k4 ?k5 ?kK ?kd ?ku ?_; (case k4 => k_asm); (case kp => k_mem); (case k1 => k_asm); (case k2 => k_asm); (case k3 => k_asm); (case k5 => k_asm); (case kK => first | exact rfl | assumption); (case kd => ktr_room); (case ku => ktr_units)))); rintro r8 news8 h8 tk8 F8 N8 ⟨D8, u8, rfl, rfl, hlt8⟩; (have l8 := PySem.W.allLt_of hlt8); (clear hlt8); (simp only [PySem.W.AllLt] at l8); (try rw [named_eq, ← hnm] at N8); (try dsimp only); (try k_fold)))
  (k_with "my CompSrc" => k_dflt (
    rename IsRange _ _ _ _ _ _ _ _ => hR
    rename News _ _ _ _ => N9
    refine use_led N9 fun led hled N10 => ?_
    k_dflt (refine' LCg.CompSrc.range (n := ((row.length : Int) + 1 - 0).toNat) ?hh ?F N10 hR ?sm ?hn ?z ?_)
    case hh => k_dflt (exact rfl)
    case F => k_asm
    case sm => exact small_one (by omega) (by omega) (by omega) (by omega)
    case hn => exact rangeSize_nat _ _
    case z => rw [sizeLine_eq]; omega
    intro gg
    k_dflt (refine' comp_ind (fun i ys news => news = led ∧ StrsAre ys (((List.range i).map fun k => scan ((cutL row.cps.toList k).drop 5)).map S)) ?stp ?fin _ 0 [] led (Nat.zero_add _) ⟨rfl, .nil⟩)
    case' stp =>
      rintro i ys3 news hi ⟨rfl, hs3⟩ v I oI C oC D m₂ h3 tk3 E3 ⟨kt, rfl⟩ hNC hx F3 N3 off3 ne3
      have e0 : (0 + (i : Int)) = (i : Int) := by omega
      rw [e0] at hx
      subst hled
      have hi' : i ≤ row.cps.toList.length := by rw [← len_is]; omega
      have hi2 : i ≤ 16 := by omega
      have hcl : (S (cutL row.cps.toList i)).length ≤ 200 := by
        have := cutL_len row.cps.toList i
        rw [← len_is] at this
        rw [S_len]; omega
      have hok := ok257_cut row.cps.toList i
      have hcut := cut_eq hi'
      rw [← hnm] at hcut
      (try k_fold)
    case' fin =>
      rintro ys3 news ⟨rfl, hs3⟩
      subst hled
      unfold LCg.FinA
      intro D3 h3 tk3 F3 N3 off3
      (try k_fold)))
  (k_with "my Add str str" => k_dflt ((with_reducible show wpAny _ _ (binaryOp _ (Value.str (Txt.slice _ _ _) _) _) _ _ _); refine add_to 200 hcut hcl (by decide) ?_; intro _ _))
  (k_with "call ref" => ((k_dflt ((try rw [hcut]); (refine' p257_c prog w mean mg mb _ (S (cutL row.cps.toList i)) _ (by omega) (ok257_len hok) (ok257_a hok) (ok257_b hok) _ _ _ _ _ _ _ _ _ _ _ _ _ _ _ _ _ ?k1 ?k2 ?k3 ?k4 ?k5 ?kK ?kd ?ku ?_; (case k1 => k_asm); (case k2 => k_asm); (case k3 => k_asm); (case k4 => k_asm); (case k5 => k_asm); (case kK => first | exact rfl | assumption); (case kd => ktr_room); (case ku => ktr_units)))); rintro r7 news7 h7 tk7 F7 N7 ⟨rfl, t7, rfl⟩; (try dsimp only); (try k_fold)))
  (k_with "call ref" => ((with_reducible show wpAny _ _ (call (Value.ref _) [Value.str nm _]) _ _ _); k_dflt (subst hnm; refine' p257_c prog w mean mg mb _ (S (namedL row.cps.toList)) _ (by omega) (ok257_len (ok257_named _)) (ok257_a (ok257_named _)) (ok257_b (ok257_named _)) _ _ _ _ _ _ _ _ _ _ _ _ _ _ _ _ _ ?k1 ?k2 ?k3 ?k4 ?k5 ?kK ?kd ?ku ?_; (case k1 => k_asm); (case k2 => k_asm); (case k3 => k_asm); (case k4 => k_asm); (case k5 => k_asm); (case kK => first | exact rfl | assumption); (case kd => ktr_room); (case ku => ktr_units)); rintro r6 news6 h6 tk6 F6 N6 ⟨rfl, t6, rfl⟩; (try dsimp only); (try k_fold)))
  (k_with "my CompEnd" => k_dflt (
    rename News _ _ _ _ => N9
    refine' LCg.CompEnd.intro ?cF N9 _ (fun _ h => h) off3 trivial ⟨rfl, ?cJ⟩
    case cF => assumption
    case cJ => exact told_step hs3))
  k_steps
  rename News h₀ L _ _ => kN
  refine hret _ ((_, _) :: (_, LCg.lst ys3) :: pre) _ _ (by k_asm) (fun p hp => ?_) ⟨_, D3, ys3, ys3.length, u8, t6, rfl, rfl, told_fin (by rw [← len_is]; omega) hs3⟩
  rcases List.mem_cons.mp hp with rfl | hp
  · rw [← S_cps (namedL row.cps.toList)]; exact kN _ (.head _)
  · rcases List.mem_cons.mp hp with rfl | hp
    · exact kN (D3, LCg.lst ys3) (.tail _ (.head _))
    · exact kN _ (List.mem_cons_of_mem _ (List.mem_cons_of_mem _ (List.mem_cons_of_mem _ (List.mem_cons_of_mem _ (List.mem_cons_of_mem _ (List.mem_cons_of_mem _ hp))))))
end Mine
end

section
open PySem PySem.W PyProof.Rows
namespace Mine
theorem in_lit {prog : Program} {w : World} {A : Around} {E : Value → Shared → Prop} {s : Shared} {y : Str} {t u : Tok} {Q : Value → Shared → Prop} {l : List Nat} (c : Nat) (b : Bool) (hy : y = S [c]) (hb : decide (c ∈ l) = b) (h : Q (.bool b) s) : wpAny (model prog w) A (compareOp .In (.str y u) (.str (S l) t)) Q E s := by
  subst hy
  refine in_str ?_
  rw [in_one, hb]; exact h
theorem repl_to {prog : Program} {w : World} {A : Around} {E : Value → Shared → Prop} {s : Shared} {y z : Str} {t u v : Tok} {Q : Value → Shared → Prop} {l : List Nat} (c : Nat) (zl : List Nat) (hy : y = S [c]) (hz : z = S zl) (hyz : (y == z) = false)
    (n : Nat) (hu : u = n + 1) (hv : v = n + 2) (hl : l.length ≤ 4096) (hzl : zl.length ≤ 14) (h : ∀ t' tk, Q (.str (S (sub1 c zl l)) t') { s with toks := tk }) : wpAny (model prog w) A (call (.builtin "str.replace") [.str (S l) t, .str y u, .str z v]) Q E s := by
  subst hy; subst hz
  have h1 : ¬ (n + 1 = 0) := by omega
  have h2 : ¬ (n + 2 = 0) := by omega
  have h3 : ¬ (n + 1 = n + 2) := by omega
  refine SC.replaceW (by rw [hu]; exact h1) (by rw [hv]; exact h2) (by rw [hu, hv]; exact h3) hyz (by rw [S_len]; omega) (by rw [S_len]; exact hzl) ?_
  rw [replace_sub]; exact h
theorem toks_gen {M : Model} {A : Around} {α : Type} {t : Sem α} {Q : α → Shared → Prop} {E : Value → Shared → Prop} {s : Shared} (h0 : 0 < s.toks) (h : ∀ tk, 0 < tk → wpAny M A t Q E { s with toks := tk }) : wpAny M A t Q E s := h s.toks h0
local macro_rules | `(tactic| walk_at "compareOp In str str") => `(tactic| k_extra "my In")
local macro_rules | `(tactic| walk_at "execs nil") => `(tactic| ((with_reducible refine wpAny_execs_nil ?_); try dsimp only))
local macro_rules | `(tactic| walk_at "execs cons") => `(tactic| ((with_reducible refine wpAny_execs_cons ?_); try dsimp only))
local macro_rules | `(tactic| walk_at "call builtin:str.replace") => `(tactic| k_extra "my replace")
theorem escape_c (prog : Program) (w : World) (mean) (mg mb) (pre : Led) (l : List Nat) (t : Tok) (hl : l.length ≤ 100) (hc : RowC l) (h34 : 34 ∈ l) :
    Spec prog w mean mg mb 106 1 [.str (S l) t] pre (fun r news' => news' = pre ∧ ∃ t, r = .str (S (esc l)) t) := by
  intro dp un gd cn cs a ccd cl outer A₀ base h₀ L m s Q E B F X N T hk hd hu hret
  w_top off
  k_with_none
  have n38 : decide (38 ∈ l) = false := decide_eq_false (amp_not hc)
  have n9 : decide (9 ∈ esc l) = false := decide_eq_false (not_in_esc hc (by decide))
  have n10 : decide (10 ∈ esc l) = false := decide_eq_false (not_in_esc hc (by decide))
  have n13 : decide (13 ∈ esc l) = false := decide_eq_false (not_in_esc hc (by decide))
  have m34 : decide (34 ∈ sub1 60 [38, 108, 116, 59] l) = true := decide_eq_true (sub1_mem (by decide) h34)
  have hsl : (sub1 60 [38, 108, 116, 59] l).length ≤ 500 := by
    have := sub1_len 60 [38, 108, 116, 59] l
    have e : ([38, 108, 116, 59] : List Nat).length + 1 = 5 := rfl
    rw [e] at this; omega
  rw [← esc_two] at n9 n10 n13
  rw [← esc_two] at hret
  by_cases m60 : decide (60 ∈ l) = true
  all_goals (try (have m60 := eq_false_of_ne_true m60); try (have e60 := sub1_free [38, 108, 116, 59] (of_decide_eq_false m60); rw [e60] at n9 n10 n13 hret m34))
  all_goals (refine wpAny_call ?_; k_dflt cell_enter)
  all_goals (k_with "my In" => k_dflt (first
    | exact in_lit 38 false (by decide +kernel) n38 ‹_›
    | (refine in_lit 38 false (by decide +kernel) n38 ?_)
    | (refine in_lit 60 _ (by decide +kernel) m60 ?_)
    | (refine in_lit 34 true (by decide +kernel) m34 ?_)
    | (refine in_lit 9 false (by decide +kernel) n9 ?_)
    | (refine in_lit 10 false (by decide +kernel) n10 ?_)
    | (refine in_lit 13 false (by decide +kernel) n13 ?_)))
  all_goals (k_with "my replace" => k_dflt (first
    | (refine repl_to 60 [38, 108, 116, 59] (by decide +kernel) (by decide +kernel) (by decide +kernel) _ rfl rfl (by omega) (by decide) ?_; intro _ _)
    | (refine repl_to 34 [38, 113, 117, 111, 116, 59] (by decide +kernel) (by decide +kernel) (by decide +kernel) _ rfl rfl (by omega) (by decide) ?_; intro _ _)))
  all_goals (k_dflt (refine toks_gen (Nat.add_pos_right _ (Nat.zero_lt_succ 0)) ?_); intro tk0 htk0; try dsimp only)
  all_goals k_steps
  all_goals (exact hret _ _ _ _ (by k_asm) (by k_asm) ⟨rfl, _, rfl⟩)
end Mine
end

section
open PySem PySem.W PyProof.Rows
namespace Mine
theorem name_row {x y : Str} {l : List Nat} (hx : x = S l) (hy : y = S [34, 61]) : x ++ y = S (l ++ [34, 61]) := by
  subst hx; subst hy; exact S_app _ _
theorem notin_kvs {prog : Program} {w : World} {A : Around} {E : Value → Shared → Prop} {s : Shared} {h₀ : Heap} {L d : Addr} {news : List (Addr × Obj)} {o : Obj} {kvs : List (Str × Value)} {x : Str} {u : Tok} {Q : Value → Shared → Prop} (b : Bool)
    (N : News h₀ L s.heap news) (hm : (d, o) ∈ news) (hd : o.IsDictOf (PySem.strKind prog w) kvs) (lo : (d == sysModules) = false) (hb : (valueAt kvs x).isSome = b) (h : Q (.bool !b) { s with toks := s.toks + 1 }) :
    wpAny (model prog w) A (compareOp .NotIn (.str x u) (.ref d)) Q E s :=
  wpAny_notIn_of (strKind_is _ _ _ _) lo (kda_dict N hm hd).mapOf (by rw [hb]; exact h)
local macro_rules | `(tactic| walk_at "binaryOp Add str str") => `(tactic| k_extra "my Add str str")
local macro_rules | `(tactic| walk_at "compareOp NotIn str ref") => `(tactic| k_extra "my NotIn")
local macro_rules | `(tactic| walk_at "setItem ref str") => `(tactic| k_extra "my setItem")
local macro_rules | `(tactic| k_all) => `(tactic| assumption)
local macro_rules | `(tactic| walk_at "subscriptTail") => `(tactic| k_extra "my subscriptTail")
theorem name_has (prog : Program) (w : World) (mean) (mg mb) (pre : Led) (row : Str) (t : Tok) (d : Addr) (o : Obj) (kvs : List (Str × Value)) (v : Value) (hm : (d, o) ∈ pre) (ho : o.IsDictOf (PySem.strKind prog w) kvs) (lo : (d == sysModules) = false) (hv : valueAt kvs row = some v) :
    Spec prog w mean mg mb 205 4 [.str row t, .ref d] pre (fun r news' => news' = pre ∧ r = v) := by
  intro dp un gd cn cs a ccd cl outer A₀ base h₀ L m s Q E B F X N T hk hd hu hret
  w_top off
  k_with_none
  refine wpAny_call ?_
  k_dflt cell_enter
  (k_with "my NotIn" => k_dflt (refine notin_kvs true (by k_asm) hm ho lo (by rw [hv]; rfl) ?_))
  (k_with "my subscriptTail" => k_dflt (refine at_dictS (by k_asm) hm ho hv ?_))
  k_steps
  exact hret _ _ _ _ (by k_asm) (by k_asm) ⟨rfl, rfl⟩
theorem name_new (prog : Program) (w : World) (mean) (mg mb) (pre : Led) (l : List Nat) (t : Tok) (d : Addr) (o : Obj) (kvs : List (Str × Value)) (ho : o.IsDictOf (PySem.strKind prog w) kvs) (lo : (d == sysModules) = false) (hv : valueAt kvs (S l) = none)
    (hpre : ∀ p ∈ pre, p.1 ≠ d) (hl : l.length ≤ 90) (hc : RowC l) (hkl : kvs.length ≤ 1000) :
    Spec prog w mean mg mb 205 4 [.str (S l) t, .ref d] ((d, o) :: pre) (fun r news' => ∃ q o' own, r = .ref q ∧ news' = (d, o') :: (own ++ pre) ∧ o'.IsDictOf (PySem.strKind prog w) (stored kvs (S l) (.ref q)) ∧ (∀ p ∈ own, d < p.1 ∧ ∀ q ∈ pre, q.1 < p.1) ∧ QAt w own q (nmL l)) := by
  intro dp un gd cn cs a ccd cl outer A₀ base h₀ L m s Q E B F X N T hk hd hu hret
  w_top off
  k_with_none
  have hc2 : RowC (l ++ [34, 61]) := by
    intro c h
    rcases List.mem_append.mp h with h | h
    · exact hc c h
    · simp at h; omega
  have hl2 : (S (l ++ [34, 61])).length ≤ 92 := by rw [S_len]; simp; omega
  have e34 : Str.ofString "\"=" = S [34, 61] := by decide +kernel
  refine wpAny_call ?_
  k_dflt cell_enter
  (k_with "my NotIn" => k_dflt (refine notin_kvs false (by k_asm) (.head _) ho lo (by rw [hv]; rfl) ?_))
  have e35 : S l ++ Str.ofString "\"=" = S (l ++ [34, 61]) := name_row rfl e34
  (k_with "my Add str str" => k_dflt (refine add_to 92 e35 hl2 (by decide) ?_; intro _ _))
  (k_with "call ref" => ((k_dflt (refine' escape_c prog w mean mg mb _ (l ++ [34, 61]) _ (by rw [S_len] at hl2; omega) hc2 (by simp) _ _ _ _ _ _ _ _ _ _ _ _ _ _ _ _ _ ?k1 ?k2 ?k3 ?k4 ?k5 ?kK ?kd ?ku ?_; (case k1 => k_asm); (case k2 => k_asm); (case k3 => k_asm); (case k4 => k_asm); (case k5 => k_asm); (case kK => first | exact rfl | assumption); (case kd => ktr_room); (case ku => ktr_units))); rintro r9 news9 h9 tk9 F9 N9 ⟨rfl, t9, rfl⟩; (try dsimp only); (try k_fold)))
  (k_with "call ref" => ((with_reducible show wpAny _ _ (call (Value.ref 88) _) _ _ _); k_dflt (refine' call_cls ?k1 ?k2 ?k3 ?k4 ?k5 ?k6 ?_; (case k1 => k_asm); (case k2 => k_asm); (case k3 => k_asm); (case k4 => k_is); (case k5 => k_is); (case k6 => k_is); k_whole; intro x' d' h' F' N' l1 l2; (try k_lt l1); (try k_lt2 l2); (try k_sweep)); k_dflt (refine' code_def ?k1 ?k2 ?k3 ?k4 ?k5 ?kA ?kF ?kK ?k6 ?k7 ?k8 ?k9 ?kB ?_ ?c2 ?c3 ?c4 ?c5; (case kA => exact rfl); (case kF => exact rfl); (case kK => first | exact rfl | assumption); (case k1 => k_asm); (case k2 => k_asm); (case k3 => k_asm); (case k4 => k_asm); (case k5 => k_asm); (case k6 => k_is); (case k7 => k_is); (case k8 => ktr_room); (case k9 => first | exact BindsTo.of_eq rfl | exact binds_K (by k_in) rfl (by k_is) rfl rfl rfl); (case c5 => decide); (case kB => exact locs rfl); (case c2 => exact rfl); (case c3 => exact rfl); (case c4 => exact rfl); k_whole; intro g' L' h' FG' F' N' B' X' T'; (try dsimp only); (try k_lift B'); (try k_fold))))
  (k_with "my setItem" => (k_dflt (refine' kda_set (knd := PySem.strKind prog w) ?F ?N ?U ho (strKind_is _ _ _ _) ?z ?_; (case F => k_asm); (case N => k_asm); (case U => k_updF); (case z => rw [sizeLine_eq]; omega)); intro h5 o5 F5 N5 hd5; (try dsimp only at N5); (try k_fold)))
  (k_with "my subscriptTail" => k_dflt (refine at_dictS N5 (by k_mem) hd5 (valueAt_new hv) ?_))
  k_steps
  rename News h₀ L _ _ => kN0
  obtain ⟨k9, kN⟩ : ∃ k9, News h₀ L h5 ((x', instObj 88 d') :: (d', qTxt w k9 t9 (nmL l)) :: (d, o5) :: pre) := ⟨_, kN0⟩
  clear kN0
  refine hret _ ((d, o5) :: ([(x', instObj 88 d'), (d', qTxt w k9 t9 (nmL l))] ++ pre)) _ _ (by k_asm) (fun p hp => kN p ?_) ⟨x', o5, _, rfl, rfl, hd5, ?_, d', k9, t9, .head _, .tail _ (.head _)⟩
  · rcases List.mem_cons.mp hp with rfl | hp
    · exact .tail _ (.tail _ (.head _))
    · rcases List.mem_append.mp hp with hp | hp
      · rcases List.mem_cons.mp hp with rfl | hp
        · exact .head _
        · rw [List.mem_singleton.mp hp]; exact .tail _ (.head _)
      · exact .tail _ (.tail _ (.tail _ hp))
  · rename _ ∧ AllLt _ pre => l1
    rename @LT.lt Nat _ _ _ => l2
    have hlt := kst_ltOf l1.2
    intro p hp
    rcases List.mem_cons.mp hp with rfl | hp
    · exact ⟨Nat.lt_trans l1.1 l2, fun q hq => Nat.lt_trans (hlt q hq) l2⟩
    · rw [List.mem_singleton.mp hp]; exact ⟨l1.1, hlt⟩
theorem name_c (prog : Program) (w : World) (mean) (mg mb) (pre led : Led) (l : List Nat) (t : Tok) (d : Addr) (o : Obj) (kvs : List (Str × Value)) (hsub : ∀ p ∈ led, p ∈ pre) (hoff : ∀ p ∈ pre, p.1 ≠ d) (NN : Names prog w d o kvs led) (hl : l.length ≤ 90) (hc : RowC l) (hkl : kvs.length ≤ 1000) :
    Spec prog w mean mg mb 205 4 [.str (S l) t, .ref d] ((d, o) :: pre) (fun r news' => ∃ q o' kvs' own, r = .ref q ∧ news' = (d, o') :: (own ++ pre) ∧ Grown prog w d kvs led 1 o' kvs' own ∧ (∀ p ∈ own, d < p.1 ∧ ∀ q ∈ pre, q.1 < p.1) ∧ QAt w (own ++ led) q (nmL l) ∧ valueAt kvs' (S l) = some (.ref q)) := by
  cases hv : valueAt kvs (S l) with
  | some v =>
    obtain ⟨l', q, e1, rfl, hq⟩ := NN.has _ _ hv
    cases S_inj e1
    refine (name_has prog w mean mg mb _ (S l) t d o kvs (.ref q) (.head _) NN.dict NN.low hv).mono ?_
    rintro r news ⟨rfl, rfl⟩
    exact ⟨q, o, kvs, [], rfl, rfl, Grown.refl NN 1, fun _ h => (nomatch h), hq, hv⟩
  | none =>
    refine (name_new prog w mean mg mb pre l t d o kvs NN.dict NN.low hv hoff hl hc hkl).mono ?_
    rintro r news ⟨q, o', own, rfl, rfl, hd, hown, hq⟩
    refine ⟨q, o', _, own, rfl, rfl, ⟨NN.grow hv hd (fun p hp => Nat.ne_of_gt (hown p hp).1) hq, fun p hp => ⟨(hown p hp).1, fun q hq => (hown p hp).2 q (hsub q hq)⟩, fun x u h => valueAt_keep hv h, stored_length_le _ _ _⟩, hown, hq.mono fun p hp => List.mem_append_left _ hp, valueAt_new hv⟩
end Mine
end

section
open PySem PySem.W PyProof.Rows
namespace Mine
theorem le_c (prog : Program) (w : World) (mean) (mg mb) (pre : Led) (qa qb da db : Addr) (k1 k2 t1 t2 : Tok) (x y : List Nat) :
    SpecT prog w mean mg mb (compareOp .LtE (.ref qa) (.ref qb)) 4 ((qa, instObj 88 da) :: (da, qTxt w k1 t1 x) :: (qb, instObj 88 db) :: (db, qTxt w k2 t2 y) :: pre) (fun r news' => news' = pre ∧ r = .bool (leL x y)) := by
  intro dp un gd cn cs a ccd cl outer A₀ base h₀ L m s Q E B F X N T hk hd hu hret
  w_top off
  k_with_none
  refine cmp_ofLtE ?_
  k_dflt (refine' cmp_K ?k1 ?k2 ?k3 ?k4 ?k5 ?k6 ?k7 ?k8 ?_; (case k1 => ktr_units); (case k2 => k_asm); (case k3 => k_asm); (case k4 => k_inst); (case k5 => k_typeOf); (case k6 => k_is); (case k7 => k_is); (case k8 => k_is); k_whole)
  refine wpAny_call ?_
  k_dflt cell_enter
  k_steps
  rw [S_cps, S_cps]
  rename News h₀ L _ _ => kN
  exact hret _ pre _ _ (by k_asm) (fun p hp => kN p (.tail _ (.tail _ (.tail _ (.tail _ hp))))) ⟨rfl, rfl⟩
theorem le_q (prog : Program) (w : World) (mean) (mg mb) (pre : Led) (qa qb : Addr) (x y : List Nat) (ha : QAt w pre qa x) (hb : QAt w pre qb y) :
    SpecT prog w mean mg mb (compareOp .LtE (.ref qa) (.ref qb)) 4 pre (fun r news' => news' = pre ∧ r = .bool (leL x y)) := by
  obtain ⟨da, k1, t1, a1, a2⟩ := ha
  obtain ⟨db, k2, t2, b1, b2⟩ := hb
  intro dp un gd cn cs a ccd cl outer A₀ base h₀ L m s Q E B F X N T hk hd hu hret
  w_top off
  k_with_none
  refine le_c prog w mean mg mb pre qa qb da db k1 k2 t1 t2 x y dp un gd cn cs a ccd cl outer A₀ base h₀ L m s Q E B F X ?_ T hk hd hu hret
  intro p hp
  rcases List.mem_cons.mp hp with rfl | hp
  · exact N _ a1
  rcases List.mem_cons.mp hp with rfl | hp
  · exact N _ a2
  rcases List.mem_cons.mp hp with rfl | hp
  · exact N _ b1
  rcases List.mem_cons.mp hp with rfl | hp
  · exact N _ b2
  · exact N _ hp
theorem lt_c (prog : Program) (w : World) (mean) (mg mb) (pre : Led) (qa qb da db : Addr) (k1 k2 t1 t2 : Tok) (x y : List Nat) :
    SpecT prog w mean mg mb (compareOp .Lt (.ref qa) (.ref qb)) 4 ((qa, instObj 88 da) :: (da, qTxt w k1 t1 x) :: (qb, instObj 88 db) :: (db, qTxt w k2 t2 y) :: pre) (fun r news' => news' = pre ∧ r = .bool (ltL x y)) := by
  intro dp un gd cn cs a ccd cl outer A₀ base h₀ L m s Q E B F X N T hk hd hu hret
  w_top off
  k_with_none
  refine cmp_ofLt ?_
  k_dflt (refine' cmp_K ?k1 ?k2 ?k3 ?k4 ?k5 ?k6 ?k7 ?k8 ?_; (case k1 => ktr_units); (case k2 => k_asm); (case k3 => k_asm); (case k4 => k_inst); (case k5 => k_typeOf); (case k6 => k_is); (case k7 => k_is); (case k8 => k_is); k_whole)
  refine wpAny_call ?_
  k_dflt cell_enter
  k_steps
  rw [S_cps, S_cps]
  rename News h₀ L _ _ => kN
  exact hret _ pre _ _ (by k_asm) (fun p hp => kN p (.tail _ (.tail _ (.tail _ (.tail _ hp))))) ⟨rfl, rfl⟩
theorem lt_q (prog : Program) (w : World) (mean) (mg mb) (pre : Led) (qa qb : Addr) (x y : List Nat) (ha : QAt w pre qa x) (hb : QAt w pre qb y) :
    SpecT prog w mean mg mb (compareOp .Lt (.ref qa) (.ref qb)) 4 pre (fun r news' => news' = pre ∧ r = .bool (ltL x y)) := by
  obtain ⟨da, k1, t1, a1, a2⟩ := ha
  obtain ⟨db, k2, t2, b1, b2⟩ := hb
  intro dp un gd cn cs a ccd cl outer A₀ base h₀ L m s Q E B F X N T hk hd hu hret
  w_top off
  k_with_none
  refine lt_c prog w mean mg mb pre qa qb da db k1 k2 t1 t2 x y dp un gd cn cs a ccd cl outer A₀ base h₀ L m s Q E B F X ?_ T hk hd hu hret
  intro p hp
  rcases List.mem_cons.mp hp with rfl | hp
  · exact N _ a1
  rcases List.mem_cons.mp hp with rfl | hp
  · exact N _ a2
  rcases List.mem_cons.mp hp with rfl | hp
  · exact N _ b1
  rcases List.mem_cons.mp hp with rfl | hp
  · exact N _ b2
  · exact N _ hp
end Mine
end

section
open PySem PySem.W PyProof.Rows
namespace Mine
theorem use_fr {h₀ h : Heap} {L : Addr} {m : Str → Option Value} (F : Fr h₀ L h m) {G : Prop} (k : ∀ m', m' = m → Fr h₀ L h m' → G) : G := k m rfl F
theorem TurnPost.ret {h₀ : Heap} {L : Addr} {J : (Str → Option Value) → List (Addr × Obj) → Prop} {I : Addr} {oI : Obj} {s₁ s₂ : Shared} {Q : Flow → Shared → Prop} {v : Value} (h : Q (.ret v) s₂) : TurnPost h₀ L J I oI s₁ Q (.ret v) s₂ := h
theorem TurnPost.next {h₀ : Heap} {L : Addr} {J : (Str → Option Value) → List (Addr × Obj) → Prop} {I : Addr} {oI : Obj} {s₁ s₂ : Shared} {Q : Flow → Shared → Prop} (h : TurnEnd h₀ L J I oI s₁ s₂) : TurnPost h₀ L J I oI s₁ Q .next s₂ := h
theorem map_turn {m₁ m0 : Str → Option Value} {x y : Str} {u v : Value} (hr : m₁ y = some v) (hs : ∀ z, z ≠ x → z ≠ y → m₁ z = m0 z) : (fun z => if z = x then some u else m₁ z) = fun z => if z = x then some u else if z = y then some v else m0 z := by
  funext z
  by_cases h1 : z = x
  · simp [h1]
  · simp only [if_neg h1]
    by_cases h2 : z = y
    · subst h2; simp [hr]
    · simp only [if_neg h2]; exact hs z h1 h2
local macro_rules | `(tactic| walk_at "pyIter ref") => `(tactic| k_extra "my pyIter ref")
local macro_rules | `(tactic| walk_at "eval ListComp") => `(tactic| k_extra "my eval ListComp")
local macro_rules | `(tactic| walk_at "CompSrcT") => `(tactic| k_extra "my CompSrcT")
local macro_rules | `(tactic| walk_at "CompEnd") => `(tactic| k_extra "my CompEnd")
local macro_rules | `(tactic| walk_at "TurnPost") => `(tactic| k_extra "my TurnPost")
local macro_rules | `(tactic| walk_at "compareOp LtE ref") => `(tactic| k_extra "my LtE")
local macro_rules | `(tactic| walk_at "compareOp NotEq ref ref") => `(tactic| k_extra "my NotEq")
local macro_rules | `(tactic| walk_at "binaryOp Add str str") => `(tactic| k_extra "my Add str str")
local macro_rules | `(tactic| k_all) => `(tactic| assumption)
theorem between_c (prog : Program) (w : World) (mean) (mg mb) (pre led : Led) (la ha d : Addr) (o : Obj) (kvs : List (Str × Value)) (lvs hvs : List Value) (n1 n2 : Nat) (lows highs : List (List Nat)) (res : List Nat) (hsub : ∀ p ∈ led, p ∈ pre) (hoff : ∀ p ∈ pre, p.1 ≠ d) (NN : Names prog w d o kvs led) (hkl : kvs.length ≤ 900)
    (h1 : (la, W.listOf lvs.toArray n1) ∈ pre) (h2 : (ha, W.listOf hvs.toArray n2) ∈ pre) (hL : QsAre w led lvs lows) (hH : QsAre w led hvs highs) (hl1 : lows.length ≤ 100) (hl2 : highs.length ≤ 100) (hres : btw lows highs 9 [] = some res) :
    Spec prog w mean mg mb 210 6 [.ref la, .ref ha, .ref d] ((d, o) :: pre) (fun r news' => ∃ o' kvs' own t, r = .str (S res) t ∧ news' = (d, o') :: (own ++ pre) ∧ Grown prog w d kvs led 9 o' kvs' own ∧ (∀ p ∈ own, d < p.1 ∧ ∀ q ∈ pre, q.1 < p.1) ∧ (valueAt kvs' (S res)).isSome = true) := by
  intro dp un gd cn cs a ccd cl outer A₀ base h₀ L m s Q E B F X N T hk hd hu hret
  w_top off
  k_with_none
  have elo : Str.ofString "\">" = S [34, 62] := by decide +kernel
  have ehi : Str.ofString "\"<" = S [34, 60] := by decide +kernel
  have e0 : Str.ofString "" = S [] := by decide +kernel
  have ert : Str.ofString "row" ≠ Str.ofString "turn" := by decide +kernel
  refine wpAny_call ?_
  k_dflt (refine' code_defC ?k1 ?k2 ?k3 ?k4 ?k5 ?kA ?kF ?kK ?k6 ?k7 ?k8 ?k9 ?kB ?kD ?_ ?c2 ?c3 ?c4; (case kA => exact rfl); (case kF => exact rfl); (case kK => assumption); (case k1 => k_asm); (case k2 => k_asm); (case k3 => k_asm); (case k4 => k_asm); (case k5 => k_asm); (case k6 => k_is); (case k7 => k_is); (case k8 => ktr_room); (case k9 => exact BindsTo.of_eq rfl); (case kB => exact rfl); (case kD => decide +kernel); (case c2 => exact rfl); (case c3 => exact rfl); (case c4 => exact rfl); k_whole; intro g' L' h' tk' cells' FG' F' N' Y' B' X' T' l1; have hpL := fun p hp => l1 p (List.mem_cons_of_mem _ hp); (try k_lt l1); k_cells Y'; (try simp only [List.cons_append, List.nil_append] at N'); (try dsimp only); (try k_lift B'); (try k_fold))
  w_top off
  k_with_none
  (k_with "my pyIter ref" => k_dflt (
    rename IsRange _ _ _ _ _ _ _ _ => hR
    rename Fr _ _ _ _ => F9
    rename News _ _ _ _ => N9
    refine use_fr F9 fun m9 hm9 F10 => ?_
    k_dflt (refine' range_V (n := 9) (fun i m news => ∃ row tr o' kvs' own co v0, news = (L' + 1, co) :: (d, o') :: (own ++ pre) ∧ BtJ prog w (L' + 1) d kvs pre led lows highs res m9 i m row tr o' kvs' own co v0) ?hh hR ?sm ?hn F10 N9 ?h0 ?turn ?done)
    case hh => k_dflt (exact rfl)
    case sm => decide
    case hn => decide
    case h0 =>
      obtain ⟨tr0, hrow0⟩ : ∃ tr, m9 (Str.ofString "row") = some (.str (S []) tr) := ⟨_, by rw [hm9, ← e0]; rfl⟩
      rename Obj.data _ = Data.cell _ => hd0
      exact ⟨[], tr0, o, kvs, [], _, _, rfl, hd0, hrow0, fun _ _ _ => rfl, Grown.refl NN 0, fun _ h => (nomatch h), RowC.nil, Nat.zero_le _, hres⟩
    case done =>
      rintro m₁ news₁ h3 tk3 ⟨row, tr, o1, kvs1, own1, co, v0, rfl, J9⟩ F3 N3
      exact (btw_end J9.goes).elim
    case' turn =>
      rintro i ti m₁ news₁ I oI h3 tk3 hi ⟨row, tr, o1, kvs1, own1, co, v0, rfl, J9⟩ hoffI F3 N3
      rw [map_turn J9.bears J9.same] at F3
      subst hm9
      have hco := J9.cell
      have hi9 : 9 - i = (8 - i) + 1 := by omega
      have hgo := J9.goes
      rw [hi9] at hgo
      have hfew := J9.few
      have hkv1 := J9.grown.few
      (try k_fold)))
  (k_with "call ref" => (
    (with_reducible show wpAny _ _ (call (Value.ref 205) _) _ _ _)
    rename News _ _ _ _ => N9
    have N8 : News _ _ _ ((d, o1) :: (I, oI) :: (L' + 1, co) :: (own1 ++ pre)) := news_312 N9
    have hsb8 : ∀ p ∈ own1 ++ led, p ∈ (I, oI) :: (L' + 1, co) :: (own1 ++ pre) := sub_tail2 hsub
    have hof8 : ∀ p ∈ (I, oI) :: (L' + 1, co) :: (own1 ++ pre), p.1 ≠ d := btw_off8 hoffI (Nat.lt_succ_of_lt l1.1) J9.above hoff
    k_dflt (refine' name_c prog w mean mg mb ((I, oI) :: (L' + 1, co) :: (own1 ++ pre)) (own1 ++ led) row _ d o1 kvs1 hsb8 hof8 J9.grown.names (by omega) J9.signs (by omega) _ _ _ _ _ _ _ _ _ _ _ _ _ _ _ _ _ ?k1 ?k2 ?k3 N8 ?k5 ?kK ?kd ?ku ?_; (case k1 => k_asm); (case k2 => k_asm); (case k3 => k_asm); (case k5 => k_asm); (case kK => first | exact rfl | assumption); (case kd => ktr_room); (case ku => ktr_units))
    rintro r6 news6 h6 tk6 F6 N6 ⟨q, o2, kvs2, own2, rfl, rfl, G2, hab2, hq2, hv2⟩
    have N7 := news_back N6
    clear N6
    have G3 := J9.grown.trans G2
    have hab3 := btw_above hoffI J9.above hab2
    rw [← List.append_assoc] at N7 hq2
    obtain ⟨own3, e3⟩ : ∃ x, x = own2 ++ own1 := ⟨_, rfl⟩
    rw [← e3] at N7 hq2 G3 hab3
    have hrc := btw_offc (o2 := o2) (Nat.lt_succ_of_lt l1.1) (fun p hp => Nat.lt_succ_of_lt (hpL p hp)) (fun p hp => (hab3 p hp).1)
    have hI1 : (@Ne Nat I (L' + 1)) := fun e => hoffI (L' + 1, co) (.head _) e.symm
    obtain ⟨rest, er⟩ : ∃ x, x = own3 ++ pre := ⟨_, rfl⟩
    rw [← er] at N7 hrc
    have hL3 : QsAre w (own3 ++ led) lvs lows := hL.mono fun p hp => List.mem_append_right _ hp
    have hH3 : QsAre w (own3 ++ led) hvs highs := hH.mono fun p hp => List.mem_append_right _ hp
    have hs3 : ∀ p ∈ own3 ++ led, p ∈ rest := by rw [er]; exact sub_app hsub
    have hm1 : (la, W.listOf lvs.toArray n1) ∈ rest := by rw [er]; exact List.mem_append_right _ h1
    have hm2 : (ha, W.listOf hvs.toArray n2) ∈ rest := by rw [er]; exact List.mem_append_right _ h2
    (try dsimp only)
    (try k_fold)))
  (k_with "my eval ListComp" => k_dflt (
    k_dflt (refine' LCt.ListComp_T ?F0 ?a ?b ?c ?d ?e ?_)
    case F0 => k_asm
    case a => with_unfolding_all rfl
    case b => decide
    case c => rfl
    case d => decide
    case e => rfl))
  (k_with "my CompSrcT" => k_dflt (
    rename News _ _ _ _ => N9
    refine use_led N9 fun ledg hledg N10 => ?_
    have hmL : (la, W.listOf lvs.toArray n1) ∈ ledg := by rw [hledg]; simp [hm1]
    k_dflt (refine' LCt.CompSrcT.ledger ?hh ?F N10 ?m ?z ?_)
    case hh => k_dflt (exact rfl)
    case F => k_asm
    case m => k_dflt (exact hmL)
    case z => rw [List.size_toArray, hL3.1, sizeLine_eq]; omega
    intro gg
    k_dflt (refine' comp_indT (fun i ys news => news = ledg ∧ ys.isEmpty = !((lows.take i).any fun low => leL (nmL row) low)) ?stp ?fin _ 0 [] ledg (Nat.zero_add _) ⟨rfl, rfl⟩)
    case' stp =>
      rintro j ys news hj ⟨rfl, hye⟩ v Ic oIc C oC D m₂ h5 tk5 E5 hP hNC hx F5 N5 off5 ne5
      subst hledg
      have hj' : j < lows.length := by rw [List.size_toArray, hL3.1] at hj; exact hj
      obtain ⟨qi, hqi, hQi⟩ := hL3.2 j hj'
      have hv : v = .ref qi := by
        have hP' : lvs[j]? = some v := by simpa using hP
        rw [hqi] at hP'; exact (Option.some.inj hP').symm
      subst hv
      (try k_fold)
    case' fin =>
      rintro ys5 news ⟨rfl, hye⟩
      rw [List.size_toArray, hL3.1, List.take_length] at hye
      subst hledg
      unfold LCg.FinE
      intro D5 h5 tk5 F5 N5 off5
      (try k_fold)))
  (k_with "my CompSrcT" => k_dflt (
    rename News _ _ _ _ => N9
    refine use_led N9 fun ledg hledg N10 => ?_
    have hmL : (ha, W.listOf hvs.toArray n2) ∈ ledg := by rw [hledg]; simp [hm2]
    k_dflt (refine' LCt.CompSrcT.ledger ?hh ?F N10 ?m ?z ?_)
    case hh => k_dflt (exact rfl)
    case F => k_asm
    case m => k_dflt (exact hmL)
    case z => rw [List.size_toArray, hH3.1, sizeLine_eq]; omega
    intro gg
    k_dflt (refine' comp_indT (fun i ys news => news = ledg ∧ ys.isEmpty = !((highs.take i).any fun high => leL high (nmL row))) ?stp2 ?fin2 _ 0 [] ledg (Nat.zero_add _) ⟨rfl, rfl⟩)
    case' stp2 =>
      rintro j ys news hj ⟨rfl, hyh⟩ v Ic oIc C oC D m₂ h5 tk5 E5 hP hNC hx F5 N5 off5 ne5
      subst hledg
      have hj' : j < highs.length := by rw [List.size_toArray, hH3.1] at hj; exact hj
      obtain ⟨qi, hqi, hQi⟩ := hH3.2 j hj'
      have hv : v = .ref qi := by
        have hP' : hvs[j]? = some v := by simpa using hP
        rw [hqi] at hP'; exact (Option.some.inj hP').symm
      subst hv
      (try k_fold)
    case' fin2 =>
      rintro ys6 news ⟨rfl, hyh⟩
      rw [List.size_toArray, hH3.1, List.take_length] at hyh
      subst hledg
      unfold LCg.FinE
      intro D6 h5 tk5 F5 N5 off5
      (try k_fold)))
  (k_with "my LtE" => (
    rename News _ _ _ _ => N9
    k_dflt (refine' le_q prog w mean mg mb _ _ _ (nmL row) lows[j] ?qa ?qb _ _ _ _ _ _ _ _ _ _ _ _ _ _ _ _ _ ?k1 ?k2 ?k3 N9 ?k5 ?kK ?kd ?ku ?_; (case qa => exact hq2.mono fun p hp => by simp [hs3 p hp]); (case qb => exact hQi.mono fun p hp => by simp [hs3 p hp]); (case k1 => k_asm); (case k2 => k_asm); (case k3 => k_asm); (case k5 => k_asm); (case kK => first | exact rfl | assumption); (case kd => ktr_room); (case ku => ktr_units))
    rintro r7 news7 h7 tk7 F7 N7 ⟨rfl, rfl⟩
    cases hb7 : leL (nmL row) lows[j]
    all_goals (try dsimp only)
    all_goals (try k_fold)))
  (k_with "my LtE" => (
    rename News _ _ _ _ => N9
    k_dflt (refine' le_q prog w mean mg mb _ _ _ highs[j] (nmL row) ?qa ?qb _ _ _ _ _ _ _ _ _ _ _ _ _ _ _ _ _ ?k1 ?k2 ?k3 N9 ?k5 ?kK ?kd ?ku ?_; (case qa => exact hQi.mono fun p hp => by simp [hs3 p hp]); (case qb => exact hq2.mono fun p hp => by simp [hs3 p hp]); (case k1 => k_asm); (case k2 => k_asm); (case k3 => k_asm); (case k5 => k_asm); (case kK => first | exact rfl | assumption); (case kd => ktr_room); (case ku => ktr_units))
    rintro r7 news7 h7 tk7 F7 N7 ⟨rfl, rfl⟩
    cases hb7 : leL highs[j] (nmL row)
    all_goals (try dsimp only)
    all_goals (try k_fold)))
  (k_with "my CompEnd" => k_dflt (
    rename News _ _ _ _ => N9
    refine' LCg.CompEnd.intro ?cF N9 _ (fun _ h => h) off5 ?cS ⟨rfl, ?cJ⟩
    case cF => assumption
    case cS => exact .inr ⟨_, hmL, rfl, _, rfl⟩
    case cJ => first | exact any_true (f := fun low => leL (nmL row) low) hj' hb7 | exact any_false (f := fun low => leL (nmL row) low) hj' hb7 hye | exact any_true (f := fun high => leL high (nmL row)) hj' hb7 | exact any_false (f := fun high => leL high (nmL row)) hj' hb7 hyh))
  (k_with "my NotEq" => (
    rename News _ _ _ _ => N9
    k_dflt (refine' ne_nil (News.isList N9 (.tail _ (.head _))) (News.isList N9 (.head _)) rfl ?u ?_; (case u => ktr_units))
    first | (rw [hyh, Bool.not_not]; cases hA2 : highs.any (fun high => leL high (nmL row))) | (rw [hye, Bool.not_not]; cases hA1 : lows.any (fun low => leL (nmL row) low))
    all_goals (try dsimp only)
    all_goals (try k_fold)))
  (k_with "my Add str str" => k_dflt (first
    | (refine add_to 40 (row_two rfl elo) (by rw [S_len]; simp; omega) (by decide) ?_; intro _ _)
    | (refine add_to 40 (row_two rfl ehi) (by rw [S_len]; simp; omega) (by decide) ?_; intro _ _)))
  (k_with "my TurnPost" => (refine TurnPost.ret ?_))
  k_steps
  · have er9 : row = res := btw_here hgo hA1 hA2
    subst er9
    rename News h₀ L _ _ => kN
    subst er
    refine hret _ ((d, o2) :: (own3 ++ pre)) _ _ (by k_asm) (fun p hp => kN p ?_) ⟨o2, kvs2, own3, tr, rfl, rfl, G3.le (by omega), fun p hp => ⟨(hab3 p hp).2.1, (hab3 p hp).2.2.1⟩, by rw [hv2]; rfl⟩
    rcases List.mem_cons.mp hp with h | h <;> simp [h]
  · obtain ⟨co2, hd9, hN9⟩ : ∃ co2, Obj.data co2 = Data.cell (some (Value.ref q)) ∧ News g' _ _ ((I, oI) :: (L' + 1, co2) :: (d, o2) :: rest) := by
      rename News g' _ _ _ => N9
      exact ⟨_, by assumption, fun p hp => N9 p (by simp only [List.mem_cons] at hp ⊢; rcases hp with h | h | h | h <;> simp [h])⟩
    subst er
    refine TurnPost.next ?_
    rename Fr g' _ _ _ => F9
    refine use_fr F9 fun m8 hm8 F8 => ?_
    obtain ⟨tr9, htr9⟩ : ∃ tr9, m8 (Str.ofString "row") = some (.str (S (row ++ [34, 60])) tr9) := ⟨_, by rw [hm8]; exact if_pos rfl⟩
    k_dflt (refine' TurnEnd.intro F8 hN9 ((L' + 1, co2) :: (d, o2) :: (own3 ++ pre)) (fun _ h => h) (btw_offI hoffI hab3) ⟨row ++ [34, 60], tr9, o2, kvs2, own3, co2, some (.ref q), rfl, ?jj1⟩)
    case jj1 =>
      refine ⟨hd9, htr9, ?_, G3, fun p hp => ⟨(hab3 p hp).1, (hab3 p hp).2.1, (hab3 p hp).2.2.1⟩, RowC.two J9.signs (by decide), by rw [List.length_append]; simp; omega, ?_⟩
      · intro z h1 h2; rw [hm8]; simp only [if_neg h1, if_neg h2]
      · rw [show 9 - (i + 1) = 8 - i by omega]; exact btw_high hgo hA1 hA2
  · obtain ⟨co2, hd9, hN9⟩ : ∃ co2, Obj.data co2 = Data.cell (some (Value.ref q)) ∧ News g' _ _ ((I, oI) :: (L' + 1, co2) :: (d, o2) :: rest) := by
      rename News g' _ _ _ => N9
      exact ⟨_, by assumption, fun p hp => N9 p (by simp only [List.mem_cons] at hp ⊢; rcases hp with h | h | h | h <;> simp [h])⟩
    subst er
    refine TurnPost.next ?_
    rename Fr g' _ _ _ => F9
    refine use_fr F9 fun m8 hm8 F8 => ?_
    obtain ⟨tr9, htr9⟩ : ∃ tr9, m8 (Str.ofString "row") = some (.str (S (row ++ [34, 62])) tr9) := ⟨_, by rw [hm8]; exact if_pos rfl⟩
    k_dflt (refine' TurnEnd.intro F8 hN9 ((L' + 1, co2) :: (d, o2) :: (own3 ++ pre)) (fun _ h => h) (btw_offI hoffI hab3) ⟨row ++ [34, 62], tr9, o2, kvs2, own3, co2, some (.ref q), rfl, ?jj2⟩)
    case jj2 =>
      refine ⟨hd9, htr9, ?_, G3, fun p hp => ⟨(hab3 p hp).1, (hab3 p hp).2.1, (hab3 p hp).2.2.1⟩, RowC.two J9.signs (by decide), by rw [List.length_append]; simp; omega, ?_⟩
      · intro z h1 h2; rw [hm8]; simp only [if_neg h1, if_neg h2]
      · rw [show 9 - (i + 1) = 8 - i by omega]; exact btw_low hgo hA1
end Mine
end

section
open PySem PySem.W PyProof.Rows
namespace Mine
local macro_rules | `(tactic| k_all) => `(tactic| first | assumption | exact off_lt (by assumption) (by omega))
local macro_rules | `(tactic| walk_at "eval Dict nil nil") => `(tactic| k_extra "my eval Dict")
local macro_rules | `(tactic| walk_at "eval ListComp") => `(tactic| k_extra "my eval ListComp")
local macro_rules | `(tactic| walk_at "exec Assign cons ListComp") => `(tactic| k_extra "my Assign LC")
local macro_rules | `(tactic| walk_at "binaryOp Add ref ref") => `(tactic| k_extra "my Add")
local macro_rules | `(tactic| walk_at "CompSrc") => `(tactic| k_extra "my CompSrc")
local macro_rules | `(tactic| walk_at "CompSrcT") => `(tactic| k_extra "my CompSrcT")
local macro_rules | `(tactic| walk_at "CompEnd") => `(tactic| k_extra "my CompEnd")
local macro_rules | `(tactic| walk_at "exec For Name Call cons nil") => `(tactic| k_extra "my exec For")
local macro_rules | `(tactic| walk_at "pyIter ref") => `(tactic| k_extra "my pyIter ref")
local macro_rules | `(tactic| walk_at "newList") => `(tactic| k_extra "my newList")
local macro_rules | `(tactic| walk_at "call builtin:len") => `(tactic| k_extra "my len")
local macro_rules | `(tactic| walk_at "call builtin:list.append") => `(tactic| k_extra "my append")
local macro_rules | `(tactic| walk_at "TurnOnly") => `(tactic| k_extra "my TurnOnly")
local macro_rules | `(tactic| walk_at "compareOp Lt ref") => `(tactic| k_extra "my Lt")
local macro_rules | `(tactic| walk_at "subscriptTail Name Name ref int") => `(tactic| k_extra "my subscriptTail")
local macro_rules | `(tactic| walk_at "subscriptTail Name UnaryOp ref int") => `(tactic| k_extra "my subscriptTail")
local macro_rules | `(tactic| walk_at "subscriptTail Subscript UnaryOp ref int") => `(tactic| k_extra "my subscriptTail")
local macro_rules | `(tactic| walk_at "subscriptTail Subscript Name ref int") => `(tactic| k_extra "my subscriptTail")
local macro_rules | `(tactic| walk_at "subscriptTail Name Subscript ref str") => `(tactic| k_extra "my subscriptTail")
local macro_rules | `(tactic| walk_at "subscriptTail") => `(tactic| k_extra "my subscriptTail")
theorem sum_c (prog : Program) (w : World) (mean) (mg mb) (pre : Led) (xa ya : Addr) (xvs yvs : List Value) (nx1 ny1 : Nat) (xs ys : List (List Nat)) (T : List (List (List Nat)))
    (h1 : (xa, W.listOf xvs.toArray nx1) ∈ pre) (h2 : (ya, W.listOf yvs.toArray ny1) ∈ pre) (hX : StrsAre xvs (xs.map S)) (hY : StrsAre yvs (ys.map S)) (hxl : xs.length ≤ 5) (hyl : ys.length ≤ 5) (hx0 : 0 < xs.length) (hy0 : 0 < ys.length) (hxr : ∀ l ∈ xs, RowC l ∧ l.length ≤ 90) (hyr : ∀ l ∈ ys, RowC l ∧ l.length ≤ 90) (hT : SumOk xs ys T) :
    Spec prog w mean mg mb 215 8 [.ref xa, .ref ya] pre (fun r news' => news' = pre ∧ ∃ t, r = .str (S (nmL (at2 T (xs.length - 1) (ys.length - 1)))) t) := by
  intro dp un gd cn cs a ccd cl outer A₀ base h₀ L m s Q E B F X N0 T0 hk hd hu hret
  w_top off
  k_with_none
  refine wpAny_call ?_
  k_dflt (refine' code_defC ?k1 ?k2 ?k3 ?k4 ?k5 ?kA ?kF ?kK ?k6 ?k7 ?k8 ?k9 ?kB ?kD ?_ ?c2 ?c3 ?c4; (case kA => exact rfl); (case kF => exact rfl); (case kK => assumption); (case k1 => k_asm); (case k2 => k_asm); (case k3 => k_asm); (case k4 => k_asm); (case k5 => k_asm); (case k6 => k_is); (case k7 => k_is); (case k8 => ktr_room); (case k9 => exact BindsTo.of_eq rfl); (case kB => exact rfl); (case kD => decide +kernel); (case c2 => exact rfl); (case c3 => exact rfl); (case c4 => exact rfl); k_whole; intro g' L' h' tk' cells' FG' F' N' Y' B' X' T' l1; have hpL := l1; (try k_lt l1); k_cells Y'; (try simp only [List.cons_append, List.nil_append] at N'); (try dsimp only); (try k_lift B'); (try k_fold))
  w_top off
  k_with_none
  (k_with "my eval Dict" => (k_dflt (refine' newDict_K ?k1 ?k2 (TopRead.nolimit (by k_asm)) ?_; (case k1 => k_asm); (case k2 => k_asm); k_whole); intro d hd1 od Fd Nd ld lod hsd fsd hid fid; (try k_lt ld); (try k_sweep); (try dsimp only); (try k_fold)))
  (k_with "my eval ListComp" => k_dflt (
    (with_reducible show wpAny _ _ (eval (PySem.Expr.ListComp _ [⟨_, _, [], _⟩] _ _) _) _ _ _)
    k_dflt (refine' ListComp_U ?F0 ?a ?b ?c ?d ?e ?_)
    case F0 => k_asm
    case a => with_unfolding_all rfl
    case b => decide
    case c => rfl
    case d => decide
    case e => rfl))
  (k_with "my eval ListComp" => k_dflt (
    (with_reducible show wpAny _ _ (eval (PySem.Expr.ListComp _ [⟨_, _, [_], _⟩] _ _) _) _ _ _)
    k_dflt (refine' LCt.ListComp_T ?F0 ?a ?b ?c ?d ?e ?_)
    case F0 => k_asm
    case a => with_unfolding_all rfl
    case b => decide
    case c => rfl
    case d => decide
    case e => rfl))
  (k_with "my Assign LC" => k_dflt (
    (with_reducible show wpAny _ _ (exec (PySem.Stmt.Assign _ (PySem.Expr.ListComp _ [⟨_, _, [_], _⟩] _ _) _) _) _ _ _)
    k_dflt (refine' LCt.Assign_ListComp_T ?F0 ?l ?sw ?a ?b ?c ?d ?e ?y ?p ?_)
    case F0 => k_asm
    case l => rfl
    case sw => with_unfolding_all rfl
    case a => with_unfolding_all rfl
    case b => decide
    case c => rfl
    case d => decide
    case e => rfl
    case y => rfl
    case p => rfl))
  (k_with "my CompSrc" => k_dflt (
    rename News _ _ _ _ => N9
    obtain ⟨oj, oi, oT, oY, oX, oN, N11, ⟨vj, dj⟩, ⟨vi, di⟩, ⟨vT, dT⟩, ⟨vY, dY⟩, ⟨vX, dX⟩, dN⟩ : ∃ oj oi oT oY oX oN : Obj, News g' L' _ ((d, od) :: (L' + 1 + 1 + 1 + 1 + 1 + 1, oj) :: (L' + 1 + 1 + 1 + 1 + 1, oi) :: (L' + 1 + 1 + 1 + 1, oT) :: (L' + 1 + 1 + 1, oY) :: (L' + 1 + 1, oX) :: (L' + 1, oN) :: pre) ∧ (∃ v, oj.data = .cell v) ∧ (∃ v, oi.data = .cell v) ∧ (∃ v, oT.data = .cell v) ∧ (∃ v, oY.data = .cell v) ∧ (∃ v, oX.data = .cell v) ∧ oN.data = .cell (some (.ref d)) := ⟨_, _, _, _, _, _, N9, ⟨_, by assumption⟩, ⟨_, by assumption⟩, ⟨_, by assumption⟩, ⟨_, by assumption⟩, ⟨_, by assumption⟩, by assumption⟩
    have hpd : ∀ p ∈ pre, @LT.lt Nat _ p.1 d := fun p hp => Nat.lt_trans (hpL p hp) (by omega)
    have hcs : ∀ p ∈ [(L' + 1 + 1 + 1 + 1 + 1 + 1, oj), (L' + 1 + 1 + 1 + 1 + 1, oi), (L' + 1 + 1 + 1 + 1, oT), (L' + 1 + 1 + 1, oY), (L' + 1 + 1, oX), (L' + 1, oN)], p.1 ≠ d := by
      intro p hp
      simp only [List.mem_cons, List.not_mem_nil, or_false] at hp
      rcases hp with rfl | rfl | rfl | rfl | rfl | rfl <;> exact Nat.ne_of_lt (by dsimp only; omega)
    refine use_led N11 fun ledg hledg N10 => ?_
    have hmL : (xa, W.listOf xvs.toArray nx1) ∈ ledg := by rw [hledg]; simp [h1]
    k_dflt (refine' LCg.CompSrc.ledger ?hh ?F N10 ?m ?z ?_)
    case hh => k_dflt (exact rfl)
    case F => k_asm
    case m => k_dflt (exact hmL)
    case z => rw [List.size_toArray, hX.len_eq, List.length_map, sizeLine_eq]; omega
    intro gg
    k_dflt (refine' comp_ind (fun i ys news => ∃ o1 kvs1 own1, news = (d, o1) :: (L' + 1 + 1 + 1 + 1 + 1 + 1, oj) :: (L' + 1 + 1 + 1 + 1 + 1, oi) :: (L' + 1 + 1 + 1 + 1, oT) :: (L' + 1 + 1 + 1, oY) :: (L' + 1 + 1, oX) :: (L' + 1, oN) :: (own1 ++ pre) ∧ NmSt prog w d o1 kvs1 own1 i ∧ QsAre w own1 ys ((xs.take i).map nmL)) ?stp ?fin _ 0 [] ledg (Nat.zero_add _) ⟨od, [], [], hledg, NmSt.start hsd lod, QsAre.nil⟩)
    case' stp =>
      rintro k ys1 news hk9 ⟨o1, kvs1, own1, rfl, M9, Q9⟩ v Ic oIc C oC D m₂ h5 tk5 E5 hP hNC hx F5 N5 off5 ne5
      have hk8 : k < xs.length := by rw [List.size_toArray, hX.len_eq, List.length_map] at hk9; exact hk9
      obtain ⟨ft, hft⟩ := strs_at hX hk8
      have hv : v = .str (S xs[k]) ft := by
        have hP' : xvs[k]? = some v := by simpa using hP
        rw [hft] at hP'; exact (Option.some.inj hP').symm
      subst hv
      have hrk := hxr _ (List.getElem_mem hk8)
      have hfew9 := M9.few
      (try k_fold)
    case' fin =>
      rintro xq news ⟨o1, kvs1, own1, rfl, M9, Q9⟩
      rw [List.size_toArray, hX.len_eq, List.length_map] at M9 Q9
      rw [List.take_length] at Q9
      unfold LCg.FinE
      intro X h5 tk5 F5 N5 offX
      (simp only [LCg.Off1] at offX)
      have hr2 := own_pre_ne (c := L' + 1 + 1) M9.above hpL (by omega) (by omega)
      (try k_fold)))
  (k_with "call ref" => (
    (with_reducible show wpAny _ _ (call (Value.ref 205) _) _ _ _)
    rename News _ _ _ _ => N9
    have hcs9 := hcs
    k_dflt (refine' name_c prog w mean mg mb ((Ic, oIc) :: (C, oC) :: (D, LCg.lst ys1) :: ([(L' + 1 + 1 + 1 + 1 + 1 + 1, oj), (L' + 1 + 1 + 1 + 1 + 1, oi), (L' + 1 + 1 + 1 + 1, oT), (L' + 1 + 1 + 1, oY), (L' + 1 + 1, oX), (L' + 1, oN)] ++ (own1 ++ pre))) own1 xs[k] _ d o1 kvs1 ?hsub (comp_off off5 hcs M9.above hpd) M9.names hrk.2 hrk.1 (by omega) _ _ _ _ _ _ _ _ _ _ _ _ _ _ _ _ _ ?k1 ?k2 ?k3 (comp_pre N9) ?k5 ?kK ?kd ?ku ?_; (case hsub => exact fun p hp => by simp [hp]); (case k1 => k_asm); (case k2 => k_asm); (case k3 => k_asm); (case k5 => k_asm); (case kK => first | exact rfl | assumption); (case kd => ktr_room); (case ku => ktr_units))
    rintro r6 news6 h6 tk6 F6 N6 ⟨q, o2, kvs2, own2, rfl, rfl, G2, hab2, hq2, hv2⟩
    have N7 := comp_nm N6
    clear N6
    (try dsimp only)
    (try k_fold)))
  (k_with "my CompEnd" => k_dflt (
    refine' LCg.CompEnd.intro ?cF N7 ((d, o2) :: ([(L' + 1 + 1 + 1 + 1 + 1 + 1, oj), (L' + 1 + 1 + 1 + 1 + 1, oi), (L' + 1 + 1 + 1 + 1, oT), (L' + 1 + 1 + 1, oY), (L' + 1 + 1, oX), (L' + 1, oN)] ++ ((own2 ++ own1) ++ pre))) (fun _ h => h) (comp_off3 off5 hab2) ?cS ⟨o2, kvs2, own2 ++ own1, rfl, M9.step G2, Q9.step hk8 hq2⟩
    case cF => assumption
    case cS => exact .inr ⟨W.listOf xvs.toArray nx1, by simp [h1], rfl, _, rfl⟩))
  (k_with "my CompSrc" => k_dflt (
    rename News _ _ _ _ => N9
    obtain ⟨oX2, N11, dX2⟩ : ∃ oX2 : Obj, News g' L' _ ((d, o1) :: (X, LCg.lst xq) :: (L' + 1 + 1 + 1 + 1 + 1 + 1, oj) :: (L' + 1 + 1 + 1 + 1 + 1, oi) :: (L' + 1 + 1 + 1 + 1, oT) :: (L' + 1 + 1 + 1, oY) :: (L' + 1 + 1, oX2) :: (L' + 1, oN) :: (own1 ++ pre)) ∧ oX2.data = .cell (some (.ref X)) := ⟨_, news_swap N9, by assumption⟩
    have hcs2 : ∀ p ∈ [(X, LCg.lst xq), (L' + 1 + 1 + 1 + 1 + 1 + 1, oj), (L' + 1 + 1 + 1 + 1 + 1, oi), (L' + 1 + 1 + 1 + 1, oT), (L' + 1 + 1 + 1, oY), (L' + 1 + 1, oX2), (L' + 1, oN)], p.1 ≠ d := by
      intro p hp
      rcases List.mem_cons.mp hp with rfl | hp
      · exact Ne.symm offX.1
      simp only [List.mem_cons, List.not_mem_nil, or_false] at hp
      rcases hp with rfl | rfl | rfl | rfl | rfl | rfl <;> exact Nat.ne_of_lt (by dsimp only; omega)
    refine use_led N11 fun ledg hledg N10 => ?_
    have hmY : (ya, W.listOf yvs.toArray ny1) ∈ ledg := by rw [hledg]; simp [h2]
    k_dflt (refine' LCg.CompSrc.ledger ?hh ?F N10 ?m ?z ?_)
    case hh => k_dflt (exact rfl)
    case F => k_asm
    case m => k_dflt (exact hmY)
    case z => rw [List.size_toArray, hY.len_eq, List.length_map, sizeLine_eq]; omega
    intro gg
    k_dflt (refine' comp_ind (fun i ys' news => ∃ o1 kvs1 own1, news = (d, o1) :: (X, LCg.lst xq) :: (L' + 1 + 1 + 1 + 1 + 1 + 1, oj) :: (L' + 1 + 1 + 1 + 1 + 1, oi) :: (L' + 1 + 1 + 1 + 1, oT) :: (L' + 1 + 1 + 1, oY) :: (L' + 1 + 1, oX2) :: (L' + 1, oN) :: (own1 ++ pre) ∧ NmSt prog w d o1 kvs1 own1 (xs.length + i) ∧ QsAre w own1 ys' ((ys.take i).map nmL) ∧ QsAre w own1 xq (xs.map nmL)) ?stq ?fiq _ 0 [] ledg (Nat.zero_add _) ⟨o1, kvs1, own1, hledg, M9, QsAre.nil, Q9⟩)
    case' stq =>
      rintro k ys2 news hk9 ⟨o3, kvs3, own3, rfl, M8, Q8, Q7⟩ v Ic oIc C oC D m₂ h5 tk5 E5 hP hNC hx F5 N5 off5 ne5
      have hk8 : k < ys.length := by rw [List.size_toArray, hY.len_eq, List.length_map] at hk9; exact hk9
      obtain ⟨ft, hft⟩ := strs_at hY hk8
      have hv : v = .str (S ys[k]) ft := by
        have hP' : yvs[k]? = some v := by simpa using hP
        rw [hft] at hP'; exact (Option.some.inj hP').symm
      subst hv
      have hrk := hyr _ (List.getElem_mem hk8)
      have hfew9 := M8.few
      (try k_fold)
    case' fiq =>
      rintro yq news ⟨o3, kvs3, own3, rfl, M8, Q8, Q7⟩
      rw [List.size_toArray, hY.len_eq, List.length_map] at M8 Q8
      rw [List.take_length] at Q8
      unfold LCg.FinE
      intro Y h5 tk5 F5 N5 offY
      (simp only [LCg.Off1] at offY)
      have hr3 := own_pre_ne (c := L' + 1 + 1 + 1) M8.above hpL (by omega) (by omega)
      have hr4 := own_pre_ne (c := L' + 1 + 1 + 1 + 1) M8.above hpL (by omega) (by omega)
      (try k_fold)))
  (k_with "call ref" => (
    (with_reducible show wpAny _ _ (call (Value.ref 205) _) _ _ _)
    rename News _ _ _ _ => N9
    have hcs9 := hcs2
    k_dflt (refine' name_c prog w mean mg mb ((Ic, oIc) :: (C, oC) :: (D, LCg.lst ys2) :: ([(X, LCg.lst xq), (L' + 1 + 1 + 1 + 1 + 1 + 1, oj), (L' + 1 + 1 + 1 + 1 + 1, oi), (L' + 1 + 1 + 1 + 1, oT), (L' + 1 + 1 + 1, oY), (L' + 1 + 1, oX2), (L' + 1, oN)] ++ (own3 ++ pre))) own3 ys[k] _ d o3 kvs3 ?hsub (comp_off off5 hcs2 M8.above hpd) M8.names hrk.2 hrk.1 (by omega) _ _ _ _ _ _ _ _ _ _ _ _ _ _ _ _ _ ?k1 ?k2 ?k3 (comp_pre N9) ?k5 ?kK ?kd ?ku ?_; (case hsub => exact fun p hp => by simp [hp]); (case k1 => k_asm); (case k2 => k_asm); (case k3 => k_asm); (case k5 => k_asm); (case kK => first | exact rfl | assumption); (case kd => ktr_room); (case ku => ktr_units))
    rintro r6 news6 h6 tk6 F6 N6 ⟨q, o4, kvs4, own4, rfl, rfl, G2, hab2, hq2, hv2⟩
    have N7 := comp_nm N6
    clear N6
    (try dsimp only)
    (try k_fold)))
  (k_with "my CompEnd" => k_dflt (
    refine' LCg.CompEnd.intro ?cF N7 ((d, o4) :: ([(X, LCg.lst xq), (L' + 1 + 1 + 1 + 1 + 1 + 1, oj), (L' + 1 + 1 + 1 + 1 + 1, oi), (L' + 1 + 1 + 1 + 1, oT), (L' + 1 + 1 + 1, oY), (L' + 1 + 1, oX2), (L' + 1, oN)] ++ ((own4 ++ own3) ++ pre))) (fun _ h => h) (comp_off3 off5 hab2) ?cS ⟨o4, kvs4, own4 ++ own3, rfl, M8.step G2, Q8.step hk8 hq2, Q7.mono fun p hp => List.mem_append_right _ hp⟩
    case cF => assumption
    case cS => exact .inr ⟨W.listOf yvs.toArray ny1, by simp [h2], rfl, _, rfl⟩))
  (k_with "my exec For" => (rename Fr _ _ _ _ => lF; k_dflt (refine' For_invTF lF ?_ ?fs ?fE; (case fs => intro _; rfl); (case fE => passes_own))))
  (k_with "my newList" => (have hT9 := hTurn; k_dflt (refine' newList_K ?k1 ?k2 ?_; (case k1 => k_asm); (case k2 => k_asm); k_whole); intro R hR8 FR NR lR; have lR0 := lR; (try k_lt lR); (try k_sweep); (try dsimp only); (try k_fold)))
  (k_with "my newList" => ((fail_if_success (have hT9 := hTurn)); k_dflt (refine' newList_K ?k1 ?k2 ?_; (case k1 => k_asm); (case k2 => k_asm); k_whole); intro TB hTB8 FTB NTB lTB; have lTB0 := lTB; (try k_lt lTB); (try k_sweep); (try dsimp only); (try k_fold)))
  (k_with "my len" => k_dflt (
    rename News _ _ _ _ => N9
    first
    | (refine len_at (D := X) (vs := xq) (n := xq.length) (k := xs.length) N9 ?lm (by rw [Q7.1, List.length_map]) (by omega) ?_; case lm => first | (simp; done) | (simp [H5.hX]; done))
    | (refine len_at (D := Y) (vs := yq) (n := yq.length) (k := ys.length) N9 ?lm (by rw [Q8.1, List.length_map]) (by omega) ?_; case lm => first | (simp; done) | (simp [H5.hY]; done))))
  (k_with "my pyIter ref" => k_dflt (
    rename IsRange _ _ _ _ _ _ _ _ => hR
    rename Fr _ _ _ _ => F9
    rename News _ _ _ _ => N9
    obtain ⟨oY2, oT2, N11, dY2, dT2⟩ : ∃ oY2 oT2 : Obj, News g' L' _ ((TB, W.listOf #[] 0) :: (d, o3) :: (L' + 1 + 1 + 1 + 1 + 1 + 1, oj) :: (L' + 1 + 1 + 1 + 1 + 1, oi) :: (L' + 1 + 1 + 1 + 1, oT2) :: (L' + 1 + 1 + 1, oY2) :: (L' + 1 + 1, oX2) :: (L' + 1, oN) :: ((Y, LCg.lst yq) :: (X, LCg.lst xq) :: (own3 ++ pre))) ∧ oY2.data = .cell (some (.ref Y)) ∧ oT2.data = .cell (some (.ref TB)) := ⟨_, _, perm_sum N9, by assumption, by assumption⟩
    have hTBp : ∀ p ∈ own3 ++ pre, p.1 ≠ TB := fun p hp => Nat.ne_of_lt (lTB0 p (by (have hp9 := hp; (with_reducible repeat (first | assumption | exact List.mem_cons_self | apply List.mem_cons_of_mem)))))
    have hH0 : SumF prog w xs ys T d ([L' + 1, L' + 1 + 1, L' + 1 + 1 + 1, L' + 1 + 1 + 1 + 1, L' + 1 + 1 + 1 + 1 + 1, L' + 1 + 1 + 1 + 1 + 1 + 1] ++ [d, TB]) pre X Y xq yq 0 [] o3 kvs3 ((Y, LCg.lst yq) :: (X, LCg.lst xq) :: (own3 ++ pre)) own3 (10 + 0 * (ys.length * 9)) := sum_start (l := L') M8 Q8 Q7 hpL (by omega) (by
      intro a ha9
      simp only [List.cons_append, List.nil_append, List.mem_cons, List.not_mem_nil, or_false] at ha9
      rcases ha9 with rfl | rfl | rfl | rfl | rfl | rfl
      all_goals (constructor <;> omega)) (by
      intro a ha9
      simp only [List.cons_append, List.nil_append, List.mem_cons, List.not_mem_nil, or_false] at ha9
      rcases ha9 with rfl | rfl | rfl | rfl | rfl | rfl | rfl | rfl
      all_goals (show (@Ne Nat X _); omega)) (by
      intro a ha9
      simp only [List.cons_append, List.nil_append, List.mem_cons, List.not_mem_nil, or_false] at ha9
      rcases ha9 with rfl | rfl | rfl | rfl | rfl | rfl | rfl | rfl
      all_goals (show (@Ne Nat Y _); omega)) hTBp (by omega)
    k_dflt (refine' range_T (n := xs.length) (fun i m news => ∃ oj oi vj vi tvs nT o' kvs' rest led, news = (TB, W.listOf tvs.toArray nT) :: (d, o') :: (L' + 1 + 1 + 1 + 1 + 1 + 1, oj) :: (L' + 1 + 1 + 1 + 1 + 1, oi) :: (L' + 1 + 1 + 1 + 1, oT2) :: (L' + 1 + 1 + 1, oY2) :: (L' + 1 + 1, oX2) :: (L' + 1, oN) :: rest ∧ Obj.data oj = .cell vj ∧ Obj.data oi = .cell vi ∧ tvs.length = i ∧ SumF prog w xs ys T d ([L' + 1, L' + 1 + 1, L' + 1 + 1 + 1, L' + 1 + 1 + 1 + 1, L' + 1 + 1 + 1 + 1 + 1, L' + 1 + 1 + 1 + 1 + 1 + 1] ++ [d, TB]) pre X Y xq yq i tvs o' kvs' rest led (10 + i * (ys.length * 9))) ?hh hR ?sm ?hn F9 N11 ⟨oj, oi, _, _, [], 0, o3, kvs3, _, _, rfl, dj, di, rfl, hH0⟩ ?hgo ?turn ?done)
    case hh => k_dflt (exact rfl)
    case sm => exact small_one (by omega) (by omega) (by omega) (by omega)
    case hn => exact rangeSize_nat' _
    case hgo => intro _ _; rfl
    case' turn =>
      rintro i ti m₁ news₁ Ii oIi ⟨h3, gn3, dr3, tk3, os3⟩ hi ⟨oj1, oi1, vj1, vi1, tvs, nT, o5, kvs5, rest5, led5, rfl, dj1, di1, htl, H5⟩ hoffI F3 N3
      (dsimp only at F3 N3 ⊢)
      have hTurn := trivial
      have hI := off1_of hoffI
      (simp only [LCg.Off1] at hI)
      have hs1 : ∀ p ∈ rest5, p.1 ≠ L' + 1 := fun p hp => H5.off p hp _ (by simp)
      have hs2 : ∀ p ∈ rest5, p.1 ≠ L' + 1 + 1 := fun p hp => H5.off p hp _ (by simp)
      have hs3 : ∀ p ∈ rest5, p.1 ≠ L' + 1 + 1 + 1 := fun p hp => H5.off p hp _ (by simp)
      have hs4 : ∀ p ∈ rest5, p.1 ≠ L' + 1 + 1 + 1 + 1 := fun p hp => H5.off p hp _ (by simp)
      have hs5 : ∀ p ∈ rest5, p.1 ≠ L' + 1 + 1 + 1 + 1 + 1 := fun p hp => H5.off p hp _ (by simp)
      have hs6 : ∀ p ∈ rest5, p.1 ≠ L' + 1 + 1 + 1 + 1 + 1 + 1 := fun p hp => H5.off p hp _ (by simp)
      have hsd5 : ∀ p ∈ rest5, p.1 ≠ d := fun p hp => H5.off p hp _ (by simp)
      have hsT5 : ∀ p ∈ rest5, p.1 ≠ TB := fun p hp => H5.off p hp _ (by simp)
      (try k_fold)
    case' done =>
      rintro m₁ news₁ h3 tk3 ⟨oj1, oi1, vj1, vi1, tvs, nT, o5, kvs5, rest5, led5, rfl, dj1, di1, htl, H5⟩ F3 N3
      have hs1 : ∀ p ∈ rest5, p.1 ≠ L' + 1 := fun p hp => H5.off p hp _ (by simp)
      have hs2 : ∀ p ∈ rest5, p.1 ≠ L' + 1 + 1 := fun p hp => H5.off p hp _ (by simp)
      have hs3 : ∀ p ∈ rest5, p.1 ≠ L' + 1 + 1 + 1 := fun p hp => H5.off p hp _ (by simp)
      have hs4 : ∀ p ∈ rest5, p.1 ≠ L' + 1 + 1 + 1 + 1 := fun p hp => H5.off p hp _ (by simp)
      have hs5 : ∀ p ∈ rest5, p.1 ≠ L' + 1 + 1 + 1 + 1 + 1 := fun p hp => H5.off p hp _ (by simp)
      have hs6 : ∀ p ∈ rest5, p.1 ≠ L' + 1 + 1 + 1 + 1 + 1 + 1 := fun p hp => H5.off p hp _ (by simp)
      have hsd5 : ∀ p ∈ rest5, p.1 ≠ d := fun p hp => H5.off p hp _ (by simp)
      have hsT5 : ∀ p ∈ rest5, p.1 ≠ TB := fun p hp => H5.off p hp _ (by simp)
      have hDone := trivial
      obtain ⟨Rz, vsz, nz, hRz, hmz, hlz, hcz'⟩ := H5.rows (xs.length - 1) (by omega)
      obtain ⟨tz, hcz⟩ := hcz' (ys.length - 1) (by omega)
      obtain ⟨qz, hvz, dqz, kz, tqz, hqz1, hqz2⟩ := names_at H5.names (H5.keys (xs.length - 1) (by omega) (ys.length - 1) (by omega))
      have hqz3 := H5.sub _ hqz1
      have hqz4 := H5.sub _ hqz2
      have hmz5 := hmz
      have N4 := news_add N3 (List.mem_cons_of_mem _ (List.mem_cons_of_mem _ (List.mem_cons_of_mem _ (List.mem_cons_of_mem _ (List.mem_cons_of_mem _ (List.mem_cons_of_mem _ (List.mem_cons_of_mem _ (List.mem_cons_of_mem _ hqz3)))))))) (news_add N3 (List.mem_cons_of_mem _ (List.mem_cons_of_mem _ (List.mem_cons_of_mem _ (List.mem_cons_of_mem _ (List.mem_cons_of_mem _ (List.mem_cons_of_mem _ (List.mem_cons_of_mem _ (List.mem_cons_of_mem _ hqz4)))))))) N3)
      clear N3
      (try k_fold)))
  (k_with "my pyIter ref" => k_dflt (
    have hT9 := hTurn
    rename IsRange _ _ _ _ _ _ _ _ => hR
    rename Fr _ _ _ _ => F9
    rename News _ _ _ _ => N9
    have e9 : tvs.toArray.push (.ref R) = (tvs ++ [Value.ref R]).toArray := by simp
    rw [e9] at N9
    obtain ⟨oi2, N11, di2⟩ : ∃ oi2 : Obj, News g' L' _ ((R, W.listOf #[] 0) :: (Ii, oIi) :: (TB, W.listOf (tvs ++ [Value.ref R]).toArray (nT + 1)) :: (d, o5) :: (L' + 1 + 1 + 1 + 1 + 1 + 1, oj1) :: (L' + 1 + 1 + 1 + 1 + 1, oi2) :: (L' + 1 + 1 + 1 + 1, oT2) :: (L' + 1 + 1 + 1, oY2) :: (L' + 1 + 1, oX2) :: (L' + 1, oN) :: rest5) ∧ oi2.data = .cell (some (.int (i : Int) ti)) := ⟨_, N9, by assumption⟩
    have hRr : ∀ p ∈ rest5, p.1 ≠ R := fun p hp => Nat.ne_of_lt (lR0 p (by simp [hp]))
    have hIr : ∀ p ∈ rest5, p.1 ≠ Ii := fun p hp => hoffI p (by simp [hp])
    have H5i := H5.inner htl hRr hIr
    have htR : (tvs ++ [Value.ref R])[i]? = some (.ref R) := by rw [← htl]; simp
    have htl2 : (tvs ++ [Value.ref R]).length = i + 1 := by rw [List.length_append, htl]; rfl
    k_dflt (refine' range_T (n := ys.length) (fun j m news => ∃ oj vj rvs nR o' kvs' rest led, news = (R, W.listOf rvs.toArray nR) :: (Ii, oIi) :: (TB, W.listOf (tvs ++ [Value.ref R]).toArray (nT + 1)) :: (d, o') :: (L' + 1 + 1 + 1 + 1 + 1 + 1, oj) :: (L' + 1 + 1 + 1 + 1 + 1, oi2) :: (L' + 1 + 1 + 1 + 1, oT2) :: (L' + 1 + 1 + 1, oY2) :: (L' + 1 + 1, oX2) :: (L' + 1, oN) :: rest ∧ Obj.data oj = .cell vj ∧ rvs.length = j ∧ (∀ l < j, ∃ t, rvs[l]? = some (.str (S (at2 T i l)) t)) ∧ (∀ l < j, (valueAt kvs' (S (at2 T i l))).isSome = true) ∧ SumF prog w xs ys T d (([L' + 1, L' + 1 + 1, L' + 1 + 1 + 1, L' + 1 + 1 + 1 + 1, L' + 1 + 1 + 1 + 1 + 1, L' + 1 + 1 + 1 + 1 + 1 + 1] ++ [d, TB]) ++ [R, Ii]) pre X Y xq yq i (tvs ++ [Value.ref R]) o' kvs' rest led (10 + i * (ys.length * 9) + j * 9)) ?hh2 hR ?sm2 ?hn2 F9 N11 ⟨oj1, _, [], 0, o5, kvs5, _, _, rfl, dj1, rfl, fun l h => absurd h (Nat.not_lt_zero _), fun l h => absurd h (Nat.not_lt_zero _), H5i⟩ ?hgo2 ?turn2 ?done2)
    case hh2 => k_dflt (exact rfl)
    case sm2 => exact small_one (by omega) (by omega) (by omega) (by omega)
    case hn2 => exact rangeSize_nat' _
    case hgo2 => intro _ _; rfl
    case' turn2 =>
      rintro j tj m₂ news₂ Ij oIj ⟨h6, gn6, dr6, tk6, os6⟩ hj ⟨oj2, vj2, rvs, nR, o6, kvs6, rest6, led6, rfl, dj2, hrl, hrv, hrk6, H6⟩ hoffJ F6 N6
      (dsimp only at F6 N6 ⊢)
      have hJ := off1_of hoffJ
      (simp only [LCg.Off1] at hJ)
      have hs16 : ∀ p ∈ rest6, p.1 ≠ L' + 1 := fun p hp => H6.off p hp _ (by simp)
      have hs26 : ∀ p ∈ rest6, p.1 ≠ L' + 1 + 1 := fun p hp => H6.off p hp _ (by simp)
      have hs36 : ∀ p ∈ rest6, p.1 ≠ L' + 1 + 1 + 1 := fun p hp => H6.off p hp _ (by simp)
      have hs46 : ∀ p ∈ rest6, p.1 ≠ L' + 1 + 1 + 1 + 1 := fun p hp => H6.off p hp _ (by simp)
      have hs56 : ∀ p ∈ rest6, p.1 ≠ L' + 1 + 1 + 1 + 1 + 1 := fun p hp => H6.off p hp _ (by simp)
      have hs66 : ∀ p ∈ rest6, p.1 ≠ L' + 1 + 1 + 1 + 1 + 1 + 1 := fun p hp => H6.off p hp _ (by simp)
      have hs76 : ∀ p ∈ rest6, p.1 ≠ d := fun p hp => H6.off p hp _ (by simp)
      have hs86 : ∀ p ∈ rest6, p.1 ≠ TB := fun p hp => H6.off p hp _ (by simp)
      have hsR6 : ∀ p ∈ rest6, p.1 ≠ R := fun p hp => H6.off p hp _ (by simp)
      have hsI6 : ∀ p ∈ rest6, p.1 ≠ Ii := fun p hp => H6.off p hp _ (by simp)
      have hmX6 := H6.hX
      have hmY6 := H6.hY
      have hfew6 : kvs6.length ≤ 900 := by
        have h1 := H6.few
        have h2 : i * (ys.length * 9) ≤ 5 * 45 := Nat.mul_le_mul (by omega) (by omega)
        omega
      obtain ⟨qi, hqi, hQi⟩ := qs_at H6.qX hi
      obtain ⟨qj, hqj, hQj⟩ := qs_at H6.qY hj
      (try k_fold)
    case' done2 =>
      rintro m₂ news₂ h6 tk6 ⟨oj2, vj2, rvs, nR, o6, kvs6, rest6, led6, rfl, dj2, hrl, hrv, hrk6, H6⟩ F6 N6
      (try k_fold)))
  (k_with "my CompSrcT" => k_dflt (
    (fail_if_success (have f9 := flA1))
    rename IsRange _ _ _ _ _ _ _ _ => hR
    rename News _ _ _ _ => N9
    refine use_led N9 fun ledg hledg N10 => ?_
    k_dflt (refine' LCt.CompSrcT.range (n := i) ?hhA1 ?FA1 N10 hR ?smA1 ?hnA1 ?zA1 ?_)
    case hhA1 => k_dflt (exact rfl)
    case FA1 => k_asm
    case smA1 => exact small_one (by omega) (by omega) (by omega) (by omega)
    case hnA1 => exact rangeSize_nat' _
    case zA1 => rw [sizeLine_eq]; omega
    intro gg
    k_dflt (refine' comp_indT (fun k ys' news => news = ledg ∧ QsAre w led6 ys' (lowX xs T i j k)) ?stA1 ?fiA1 _ 0 [] ledg (Nat.zero_add _) ⟨rfl, QsAre.nil⟩)
    case' stA1 =>
      rintro k ys3 news hk9 ⟨rfl, QZ⟩ v Ic oIc C oC D m₂ h5 tk5 E5 ⟨kt, rfl⟩ hNC hx F5 N5 off5 ne5
      rw [Int.zero_add] at hx
      subst hledg
      have hCE : True := trivial
      obtain ⟨qk, hqk, hQk⟩ := qs_at H6.qX (k := k) (by omega)
      obtain ⟨Rk, vsk, nk, hRk, hmk, hlk, hck⟩ := H6.rows k hk9
      obtain ⟨ct, hct⟩ := hck j hj
      obtain ⟨qc, hvc, hQc⟩ := names_at H6.names (H6.keys k hk9 j hj)
      (try k_fold)
    case' fiA1 =>
      rintro vsA1 news ⟨rfl, QA1⟩
      subst hledg
      unfold LCg.FinA
      intro DA1 h5 tk5 F5 N5 offA1
      have flA1 := trivial
      (try k_fold)))
  (k_with "my CompSrcT" => k_dflt (
    have f9 := flA1
    (fail_if_success (have f9 := flB1))
    rename IsRange _ _ _ _ _ _ _ _ => hR
    rename News _ _ _ _ => N9
    refine use_led N9 fun ledg hledg N10 => ?_
    k_dflt (refine' LCt.CompSrcT.range (n := j) ?hhB1 ?FB1 N10 hR ?smB1 ?hnB1 ?zB1 ?_)
    case hhB1 => k_dflt (exact rfl)
    case FB1 => k_asm
    case smB1 => exact small_one (by omega) (by omega) (by omega) (by omega)
    case hnB1 => exact rangeSize_nat' _
    case zB1 => rw [sizeLine_eq]; omega
    intro gg
    k_dflt (refine' comp_indT (fun k ys' news => news = ledg ∧ QsAre w led6 ys' (lowY ys T i j k)) ?stB1 ?fiB1 _ 0 [] ledg (Nat.zero_add _) ⟨rfl, QsAre.nil⟩)
    case' stB1 =>
      rintro k ys3 news hk9 ⟨rfl, QZ⟩ v Ic oIc C oC D m₂ h5 tk5 E5 ⟨kt, rfl⟩ hNC hx F5 N5 off5 ne5
      rw [Int.zero_add] at hx
      subst hledg
      have hCE : True := trivial
      obtain ⟨qk, hqk, hQk⟩ := qs_at H6.qY (k := k) (by omega)
      obtain ⟨ct, hct⟩ := hrv k hk9
      obtain ⟨qc, hvc, hQc⟩ := names_at H6.names (hrk6 k hk9)
      (try k_fold)
    case' fiB1 =>
      rintro vsB1 news ⟨rfl, QB1⟩
      subst hledg
      unfold LCg.FinE
      intro DB1 h5 tk5 F5 N5 offB1
      have flB1 := trivial
      (try k_fold)))
  (k_with "my CompSrcT" => k_dflt (
    have f9 := flB1
    (fail_if_success (have f9 := flA2))
    rename IsRange _ _ _ _ _ _ _ _ => hR
    rename News _ _ _ _ => N9
    refine use_led N9 fun ledg hledg N10 => ?_
    k_dflt (refine' LCt.CompSrcT.range (n := i) ?hhA2 ?FA2 N10 hR ?smA2 ?hnA2 ?zA2 ?_)
    case hhA2 => k_dflt (exact rfl)
    case FA2 => k_asm
    case smA2 => exact small_one (by omega) (by omega) (by omega) (by omega)
    case hnA2 => exact rangeSize_nat' _
    case zA2 => rw [sizeLine_eq]; omega
    intro gg
    k_dflt (refine' comp_indT (fun k ys' news => news = ledg ∧ QsAre w led6 ys' (highX xs T i j k)) ?stA2 ?fiA2 _ 0 [] ledg (Nat.zero_add _) ⟨rfl, QsAre.nil⟩)
    case' stA2 =>
      rintro k ys3 news hk9 ⟨rfl, QZ⟩ v Ic oIc C oC D m₂ h5 tk5 E5 ⟨kt, rfl⟩ hNC hx F5 N5 off5 ne5
      rw [Int.zero_add] at hx
      subst hledg
      have hCE : True := trivial
      obtain ⟨qk, hqk, hQk⟩ := qs_at H6.qX (k := k) (by omega)
      obtain ⟨Rk, vsk, nk, hRk, hmk, hlk, hck⟩ := H6.rows k hk9
      obtain ⟨ct, hct⟩ := hck j hj
      obtain ⟨qc, hvc, hQc⟩ := names_at H6.names (H6.keys k hk9 j hj)
      (try k_fold)
    case' fiA2 =>
      rintro vsA2 news ⟨rfl, QA2⟩
      subst hledg
      unfold LCg.FinA
      intro DA2 h5 tk5 F5 N5 offA2
      have flA2 := trivial
      (try k_fold)))
  (k_with "my CompSrcT" => k_dflt (
    have f9 := flA2
    rename IsRange _ _ _ _ _ _ _ _ => hR
    rename News _ _ _ _ => N9
    refine use_led N9 fun ledg hledg N10 => ?_
    k_dflt (refine' LCt.CompSrcT.range (n := j) ?hhB2 ?FB2 N10 hR ?smB2 ?hnB2 ?zB2 ?_)
    case hhB2 => k_dflt (exact rfl)
    case FB2 => k_asm
    case smB2 => exact small_one (by omega) (by omega) (by omega) (by omega)
    case hnB2 => exact rangeSize_nat' _
    case zB2 => rw [sizeLine_eq]; omega
    intro gg
    k_dflt (refine' comp_indT (fun k ys' news => news = ledg ∧ QsAre w led6 ys' (highY ys T i j k)) ?stB2 ?fiB2 _ 0 [] ledg (Nat.zero_add _) ⟨rfl, QsAre.nil⟩)
    case' stB2 =>
      rintro k ys3 news hk9 ⟨rfl, QZ⟩ v Ic oIc C oC D m₂ h5 tk5 E5 ⟨kt, rfl⟩ hNC hx F5 N5 off5 ne5
      rw [Int.zero_add] at hx
      subst hledg
      have hCE : True := trivial
      obtain ⟨qk, hqk, hQk⟩ := qs_at H6.qY (k := k) (by omega)
      obtain ⟨ct, hct⟩ := hrv k hk9
      obtain ⟨qc, hvc, hQc⟩ := names_at H6.names (hrk6 k hk9)
      (try k_fold)
    case' fiB2 =>
      rintro vsB2 news ⟨rfl, QB2⟩
      subst hledg
      unfold LCg.FinE
      intro DB2 h5 tk5 F5 N5 offB2
      have flB2 := trivial
      (try k_fold)))
  (k_with "my Lt" => (
    rename News _ _ _ _ => N9
    k_dflt (refine' lt_q prog w mean mg mb _ _ _ (nx xs k) (nx xs i) ?qa ?qb _ _ _ _ _ _ _ _ _ _ _ _ _ _ _ _ _ ?k1 ?k2 ?k3 N9 ?k5 ?kK ?kd ?ku ?_; (case qa => exact hQk.mono fun p hp => by (have hp9 := H6.sub p hp; (with_reducible repeat (first | assumption | exact List.mem_cons_self | apply List.mem_cons_of_mem)))); (case qb => exact hQi.mono fun p hp => by (have hp9 := H6.sub p hp; (with_reducible repeat (first | assumption | exact List.mem_cons_self | apply List.mem_cons_of_mem)))); (case k1 => k_asm); (case k2 => k_asm); (case k3 => k_asm); (case k5 => k_asm); (case kK => first | exact rfl | assumption); (case kd => ktr_room); (case ku => ktr_units))
    rintro r7 news7 h7 tk7 F7 N7 ⟨rfl, rfl⟩
    cases hb7 : ltL (nx xs k) (nx xs i)
    all_goals (try dsimp only)
    all_goals (try k_fold)))
  (k_with "my Lt" => (
    rename News _ _ _ _ => N9
    k_dflt (refine' lt_q prog w mean mg mb _ _ _ (nx ys k) (nx ys j) ?qa ?qb _ _ _ _ _ _ _ _ _ _ _ _ _ _ _ _ _ ?k1 ?k2 ?k3 N9 ?k5 ?kK ?kd ?ku ?_; (case qa => exact hQk.mono fun p hp => by (have hp9 := H6.sub p hp; (with_reducible repeat (first | assumption | exact List.mem_cons_self | apply List.mem_cons_of_mem)))); (case qb => exact hQj.mono fun p hp => by (have hp9 := H6.sub p hp; (with_reducible repeat (first | assumption | exact List.mem_cons_self | apply List.mem_cons_of_mem)))); (case k1 => k_asm); (case k2 => k_asm); (case k3 => k_asm); (case k5 => k_asm); (case kK => first | exact rfl | assumption); (case kd => ktr_room); (case ku => ktr_units))
    rintro r7 news7 h7 tk7 F7 N7 ⟨rfl, rfl⟩
    cases hb7 : ltL (nx ys k) (nx ys j)
    all_goals (try dsimp only)
    all_goals (try k_fold)))
  (k_with "my Lt" => (
    rename News _ _ _ _ => N9
    k_dflt (refine' lt_q prog w mean mg mb _ _ _ (nx xs i) (nx xs k) ?qa ?qb _ _ _ _ _ _ _ _ _ _ _ _ _ _ _ _ _ ?k1 ?k2 ?k3 N9 ?k5 ?kK ?kd ?ku ?_; (case qa => exact hQi.mono fun p hp => by (have hp9 := H6.sub p hp; (with_reducible repeat (first | assumption | exact List.mem_cons_self | apply List.mem_cons_of_mem)))); (case qb => exact hQk.mono fun p hp => by (have hp9 := H6.sub p hp; (with_reducible repeat (first | assumption | exact List.mem_cons_self | apply List.mem_cons_of_mem)))); (case k1 => k_asm); (case k2 => k_asm); (case k3 => k_asm); (case k5 => k_asm); (case kK => first | exact rfl | assumption); (case kd => ktr_room); (case ku => ktr_units))
    rintro r7 news7 h7 tk7 F7 N7 ⟨rfl, rfl⟩
    cases hb7 : ltL (nx xs i) (nx xs k)
    all_goals (try dsimp only)
    all_goals (try k_fold)))
  (k_with "my Lt" => (
    rename News _ _ _ _ => N9
    k_dflt (refine' lt_q prog w mean mg mb _ _ _ (nx ys j) (nx ys k) ?qa ?qb _ _ _ _ _ _ _ _ _ _ _ _ _ _ _ _ _ ?k1 ?k2 ?k3 N9 ?k5 ?kK ?kd ?ku ?_; (case qa => exact hQj.mono fun p hp => by (have hp9 := H6.sub p hp; (with_reducible repeat (first | assumption | exact List.mem_cons_self | apply List.mem_cons_of_mem)))); (case qb => exact hQk.mono fun p hp => by (have hp9 := H6.sub p hp; (with_reducible repeat (first | assumption | exact List.mem_cons_self | apply List.mem_cons_of_mem)))); (case k1 => k_asm); (case k2 => k_asm); (case k3 => k_asm); (case k5 => k_asm); (case kK => first | exact rfl | assumption); (case kd => ktr_room); (case ku => ktr_units))
    rintro r7 news7 h7 tk7 F7 N7 ⟨rfl, rfl⟩
    cases hb7 : ltL (nx ys j) (nx ys k)
    all_goals (try dsimp only)
    all_goals (try k_fold)))
  (k_with "my subscriptTail" => k_dflt (
    rename News _ _ _ _ => N9
    first
    | ((with_reducible show wpAny _ _ (subscriptTail _ _ (Value.ref X) (Value.int ((k : Nat) : Int) _)) _ _ _); refine at_nat (D := X) (vs := xq) (k := k) (n := xq.length) N9 ?sm hqk ?sl ?_; (case sm => (with_reducible repeat (first | assumption | exact List.mem_cons_self | apply List.mem_cons_of_mem))); (case sl => rw [H6.qX.1, List.length_map]; omega))
    | ((with_reducible show wpAny _ _ (subscriptTail _ _ (Value.ref X) (Value.int ((i : Nat) : Int) _)) _ _ _); refine at_nat (D := X) (vs := xq) (k := i) (n := xq.length) N9 ?sm hqi ?sl ?_; (case sm => (with_reducible repeat (first | assumption | exact List.mem_cons_self | apply List.mem_cons_of_mem))); (case sl => rw [H6.qX.1, List.length_map]; omega))
    | ((with_reducible show wpAny _ _ (subscriptTail _ _ (Value.ref Y) (Value.int ((k : Nat) : Int) _)) _ _ _); refine at_nat (D := Y) (vs := yq) (k := k) (n := yq.length) N9 ?sm hqk ?sl ?_; (case sm => (with_reducible repeat (first | assumption | exact List.mem_cons_self | apply List.mem_cons_of_mem))); (case sl => rw [H6.qY.1, List.length_map]; omega))
    | ((with_reducible show wpAny _ _ (subscriptTail _ _ (Value.ref Y) (Value.int ((j : Nat) : Int) _)) _ _ _); refine at_nat (D := Y) (vs := yq) (k := j) (n := yq.length) N9 ?sm hqj ?sl ?_; (case sm => (with_reducible repeat (first | assumption | exact List.mem_cons_self | apply List.mem_cons_of_mem))); (case sl => rw [H6.qY.1, List.length_map]; omega))
    | ((with_reducible show wpAny _ _ (subscriptTail _ _ (Value.ref TB) (Value.int ((k : Nat) : Int) _)) _ _ _); refine at_nat (D := TB) (vs := tvs ++ [Value.ref R]) (k := k) (n := nT + 1) N9 ?sm hRk ?sl ?_; (case sm => (with_reducible repeat (first | assumption | exact List.mem_cons_self | apply List.mem_cons_of_mem))); (case sl => rw [htl2]; omega))
    | ((with_reducible show wpAny _ _ (subscriptTail _ _ (Value.ref TB) (Value.int ((i : Nat) : Int) _)) _ _ _); refine at_nat (D := TB) (vs := tvs ++ [Value.ref R]) (k := i) (n := nT + 1) N9 ?sm htR ?sl ?_; (case sm => (with_reducible repeat (first | assumption | exact List.mem_cons_self | apply List.mem_cons_of_mem))); (case sl => rw [htl2]; omega))
    | ((with_reducible show wpAny _ _ (subscriptTail _ _ (Value.ref Rk) (Value.int ((j : Nat) : Int) _)) _ _ _); refine at_nat (D := Rk) (vs := vsk) (k := j) (n := nk) N9 ?sm hct ?sl ?_; (case sm => (with_reducible repeat (first | assumption | exact List.mem_cons_self | apply List.mem_cons_of_mem))); (case sl => rw [hlk]; omega))
    | ((with_reducible show wpAny _ _ (subscriptTail _ _ (Value.ref R) (Value.int ((k : Nat) : Int) _)) _ _ _); refine at_nat (D := R) (vs := rvs) (k := k) (n := nR) N9 ?sm hct ?sl ?_; (case sm => (with_reducible repeat (first | assumption | exact List.mem_cons_self | apply List.mem_cons_of_mem))); (case sl => rw [hrl]; omega))
    | ((with_reducible show wpAny _ _ (subscriptTail _ _ (Value.ref d) (Value.str _ _)) _ _ _); refine at_dictS (d := d) (o := o6) N9 ?sm H6.names.dict hvc ?_; (case sm => (with_reducible repeat (first | assumption | exact List.mem_cons_self | apply List.mem_cons_of_mem))))))
  (k_with "my CompEnd" => k_dflt (
    have hC9 := hCE
    rename News _ _ _ _ => N9
    refine' LCg.CompEnd.intro ?cF9 N9 _ (fun _ h => h) off5 trivial ⟨rfl, ?cJ9⟩
    case cF9 => assumption
    case cJ9 => first | (rw [lowX_yes hb7]; exact QZ.snoc hQc) | (rw [lowX_no hb7]; exact QZ) | (rw [lowY_yes hb7]; exact QZ.snoc hQc) | (rw [lowY_no hb7]; exact QZ) | (rw [highX_yes hb7]; exact QZ.snoc hQc) | (rw [highX_no hb7]; exact QZ) | (rw [highY_yes hb7]; exact QZ.snoc hQc) | (rw [highY_no hb7]; exact QZ)))
  (k_with "my Add" => k_dflt (
    (fail_if_success (have f9 := hQlo))
    rename News _ _ _ _ => N9
    rename Fr _ _ _ _ => F9
    have hl1 := low_len xs T i j i
    have hl2 := low_len ys T i j j
    refine' add_two (vs := vsA1) (us := vsB1) (n1 := vsA1.length) (n2 := vsB1.length) F9 N9 ?am ?bm ?az ?_
    case am => (with_reducible repeat (first | assumption | exact List.mem_cons_self | apply List.mem_cons_of_mem))
    case bm => (with_reducible repeat (first | assumption | exact List.mem_cons_self | apply List.mem_cons_of_mem))
    case az => rw [QA1.1, QB1.1]; omega
    intro la h5 F5 N5 lla
    have hQlo := QA1.append QB1
    (try k_lt lla)
    (try k_fold)))
  (k_with "my Add" => k_dflt (
    have f9 := hQlo
    rename News _ _ _ _ => N9
    rename Fr _ _ _ _ => F9
    have hl1 := low_len xs T i j i
    have hl2 := low_len ys T i j j
    refine' add_two (vs := vsA2) (us := vsB2) (n1 := vsA2.length) (n2 := vsB2.length) F9 N9 ?am ?bm ?az ?_
    case am => (with_reducible repeat (first | assumption | exact List.mem_cons_self | apply List.mem_cons_of_mem))
    case bm => (with_reducible repeat (first | assumption | exact List.mem_cons_self | apply List.mem_cons_of_mem))
    case az => rw [QA2.1, QB2.1]; omega
    intro ha h5 F5 N5 lha
    have hQhi := QA2.append QB2
    (try k_lt lha)
    (try k_fold)))
  (k_with "call ref" => (
    (with_reducible show wpAny _ _ (call (Value.ref 210) _) _ _ _)
    rename News _ _ _ _ => N9
    obtain ⟨oj3, dj3, N8⟩ : ∃ oj3 : Obj, Obj.data oj3 = .cell (some (.int (j : Int) tj)) ∧ News g' L' _ ((d, o6) :: (la, W.listOf (vsA1 ++ vsB1).toArray 0) :: (ha, W.listOf (vsA2 ++ vsB2).toArray 0) :: (Ij, oIj) :: (R, W.listOf rvs.toArray nR) :: (Ii, oIi) :: (TB, W.listOf (tvs ++ [Value.ref R]).toArray (nT + 1)) :: (L' + 1 + 1 + 1 + 1 + 1 + 1, oj3) :: (L' + 1 + 1 + 1 + 1 + 1, oi2) :: (L' + 1 + 1 + 1 + 1, oT2) :: (L' + 1 + 1 + 1, oY2) :: (L' + 1 + 1, oX2) :: (L' + 1, oN) :: rest6) := ⟨_, by assumption, news_sub N9 (fun p hp => by (simp only [List.mem_cons] at hp; rcases hp with rfl | rfl | rfl | rfl | rfl | rfl | rfl | rfl | rfl | rfl | rfl | rfl | rfl | hp <;> (with_reducible repeat (first | assumption | exact List.mem_cons_self | apply List.mem_cons_of_mem))))⟩
    have hoff8 : ∀ p ∈ (la, W.listOf (vsA1 ++ vsB1).toArray 0) :: (ha, W.listOf (vsA2 ++ vsB2).toArray 0) :: (Ij, oIj) :: (R, W.listOf rvs.toArray nR) :: (Ii, oIi) :: (TB, W.listOf (tvs ++ [Value.ref R]).toArray (nT + 1)) :: (L' + 1 + 1 + 1 + 1 + 1 + 1, oj3) :: (L' + 1 + 1 + 1 + 1 + 1, oi2) :: (L' + 1 + 1 + 1 + 1, oT2) :: (L' + 1 + 1 + 1, oY2) :: (L' + 1 + 1, oX2) :: (L' + 1, oN) :: rest6, p.1 ≠ d := by
      intro p hp
      simp only [List.mem_cons] at hp
      rcases hp with rfl | rfl | rfl | rfl | rfl | rfl | rfl | rfl | rfl | rfl | rfl | rfl | hp
      all_goals (first | exact hs76 p hp | (show (@Ne Nat _ d); dsimp only; omega))
    have hsub8 : ∀ p ∈ led6, p ∈ (la, W.listOf (vsA1 ++ vsB1).toArray 0) :: (ha, W.listOf (vsA2 ++ vsB2).toArray 0) :: (Ij, oIj) :: (R, W.listOf rvs.toArray nR) :: (Ii, oIi) :: (TB, W.listOf (tvs ++ [Value.ref R]).toArray (nT + 1)) :: (L' + 1 + 1 + 1 + 1 + 1 + 1, oj3) :: (L' + 1 + 1 + 1 + 1 + 1, oi2) :: (L' + 1 + 1 + 1 + 1, oT2) :: (L' + 1 + 1 + 1, oY2) :: (L' + 1 + 1, oX2) :: (L' + 1, oN) :: rest6 := fun p hp => by (have hp9 := H6.sub p hp; (with_reducible repeat (first | assumption | exact List.mem_cons_self | apply List.mem_cons_of_mem)))
    have hl1 := low_len xs T i j i
    have hl2 := low_len ys T i j j
    k_dflt (refine' between_c prog w mean mg mb ((la, W.listOf (vsA1 ++ vsB1).toArray 0) :: (ha, W.listOf (vsA2 ++ vsB2).toArray 0) :: (Ij, oIj) :: (R, W.listOf rvs.toArray nR) :: (Ii, oIi) :: (TB, W.listOf (tvs ++ [Value.ref R]).toArray (nT + 1)) :: (L' + 1 + 1 + 1 + 1 + 1 + 1, oj3) :: (L' + 1 + 1 + 1 + 1 + 1, oi2) :: (L' + 1 + 1 + 1 + 1, oT2) :: (L' + 1 + 1 + 1, oY2) :: (L' + 1 + 1, oX2) :: (L' + 1, oN) :: rest6) led6 la ha d o6 kvs6 (vsA1 ++ vsB1) (vsA2 ++ vsB2) 0 0 (lowX xs T i j i ++ lowY ys T i j j) (highX xs T i j i ++ highY ys T i j j) (at2 T i j) hsub8 hoff8 H6.names hfew6 ?b1 ?b2 hQlo hQhi ?b3 ?b4 (hT.cell i hi j hj) _ _ _ _ _ _ _ _ _ _ _ _ _ _ _ _ _ ?k1 ?k2 ?k3 N8 ?k5 ?kK ?kd ?ku ?_; (case b1 => (with_reducible repeat (first | assumption | exact List.mem_cons_self | apply List.mem_cons_of_mem))); (case b2 => (with_reducible repeat (first | assumption | exact List.mem_cons_self | apply List.mem_cons_of_mem))); (case b3 => rw [List.length_append]; omega); (case b4 => rw [List.length_append]; omega); (case k1 => k_asm); (case k2 => k_asm); (case k3 => k_asm); (case k5 => k_asm); (case kK => first | exact rfl | assumption); (case kd => ktr_room); (case ku => ktr_units))
    rintro r8 news8 h8 tk8 F8 N8' ⟨o7, kvs7, own7, t7, rfl, rfl, G7, hab7, hv7⟩
    have mIj : (Ij, oIj) ∈ (la, W.listOf (vsA1 ++ vsB1).toArray 0) :: (ha, W.listOf (vsA2 ++ vsB2).toArray 0) :: (Ij, oIj) :: (R, W.listOf rvs.toArray nR) :: (Ii, oIi) :: (TB, W.listOf (tvs ++ [Value.ref R]).toArray (nT + 1)) :: (L' + 1 + 1 + 1 + 1 + 1 + 1, oj3) :: (L' + 1 + 1 + 1 + 1 + 1, oi2) :: (L' + 1 + 1 + 1 + 1, oT2) :: (L' + 1 + 1 + 1, oY2) :: (L' + 1 + 1, oX2) :: (L' + 1, oN) :: rest6 := by (with_reducible repeat (first | assumption | exact List.mem_cons_self | apply List.mem_cons_of_mem))
    have mR : (R, W.listOf rvs.toArray nR) ∈ (la, W.listOf (vsA1 ++ vsB1).toArray 0) :: (ha, W.listOf (vsA2 ++ vsB2).toArray 0) :: (Ij, oIj) :: (R, W.listOf rvs.toArray nR) :: (Ii, oIi) :: (TB, W.listOf (tvs ++ [Value.ref R]).toArray (nT + 1)) :: (L' + 1 + 1 + 1 + 1 + 1 + 1, oj3) :: (L' + 1 + 1 + 1 + 1 + 1, oi2) :: (L' + 1 + 1 + 1 + 1, oT2) :: (L' + 1 + 1 + 1, oY2) :: (L' + 1 + 1, oX2) :: (L' + 1, oN) :: rest6 := by (with_reducible repeat (first | assumption | exact List.mem_cons_self | apply List.mem_cons_of_mem))
    have mIi : (Ii, oIi) ∈ (la, W.listOf (vsA1 ++ vsB1).toArray 0) :: (ha, W.listOf (vsA2 ++ vsB2).toArray 0) :: (Ij, oIj) :: (R, W.listOf rvs.toArray nR) :: (Ii, oIi) :: (TB, W.listOf (tvs ++ [Value.ref R]).toArray (nT + 1)) :: (L' + 1 + 1 + 1 + 1 + 1 + 1, oj3) :: (L' + 1 + 1 + 1 + 1 + 1, oi2) :: (L' + 1 + 1 + 1 + 1, oT2) :: (L' + 1 + 1 + 1, oY2) :: (L' + 1 + 1, oX2) :: (L' + 1, oN) :: rest6 := by (with_reducible repeat (first | assumption | exact List.mem_cons_self | apply List.mem_cons_of_mem))
    have mTB : (TB, W.listOf (tvs ++ [Value.ref R]).toArray (nT + 1)) ∈ (la, W.listOf (vsA1 ++ vsB1).toArray 0) :: (ha, W.listOf (vsA2 ++ vsB2).toArray 0) :: (Ij, oIj) :: (R, W.listOf rvs.toArray nR) :: (Ii, oIi) :: (TB, W.listOf (tvs ++ [Value.ref R]).toArray (nT + 1)) :: (L' + 1 + 1 + 1 + 1 + 1 + 1, oj3) :: (L' + 1 + 1 + 1 + 1 + 1, oi2) :: (L' + 1 + 1 + 1 + 1, oT2) :: (L' + 1 + 1 + 1, oY2) :: (L' + 1 + 1, oX2) :: (L' + 1, oN) :: rest6 := by (with_reducible repeat (first | assumption | exact List.mem_cons_self | apply List.mem_cons_of_mem))
    have hr8 : ∀ p ∈ rest6, p ∈ (la, W.listOf (vsA1 ++ vsB1).toArray 0) :: (ha, W.listOf (vsA2 ++ vsB2).toArray 0) :: (Ij, oIj) :: (R, W.listOf rvs.toArray nR) :: (Ii, oIi) :: (TB, W.listOf (tvs ++ [Value.ref R]).toArray (nT + 1)) :: (L' + 1 + 1 + 1 + 1 + 1 + 1, oj3) :: (L' + 1 + 1 + 1 + 1 + 1, oi2) :: (L' + 1 + 1 + 1 + 1, oT2) :: (L' + 1 + 1 + 1, oY2) :: (L' + 1 + 1, oX2) :: (L' + 1, oN) :: rest6 := fun p hp => by (have hp9 := hp; (with_reducible repeat (first | assumption | exact List.mem_cons_self | apply List.mem_cons_of_mem)))
    have N7 : News g' L' h8 ((Ij, oIj) :: (R, W.listOf rvs.toArray nR) :: (Ii, oIi) :: (TB, W.listOf (tvs ++ [Value.ref R]).toArray (nT + 1)) :: (d, o7) :: (L' + 1 + 1 + 1 + 1 + 1 + 1, oj3) :: (L' + 1 + 1 + 1 + 1 + 1, oi2) :: (L' + 1 + 1 + 1 + 1, oT2) :: (L' + 1 + 1 + 1, oY2) :: (L' + 1 + 1, oX2) :: (L' + 1, oN) :: (own7 ++ rest6)) :=
      news_add N8' (in_big mIj) (news_add N8' (in_big mR) (news_add N8' (in_big mIi) (news_add N8' (in_big mTB) (news_add N8' List.mem_cons_self (news_sub N8' (fun p hp => by (simp only [List.mem_cons] at hp; rcases hp with rfl | rfl | rfl | rfl | rfl | rfl | hp; all_goals (first | exact own_sub hr8 p hp | (apply in_big; (with_reducible repeat (first | assumption | exact List.mem_cons_self | apply List.mem_cons_of_mem)))))))))))
    have hsR7 : ∀ p ∈ own7 ++ rest6, p.1 ≠ R := off_own (fun p hp => (hab7 p hp).2 _ mR) hsR6
    clear N8'
    (try dsimp only)
    (try k_fold)))
  (k_with "my TurnOnly" => (
    have hv9 := hv7
    refine ⟨rfl, ?_⟩
    rename News g' L' _ _ => N9
    rename Fr g' L' _ _ => F9
    have e9 : rvs.toArray.push (.str (S (at2 T i j)) t7) = (rvs ++ [Value.str (S (at2 T i j)) t7]).toArray := by simp
    rw [e9] at N9
    have hadr : ∀ a ∈ ([L' + 1, L' + 1 + 1, L' + 1 + 1 + 1, L' + 1 + 1 + 1 + 1, L' + 1 + 1 + 1 + 1 + 1, L' + 1 + 1 + 1 + 1 + 1 + 1] ++ [d, TB]) ++ [R, Ii], a = d ∨ ∃ o, (a, o) ∈ (la, W.listOf (vsA1 ++ vsB1).toArray 0) :: (ha, W.listOf (vsA2 ++ vsB2).toArray 0) :: (Ij, oIj) :: (R, W.listOf rvs.toArray nR) :: (Ii, oIi) :: (TB, W.listOf (tvs ++ [Value.ref R]).toArray (nT + 1)) :: (L' + 1 + 1 + 1 + 1 + 1 + 1, oj3) :: (L' + 1 + 1 + 1 + 1 + 1, oi2) :: (L' + 1 + 1 + 1 + 1, oT2) :: (L' + 1 + 1 + 1, oY2) :: (L' + 1 + 1, oX2) :: (L' + 1, oN) :: rest6 := by
      intro a ha9
      simp only [List.cons_append, List.nil_append, List.mem_cons, List.not_mem_nil, or_false] at ha9
      rcases ha9 with rfl | rfl | rfl | rfl | rfl | rfl | rfl | rfl | rfl | rfl
      all_goals (first | exact .inl rfl | exact .inr ⟨_, by (with_reducible repeat (first | assumption | exact List.mem_cons_self | apply List.mem_cons_of_mem))⟩)
    k_dflt (refine' TurnEnd.intro F9 N9 ((R, W.listOf (rvs ++ [Value.str (S (at2 T i j)) t7]).toArray (nR + 1)) :: (Ii, oIi) :: (TB, W.listOf (tvs ++ [Value.ref R]).toArray (nT + 1)) :: (d, o7) :: (L' + 1 + 1 + 1 + 1 + 1 + 1, oj3) :: (L' + 1 + 1 + 1 + 1 + 1, oi2) :: (L' + 1 + 1 + 1 + 1, oT2) :: (L' + 1 + 1 + 1, oY2) :: (L' + 1 + 1, oX2) :: (L' + 1, oN) :: (own7 ++ rest6)) (fun _ h => h) ?toff ⟨oj3, some (.int (j : Int) tj), rvs ++ [Value.str (S (at2 T i j)) t7], nR + 1, o7, kvs7, own7 ++ rest6, own7 ++ led6, rfl, dj3, by rw [List.length_append, hrl]; rfl, row_snoc hrl hrv, keys_snoc G7 hrk6 hv7, H6.cell G7 hab7 hadr⟩)
    case toff =>
      intro p hp
      simp only [List.mem_cons] at hp
      rcases hp with rfl | rfl | rfl | rfl | rfl | rfl | rfl | rfl | rfl | rfl | hp
      all_goals (first | exact off_own (fun p hp => (hab7 p hp).2 _ mIj) (fun p hp => hoffJ p (by (have hp9 := hp; (with_reducible repeat (first | assumption | exact List.mem_cons_self | apply List.mem_cons_of_mem))))) p hp | (show (@Ne Nat _ Ij); dsimp only; omega))))
  (k_with "my TurnOnly" => (
    (fail_if_success (have hv9 := hv7))
    refine ⟨rfl, ?_⟩
    have hRa : ∀ a ∈ ([L' + 1, L' + 1 + 1, L' + 1 + 1 + 1, L' + 1 + 1 + 1 + 1, L' + 1 + 1 + 1 + 1 + 1, L' + 1 + 1 + 1 + 1 + 1 + 1] ++ [d, TB]), R ≠ a := by
      intro a ha9
      simp only [List.cons_append, List.nil_append, List.mem_cons, List.not_mem_nil, or_false] at ha9
      rcases ha9 with rfl | rfl | rfl | rfl | rfl | rfl | rfl | rfl
      all_goals (show (@Ne Nat R _); omega)
    k_dflt (refine' TurnEnd.intro F6 N6 ((TB, W.listOf (tvs ++ [Value.ref R]).toArray (nT + 1)) :: (d, o6) :: (L' + 1 + 1 + 1 + 1 + 1 + 1, oj2) :: (L' + 1 + 1 + 1 + 1 + 1, oi2) :: (L' + 1 + 1 + 1 + 1, oT2) :: (L' + 1 + 1 + 1, oY2) :: (L' + 1 + 1, oX2) :: (L' + 1, oN) :: ((R, W.listOf rvs.toArray nR) :: rest6)) ?tsub ?toff2 ⟨oj2, oi2, vj2, some (.int (i : Int) ti), tvs ++ [Value.ref R], nT + 1, o6, kvs6, _, led6, rfl, dj2, di2, htl2, H6.outer htl hrl hrv hrk6 hRa⟩)
    case tsub =>
      intro p hp
      simp only [List.mem_cons] at hp
      rcases hp with rfl | rfl | rfl | rfl | rfl | rfl | rfl | rfl | rfl | rfl | hp
      all_goals (with_reducible repeat (first | assumption | exact List.mem_cons_self | apply List.mem_cons_of_mem))
    case toff2 =>
      intro p hp
      simp only [List.mem_cons] at hp
      rcases hp with rfl | rfl | rfl | rfl | rfl | rfl | rfl | rfl | rfl | hp
      all_goals (first | exact H6.off p hp Ii (by simp) | (show (@Ne Nat _ Ii); dsimp only; omega))))
  (k_with "my subscriptTail" => k_dflt (
    (fail_if_success (have hT9 := hTurn))
    have hx9 := hDone
    rename News _ _ _ _ => N9
    first
    | ((with_reducible show wpAny _ _ (subscriptTail _ _ (Value.ref TB) (Value.int (-1) _)) _ _ _); refine at_neg1 (D := TB) (vs := tvs) (n := nT) N9 ?sm (by rw [htl]; exact hx0) (by rw [htl]; exact hRz) (by rw [htl]; omega) ?_; (case sm => (with_reducible repeat (first | assumption | exact List.mem_cons_self | apply List.mem_cons_of_mem))))
    | ((with_reducible show wpAny _ _ (subscriptTail _ _ (Value.ref Rz) (Value.int (-1) _)) _ _ _); refine at_neg1 (D := Rz) (vs := vsz) (n := nz) N9 ?sm (by rw [hlz]; exact hy0) (by rw [hlz]; exact hcz) (by rw [hlz]; omega) ?_; (case sm => (with_reducible repeat (first | assumption | exact List.mem_cons_self | apply List.mem_cons_of_mem))))
    | ((with_reducible show wpAny _ _ (subscriptTail _ _ (Value.ref d) (Value.str _ _)) _ _ _); refine at_dictS (d := d) (o := o5) N9 ?sm H5.names.dict hvz ?_; (case sm => (with_reducible repeat (first | assumption | exact List.mem_cons_self | apply List.mem_cons_of_mem))))))
  k_steps
  rename News h₀ L _ _ => kN
  exact hret _ pre _ _ (by k_asm) (fun p hp => kN p (by (have hp9 := H5.base p hp; (with_reducible repeat (first | assumption | exact List.mem_cons_self | apply List.mem_cons_of_mem))))) ⟨rfl, _, rfl⟩
end Mine
end

section
open PySem PySem.W PyProof.Rows
namespace Mine
theorem codesS (l : List Nat) : KStt.codes (S l) = intsL l := by
  unfold KStt.codes intsL; rw [S_cps]
theorem wv_codes (l : List Nat) : (wfold ((KStt.codes (S l)).headD 0) (KStt.codes (S l))).1 = wv l := by
  rw [codesS]; rfl
theorem row_facts {n : Nat} (h : n < 15) : (toldF (rowL (n + 1)) ++ [scan ((namedL (rowL (n + 1))).drop 5)] = frontsF (rowL (n + 1))) ∧ -1000 ≤ wv (rowL (n + 1)) ∧ wv (rowL (n + 1)) ≤ 1000 ∧ (rowL (n + 1)).length ≤ 3 ∧ (∀ l ∈ toldF (rowL (n + 1)), RowC l ∧ l.length ≤ 90) ∧ (toldF (rowL (n + 1))).length ≤ 5 ∧ 0 < (toldF (rowL (n + 1))).length := by
  have := row_ok h
  unfold rowOk at this
  simp only [Bool.and_eq_true, beq_iff_eq, decide_eq_true_eq, List.all_eq_true, Bool.or_eq_true] at this
  obtain ⟨⟨⟨⟨⟨⟨a, b⟩, c⟩, d⟩, e⟩, f⟩, g⟩ := this
  refine ⟨a, b, c, d, fun l hl => ⟨fun x hx => ?_, (e l hl).1⟩, f, g⟩
  have := (e l hl).2 x hx
  omega
theorem law_facts {n k : Nat} (h : n < 15) (hk : k < 15) : SumOk (toldF (rowL (n + 1))) (toldF (rowL (k + 1))) (tabF (toldF (rowL (n + 1))) (toldF (rowL (k + 1))) (toldF (rowL (n + 1))).length) ∧ (pageF (rowL (n + 1)) (rowL (k + 1))).length ≤ 4096 ∧
    ∃ out, und none (syms (pageF (rowL (n + 1)) (rowL (k + 1))) ++ [0]) = some out ∧ out.length ≤ 4000 ∧ (∀ x ∈ syms out ++ [0], (runGet x).isSome = true) ∧ wv (sgns (syms out ++ [0])) = 16 * ((wv (rowL (n + 1))).fdiv 16 + (wv (rowL (k + 1))).fdiv 16) := by
  have := law_ok h hk
  unfold lawOk at this
  simp only [Bool.and_eq_true, decide_eq_true_eq] at this
  obtain ⟨⟨a, b⟩, c⟩ := this
  refine ⟨⟨fun i hi j hj => ?_⟩, b, ?_⟩
  · unfold okSum at a
    have := List.all_eq_true.mp (List.all_eq_true.mp a i (List.mem_range.mpr hi)) j (List.mem_range.mpr hj)
    exact beq_iff_eq.mp this
  · cases hu : und none (syms (pageF (rowL (n + 1)) (rowL (k + 1))) ++ [0]) with
    | none => rw [hu] at c; cases c
    | some out =>
      rw [hu] at c
      simp only [Bool.and_eq_true, decide_eq_true_eq, beq_iff_eq, List.all_eq_true] at c
      exact ⟨out, rfl, c.1.1, c.1.2, c.2⟩
theorem row15_c (prog : Program) (w : World) (mean) (mg mb) (pre : Led) (x : Int) (t : Tok) :
    Spec prog w mean mg mb 181 1 [.int (x.fmod 15 + 1) t] pre (fun r news' => news' = pre ∧ ∃ n t, n < 15 ∧ r = .str (S (rowL (n + 1))) t) := by
  have h : x.fmod 15 = x % 15 := Int.fmod_eq_emod_of_nonneg _ (by decide)
  obtain ⟨n, hn, e⟩ : ∃ n : Nat, n < 15 ∧ x.fmod 15 + 1 = ((n + 1 : Nat) : Int) := ⟨(x % 15).toNat, by omega, by omega⟩
  rw [e]
  refine (row_c prog w mean mg mb pre ((n + 1 : Nat) : Int) t (by omega) (by omega)).mono ?_
  rintro r news ⟨rfl, t', rfl⟩
  exact ⟨rfl, n, t', hn, by rw [Int.toNat_natCast]; rfl⟩
theorem told15_c (prog : Program) (w : World) (mean) (mg mb) (pre : Led) (n : Nat) (hn : n < 15) (y : Int) (t t2 : Tok) :
    Spec prog w mean mg mb 198 2 [.str (S (rowL (n + 1))) t, .str (Txt.item (Str.ofString "<>=&|\"") (y.fmod 6)) t2] pre (fun r news' => ∃ T F vs k u ts, r = .ref T ∧ news' = (T, tupO #[.ref F, .str (S (scan ((namedL (rowL (n + 1))).drop 5))) ts, .int ((wv (rowL (n + 1))).fdiv 16) u]) :: (F, W.listOf vs.toArray k) :: pre ∧ StrsAre vs ((toldF (rowL (n + 1))).map S)) := by
  obtain ⟨c, hc, e⟩ := mark6 y
  rw [e]
  obtain ⟨f1, f2, f3, f4, f5, f6, f7⟩ := row_facts hn
  have hp := List.all_eq_true.mp ports_ok n (List.mem_range.mpr hn)
  simp only [Bool.and_eq_true, decide_eq_true_eq, List.all_eq_true] at hp
  refine (told_c prog w mean mg mb pre (S (rowL (n + 1))) c t t2 (wv (rowL (n + 1))) (by rw [S_len]; omega) (wv_codes _) f2 f3 (numF ((wv (rowL (n + 1))).fdiv 16)) (S_of _).symm hp.1 (hp.2 c hc)).mono ?_
  rintro r news ⟨T, F, vs, k, u, ts, rfl, rfl, hS⟩
  rw [S_cps] at hS
  exact ⟨T, F, vs, k, u, ts, rfl, by rw [S_cps], hS⟩
theorem fronts15_c (prog : Program) (w : World) (mean) (mg mb) (pre : Led) (n : Nat) (hn : n < 15) (t : Tok) :
    Spec prog w mean mg mb 193 1 [.str (S (rowL (n + 1))) t] pre (fun r news' => ∃ D vs k, r = .ref D ∧ news' = (D, W.listOf vs.toArray k) :: pre ∧ StrsAre vs ((toldF (rowL (n + 1)) ++ [scan ((namedL (rowL (n + 1))).drop 5)]).map S)) := by
  obtain ⟨f1, f2, f3, f4, f5, f6, f7⟩ := row_facts hn
  refine (fronts_c prog w mean mg mb pre (S (rowL (n + 1))) t (by rw [S_len]; omega)).mono ?_
  rintro r news ⟨D, vs, k, rfl, rfl, hS, _⟩
  rw [S_cps] at hS
  exact ⟨D, vs, k, rfl, rfl, by rw [f1]; exact hS⟩
theorem sum15_c (prog : Program) (w : World) (mean) (mg mb) (pre : Led) (xa ya : Addr) (xvs yvs : List Value) (nx1 ny1 : Nat) (n k : Nat) (hn : n < 15) (hk : k < 15)
    (h1 : (xa, W.listOf xvs.toArray nx1) ∈ pre) (h2 : (ya, W.listOf yvs.toArray ny1) ∈ pre) (hX : StrsAre xvs ((toldF (rowL (n + 1))).map S)) (hY : StrsAre yvs ((toldF (rowL (k + 1))).map S)) :
    Spec prog w mean mg mb 215 8 [.ref xa, .ref ya] pre (fun r news' => news' = pre ∧ ∃ t, r = .str (S (pageF (rowL (n + 1)) (rowL (k + 1)))) t) := by
  obtain ⟨f1, f2, f3, f4, f5, f6, f7⟩ := row_facts hn
  obtain ⟨g1, g2, g3, g4, g5, g6, g7⟩ := row_facts hk
  obtain ⟨l1, l2, l3⟩ := law_facts hn hk
  exact (sum_c prog w mean mg mb pre xa ya xvs yvs nx1 ny1 _ _ _ h1 h2 hX hY f6 g6 f7 g7 f5 g5 l1).mono fun r news p => p
theorem undressed15_c (prog : Program) (w : World) (mean) (mg mb) (pre : Led) (n k : Nat) (hn : n < 15) (hk : k < 15) (t : Tok) :
    Spec prog w mean mg mb 229 2 [.str (S (pageF (rowL (n + 1)) (rowL (k + 1)))) t] pre (fun r news' => news' = pre ∧ ∃ out t, und none (syms (pageF (rowL (n + 1)) (rowL (k + 1))) ++ [0]) = some out ∧ r = .str (S out) t) := by
  obtain ⟨l1, l2, out, l3, l4⟩ := law_facts hn hk
  refine (undressed_c prog w mean mg mb pre (S (pageF (rowL (n + 1)) (rowL (k + 1)))) t out (by rw [S_len]; exact l2) (by rw [S_cps]; exact l3)).mono ?_
  rintro r news ⟨rfl, t', rfl⟩
  exact ⟨rfl, out, t', l3, rfl⟩
theorem symbols15_c (prog : Program) (w : World) (mean) (mg mb) (pre : Led) (n k : Nat) (hn : n < 15) (hk : k < 15) (out : List Nat) (ho : und none (syms (pageF (rowL (n + 1)) (rowL (k + 1))) ++ [0]) = some out) (t : Tok) :
    Spec prog w mean mg mb 222 1 [.str (S out) t] pre (fun r news' => ∃ D vs n, r = .ref D ∧ news' = (D, W.listOf vs.toArray n) :: pre ∧ IntsAre vs (syms out ++ [0])) := by
  obtain ⟨l1, l2, out', l3, l4, l5⟩ := law_facts hn hk
  rw [ho] at l3; cases l3
  refine (symbols_c prog w mean mg mb pre (S out) t (by rw [S_len]; omega)).mono ?_
  rintro r news ⟨D, vs, m, rfl, rfl, hI, _⟩
  rw [S_cps] at hI
  exact ⟨D, vs, m, rfl, rfl, hI⟩
theorem signs15_c (prog : Program) (w : World) (mean) (mg mb) (pre : Led) (n k : Nat) (hn : n < 15) (hk : k < 15) (out : List Nat) (ho : und none (syms (pageF (rowL (n + 1)) (rowL (k + 1))) ++ [0]) = some out) (lD : Addr) (vs : List Value) (nv : Nat) (hm : (lD, W.listOf vs.toArray nv) ∈ pre) (hI : IntsAre vs (syms out ++ [0])) :
    Spec prog w mean mg mb 234 1 [.ref lD] pre (fun r news' => news' = pre ∧ ∃ t, r = .str (S (sgns (syms out ++ [0]))) t) := by
  obtain ⟨l1, l2, out', l3, l4, l5, l6⟩ := law_facts hn hk
  rw [ho] at l3; cases l3
  have h9 := syms_len _ out (Nat.le_refl _)
  exact (signs_c prog w mean mg mb pre lD vs (syms out ++ [0]) nv hm hI (by rw [List.length_append, List.length_singleton]; omega) l5).mono fun r news p => p
theorem worth15_c (prog : Program) (w : World) (mean) (mg mb) (pre : Led) (n k : Nat) (hn : n < 15) (hk : k < 15) (out : List Nat) (ho : und none (syms (pageF (rowL (n + 1)) (rowL (k + 1))) ++ [0]) = some out) (t : Tok) :
    Spec prog w mean mg mb 188 1 [.str (S (sgns (syms out ++ [0]))) t] pre (fun r news' => news' = pre ∧ ∃ t, r = .int (16 * ((wv (rowL (n + 1))).fdiv 16 + (wv (rowL (k + 1))).fdiv 16)) t) := by
  obtain ⟨l1, l2, out', l3, l4, l5, l6⟩ := law_facts hn hk
  rw [ho] at l3; cases l3
  refine (worth_c prog w mean mg mb pre (S (sgns (syms out ++ [0]))) t).mono ?_
  rintro r news ⟨rfl, t', rfl⟩
  exact ⟨rfl, t', by rw [wv_codes, l6]⟩
theorem told15_len {n : Nat} (h : n < 15) : (toldF (rowL (n + 1))).length ≤ 5 := (row_facts h).2.2.2.2.2.1
theorem ne_strs {prog : Program} {w : World} {A : Around} {E : Value → Shared → Prop} {s : Shared} {l b : Addr} {vs us : List Value} {ss : List Str} {Q : Value → Shared → Prop} (hl : s.heap.IsList l vs.toArray) (hb : s.heap.IsList b us.toArray) (h1 : StrsAre vs ss) (h2 : StrsAre us ss) (hu : A.units + 64 < cLine)
    (h : Q (.bool false) s) : wpAny (model prog w) A (compareOp .NotEq (.ref l) (.ref b)) Q E s := by
  refine cmp_ofNotEq ?_
  have hl1 := h1.len_eq
  have hl2 := h2.len_eq
  refine SeqAt.RcNeAt.lists (e := fun _ => true) hl hb (by rw [List.size_toArray, List.size_toArray]; omega) (by omega) (fun j a b => ?_) prog w E Q ?_
  · have hj : j < ss.length := by rw [List.size_toArray] at a; omega
    obtain ⟨t1, e1⟩ := h1.at (List.getElem?_eq_getElem hj)
    obtain ⟨t2, e2⟩ := h2.at (List.getElem?_eq_getElem hj)
    have a1 : vs.toArray[j] = .str ss[j] t1 := by
      have : vs.toArray[j]? = some (.str ss[j] t1) := by simpa using e1
      exact Option.some.inj ((Array.getElem?_eq_getElem a).symm.trans this)
    have a2 : us.toArray[j] = .str ss[j] t2 := by
      have : us.toArray[j]? = some (.str ss[j] t2) := by simpa using e2
      exact Option.some.inj ((Array.getElem?_eq_getElem b).symm.trans this)
    rw [a1, a2]
    have := SeqAt.EqAt.str_str (A := A.in1) (s := s) ss[j] t1 ss[j] t2
    rw [beq_self_eq_true] at this
    exact this
  · have : (!(List.range vs.toArray.size).all fun _ => true) = false := by simp
    rw [this]; exact h
end Mine
end

section
namespace Mine
local macro_rules | `(tactic| k_qdec) => `(tactic| first | exact names_ok | exact imps_none)
local macro_rules | `(tactic| walk_at "binaryOp Add ref ref") => `(tactic| k_extra "my Add")
local macro_rules | `(tactic| walk_at "compareOp NotEq ref ref") => `(tactic| k_extra "my NotEq")
local macro_rules | `(tactic| walk_at "eval ListComp") => `(tactic| k_extra "my eval ListComp")
local macro_rules | `(tactic| walk_at "pyIter ref") => `(tactic| k_extra "my pyIter ref")
local macro_rules | `(tactic| walk_at "CompEnd") => `(tactic| k_extra "my CompEnd")
local macro_rules | `(tactic| walk_at "subscriptTail") => `(tactic| k_extra "my subscriptTail")
local macro_rules | `(tactic| walk_at "subscriptTail Name Name ref int") => `(tactic| k_extra "my subscriptTail")
local macro_rules | `(tactic| walk_at "call builtin:sum") => `(tactic| k_extra "my sum")
set_option maxHeartbeats 40000000 in
theorem law_holds : PySem.Challenge.rw_xn0013_01.Holds := by
  w_on
  refine holds_law said fun said => ?_
  refine' holds_open (q := V) (loose := [Str.ofString "EXACT_TOKEN_TYPES"]) (Xt := Xt) (XP := XL V []) (Yf := Hook.obs (kHook hd.heap_1 asK asK_ok)) (Ya := Hook.val (kHook hd.heap_1 asK asK_ok)) (YP := Hook.says (kHook hd.heap_1 asK asK_ok)) (N := 6272) left (Hook.of (kHook hd.heap_1 asK asK_ok)) (Hook.keeps (kHook hd.heap_1 asK asK_ok)) (fun s e => xl_of s (Bool.and_eq_true_iff.mp e).1) XL.keeps ?k1 ?k2 ?k3 (fun s e => recFacts_of (Bool.and_eq_true_iff.mp e).2) ?k4 ?k5 ?k6 ?k7 ?hw ?hc
  case k1 => rfl
  case k2 => rfl
  case k3 => rfl
  case k4 => rfl
  case k5 => first | assumption | decide +kernel
  case k6 => decide +kernel
  case k7 => exact ⟨rfl, rfl, rfl, rfl, rfl, by decide +kernel⟩
  case hw => w_witness2
  clear said
  k_with_none
  k_go0
  (all_goals (try k_fold))
  (k_with "my eval ListComp" => k_dflt (
    (with_reducible show wpAny _ _ (eval (PySem.Expr.ListComp _ [⟨_, _, [], _⟩] _ _) _) _ _ _)
    k_dflt (refine' ListComp_G ?lgF ?lgA ?lgB ?lgC ?lgD ?lgE ?_)
    case lgF => k_asm
    case lgA => with_unfolding_all rfl
    case lgB => decide
    case lgC => rfl
    case lgD => decide
    case lgE => rfl))
  (k_with "my pyIter ref" => k_dflt (
    rename IsRange _ _ 0 _ _ _ _ _ => hR
    rename News _ _ _ _ => N9
    rename IntsAre _ (List.take 63 _) => hNum
    obtain ⟨nums, hNums, hNl⟩ : ∃ nums : List Int, IntsAre _ nums ∧ nums.length ≤ 63 := ⟨_, hNum, List.length_take_le _ _⟩
    have hNe := hNums.length
    have hNf := hNum.length
    refine use_led N9 fun ledg hledg N10 => ?_
    k_dflt (refine' src_range ?hhA ?FA N10 hR ?smA (rangeSize_toNat _ _ _) ?zA ?_)
    case hhA => k_dflt (exact rfl)
    case FA => k_asm
    case smA => exact small_two (by omega) (by omega) (by omega) (by omega)
    case zA => exact Nat.le_trans (two_le (by omega) (by omega)) (by rw [sizeLine_eq]; decide)
    intro gg
    k_dflt (refine' comp_ind (fun i ys news => news = ledg ∧ IntsAre ys (evens nums 0 i)) ?stA ?fiA _ 0 [] ledg (Nat.zero_add _) ⟨rfl, .nil⟩)
    case' stA =>
      rintro k ys1 news hk9 ⟨rfl, hI9⟩ v Ic oIc C oC D m₂ h5 tk5 E5 ⟨hk8, kt, rfl⟩ hNC hx F5 N5 off5 ne5
      have hlt9 := two_lt hk8
      subst hledg
      (try k_fold)
    case' fiA =>
      rintro ysA news ⟨rfl, hIA⟩
      subst hledg
      unfold LCg.FinE
      intro DA h5 tk5 F5 N5 off5
      (try k_fold)))
  (k_with "my pyIter ref" => k_dflt (
    rename IsRange _ _ 1 _ _ _ _ _ => hR
    rename News _ _ _ _ => N9
    rename IntsAre _ (List.take 63 _) => hNum
    obtain ⟨nums, hNums, hNl⟩ : ∃ nums : List Int, IntsAre _ nums ∧ nums.length ≤ 63 := ⟨_, hNum, List.length_take_le _ _⟩
    have hNe := hNums.length
    have hNf := hNum.length
    refine use_led N9 fun ledg hledg N10 => ?_
    k_dflt (refine' src_range ?hhB ?FB N10 hR ?smB (rangeSize_toNat _ _ _) ?zB ?_)
    case hhB => k_dflt (exact rfl)
    case FB => k_asm
    case smB => exact small_two (by omega) (by omega) (by omega) (by omega)
    case zB => exact Nat.le_trans (two_le (by omega) (by omega)) (by rw [sizeLine_eq]; decide)
    intro gg
    k_dflt (refine' comp_ind (fun i ys news => news = ledg ∧ IntsAre ys (evens nums 1 i)) ?stB ?fiB _ 0 [] ledg (Nat.zero_add _) ⟨rfl, .nil⟩)
    case' stB =>
      rintro k ys1 news hk9 ⟨rfl, hI9⟩ v Ic oIc C oC D m₂ h5 tk5 E5 ⟨hk8, kt, rfl⟩ hNC hx F5 N5 off5 ne5
      have hlt9 := two_lt hk8
      subst hledg
      (try k_fold)
    case' fiB =>
      rintro ysB news ⟨rfl, hIB⟩
      subst hledg
      unfold LCg.FinE
      intro DB h5 tk5 F5 N5 off5
      (try k_fold)))
  (k_with "my subscriptTail" => k_dflt (
    rename News _ _ _ _ => N9
    refine at_ints N9 ?sm hNums ?s0 ?s1 ?sl ?_
    case sm => k_mem
    case s0 => omega
    case s1 => omega
    case sl => omega
    intro tz))
  (k_with "my CompEnd" => k_dflt (
    rename News _ _ _ _ => N9
    refine' LCg.CompEnd.intro ?cF9 N9 _ (fun _ h => h) off5 trivial ⟨rfl, evens_step hI9⟩
    case cF9 => assumption))
  (k_with "call ref" => (
    (with_reducible show wpAny _ _ (call (Value.ref 181) _) _ _ _)
    rename News _ _ _ _ => N9
    k_dflt (refine' row15_c _ _ _ _ _ _ _ _ _ _ _ _ _ _ _ _ _ _ _ _ _ _ _ _ _ ?k1 ?k2 ?k3 N9 ?k5 ?kK ?kd ?ku ?_; (fail_if_success (have f9 := hn1)); (case k1 => first | exact below_caller _ | k_asm); (case k2 => k_asm); (case k3 => k_asm); (case k5 => k_asm); (case kK => first | exact rfl | assumption); (case kd => first | ktr_room | decide); (case ku => first | ktr_units | decide))
    rintro r8 news8 h8 tk8 F8 N8 ⟨rfl, n1, tr1, hn1, rfl⟩
    (try dsimp only)
    (try k_fold)))
  (k_with "call ref" => (
    (with_reducible show wpAny _ _ (call (Value.ref 181) _) _ _ _)
    rename News _ _ _ _ => N9
    k_dflt (refine' row15_c _ _ _ _ _ _ _ _ _ _ _ _ _ _ _ _ _ _ _ _ _ _ _ _ _ ?k1 ?k2 ?k3 N9 ?k5 ?kK ?kd ?ku ?_; (have f9 := hn1); (case k1 => first | exact below_caller _ | k_asm); (case k2 => k_asm); (case k3 => k_asm); (case k5 => k_asm); (case kK => first | exact rfl | assumption); (case kd => first | ktr_room | decide); (case ku => first | ktr_units | decide))
    rintro r8 news8 h8 tk8 F8 N8 ⟨rfl, n2, tr2, hn2, rfl⟩
    (try dsimp only)
    (try k_fold)))
  (k_with "call ref" => (
    (with_reducible show wpAny _ _ (call (Value.ref 198) _) _ _ _)
    rename News _ _ _ _ => N9
    k_dflt (refine' told15_c _ _ _ _ _ _ n1 hn1 _ _ _ _ _ _ _ _ _ _ _ _ _ _ _ _ _ _ _ _ ?k1 ?k2 ?k3 N9 ?k5 ?kK ?kd ?ku ?_; (case k1 => first | exact below_caller _ | k_asm); (case k2 => k_asm); (case k3 => k_asm); (case k5 => k_asm); (case kK => first | exact rfl | assumption); (case kd => first | ktr_room | decide); (case ku => first | ktr_units | decide))
    rintro r8 news8 h8 tk8 F8 N8 ⟨T1, F1, vs1, k1, u1, ts1, rfl, rfl, hS1⟩
    (try dsimp only)
    (try k_fold)))
  (k_with "call ref" => (
    (with_reducible show wpAny _ _ (call (Value.ref 198) _) _ _ _)
    rename News _ _ _ _ => N9
    k_dflt (refine' told15_c _ _ _ _ _ _ n2 hn2 _ _ _ _ _ _ _ _ _ _ _ _ _ _ _ _ _ _ _ _ ?k1 ?k2 ?k3 N9 ?k5 ?kK ?kd ?ku ?_; (have f9 := hS1); (case k1 => first | exact below_caller _ | k_asm); (case k2 => k_asm); (case k3 => k_asm); (case k5 => k_asm); (case kK => first | exact rfl | assumption); (case kd => first | ktr_room | decide); (case ku => first | ktr_units | decide))
    rintro r8 news8 h8 tk8 F8 N8 ⟨T2, F2, vs2, k2, u2, ts2, rfl, rfl, hS2⟩
    (try dsimp only)
    (try k_fold)))
  (k_with "call ref" => (
    (with_reducible show wpAny _ _ (call (Value.ref 193) _) _ _ _)
    rename News _ _ _ _ => N9
    k_dflt (refine' fronts15_c _ _ _ _ _ _ n1 hn1 _ _ _ _ _ _ _ _ _ _ _ _ _ _ _ _ _ _ ?k1 ?k2 ?k3 N9 ?k5 ?kK ?kd ?ku ?_; (case k1 => first | exact below_caller _ | k_asm); (case k2 => k_asm); (case k3 => k_asm); (case k5 => k_asm); (case kK => first | exact rfl | assumption); (case kd => first | ktr_room | decide); (case ku => first | ktr_units | decide))
    rintro r8 news8 h8 tk8 F8 N8 ⟨D1, ws1, j1, rfl, rfl, hW1⟩
    (try dsimp only)
    (try k_fold)))
  (k_with "call ref" => (
    (with_reducible show wpAny _ _ (call (Value.ref 193) _) _ _ _)
    rename News _ _ _ _ => N9
    k_dflt (refine' fronts15_c _ _ _ _ _ _ n2 hn2 _ _ _ _ _ _ _ _ _ _ _ _ _ _ _ _ _ _ ?k1 ?k2 ?k3 N9 ?k5 ?kK ?kd ?ku ?_; (have f9 := hW1); (case k1 => first | exact below_caller _ | k_asm); (case k2 => k_asm); (case k3 => k_asm); (case k5 => k_asm); (case kK => first | exact rfl | assumption); (case kd => first | ktr_room | decide); (case ku => first | ktr_units | decide))
    rintro r8 news8 h8 tk8 F8 N8 ⟨D2, ws2, j2, rfl, rfl, hW2⟩
    (try dsimp only)
    (try k_fold)))
  (k_with "call ref" => (
    (with_reducible show wpAny _ _ (call (Value.ref 215) _) _ _ _)
    rename News _ _ _ _ => N9
    k_dflt (refine' sum15_c _ _ _ _ _ _ F1 F2 vs1 vs2 k1 k2 n1 n2 hn1 hn2 ?m1 ?m2 hS1 hS2 _ _ _ _ _ _ _ _ _ _ _ _ _ _ _ _ _ ?k1 ?k2 ?k3 N9 ?k5 ?kK ?kd ?ku ?_; (case m1 => (with_reducible repeat (first | assumption | exact List.mem_cons_self | apply List.mem_cons_of_mem))); (case m2 => (with_reducible repeat (first | assumption | exact List.mem_cons_self | apply List.mem_cons_of_mem))); (case k1 => first | exact below_caller _ | k_asm); (case k2 => k_asm); (case k3 => k_asm); (case k5 => k_asm); (case kK => first | exact rfl | assumption); (case kd => first | ktr_room | decide); (case ku => first | ktr_units | decide))
    rintro r8 news8 h8 tk8 F8 N8 ⟨rfl, tp, rfl⟩
    (try dsimp only)
    (try k_fold)))
  (k_with "call ref" => (
    (with_reducible show wpAny _ _ (call (Value.ref 229) _) _ _ _)
    rename News _ _ _ _ => N9
    k_dflt (refine' undressed15_c _ _ _ _ _ _ n1 n2 hn1 hn2 _ _ _ _ _ _ _ _ _ _ _ _ _ _ _ _ _ _ ?k1 ?k2 ?k3 N9 ?k5 ?kK ?kd ?ku ?_; (case k1 => first | exact below_caller _ | k_asm); (case k2 => k_asm); (case k3 => k_asm); (case k5 => k_asm); (case kK => first | exact rfl | assumption); (case kd => first | ktr_room | decide); (case ku => first | ktr_units | decide))
    rintro r8 news8 h8 tk8 F8 N8 ⟨rfl, out, to, hout, rfl⟩
    (try dsimp only)
    (try k_fold)))
  (k_with "call ref" => (
    (with_reducible show wpAny _ _ (call (Value.ref 222) _) _ _ _)
    rename News _ _ _ _ => N9
    k_dflt (refine' symbols15_c _ _ _ _ _ _ n1 n2 hn1 hn2 out hout _ _ _ _ _ _ _ _ _ _ _ _ _ _ _ _ _ _ ?k1 ?k2 ?k3 N9 ?k5 ?kK ?kd ?ku ?_; (case k1 => first | exact below_caller _ | k_asm); (case k2 => k_asm); (case k3 => k_asm); (case k5 => k_asm); (case kK => first | exact rfl | assumption); (case kd => first | ktr_room | decide); (case ku => first | ktr_units | decide))
    rintro r8 news8 h8 tk8 F8 N8 ⟨DS, vS, nS, rfl, rfl, hIS⟩
    (try dsimp only)
    (try k_fold)))
  (k_with "call ref" => (
    (with_reducible show wpAny _ _ (call (Value.ref 234) _) _ _ _)
    rename News _ _ _ _ => N9
    k_dflt (refine' signs15_c _ _ _ _ _ _ n1 n2 hn1 hn2 out hout DS vS nS ?m3 hIS _ _ _ _ _ _ _ _ _ _ _ _ _ _ _ _ _ ?k1 ?k2 ?k3 N9 ?k5 ?kK ?kd ?ku ?_; (case m3 => (with_reducible repeat (first | assumption | exact List.mem_cons_self | apply List.mem_cons_of_mem))); (case k1 => first | exact below_caller _ | k_asm); (case k2 => k_asm); (case k3 => k_asm); (case k5 => k_asm); (case kK => first | exact rfl | assumption); (case kd => first | ktr_room | decide); (case ku => first | ktr_units | decide))
    rintro r8 news8 h8 tk8 F8 N8 ⟨rfl, tg, rfl⟩
    (try dsimp only)
    (try k_fold)))
  (k_with "call ref" => (
    (with_reducible show wpAny _ _ (call (Value.ref 188) _) _ _ _)
    rename News _ _ _ _ => N9
    k_dflt (refine' worth15_c _ _ _ _ _ _ n1 n2 hn1 hn2 out hout _ _ _ _ _ _ _ _ _ _ _ _ _ _ _ _ _ _ ?k1 ?k2 ?k3 N9 ?k5 ?kK ?kd ?ku ?_; (case k1 => first | exact below_caller _ | k_asm); (case k2 => k_asm); (case k3 => k_asm); (case k5 => k_asm); (case kK => first | exact rfl | assumption); (case kd => first | ktr_room | decide); (case ku => first | ktr_units | decide))
    rintro r8 news8 h8 tk8 F8 N8 ⟨rfl, tw, rfl⟩
    (try dsimp only)
    (try k_fold)))
  (k_with "my Add" => k_dflt (
    (fail_if_success (have f9 := hH1))
    rename News _ _ _ _ => N9
    rename Fr _ _ _ _ => F9
    have hlen9 := hS1.len_eq
    refine' add_two (vs := vs1) (us := [Value.str (S (scan ((namedL (rowL (n1 + 1))).drop 5))) ts1]) (n1 := k1) (n2 := 0) F9 N9 ?am1 ?bm1 ?az1 ?_
    case am1 => (with_reducible repeat (first | assumption | exact List.mem_cons_self | apply List.mem_cons_of_mem))
    case bm1 => (with_reducible repeat (first | assumption | exact List.mem_cons_self | apply List.mem_cons_of_mem))
    case az1 => rw [hlen9, List.length_map]; have := told15_len hn1; simp; omega
    intro H1 h5 F5 N5 lH1
    have hH1 : StrsAre (vs1 ++ [Value.str (S (scan ((namedL (rowL (n1 + 1))).drop 5))) ts1]) ((toldF (rowL (n1 + 1)) ++ [scan ((namedL (rowL (n1 + 1))).drop 5)]).map S) := by
      rw [List.map_append]; exact hS1.append' (.cons _ _ .nil)
    (try k_fold)))
  (k_with "my Add" => k_dflt (
    (have f9 := hH1)
    rename News _ _ _ _ => N9
    rename Fr _ _ _ _ => F9
    have hlen9 := hS2.len_eq
    refine' add_two (vs := vs2) (us := [Value.str (S (scan ((namedL (rowL (n2 + 1))).drop 5))) ts2]) (n1 := k2) (n2 := 0) F9 N9 ?am2 ?bm2 ?az2 ?_
    case am2 => (with_reducible repeat (first | assumption | exact List.mem_cons_self | apply List.mem_cons_of_mem))
    case bm2 => (with_reducible repeat (first | assumption | exact List.mem_cons_self | apply List.mem_cons_of_mem))
    case az2 => rw [hlen9, List.length_map]; have := told15_len hn2; simp; omega
    intro H2 h5 F5 N5 lH2
    have hH2 : StrsAre (vs2 ++ [Value.str (S (scan ((namedL (rowL (n2 + 1))).drop 5))) ts2]) ((toldF (rowL (n2 + 1)) ++ [scan ((namedL (rowL (n2 + 1))).drop 5)]).map S) := by
      rw [List.map_append]; exact hS2.append' (.cons _ _ .nil)
    (try k_fold)))
  (k_with "my NotEq" => (
    (fail_if_success (have f9 := hW2))
    rename News _ _ _ _ => N9
    k_dflt (refine' ne_strs (News.isList (n := 0) N9 ?na1) (News.isList (n := j1) N9 ?nb1) hH1 hW1 ?nu1 ?_; (case na1 => (with_reducible repeat (first | assumption | exact List.mem_cons_self | apply List.mem_cons_of_mem))); (case nb1 => (with_reducible repeat (first | assumption | exact List.mem_cons_self | apply List.mem_cons_of_mem))); (case nu1 => first | decide | ktr_units))
    (try dsimp only)
    (try k_fold)))
  (k_with "my NotEq" => (
    (have f9 := hW2)
    rename News _ _ _ _ => N9
    k_dflt (refine' ne_strs (News.isList (n := 0) N9 ?na2) (News.isList (n := j2) N9 ?nb2) hH2 hW2 ?nu2 ?_; (case na2 => (with_reducible repeat (first | assumption | exact List.mem_cons_self | apply List.mem_cons_of_mem))); (case nb2 => (with_reducible repeat (first | assumption | exact List.mem_cons_self | apply List.mem_cons_of_mem))); (case nu2 => first | decide | ktr_units))
    (try dsimp only)
    (try k_fold)))
  k_steps
end Mine

end

set_option maxRecDepth 100000 in
set_option maxHeartbeats 8000000 in
theorem PySem.Challenge.cw_xn0013_01_holds : PySem.Challenge.rw_xn0013_01.Holds := by
  exact Mine.law_holds
