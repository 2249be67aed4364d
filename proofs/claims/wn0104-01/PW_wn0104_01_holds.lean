import PyProof.Rows.All
import Wide.All
import OpenK.AllK
import Wide.FinOn
import PySem.Challenge.RW_wn0104_01
set_option Elab.async false
set_option maxRecDepth 100000
section
open PySem PySem.W PyProof.Rows
set_option Elab.async false
namespace Mine
set_option maxRecDepth 100000
set_option maxHeartbeats 0
section
local macro_rules | `(tactic| o_head $_) => `(tactic| skip)
theorem kk (h : PySem.Challenge.rw_wn0104_01.row.Holds) : PySem.Challenge.rw_wn0104_01.row.Holds := by
  k_head
  exact h
end
/-- the program with its texts as lists of code points -/
noncomputable def pq : Program := by
  refine (?f : (p : Program) → PySem.Challenge.pw_wn0104_01 = p → Program) ?p ?h
  case f => exact fun p _ => p
  case h =>
    delta PySem.Challenge.pw_wn0104_01
    simp only [Str.ofString_eq_toList, String.reduceToList, List.map_cons, List.map_nil, Char.reduceToNat]
    exact Eq.refl _
theorem pq_eq : PySem.Challenge.pw_wn0104_01 = pq := by kernel_rfl
noncomputable def Kq : Params → Frag := by
  refine (?f : (p : Params → Frag) → kk.heap_1 = p → Params → Frag) ?p ?h
  case f => exact fun p _ => p
  case h =>
    delta kk.heap_1
    simp only [Str.ofString_eq_toList, String.reduceToList, List.map_cons, List.map_nil, Char.reduceToNat]
    exact Eq.refl _
theorem Kq_eq : kk.heap_1 = Kq := by kernel_rfl
abbrev keep : List Nat := [1, 2, 3, 5, 6, 7, 9, 10, 11, 12, 13, 14, 15, 16, 17, 18, 19, 20, 21, 22, 23, 24, 25, 26, 27, 28, 29, 30, 31, 32, 33, 34, 35, 36, 37, 38, 39, 40, 41, 42, 43, 44, 45, 46, 47, 48, 49, 50, 51, 52, 53, 54, 55, 56, 57, 58, 59, 60, 62, 63, 64, 65, 66, 68, 69, 70, 71, 72, 73, 74]
abbrev as : List Addr := [2, 3, 6, 15, 17, 18, 20, 21, 22, 24, 25, 27, 28, 29, 36, 37, 38, 39, 42, 49, 50, 51, 54, 56, 57, 59, 60, 61, 64, 66, 67, 69, 70, 71, 73, 74, 76, 77, 78, 80, 81, 83, 84, 85, 87, 88, 90, 91, 92, 94, 95, 97, 98, 99, 101, 102, 104, 105, 106, 109, 110, 111, 113, 114, 116, 117, 118, 121, 122, 123, 126, 127, 128, 131, 132]
theorem left_of_run {p q : Program} {loose : List Str} {Xt : Shared → Bool} {α : Type} {Yf : Shared → α} {Ya : World → α} {N : Nat} {H₀ : Params → Heap} {gs₀ : Array GenState} {d₀ : Drawn} {k₀ : Nat} {m₀ : Nat} {ann : Option Value} {M : Nat} (S₁ : World → OsState → Shared)
    (open_ : ∀ w : World, (fencedOpening treeTable p w N).map (fun s => (s.heap, s.gens, s.drawn, s.toks)) = some (H₀ w.params, gs₀, d₀, k₀))
    (size : ∀ w : World, ((H₀ w.params).isNs mainGlobals && gs₀.size == 0, (H₀ w.params).objs.size, (H₀ w.params).nsMap mainGlobals "__annotations__") = (true, m₀, ann))
    (run : ∀ w : World, (fun os => topRun treeTable p w m₀ ann M ⟨H₀ w.params, gs₀, d₀, k₀, os⟩ (topStub p)) = fun os => some (S₁ w os))
    (l1 : ∀ w os, (staticsOk (importedModules p.main.body) (H₀ w.params) (S₁ w os).heap && namesBound p (S₁ w os).heap && gensDone (S₁ w os) && laidKept (H₀ w.params) (S₁ w os).heap) = true)
    (l2 : ∀ w os, openSeen q loose (importedModules p.main.body) Xt true (S₁ w os) = openGood q loose) (l3 : ∀ w os, Yf (S₁ w os) = Ya w)
    (le : Nat.ble M N = true) : LeftO p q loose Xt Yf Ya N := fun w => by
  obtain ⟨⟨h, gs, d, k, os⟩, e, e'⟩ := Option.map_eq_some_iff.mp (open_ w)
  obtain ⟨rfl, rfl, rfl, rfl⟩ : h = H₀ w.params ∧ gs = gs₀ ∧ d = d₀ ∧ k = k₀ := by simpa using e'
  obtain ⟨z1, z2, z3⟩ : _ ∧ _ ∧ _ := by simpa only [Prod.mk.injEq] using size w
  have r := topRun_mono (N - M) _ _ _ _ (congrFun (run w) os)
  rw [show M + (N - M) = N by have := Nat.le_of_ble_eq_true le; omega] at r
  have t : topFrom treeTable p w N ⟨H₀ w.params, gs, d, k, os⟩ = some (S₁ w os) := by
    unfold topFrom
    dsimp only
    rw [z1, z2, z3, r]
    show (match staticsOk (importedModules p.main.body) (H₀ w.params) (S₁ w os).heap && namesBound p (S₁ w os).heap && gensDone (S₁ w os) && laidKept (H₀ w.params) (S₁ w os).heap with | true => _ | false => _) = _
    rw [l1]
  unfold openEnds
  rw [e]
  show (topFrom treeTable p w N _).map _ = _
  rw [t]
  exact congrArg some (Prod.ext (l2 w os) (l3 w os))
noncomputable def vq : Program := view pq keep
noncomputable abbrev hookq : Hook := kHook Kq as (fun _ => by kernel_rfl)
/-- the run of the top -/
noncomputable def ran (w : World) (os : OsState) : Option Shared := topRun treeTable pq w 11 (some (.ref 6)) 2400 ⟨boot_heap w.params, Array.mk [], boot_drawn, boot_toks, os⟩ (topStub pq)
/-- the objects that nothing reaches: left as the run leaves them -/
noncomputable def left_ (r : Option Shared) (i : Nat) : Obj := match r with | some s => s.heap.objs.toList.getD i default | none => default
noncomputable def kq (P : Params) (i : Nat) : Obj := ((Kq P).lookup i).getD default
/-- an empty table of nested code -/
abbrev nest0 : Obj := { cls := .none, dict := none, data := .fields #[], slots := #[] }
noncomputable def endS (w : World) (os : OsState) (k g : Nat → Obj) : Shared := ⟨⟨Array.mk [boot_o_0 w.params, boot_o_1 w.params, k 2, k 3, boot_o_4 w.params, boot_o_5 w.params, k 6, boot_o_7 w.params, boot_o_8 w.params, boot_o_9 w.params, boot_o_10 w.params, g 11, g 12, g 13, g 14, k 15, nest0, k 17, k 18, g 19, k 20, k 21, k 22, nest0, k 24, k 25, g 26, k 27, k 28, k 29, g 30, g 31, g 32, nest0, g 34, g 35, k 36, k 37, k 38, k 39, g 40, g 41, k 42, g 43, g 44, g 45, nest0, g 47, g 48, k 49, k 50, k 51, g 52, g 53, k 54, nest0, k 56, k 57, g 58, k 59, k 60, k 61, g 62, g 63, k 64, nest0, k 66, k 67, g 68, k 69, k 70, k 71, nest0, k 73, k 74, g 75, k 76, k 77, k 78, nest0, k 80, k 81, g 82, k 83, k 84, k 85, nest0, k 87, k 88, g 89, k 90, k 91, k 92, nest0, k 94, k 95, g 96, k 97, k 98, k 99, nest0, k 101, k 102, g 103, k 104, k 105, k 106, nest0, g 108, k 109, k 110, k 111, nest0, k 113, k 114, g 115, k 116, k 117, k 118, nest0, g 120, k 121, k 122, k 123, nest0, g 125, k 126, k 127, k 128, nest0, g 130, k 131, k 132], {}⟩, Array.mk [], {}, 557, os⟩
section
variable (w : World) (os : OsState) (g : Nat → Obj)
theorem size_q : ((boot_heap w.params).isNs mainGlobals && (Array.mk ([] : List GenState)).size == 0, (boot_heap w.params).objs.size, (boot_heap w.params).nsMap mainGlobals "__annotations__") = (true, 11, some (.ref 6)) := by kernel_rfl
theorem run_f : (fun os => ran (w.withFollow "special-get-raises" false) os) = fun os => some (endS (w.withFollow "special-get-raises" false) os (kq (w.withFollow "special-get-raises" false).params) (left_ (ran (w.withFollow "special-get-raises" false) os))) := by
  unfold ran
  rw [PySem.W.Fast.te14082659384304107361, PySem.W.Fast.te14364793385576792824]
  kernel_rfl
theorem run_t : (fun os => ran (w.withFollow "special-get-raises" true) os) = fun os => some (endS (w.withFollow "special-get-raises" true) os (kq (w.withFollow "special-get-raises" true).params) (left_ (ran (w.withFollow "special-get-raises" true) os))) := by
  unfold ran
  rw [PySem.W.Fast.te14082659384304107361, PySem.W.Fast.te14364793385576792824]
  kernel_rfl
theorem look1 : (staticsOk (importedModules pq.main.body) (boot_heap w.params) (endS w os (kq w.params) g).heap && namesBound pq (endS w os (kq w.params) g).heap && gensDone (endS w os (kq w.params) g) && laidKept (boot_heap w.params) (endS w os (kq w.params) g).heap) = true := by kernel_rfl
theorem look3 : hookq.obs (endS w os (kq w.params) g) = hookq.val w := by kernel_rfl
theorem c0 : seen ((recsOf vq).map (·.name)) (ownsOf vq) [] { endS w os (kq w.params) g with gens := #[] } = expectedOf vq := by
  rw [PySem.W.Fast.te5160383126252970620, PySem.W.Fast.te3399658132070893891, PySem.W.Fast.te5991557255702980513]
  kernel_rfl
theorem c1 : (endS w os (kq w.params) g).heap.bltView = bltViewBooted := by kernel_rfl
theorem c2a : (endS w os (kq w.params) g).heap.keysOk (looseW vq [Str.ofString "EXACT_TOKEN_TYPES"]) ((recsOf vq).map (·.name)) ((litsOf vq).map (·.1)) ((clssOf vq (looseW vq [Str.ofString "EXACT_TOKEN_TYPES"])).map (·.name)) = true := by
  rw [PySem.W.Fast.te10880121769531294198, PySem.W.Fast.te821141287760084731, PySem.W.Fast.te3399658132070893891, PySem.W.Fast.te7409074990110511671, PySem.W.Fast.te13664370479719496447]
  kernel_rfl
theorem c2b : (endS w os (kq w.params) g).heap.accountedOkI (importedModules pq.main.body) = true := by
  rw [PySem.W.Fast.te14722251495701143533, PySem.W.Fast.te5923862056798008813]
  kernel_rfl
theorem c2c : tablesOk vq (endS w os (kq w.params) g).heap = true := by
  rw [PySem.W.Fast.te10994771534591457954]
  kernel_rfl
theorem c2d : ((endS w os (kq w.params) g).heap.isNs mainGlobals && (endS w os (kq w.params) g).heap.isNs builtinsNs && (fun s => xlAt vq [] s && recOk [] s) (endS w os (kq w.params) g) && (if true = true then (endS w os (kq w.params) g).gens.size == 0 else !leftWithCleanup (endS w os (kq w.params) g).gens)) = true := by kernel_rfl
theorem all7 {a b c d e f g : Bool} (h1 : a = true) (h2 : b = true) (h5 : e = true) (h : (c && d && f && g) = true) : (a && b && c && d && e && f && g) = true := by
  cases h1; cases h2; cases h5; simpa using h
theorem c2 : ((endS w os (kq w.params) g).heap.keysOk (looseW vq [Str.ofString "EXACT_TOKEN_TYPES"]) ((recsOf vq).map (·.name)) ((litsOf vq).map (·.1)) ((clssOf vq (looseW vq [Str.ofString "EXACT_TOKEN_TYPES"])).map (·.name)) && (endS w os (kq w.params) g).heap.accountedOkI (importedModules pq.main.body) && (endS w os (kq w.params) g).heap.isNs mainGlobals && (endS w os (kq w.params) g).heap.isNs builtinsNs && tablesOk vq (endS w os (kq w.params) g).heap && (fun s => xlAt vq [] s && recOk [] s) (endS w os (kq w.params) g) && (if true = true then (endS w os (kq w.params) g).gens.size == 0 else !leftWithCleanup (endS w os (kq w.params) g).gens)) = true := all7 (c2a w os g) (c2b w os g) (c2c w os g) (c2d w os g)
theorem c3 : tabsOk vq (endS w os (kq w.params) g) = true := by
  rw [PySem.W.Fast.te479339242167458305]
  kernel_rfl
theorem c4 : pinSeenD vq (drecsOf vq) (endS w os (kq w.params) g) = pinGoodD (drecsOf vq) := by kernel_rfl
theorem c5 : plainSeenE vq (looseW vq [Str.ofString "EXACT_TOKEN_TYPES"]) (endS w os (kq w.params) g) = plainGoodE vq (looseW vq [Str.ofString "EXACT_TOKEN_TYPES"]) := by
  rw [PySem.W.Fast.te2386780881361962483, PySem.W.Fast.te821141287760084731]
  kernel_rfl
theorem c6 : plainSeenD vq [Str.ofString "EXACT_TOKEN_TYPES"] (endS w os (kq w.params) g) = plainGoodD vq [Str.ofString "EXACT_TOKEN_TYPES"] := by kernel_rfl
theorem c7 : wideSeen vq (endS w os (kq w.params) g) = wideGood vq := by
  rw [PySem.W.Fast.te7317090234206586261]
  kernel_rfl
theorem c8 : clsSeenW vq [Str.ofString "EXACT_TOKEN_TYPES"] (endS w os (kq w.params) g) = clsGoodW vq [Str.ofString "EXACT_TOKEN_TYPES"] := by kernel_rfl
theorem look2 : openSeen vq [Str.ofString "EXACT_TOKEN_TYPES"] (importedModules pq.main.body) (fun s => xlAt vq [] s && recOk [] s) true (endS w os (kq w.params) g) = openGood vq [Str.ofString "EXACT_TOKEN_TYPES"] :=
  looks_pair (c0 w os g) (looks_pair (c1 w os g) (looks_pair (c2 w os g) (looks_pair (c3 w os g) (looks_pair (c4 w os g) (looks_pair (c5 w os g) (looks_pair (c6 w os g) (looks_pair (c7 w os g) (c8 w os g))))))))
end
theorem left_q : LeftO pq vq [Str.ofString "EXACT_TOKEN_TYPES"] (fun s => xlAt vq [] s && recOk [] s) hookq.obs hookq.val 4786 :=
  left_of_run (M := 2400) (fun w os => endS w os (kq w.params) (left_ (ran w os))) (boot_open (by kernel_rfl) (by decide) (by intro s; kernel_rfl)) size_q
    (byRow2 "special-get-raises" run_f run_t) (fun w os => look1 w os _) (fun w os => look2 w os _) (fun w os => look3 w os _) (by decide)
theorem left_o (p : Program) (K : Params → Frag) (hp : p = pq) (hK : K = Kq) (e : ∀ P, as = (K P).map (·.1)) :
    LeftO p (view p keep) [Str.ofString "EXACT_TOKEN_TYPES"] (fun s => xlAt (view p keep) [] s && recOk [] s) (kHook K as e).obs (kHook K as e).val 4786 := by
  subst hp
  subst hK
  exact left_q
noncomputable def rq : OpenLaw := { prog := pq, name := Str.mk #[108, 97, 119], about := [Str.mk #[95, 115, 116, 114, 99, 111, 108, 108]], foot := 7, most := some 63, bound := none, writes := false }
theorem rq_eq : PySem.Challenge.rw_wn0104_01 = rq := by kernel_rfl
theorem said_q : rq.wellSaid = true := by k_qdec
theorem said : PySem.Challenge.rw_wn0104_01.wellSaid = true := (congrArg OpenLaw.wellSaid rq_eq).trans said_q
noncomputable def vo : Program := view PySem.Challenge.pw_wn0104_01 keep
noncomputable abbrev hook : Hook := kHook kk.heap_1 as (fun _ => by kernel_rfl)
noncomputable def FD : DefRec := by
  refine (?f : (d : DefRec) → (k : List (Str × PySem.Expr)) → defOf vo PySem.Challenge.rw_wn0104_01.row.name = some (d, k) → DefRec) ?d ?k ?h
  case f => exact fun d _ _ => d
  case h => rfl
theorem hd (walk : WalkO vo [Str.ofString "EXACT_TOKEN_TYPES"] (XL vo []) hook.says PySem.Challenge.rw_wn0104_01.row.toRowW FD [] fun f vs => PySem.call f vs) : PySem.Challenge.rw_wn0104_01.Holds := by
  refine holds_law said fun said' => ?_
  refine holds_open (q := vo) (loose := [Str.ofString "EXACT_TOKEN_TYPES"]) (Xt := fun s => xlAt vo [] s && recOk (RowW.records PySem.Challenge.rw_wn0104_01.row.toRowW) s) (XP := XL vo []) (Yf := hook.obs) (Ya := hook.val) (YP := hook.says) (d := FD) (kwd := []) (N := 4786) (left_o _ _ pq_eq Kq_eq _) hook.of hook.keeps (fun s e => xl_of s (Bool.and_eq_true_iff.mp e).1) XL.keeps ?_ ?_ ?_ (fun s e => recFacts_of (Bool.and_eq_true_iff.mp e).2) ?_ said' ?_ ⟨rfl, rfl, rfl, rfl, rfl, by decide +kernel⟩ ?hw walk
  · rfl
  · rfl
  · rfl
  · rfl
  · decide +kernel
  · w_witness2
end Mine
end
section
open PySem PySem.W PyProof.Rows
set_option Elab.async false
set_option maxRecDepth 100000
namespace Mine
theorem prime0 (w : World) : (kk.heap_1 w.params = kk.heap_1 w.params) ∧ PySem.Challenge.rw_wn0104_01 = PySem.Challenge.rw_wn0104_01 := by
  k_fill
  exact ⟨rfl, rfl⟩
noncomputable abbrev pg : Program := PySem.Challenge.rw_wn0104_01.row.prog
noncomputable abbrev vw : Program := vo
noncomputable abbrev lo : List Str := looseW vw [Str.ofString "EXACT_TOKEN_TYPES"]
/-- what a call of the def at f with the arguments vs does, wherever it is made: Rel of the ledger ahead, Out of the answer and of what was made; k frames' room -/
noncomputable abbrev Claim (w : World) (k : Nat) (f : Addr) (vs : List Value) (Rel : List (Addr × Obj) → Prop) (Out : Value → List (Addr × Obj) → Prop) : Prop :=
  ∀ (mean : ExcName → Option Value) (mg mb : Str → Option Value) (news : List (Addr × Obj)) (dp un : Nat) (gd : Option (List Code)) (cn : Str) (cs : Scope) (a : Addr) (ccd : Value) (cl : List (Str × Addr)) (outer : List Env) (A₀ : Around) (base h₀ : Heap) (L : Addr) (m : Str → Option Value) (s : Shared) (Q E : Value → Shared → Prop),
    Below A₀ base outer h₀ → Fr h₀ L s.heap m → (kk.heap_1 w.params).In h₀ → News h₀ L s.heap news → Top vw lo mean mg mb h₀ → cs.kind = .function → Rel news → dp + k < recursionLimit → un + 8 * k < cLine →
    (∀ (r : Value) (tl : List (Addr × Obj)) (h' : Heap) (tk' : Nat), Fr h₀ L h' m → News h₀ L h' (tl ++ news) → (∀ q ∈ news, ∀ p ∈ tl, q.1 < p.1) → Out r tl → Q r { s with heap := h', toks := tk' }) →
    wpAny (model pg w) (ktrTop dp un gd cn cs L a ccd cl outer) (call (.ref f) vs) Q E s
theorem Claim.use {w : World} {k : Nat} {f : Addr} {vs : List Value} {Rel : List (Addr × Obj) → Prop} {Out : Value → List (Addr × Obj) → Prop} (C : Claim w k f vs Rel Out) {mean : ExcName → Option Value} {mg mb : Str → Option Value} {news : List (Addr × Obj)} {dp un : Nat} {gd : Option (List Code)} {cn : Str} {cs : Scope} {a : Addr} {ccd : Value} {cl : List (Str × Addr)} {outer : List Env} {A₀ : Around} {base h₀ : Heap} {L : Addr} {m : Str → Option Value} {s : Shared} {Q E : Value → Shared → Prop}
    (B : Below A₀ base outer h₀) (F : Fr h₀ L s.heap m) (X : (kk.heap_1 w.params).In h₀) (N : News h₀ L s.heap news) (T : Top vw lo mean mg mb h₀) (hk : cs.kind = .function) (hR : Rel news) (hd : dp + k < recursionLimit) (hu : un + 8 * k < cLine)
    (ret : ∀ (r : Value) (tl : List (Addr × Obj)) (h' : Heap) (tk' : Nat), Fr h₀ L h' m → News h₀ L h' (tl ++ news) → (∀ q ∈ news, ∀ p ∈ tl, q.1 < p.1) → Out r tl → Q r { s with heap := h', toks := tk' }) :
    wpAny (model pg w) (ktrTop dp un gd cn cs L a ccd cl outer) (call (.ref f) vs) Q E s := C _ _ _ _ _ _ _ _ _ _ _ _ _ _ _ _ _ _ _ _ _ B F X N T hk hR hd hu ret
theorem Claim.useI {w : World} {k : Nat} {f : Addr} {vs : List Value} {i : Int} (C : Claim w k f vs (fun _ => True) (fun r tl => (∃ t, r = .int i t) ∧ tl = [])) {mean : ExcName → Option Value} {mg mb : Str → Option Value} {news : List (Addr × Obj)} {dp un : Nat} {gd : Option (List Code)} {cn : Str} {cs : Scope} {a : Addr} {ccd : Value} {cl : List (Str × Addr)} {outer : List Env} {A₀ : Around} {base h₀ : Heap} {L : Addr} {m : Str → Option Value} {s : Shared} {Q E : Value → Shared → Prop}
    (B : Below A₀ base outer h₀) (F : Fr h₀ L s.heap m) (X : (kk.heap_1 w.params).In h₀) (N : News h₀ L s.heap news) (T : Top vw lo mean mg mb h₀) (hk : cs.kind = .function) (hd : dp + k < recursionLimit) (hu : un + 8 * k < cLine)
    (ret : ∀ (t : Tok) (h' : Heap) (tk' : Nat), Fr h₀ L h' m → News h₀ L h' news → Q (.int i t) { s with heap := h', toks := tk' }) :
    wpAny (model pg w) (ktrTop dp un gd cn cs L a ccd cl outer) (call (.ref f) vs) Q E s :=
  Claim.use C B F X N T hk trivial hd hu fun r tl h' tk' F' N' _ o => by obtain ⟨⟨t, rfl⟩, rfl⟩ := o; exact ret t h' tk' F' N'
noncomputable def cmpF (a b : Str) : Int := b2i (decide (b.cps.toList < a.cps.toList)) - b2i (decide (a.cps.toList < b.cps.toList))
set_option maxHeartbeats 4000000 in
theorem strcoll_c (w : World) (a : Str) (ta : Tok) (b : Str) (tb : Tok) :
    Claim w 1 21 [.str a ta, .str b tb] (fun _ => True) (fun r tl => (∃ t, r = .int (cmpF a b) t) ∧ tl = []) := by
  w_top off
  intro mean mg mb news dp un gd cn cs a₁ ccd cl outer A₀ base h₀ L m s Q E B F X N T hk hR hd hu hret
  refine wpAny_call ?_
  k_dflt cell_enter
  k_steps
  exact hret _ [] _ _ (by assumption) (by assumption) (fun _ _ _ h => nomatch h) ⟨⟨_, rfl⟩, rfl⟩
noncomputable def subF (a b : Str) : Int := if (a == b) = true then 0 else if (Txt.lower a == Txt.lower b) = true then 1 else 2
set_option maxHeartbeats 4000000 in
theorem subst_c (w : World) (a : Str) (ta : Tok) (b : Str) (tb : Tok) (ha : a.length ≤ 1) (hb : b.length ≤ 1) :
    Claim w 1 84 [.str a ta, .str b tb] (fun _ => True) (fun r tl => (∃ t, r = .int (subF a b) t) ∧ tl = []) := by
  w_top off
  intro mean mg mb news dp un gd cn cs a₁ ccd cl outer A₀ base h₀ L m s Q E B F X N T hk hR hd hu hret
  refine wpAny_call ?_
  k_dflt cell_enter
  k_steps
  all_goals (refine hret _ [] _ _ (by assumption) (by assumption) (fun _ _ _ h => nomatch h) ⟨ktn_int ?_, rfl⟩; simp only [subF]; simp [*])
end Mine
end
section
open PySem PySem.W PyProof.Rows PySem.Calls PySem.Spec
set_option Elab.async false
set_option maxRecDepth 100000
namespace Mine
noncomputable def Stop (P : Prop) : Prop := P
theorem Stop.out {P : Prop} (h : Stop P) : P := h
/-- the end of a test: nothing is changed but what is made and dropped -/
noncomputable def TEnd (h₀ : Heap) (L : Addr) (m : Str → Option Value) (news : List (Addr × Obj)) (c : Bool) (s : Shared) (b : Bool) (s₂ : Shared) : Prop :=
  ∃ h' tk', s₂ = { s with heap := h', toks := tk' } ∧ b = c ∧ Fr h₀ L h' m ∧ News h₀ L h' news
theorem TEnd.intro {h₀ : Heap} {L : Addr} {m : Str → Option Value} {news : List (Addr × Obj)} {c : Bool} {s : Shared} {b : Bool} {h' : Heap} {tk' : Nat} (F : Fr h₀ L h' m) (N : News h₀ L h' news) (e : b = c) : TEnd h₀ L m news c s b { s with heap := h', toks := tk' } := ⟨h', tk', rfl, e, F, N⟩
section
variable {prog : Program} {w : World} {A : Around} {E : Value → Shared → Prop} {Q : Flow → Shared → Prop} {s : Shared} {env : Env} {h₀ : Heap} {L : Addr}
theorem while_c {σ : Type} {test : PySem.Expr} {body : List Stmt} {pos : Pos} {m₀ : Str → Option Value} (Led : σ → List (Addr × Obj)) (ps : σ → List (Str × Value)) (stored : List Str) (P : σ → Prop) (cond : σ → Bool) (μ : σ → Nat) (c₀ : σ)
    (F : Fr h₀ L s.heap m₀) (N : News h₀ L s.heap (Led c₀)) (hk : ∀ p ∈ ps c₀, m₀ p.1 = some p.2) (hp : P c₀)
    (tst : ∀ (c : σ) (u : Str → Option Value) h tk, P c → Fr h₀ L h (kstB (fun z => if stored.contains z then u z else m₀ z) (ps c)) → News h₀ L h (Led c) →
      wpAny (model prog w) A (isTrue test env (eval test env)) (TEnd h₀ L (kstB (fun z => if stored.contains z then u z else m₀ z) (ps c)) (Led c) (cond c) s) E { s with heap := h, toks := tk })
    (turn : ∀ (c : σ) (u : Str → Option Value) h tk, P c → cond c = true → Fr h₀ L h (kstB (fun z => if stored.contains z then u z else m₀ z) (ps c)) → News h₀ L h (Led c) →
      wpAny (model prog w) A (execs body env) (KswPost h₀ L s Led ps (fun _ => True) stored m₀ P μ Q c) E { s with heap := h, toks := tk })
    (done : ∀ (c : σ) (u : Str → Option Value) h tk, P c → cond c = false → Fr h₀ L h (kstB (fun z => if stored.contains z then u z else m₀ z) (ps c)) → News h₀ L h (Led c) → Q .next { s with heap := h, toks := tk })
    (hE : PassesOwn (model prog w) A env E := by passes_own) :
    wpAny (model prog w) A (exec (.While test body [] pos) env) Q E s := by
  refine ksw_while Led ps (fun _ => True) stored P μ c₀ F N trivial hk hp ?_ hE
  intro c u h tk _ hP F₁ N₁
  refine wpAny_mono (tst c u h tk hP F₁ N₁) (fun b s₂ q => ?_) fun _ _ x => x
  obtain ⟨h', tk', rfl, rfl, F₂, N₂⟩ := q
  cases hc : cond c with
  | false => simpa [hc] using done c u h' tk' hP hc F₂ N₂
  | true => simpa [hc] using turn c u h' tk' hP hc F₂ N₂
/-- a statement that gives the name x the text v, whatever the way there -/
noncomputable def AEnd (h₀ : Heap) (L : Addr) (m : Str → Option Value) (news : List (Addr × Obj)) (x v : Str) (s : Shared) (f : Flow) (s₂ : Shared) : Prop :=
  ∃ h' tk' t, f = .next ∧ s₂ = { s with heap := h', toks := tk' } ∧ Fr h₀ L h' (fun y => if y = x then some (.str v t) else m y) ∧ News h₀ L h' news
theorem AEnd.intro {m : Str → Option Value} {news : List (Addr × Obj)} {x v v' : Str} {t : Tok} {h' : Heap} {tk' : Nat} (F : Fr h₀ L h' (fun y => if y = x then some (.str v' t) else m y)) (N : News h₀ L h' news) (e : v' = v) : AEnd h₀ L m news x v s .next { s with heap := h', toks := tk' } := ⟨h', tk', t, rfl, rfl, e ▸ F, N⟩
theorem assign_cut {t : Sem Flow} {m : Str → Option Value} {news : List (Addr × Obj)} (x v : Str) (_F : Fr h₀ L s.heap m) (_N : News h₀ L s.heap news)
    (h : wpAny (model prog w) A t (AEnd h₀ L m news x v s) E s)
    (k : ∀ h' tk' t, Fr h₀ L h' (fun y => if y = x then some (.str v t) else m y) → News h₀ L h' news → Q .next { s with heap := h', toks := tk' }) :
    wpAny (model prog w) A t Q E s := wpAny_mono h (fun f s' ⟨h', tk', t, e, e', F', N'⟩ => by subst e; subst e'; exact k h' tk' t F' N') fun _ _ x => x
theorem size_two (n : Nat) : Builtin.Range.rangeSize 2 (2 * ((n : Int) + 1)) 2 = (n : Int) := by
  unfold Builtin.Range.rangeSize
  simp only [show (2 : Int) > 0 by decide, if_true]
  split <;> omega
theorem fits_of {i : Int} (h0 : -1000 ≤ i) (h1 : i < 10000) : Builtin.Range.rangeFitsLong i = true := by
  unfold Builtin.Range.rangeFitsLong
  rw [Bool.and_eq_true, decide_eq_true_eq, decide_eq_true_eq]
  exact ⟨by omega, by omega⟩
theorem small_two {n : Nat} (h : n < 1000) : Builtin.Range.small 2 (2 * ((n : Int) + 1)) 2 = true := by
  unfold Builtin.Range.small
  rw [size_two, fits_of (by omega) (by omega), fits_of (i := 2 * ((n : Int) + 1)) (by omega) (by omega), fits_of (i := (n : Int)) (by omega) (by omega), if_pos (by decide), fits_of (by omega) (by omega)]
  simp
theorem list_range2 {r : Addr} {a b c : Int} {t u v : Tok} {n : Nat} {m : Str → Option Value} {news : List (Addr × Obj)} {Q : Value → Shared → Prop} (hh : A.handled = none) (F : Fr h₀ L s.heap m) (N : News h₀ L s.heap news)
    (hr : IsRange s.heap r a b c t u v) (hsmall : Builtin.Range.small a b c = true) (hn : Builtin.Range.rangeSize a b c = (n : Int)) (hlen : n ≤ 2 ^ 24)
    (h : ∀ D (vs : List Value) k h' tk, Fr h₀ L h' m → News h₀ L h' ((D, listOf vs.toArray k) :: news) → IntsAre vs (rangeInts a c n) → (∀ p ∈ news, p.1 < D) → Q (.ref D) { s with heap := h', toks := tk }) :
    wpAny (model prog w) A (call (.type "list") [.ref r]) Q E s := by
  refine list_rangeD hh F N hr hsmall hn hlen fun h' tk ys F' N' _ hD _ P hc => ?_
  obtain ⟨k, N2, _⟩ := gn_enter P F' N' hD
  have e : IntsAre ys ((rangeInts a c n).map fun x => x) := CarriedAll.intsOf (f := fun x => x) hc
  rw [List.map_id'] at e
  exact h _ _ _ _ _ F' N2 e fun p hp => Heap.lt_size (N p hp).1
end
end Mine
end
section
open PySem PySem.W PyProof.Rows
set_option Elab.async false
set_option maxRecDepth 100000
namespace Mine
noncomputable def mn2 (x y : Int) : Int := if y < x then y else x
noncomputable def dpStep (A c : Str) (st : Int × Int × Int × List Int) (i : Int) : Int × Int × Int × List Int :=
  let r' := mn2 (mn2 st.2.1 (st.2.2.2.getD i.toNat 0) + 2) (st.1 + subF c (Txt.item A i))
  (st.2.2.2.getD i.toNat 0, r', if r' < st.2.2.1 then r' else st.2.2.1, st.2.2.2.set i.toNat r')
noncomputable def dpIn (A c : Str) (k : Int) (row : List Int) : Int × Int × Int × List Int := (rangeKs 0 A.length).foldl (dpStep A c) (k * 2, k * 2, 9223372036854775807, row)
noncomputable def dpO (A B : Str) : Nat → Nat → List Int → Int → Int
  | 0, _, _, res => res
  | n + 1, k, row, _ =>
    let st := dpIn A (Txt.item B k) k row
    if 2 < st.2.2.1 then 3 else dpO A B n (k + 1) st.2.2.2 st.2.1
theorem dpO_ret {A B : Str} {n k : Nat} {row : List Int} {res d r mn : Int} {row' : List Int} (e : (d, r, mn, row') = dpIn A (Txt.item B k) k row) (h : 2 < mn) : dpO A B (n + 1) k row res = 3 := by
  simp only [dpO, ← e]
  rw [if_pos h]
theorem dpO_go {A B : Str} {n k : Nat} {row : List Int} {res d r mn : Int} {row' : List Int} (e : (d, r, mn, row') = dpIn A (Txt.item B k) k row) (h : ¬ 2 < mn) : dpO A B (n + 1) k row res = dpO A B n (k + 1) row' r := by
  simp only [dpO, ← e]
  rw [if_neg h]
theorem prime1 (w : World) : (kk.heap_1 w.params = kk.heap_1 w.params) ∧ PySem.Challenge.rw_wn0104_01 = PySem.Challenge.rw_wn0104_01 := by
  k_fill
  exact ⟨rfl, rfl⟩
local macro_rules | `(tactic| walk_at "exec While BoolOp cons nil") => `(tactic| (refine Stop.out ?_))
local macro_rules | `(tactic| walk_at "subscriptTail Name BinOp str int") => `(tactic| (refine item_str (fitsSsize_of (N := 9223372036854775808) (by omega) (by omega) (Int.le_refl _)) (by omega) (by omega) ?_; intro _))
local macro_rules | `(tactic| walk_at "exec Assign cons Subscript") => `(tactic| ((fail_if_success (with_reducible show wpAny _ _ _ (AEnd _ _ _ _ _ _ _) _ _)); (with_reducible show wpAny _ _ (exec (PySem.Stmt.Assign _ (PySem.Expr.Subscript _ (PySem.Expr.Slice _ _ _ _) _) _) _) _ _ _); refine Stop.out ?_))
local macro_rules | `(tactic| walk_at "ite") => `(tactic| (k_dflt first | refine ite_pos (by first | omega | (simp only [bne_iff_ne, ne_eq, beq_iff_eq, decide_eq_true_eq]; omega)) ?_ | refine ite_neg (by first | omega | (simp only [bne_iff_ne, ne_eq, beq_iff_eq, decide_eq_true_eq]; omega)) ?_))
local macro_rules | `(tactic| walk_at "subscriptTail Name Slice str ref") => `(tactic| ((with_reducible show wpAny _ _ (subscriptTail _ (PySem.Expr.Slice none (some _) none _) _ _) _ _ _); (with_reducible rename Fr _ _ _ _ => F'); (with_reducible rename News _ _ _ _ => N'); (refine slice_strN_nn (hsz := ?hsz) (s := ⟨_, _, _, _, _⟩) F' N' ?_); (case hsz => size_fits); intro _ _ _ _ _))
local macro_rules | `(tactic| walk_at "call type:list") => `(tactic| (refine Stop.out ?_))
local macro_rules | `(tactic| walk_at "call ref") => `(tactic| (k_here; k_dflt (refine' Claim.useI (subst_c _ _ _ _ _ ?ka ?kb) ?k1 ?k2 ?k3 ?k4 ?k5 ?k6 ?k7 ?k8 ?_; (case ka => omega); (case kb => omega); (case k1 => k_asm); (case k2 => k_asm); (case k3 => k_asm); (case k4 => k_asm); (case k5 => k_asm); (case k6 => first | exact rfl | assumption); (case k7 => ktr_room); (case k8 => ktr_units)); intro t9 h9 tk9 F9 N9))
local macro_rules | `(tactic| k_all) => `(tactic| assumption)
local macro_rules | `(tactic| walk_at "InvEndN") => `(tactic| (refine Stop.out ?_))
local macro_rules | `(tactic| walk_at "KswEnd") => `(tactic| (refine Stop.out ?_))
local macro_rules | `(tactic| walk_at "pyIter ref") => `(tactic| (refine Stop.out ?_))
theorem slice_nn (x : Str) : Txt.slice x none none = x := by
  unfold Txt.slice
  rw [if_pos]
  unfold Builtin.Str.strSliceIndices sliceRange
  simp
  split <;> omega
noncomputable def lc1 (a b : Str) (p : Int) : Bool := decide (p < a.length) && (decide (p < b.length) && (Txt.item a p == Txt.item b p))
noncomputable def lc2 (a b : Str) (q : Int) : Bool := decide (0 < a.length + q) && (decide (0 < b.length + q) && (Txt.item a (q - 1) == Txt.item b (q - 1)))
noncomputable def lp2 (a b : Str) : Nat → Int → Int
  | 0, p => p
  | n + 1, p => if lc2 a b p = true then lp2 a b n (p - 1) else p
theorem lp2_stop {a b : Str} {p : Int} (h : lc2 a b p = false) : ∀ n, lp2 a b n p = p
  | 0 => rfl
  | n + 1 => by rw [lp2, h]; rfl
theorem lp2_go {a b : Str} {p : Int} {k : Nat} (h : lc2 a b p = true) (hk : k < 65) : lp2 a b (65 - k) p = lp2 a b (65 - (k + 1)) (p - 1) := by
  obtain ⟨j, hj⟩ : ∃ j, 65 - k = j + 1 := ⟨64 - k, by omega⟩
  rw [hj, show 65 - (k + 1) = j by omega, lp2, h, if_pos rfl]
theorem lc2_lt {a b : Str} {p : Int} (h : lc2 a b p = true) : 0 < a.length + p ∧ 0 < b.length + p := by
  simp only [lc2, Bool.and_eq_true, decide_eq_true_eq] at h
  exact ⟨h.1, h.2.1⟩
noncomputable def sl (x : Str) (q : Int) : Str := if q = 0 then x else Txt.slice x none (some q)
noncomputable def lp1 (a b : Str) : Nat → Int → Int
  | 0, p => p
  | n + 1, p => if lc1 a b p = true then lp1 a b n (p + 1) else p
theorem sl_len {x : Str} {q : Int} (h0 : q ≤ 0) (h1 : -(x.length : Int) ≤ q) : ((sl x q).length : Int) = x.length + q := by
  unfold sl
  split
  · omega
  · rcases slice_ns_cases' x q with ⟨_, h⟩ | ⟨_, _, h⟩ | ⟨_, h⟩ <;> omega
theorem slice_neg_len {x : Str} {q : Int} (h0 : q < 0) (h1 : -(x.length : Int) ≤ q) : ((Txt.slice x none (some q)).length : Int) = x.length + q := by
  rcases slice_ns_cases' x q with ⟨_, h⟩ | ⟨_, _, h⟩ | ⟨_, h⟩ <;> omega
theorem lp1_stop {a b : Str} {p : Int} (h : lc1 a b p = false) : ∀ n, lp1 a b n p = p
  | 0 => rfl
  | n + 1 => by rw [lp1, h]; rfl
theorem lp1_go {a b : Str} {p : Int} {k : Nat} (h : lc1 a b p = true) (hk : k < 65) : lp1 a b (65 - k) p = lp1 a b (65 - (k + 1)) (p + 1) := by
  obtain ⟨j, hj⟩ : ∃ j, 65 - k = j + 1 := ⟨64 - k, by omega⟩
  rw [hj, show 65 - (k + 1) = j by omega, lp1, h, if_pos rfl]
theorem lc1_lt {a b : Str} {p : Int} (h : lc1 a b p = true) : p < a.length ∧ p < b.length := by
  simp only [lc1, Bool.and_eq_true, decide_eq_true_eq] at h
  exact ⟨h.1, h.2.1⟩
noncomputable def levF (a b : Str) : Int :=
  let p := lp1 a b 65 0
  let a1 := Txt.slice a (some p) none
  let b1 := Txt.slice b (some p) none
  let q := lp2 a1 b1 65 0
  let a2 := sl a1 q
  let b2 := sl b1 q
  if a2.length = 0 ∨ b2.length = 0 then 2 * ((a2.length : Int) + b2.length) else dpO a2 b2 b2.length 0 (rangeInts 2 2 a2.length) 0
set_option maxHeartbeats 8000000 in
theorem lev_c (w : World) (a : Str) (ta : Tok) (b : Str) (tb : Tok) (tc : Tok) (ha : a.length ≤ 4) (hb : b.length = a.length + 1) (hne : (a == b) = false) :
    Claim w 3 91 [.str a ta, .str b tb, .int 2 tc] (fun _ => True) (fun r tl => (∃ t, r = .int (levF a b) t) ∧ tl = []) := by
  w_top off
  intro mean mg mb news dp un gd cn cs a₁ ccd cl outer A₀ base h₀ L m s Q E B F X N T hk hR hd hu hret
  refine wpAny_call ?_
  k_dflt cell_enter
  k_steps
  · unfold Stop
    rename Fr _ _ _ _ => F1
    rename News _ _ _ _ => N1
    refine' while_c (σ := Int × Tok) (fun _ => news) (fun c => [(Str.ofString "pre", .int c.1 c.2)]) [] (fun c => 0 ≤ c.1 ∧ c.1 ≤ a.length ∧ c.1 ≤ b.length ∧ lp1 a b 65 0 = lp1 a b (65 - c.1.toNat) c.1) (fun c => lc1 a b c.1) (fun c => 65 - c.1.toNat) (0, _) F1 N1 ?hk ?hp ?t1 ?t2 ?t3
    case hk => kst_all
    case hp => exact ⟨Int.le_refl _, Int.natCast_nonneg _, Int.natCast_nonneg _, rfl⟩
    case t1 =>
      clear F1 N1
      rintro ⟨p, tp⟩ u h tk ⟨h0, h1, h2, h3⟩ F2 N2
      dsimp only at h0 h1 h2 h3
      k_fold
      k_steps
      all_goals (refine TEnd.intro ?_ ?_ ?_; assumption; assumption; simp only [lc1]; first
        | (rw [decide_eq_true (by omega : p < a.length), decide_eq_true (by omega : p < b.length), ‹(Txt.item a p == Txt.item b p) = _›]; rfl)
        | (rw [decide_eq_true (by omega : p < a.length), decide_eq_false (by omega : ¬ p < b.length)]; rfl)
        | (rw [decide_eq_false (by omega : ¬ p < a.length)]; rfl))
    case t2 =>
      clear F1 N1
      rintro ⟨p, tp⟩ u h tk ⟨h0, h1, h2, h3⟩ hc F2 N2
      dsimp only at h0 h1 h2 h3 hc F2
      have hlt := lc1_lt hc
      try k_fold
      k_steps
      refine' ksw_end (p + 1, _) ?e1 ?e2 (fun _ h => h) trivial ?ek ?es ⟨by omega, by omega, by omega, ?eq⟩ ?em
      case e1 => assumption
      case e2 => assumption
      case ek => kst_all
      case es => intro z h2 _; have h2 := h2 _ (List.mem_cons_self ..); simp [kstB, h2]
      case em => show 65 - (p + 1).toNat < 65 - p.toNat; omega
      case eq =>
        rw [h3, show (p + 1).toNat = p.toNat + 1 by omega]
        exact lp1_go (p := p) hc (by omega)
    case t3 =>
      clear F1 N1
      rintro ⟨p, tp⟩ u h tk ⟨h0, h1, h2, h3⟩ hc F2 N2
      dsimp only at h0 h1 h2 h3 hc F2
      rw [lp1_stop hc] at h3
      have e1 := slice_sn_cases a p h0
      have e2 := slice_sn_cases b p h0
      k_steps
      unfold Stop
      rename Fr _ _ _ _ => F1
      rename News _ _ _ _ => N1
      refine assign_cut (Str.ofString "a") (Txt.slice a (some p) none) F1 N1 ?_ ?_
      · k_steps
        exact AEnd.intro (by assumption) (by assumption) rfl
      intro h' tk' t F1 N1
      k_steps
      unfold Stop
      refine assign_cut (Str.ofString "b") (Txt.slice b (some p) none) F1 N1 ?_ ?_
      · k_steps
        exact AEnd.intro (by assumption) (by assumption) rfl
      intro h' tk' t F1 N1
      k_steps
      unfold Stop
      generalize hA : Txt.slice a (some p) none = a1 at *
      generalize hB : Txt.slice b (some p) none = b1 at *
      rename Fr _ _ _ _ => F1
      rename News _ _ _ _ => N1
      have l1 : (a1.length : Int) = a.length - p := by omega
      have l2 : (b1.length : Int) = b.length - p := by omega
      clear e1 e2
      try clear F2
      try clear N2
      refine' while_c (σ := Int × Tok) (fun _ => news) (fun c => [(Str.ofString "post", .int c.1 c.2)]) [] (fun c => c.1 ≤ 0 ∧ -(a1.length : Int) ≤ c.1 ∧ -(b1.length : Int) ≤ c.1 ∧ lp2 a1 b1 65 0 = lp2 a1 b1 (65 - (-c.1).toNat) c.1) (fun c => lc2 a1 b1 c.1) (fun c => 65 - (-c.1).toNat) (0, _) F1 N1 ?hk ?hp ?t1 ?t2 ?t3
      case hk => kst_all
      case hp => exact ⟨Int.le_refl _, by show -(a1.length : Int) ≤ 0; omega, by show -(b1.length : Int) ≤ 0; omega, rfl⟩
      case t1 =>
        clear F1 N1
        rintro ⟨q, tq⟩ u h tk ⟨g0, g1, g2, g3⟩ F2 N2
        dsimp only at g0 g1 g2 F2
        rcases Int.lt_or_eq_of_le g0 with hq | hq
        · have e1 := slice_neg_len hq g1
          have e2 := slice_neg_len hq g2
          have hq' : q ≠ 0 := by omega
          clear g0
          try k_fold
          k_steps
          all_goals (refine TEnd.intro ?_ ?_ ?_; assumption; assumption; simp only [lc2]; first
            | (rw [decide_eq_true (by omega : 0 < a1.length + q), decide_eq_true (by omega : 0 < b1.length + q), ‹(Txt.item a1 (q - 1) == Txt.item b1 (q - 1)) = _›]; rfl)
            | (rw [decide_eq_true (by omega : 0 < a1.length + q), decide_eq_false (by omega : ¬ 0 < b1.length + q)]; rfl)
            | (rw [decide_eq_false (by omega : ¬ 0 < a1.length + q)]; rfl))
        · subst hq
          have e1 := congrArg Str.length (slice_nn a1)
          have e2 := congrArg Str.length (slice_nn b1)
          try k_fold
          k_steps
          all_goals (refine TEnd.intro ?_ ?_ ?_; assumption; assumption; simp only [lc2]; first
            | (rw [decide_eq_true (by omega : 0 < a1.length + (0 : Int)), decide_eq_true (by omega : 0 < b1.length + (0 : Int)), ‹(Txt.item a1 (0 - 1) == Txt.item b1 (0 - 1)) = _›]; rfl)
            | (rw [decide_eq_true (by omega : 0 < a1.length + (0 : Int)), decide_eq_false (by omega : ¬ 0 < b1.length + (0 : Int))]; rfl)
            | (rw [decide_eq_false (by omega : ¬ 0 < a1.length + (0 : Int))]; rfl))
      case t2 =>
        clear F1 N1
        rintro ⟨q, tq⟩ u h tk ⟨g0, g1, g2, g3⟩ hc2 F2 N2
        dsimp only at g0 g1 g2 g3 hc2 F2
        have hlt := lc2_lt hc2
        try k_fold
        k_steps
        refine' ksw_end (q - 1, _) ?e1 ?e2 (fun _ h => h) trivial ?ek ?es ⟨by omega, by omega, by omega, ?eq⟩ ?em
        case e1 => assumption
        case e2 => assumption
        case ek => kst_all
        case es => intro z h2 _; have h2 := h2 _ (List.mem_cons_self ..); simp [kstB, h2]
        case em => show 65 - (-(q - 1)).toNat < 65 - (-q).toNat; omega
        case eq =>
          rw [g3, show (-(q - 1)).toNat = (-q).toNat + 1 by omega]
          exact lp2_go (p := q) hc2 (by omega)
      case t3 =>
        clear F1 N1
        rintro ⟨q, tq⟩ u h tk ⟨g0, g1, g2, g3⟩ hc2 F2 N2
        dsimp only at g0 g1 g2 g3 hc2 F2
        rw [lp2_stop hc2] at g3
        k_steps
        unfold Stop
        rename Fr _ _ _ _ => F1
        rename News _ _ _ _ => N1
        refine assign_cut (Str.ofString "a") (sl a1 q) F1 N1 ?_ ?_
        · rcases Int.lt_or_eq_of_le g0 with hq | hq
          · have hq' : q ≠ 0 := by omega
            k_steps
            exact AEnd.intro (by assumption) (by assumption) (by rw [sl, if_neg hq'])
          · subst hq
            k_steps
            exact AEnd.intro (by assumption) (by assumption) (by rw [sl, if_pos rfl, slice_nn])
        intro h' tk' t F1 N1
        k_steps
        unfold Stop
        refine assign_cut (Str.ofString "b") (sl b1 q) F1 N1 ?_ ?_
        · rcases Int.lt_or_eq_of_le g0 with hq | hq
          · have hq' : q ≠ 0 := by omega
            k_steps
            exact AEnd.intro (by assumption) (by assumption) (by rw [sl, if_neg hq'])
          · subst hq
            k_steps
            exact AEnd.intro (by assumption) (by assumption) (by rw [sl, if_pos rfl, slice_nn])
        intro h' tk' t F1 N1
        generalize hA2 : sl a1 q = a2 at *
        generalize hB2 : sl b1 q = b2 at *
        have m1 : (a2.length : Int) = a1.length + q := by rw [← hA2]; exact sl_len g0 g1
        have m2 : (b2.length : Int) = b1.length + q := by rw [← hB2]; exact sl_len g0 g2
        have z1 : a2.length ≤ 4 := by omega
        have z2 : b2.length = a2.length + 1 := by omega
        have hlev : levF a b = if a2.length = 0 ∨ b2.length = 0 then 2 * ((a2.length : Int) + b2.length) else dpO a2 b2 b2.length 0 (rangeInts 2 2 a2.length) 0 := by
          simp only [levF, h3, hA, hB, g3, hA2, hB2]
        k_steps
        · unfold Stop
          rename Fr _ _ _ _ => F1
          rename News _ _ _ _ => N1
          rename IsRange _ _ _ _ _ _ _ _ => R1
          refine list_range2 rfl F1 N1 R1 (small_two (by omega)) (size_two _) (by omega) ?_
          have hlev2 : levF a b = dpO a2 b2 b2.length 0 (rangeInts 2 2 a2.length) 0 := by rw [hlev, if_neg (by omega)]
          intro D vs kk h2 tk2 F2 N2 I2 l2
          have l2' : ∀ p ∈ news, p.1 ≠ D := fun p hp => Nat.ne_of_lt (l2 p hp)
          clear F1 N1 R1
          k_steps
          unfold Stop
          rename Fr _ _ _ _ => F1
          rename News _ _ _ _ => N1
          rename IsRange _ _ _ _ _ _ _ _ => R1
          refine' kst_range (σ := List Int × List Value × Int × Tok) (fun c => (D, listOf c.2.1.toArray kk) :: news) (fun c => [(Str.ofString "result", .int c.2.2.1 c.2.2.2)]) (fun c => IntsAre c.2.1 c.1 ∧ c.1.length = a2.length)
            [Str.ofString "bchar", Str.ofString "distance", Str.ofString "minimum", Str.ofString "index", Str.ofString "substitute", Str.ofString "insert_delete"]
            (fun pre c => dpO a2 b2 b2.length 0 (rangeInts 2 2 a2.length) 0 = dpO a2 b2 (b2.length - pre.length) pre.length c.1 c.2.2.1) (rangeInts 2 2 a2.length, vs, 0, _) rfl R1 (small_one (by decide) (by decide) (by omega) (by omega)) (n := b2.length) (by rw [rangeSize_nat]; simp) F1 N1 ?hf ?hk ?hp ?turn ?done
          case hk => kst_all
          case hf => exact ⟨I2, rangeInts_length ..⟩
          case hp => rfl
          case turn =>
            clear F1 N1 R1 I2
            try clear F2
            try clear N2
            rintro ⟨ns, vs, res, tr⟩ pre k t u h tk own hk hlt hoff ⟨hI, hL⟩ hP F2 N2
            dsimp only at hI hL hP F2 N2
            have hk2 : 0 ≤ k ∧ k < b2.length := by omega
            try k_fold
            k_steps
            unfold Stop
            rename Fr _ _ _ _ => F1
            rename News _ _ _ _ => N1
            rename IsRange _ _ _ _ _ _ _ _ => R1
            have l3 : ∀ p ∈ news ++ own, p.1 ≠ D := by
              intro p hp
              rcases List.mem_append.mp hp with h9 | h9
              · exact l2' p h9
              · exact OwnOff.ne hoff (List.mem_cons_self ..) p h9
            generalize hch : Txt.item b2 k = ch at *
            have hch1 : ch.length ≤ 1 := by omega
            refine' kst_range (σ := (Int × Int × Int × List Int) × List Value × Tok × Tok × Tok) (fun c => (D, listOf c.2.1.toArray kk) :: (news ++ own)) (fun c => [(Str.ofString "distance", .int c.1.1 c.2.2.1), (Str.ofString "result", .int c.1.2.1 c.2.2.2.1), (Str.ofString "minimum", .int c.1.2.2.1 c.2.2.2.2)]) (fun c => IntsAre c.2.1 c.1.2.2.2 ∧ c.1.2.2.2.length = a2.length)
              [Str.ofString "substitute", Str.ofString "insert_delete"]
              (fun pre c => c.1 = pre.foldl (dpStep a2 ch) (k * 2, k * 2, 9223372036854775807, ns)) ((k * 2, k * 2, 9223372036854775807, ns), vs, _, _, _) rfl R1 (small_one (by decide) (by decide) (by omega) (by omega)) (n := a2.length) (by rw [rangeSize_nat]; simp) F1 N1 ?hf ?hk ?hp ?turn2 ?done2
            case hk => kst_all
            case hf => exact ⟨hI, hL⟩
            case hp => rfl
            case turn2 =>
              clear F1 N1 R1 hI hL
              try clear F2
              try clear N2
              rintro ⟨⟨dd, rr, mn, ns1⟩, vs1, t1, t2, t3⟩ pre1 k1 t u1 h tk own1 hk1 hlt1 hoff1 ⟨hI, hL⟩ hP1 F2 N2
              dsimp only at hI hL hP1 F2 N2
              have hk3 : 0 ≤ k1 ∧ k1 < a2.length := by omega
              have l4 : ∀ p ∈ news ++ own ++ own1, p.1 ≠ D := by
                intro p hp
                rcases List.mem_append.mp hp with h9 | h9
                · exact l3 p h9
                · exact OwnOff.ne hoff1 (List.mem_cons_self ..) p h9
              try k_fold
              k_steps
              · rename Fr _ _ _ _ => F9
                rename News _ _ _ _ => N9
                have hlt9 : mn2 (mn2 rr (ns1.getD k1.toNat 0) + 2) (dd + subF ch (Txt.item a2 k1)) < mn := by assumption
                refine' kst_end ((ns1.getD k1.toNat 0, mn2 (mn2 rr (ns1.getD k1.toNat 0) + 2) (dd + subF ch (Txt.item a2 k1)), mn2 (mn2 rr (ns1.getD k1.toNat 0) + 2) (dd + subF ch (Txt.item a2 k1)), ns1.set k1.toNat (mn2 (mn2 rr (ns1.getD k1.toNat 0) + 2) (dd + subF ch (Txt.item a2 k1)))), _, _, _, _) F9 N9 (fun p hp => List.mem_append.mpr (.inl hp)) (fun p hp => List.mem_cons_of_mem _ (List.mem_append.mpr (.inr hp))) rfl ?fc1 ?fd1 ?fe1 ?ff1
                case fd1 => kst_all
                case fc1 => exact ⟨by assumption, by show (ns1.set _ _).length = _; rw [List.length_set]; exact hL⟩
                case fe1 =>
                  intro z h1 h2 h3
                  have e1 := h2 _ (List.mem_cons_self ..)
                  have e2 := h2 _ (List.mem_cons_of_mem _ (List.mem_cons_self ..))
                  have e3 := h2 _ (List.mem_cons_of_mem _ (List.mem_cons_of_mem _ (List.mem_cons_self ..)))
                  dsimp only at e1 e2 e3
                  have h3' := h3
                  simp only [List.contains_cons, List.contains_nil, Bool.or_false, Bool.or_eq_false_iff, beq_eq_false_iff_ne, ne_eq] at h3'
                  simp only [kstB, h1, e1, e2, e3, h3, h3', if_false, Bool.false_eq_true]
                case ff1 =>
                  show _ = List.foldl _ _ (pre1 ++ [k1])
                  rw [List.foldl_append, ← hP1]
                  show _ = dpStep a2 ch (dd, rr, mn, ns1) k1
                  simp only [dpStep]
                  rw [if_pos hlt9]
              · rename Fr _ _ _ _ => F9
                rename News _ _ _ _ => N9
                have hlt9 : ¬ mn2 (mn2 rr (ns1.getD k1.toNat 0) + 2) (dd + subF ch (Txt.item a2 k1)) < mn := by assumption
                refine' kst_end ((ns1.getD k1.toNat 0, mn2 (mn2 rr (ns1.getD k1.toNat 0) + 2) (dd + subF ch (Txt.item a2 k1)), mn, ns1.set k1.toNat (mn2 (mn2 rr (ns1.getD k1.toNat 0) + 2) (dd + subF ch (Txt.item a2 k1)))), _, _, _, _) F9 N9 (fun p hp => List.mem_append.mpr (.inl hp)) (fun p hp => List.mem_cons_of_mem _ (List.mem_append.mpr (.inr hp))) rfl ?fc2 ?fd2 ?fe2 ?ff2
                case fd2 => kst_all
                case fc2 => exact ⟨by assumption, by show (ns1.set _ _).length = _; rw [List.length_set]; exact hL⟩
                case fe2 =>
                  intro z h1 h2 h3
                  have e1 := h2 _ (List.mem_cons_self ..)
                  have e2 := h2 _ (List.mem_cons_of_mem _ (List.mem_cons_self ..))
                  have e3 := h2 _ (List.mem_cons_of_mem _ (List.mem_cons_of_mem _ (List.mem_cons_self ..)))
                  dsimp only at e1 e2 e3
                  have h3' := h3
                  simp only [List.contains_cons, List.contains_nil, Bool.or_false, Bool.or_eq_false_iff, beq_eq_false_iff_ne, ne_eq] at h3'
                  simp only [kstB, h1, e1, e2, e3, h3, h3', if_false, Bool.false_eq_true]
                case ff2 =>
                  show _ = List.foldl _ _ (pre1 ++ [k1])
                  rw [List.foldl_append, ← hP1]
                  show _ = dpStep a2 ch (dd, rr, mn, ns1) k1
                  simp only [dpStep]
                  rw [if_neg hlt9]
            case done2 =>
              clear F1 N1 R1 hI hL
              try clear F2
              try clear N2
              rintro ⟨⟨dd, rr, mn, ns1⟩, vs1, t1, t2, t3⟩ u1 h tk ⟨hI, hL⟩ hP1 F2 N2
              dsimp only at hI hL hP1 F2 N2
              have hkk : k = (pre.length : Int) := by omega
              have hn1 : b2.length - pre.length = (b2.length - (pre ++ [k]).length) + 1 := by rw [List.length_append, List.length_singleton]; omega
              have he : (dd, rr, mn, ns1) = dpIn a2 (Txt.item b2 (pre.length : Int)) (pre.length : Int) ns := by
                rw [← hkk, hch]
                exact hP1
              k_steps
              · rename Fr _ _ _ _ => F9
                rename News _ _ _ _ => N9
                refine hret _ [] _ _ F9 (fun p hp => N9 p (List.mem_cons_of_mem _ (List.mem_append.mpr (.inl hp)))) (fun _ _ _ h => nomatch h) ⟨ktn_int ?_, rfl⟩
                rw [hlev2, hP, hn1, dpO_ret he (by assumption)]
                rfl
              · rename Fr _ _ _ _ => F9
                rename News _ _ _ _ => N9
                refine' kst_end (ns1, vs1, rr, _) F9 N9 (fun p hp => List.mem_append.mpr (.inl hp)) (fun p hp => List.mem_cons_of_mem _ (List.mem_append.mpr (.inr hp))) rfl ?fc3 ?fd3 ?fe3 ?ff3
                case fd3 => kst_all
                case fc3 => exact ⟨hI, hL⟩
                case fe3 =>
                  intro z h1 h2 h3
                  have e1 := h2 _ (List.mem_cons_self ..)
                  dsimp only at e1
                  have h3' := h3
                  simp only [List.contains_cons, List.contains_nil, Bool.or_false, Bool.or_eq_false_iff, beq_eq_false_iff_ne, ne_eq] at h3'
                  obtain ⟨i1, i2, i3, i4, i5, i6⟩ := h3'
                  by_cases hs : ([Str.ofString "substitute", Str.ofString "insert_delete"] : List Str).contains z = true
                  · simp only [List.contains_cons, List.contains_nil, Bool.or_false, Bool.or_eq_true, beq_iff_eq] at hs
                    rcases hs with hs | hs
                    · exact absurd hs i5
                    · exact absurd hs i6
                  · simp only [kstB, h1, e1, i1, i2, i3, i4, h3, hs, if_false, Bool.false_eq_true]
                case ff3 =>
                  show _ = dpO a2 b2 (b2.length - (pre ++ [k]).length) (pre ++ [k]).length ns1 rr
                  rw [hP, hn1, dpO_go he (by assumption), List.length_append, List.length_singleton]
          case done =>
            clear F1 N1 R1 I2
            try clear F2
            try clear N2
            rintro ⟨ns, vs, res, tr⟩ u h tk ⟨hI, hL⟩ hP F2 N2
            dsimp only at hI hL hP F2 N2
            k_steps
            rename Fr _ _ _ _ => F9
            rename News _ _ _ _ => N9
            refine hret _ [] _ _ F9 (fun p hp => N9 p (List.mem_cons_of_mem _ hp)) (fun _ _ _ h => nomatch h) ⟨ktn_int ?_, rfl⟩
            rw [hlev2, hP, rangeKs_length, Nat.sub_self]
            rfl
        · rename Fr _ _ _ _ => F9
          rename News _ _ _ _ => N9
          refine hret _ [] _ _ F9 N9 (fun _ _ _ h => nomatch h) ⟨ktn_int ?_, rfl⟩
          rw [hlev, if_pos (by omega)]
end Mine
end
section
open PySem PySem.W PyProof.Rows PySem.Calls PySem.Spec
set_option Elab.async false
set_option maxRecDepth 100000
namespace Mine
open LCg
section
variable {prog : Program} {w : World} {A : Around} {E : Value → Shared → Prop} {s : Shared} {h₀ : Heap} {R : Result → Shared → Prop}
noncomputable def LoopP (prog : Program) (w : World) (A : Around) (R : Result → Shared → Prop) (target : PySem.Expr) (ifs : List PySem.Expr) (elt : PySem.Expr) (it acc : Value) (env : Env) (code : Code) : Prop :=
  ∀ (Inv : Nat → Shared → Prop), (∀ n s, Inv n s → wpAny (model prog w) A (pyNext it) (fun r s₁ => match r with
      | none => R (.ok .next) s₁
      | some v => wpAny (model prog w) A (assign target env v) (fun _ s₂ =>
          wpAny (model prog w) A (forIn ifs true fun c r => if r = true then do let ok ← isTrue c env (eval c env); pure (ForInStep.yield ok) else pure (ForInStep.yield r)) (fun ok s₃ =>
            if ok = true then wpAny (model prog w) A (eval elt env) (fun x s₄ =>
              wpAny (model prog w) A (call (.builtin "list.append") [acc, x]) (fun _ s₅ => ∃ m, m < n ∧ Inv m s₅) (notedBy (model prog w) A env fun e s' => R (.error e) s') s₄) (notedBy (model prog w) A env fun e s' => R (.error e) s') s₃
            else ∃ m, m < n ∧ Inv m s₃) (notedBy (model prog w) A env fun e s' => R (.error e) s') s₂) (notedBy (model prog w) A env fun e s' => R (.error e) s') s₁) (notedBy (model prog w) A env fun e s' => R (.error e) s') s) →
    ∀ s n, Inv n s → codeAny (model prog w) A code R s
noncomputable def ownAdr : Nat → List (Str × NameKind) → List Addr
  | _, [] => []
  | n, (_, k) :: r => if k == .cell then n :: ownAdr (n + 1) r else ownAdr n r
noncomputable abbrev cell0 : Obj := { cls := .type "cell", data := .cell none }
theorem ownAdr_at : ∀ (names : List (Str × NameKind)) (h : Heap) (b : Addr), b ∈ ownAdr h.objs.size names → (pushCells h names).get? b = some cell0 ∧ h.objs.size ≤ b
  | [], _, _, hb => nomatch hb
  | (nm, k) :: r, h, b, hb => by
    unfold ownAdr at hb
    unfold pushCells
    by_cases hk : (k == NameKind.cell) = true
    · rw [if_pos hk] at hb ⊢
      rcases List.mem_cons.mp hb with rfl | hb
      · exact ⟨pushCells_keeps _ _ _ _ (Heap.get?_push_size _ rfl), Nat.le_refl _⟩
      · have z := ownAdr_at r (h.push cell0) b (by rw [Heap.size_push]; exact hb)
        rw [Heap.size_push] at z
        exact ⟨z.1, Nat.le_of_succ_le z.2⟩
    · rw [if_neg hk] at hb ⊢
      exact ownAdr_at r h b hb
noncomputable abbrev cEnv (scope : Scope) (cl : List (Str × Addr)) (C : Addr) (env : Env) : Env :=
  { scope := relabel scope env, locals := C, globals := env.globals, cells := cellsFrom (C + 1) scope.names cl, qual := env.qual, func := none, code := env.code, frame := env.frame, builtins := env.builtins }
theorem newEnv_comp {M : Model} {scope : Scope} {globals : Addr} {cl : List (Str × Addr)} {qual : Str} {outer : Env} {Q : Env → Shared → Prop}
    (h : Q (newEnv scope s.heap.objs.size globals (cellsFrom (s.heap.objs.size + 1) scope.names cl) qual none .none (some outer) builtinsNs) { s with heap := pushCells (s.heap.push { cls := .type "dict", data := .dict #[] }) scope.names }) :
    wpAny M A (newFunctionEnv scope globals cl [] qual none .none (some outer)) Q E s := by
  simp only [newFunctionEnv, Option.isSome_some, if_true]
  refine wpAny_bind (wpAny_alloc ?_)
  refine wpAny_bind (wpAny_layCells _ (fun name kind cells => by cases hkc : kind == NameKind.cell <;> simp [hkc]) _ _ _ _ ?_)
  rw [show ({ s with heap := s.heap.push { cls := .type "dict", data := .dict #[] } } : Shared).heap.objs.size = s.heap.objs.size + 1 from Heap.size_push ..]
  refine wpAny_bind ?_
  rw [List.forIn_nil]
  exact wpAny_pure (wpAny_pure h)
section
variable {K : Frag} {L : Addr} {m mg mb : Str → Option Value} {p : Program} {loose : List Str} {x : Str} {px : Pos} {v : Value} {news : List (Addr × Obj)} {c : Addr} {o : Obj} {env : Env}
theorem gName_K {Q : Value → Shared → Prop} (F : Fr h₀ L s.heap m) (X : K.In h₀) (T : TopRead p loose mg mb h₀) (e : nsIn K mainGlobals x = some (some v)) (h : Q v s) (hg : env.globals = mainGlobals) (hk : env.scope.kind = .function) (hx : env.kindOf x = some .globalImplicit) (hd : (x == ("__debug__" : Str)) = false) :
    wpAny (model prog w) A (eval (.Name x px) env) Q E s := nameG_K F X T e h hg hk hx hd
theorem gName_B {Q : Value → Shared → Prop} (F : Fr h₀ L s.heap m) (X : K.In h₀) (T : TopRead p loose mg mb h₀) (e : nsIn K mainGlobals x = some none) (hv : bootBuiltins x = some v) (hn : x ≠ "__name__") (h : Q v s) (hg : env.globals = mainGlobals) (hb : env.builtins = builtinsNs) (hk : env.scope.kind = .function) (hx : env.kindOf x = some .globalImplicit) (hd : (x == ("__debug__" : Str)) = false) :
    wpAny (model prog w) A (eval (.Name x px) env) Q E s :=
  Name_function_global hk hx (loadGlobal_builtin (env := env) (by rw [hg]; exact T.g.keeps F.keep) (mg_none_of X T.g e) (by first | (rw [hb]; exact T.b.keeps F.keep) | exact T.b.keeps F.keep) ((T.builtins x hn).trans hv) h) hd
end
end
end Mine
end
section
open PySem PySem.W PyProof.Rows PySem.Calls PySem.Spec
set_option Elab.async false
set_option maxRecDepth 100000
namespace Mine
open LCg
section
variable {prog : Program} {w : World} {A : Around} {E : Value → Shared → Prop} {s : Shared} {h₀ : Heap} {R : Result → Shared → Prop}
theorem compTurn_in (elt t0 i0 target iter : PySem.Expr) (ifs : List PySem.Expr) (scope : Scope) (pos : Pos) (it acc : Value) (env : Env) :
    compTurn (.ListComp elt [⟨t0, i0, [], 0⟩, ⟨target, iter, ifs, 0⟩] scope pos) 1 it acc env = (do
      standAt iter.pos
      match ← pyNext it with
      | none => pure (.done .next)
      | some v =>
        letOwnedTupleGo target it v
        assign target env v
        let mut ok := true
        for c in ifs do
          if ok then ok ← isTrue c env (eval c env)
        if ok then
          (do let _ ← call (.builtin "list.append") [acc, ← eval elt env])
        again (.compLoop (.ListComp elt [⟨t0, i0, [], 0⟩, ⟨target, iter, ifs, 0⟩] scope pos) 1 it acc env)) := by rfl
theorem compTurn_out (elt t0 i0 target iter : PySem.Expr) (ifs : List PySem.Expr) (scope : Scope) (pos : Pos) (it acc : Value) (env : Env) :
    compTurn (.ListComp elt [⟨t0, i0, [], 0⟩, ⟨target, iter, ifs, 0⟩] scope pos) 0 it acc env = (do
      standAt i0.pos
      match ← pyNext it with
      | none => pure (.done .next)
      | some v =>
        letOwnedTupleGo t0 it v
        assign t0 env v
        let mut ok := true
        for c in ([] : List PySem.Expr) do
          if ok then ok ← isTrue c env (eval c env)
        if ok then
          let x ← eval iter env
          standAt iter.pos
          let x ← foldedSetIterable iter env x
          let _ ← runOwn (.compStart (.ListComp elt [⟨t0, i0, [], 0⟩, ⟨target, iter, ifs, 0⟩] scope pos) 1 (← holding [x] (pyIter x)) acc env) env
        again (.compLoop (.ListComp elt [⟨t0, i0, [], 0⟩, ⟨target, iter, ifs, 0⟩] scope pos) 0 it acc env)) := by rfl
theorem loop_in {elt t0 i0 target iter : PySem.Expr} {ifs : List PySem.Expr} {scope : Scope} {pos : Pos} {it acc : Value} {env : Env} (I : Nat → Shared → Prop)
    (turn : ∀ n s, I n s → wpAny (model prog w) A (pyNext it) (fun r s₁ => match r with
      | none => R (.ok .next) s₁
      | some v => wpAny (model prog w) A (assign target env v) (fun _ s₂ =>
          wpAny (model prog w) A (forIn ifs true fun c r => if r = true then do let ok ← isTrue c env (eval c env); pure (ForInStep.yield ok) else pure (ForInStep.yield r)) (fun ok s₃ =>
            if ok = true then wpAny (model prog w) A (eval elt env) (fun x s₄ =>
              wpAny (model prog w) A (call (.builtin "list.append") [acc, x]) (fun _ s₅ => ∃ m, m < n ∧ I m s₅) (notedBy (model prog w) A env fun e s' => R (.error e) s') s₄) (notedBy (model prog w) A env fun e s' => R (.error e) s') s₃
            else ∃ m, m < n ∧ I m s₃) (notedBy (model prog w) A env fun e s' => R (.error e) s') s₂) (notedBy (model prog w) A env fun e s' => R (.error e) s') s₁) (notedBy (model prog w) A env fun e s' => R (.error e) s') s)
    (n : Nat) (h : I n s) (ht : ∀ v, letOwnedTupleGo target it v = pure () := by intro _; rfl) :
    codeAny (model prog w) A (.compLoop (.ListComp elt [⟨t0, i0, [], 0⟩, ⟨target, iter, ifs, 0⟩] scope pos) 1 it acc env) R s := by
  refine codeAny_loop rfl I (fun n s hI => ?_) n h
  show wpAny _ A ((compTurn (.ListComp elt [⟨t0, i0, [], 0⟩, ⟨target, iter, ifs, 0⟩] scope pos) 1 it acc env).onRaise (fun x => do noteFrame x env; theTreesLotGoes x)) _ _ s
  refine wpAny_noted ?_
  rw [compTurn_in]
  refine wpAny_bind (wpAny_standAt (wpAny_bind (wpAny_mono (turn n s hI) (fun r s₁ h₁ => ?_) fun _ _ h' => h')))
  cases r with
  | none => exact wpAny_pure h₁
  | some v =>
    refine wpAny_bind (wpAny_of_eq (ht v) ?_)
    refine wpAny_bind (wpAny_mono h₁ (fun _ s₂ h₂ => wpAny_bind (wpAny_mono h₂ (fun ok s₃ h₃ => ?_) fun _ _ h' => h')) fun _ _ h' => h')
    cases ok with
    | false => exact wpAny_pure ⟨rfl, h₃⟩
    | true =>
      exact wpAny_bind (wpAny_bind (wpAny_mono h₃ (fun x s₄ h₄ => wpAny_bind (wpAny_mono h₄ (fun _ s₅ h₅ => wpAny_pure (wpAny_pure ⟨rfl, h₅⟩)) fun _ _ h' => h')) fun _ _ h' => h'))
theorem start_in {elt t0 i0 target iter : PySem.Expr} {ifs : List PySem.Expr} {scope : Scope} {pos : Pos} {it acc : Value} {env : Env}
    (h0 : codeAny (model prog w) A (.compLoop (.ListComp elt [⟨t0, i0, [], 0⟩, ⟨target, iter, ifs, 0⟩] scope pos) 1 it acc env) R s)
    (h : wpAny (model prog w) A (pyIter it) (fun it' s' => codeAny (model prog w) A (.compLoop (.ListComp elt [⟨t0, i0, [], 0⟩, ⟨target, iter, ifs, 0⟩] scope pos) 1 it' acc env) R s') (notedBy (model prog w) A env fun x s' => R (.error x) s') s) :
    codeAny (model prog w) A (.compStart (.ListComp elt [⟨t0, i0, [], 0⟩, ⟨target, iter, ifs, 0⟩] scope pos) 1 it acc env) R s := by
  refine codeAny_of_tree ?_
  show wpAny _ _ ((compStart (.ListComp elt [⟨t0, i0, [], 0⟩, ⟨target, iter, ifs, 0⟩] scope pos) 1 it acc env).onRaise (fun x => do noteFrame x env; standAt theWindowsPlace)) _ _ s
  refine wpAny_notedAt ?_
  unfold compStart
  show wpAny _ _ (ask >>= _) _ _ s
  refine wpAny_bind (wpAny_askSetting (wpAny_ite ?_))
  split
  · first
      | exact wpAny_bind (wpAny_pure (wpAny_pure (And.intro rfl h0)))
      | exact wpAny_pure (And.intro rfl h0)
  · first
      | exact wpAny_bind (wpAny_rule (wpAny_bind (wpAny_standAt (wpAny_bind (wpAny_mono h (fun it' s' h' => wpAny_pure (And.intro rfl h')) fun _ _ x => x)))))
      | (refine wpAny_bind (wpAny_rule ?_); show wpAny _ _ (standAt iter.pos >>= _) _ _ s; exact wpAny_bind (wpAny_standAt (wpAny_bind (wpAny_mono h (fun it' s' h' => wpAny_pure (And.intro rfl h')) fun _ _ x => x))))
theorem loop_out {elt t0 i0 target iter : PySem.Expr} {ifs : List PySem.Expr} {scope : Scope} {pos : Pos} {it acc : Value} {env : Env} (I : Nat → Shared → Prop)
    (turn : ∀ n s, I n s → wpAny (model prog w) A (pyNext it) (fun r s₁ => match r with
      | none => R (.ok .next) s₁
      | some v => wpAny (model prog w) A (assign t0 env v) (fun _ s₂ => wpAny (model prog w) A (eval iter env) (fun xv s₃ => wpAny (model prog w) A (pyIter xv) (fun it2 s₄ =>
          codeAny (model prog w) A (.compStart (.ListComp elt [⟨t0, i0, [], 0⟩, ⟨target, iter, ifs, 0⟩] scope pos) 1 it2 acc env) (fun r s₅ => match r with | .ok _ => ∃ m, m < n ∧ I m s₅ | .error _ => False) s₄)
          (notedBy (model prog w) A env fun e s' => R (.error e) s') s₃) (notedBy (model prog w) A env fun e s' => R (.error e) s') s₂) (notedBy (model prog w) A env fun e s' => R (.error e) s') s₁) (notedBy (model prog w) A env fun e s' => R (.error e) s') s)
    (n : Nat) (h : I n s) (ht : ∀ v, letOwnedTupleGo t0 it v = pure ()) (hs : ∀ x, foldedSetIterable iter env x = pure x) :
    codeAny (model prog w) A (.compLoop (.ListComp elt [⟨t0, i0, [], 0⟩, ⟨target, iter, ifs, 0⟩] scope pos) 0 it acc env) R s := by
  refine codeAny_loop rfl I (fun n s hI => ?_) n h
  show wpAny _ A ((compTurn (.ListComp elt [⟨t0, i0, [], 0⟩, ⟨target, iter, ifs, 0⟩] scope pos) 0 it acc env).onRaise (fun x => do noteFrame x env; theTreesLotGoes x)) _ _ s
  refine wpAny_noted ?_
  rw [compTurn_out]
  refine wpAny_bind (wpAny_standAt (wpAny_bind (wpAny_mono (turn n s hI) (fun r s₁ h₁ => ?_) fun _ _ h' => h')))
  cases r with
  | none => exact wpAny_pure h₁
  | some v =>
    refine wpAny_bind (wpAny_of_eq (ht v) ?_)
    refine wpAny_bind (wpAny_mono h₁ (fun _ s₂ h₂ => wpAny_bind (wpAny_mono (wpAny_tests_nil (Q := fun ok s₃ => ok = true ∧ s₃ = s₂) ⟨rfl, rfl⟩) (fun ok s₃ h₃ => ?_) fun _ _ h' => h')) fun _ _ h' => h')
    obtain ⟨rfl, rfl⟩ := h₃
    refine wpAny_bind (wpAny_mono h₂ (fun xv s₄ h₄ => wpAny_bind (wpAny_standAt (wpAny_bind (wpAny_of_eq (hs xv) (wpAny_bind (wpAny_holding (wpAny_mono h₄ (fun it2 s₅ h₅ => ?_) fun _ _ x => x))))))) fun _ _ x => x)
    refine wpAny_bind (wpAny_runOwn (codeAny_mono h₅ fun r s' hr => ?_))
    cases r with
    | ok f => exact wpAny_pure ⟨rfl, hr⟩
    | error e => exact hr.elim
end
end Mine
end
section
open PySem PySem.W PyProof.Rows PySem.Calls PySem.Spec
set_option Elab.async false
set_option maxRecDepth 100000
namespace Mine
open LCg
section
variable {prog : Program} {w : World} {A : Around} {E : Value → Shared → Prop} {s : Shared} {h₀ : Heap} {env : Env} {x : Str} {body : List Stmt} {Q : Flow → Shared → Prop}
end
end Mine
end
section
open PySem PySem.W PyProof.Rows PySem.Calls PySem.Spec
set_option Elab.async false
set_option maxRecDepth 100000
set_option genInjectivity false
namespace Mine
open LCg
/-- what stands and will not turn -/
noncomputable abbrev Fz := Addr → Obj → Prop
structure Fz.le (G G' : Fz) : Prop where
  of : ∀ a o, G a o → G' a o
theorem Fz.rf (G : Fz) : Fz.le G G := ⟨fun _ _ h => h⟩
theorem Fz.le.tr {G G' G'' : Fz} (h : Fz.le G G') (h' : Fz.le G' G'') : Fz.le G G'' := ⟨fun a o x => h'.of a o (h.of a o x)⟩
noncomputable def Fz.add (G : Fz) (a : Addr) (o : Obj) : Fz := fun b o' => G b o' ∨ (b = a ∧ o' = o)
theorem Fz.le_add (G : Fz) (a : Addr) (o : Obj) : Fz.le G (G.add a o) := ⟨fun _ _ h => .inl h⟩
inductive AV where
  | none | bool (b : Bool) | int (i : Int) | str (x : Str)
  | list (xs : List AV) | tup (xs : List AV) | sdict (w : World) (es : List (Str × AV)) | idict (w : World) (es : List (Int × AV)) | rng (a b c : Int)
  | own (xs : List AV) | ownd (w : World) (es : List (Str × AV))
mutual
inductive VR (G : Fz) : Value → AV → Prop
  | none : VR G .none .none
  | bool (b : Bool) : VR G (.bool b) (.bool b)
  | int (i : Int) (t : Tok) : VR G (.int i t) (.int i)
  | str (x : Str) (t : Tok) : VR G (.str x t) (.str x)
  | list {a : Addr} {o : Obj} {vs : List Value} {n : Nat} {xs : List AV} : G a o → o.cls = .type "list" → (o.dict = .none ∧ o.slots = #[]) → o.data = .seq vs.toArray n → VRs G vs xs → VR G (.ref a) (.list xs)
  | tup {a : Addr} {o : Obj} {vs : List Value} {n : Nat} {xs : List AV} : G a o → o.cls = .type "tuple" → o.data = .seq vs.toArray n → VRs G vs xs → VR G (.ref a) (.tup xs)
  | sdict {w : World} {a : Addr} {o : Obj} {kvs : List (Str × Value)} {es : List (Str × AV)} : G a o → o.IsDictOf (strKind pg w) kvs → a ≠ sysModules → VRd G kvs es → VR G (.ref a) (.sdict w es)
  | idict {w : World} {a : Addr} {o : Obj} {kvs : List (Int × Value)} {es : List (Int × AV)} : G a o → o.IsDictOf (intKind pg w) kvs → a ≠ sysModules → VRi G kvs es → VR G (.ref a) (.idict w es)
  | rng {a : Addr} {o : Obj} {x y z : Int} : G a o → (∀ h : Heap, h.get? a = some o → ∃ t u v, IsRange h a x y z t u v) → VR G (.ref a) (.rng x y z)
inductive VRs (G : Fz) : List Value → List AV → Prop
  | nil : VRs G [] []
  | cons {v : Value} {x : AV} {vs : List Value} {xs : List AV} : VR G v x → VRs G vs xs → VRs G (v :: vs) (x :: xs)
inductive VRd (G : Fz) : List (Str × Value) → List (Str × AV) → Prop
  | nil : VRd G [] []
  | cons {k : Str} {v : Value} {x : AV} {vs : List (Str × Value)} {xs : List (Str × AV)} : VR G v x → VRd G vs xs → VRd G ((k, v) :: vs) ((k, x) :: xs)
inductive VRi (G : Fz) : List (Int × Value) → List (Int × AV) → Prop
  | nil : VRi G [] []
  | cons {k : Int} {v : Value} {x : AV} {vs : List (Int × Value)} {xs : List (Int × AV)} : VR G v x → VRi G vs xs → VRi G ((k, v) :: vs) ((k, x) :: xs)
end
mutual
theorem VR.mono {G G' : Fz} (h : Fz.le G G') : ∀ {v : Value} {x : AV}, VR G v x → VR G' v x
  | _, _, .none => .none
  | _, _, .bool b => .bool b
  | _, _, .int i t => .int i t
  | _, _, .str x t => .str x t
  | _, _, .list g c d e r => .list (h.of _ _ g) c d e (r.mono h)
  | _, _, .tup g c e r => .tup (h.of _ _ g) c e (r.mono h)
  | _, _, .sdict g e n r => .sdict (h.of _ _ g) e n (r.mono h)
  | _, _, .idict g e n r => .idict (h.of _ _ g) e n (r.mono h)
  | _, _, .rng g e => .rng (h.of _ _ g) e
theorem VRs.mono {G G' : Fz} (h : Fz.le G G') : ∀ {v : List Value} {x : List AV}, VRs G v x → VRs G' v x
  | _, _, .nil => .nil
  | _, _, .cons a b => .cons (a.mono h) (b.mono h)
theorem VRd.mono {G G' : Fz} (h : Fz.le G G') : ∀ {v : List (Str × Value)} {x : List (Str × AV)}, VRd G v x → VRd G' v x
  | _, _, .nil => .nil
  | _, _, .cons a b => .cons (a.mono h) (b.mono h)
theorem VRi.mono {G G' : Fz} (h : Fz.le G G') : ∀ {v : List (Int × Value)} {x : List (Int × AV)}, VRi G v x → VRi G' v x
  | _, _, .nil => .nil
  | _, _, .cons a b => .cons (a.mono h) (b.mono h)
end
theorem VRs.length {G : Fz} : ∀ {vs : List Value} {xs : List AV}, VRs G vs xs → vs.length = xs.length
  | _, _, .nil => rfl
  | _, _, .cons _ r => by simp [r.length]
theorem VRs.get {G : Fz} : ∀ {vs : List Value} {xs : List AV}, VRs G vs xs → ∀ {i : Nat} {v : Value}, vs[i]? = some v → ∃ x, xs[i]? = some x ∧ VR G v x
  | _, _, .nil, _, _, e => by simp at e
  | _, _, .cons a _, 0, _, e => by simp only [List.getElem?_cons_zero, Option.some.injEq] at e; subst e; exact ⟨_, rfl, a⟩
  | _, _, .cons _ r, i + 1, _, e => by simp only [List.getElem?_cons_succ] at e ⊢; exact r.get e
theorem VRs.get' {G : Fz} : ∀ {vs : List Value} {xs : List AV}, VRs G vs xs → ∀ {i : Nat} {x : AV}, xs[i]? = some x → ∃ v, vs[i]? = some v ∧ VR G v x
  | _, _, .nil, _, _, e => by simp at e
  | _, _, .cons a _, 0, _, e => by simp only [List.getElem?_cons_zero, Option.some.injEq] at e; subst e; exact ⟨_, rfl, a⟩
  | _, _, .cons _ r, i + 1, _, e => by simp only [List.getElem?_cons_succ] at e ⊢; exact r.get' e
theorem VRs.append {G : Fz} : ∀ {vs : List Value} {xs : List AV}, VRs G vs xs → ∀ {ws : List Value} {ys : List AV}, VRs G ws ys → VRs G (vs ++ ws) (xs ++ ys)
  | _, _, .nil, _, _, h => h
  | _, _, .cons a r, _, _, h => .cons a (r.append h)
inductive Sp where
  | ns (m : Str → Option Value) | cell (v : Option Value) | obj (o : Obj) | any | fix (o : Obj)
noncomputable def Sp.ok : Sp → Obj → Prop
  | .any, _ => True
  | .fix o', o => o = o'
  | .ns m, o => NsObj o m
  | .cell v, o => o.data = .cell v
  | .obj o', o => o = o'
noncomputable abbrev Ow := List (Addr × Sp)
structure St (G : Fz) (T : Ow) (h : Heap) : Prop where
  keep : ∀ a o, G a o → h.get? a = some o
  own : ∀ p ∈ T, ∃ o, h.get? p.1 = some o ∧ p.2.ok o
  off : ∀ p ∈ T, ∀ o, ¬ G p.1 o
  nd : (T.map (·.1)).Nodup
section
variable {G G' : Fz} {T T' : Ow} {h h' : Heap} {a : Addr} {o : Obj} {sp : Sp}
theorem St.lt (S : St G T h) {p : Addr × Sp} (hp : p ∈ T) : p.1 < h.objs.size := let ⟨_, e, _⟩ := S.own p hp; Heap.lt_size e
theorem St.ext (S : St G T h) (hk : ∀ b o, h.get? b = some o → h'.get? b = some o) : St G T h' :=
  ⟨fun a o g => hk _ _ (S.keep a o g), fun p hp => let ⟨o, e, q⟩ := S.own p hp; ⟨o, hk _ _ e, q⟩, S.off, S.nd⟩
/-- a new thing that will not turn -/
theorem St.add (S : St G T h) (hk : ∀ b o, h.get? b = some o → h'.get? b = some o) (ha : h'.get? a = some o) (hn : h.get? a = none) : St (G.add a o) T h' := by
  refine ⟨fun b o' g => ?_, (S.ext hk).own, fun p hp o' g => ?_, S.nd⟩
  · rcases g with g | ⟨rfl, rfl⟩
    · exact hk _ _ (S.keep _ _ g)
    · exact ha
  · rcases g with g | ⟨e, rfl⟩
    · exact S.off p hp _ g
    · obtain ⟨o₁, e₁, _⟩ := S.own p hp
      rw [e, hn] at e₁; cases e₁
theorem none_size (h : Heap) : h.get? h.objs.size = none := by
  cases e : h.get? h.objs.size with
  | none => rfl
  | some _ => exact absurd (Heap.lt_size e) (Nat.lt_irrefl _)
theorem St.addPush (S : St G T h) (o : Obj) (hf : o.isFreed = false := by rfl) : St (G.add h.objs.size o) T (h.push o) :=
  S.add (fun _ _ e => Heap.get?_push_of_some _ e) (Heap.get?_push_size _ hf) (none_size h)
/-- a new thing of one's own -/
theorem St.cons (S : St G T h) (hk : ∀ b o, h.get? b = some o → h'.get? b = some o) (ha : h'.get? a = some o) (hn : h.get? a = none) (hs : sp.ok o) : St G ((a, sp) :: T) h' := by
  refine ⟨(S.ext hk).keep, fun p hp => ?_, fun p hp o' g => ?_, ?_⟩
  · rcases List.mem_cons.mp hp with rfl | hp
    · exact ⟨o, ha, hs⟩
    · exact (S.ext hk).own p hp
  · rcases List.mem_cons.mp hp with rfl | hp
    · have := S.keep _ _ g; dsimp only at this; rw [hn] at this; cases this
    · exact S.off p hp _ g
  · rw [List.map_cons, List.nodup_cons]
    refine ⟨fun hm => ?_, S.nd⟩
    obtain ⟨p, hp, e⟩ := List.mem_map.mp hm
    obtain ⟨o₁, e₁, _⟩ := S.own p hp
    rw [e, hn] at e₁; cases e₁
theorem St.consPush (S : St G T h) (o : Obj) (hs : sp.ok o) (hf : o.isFreed = false := by rfl) : St G ((h.objs.size, sp) :: T) (h.push o) :=
  S.cons (fun _ _ e => Heap.get?_push_of_some _ e) (Heap.get?_push_size _ hf) (none_size h) hs
theorem St.sub (S : St G T h) (hs : T'.Sublist T) : St G T' h :=
  ⟨S.keep, fun p hp => S.own p (hs.subset hp), fun p hp => S.off p (hs.subset hp), S.nd.sublist (hs.map _)⟩
theorem St.perm (S : St G T h) (hs : List.Perm T T') : St G T' h :=
  ⟨S.keep, fun p hp => S.own p (hs.mem_iff.mpr hp), fun p hp => S.off p (hs.mem_iff.mpr hp), (hs.map _).nodup_iff.mp S.nd⟩
theorem St.tail {p : Addr × Sp} (S : St G (p :: T) h) : St G T h := S.sub (List.sublist_cons_self ..)
/-- one's own thing that will not turn from now on -/
theorem St.freeze (S : St G ((a, .obj o) :: T) h) : St (G.add a o) T h := by
  have n := S.nd
  rw [List.map_cons, List.nodup_cons] at n
  refine ⟨fun b o' g => ?_, S.tail.own, fun p hp o' g => ?_, n.2⟩
  · rcases g with g | ⟨rfl, rfl⟩
    · exact S.keep _ _ g
    · obtain ⟨o₁, e₁, q⟩ := S.own _ (List.mem_cons_self ..)
      cases q; exact e₁
  · rcases g with g | ⟨e, rfl⟩
    · exact S.tail.off p hp _ g
    · exact n.1 (List.mem_map.mpr ⟨p, hp, e⟩)
noncomputable def setT (a : Addr) (sp : Sp) (T : Ow) : Ow := T.map fun p => if p.1 = a then (a, sp) else p
theorem setT_fst (a : Addr) (sp : Sp) : ∀ T : Ow, (setT a sp T).map (·.1) = T.map (·.1)
  | [] => rfl
  | p :: r => by
    show (if p.1 = a then (a, sp) else p).1 :: (setT a sp r).map (·.1) = p.1 :: r.map (·.1)
    rw [setT_fst a sp r]
    by_cases e : p.1 = a <;> simp [e]
theorem mem_setT {p : Addr × Sp} : p ∈ setT a sp T → (p = (a, sp) ∧ ∃ q ∈ T, q.1 = a) ∨ (p ∈ T ∧ p.1 ≠ a) := by
  intro hp
  obtain ⟨q, hq, e⟩ := List.mem_map.mp hp
  by_cases c : q.1 = a
  · rw [if_pos c] at e; exact .inl ⟨e.symm, q, hq, c⟩
  · rw [if_neg c] at e; subst e; exact .inr ⟨hq, c⟩
theorem setT_mem {p : Addr × Sp} (hp : p ∈ T) (hne : p.1 ≠ a) : p ∈ setT a sp T := List.mem_map.mpr ⟨p, hp, if_neg hne⟩
theorem setT_self {sp₀ : Sp} (hp : (a, sp₀) ∈ T) : (a, sp) ∈ setT a sp T := List.mem_map.mpr ⟨_, hp, if_pos rfl⟩
theorem St.upd (S : St G T h) {sp₀ : Sp} (hm : (a, sp₀) ∈ T) (hk : ∀ b o, b ≠ a → h.get? b = some o → h'.get? b = some o) (ha : h'.get? a = some o) (hs : sp.ok o) : St G (setT a sp T) h' := by
  refine ⟨fun b o' g => hk _ _ (fun e => S.off _ hm o' (e ▸ g)) (S.keep _ _ g), fun p hp => ?_, fun p hp o' g => ?_, by rw [setT_fst]; exact S.nd⟩
  · rcases mem_setT hp with ⟨rfl, _⟩ | ⟨hp, hne⟩
    · exact ⟨o, ha, hs⟩
    · obtain ⟨o₁, e₁, q⟩ := S.own p hp
      exact ⟨o₁, hk _ _ hne e₁, q⟩
  · rcases mem_setT hp with ⟨rfl, _⟩ | ⟨hp, hne⟩
    · exact S.off _ hm _ g
    · exact S.off p hp _ g
theorem St.one {sp sp' : Sp} (S : St G T h) (h1 : (a, sp) ∈ T) (h2 : (a, sp') ∈ T) : sp = sp' := by
  have n := S.nd
  clear S
  induction T with
  | nil => cases h1
  | cons p r ih =>
    rw [List.map_cons, List.nodup_cons] at n
    rcases List.mem_cons.mp h1 with e1 | h1 <;> rcases List.mem_cons.mp h2 with e2 | h2
    · rw [← e2] at e1; cases e1; rfl
    · exact absurd (List.mem_map.mpr ⟨_, h2, by rw [← e1]⟩) n.1
    · exact absurd (List.mem_map.mpr ⟨_, h1, by rw [← e2]⟩) n.1
    · exact ih h1 h2 n.2
end
/-- the def at work -/
structure Cx where
  dp : Nat
  un : Nat
  gd : Option (List Code)
  cn : Str
  cs : Scope
  L : Addr
  a : Addr
  ccd : Value
  cl : List (Str × Addr)
  outer : List Env
  A₀ : Around
  base : Heap
  h₀ : Heap
  mean : ExcName → Option Value
  mg : Str → Option Value
  mb : Str → Option Value
  Aop : Around → Around := fun A => A
  hh : (Aop (ktrTop dp un gd cn cs L a ccd cl outer)).handled = none := by rfl
noncomputable abbrev Cx.A0 (x : Cx) : Around := ktrTop x.dp x.un x.gd x.cn x.cs x.L x.a x.ccd x.cl x.outer
noncomputable abbrev Cx.A (x : Cx) : Around := x.Aop x.A0
structure Cx.Ok (x : Cx) (w : World) : Prop where
  B : Below x.A₀ x.base x.outer x.h₀
  K : (kk.heap_1 w.params).In x.h₀
  Tp : Top vw lo x.mean x.mg x.mb x.h₀
  hk : x.cs.kind = .function
  above : x.h₀.objs.size ≤ x.L
  hA : x.Aop = fun A => A
/-- the state, seen from a def -/
structure OkB (x : Cx) (G : Fz) (T : Ow) (h : Heap) : Prop where
  st : St G T h
  base : ∀ b o, x.h₀.get? b = some o → G b o ∨ (b, .fix o) ∈ T
  fr : ∃ m, (x.L, .ns m) ∈ T
theorem OkB.keep {x : Cx} {G : Fz} {T : Ow} {h : Heap} (S : OkB x G T h) {b : Addr} {o : Obj} (e : x.h₀.get? b = some o) : h.get? b = some o := by
  rcases S.base b o e with g | m
  · exact S.st.keep _ _ g
  · obtain ⟨o', e', q⟩ := S.st.own _ m
    cases q; exact e'
noncomputable abbrev Rho := List (Str × AV)
noncomputable def Reads (env : Env) (T : Ow) (n : Str) (v : Value) : Prop :=
  (env.kindOf n = some .local ∧ ∃ m, (env.locals, .ns m) ∈ T ∧ m n = some v) ∨ ((env.kindOf n = some .cell ∨ env.kindOf n = some .free) ∧ ∃ c, env.cells.lookup n = some c ∧ (c, .cell (some v)) ∈ T)
/-- a name's value: one that will not turn, or a list of one's own -/
noncomputable def NR (env : Env) (G : Fz) (T : Ow) (n : Str) : AV → Prop
  | .own xs => ∃ a vs k, Reads env T n (.ref a) ∧ (a, .obj (listOf vs.toArray k)) ∈ T ∧ VRs G vs xs ∧ a ≠ env.locals ∧ ∀ c ∈ env.cells.map (·.2), a ≠ c
  | .ownd w es => ∃ a o kvs, Reads env T n (.ref a) ∧ (a, .obj o) ∈ T ∧ o.IsDictOf (strKind pg w) kvs ∧ a ≠ sysModules ∧ VRd G kvs es ∧ a ≠ env.locals ∧ ∀ c ∈ env.cells.map (·.2), a ≠ c
  | av => ∃ v, Reads env T n v ∧ VR G v av
structure EnvG (env : Env) : Prop where
  kind : env.scope.kind = .function
  gl : env.globals = mainGlobals
  bu : env.builtins = builtinsNs
/-- a name's cells are apart -/
noncomputable def Apt (env : Env) : Prop := (env.cells.map (·.2)).Nodup
structure Ok (x : Cx) (env : Env) (ρ : Rho) (G : Fz) (T : Ow) (h : Heap) : Prop extends OkB x G T h where
  eg : EnvG env
  ap : Apt env
  ce : ∀ p ∈ env.cells, ∃ v, (p.2, .cell v) ∈ T
  lo : ∃ m, (env.locals, .ns m) ∈ T
  rho : ∀ n av, ρ.lookup n = some av → NR env G T n av
theorem NR.mono {env : Env} {G G' : Fz} {T : Ow} {n : Str} {av : AV} (h : Fz.le G G') (N : NR env G T n av) : NR env G' T n av := by
  cases av with
  | own xs => obtain ⟨a, vs, k, r, m, q, d⟩ := N; exact ⟨a, vs, k, r, m, q.mono h, d⟩
  | ownd w es => obtain ⟨a, o, kvs, r, m, q, e, d, z⟩ := N; exact ⟨a, o, kvs, r, m, q, e, d.mono h, z⟩
  | _ => obtain ⟨v, r, q⟩ := N; exact ⟨v, r, q.mono h⟩
/-- what stays the same but for what is new -/
theorem OkB.to {x : Cx} {G G' : Fz} {T : Ow} {h h' : Heap} (S : OkB x G T h) (hG : Fz.le G G') (S' : St G' T h') : OkB x G' T h' :=
  ⟨S', fun b o e => (S.base b o e).imp (hG.of _ _) id, S.fr⟩
theorem Ok.to {x : Cx} {env : Env} {ρ : Rho} {G G' : Fz} {T : Ow} {h h' : Heap} (S : Ok x env ρ G T h) (hG : Fz.le G G') (S' : St G' T h') : Ok x env ρ G' T h' :=
  { S.toOkB.to hG S' with eg := S.eg, ap := S.ap, ce := S.ce, lo := S.lo, rho := fun n av e => (S.rho n av e).mono hG }
theorem Ok.ext {x : Cx} {env : Env} {ρ : Rho} {G : Fz} {T : Ow} {h h' : Heap} (S : Ok x env ρ G T h) (hk : ∀ b o, h.get? b = some o → h'.get? b = some o) : Ok x env ρ G T h' := S.to (Fz.rf _) (S.st.ext hk)
theorem Ok.toR {x : Cx} {env : Env} {ρ : Rho} {G G' : Fz} {T : Ow} {h h' : Heap} (S : Ok x env ρ G T h) (hG : Fz.le G G') (S' : OkB x G' T h') : Ok x env ρ G' T h' := S.to hG S'.st
/-- a smaller reading -/
noncomputable def SubR : Rho → Rho → Prop
  | [], _ => True
  | p :: r, ρ => ρ.lookup p.1 = some p.2 ∧ SubR r ρ
theorem SubR.mem : ∀ {ρ' ρ : Rho}, SubR ρ' ρ → ∀ p ∈ ρ', ρ.lookup p.1 = some p.2
  | [], _, _, _, hp => nomatch hp
  | _ :: _, _, h, p, hp => by
    rcases List.mem_cons.mp hp with rfl | hp
    · exact h.1
    · exact SubR.mem h.2 p hp
theorem Ok.sub {x : Cx} {env : Env} {ρ ρ' : Rho} {G : Fz} {T : Ow} {h : Heap} (S : Ok x env ρ G T h) (hs : SubR ρ' ρ) : Ok x env ρ' G T h :=
  { S with rho := fun n av e => S.rho n av (hs.mem _ (mem_of_lookup e)) }
/-- e's value is av -/
noncomputable def EV (w : World) (x : Cx) (env : Env) (ρ : Rho) (e : PySem.Expr) (av : AV) : Prop :=
  ∀ (G : Fz) (T : Ow) (s : Shared) (Q : Value → Shared → Prop) (E : Value → Shared → Prop), Ok x env ρ G T s.heap →
    (∀ v h' tk' G', Fz.le G G' → Ok x env ρ G' T h' → VR G' v av → Q v { s with heap := h', toks := tk' }) → wpAny (model pg w) x.A (eval e env) Q E s
/-- e as a test is b -/
noncomputable def EB (w : World) (x : Cx) (env : Env) (ρ : Rho) (e : PySem.Expr) (b : Bool) : Prop :=
  ∀ (G : Fz) (T : Ow) (s : Shared) (Q : Bool → Shared → Prop) (E : Value → Shared → Prop), Ok x env ρ G T s.heap →
    (∀ h' tk' G', Fz.le G G' → Ok x env ρ G' T h' → Q b { s with heap := h', toks := tk' }) → wpAny (model pg w) x.A (isTrue e env (eval e env)) Q E s
section
variable {w : World} {x : Cx} {env : Env} {ρ : Rho}
theorem EV_int {i : Int} {k : Nat} {p : Pos} : EV w x env ρ (.Constant (.int i) k p) (.int i) := fun G T s Q E S h => by
  exact wpAny_Constant_int (h (.int i s.toks) s.heap _ G (Fz.rf _) S (.int _ _))
theorem EV_str {i : Str} {k : Nat} {p : Pos} : EV w x env ρ (.Constant (.str i) k p) (.str i) := fun G T s Q E S h => by
  exact Constant_str (h (.str i s.toks) s.heap _ G (Fz.rf _) S (.str _ _))
theorem EV_bool {b : Bool} {k : Nat} {p : Pos} : EV w x env ρ (.Constant (.bool b) k p) (.bool b) := fun G T s Q E S h => by
  refine fun Γ p hΓ => ?_
  exact wpAny_pure (M := model pg w) (A := x.A) (E := E) (h (.bool b) s.heap s.toks G (Fz.rf _) S (.bool _)) Γ p hΓ
noncomputable def AV.plain : AV → Bool
  | .own _ => false
  | .ownd _ _ => false
  | _ => true
theorem NR.val {env : Env} {G : Fz} {T : Ow} {n : Str} {av : AV} (hp : av.plain = true) (N : NR env G T n av) : ∃ v, Reads env T n v ∧ VR G v av := by
  cases av <;> first | exact N | cases hp
theorem Reads.run {env : Env} {T : Ow} {n : Str} {v : Value} {G : Fz} {s : Shared} {A : Around} {Q E : Value → Shared → Prop} {p : Pos} (R : Reads env T n v) (g : EnvG env) (S : St G T s.heap) (hd : (n == ("__debug__" : Str)) = false) (hn : (n == ("__classdict__" : Str)) = false) (h : Q v s) :
    wpAny (model pg w) A (eval (.Name n p) env) Q E s := by
  rcases R with ⟨k, m, hm, e⟩ | ⟨k, c, hc, hm⟩
  · obtain ⟨o, ho, q⟩ := S.own _ hm
    exact wpAny_Name (wpAny_loadName_local g.kind k (NsObj.ns q ho) e h) hd
  · obtain ⟨o, ho, q⟩ := S.own _ hm
    rcases k with k | k
    · exact wpAny_Name (wpAny_loadName_cell g.kind k hc ⟨o, ho, q⟩ h) hd
    · exact wpAny_Name (wpAny_loadName_free g.kind k hc ⟨o, ho, q⟩ h hn) hd
theorem EV_name {n : Str} {p : Pos} {av : AV} (hr : ρ.lookup n = some av) (hp : av.plain = true := by rfl) (hd : (n == ("__debug__" : Str)) = false := by decide) (hn : (n == ("__classdict__" : Str)) = false := by decide) : EV w x env ρ (.Name n p) av := fun G T s Q E S h => by
  obtain ⟨v, r, q⟩ := NR.val hp (S.rho n av hr)
  exact r.run S.eg S.st hd hn (h v s.heap s.toks G (Fz.rf _) S q)
end
end Mine
end
section
open PySem PySem.W PyProof.Rows PySem.Calls PySem.Spec
set_option Elab.async false
set_option maxRecDepth 100000
namespace Mine
open LCg
/-- all that is new over h₀, but L -/
noncomputable def allNews (h₀ : Heap) (L : Addr) (h : Heap) : List (Addr × Obj) :=
  (List.range h.objs.size).filterMap fun a => if a = L then none else match h₀.get? a with
    | some _ => none
    | none => (h.get? a).map fun o => (a, o)
theorem mem_allNews {h₀ : Heap} {L : Addr} {h : Heap} {a : Addr} {o : Obj} : (a, o) ∈ allNews h₀ L h ↔ h.get? a = some o ∧ a ≠ L ∧ h₀.get? a = none := by
  unfold allNews
  rw [List.mem_filterMap]
  constructor
  · rintro ⟨b, _, e⟩
    by_cases hb : b = L
    · rw [if_pos hb] at e; cases e
    · rw [if_neg hb] at e
      cases q : h₀.get? b with
      | some _ => rw [q] at e; cases e
      | none =>
        rw [q] at e
        obtain ⟨o', e', e2⟩ := Option.map_eq_some_iff.mp e
        cases e2
        exact ⟨e', hb, q⟩
  · rintro ⟨e, hne, hn⟩
    refine ⟨a, List.mem_range.mpr (Heap.lt_size e), ?_⟩
    rw [if_neg hne, hn, e]; rfl
section
variable {x : Cx} {G : Fz} {T : Ow} {h h' : Heap}
theorem OkB.fn (S : OkB x G T h) (ha : x.h₀.objs.size ≤ x.L) : ∃ m, (x.L, .ns m) ∈ T ∧ Fr x.h₀ x.L h m ∧ News x.h₀ x.L h (allNews x.h₀ x.L h) := by
  obtain ⟨m, hm⟩ := S.fr
  obtain ⟨o, ho, q⟩ := S.st.own _ hm
  exact ⟨m, hm, ⟨NsObj.ns q ho, fun b o e => S.keep e, ha⟩, fun p hp => mem_allNews.mp hp⟩
theorem OkB.back {m : Str → Option Value} {tl : List (Addr × Obj)} (S : OkB x G T h) (hm : (x.L, .ns m) ∈ T) (F : Fr x.h₀ x.L h' m) (N : News x.h₀ x.L h' (tl ++ allNews x.h₀ x.L h)) : OkB x G T h' := by
  have keep : ∀ b o, b ≠ x.L → h.get? b = some o → h'.get? b = some o := fun b o hne e => by
    cases q : x.h₀.get? b with
    | some o' =>
      have := S.keep q
      rw [e] at this; cases this
      exact F.keep _ _ q
    | none => exact (N (b, o) (List.mem_append.mpr (.inr (mem_allNews.mpr ⟨e, hne, q⟩)))).1
  refine ⟨⟨fun a o g => ?_, fun p hp => ?_, S.st.off, S.st.nd⟩, S.base, S.fr⟩
  · exact keep a o (fun e => S.st.off _ hm o (e ▸ g)) (S.st.keep a o g)
  · by_cases e : p.1 = x.L
    · obtain ⟨a, sp⟩ := p
      dsimp only at e
      subst e
      have := S.st.one hp hm
      subst this
      obtain ⟨o, ho, q⟩ := ns_obj F.ns
      exact ⟨o, ho, q⟩
    · obtain ⟨o, ho, q⟩ := S.st.own p hp
      exact ⟨o, keep _ _ e ho, q⟩
theorem OkB.back1 {m : Str → Option Value} {D : Addr} {o : Obj} (S : OkB x G T h) (hm : (x.L, .ns m) ∈ T) (F : Fr x.h₀ x.L h' m) (N : News x.h₀ x.L h' ((D, o) :: allNews x.h₀ x.L h)) (hD : h.get? D = none) : OkB x (G.add D o) T h' := by
  have S' := S.back (tl := [(D, o)]) hm F N
  refine S.to (Fz.le_add ..) ⟨fun b o' g => ?_, S'.st.own, fun p hp o' g => ?_, S.st.nd⟩
  · rcases g with g | ⟨rfl, rfl⟩
    · exact S'.st.keep _ _ g
    · exact (N _ (List.mem_cons_self ..)).1
  · rcases g with g | ⟨e, rfl⟩
    · exact S.st.off p hp _ g
    · obtain ⟨o₁, e₁, _⟩ := S.st.own p hp
      rw [e, hD] at e₁; cases e₁
end
theorem none_above {h : Heap} {a : Addr} (ha : h.objs.size ≤ a) : h.get? a = none := by
  cases e : h.get? a with
  | none => rfl
  | some o' => exact absurd (Heap.lt_size e) (Nat.not_lt.mpr ha)
/-- how a value goes on -/
noncomputable abbrev KV (x : Cx) (G : Fz) (T : Ow) (s : Shared) (av : AV) (Q : Value → Shared → Prop) : Prop :=
  ∀ v h' tk' G', Fz.le G G' → OkB x G' T h' → VR G' v av → Q v { s with heap := h', toks := tk' }
/-- a binary operation on values -/
noncomputable def BV (w : World) (x : Cx) (op : Operator) (p q r : AV) : Prop :=
  ∀ (G : Fz) (T : Ow) (s : Shared) (Q : Value → Shared → Prop) (E : Value → Shared → Prop) (u v : Value), OkB x G T s.heap → VR G u p → VR G v q → KV x G T s r Q → wpAny (model pg w) x.A (binaryOp op u v) Q E s
noncomputable def CV (w : World) (x : Cx) (op : CmpOp) (p q : AV) (b : Bool) : Prop :=
  ∀ (G : Fz) (T : Ow) (s : Shared) (Q : Value → Shared → Prop) (E : Value → Shared → Prop) (u v : Value), OkB x G T s.heap → VR G u p → VR G v q → KV x G T s (.bool b) Q → wpAny (model pg w) x.A (compareOp op u v) Q E s
section
variable {w : World} {x : Cx} {env : Env} {ρ : Rho}
theorem EV_bin {op : Operator} {l r : PySem.Expr} {pos : Pos} {p q v : AV} (hl : EV w x env ρ l p) (hr : EV w x env ρ r q) (hb : BV w x op p q v) : EV w x env ρ (.BinOp l op r pos) v := fun G T s Q E S h => by
  refine wpAny_BinOp (hl G T s _ _ S fun v1 h1 tk1 G1 l1 S1 r1 => ?_)
  refine hr G1 T _ _ _ S1 fun v2 h2 tk2 G2 l2 S2 r2 => ?_
  exact hb G2 T _ _ _ _ _ S2.toOkB (r1.mono l2) r2 fun v3 h3 tk3 G3 l3 S3 r3 => h v3 h3 tk3 G3 (l1.tr (l2.tr l3)) (S2.toR l3 S3) r3
theorem EV_cmp {op : CmpOp} {l r : PySem.Expr} {pos : Pos} {p q : AV} {b : Bool} (hl : EV w x env ρ l p) (hr : EV w x env ρ r q) (hb : CV w x op p q b) (hm : behindInMarks op r = false := by with_unfolding_all rfl) : EV w x env ρ (.Compare l [op] [r] pos) (.bool b) := fun G T s Q E S h => by
  refine wpAny_Compare1 (hl G T s _ _ S fun v1 h1 tk1 G1 l1 S1 r1 => ?_) hm
  refine hr G1 T _ _ _ S1 fun v2 h2 tk2 G2 l2 S2 r2 => ?_
  exact hb G2 T _ _ _ _ _ S2.toOkB (r1.mono l2) r2 fun v3 h3 tk3 G3 l3 S3 r3 => h v3 h3 tk3 G3 (l1.tr (l2.tr l3)) (S2.toR l3 S3) r3
theorem EB_cmp {op : CmpOp} {l r : PySem.Expr} {pos : Pos} {p q : AV} {b : Bool} (hl : EV w x env ρ l p) (hr : EV w x env ρ r q) (hb : CV w x op p q b) (hm : behindInMarks op r = false := by with_unfolding_all rfl) : EB w x env ρ (.Compare l [op] [r] pos) b := fun G T s Q E S h => by
  refine wpAny_isTrue_Compare1 (hl G T s _ _ S fun v1 h1 tk1 G1 l1 S1 r1 => ?_) hm
  refine hr G1 T _ _ _ S1 fun v2 h2 tk2 G2 l2 S2 r2 => ?_
  refine hb G2 T _ _ _ _ _ S2.toOkB (r1.mono l2) r2 fun v3 h3 tk3 G3 l3 S3 r3 => ?_
  cases r3
  exact wpAny_truthy_bool (h h3 tk3 G3 (l1.tr (l2.tr l3)) (S2.toR l3 S3))
theorem EB_bool {e : PySem.Expr} {b : Bool} (he : EV w x env ρ e (.bool b)) (hp : ∀ whole, isTrue e env whole = (do let v ← whole; standAt e.pos; holding [v] (truthy v)) := by intro _; rfl) : EB w x env ρ e b := fun G T s Q E S h => by
  refine isTrue_plain (he G T s _ _ S fun v1 h1 tk1 G1 l1 S1 r1 => ?_) (hp _)
  cases r1
  exact wpAny_truthy_bool (h h1 tk1 G1 l1 S1)
theorem EB_or2 {e f : PySem.Expr} {pos : Pos} {b c : Bool} (he : EB w x env ρ e b) (hf : b = false → EB w x env ρ f c) : EB w x env ρ (.BoolOp .Or [e, f] pos) (b || c) := fun G T s Q E S h => by
  refine isTrue_or (he G T s _ _ S fun h1 tk1 G1 l1 S1 => ?_)
  cases b with
  | true => exact h h1 tk1 G1 l1 S1
  | false =>
    refine isTrue_or (hf rfl G1 T _ _ _ S1 fun h2 tk2 G2 l2 S2 => ?_)
    cases c with
    | true => exact h h2 tk2 G2 (l1.tr l2) S2
    | false => exact isTrue_or_nil (h h2 tk2 G2 (l1.tr l2) S2)
theorem EB_and2 {e f : PySem.Expr} {pos : Pos} {b c : Bool} (he : EB w x env ρ e b) (hf : b = true → EB w x env ρ f c) : EB w x env ρ (.BoolOp .And [e, f] pos) (b && c) := fun G T s Q E S h => by
  refine isTrue_and (he G T s _ _ S fun h1 tk1 G1 l1 S1 => ?_)
  cases b with
  | false => exact h h1 tk1 G1 l1 S1
  | true =>
    refine isTrue_and (hf rfl G1 T _ _ _ S1 fun h2 tk2 G2 l2 S2 => ?_)
    cases c with
    | false => exact h h2 tk2 G2 (l1.tr l2) S2
    | true => exact isTrue_and_nil (h h2 tk2 G2 (l1.tr l2) S2)
theorem EV_if {t a b : PySem.Expr} {pos : Pos} {c : Bool} {v : AV} (ht : EB w x env ρ t c) (ha : c = true → EV w x env ρ a v) (hb : c = false → EV w x env ρ b v) : EV w x env ρ (.IfExp t a b pos) v := fun G T s Q E S h => by
  refine wpAny_IfExp (ht G T s _ _ S fun h1 tk1 G1 l1 S1 => ?_)
  cases c with
  | true => exact ha rfl G1 T _ _ _ S1 fun v2 h2 tk2 G2 l2 S2 r2 => h v2 h2 tk2 G2 (l1.tr l2) S2 r2
  | false => exact hb rfl G1 T _ _ _ S1 fun v2 h2 tk2 G2 l2 S2 r2 => h v2 h2 tk2 G2 (l1.tr l2) S2 r2
theorem EV_neg {e : PySem.Expr} {pos : Pos} {i : Int} (he : EV w x env ρ e (.int i)) : EV w x env ρ (.UnaryOp .USub e pos) (.int (-i)) := fun G T s Q E S h => by
  refine wpAny_UnaryOp (he G T s _ _ S fun v1 h1 tk1 G1 l1 S1 r1 => ?_)
  cases r1
  exact P.neg_int (h _ h1 _ G1 l1 S1 (.int _ _))
-- operations
theorem BV_add {a b : Int} : BV w x .Add (.int a) (.int b) (.int (a + b)) := fun G T s Q E u v S r1 r2 h => by
  cases r1; cases r2
  exact wpAny_add_int (h _ _ _ G (Fz.rf _) S (.int _ _))
theorem BV_sub {a b : Int} : BV w x .Sub (.int a) (.int b) (.int (a - b)) := fun G T s Q E u v S r1 r2 h => by
  cases r1; cases r2
  exact PyProof.Rows.sub_int (h _ _ _ G (Fz.rf _) S (.int _ _))
theorem BV_mul {a b : Int} (hm : IntMulOk a b) : BV w x .Mult (.int a) (.int b) (.int (a * b)) := fun G T s Q E u v S r1 r2 h => by
  cases r1; cases r2
  exact PyProof.Rows.mul_int (h _ _ _ G (Fz.rf _) S (.int _ _)) hm
theorem BV_div {a b : Int} (hb : b ≠ 0) (hp : Builtin.divisionGoesByPylong a b = false) : BV w x .FloorDiv (.int a) (.int b) (.int (a.fdiv b)) := fun G T s Q E u v S r1 r2 h => by
  cases r1; cases r2
  exact PyProof.Rows.floordiv_int hb (h _ _ _ G (Fz.rf _) S (.int _ _)) (.inl hp)
theorem BV_mod {a b : Int} (hb : b ≠ 0) : BV w x .Mod (.int a) (.int b) (.int (a.fmod b)) := fun G T s Q E u v S r1 r2 h => by
  cases r1; cases r2
  exact PyProof.Rows.mod_int' hb (h _ _ _ G (Fz.rf _) S (.int _ _))
theorem BV_pow {a b : Int} (h0 : 0 ≤ b) (h1 : b ≤ 1000000) (h2 : a.natAbs < 2 ^ 64) : BV w x .Pow (.int a) (.int b) (.int (a ^ b.toNat)) := fun G T s Q E u v S r1 r2 h => by
  cases r1; cases r2
  exact pow_int_small h0 h1 h2 (h _ _ _ G (Fz.rf _) S (.int _ _))
theorem BV_addS {a b : Str} (hsz : a.length + b.length ≤ sizeLine) : BV w x .Add (.str a) (.str b) (.str (a ++ b)) := fun G T s Q E u v S r1 r2 h => by
  cases r1; cases r2
  exact PyProof.Rows.add_str (fun t' tk => h _ _ _ G (Fz.rf _) S (.str _ _)) hsz
theorem isListG {G : Fz} {T : Ow} {s : Shared} (S : St G T s.heap) {a : Addr} {o : Obj} {vs : List Value} {n : Nat} (g : G a o) (hc : o.cls = .type "list") (hd : o.data = .seq vs.toArray n) : s.heap.IsList a vs.toArray := ⟨o, S.keep _ _ g, hc, n, hd⟩
theorem BV_addL {xs ys : List AV} (ha : x.h₀.objs.size ≤ x.L) (hsz : xs.length + ys.length ≤ 16777216) : BV w x .Add (.list xs) (.list ys) (.list (xs ++ ys)) := fun G T s Q E u v S r1 r2 h => by
  cases r1 with | list g1 c1 d1 e1 q1 =>
  cases r2 with | list g2 c2 d2 e2 q2 =>
  obtain ⟨m, hm, F, N⟩ := S.fn ha
  refine add_lists F N (isListG S.st g1 c1 e1) (isListG S.st g2 c2 e2) (fun h' F' N' => ?_) (by rw [q1.length, q2.length, sizeLine_eq]; exact hsz)
  have S' := S.back1 hm F' N' (none_size _)
  exact h _ _ _ _ (Fz.le_add G _ _) S' (.list (.inr ⟨rfl, rfl⟩) rfl ⟨rfl, rfl⟩ rfl ((q1.append q2).mono (Fz.le_add G _ _)))
theorem CV_eqI {a b : Int} : CV w x .Eq (.int a) (.int b) (a == b) := fun G T s Q E u v S r1 r2 h => by
  cases r1; cases r2
  exact PyProof.Rows.eq_int (h _ _ _ G (Fz.rf _) S (.bool _))
theorem CV_ltI {a b : Int} : CV w x .Lt (.int a) (.int b) (decide (a < b)) := fun G T s Q E u v S r1 r2 h => by
  cases r1; cases r2
  exact PyProof.Rows.lt_int (h _ _ _ G (Fz.rf _) S (.bool _))
theorem CV_gtI {a b : Int} : CV w x .Gt (.int a) (.int b) (decide (b < a)) := fun G T s Q E u v S r1 r2 h => by
  cases r1; cases r2
  exact PyProof.Rows.gt_int (h _ _ _ G (Fz.rf _) S (.bool _))
theorem CV_geI {a b : Int} : CV w x .GtE (.int a) (.int b) (decide (b ≤ a)) := fun G T s Q E u v S r1 r2 h => by
  cases r1; cases r2
  exact PyProof.Rows.ge_int (h _ _ _ G (Fz.rf _) S (.bool _))
theorem CV_eqS {a b : Str} : CV w x .Eq (.str a) (.str b) (a == b) := fun G T s Q E u v S r1 r2 h => by
  cases r1; cases r2
  exact PyProof.Rows.eq_str (h _ _ _ G (Fz.rf _) S (.bool _))
theorem CV_neS {a b : Str} : CV w x .NotEq (.str a) (.str b) (a != b) := fun G T s Q E u v S r1 r2 h => by
  cases r1; cases r2
  exact PyProof.Rows.ne_str (h _ _ _ G (Fz.rf _) S (.bool _))
theorem CV_isB {a b : Bool} : CV w x .Is (.bool a) (.bool b) (a == b) := fun G T s Q E u v S r1 r2 h => by
  cases r1; cases r2
  exact PyProof.Rows.is_bool (h _ _ _ G (Fz.rf _) S (.bool _))
end
end Mine
end
section
open PySem PySem.W PyProof.Rows PySem.Calls PySem.Spec
set_option Elab.async false
set_option maxRecDepth 100000
namespace Mine
open LCg
/-- what is gone through -/
noncomputable def chars (x : Str) : List AV := x.cps.toList.map fun c => .str ⟨#[c]⟩
noncomputable def steps (a c : Int) (n : Nat) : List AV := (List.range n).map fun (i : Nat) => AV.int (a + (i : Int) * c)
inductive ItV (w : World) : AV → List AV → Prop
  | list {xs : List AV} : ItV w (.list xs) xs
  | tup {xs : List AV} : ItV w (.tup xs) xs
  | str {x : Str} : ItV w (.str x) (chars x)
  | sdict {es : List (Str × AV)} : ItV w (.sdict w es) (es.map fun p => .str p.1)
  | rng {a b c : Int} {n : Nat} : Builtin.Range.small a b c = true → Builtin.Range.rangeSize a b c = (n : Int) → ItV w (.rng a b c) (steps a c n)
theorem VRd.get {G : Fz} : ∀ {vs : List (Str × Value)} {xs : List (Str × AV)}, VRd G vs xs → ∀ {i : Nat} {k : Str} {v : Value}, vs[i]? = some (k, v) → ∃ x, xs[i]? = some (k, x) ∧ VR G v x
  | _, _, .nil, _, _, _, e => by simp at e
  | _, _, .cons a _, 0, _, _, e => by simp only [List.getElem?_cons_zero, Option.some.injEq, Prod.mk.injEq] at e; obtain ⟨rfl, rfl⟩ := e; exact ⟨_, rfl, a⟩
  | _, _, .cons _ r, i + 1, _, _, e => by simp only [List.getElem?_cons_succ] at e ⊢; exact r.get e
theorem VRd.length {G : Fz} : ∀ {vs : List (Str × Value)} {xs : List (Str × AV)}, VRd G vs xs → vs.length = xs.length
  | _, _, .nil => rfl
  | _, _, .cons _ r => by simp [r.length]
section
variable {w : World} {x : Cx}
/-- an iterator: what it tells, place by place, and where it stands -/
structure Iter (w : World) (x : Cx) (G : Fz) (its : List AV) (h₀ : Heap) (I : Addr) (fp : List Addr) (P : Nat → Value → Prop) (Si : Nat → Heap → Prop) (h : Heap) : Prop where
  W : Walks pg w x.A I fp [I] its.length P Si
  here : ∀ i h, Si i h → ∃ o, h.get? I = some o
  fp : ∀ b ∈ fp, b = I ∨ ∃ o, G b o
  now : Si 0 h
  new : I = h₀.objs.size
  lt : I < h.objs.size
  keep : ∀ b o, h₀.get? b = some o → h.get? b = some o
  item : ∀ i v, i < its.length → P i v → ∃ a, its[i]? = some a ∧ VR G v a
theorem iterV {G : Fz} {T : Ow} {s : Shared} {Q E : Value → Shared → Prop} {v : Value} {av : AV} {its : List AV} (S : OkB x G T s.heap) (hv : VR G v av) (hi : ItV w av its)
    (k : ∀ I fp P Si h, Iter w x G its s.heap I fp P Si h → Q (.ref I) { s with heap := h }) : wpAny (model pg w) x.A (pyIter v) Q E s := by
  have hh : x.A.handled = none := x.hh
  have lt : ∀ {a : Addr} {o : Obj}, G a o → a ≠ s.heap.objs.size := fun g => Nat.ne_of_lt (Heap.lt_size (S.st.keep _ _ g))
  cases hi with
  | list =>
    cases hv with | @list a o vs n _ g c d e q =>
    have hl := isListG S.st g c e
    refine wpAny_pyIter_list hl (k s.heap.objs.size [s.heap.objs.size, a] (fun i v => vs.toArray[i]? = some v) (fun i h => h.IsListIter s.heap.objs.size a i ∧ h.IsList a vs.toArray) _ ⟨by rw [← q.length]; exact Walks.list hh s.heap.objs.size a (lt g) vs.toArray, fun i h st => by obtain ⟨o, e, _⟩ := st.1; exact ⟨o, e⟩, fun b hb => ?_, ⟨⟨_, Heap.get?_push_size _ rfl, rfl, rfl⟩, hl.push _⟩, rfl, ?_, fun _ _ e => Heap.get?_push_of_some _ e, fun i v hi hp => ?_⟩)
    · rcases List.mem_cons.mp hb with rfl | hb
      · exact .inl rfl
      · rw [List.mem_singleton.mp hb]; exact .inr ⟨_, g⟩
    · show @LT.lt Nat _ _ _; rw [Heap.size_push]; exact Nat.lt_succ_self _
    · exact q.get (by simpa using hp)
  | tup =>
    cases hv with | @tup a o vs n _ g c e q =>
    have hl : s.heap.IsTuple a vs.toArray := ⟨o, S.st.keep _ _ g, c, n, e⟩
    refine wpAny_pyIter_tuple hl (k s.heap.objs.size [s.heap.objs.size, a] (fun i v => vs.toArray[i]? = some v) (fun i h => h.IsTupleIter s.heap.objs.size a i ∧ h.IsTuple a vs.toArray) _ ⟨by rw [← q.length]; exact Walks.tuple hh s.heap.objs.size a (lt g) vs.toArray, fun i h st => by obtain ⟨o, e, _⟩ := st.1; exact ⟨o, e⟩, fun b hb => ?_, ⟨⟨_, Heap.get?_push_size _ rfl, rfl, rfl⟩, hl.push _⟩, rfl, ?_, fun _ _ e => Heap.get?_push_of_some _ e, fun i v hi hp => ?_⟩)
    · rcases List.mem_cons.mp hb with rfl | hb
      · exact .inl rfl
      · rw [List.mem_singleton.mp hb]; exact .inr ⟨_, g⟩
    · show @LT.lt Nat _ _ _; rw [Heap.size_push]; exact Nat.lt_succ_self _
    · exact q.get (by simpa using hp)
  | @str y =>
    cases hv with | str _ t =>
    cases ha : y.cps.all (· < 128)
    · refine wpAny_pyIter_wide ha (k s.heap.objs.size [s.heap.objs.size] (SignAt y) (fun i h => h.IsStrIter s.heap.objs.size "str_iterator" y t i) _ ⟨by rw [chars, List.length_map, Array.length_toList]; exact Walks.strWide hh _ y t, fun i h st => by obtain ⟨o, e, _⟩ := st; exact ⟨o, e⟩, fun b hb => .inl (List.mem_singleton.mp hb), ⟨_, Heap.get?_push_size _ rfl, rfl, rfl⟩, rfl, ?_, fun _ _ e => Heap.get?_push_of_some _ e, fun i v hi hp => ?_⟩)
      · show @LT.lt Nat _ _ _; rw [Heap.size_push]; exact Nat.lt_succ_self _
      · obtain ⟨c, u, hc, rfl⟩ := hp
        exact ⟨.str ⟨#[c]⟩, by rw [chars, List.getElem?_map, Array.getElem?_toList, hc]; rfl, .str _ _⟩
    · refine wpAny_pyIter_ascii ha (k s.heap.objs.size [s.heap.objs.size] (SignAt y) (fun i h => h.IsStrIter s.heap.objs.size "str_ascii_iterator" y t i) _ ⟨by rw [chars, List.length_map, Array.length_toList]; exact Walks.strAscii hh _ y t, fun i h st => by obtain ⟨o, e, _⟩ := st; exact ⟨o, e⟩, fun b hb => .inl (List.mem_singleton.mp hb), ⟨_, Heap.get?_push_size _ rfl, rfl, rfl⟩, rfl, ?_, fun _ _ e => Heap.get?_push_of_some _ e, fun i v hi hp => ?_⟩)
      · show @LT.lt Nat _ _ _; rw [Heap.size_push]; exact Nat.lt_succ_self _
      · obtain ⟨c, u, hc, rfl⟩ := hp
        exact ⟨.str ⟨#[c]⟩, by rw [chars, List.getElem?_map, Array.getElem?_toList, hc]; rfl, .str _ _⟩
  | sdict =>
    cases hv with | @sdict _ a o kvs es g hd hne q =>
    obtain ⟨ep, hat⟩ := KdkAt.of hd
    have hda := hat.dictAt (S.st.keep _ _ g)
    refine wpAny_pyIter_dict (by simpa using hne) hda (k s.heap.objs.size [s.heap.objs.size, a] (fun i v => ∃ k x, kvs[i]? = some (k, x) ∧ (strKind pg w).is k v = true) (fun i h => h.IsKeyIter s.heap.objs.size a i kvs.length ep ∧ h.DictAt (strKind pg w) a kvs ep) _ ⟨by rw [List.length_map, ← q.length]; exact Walks.dictKeys hh s.heap.objs.size a (lt g) kvs ep, fun i h st => by obtain ⟨o, e, _⟩ := st.1; exact ⟨o, e⟩, fun b hb => ?_, ⟨⟨_, Heap.get?_push_size _ rfl, rfl, rfl⟩, hda.at' fun o e => Heap.get?_push_of_some _ e⟩, rfl, ?_, fun _ _ e => Heap.get?_push_of_some _ e, fun i v hi hp => ?_⟩)
    · rcases List.mem_cons.mp hb with rfl | hb
      · exact .inl rfl
      · rw [List.mem_singleton.mp hb]; exact .inr ⟨_, g⟩
    · show @LT.lt Nat _ _ _; rw [Heap.size_push]; exact Nat.lt_succ_self _
    · obtain ⟨kk, vv, h1, h2⟩ := hp
      obtain ⟨xx, h3, _⟩ := q.get h1
      refine ⟨.str kk, by rw [List.getElem?_map, h3]; rfl, ?_⟩
      have h2' : Value.isStrOf kk v = true := h2
      cases v <;> simp [Value.isStrOf] at h2'
      subst h2'; exact .str _ _
  | @rng a b c n hsm hn =>
    cases hv with | rng g hr =>
    obtain ⟨t, u, v', hr⟩ := hr _ (S.st.keep _ _ g)
    refine wpAny_pyIter_range hr hsm (k s.heap.objs.size [s.heap.objs.size] (fun i v => ∃ t, v = .int (a + i * c) t) (fun i h => IsRangeIter h s.heap.objs.size (a + (i : Nat) * c) ((n : Int) - (i : Nat)) c) _ ⟨by rw [steps, List.length_map, List.length_range]; exact Walks.range hh s.heap.objs.size a c n, fun i h st => ⟨_, st⟩, fun b hb => .inl (List.mem_singleton.mp hb), by show IsRangeIter _ _ _ _ _; rw [hn]; simpa using Heap.get?_push_size _ rfl, rfl, ?_, fun _ _ e => Heap.get?_push_of_some _ e, fun i v hi hp => ?_⟩)
    · show @LT.lt Nat _ _ _; rw [Heap.size_push]; exact Nat.lt_succ_self _
    · obtain ⟨t, rfl⟩ := hp
      rw [steps, List.length_map, List.length_range] at hi
      exact ⟨.int (a + (i : Int) * c), by rw [steps, List.getElem?_map, List.getElem?_range hi]; rfl, .int _ _⟩
end
end Mine
end
section
open PySem PySem.W PyProof.Rows PySem.Calls PySem.Spec
set_option Elab.async false
set_option maxRecDepth 100000
namespace Mine
open LCg
section
variable {G G' : Fz} {T T' : Ow} {h h' : Heap} {a : Addr} {o : Obj} {sp : Sp}
theorem St.many (S : St G T h) (hk : ∀ b o, h.get? b = some o → h'.get? b = some o) : ∀ (N : Ow), (∀ p ∈ N, h.objs.size ≤ p.1 ∧ ∃ o, h'.get? p.1 = some o ∧ p.2.ok o) → (N.map (·.1)).Nodup → St G (N ++ T) h'
  | [], _, _ => S.ext hk
  | p :: N, hN, nd => by
    rw [List.map_cons, List.nodup_cons] at nd
    have ih := St.many S hk N (fun q hq => hN q (List.mem_cons_of_mem _ hq)) nd.2
    obtain ⟨h1, o, h2, h3⟩ := hN p (List.mem_cons_self ..)
    refine ⟨ih.keep, fun q hq => ?_, fun q hq o' g => ?_, ?_⟩
    · rcases List.mem_cons.mp hq with rfl | hq
      · exact ⟨o, h2, h3⟩
      · exact ih.own q hq
    · rcases List.mem_cons.mp hq with rfl | hq
      · exact absurd (Heap.lt_size (S.keep _ _ g)) (Nat.not_lt.mpr h1)
      · exact ih.off q hq o' g
    · rw [List.cons_append, List.map_cons, List.nodup_cons]
      refine ⟨fun hm => ?_, ih.nd⟩
      obtain ⟨q, hq, e⟩ := List.mem_map.mp hm
      rcases List.mem_append.mp hq with hq | hq
      · exact nd.1 (List.mem_map.mpr ⟨q, hq, e⟩)
      · exact absurd (S.lt hq) (by rw [e]; exact Nat.not_lt.mpr h1)
/-- what is known of a thing of one's own is said otherwise -/
theorem St.say (S : St G ((a, sp) :: T) h) (ha : h.get? a = some o) {sp' : Sp} (hs : sp'.ok o) : St G ((a, sp') :: T) h := by
  refine ⟨S.keep, fun p hp => ?_, fun p hp o' g => ?_, S.nd⟩
  · rcases List.mem_cons.mp hp with rfl | hp
    · exact ⟨o, ha, hs⟩
    · exact S.own p (List.mem_cons_of_mem _ hp)
  · rcases List.mem_cons.mp hp with rfl | hp
    · exact S.off _ (List.mem_cons_self ..) o' g
    · exact S.off p (List.mem_cons_of_mem _ hp) o' g
theorem St.turn (S : St G ((a, sp) :: T) h) (hk : ∀ b o, b ≠ a → h.get? b = some o → h'.get? b = some o) (ha : h'.get? a = some o) {sp' : Sp} (hs : sp'.ok o) : St G ((a, sp') :: T) h' := by
  have z := S.upd (List.mem_cons_self ..) hk ha hs
  have n := S.nd
  rw [List.map_cons, List.nodup_cons] at n
  have e : setT a sp' ((a, sp) :: T) = (a, sp') :: T := by
    unfold setT
    rw [List.map_cons, if_pos rfl]
    congr 1
    conv => rhs; rw [← List.map_id T]
    refine List.map_congr_left fun p hp => ?_
    rw [if_neg fun e => n.1 (List.mem_map.mpr ⟨p, hp, e⟩)]; rfl
  rw [e] at z; exact z
theorem St.drop1 (S : St G ((a, sp) :: T) h) (hk : ∀ b o, b ≠ a → h.get? b = some o → h'.get? b = some o) : St G T h' := by
  have n := S.nd
  rw [List.map_cons, List.nodup_cons] at n
  refine ⟨fun b o g => hk _ _ (fun e => S.off _ (List.mem_cons_self ..) o (e ▸ g)) (S.keep _ _ g), fun p hp => ?_, S.tail.off, n.2⟩
  obtain ⟨o, e, q⟩ := S.own p (List.mem_cons_of_mem _ hp)
  exact ⟨o, hk _ _ (fun e => n.1 (List.mem_map.mpr ⟨p, hp, e⟩)) e, q⟩
theorem St.swap {p q : Addr × Sp} (S : St G (p :: q :: T) h) : St G (q :: p :: T) h := S.perm (List.Perm.swap ..)
end
theorem ownAdr_ge : ∀ (names : List (Str × NameKind)) (n : Nat) (b : Addr), b ∈ ownAdr n names → n ≤ b
  | [], _, _, hb => nomatch hb
  | (_, k) :: r, n, b, hb => by
    unfold ownAdr at hb
    split at hb
    · rcases List.mem_cons.mp hb with rfl | hb
      · exact Nat.le_refl _
      · exact Nat.le_of_succ_le (ownAdr_ge r (n + 1) b hb)
    · exact ownAdr_ge r n b hb
theorem ownAdr_nd : ∀ (names : List (Str × NameKind)) (n : Nat), (ownAdr n names).Nodup
  | [], _ => List.nodup_nil
  | (_, k) :: r, n => by
    unfold ownAdr
    split
    · exact List.nodup_cons.mpr ⟨fun hb => absurd (ownAdr_ge r (n + 1) n hb) (Nat.not_succ_le_self n), ownAdr_nd r (n + 1)⟩
    · exact ownAdr_nd r n
section
variable {w : World} {x : Cx} {env : Env} {ρ : Rho} {G : Fz} {T : Ow} {h h' : Heap} {a : Addr} {o : Obj}
theorem OkB.setNs (S : OkB x G T h) {m m' : Str → Option Value} (hm : (a, .ns m) ∈ T) (S' : St G (setT a (.ns m') T) h') : OkB x G (setT a (.ns m') T) h' := by
  refine ⟨S', fun b o e => (S.base b o e).imp id fun hb => ?_, ?_⟩
  · by_cases q : b = a
    · subst q; cases S.st.one hm hb
    · exact setT_mem hb q
  · obtain ⟨m₁, h₁⟩ := S.fr
    by_cases q : x.L = a
    · exact ⟨m', by rw [q]; exact setT_self hm⟩
    · exact ⟨m₁, setT_mem h₁ q⟩
theorem OkB.setCell (S : OkB x G T h) {v v' : Option Value} (hm : (a, .cell v) ∈ T) (S' : St G (setT a (.cell v') T) h') : OkB x G (setT a (.cell v') T) h' := by
  refine ⟨S', fun b o e => (S.base b o e).imp id fun hb => ?_, ?_⟩
  · by_cases q : b = a
    · subst q; cases S.st.one hm hb
    · exact setT_mem hb q
  · obtain ⟨m₁, h₁⟩ := S.fr
    by_cases q : x.L = a
    · subst q; cases S.st.one hm h₁
    · exact ⟨m₁, setT_mem h₁ q⟩
/-- a thing of one's own that is no ground turns, or is dropped -/
theorem OkB.drop1 {sp : Sp} (S : OkB x G ((a, sp) :: T) h) (hk : ∀ b o, b ≠ a → h.get? b = some o → h'.get? b = some o) (hf : ∀ o, sp ≠ .fix o) (hn : ∀ m, sp ≠ .ns m) : OkB x G T h' := by
  refine ⟨S.st.drop1 hk, fun b o e => (S.base b o e).imp id fun hm => ?_, ?_⟩
  · rcases List.mem_cons.mp hm with q | hm
    · cases q; exact absurd rfl (hf o)
    · exact hm
  · obtain ⟨m, hm⟩ := S.fr
    rcases List.mem_cons.mp hm with q | hm
    · cases q; exact absurd rfl (hn m)
    · exact ⟨m, hm⟩
theorem OkB.turn {sp sp' : Sp} (S : OkB x G ((a, sp) :: T) h) (S' : St G' ((a, sp') :: T) h') (hG : Fz.le G G') (hf : ∀ o, sp ≠ .fix o) (hn : ∀ m, sp ≠ .ns m) : OkB x G' ((a, sp') :: T) h' := by
  refine ⟨S', fun b o e => (S.base b o e).imp (hG.of _ _) fun hm => ?_, ?_⟩
  · rcases List.mem_cons.mp hm with q | hm
    · cases q; exact absurd rfl (hf o)
    · exact List.mem_cons_of_mem _ hm
  · obtain ⟨m, hm⟩ := S.fr
    rcases List.mem_cons.mp hm with q | hm
    · cases q; exact absurd rfl (hn m)
    · exact ⟨m, List.mem_cons_of_mem _ hm⟩
theorem OkB.mem {T' : Ow} (S : OkB x G T h) (S' : St G' T' h') (hG : Fz.le G G') (hs : ∀ a sp, (a, sp) ∈ T → (∀ o, sp ≠ .obj o) → sp ≠ .any → (∀ v, sp ≠ .cell v) → (a, sp) ∈ T') : OkB x G' T' h' :=
  ⟨S', fun b o e => (S.base b o e).imp (hG.of _ _) fun hm => hs _ _ hm (fun _ e => by cases e) (fun e => by cases e) (fun _ e => by cases e), let ⟨m, hm⟩ := S.fr; ⟨m, hs _ _ hm (fun _ e => by cases e) (fun e => by cases e) (fun _ e => by cases e)⟩⟩
/-- where a name's value is kept -/
noncomputable def Slot (env : Env) (T : Ow) (n : Str) : Prop := (env.kindOf n = some .local ∧ ∃ m, (env.locals, .ns m) ∈ T) ∨ (env.kindOf n = some .cell ∧ ∃ c v, env.cells.lookup n = some c ∧ (c, .cell v) ∈ T)
/-- the things of one's own, a name given a value -/
noncomputable def putT (env : Env) (T : Ow) (n : Str) (v : Value) (T' : Ow) : Prop :=
  (env.kindOf n = some .local ∧ ∃ m, (env.locals, .ns m) ∈ T ∧ T' = setT env.locals (.ns fun y => if y = n then some v else m y) T) ∨
  (env.kindOf n = some .cell ∧ ∃ c v₀, env.cells.lookup n = some c ∧ (c, .cell v₀) ∈ T ∧ T' = setT c (.cell (some v)) T)
theorem storeV {n : Str} {v : Value} {s : Shared} {Q : Unit → Shared → Prop} {E : Value → Shared → Prop} (S : OkB x G T s.heap) (g : EnvG env) (hs : Slot env T n)
    (k : ∀ T' h' tk, putT env T n v T' → OkB x G T' h' → Q () { s with heap := h', toks := tk }) : wpAny (model pg w) x.A (storeName env n v) Q E s := by
  rcases hs with ⟨hl, m, hm⟩ | ⟨hl, c, v₀, hc, hm⟩
  · obtain ⟨o, ho, q⟩ := S.st.own _ hm
    refine wpAny_storeName_local hl (NsObj.ns q ho) (fun h' hn hb => ?_) (by rw [g.kind]; rfl)
    obtain ⟨o', ho', q'⟩ := ns_obj hn
    exact k _ _ _ (.inl ⟨hl, m, hm, rfl⟩) (S.setNs hm (S.st.upd hm (fun b o hb' e => hb.extBut b o hb' e) ho' q'))
  · obtain ⟨o, ho, q⟩ := S.st.own _ hm
    refine wpAny_storeName_cell g.kind hl hc ⟨o, ho, q⟩ fun h' hv hb => ?_
    obtain ⟨o', ho', q'⟩ := hv
    exact k _ _ _ (.inr ⟨hl, c, v₀, hc, hm, rfl⟩) (S.setCell hm (S.st.upd hm (fun b o hb' e => hb.extBut b o hb' e) ho' q'))
theorem apt_inj {env : Env} (ha : Apt env) {n n' : Str} {c : Addr} (h1 : env.cells.lookup n = some c) (h2 : env.cells.lookup n' = some c) : n = n' := by
  have m1 := mem_of_lookup h1
  have m2 := mem_of_lookup h2
  unfold Apt at ha
  generalize env.cells = l at *
  clear h1 h2
  induction l with
  | nil => cases m1
  | cons p r ih =>
    rw [List.map_cons, List.nodup_cons] at ha
    rcases List.mem_cons.mp m1 with e1 | m1 <;> rcases List.mem_cons.mp m2 with e2 | m2
    · rw [← e2] at e1; cases e1; rfl
    · exact absurd (List.mem_map.mpr ⟨_, m2, by rw [← e1]⟩) ha.1
    · exact absurd (List.mem_map.mpr ⟨_, m1, by rw [← e2]⟩) ha.1
    · exact ih ha.2 m1 m2
theorem putT.self {n : Str} {v : Value} {T' : Ow} (P : putT env T n v T') : Reads env T' n v := by
  rcases P with ⟨hl, m, hm, rfl⟩ | ⟨hl, c, v₀, hc, hm, rfl⟩
  · exact .inl ⟨hl, _, setT_self hm, if_pos rfl⟩
  · exact .inr ⟨.inl hl, c, hc, setT_self hm⟩
theorem putT.other {n y : Str} {v u : Value} {T' : Ow} (P : putT env T n v T') (S : St G T h) (ha : Apt env) (hne : y ≠ n) (R : Reads env T y u) : Reads env T' y u := by
  rcases P with ⟨hl, m, hm, rfl⟩ | ⟨hl, c, v₀, hc, hm, rfl⟩
  · rcases R with ⟨k, m₁, hm₁, e⟩ | ⟨k, c₁, hc₁, hm₁⟩
    · have := S.one hm hm₁; cases this
      exact .inl ⟨k, _, setT_self hm, by rw [if_neg hne]; exact e⟩
    · refine .inr ⟨k, c₁, hc₁, setT_mem hm₁ fun q => ?_⟩
      dsimp only at q; subst q; cases S.one hm hm₁
  · rcases R with ⟨k, m₁, hm₁, e⟩ | ⟨k, c₁, hc₁, hm₁⟩
    · refine .inl ⟨k, m₁, setT_mem hm₁ fun q => ?_, e⟩
      dsimp only at q; rw [q] at hm₁; cases S.one hm hm₁
    · refine .inr ⟨k, c₁, hc₁, setT_mem hm₁ fun q => ?_⟩
      dsimp only at q; subst q
      exact hne (apt_inj ha hc₁ hc)
theorem putT.mem_obj {n : Str} {v : Value} {T' : Ow} (P : putT env T n v T') (S : St G T h) {b : Addr} {o : Obj} (hp : (b, .obj o) ∈ T) : (b, .obj o) ∈ T' := by
  rcases P with ⟨hl, m, hm, rfl⟩ | ⟨hl, c, v₀, hc, hm, rfl⟩
  · exact setT_mem hp fun q => by dsimp only at q; subst q; cases S.one hm hp
  · exact setT_mem hp fun q => by dsimp only at q; subst q; cases S.one hm hp
theorem putT.cell {n : Str} {v : Value} {T' : Ow} (P : putT env T n v T') (S : St G T h) {b : Addr} (hb : ∃ u, (b, .cell u) ∈ T) : ∃ u, (b, .cell u) ∈ T' := by
  obtain ⟨u, hp⟩ := hb
  rcases P with ⟨hl, m, hm, rfl⟩ | ⟨hl, c, v₀, hc, hm, rfl⟩
  · exact ⟨u, setT_mem hp fun q => by dsimp only at q; subst q; cases S.one hm hp⟩
  · by_cases q : b = c
    · subst q; exact ⟨_, setT_self hm⟩
    · exact ⟨u, setT_mem hp q⟩
theorem putT.ns {n : Str} {v : Value} {T' : Ow} (P : putT env T n v T') (S : St G T h) {b : Addr} (hb : ∃ m, (b, .ns m) ∈ T) : ∃ m, (b, .ns m) ∈ T' := by
  obtain ⟨u, hp⟩ := hb
  rcases P with ⟨hl, m, hm, rfl⟩ | ⟨hl, c, v₀, hc, hm, rfl⟩
  · by_cases q : b = env.locals
    · subst q; exact ⟨_, setT_self hm⟩
    · exact ⟨u, setT_mem hp q⟩
  · exact ⟨u, setT_mem hp fun q => by dsimp only at q; subst q; cases S.one hm hp⟩
theorem Ok.slot (S : Ok x env ρ G T h) {n : Str} (hn : env.kindOf n = some .local ∨ (env.kindOf n = some .cell ∧ (env.cells.lookup n).isSome = true)) : Slot env T n := by
  rcases hn with hn | ⟨hn, hc⟩
  · exact .inl ⟨hn, S.lo⟩
  · obtain ⟨c, hc⟩ := Option.isSome_iff_exists.mp hc
    obtain ⟨v, hv⟩ := S.ce _ (mem_of_lookup hc)
    exact .inr ⟨hn, c, v, hc, hv⟩
theorem Ok.put {n : Str} {v : Value} {av : AV} {T' : Ow} (S : Ok x env ρ G T h) (P : putT env T n v T') (S' : OkB x G T' h') (hv : VR G v av) (hp : av.plain = true) : Ok x env ((n, av) :: ρ) G T' h' := by
  have ha := S.ap
  refine { S' with eg := S.eg, ap := S.ap, ce := fun p hp => P.cell S.st (S.ce p hp), lo := P.ns S.st S.lo, rho := fun y b e => ?_ }
  rw [List.lookup_cons] at e
  by_cases q : y = n
  · subst q
    simp only [beq_self_eq_true] at e
    cases e
    have z : ∃ u, Reads env T' y u ∧ VR G u av := ⟨v, P.self, hv⟩
    cases av <;> first | exact z | cases hp
  · have q' : (y == n) = false := by simpa using q
    simp only [q'] at e
    have N := S.rho y b e
    cases b with
    | own xs =>
      obtain ⟨a, vs, k, r, m, z, d1, d2⟩ := N
      exact ⟨a, vs, k, P.other S.st ha q r, P.mem_obj S.st m, z, d1, d2⟩
    | ownd w es =>
      obtain ⟨a, o, kvs, r, m, z, z2, z3, d1, d2⟩ := N
      exact ⟨a, o, kvs, P.other S.st ha q r, P.mem_obj S.st m, z, z2, z3, d1, d2⟩
    | _ => obtain ⟨u, r, z⟩ := N; exact ⟨u, P.other S.st ha q r, z⟩
end
end Mine
end
section
open PySem PySem.W PyProof.Rows PySem.Calls PySem.Spec
set_option Elab.async false
set_option maxRecDepth 100000
namespace Mine
open LCg
theorem cellsFrom_of : ∀ (names : List (Str × NameKind)) (n : Nat) (acc : List (Str × Addr)) (p : Str × Addr), p ∈ cellsFrom n names acc → p ∈ acc ∨ p.2 ∈ ownAdr n names
  | [], _, _, _, h => .inl h
  | (nm, k) :: r, n, acc, p, h => by
    unfold cellsFrom at h
    unfold ownAdr
    split at h
    · rename_i e
      rw [if_pos e]
      rcases cellsFrom_of r _ _ _ h with h | h
      · rcases List.mem_cons.mp h with rfl | h
        · exact .inr (List.mem_cons_self ..)
        · exact .inl h
      · exact .inr (List.mem_cons_of_mem _ h)
    · rename_i e
      rw [if_neg e]
      exact cellsFrom_of r _ _ _ h
theorem cellsFrom_nd : ∀ (names : List (Str × NameKind)) (n : Nat) (acc : List (Str × Addr)), (acc.map (·.2)).Nodup → (∀ p ∈ acc, p.2 < n) → ((cellsFrom n names acc).map (·.2)).Nodup
  | [], _, _, h, _ => h
  | (nm, k) :: r, n, acc, h, hl => by
    unfold cellsFrom
    split
    · refine cellsFrom_nd r _ _ ?_ fun p hp => ?_
      · rw [List.map_cons, List.nodup_cons]
        refine ⟨fun hm => ?_, h⟩
        obtain ⟨p, hp, e⟩ := List.mem_map.mp hm
        have z := hl p hp
        rw [e] at z
        exact absurd z (Nat.lt_irrefl _)
      · rcases List.mem_cons.mp hp with rfl | hp
        · exact Nat.lt_succ_self _
        · exact Nat.lt_succ_of_lt (hl p hp)
    · exact cellsFrom_nd r _ _ h hl
theorem cl_nd {env : Env} {cl : List (Str × Addr)} (ha : Apt env) (hs : ∀ p ∈ cl, p ∈ env.cells) (hn : (cl.map (·.1)).Nodup) : (cl.map (·.2)).Nodup := by
  induction cl with
  | nil => exact List.nodup_nil
  | cons p r ih =>
    rw [List.map_cons, List.nodup_cons] at hn ⊢
    refine ⟨fun hm => ?_, ih (fun q hq => hs q (List.mem_cons_of_mem _ hq)) hn.2⟩
    obtain ⟨q, hq, e⟩ := List.mem_map.mp hm
    have hp := hs p (List.mem_cons_self ..)
    have hq' := hs q (List.mem_cons_of_mem _ hq)
    have : q = p := by
      unfold Apt at ha
      generalize env.cells = l at *
      clear ih hm hs
      induction l with
      | nil => cases hp
      | cons a l ih =>
        rw [List.map_cons, List.nodup_cons] at ha
        rcases List.mem_cons.mp hp with e1 | hp <;> rcases List.mem_cons.mp hq' with e2 | hq'
        · rw [e1, e2]
        · exact absurd (List.mem_map.mpr ⟨_, hq', by rw [← e1, e]⟩) ha.1
        · exact absurd (List.mem_map.mpr ⟨_, hp, by rw [← e2, e]⟩) ha.1
        · exact ih ha.2 hp hq'
    subst this
    exact hn.1 (List.mem_map.mpr ⟨_, hq, rfl⟩)
theorem setT_ne {a : Addr} {sp : Sp} {T : Ow} (h : ∀ p ∈ T, p.1 ≠ a) : setT a sp T = T := by
  unfold setT
  conv => rhs; rw [← List.map_id T]
  refine List.map_congr_left fun p hp => ?_
  rw [if_neg (h p hp)]; rfl
theorem setT_cons_ne {a : Addr} {sp : Sp} {p : Addr × Sp} {T : Ow} (h : p.1 ≠ a) : setT a sp (p :: T) = p :: setT a sp T := by
  unfold setT
  rw [List.map_cons, if_neg h]
theorem setT_cons_eq {a : Addr} {sp sp' : Sp} {T : Ow} (h : ∀ p ∈ T, p.1 ≠ a) : setT a sp ((a, sp') :: T) = (a, sp) :: T := by
  have e := setT_ne (sp := sp) h
  unfold setT at e ⊢
  rw [List.map_cons, if_pos rfl, e]
theorem setT_app {a : Addr} {sp : Sp} {T U : Ow} (h : ∀ p ∈ U, p.1 ≠ a) : setT a sp (T ++ U) = setT a sp T ++ U := by
  have e := setT_ne (sp := sp) h
  unfold setT at e ⊢
  rw [List.map_append, e]
noncomputable def CellsIn (adr : List Addr) (cells : Ow) : Prop := cells.map (·.1) = adr ∧ ∀ p ∈ cells, ∃ v, p.2 = .cell v
theorem CellsIn.set {adr : List Addr} {cells : Ow} (C : CellsIn adr cells) (a : Addr) (v : Option Value) : CellsIn adr (setT a (.cell v) cells) :=
  ⟨(setT_fst _ _ _).trans C.1, fun p hp => by
    rcases mem_setT hp with ⟨rfl, _⟩ | ⟨hp, _⟩
    · exact ⟨v, rfl⟩
    · exact C.2 p hp⟩
/-- what of the names ahead a block sees -/
noncomputable def VisR (env cenv : Env) (ρ ρv : Rho) : Prop := ∀ p ∈ ρv, ρ.lookup p.1 = some p.2 ∧ p.2.plain = true ∧ (cenv.kindOf p.1 = some .cell ∨ cenv.kindOf p.1 = some .free) ∧ (env.kindOf p.1 = some .cell ∨ env.kindOf p.1 = some .free) ∧ cenv.cells.lookup p.1 = env.cells.lookup p.1
/-- the tests of a turn and its element -/
inductive TurnV (w : World) (x : Cx) (cenv : Env) (ρ : Rho) (elt : PySem.Expr) : List PySem.Expr → Option AV → Prop
  | all {v : AV} : EV w x cenv ρ elt v → TurnV w x cenv ρ elt [] (some v)
  | yes {c : PySem.Expr} {v : AV} : EB w x cenv ρ c true → EV w x cenv ρ elt v → TurnV w x cenv ρ elt [c] (some v)
  | no {c : PySem.Expr} : EB w x cenv ρ c false → TurnV w x cenv ρ elt [c] none
section
variable {w : World} {x : Cx} {env : Env} {ρ ρv : Rho}
theorem TurnV.run {cenv : Env} {ρ : Rho} {elt : PySem.Expr} {ifs : List PySem.Expr} {r : Option AV} (H : TurnV w x cenv ρ elt ifs r) {G : Fz} {T : Ow} {s : Shared} {Q : Value → Shared → Prop} {Qn : Shared → Prop} {E : Value → Shared → Prop} (S : Ok x cenv ρ G T s.heap)
    (k : ∀ av v h' tk' G', r = some av → Fz.le G G' → Ok x cenv ρ G' T h' → VR G' v av → Q v { s with heap := h', toks := tk' })
    (kn : ∀ h' tk' G', r = none → Fz.le G G' → Ok x cenv ρ G' T h' → Qn { s with heap := h', toks := tk' }) :
    wpAny (model pg w) x.A (forIn ifs true fun c r => if r = true then do let ok ← isTrue c cenv (eval c cenv); pure (ForInStep.yield ok) else pure (ForInStep.yield r)) (fun ok s₃ =>
      if ok = true then wpAny (model pg w) x.A (eval elt cenv) Q E s₃ else Qn s₃) E s := by
  cases H with
  | all he =>
    refine wpAny_tests_nil ?_
    simp only [if_true]
    exact he G T s _ _ S fun v h' tk' G' l S' r => k _ v h' tk' G' rfl l S' r
  | yes hc he =>
    refine wpAny_tests_one (hc G T s _ _ S fun h1 tk1 G1 l1 S1 => ?_)
    simp only [if_true]
    exact he G1 T _ _ _ S1 fun v h' tk' G' l S' r => k _ v h' tk' G' rfl (l1.tr l) S' r
  | no hc =>
    refine wpAny_tests_one (hc G T s _ _ S fun h1 tk1 G1 l1 S1 => ?_)
    simp only [Bool.false_eq_true, if_false]
    exact kn h1 tk1 G1 rfl l1 S1
/-- a block's frame with its variable given -/
theorem block_put {ρl : Rho} {scope : Scope} {cl : List (Str × Addr)} {C D I : Addr} {n : Str} {v : Value} {av : AV} {G : Fz} {T cells : Ow} {mC : Str → Option Value} {oI oD : Obj} {s : Shared} {Q : Unit → Shared → Prop} {E : Value → Shared → Prop}
    (g : EnvG env) (hkind : scope.kind = .function) (hin : ∀ p ∈ cl, p ∈ env.cells ∨ p.2 ∈ ownAdr (C + 1) scope.names) (hap : Apt (cEnv scope cl C env)) (hce : ∀ p ∈ env.cells, ∃ v, (p.2, .cell v) ∈ T) (hr : ∀ n av, ρ.lookup n = some av → NR env G T n av) (hv : VisR env (cEnv scope cl C env) ρ ρv)
    (S : OkB x G ((I, .obj oI) :: (C, .ns mC) :: (D, .obj oD) :: (cells ++ T)) s.heap) (hcells : CellsIn (ownAdr (C + 1) scope.names) cells) (hn : (cEnv scope cl C env).kindOf n = some .local ∨ ((cEnv scope cl C env).kindOf n = some .cell ∧ ∃ c, (cEnv scope cl C env).cells.lookup n = some c ∧ c ∈ ownAdr (C + 1) scope.names))
    (hav : VR G v av) (hp : av.plain = true) (hloc : ∀ p ∈ ρl, p.2.plain = true ∧ (cEnv scope cl C env).kindOf p.1 = some .local ∧ ∃ v, mC p.1 = some v ∧ VR G v p.2)
    (k : ∀ mC' cells' h' tk, CellsIn (ownAdr (C + 1) scope.names) cells' → (∀ y, y ≠ n → mC' y = mC y) → Ok x (cEnv scope cl C env) ((n, av) :: (ρl ++ ρv)) G ((I, .obj oI) :: (C, .ns mC') :: (D, .obj oD) :: (cells' ++ T)) h' → Q () { s with heap := h', toks := tk }) :
    wpAny (model pg w) x.A (storeName (cEnv scope cl C env) n v) Q E s := by
  have nd := S.st.nd
  simp only [List.map_cons, List.nodup_cons, List.mem_cons, not_or, List.map_append, List.mem_append] at nd
  obtain ⟨⟨nIC, nID, nIc, nIT⟩, ⟨nCD, nCc, nCT⟩, ⟨nDc, nDT⟩, nd⟩ := nd
  have neT : ∀ {a : Addr} {U : Ow}, a ∉ U.map (·.1) → ∀ p ∈ U, p.1 ≠ a := fun h p hp e => h (List.mem_map.mpr ⟨p, hp, e⟩)
  have hnd := List.nodup_append.mp nd
  have hcell : ∀ c ∈ ownAdr (C + 1) scope.names, ∃ v₀, (c, Sp.cell v₀) ∈ cells := fun c hc => by
    rw [← hcells.1] at hc
    obtain ⟨p, hp, rfl⟩ := List.mem_map.mp hc
    obtain ⟨v, e⟩ := hcells.2 p hp
    exact ⟨v, by rw [← e]; exact hp⟩
  have gC : EnvG (cEnv scope cl C env) := ⟨hkind, g.gl, g.bu⟩
  -- an empty reading first
  have memT : ∀ {p : Addr × Sp}, p ∈ T → p ∈ (I, Sp.obj oI) :: (C, .ns mC) :: (D, .obj oD) :: (cells ++ T) := fun h => List.mem_cons_of_mem _ (List.mem_cons_of_mem _ (List.mem_cons_of_mem _ (List.mem_append.mpr (.inr h))))
  have memc : ∀ {p : Addr × Sp}, p ∈ cells → p ∈ (I, Sp.obj oI) :: (C, .ns mC) :: (D, .obj oD) :: (cells ++ T) := fun h => List.mem_cons_of_mem _ (List.mem_cons_of_mem _ (List.mem_cons_of_mem _ (List.mem_append.mpr (.inl h))))
  have S0 : Ok x (cEnv scope cl C env) (ρl ++ ρv) G ((I, .obj oI) :: (C, .ns mC) :: (D, .obj oD) :: (cells ++ T)) s.heap := by
    refine { S with eg := gC, ap := hap, ce := fun p hp => ?_, lo := ⟨mC, List.mem_cons_of_mem _ (List.mem_cons_self ..)⟩, rho := fun y b e => ?_ }
    · rcases cellsFrom_of _ _ _ _ hp with hp | hp
      · rcases hin p hp with hp | hp
        · obtain ⟨v, hm⟩ := hce p hp
          exact ⟨v, memT hm⟩
        · obtain ⟨v, hm⟩ := hcell _ hp
          exact ⟨v, memc hm⟩
      · obtain ⟨v, hm⟩ := hcell _ hp
        exact ⟨v, memc hm⟩
    · rcases List.mem_append.mp (mem_of_lookup e) with hm | hm
      · obtain ⟨h2, h3, u, hu, V⟩ := hloc _ hm
        have z : ∃ u, Reads (cEnv scope cl C env) ((I, .obj oI) :: (C, .ns mC) :: (D, .obj oD) :: (cells ++ T)) y u ∧ VR G u b := ⟨u, .inl ⟨h3, mC, List.mem_cons_of_mem _ (List.mem_cons_self ..), hu⟩, V⟩
        cases b <;> first | exact z | cases h2
      have hy := hv _ hm
      obtain ⟨h1, h2, h3, h4, h5⟩ := hy
      obtain ⟨u, R, V⟩ := NR.val h2 (hr y b h1)
      have z : ∃ u, Reads (cEnv scope cl C env) ((I, .obj oI) :: (C, .ns mC) :: (D, .obj oD) :: (cells ++ T)) y u ∧ VR G u b := by
        rcases R with ⟨k, _⟩ | ⟨_, c, hc, hm⟩
        · dsimp only at h4; rw [k] at h4; rcases h4 with h4 | h4 <;> cases h4
        · exact ⟨u, .inr ⟨h3, c, h5.trans hc, memT hm⟩, V⟩
      cases b <;> first | exact z | cases h2
  refine storeV S gC (hn.imp (fun h => ⟨h, S0.lo⟩) fun ⟨h, c, hc, hm⟩ => by obtain ⟨v₀, hm⟩ := hcell c hm; exact ⟨h, c, v₀, hc, memc hm⟩) fun T' h' tk P S' => ?_
  have S1 := S0.put P S' hav hp
  rcases P with ⟨hl, m, hm, rfl⟩ | ⟨hl, c, v₀, hc, hm, rfl⟩
  · have e : setT (cEnv scope cl C env).locals (.ns fun y => if y = n then some v else m y) ((I, .obj oI) :: (C, .ns mC) :: (D, .obj oD) :: (cells ++ T)) = (I, .obj oI) :: (C, .ns fun y => if y = n then some v else m y) :: (D, .obj oD) :: (cells ++ T) := by
      show setT C _ _ = _
      rw [setT_cons_ne nIC, setT_cons_eq]
      intro p hp
      rcases List.mem_cons.mp hp with rfl | hp
      · exact fun e => nCD e.symm
      · rcases List.mem_append.mp hp with hp | hp
        · exact neT nCc p hp
        · exact neT nCT p hp
    rw [e] at S1
    have e2 : m = mC := by
      have z := S.st.one hm (List.mem_cons_of_mem _ (List.mem_cons_self ..))
      cases z; rfl
    exact k _ cells h' tk hcells (fun y hy => by rw [e2]; exact if_neg hy) S1
  · rcases hn with hn | ⟨_, c', hc', hm'⟩
    · rw [hn] at hl; cases hl
    have hcc : c' = c := by rw [hc'] at hc; cases hc; rfl
    subst hcc
    obtain ⟨v₁, hm''⟩ := hcell c' hm'
    have nc : ∀ {a : Addr}, a ∉ cells.map (·.1) → a ≠ c' := fun h e => h (List.mem_map.mpr ⟨_, hm'', e.symm⟩)
    have e : setT c' (.cell (some v)) ((I, .obj oI) :: (C, .ns mC) :: (D, .obj oD) :: (cells ++ T)) = (I, .obj oI) :: (C, .ns mC) :: (D, .obj oD) :: (setT c' (.cell (some v)) cells ++ T) := by
      rw [setT_cons_ne (nc nIc), setT_cons_ne (nc nCc), setT_cons_ne (nc nDc), setT_app]
      intro p hp e
      exact hnd.2.2 c' (List.mem_map.mpr ⟨_, hm'', rfl⟩) p.1 (List.mem_map.mpr ⟨p, hp, rfl⟩) e.symm
    rw [e] at S1
    exact k _ _ h' tk (hcells.set _ _) (fun _ _ => rfl) S1
end
end Mine
end
section
open PySem PySem.W PyProof.Rows PySem.Calls PySem.Spec
set_option Elab.async false
set_option maxRecDepth 100000
namespace Mine
open LCg
theorem take_fm {its : List AV} {F : AV → Option AV} {i : Nat} {av : AV} (h : its[i]? = some av) : (its.take (i + 1)).filterMap F = (its.take i).filterMap F ++ (F av).toList := by
  rw [List.take_add_one, h, List.filterMap_append]
  cases e : F av <;> simp [e]
section
variable {w : World} {x : Cx} {env : Env} {ρ ρv : Rho}
/-- between two turns of a loop that fills a list -/
inductive LoopI (x : Cx) (adr : List Addr) (n : Nat) (s : Shared) (G₁ : Fz) (Si : Nat → Heap → Prop) (Inv : Fz → (Str → Option Value) → Prop) (own : (Str → Option Value) → List Value → Ow → Ow) (as : Nat → List AV) (k : Nat) : Shared → Prop
  | mk {h' : Heap} {tk i : Nat} {ys : List Value} {mC : Str → Option Value} {cells : Ow} {G : Fz} : i ≤ n → k = n + 1 - i → Si i h' → Fz.le G₁ G → CellsIn adr cells → Inv G mC → OkB x G (own mC ys cells) h' → VRs G ys (as i) → LoopI x adr n s G₁ Si Inv own as k { s with heap := h', toks := tk }
/-- a clause gone through, from the values P0 on: the loop -/
theorem vloop {R : Result → Shared → Prop} {target elt : PySem.Expr} {ifs : List PySem.Expr} {cenv : Env} {code : Code} {I C D : Addr} {adr : List Addr} {fp : List Addr} {P : Nat → Value → Prop} {Si : Nat → Heap → Prop} {G₀ G₁ : Fz} {T : Ow} {its : List AV} {s : Shared} {ys₀ : List Value} {as₀ : List AV} (F : AV → Option AV) (Inv : Fz → (Str → Option Value) → Prop) (hIm : ∀ {G G' : Fz} {m : Str → Option Value}, Fz.le G G' → Inv G m → Inv G' m)
    (LP : LoopP pg w x.A R target ifs elt (.ref I) (.ref D) cenv code) (W : Walks pg w x.A I fp [I] its.length P Si) (here : ∀ i h, Si i h → ∃ o, h.get? I = some o) (hfp : ∀ b ∈ fp, b = I ∨ ∃ o, G₁ b o) (hl₀ : Fz.le G₀ G₁) (item : ∀ (i : Nat) (v : Value), i < its.length → P i v → ∃ a, its[i]? = some a ∧ VR G₁ v a)
    (hsz : as₀.length + its.length ≤ 16777216) (now : Si 0 s.heap)
    {mC : Str → Option Value} {cells : Ow} (S : OkB x G₁ ((I, .any) :: (C, .ns mC) :: (D, .obj (lst ys₀)) :: (cells ++ T)) s.heap) (hc : CellsIn adr cells) (hv : VRs G₁ ys₀ as₀) (hI0 : Inv G₁ mC)
    (turn : ∀ (i : Nat) (av : AV), its[i]? = some av → ∀ (v : Value) (oI : Obj) (mC : Str → Option Value) (cells : Ow) (ys : List Value) (G : Fz) (s₁ : Shared) (E' : Value → Shared → Prop) (Q : Value → Shared → Prop) (Qn : Shared → Prop), Fz.le G₁ G → VR G v av → CellsIn adr cells → Inv G mC → OkB x G ((I, .obj oI) :: (C, .ns mC) :: (D, .obj (lst ys)) :: (cells ++ T)) s₁.heap →
      (∀ bv y h' tk' G' mC' cells', F av = some bv → Fz.le G G' → CellsIn adr cells' → Inv G' mC' → OkB x G' ((I, .obj oI) :: (C, .ns mC') :: (D, .obj (lst ys)) :: (cells' ++ T)) h' → VR G' y bv → Q y { s₁ with heap := h', toks := tk' }) →
      (∀ h' tk' G' mC' cells', F av = none → Fz.le G G' → CellsIn adr cells' → Inv G' mC' → OkB x G' ((I, .obj oI) :: (C, .ns mC') :: (D, .obj (lst ys)) :: (cells' ++ T)) h' → Qn { s₁ with heap := h', toks := tk' }) →
      wpAny (model pg w) x.A (assign target cenv v) (fun _ s₂ => wpAny (model pg w) x.A (forIn ifs true fun c r => if r = true then do let ok ← isTrue c cenv (eval c cenv); pure (ForInStep.yield ok) else pure (ForInStep.yield r)) (fun ok s₃ =>
        if ok = true then wpAny (model pg w) x.A (eval elt cenv) Q E' s₃ else Qn s₃) E' s₂) E' s₁)
    (done : ∀ ys G mC cells h tk, Fz.le G₁ G → CellsIn adr cells → Inv G mC → OkB x G ((C, .ns mC) :: (D, .obj (lst ys)) :: (cells ++ T)) h → VRs G ys (as₀ ++ its.filterMap F) → R (.ok .next) { s with heap := h, toks := tk }) :
    codeAny (model pg w) x.A code R s := by
  refine LP
    (LoopI x adr its.length s G₁ Si Inv (fun mC ys cells => (I, .any) :: (C, .ns mC) :: (D, .obj (lst ys)) :: (cells ++ T)) fun i => as₀ ++ (its.take i).filterMap F) ?_ _ (its.length + 1)
    (.mk (h' := s.heap) (i := 0) (Nat.zero_le _) rfl now (Fz.rf _) hc hI0 S (by simpa using hv))
  intro k s' inv
  cases inv with | @mk h' tk i ys mC' cells' G hi hk hst hG hc' hInv S' hys =>
  subst hk
  by_cases hlt : i < its.length
  · refine W.item i _ _ _ hlt hst fun v h₂ tk₂ hP hst₂ hk₂ => ?_
    obtain ⟨av, hav, hvr⟩ := item i v hlt hP
    obtain ⟨oI, heI⟩ := here _ _ hst₂
    have k₂ : ∀ b o, b ≠ I → h'.get? b = some o → h₂.get? b = some o := fun b o hb e => hk₂ b o (fun z => hb (List.mem_singleton.mp z)) e
    have S₂ : OkB x G ((I, .obj oI) :: (C, .ns mC') :: (D, .obj (lst ys)) :: (cells' ++ T)) h₂ := S'.turn (S'.st.turn k₂ heI rfl) (Fz.rf _) (fun _ e => nomatch e) (fun _ e => nomatch e)
    -- the turn's end: back to the state between the turns
    have back : ∀ {G' : Fz} {mC'' : Str → Option Value} {cells'' : Ow} {h₃ : Heap} {ys' : List Value}, Fz.le G G' → OkB x G' ((I, .obj oI) :: (C, .ns mC'') :: (D, .obj (lst ys')) :: (cells'' ++ T)) h₃ → Si (i + 1) h₃ ∧ OkB x G' ((I, .any) :: (C, .ns mC'') :: (D, .obj (lst ys')) :: (cells'' ++ T)) h₃ := by
      intro G' mC'' cells'' h₃ ys' l S₃
      obtain ⟨o₁, e₁, q₁⟩ := S₃.st.own _ (List.mem_cons_self ..)
      cases q₁
      refine ⟨W.frame _ _ _ hst₂ fun b hb o e => ?_, S₃.turn (S₃.st.say e₁ trivial) (Fz.rf _) (fun _ e => nomatch e) (fun _ e => nomatch e)⟩
      rcases hfp b hb with rfl | ⟨o', g⟩
      · dsimp only at e₁
        rw [heI] at e; cases e; exact e₁
      · have z1 := S₂.st.keep _ _ (hG.of _ _ g)
        rw [e] at z1; cases z1
        exact S₃.st.keep _ _ ((hG.tr l).of _ _ g)
    refine turn i av hav v oI mC' cells' ys G _ _ _ _ hG (hvr.mono hG) hc' hInv S₂ (fun bv y h₃ tk₃ G₃ mC₃ cells₃ hF l₃ hc₃ hI₃ S₃ hy => ?_) (fun h₃ tk₃ G₃ mC₃ cells₃ hF l₃ hc₃ hI₃ S₃ => ?_)
    · -- append
      obtain ⟨oD, eD, qD⟩ := S₃.st.own (D, .obj (lst ys)) (List.mem_cons_of_mem _ (List.mem_cons_of_mem _ (List.mem_cons_self ..)))
      cases qD
      have hlen : ys.length ≤ as₀.length + i := by
        rw [hys.length, List.length_append]
        have := List.length_filterMap_le F (its.take i)
        rw [List.length_take] at this
        omega
      refine append_at (hsz := by show ys.toArray.size ≤ sizeLine; rw [List.size_toArray, sizeLine_eq]; omega) eD fun h₅ hs₅ hD₅ => ?_
      have S₅ : OkB x G₃ ((I, .obj oI) :: (C, .ns mC₃) :: (D, .obj (lst (ys ++ [y]))) :: (cells₃ ++ T)) h₅ := by
        have u := S₃.st.upd (a := D) (sp := .obj (lst (ys ++ [y]))) (List.mem_cons_of_mem _ (List.mem_cons_of_mem _ (List.mem_cons_self ..))) (fun b o hb e => hs₅.extBut b o hb e) (hD₅.trans (congrArg some (lst_snoc ys y))) rfl
        have nd := S₃.st.nd
        simp only [List.map_cons, List.nodup_cons, List.mem_cons, not_or] at nd
        have e : setT D (.obj (lst (ys ++ [y]))) ((I, .obj oI) :: (C, .ns mC₃) :: (D, .obj (lst ys)) :: (cells₃ ++ T)) = (I, .obj oI) :: (C, .ns mC₃) :: (D, .obj (lst (ys ++ [y]))) :: (cells₃ ++ T) := by
          rw [setT_cons_ne nd.1.2.1, setT_cons_ne nd.2.1.1, setT_cons_eq]
          intro p hp q
          exact nd.2.2.1 (List.mem_map.mpr ⟨p, hp, q⟩)
        rw [e] at u
        refine S₃.mem u (Fz.rf _) fun a sp hm h1 h2 h3 => ?_
        rcases List.mem_cons.mp hm with q | hm
        · exact List.mem_cons.mpr (.inl q)
        · refine List.mem_cons_of_mem _ ?_
          rcases List.mem_cons.mp hm with q | hm
          · exact List.mem_cons.mpr (.inl q)
          · refine List.mem_cons_of_mem _ ?_
            rcases List.mem_cons.mp hm with q | hm
            · cases q; exact absurd rfl (h1 _)
            · exact List.mem_cons_of_mem _ hm
      obtain ⟨s5, S6⟩ := back l₃ S₅
      exact ⟨its.length + 1 - (i + 1), by omega, .mk hlt rfl s5 (hG.tr l₃) hc₃ hI₃ S6 (by rw [take_fm hav, hF, ← List.append_assoc]; exact (hys.mono l₃).append (.cons hy .nil))⟩
    · obtain ⟨s5, S6⟩ := back l₃ S₃
      exact ⟨its.length + 1 - (i + 1), by omega, .mk hlt rfl s5 (hG.tr l₃) hc₃ hI₃ S6 (by rw [take_fm hav, hF]; simpa using hys.mono l₃)⟩
  · obtain rfl : i = its.length := Nat.le_antisymm hi (Nat.not_lt.mp hlt)
    refine W.done _ _ _ hst fun h₂ tk₂ hk₂ => ?_
    have k₂ : ∀ b o, b ≠ I → h'.get? b = some o → h₂.get? b = some o := fun b o hb e => hk₂ b o (fun z => hb (List.mem_singleton.mp z)) e
    exact done ys G mC' cells' h₂ tk₂ hG hc' hInv (S'.drop1 k₂ (fun _ e => nomatch e) (fun _ e => nomatch e)) (by rw [List.take_length] at hys; exact hys)
end
end Mine
end
section
open PySem PySem.W PyProof.Rows PySem.Calls PySem.Spec
set_option Elab.async false
set_option maxRecDepth 100000
namespace Mine
open LCg
section
variable {w : World} {x : Cx} {env : Env} {ρ ρv : Rho} {G G' : Fz} {T T' : Ow} {h h' : Heap} {a : Addr} {o : Obj}
theorem OkB.drop2 {sp : Sp} (S : OkB x G ((a, sp) :: T) h) (hk : ∀ b o, b ≠ a → h.get? b = some o → h'.get? b = some o) (hf : ∀ o, sp ≠ .fix o) (hfr : ∃ m, (x.L, .ns m) ∈ T) : OkB x G T h' := by
  refine ⟨S.st.drop1 hk, fun b o e => (S.base b o e).imp id fun hm => ?_, hfr⟩
  rcases List.mem_cons.mp hm with q | hm
  · cases q; exact absurd rfl (hf o)
  · exact hm
theorem OkB.freeze (S : OkB x G ((a, .obj o) :: T) h) (hfr : ∃ m, (x.L, .ns m) ∈ T) : OkB x (G.add a o) T h := by
  refine ⟨S.st.freeze, fun b o' e => ?_, hfr⟩
  rcases S.base b o' e with g | hm
  · exact .inl (.inl g)
  · rcases List.mem_cons.mp hm with q | hm
    · cases q
    · exact .inr hm
/-- more of one's own -/
theorem Ok.more (S : Ok x env ρ G T h) {N : Ow} (S' : OkB x G' (N ++ T) h') (hG : Fz.le G G') : Ok x env ρ G' (N ++ T) h' := by
  refine { S' with eg := S.eg, ap := S.ap, ce := fun p hp => ?_, lo := ?_, rho := fun n av e => ?_ }
  · obtain ⟨v, m⟩ := S.ce p hp
    exact ⟨v, List.mem_append_right _ m⟩
  · obtain ⟨v, m⟩ := S.lo
    exact ⟨v, List.mem_append_right _ m⟩
  · have rd : ∀ {v : Value}, Reads env T n v → Reads env (N ++ T) n v := fun r => r.imp (fun ⟨k, m, hm, e⟩ => ⟨k, m, List.mem_append_right _ hm, e⟩) fun ⟨k, c, hc, hm⟩ => ⟨k, c, hc, List.mem_append_right _ hm⟩
    have N₁ := (S.rho n av e).mono hG
    cases av with
    | own xs => obtain ⟨a, vs, k, r, m, q⟩ := N₁; exact ⟨a, vs, k, rd r, List.mem_append_right _ m, q⟩
    | ownd w es => obtain ⟨a, o, kvs, r, m, q⟩ := N₁; exact ⟨a, o, kvs, rd r, List.mem_append_right _ m, q⟩
    | _ => obtain ⟨v, r, q⟩ := N₁; exact ⟨v, rd r, q⟩
theorem Ok.more1 (S : Ok x env ρ G T h) {p : Addr × Sp} (S' : OkB x G' (p :: T) h') (hG : Fz.le G G') : Ok x env ρ G' (p :: T) h' := S.more (N := [p]) S' hG
theorem comp_perm (a b c : Addr × Sp) (U V : Ow) : List.Perm ((b :: U) ++ (c :: a :: V)) (a :: b :: c :: (U ++ V)) := by
  have h1 : List.Perm (U ++ (c :: a :: V)) (c :: a :: (U ++ V)) := (List.perm_middle).trans ((List.perm_middle).cons c)
  exact ((h1.cons b).trans ((List.Perm.swap a c _).cons b)).trans (List.Perm.swap a b _)
/-- a comprehension of one clause, from its iterator on -/
theorem vblock {elt iter : PySem.Expr} {n : Str} {px : Pos} {ifs : List PySem.Expr} {scope : Scope} {cl : List (Str × Addr)} {pos : Pos} {I : Addr} {fp : List Addr} {P : Nat → Value → Prop} {Si : Nat → Heap → Prop} {its : List AV} {s : Shared} {hb : Heap} {E : Value → Shared → Prop} {RR : Value → Addr → Result → Shared → Prop} (F : AV → Option AV)
    (S : Ok x env ρ G T hb) (It : Iter w x G its hb I fp P Si s.heap) (hlen : its.length ≤ 16777216) (hpl : ∀ av ∈ its, av.plain = true)
    (hkind : scope.kind = .function) (hcl : ∀ p ∈ cl, p ∈ env.cells) (hcn : (cl.map (·.1)).Nodup)
    (hv : ∀ C, VisR env (cEnv scope cl C env) ρ ρv) (hn : ∀ C, (cEnv scope cl C env).kindOf n = some .local ∨ ((cEnv scope cl C env).kindOf n = some .cell ∧ ∃ c, (cEnv scope cl C env).cells.lookup n = some c ∧ c ∈ ownAdr (C + 1) scope.names))
    (hturn : ∀ C, ∀ av ∈ its, TurnV w x (cEnv scope cl C env) ((n, av) :: ρv) elt ifs (F av))
    (hRR : ∀ D C mC G' h tk, Fz.le G G' → Ok x env ρ G' ((C, .ns mC) :: T) h → VR G' (.ref D) (.list (its.filterMap F)) → RR (.ref D) C (.ok .next) { s with heap := h, toks := tk }) :
    wpAny (model pg w) x.A (newList []) (fun acc s₃ => wpAny (model pg w) x.A (newFunctionEnv scope env.globals cl [] env.qual none .none (some env)) (fun cenv s₄ =>
      codeAny (model pg w) x.A (.compStart (.ListComp elt [⟨.Name n px, iter, ifs, 0⟩] scope pos) 0 (.ref I) acc { cenv with scope := relabel scope env }) (RR acc cenv.locals) s₄) E s₃) E s := by
  refine wpAny_newObj_type (newEnv_comp ?_)
  dsimp only
  generalize hH2 : s.heap.push { cls := .type "list", dict := none, data := .seq ([] : List Value).toArray } = H2
  have hC : H2.objs.size = s.heap.objs.size + 1 := by rw [← hH2, Heap.size_push]
  generalize hH3 : H2.push { cls := .type "dict", data := .dict #[] } = H3
  have hC3 : H3.objs.size = H2.objs.size + 1 := by rw [← hH3, Heap.size_push]
  obtain ⟨oI, heI⟩ := It.here _ _ It.now
  have hbn : hb.get? I = none := by rw [It.new]; exact none_size hb
  have S1 : St G ((I, .any) :: T) s.heap := S.st.cons It.keep heI hbn trivial
  have S2 : St G ((s.heap.objs.size, .obj (lst [])) :: (I, .any) :: T) H2 := hH2 ▸ S1.consPush _ rfl
  have old : ∀ b o, H2.get? b = some o → (pushCells H3 scope.names).get? b = some o := fun b o e => pushCells_keeps _ _ _ _ (hH3 ▸ Heap.get?_push_of_some _ e)
  have old' : ∀ b o, s.heap.get? b = some o → (pushCells H3 scope.names).get? b = some o := fun b o e => old b o (hH2 ▸ Heap.get?_push_of_some _ e)
  have nC : (pushCells H3 scope.names).Ns H2.objs.size (fun _ => none) := (hH3 ▸ Heap.Ns.new H2 (.type "dict")).keeps (pushCells_keeps _ _)
  have hcadr : ∀ b ∈ ownAdr (H2.objs.size + 1) scope.names, (pushCells H3 scope.names).get? b = some cell0 ∧ H2.objs.size + 1 ≤ b := fun b hb => by
    have z := ownAdr_at scope.names H3 b (by rw [hC3]; exact hb)
    rw [hC3] at z
    exact z
  have S3 : St G (((H2.objs.size, .ns fun _ => none) :: (ownAdr (H2.objs.size + 1) scope.names).map fun b => (b, Sp.cell none)) ++ ((s.heap.objs.size, .obj (lst [])) :: (I, .any) :: T)) (pushCells H3 scope.names) := by
    refine S2.many old _ (fun p hp => ?_) ?_
    · rcases List.mem_cons.mp hp with rfl | hp
      · obtain ⟨o, ho, q⟩ := ns_obj nC
        exact ⟨Nat.le_refl _, o, ho, q⟩
      · obtain ⟨b, hb, rfl⟩ := List.mem_map.mp hp
        exact ⟨Nat.le_of_succ_le (hcadr b hb).2, cell0, (hcadr b hb).1, rfl⟩
    · rw [List.map_cons, List.map_map]
      have e : ((fun p : Addr × Sp => p.1) ∘ fun b => (b, Sp.cell none)) = id := rfl
      rw [e, List.map_id]
      exact List.nodup_cons.mpr ⟨fun hm => absurd (hcadr _ hm).2 (Nat.not_succ_le_self _), ownAdr_nd _ _⟩
  have S4 := S3.perm (comp_perm _ _ _ _ _)
  have S5 : OkB x G ((I, .any) :: (H2.objs.size, .ns fun _ => none) :: (s.heap.objs.size, .obj (lst [])) :: ((ownAdr (H2.objs.size + 1) scope.names).map (fun b => (b, Sp.cell none)) ++ T)) (pushCells H3 scope.names) :=
    S.toOkB.mem S4 (Fz.rf _) fun a sp hm _ _ _ => List.mem_cons_of_mem _ (List.mem_cons_of_mem _ (List.mem_cons_of_mem _ (List.mem_append_right _ hm)))
  have hci : CellsIn (ownAdr (H2.objs.size + 1) scope.names) ((ownAdr (H2.objs.size + 1) scope.names).map fun b => (b, Sp.cell none)) := ⟨by rw [List.map_map]; exact List.map_id _, fun p hp => by obtain ⟨b, hb, rfl⟩ := List.mem_map.mp hp; exact ⟨none, rfl⟩⟩
  have hst₁ : Si 0 (pushCells H3 scope.names) := It.W.frame _ _ _ It.now fun b _ o e => old' b o e
  have hap : Apt (cEnv scope cl H2.objs.size env) := cellsFrom_nd _ _ _ (cl_nd S.ap hcl hcn) fun p hp => by
    obtain ⟨v, hm⟩ := S.ce p (hcl p hp)
    have z : @LT.lt Nat _ p.2 hb.objs.size := S.st.lt hm
    have z2 : @LT.lt Nat _ I s.heap.objs.size := It.lt
    have z3 : @Eq Nat I hb.objs.size := It.new
    show @LT.lt Nat _ _ _
    omega
  refine codeAny_compStart_list ?_ (It.W.self 0 _ _ _ hst₁ ?_)
  all_goals
    refine vloop (cenv := cEnv scope cl H2.objs.size env) (C := H2.objs.size) (I := I) (D := s.heap.objs.size) (adr := ownAdr (H2.objs.size + 1) scope.names) (fp := fp) (P := P) (G₀ := G) (G₁ := G) (T := T) (its := its) (ys₀ := []) (as₀ := []) F (fun _ _ => True) (fun _ h => h) (fun Inv tr s n h => codeAny_compLoop_tests Inv tr n h (fun _ => rfl)) It.W It.here It.fp (Fz.rf _) It.item (by simpa using hlen) hst₁ S5 hci .nil trivial ?_ ?_
    · intro i av hi v oI mC cells ys G1 s₁ E' Q Qn hG hvr hc _ S' k kn
      have hmem : av ∈ its := List.mem_of_getElem? hi
      refine wpAny_assign_Name (block_put (ρl := []) (ρ := ρ) (ρv := ρv) S.eg hkind (fun p hp => .inl (hcl p hp)) hap S.ce (fun n av e => (S.rho n av e).mono hG) (hv _) S' hc (hn _) hvr (hpl av hmem) (fun _ h => nomatch h) fun mC' cells' h' tk hc' _ S'' => ?_)
      exact (hturn _ av hmem).run S'' (fun bv y h2 tk2 G2 e l S2 r => k bv y h2 tk2 G2 mC' cells' e l hc' trivial S2.toOkB r) fun h2 tk2 G2 e l S2 => kn h2 tk2 G2 mC' cells' e l hc' trivial S2.toOkB
    · intro ys G1 mC cells h tk hG hc _ S' hys
      have hfr := S.fr
      have sub : List.Sublist ((s.heap.objs.size, Sp.obj (lst ys)) :: (H2.objs.size, .ns mC) :: T) ((s.heap.objs.size, Sp.obj (lst ys)) :: (H2.objs.size, .ns mC) :: (cells ++ T)) := List.Sublist.cons_cons _ (List.Sublist.cons_cons _ (List.sublist_append_right ..))
      have Sa : St G1 ((s.heap.objs.size, Sp.obj (lst ys)) :: (H2.objs.size, .ns mC) :: T) h := (S'.st.swap).sub sub
      have Sb : OkB x G1 ((s.heap.objs.size, Sp.obj (lst ys)) :: (H2.objs.size, .ns mC) :: T) h := S'.mem Sa (Fz.rf _) fun a sp hm h1 h2 h3 => by
        rcases List.mem_cons.mp hm with q | hm
        · rw [q]; exact List.mem_cons_of_mem _ (List.mem_cons_self ..)
        · rcases List.mem_cons.mp hm with q | hm
          · cases q; exact absurd rfl (h1 _)
          · rcases List.mem_append.mp hm with hm | hm
            · obtain ⟨v, e⟩ := hc.2 _ hm
              exact absurd e (h3 v)
            · exact List.mem_cons_of_mem _ (List.mem_cons_of_mem _ hm)
      have Sc := Sb.freeze (let ⟨m, hm⟩ := hfr; ⟨m, List.mem_cons_of_mem _ hm⟩)
      refine hRR _ _ mC _ h tk (hG.tr (Fz.le_add G1 _ _)) (S.more1 Sc (hG.tr (Fz.le_add G1 _ _))) (.list (.inr ⟨rfl, rfl⟩) rfl ⟨rfl, rfl⟩ rfl (VRs.mono (Fz.le_add G1 _ _) (by simpa using hys)))
end
end Mine
end
section
open PySem PySem.W PyProof.Rows PySem.Calls PySem.Spec
set_option Elab.async false
set_option maxRecDepth 100000
namespace Mine
open LCg
theorem prime8 (w : World) : (kk.heap_1 w.params = kk.heap_1 w.params) ∧ PySem.Challenge.rw_wn0104_01 = PySem.Challenge.rw_wn0104_01 := by
  k_fill
  exact ⟨rfl, rfl⟩
/-- a name of the top -/
noncomputable def GN (w : World) (n : Str) (v : Value) : Prop := (nsIn (kk.heap_1 w.params) mainGlobals n = some (some v)) ∨ (nsIn (kk.heap_1 w.params) mainGlobals n = some none ∧ bootBuiltins n = some v ∧ n ≠ "__name__")
theorem gn_len (w : World) : GN w (Str.ofString "len") (.builtin "len") := .inr ⟨by k_is, by boot_fast, by decide⟩
theorem gn_sum (w : World) : GN w (Str.ofString "sum") (.builtin "sum") := .inr ⟨by k_is, by boot_fast, by decide⟩
theorem gn_max (w : World) : GN w (Str.ofString "max") (.builtin "max") := .inr ⟨by k_is, by boot_fast, by decide⟩
theorem gn_sorted (w : World) : GN w (Str.ofString "sorted") (.builtin "sorted") := .inr ⟨by k_is, by boot_fast, by decide⟩
theorem gn_range (w : World) : GN w (Str.ofString "range") (.type "range") := .inr ⟨by k_is, by boot_fast, by decide⟩
theorem gn_enumerate (w : World) : GN w (Str.ofString "enumerate") (.type "enumerate") := .inr ⟨by k_is, by boot_fast, by decide⟩
theorem gn_order (w : World) : GN w (Str.ofString "_law_order") (.ref 117) := .inl (by k_is)
theorem gn_lev (w : World) : GN w (Str.ofString "_levenshtein_distance") (.ref 91) := .inl (by k_is)
theorem gn_term (w : World) : GN w (Str.ofString "ISTERMINAL") (.ref 70) := .inl (by k_is)
theorem gn_nonterm (w : World) : GN w (Str.ofString "ISNONTERMINAL") (.ref 77) := .inl (by k_is)
theorem gn_parse (w : World) : GN w (Str.ofString "parse257") (.ref 60) := .inl (by k_is)
theorem gn_marks (w : World) : GN w (Str.ofString "_law_marks") (.ref 105) := .inl (by k_is)
theorem gn_refused (w : World) : GN w (Str.ofString "_law_refused") (.ref 98) := .inl (by k_is)
theorem gn_rises (w : World) : GN w (Str.ofString "_law_rises") (.ref 110) := .inl (by k_is)
theorem gn_rows (w : World) : GN w (Str.ofString "_law_rows") (.ref 122) := .inl (by k_is)
theorem gn_roads (w : World) : GN w (Str.ofString "_law_roads") (.ref 127) := .inl (by k_is)
theorem gn_group (w : World) : GN w (Str.ofString "_grouping_intervals") (.ref 28) := .inl (by k_is)
/-- an evaluation of its own, to a value known -/
noncomputable def EX (w : World) (x : Cx) (env : Env) (ρ : Rho) (e : PySem.Expr) (v : Value) : Prop :=
  ∀ (G : Fz) (T : Ow) (s : Shared) (Q : Value → Shared → Prop) (E : Value → Shared → Prop), Ok x env ρ G T s.heap → Q v s → wpAny (model pg w) x.A (eval e env) Q E s
/-- a list of expressions -/
noncomputable def EVL (w : World) (x : Cx) (env : Env) (ρ : Rho) (pos : Pos) (es : List PySem.Expr) (avs : List AV) : Prop :=
  ∀ (G : Fz) (T : Ow) (s : Shared) (Q : List Value → Shared → Prop) (E : Value → Shared → Prop), Ok x env ρ G T s.heap →
    (∀ vs h' tk' G', Fz.le G G' → Ok x env ρ G' T h' → VRs G' vs avs → Q vs { s with heap := h', toks := tk' }) → wpAny (model pg w) x.A (spliced (backTo pos (starEach es env))) Q E s
/-- a call on values -/
noncomputable def CallV (w : World) (x : Cx) (f : Value) (avs : List AV) (av : AV) : Prop :=
  ∀ (G : Fz) (T : Ow) (s : Shared) (Q : Value → Shared → Prop) (E : Value → Shared → Prop) (vs : List Value), OkB x G T s.heap → VRs G vs avs → KV x G T s av Q → wpAny (model pg w) x.A (call f vs) Q E s
section
variable {w : World} {x : Cx} {env : Env} {ρ ρv : Rho} {pos : Pos}
theorem EX_glob {n : Str} {p : Pos} {v : Value} (hx : x.Ok w) (g : GN w n v) (hk : env.kindOf n = some .globalImplicit) (hd : (n == ("__debug__" : Str)) = false := by decide) : EX w x env ρ (.Name n p) v := fun G T s Q E S h => by
  obtain ⟨m, hm, F, N⟩ := S.toOkB.fn hx.above
  rcases g with g | ⟨g, hb, hn⟩
  · exact gName_K F hx.K (topRead_of hx.Tp) g h S.eg.gl S.eg.kind hk hd
  · exact gName_B F hx.K (topRead_of hx.Tp) g hb hn h S.eg.gl S.eg.bu S.eg.kind hk hd
theorem EVL_nil : EVL w x env ρ pos [] [] := fun G T s Q E S k => spliced_nil (k [] s.heap s.toks G (Fz.rf _) S .nil)
theorem EVL_cons {e : PySem.Expr} {es : List PySem.Expr} {av : AV} {avs : List AV} (he : EV w x env ρ e av) (hes : EVL w x env ρ pos es avs) (hs : starEach (e :: es) env = (false, eval e env) :: starEach es env := by rfl) : EVL w x env ρ pos (e :: es) (av :: avs) := fun G T s Q E S k => by
  rw [hs]
  refine spliced_cons (he G T s _ _ S fun v h1 tk1 G1 l1 S1 r1 => ?_)
  exact hes G1 T _ _ _ S1 fun vs h2 tk2 G2 l2 S2 r2 => k (v :: vs) h2 tk2 G2 (l1.tr l2) S2 (.cons (r1.mono l2) r2)
theorem EV_list {es : List PySem.Expr} {p : Pos} {avs : List AV} (h : EVL w x env ρ p es avs) (hl : avs.length ≤ 1000) : EV w x env ρ (.List es p) (.list avs) := fun G T s Q E S k => by
  refine List_ (h G T s _ _ S fun vs h1 tk1 G1 l1 S1 r1 => ?_)
  refine wpAny_newList (hsz := by rw [r1.length, sizeLine_eq]; omega) (k _ _ _ _ (l1.tr (Fz.le_add G1 _ _)) (S1.to (Fz.le_add G1 _ _) (S1.st.addPush _)) (.list (.inr ⟨rfl, rfl⟩) rfl ⟨rfl, rfl⟩ rfl (r1.mono (Fz.le_add G1 _ _))))
theorem EV_tup {es : List PySem.Expr} {k : Nat} {p : Pos} {avs : List AV} (h : EVL w x env ρ p es avs) (hl : avs.length ≤ 1000) : EV w x env ρ (.Tuple es k p) (.tup avs) := fun G T s Q E S kk => by
  refine Tuple_ (h G T s _ _ S fun vs h1 tk1 G1 l1 S1 r1 => ?_)
  refine wpAny_newTuple (hsz := by rw [r1.length, sizeLine_eq]; omega) (kk _ _ _ _ (l1.tr (Fz.le_add G1 _ _)) (S1.to (Fz.le_add G1 _ _) (S1.st.addPush _)) (.tup (.inr ⟨rfl, rfl⟩) rfl rfl (r1.mono (Fz.le_add G1 _ _))))
theorem EV_callB {n : Str} {p : Pos} {id : String} {e : PySem.Expr} {es : List PySem.Expr} {avs : List AV} {av : AV} (hf : EX w x env ρ (.Name n p) (.builtin id)) (ha : EVL w x env ρ pos (e :: es) avs) (hc : CallV w x (.builtin id) avs av)
    (hs : starEach (e :: es) env = (false, eval e env) :: starEach es env := by rfl) (hp : (backTo pos (starEach es env)).any (·.1) = false := by rfl) : EV w x env ρ (.Call (.Name n p) (e :: es) [] pos) av := fun G T s Q E S k => by
  refine Call_Name rfl (hf G T s _ _ S ?_)
  refine callWith_builtin1 (ha G T s _ _ S fun vs h1 tk1 G1 l1 S1 r1 => ?_) hs hp
  exact hc G1 T _ _ _ vs S1.toOkB r1 fun v h2 tk2 G2 l2 S2 r2 => k v h2 tk2 G2 (l1.tr l2) (S1.toR l2 S2) r2
theorem EV_callT {n : Str} {p : Pos} {id : String} {e : PySem.Expr} {es : List PySem.Expr} {avs : List AV} {av : AV} (hf : EX w x env ρ (.Name n p) (.type id)) (ha : EVL w x env ρ pos (e :: es) avs) (hc : CallV w x (.type id) avs av)
    (hs : starEach (e :: es) env = (false, eval e env) :: starEach es env := by rfl) (hp : (backTo pos (starEach es env)).any (·.1) = false := by rfl) : EV w x env ρ (.Call (.Name n p) (e :: es) [] pos) av := fun G T s Q E S k => by
  refine Call_Name rfl (hf G T s _ _ S ?_)
  refine PyProof.Rows.callWith_type1 (ha G T s _ _ S fun vs h1 tk1 G1 l1 S1 r1 => ?_) hs hp
  exact hc G1 T _ _ _ vs S1.toOkB r1 fun v h2 tk2 G2 l2 S2 r2 => k v h2 tk2 G2 (l1.tr l2) (S1.toR l2 S2) r2
theorem EV_callF {n : Str} {p : Pos} {a : Addr} {o : Obj} {fd : FuncData} {e : PySem.Expr} {es : List PySem.Expr} {avs : List AV} {av : AV} (hx : x.Ok w) (hf : EX w x env ρ (.Name n p) (.ref a)) (ha : EVL w x env ρ pos (e :: es) avs) (hc : CallV w x (.ref a) avs av)
    (ho : (kk.heap_1 w.params).lookup a = some o) (hd : o.data = .func fd) (hs : starEach (e :: es) env = (false, eval e env) :: starEach es env := by rfl) : EV w x env ρ (.Call (.Name n p) (e :: es) [] pos) av := fun G T s Q E S k => by
  refine Call_Name rfl (hf G T s _ _ S ?_)
  refine callWith_function (o := o) (fd := fd) ?_
  rw [hs]
  refine evalArgs_plain ?_
  have ha' := ha
  unfold EVL at ha'
  rw [hs] at ha'
  refine ha' G T s _ _ S fun vs h1 tk1 G1 l1 S1 r1 => ?_
  refine ⟨⟨S1.toOkB.keep (hx.K _ _ ho), hd⟩, ?_⟩
  simp only [List.nil_append]
  exact hc G1 T _ _ _ vs S1.toOkB r1 fun v h2 tk2 G2 l2 S2 r2 => k v h2 tk2 G2 (l1.tr l2) (S1.toR l2 S2) r2
-- what is taken out
theorem EV_item {v i : PySem.Expr} {p : Pos} {xs : List AV} {k : Int} {av : AV} (hv : EV w x env ρ v (.list xs)) (hi : EV w x env ρ i (.int k)) (h0 : 0 ≤ k) (hx : xs[k.toNat]? = some av) (hf : k < 2 ^ 63)
    (hs : ∀ (o j : Value), subscripted i false o j = operate [o, j] (getItem o j) := by intro _ _; with_unfolding_all rfl) : EV w x env ρ (.Subscript v i p) av := fun G T s Q E S kk => by
  refine Subscript_ (hv G T s _ _ S fun v1 h1 tk1 G1 l1 S1 r1 => ?_)
  refine hi G1 T _ _ _ S1 fun v2 h2 tk2 G2 l2 S2 r2 => ?_
  cases r1 with | list g c d e q =>
  cases r2 with | int _ t =>
  have hl := isListG (s := ⟨h2, s.gens, s.drawn, tk2, s.os⟩) S2.st (l2.of _ _ g) c e
  obtain ⟨u, hu, hr⟩ := q.get' hx
  exact subscriptTail_builtinR hl.typeIs slot_list_getitem.lookup (wpAny_getItem_list hl h0 hf (by simpa using hu) ⟨rfl, kk _ _ _ G2 (l1.tr l2) S2 (hr.mono l2)⟩) (hs _ _)
theorem EV_itemN {v i : PySem.Expr} {p : Pos} {xs : List AV} {k : Int} {av : AV} (hv : EV w x env ρ v (.list xs)) (hi : EV w x env ρ i (.int k)) (h0 : k < 0) (h1 : -(xs.length : Int) ≤ k) (hx : xs[(k + xs.length).toNat]? = some av) (hf : -(2 ^ 63) ≤ k)
    (hs : ∀ (o j : Value), subscripted i false o j = operate [o, j] (getItem o j) := by intro _ _; with_unfolding_all rfl) : EV w x env ρ (.Subscript v i p) av := fun G T s Q E S kk => by
  refine Subscript_ (hv G T s _ _ S fun v1 h1' tk1 G1 l1 S1 r1 => ?_)
  refine hi G1 T _ _ _ S1 fun v2 h2 tk2 G2 l2 S2 r2 => ?_
  cases r1 with | list g c d e q =>
  cases r2 with | int _ t =>
  have hl := isListG (s := ⟨h2, s.gens, s.drawn, tk2, s.os⟩) S2.st (l2.of _ _ g) c e
  rw [← q.length] at h1 hx
  obtain ⟨u, hu, hr⟩ := q.get' hx
  exact subscriptTail_builtinR hl.typeIs slot_list_getitem.lookup (wpAny_getItem_list_neg hl h0 (by simpa using h1) hf (by simpa using hu) ⟨rfl, kk _ _ _ G2 (l1.tr l2) S2 (hr.mono l2)⟩) (hs _ _)
theorem EV_itemS {v i : PySem.Expr} {p : Pos} {y : Str} {k : Int} (hv : EV w x env ρ v (.str y)) (hi : EV w x env ρ i (.int k)) (hf : fitsSsize k = true) (h1 : -(y.length : Int) ≤ k) (h2 : k < y.length)
    (hs : ∀ (o j : Value), subscripted i false o j = operate [o, j] (getItem o j) := by intro _ _; with_unfolding_all rfl) (ht : ∀ t r, letTemporaryGo v (.str y t) r = pure () := by intro _ _; with_unfolding_all rfl) : EV w x env ρ (.Subscript v i p) (.str (Txt.item y k)) := fun G T s Q E S kk => by
  refine Subscript_ (hv G T s _ _ S fun v1 h1' tk1 G1 l1 S1 r1 => ?_)
  refine hi G1 T _ _ _ S1 fun v2 h2' tk2 G2 l2 S2 r2 => ?_
  cases r1; cases r2
  exact item_str hf h1 h2 (fun _ => kk _ _ _ G2 (l1.tr l2) S2 (.str _ _)) (hs _ _) (ht _)
/-- the ends of a slice -/
inductive EVP (w : World) (x : Cx) (env : Env) (ρ : Rho) : Option PySem.Expr → Option Int → Prop
  | none : EVP w x env ρ none none
  | some {e : PySem.Expr} {i : Int} : EV w x env ρ e (.int i) → EVP w x env ρ (some e) (some i)
theorem EVP.run {e : Option PySem.Expr} {i : Option Int} (H : EVP w x env ρ e i) {G : Fz} {T : Ow} {s : Shared} {Q : Value → Shared → Prop} {E : Value → Shared → Prop} (S : Ok x env ρ G T s.heap)
    (k : ∀ v h' tk' G', Fz.le G G' → Ok x env ρ G' T h' → IsPart v i → Q v { s with heap := h', toks := tk' }) : wpAny (model pg w) x.A (evalPart e env) Q E s := by
  cases H with
  | none => exact wpAny_pure (k _ s.heap s.toks G (Fz.rf _) S .none)
  | some he => exact he G T s _ _ S fun v h1 tk1 G1 l1 S1 r1 => by cases r1; exact k _ h1 tk1 G1 l1 S1 (.int _ _)
noncomputable def pickA {α : Type} (xs : List α) (lo hi st : Option Int) : List α := (sliceRange (sliceBounds lo hi st xs.length).1 (sliceBounds lo hi st xs.length).2.1 (sliceBounds lo hi st xs.length).2.2).filterMap (xs[·]?)
theorem VRs.pick {G : Fz} {vs : List Value} {xs : List AV} (q : VRs G vs xs) : ∀ l : List Nat, VRs G (l.filterMap (vs[·]?)) (l.filterMap (xs[·]?))
  | [] => .nil
  | i :: l => by
    rw [List.filterMap_cons, List.filterMap_cons]
    cases e : vs[i]? with
    | some v => obtain ⟨y, hy, hr⟩ := q.get e; rw [hy]; exact .cons hr (q.pick l)
    | none =>
      have : xs[i]? = none := by rw [List.getElem?_eq_none_iff, ← q.length]; exact List.getElem?_eq_none_iff.mp e
      rw [this]; exact q.pick l
theorem EV_slice {v : PySem.Expr} {lo hi st : Option PySem.Expr} {p p' : Pos} {xs : List AV} {l h k : Option Int} (hx : x.Ok w) (hv : EV w x env ρ v (.list xs)) (hl : EVP w x env ρ lo l) (hh : EVP w x env ρ hi h) (hk : EVP w x env ρ st k) (h0 : k ≠ some 0) (hsz : xs.length ≤ 16777216)
    (hs : ∀ o i : Value, ∃ ops, subscripted (.Slice lo hi st p') false o i = operate ops (getItem o i) := by intro _ _; exact ⟨_, rfl⟩) (ht : ∀ o r, letTemporaryGo v o r = pure () := by intro _ _; rfl) : EV w x env ρ (.Subscript v (.Slice lo hi st p') p) (.list (pickA xs l h k)) := fun G T s Q E S kk => by
  refine Subscript_ (hv G T s _ _ S fun v1 h1 tk1 G1 l1 S1 r1 => ?_)
  refine wpAny_Slice (hl.run S1 fun v2 h2 tk2 G2 l2 S2 p2 => hh.run S2 fun v3 h3 tk3 G3 l3 S3 p3 => hk.run S3 fun v4 h4 tk4 G4 l4 S4 p4 => ?_)
  cases r1 with | @list a o vs n _ g c d e q =>
  have l14 := l2.tr (l3.tr l4)
  have hL := isListG (s := ⟨h4, s.gens, s.drawn, tk4, s.os⟩) S4.st (l14.of _ _ g) c e
  obtain ⟨m, hm, F, N⟩ := S4.toOkB.fn hx.above
  obtain ⟨ops, hops⟩ := hs (.ref a) (.ref h4.objs.size)
  refine slice_list3 (s := ⟨h4, s.gens, s.drawn, tk4, s.os⟩) F N hL p2 p3 p4 h0 (fun h' F' N' => ?_) hops (ht _) (by rw [List.size_toArray, q.length, sizeLine_eq]; exact hsz)
  have S' := S4.toOkB.back1 hm F' N' (none_above (Nat.le_succ _))
  have hp : slicePick vs.toArray l h k = (pickA vs l h k).toArray := by
    unfold slicePick pickA
    simp
  refine kk _ _ _ _ (l1.tr (l14.tr (Fz.le_add G4 _ _))) (S4.toR (Fz.le_add G4 _ _) S') (.list (vs := pickA vs l h k) (n := 0) (.inr ⟨rfl, rfl⟩) rfl ⟨rfl, rfl⟩ (by rw [hp]) (VRs.mono (l14.tr (Fz.le_add G4 _ _)) ?_))
  unfold pickA
  rw [q.length]
  exact q.pick _
end
end Mine
end
section
open PySem PySem.W PyProof.Rows PySem.Calls PySem.Spec
set_option Elab.async false
set_option maxRecDepth 100000
namespace Mine
open LCg
noncomputable abbrev iL (ns : List Int) : List AV := ns.map AV.int
noncomputable abbrev sL (ns : List Str) : List AV := ns.map AV.str
noncomputable abbrev bL (ns : List Bool) : List AV := ns.map AV.bool
theorem VRs.ints {G : Fz} : ∀ {ns : List Int} {vs : List Value}, VRs G vs (iL ns) → IntsAre vs ns
  | [], _, h => by cases h; exact .nil
  | n :: r, _, h => by
    cases h with | cons a b =>
    cases a
    exact .cons _ _ (VRs.ints b)
theorem VRs.strs {G : Fz} : ∀ {ns : List Str} {vs : List Value}, VRs G vs (sL ns) → StrsAre vs ns
  | [], _, h => by cases h; exact .nil
  | n :: r, _, h => by
    cases h with | cons a b =>
    cases a
    exact .cons _ _ (VRs.strs b)
theorem VRs.of_strs {G : Fz} : ∀ {ns : List Str} {vs : List Value}, StrsAre vs ns → VRs G vs (sL ns)
  | _, _, .nil => .nil
  | _, _, .cons _ _ h => .cons (.str _ _) (VRs.of_strs h)
theorem VRs.of_ints {G : Fz} : ∀ {ns : List Int} {vs : List Value}, IntsAre vs ns → VRs G vs (iL ns)
  | _, _, .nil => .nil
  | _, _, .cons _ _ h => .cons (.int _ _) (VRs.of_ints h)
theorem VRs.bools_reads {G : Fz} {h : Heap} : ∀ {bs : List Bool} {vs : List Value}, VRs G vs (bL bs) → ReadsAll h vs (bs.map PyData.bool) []
  | [], _, h => by cases h; exact .nil
  | n :: r, _, h => by
    cases h with | cons a b =>
    cases a
    have := ReadsAll.cons (Reads.bool (h := ‹Heap›) n) (VRs.bools_reads (h := ‹Heap›) b)
    simpa using this
theorem strs_reads {h : Heap} : ∀ {bs : List Str} {vs : List Value}, StrsAre vs bs → ReadsAll h vs (bs.map PyData.str) []
  | _, _, .nil => .nil
  | _, _, .cons n t b => by
    have := ReadsAll.cons (Reads.str (h := h) n t) (strs_reads (h := h) b)
    simpa using this
section
variable {w : World} {x : Cx} {env : Env} {ρ ρv : Rho} {pos : Pos}
theorem EV_sliceS {v : PySem.Expr} {lo hi : Option PySem.Expr} {p p' : Pos} {y : Str} {l h : Option Int} (hx : x.Ok w) (hv : EV w x env ρ v (.str y)) (hl : EVP w x env ρ lo l) (hh : EVP w x env ρ hi h) (hne : l ≠ none ∨ h ≠ none) (hsz : y.length ≤ sizeLine)
    (hs : ∀ o i : Value, subscripted (.Slice lo hi none p') false o i = operate [i, o] (getItem o i) := by intro _ _; rfl) (ht : ∀ o r, letTemporaryGo v o r = pure () := by intro _ _; rfl) : EV w x env ρ (.Subscript v (.Slice lo hi none p') p) (.str (Txt.slice y l h)) := fun G T s Q E S kk => by
  refine Subscript_ (hv G T s _ _ S fun v1 h1 tk1 G1 l1 S1 r1 => ?_)
  refine wpAny_Slice (hl.run S1 fun v2 h2 tk2 G2 l2 S2 p2 => hh.run S2 fun v3 h3 tk3 G3 l3 S3 p3 => wpAny_pure ?_)
  cases r1
  obtain ⟨m, hm, F, N⟩ := S3.toOkB.fn hx.above
  have fin : ∀ h' t' k, Fr x.h₀ x.L h' m → News x.h₀ x.L h' (allNews x.h₀ x.L h3) → Q (.str (Txt.slice y l h) t') { s with heap := h', toks := k } := fun h' t' k F' N' =>
    kk _ _ _ G3 (l1.tr (l2.tr l3)) (S3.toR (Fz.rf _) (S3.toOkB.back (tl := []) hm F' N')) (.str _ _)
  cases p2 <;> cases p3
  · rcases hne with h | h <;> exact absurd rfl h
  · exact slice_strN_ns (s := ⟨h3, s.gens, s.drawn, tk3, s.os⟩) F N fin (hs _ _) (ht _) hsz
  · exact slice_strN_sn (s := ⟨h3, s.gens, s.drawn, tk3, s.os⟩) F N fin (hs _ _) (ht _) hsz
  · exact slice_strN_ss (s := ⟨h3, s.gens, s.drawn, tk3, s.os⟩) F N fin (hs _ _) (ht _) hsz
theorem CallV_len {xs : List AV} (h : xs.length ≤ 16777216) : CallV w x (.builtin "len") [.list xs] (.int xs.length) := fun G T s Q E vs S r k => by
  cases r with | cons a b =>
  cases b
  cases a with | list g c d e q =>
  refine len_list (isListG S.st g c e) (by rw [List.size_toArray, q.length]; omega) ?_
  rw [List.size_toArray, q.length]
  exact k _ _ _ G (Fz.rf _) S (.int _ _)
theorem CallV_lenS {y : Str} (h : y.length ≤ 16777216) : CallV w x (.builtin "len") [.str y] (.int y.length) := fun G T s Q E vs S r k => by
  cases r with | cons a b =>
  cases b
  cases a
  exact SBL.len (by omega) (k _ _ _ G (Fz.rf _) S (.int _ _))
theorem CallV_sum {ns : List Int} : CallV w x (.builtin "sum") [.list (iL ns)] (.int ns.sum) := fun G T s Q E vs S r k => by
  cases r with | cons a b =>
  cases b
  cases a with | list g c d e q =>
  have hi := q.ints
  obtain ⟨xs, e'⟩ := hi.allInts.items
  have hns : ns = xs.toList.map (·.1) := by rw [← hi.numsOf, ← nums_intItems, ← e']
  have hl := isListG S.st g c e
  rw [e'] at hl
  refine sum_intListG x.hh hl fun h' tk t' hk => ?_
  have z : preSum (numAt xs) xs.size = ns.sum := by rw [preSum_eq, List.take_of_length_le (by simp), hns]
  rw [z]
  exact k _ _ _ G (Fz.rf _) (S.to (Fz.rf _) (S.st.ext hk)) (.int _ _)
theorem CallV_max {ns : List Int} {m : Int} (hx : x.Ok w) (hm : m ∈ ns) (hle : ∀ a ∈ ns, a ≤ m) : CallV w x (.builtin "max") [.list (iL ns)] (.int m) := fun G T s Q E vs S r k => by
  cases r with | cons a b =>
  cases b
  cases a with | list g c d e q =>
  obtain ⟨m', hm', F, N⟩ := S.fn hx.above
  refine max_list_N x.hh F N (isListG S.st g c e) q.ints (List.length_pos_of_mem hm) fun h' M t tk F' N' hM hall => ?_
  have : M = m := Int.le_antisymm (hle M hM) (hall m hm)
  subst this
  exact k _ _ _ G (Fz.rf _) (S.back (tl := []) hm' F' N') (.int _ _)
theorem CallV_sorted {ss zs : List Str} (hx : x.Ok w) (hlen : ss.length < 64) (hu : ∀ ss', ss'.Perm ss → sortedS ss' = true → ss' = zs) : CallV w x (.builtin "sorted") [.list (sL ss)] (.list (sL zs)) := fun G T s Q E vs S r k => by
  cases r with | cons a b =>
  cases b
  cases a with | list g c d e q =>
  obtain ⟨m', hm', F, N⟩ := S.fn hx.above
  refine sorted_N_str F N (isListG S.st g c e) q.strs (by rw [q.length]; simpa using hlen) fun h' vs' ss' ep F' N' hS hp hs => ?_
  obtain rfl := hu ss' hp hs
  have S' := S.back1 hm' F' N' (none_above (Nat.le_succ _))
  exact k _ _ _ _ (Fz.le_add G _ _) S' (.list (.inr ⟨rfl, rfl⟩) rfl ⟨rfl, rfl⟩ rfl (VRs.of_strs hS))
theorem CallV_range1 {n : Int} (hx : x.Ok w) : CallV w x (.type "range") [.int n] (.rng 0 n 1) := fun G T s Q E vs S r k => by
  cases r with | cons a b =>
  cases b
  cases a
  refine call_range_1 (k _ _ _ _ (Fz.le_add G _ _) (S.to (Fz.le_add G _ _) (S.st.addPush _)) (.rng (.inr ⟨rfl, rfl⟩) fun h e => ⟨_, _, _, e⟩))
theorem CallV_range3 {a b c : Int} (hx : x.Ok w) (hc : c ≠ 0) (hp : Builtin.divisionGoesByPylong (b - a) c = false) : CallV w x (.type "range") [.int a, .int b, .int c] (.rng a b c) := fun G T s Q E vs S r k => by
  cases r with | cons a r =>
  cases r with | cons b r =>
  cases r with | cons c r =>
  cases r
  cases a; cases b; cases c
  refine call_range_3 hc (k _ _ _ _ (Fz.le_add G _ _) (S.to (Fz.le_add G _ _) (S.st.addPush _)) (.rng (.inr ⟨rfl, rfl⟩) fun h e => ⟨_, _, _, e⟩)) (.inl hp)
-- comparisons of lists
theorem CV_neIs {ns ms : List Int} (hx : x.Ok w) (hu : x.un + 64 < cLine) : CV w x .NotEq (.list (iL ns)) (.list (iL ms)) (!decide (ns = ms)) := fun G T s Q E u v S r1 r2 k => by
  have hu : x.A.units + 64 < cLine := by rw [Cx.A, hx.hA]; exact hu
  cases r1 with | list g1 c1 d1 e1 q1 =>
  cases r2 with | list g2 c2 d2 e2 q2 =>
  exact ne_intsK (isListG S.st g1 c1 e1) q1.ints (isListG S.st g2 c2 e2) q2.ints hu (k _ _ _ G (Fz.rf _) S (.bool _))
theorem canLay_bools : ∀ ns : List Bool, PyData.canLayAll0 (ns.map PyData.bool) = true
  | [] => by simp [PyData.canLayAll0]
  | n :: r => by simp [PyData.canLayAll0, PyData.canLay0, canLay_bools r]
theorem depth_bools : ∀ ns : List Bool, PyData.depthAll (ns.map PyData.bool) ≤ 1
  | [] => by simp [PyData.depthAll]
  | n :: r => by
    have := depth_bools r
    simp only [List.map_cons, PyData.depthAll, PyData.depth]
    omega
theorem shaped_bools (ns : List Bool) : SeqAt.shaped (.list (ns.map PyData.bool)) = true := by
  have h1 := depth_bools ns
  have h2 : PyData.depth (.list (ns.map PyData.bool)) ≤ 64 := by simp only [PyData.depth]; omega
  show (PyData.canLay0 (.list (ns.map PyData.bool)) && decide (PyData.depth (.list (ns.map PyData.bool)) ≤ 64)) = true
  rw [Bool.and_eq_true]
  exact ⟨by simp only [PyData.canLay0]; exact canLay_bools ns, decide_eq_true h2⟩
theorem noMix_bools : ∀ ns ms : List Bool, SeqAt.noMixAll (ns.map PyData.bool) (ms.map PyData.bool) = true
  | [], [] => by simp [SeqAt.noMixAll]
  | [], _ :: _ => by simp [SeqAt.noMixAll]
  | _ :: _, [] => by simp [SeqAt.noMixAll]
  | _ :: r, _ :: q => by simp [SeqAt.noMixAll, SeqAt.noMix, noMix_bools r q]
theorem same_bools : ∀ ns ms : List Bool, PySem.Spec.sameAll (ns.map PyData.bool) (ms.map PyData.bool) = decide (ns = ms)
  | [], [] => by simp [PySem.Spec.sameAll]
  | [], _ :: _ => by simp [PySem.Spec.sameAll]
  | _ :: _, [] => by simp [PySem.Spec.sameAll]
  | n :: r, k :: q => by
    simp only [List.map_cons, PySem.Spec.sameAll, PySem.Spec.same, same_bools r q]
    by_cases h : n = k <;> simp [h]
theorem CV_neBs {ns ms : List Bool} (hx : x.Ok w) (hu : x.un + 64 < cLine) : CV w x .NotEq (.list (bL ns)) (.list (bL ms)) (!decide (ns = ms)) := fun G T s Q E u v S r1 r2 k => by
  have hu : x.A.units + 64 < cLine := by rw [Cx.A, hx.hA]; exact hu
  cases r1 with | list g1 c1 d1 e1 q1 =>
  cases r2 with | list g2 c2 d2 e2 q2 =>
  refine ne_dataH_same (Reads.list (S.st.keep _ _ g1) c1 e1 (by simpa using q1.bools_reads)) (Reads.list (S.st.keep _ _ g2) c2 e2 (by simpa using q2.bools_reads)) (shaped_bools ns) (shaped_bools ms) hu (by simp only [SeqAt.noMix]; exact noMix_bools ns ms) (by simp only [PySem.Spec.same]; rw [same_bools]; exact k _ _ _ G (Fz.rf _) S (.bool _))
theorem canLay_strs : ∀ ns : List Str, (∀ y ∈ ns, PyData.strOk y = true) → PyData.canLayAll0 (ns.map PyData.str) = true
  | [], _ => by simp [PyData.canLayAll0]
  | n :: r, h => by
    have h1 := h n (List.mem_cons_self ..)
    have := canLay_strs r fun y hy => h y (List.mem_cons_of_mem _ hy)
    simp [PyData.canLayAll0, PyData.canLay0, this, h1]
theorem depth_strs : ∀ ns : List Str, PyData.depthAll (ns.map PyData.str) ≤ 1
  | [] => by simp [PyData.depthAll]
  | n :: r => by
    have := depth_strs r
    simp only [List.map_cons, PyData.depthAll, PyData.depth]
    omega
theorem shaped_strs (ns : List Str) (h : ∀ y ∈ ns, PyData.strOk y = true) : SeqAt.shaped (.list (ns.map PyData.str)) = true := by
  have h1 := depth_strs ns
  have h2 : PyData.depth (.list (ns.map PyData.str)) ≤ 64 := by simp only [PyData.depth]; omega
  show (PyData.canLay0 (.list (ns.map PyData.str)) && decide (PyData.depth (.list (ns.map PyData.str)) ≤ 64)) = true
  rw [Bool.and_eq_true]
  exact ⟨by simp only [PyData.canLay0]; exact canLay_strs ns h, decide_eq_true h2⟩
theorem noMix_strs : ∀ ns ms : List Str, SeqAt.noMixAll (ns.map PyData.str) (ms.map PyData.str) = true
  | [], [] => by simp [SeqAt.noMixAll]
  | [], _ :: _ => by simp [SeqAt.noMixAll]
  | _ :: _, [] => by simp [SeqAt.noMixAll]
  | _ :: r, _ :: q => by simp [SeqAt.noMixAll, SeqAt.noMix, noMix_strs r q]
theorem same_strs : ∀ ns ms : List Str, PySem.Spec.sameAll (ns.map PyData.str) (ms.map PyData.str) = decide (ns = ms)
  | [], [] => by simp [PySem.Spec.sameAll]
  | [], _ :: _ => by simp [PySem.Spec.sameAll]
  | _ :: _, [] => by simp [PySem.Spec.sameAll]
  | n :: r, k :: q => by
    simp only [List.map_cons, PySem.Spec.sameAll, PySem.Spec.same, same_strs r q]
    by_cases h : n = k <;> simp [h]
theorem CV_neSs {ns ms : List Str} (hx : x.Ok w) (hu : x.un + 64 < cLine) (h1 : ∀ y ∈ ns, PyData.strOk y = true) (h2 : ∀ y ∈ ms, PyData.strOk y = true) : CV w x .NotEq (.list (sL ns)) (.list (sL ms)) (!decide (ns = ms)) := fun G T s Q E u v S r1 r2 k => by
  have hu : x.A.units + 64 < cLine := by rw [Cx.A, hx.hA]; exact hu
  cases r1 with | list g1 c1 d1 e1 q1 =>
  cases r2 with | list g2 c2 d2 e2 q2 =>
  refine ne_dataH_same (Reads.list (S.st.keep _ _ g1) c1 e1 (by simpa using strs_reads q1.strs)) (Reads.list (S.st.keep _ _ g2) c2 e2 (by simpa using strs_reads q2.strs)) (shaped_strs ns h1) (shaped_strs ms h2) hu (by simp only [SeqAt.noMix]; exact noMix_strs ns ms) (by simp only [PySem.Spec.same]; rw [same_strs]; exact k _ _ _ G (Fz.rf _) S (.bool _))
theorem CV_inI {n : Int} {ns : List Int} : CV w x .In (.int n) (.list (iL ns)) (ns.any (· == n)) := fun G T s Q E u v S r1 r2 k => by
  cases r1
  cases r2 with | list g2 c2 d2 e2 q2 =>
  exact in_list_ints (isListG S.st g2 c2 e2) q2.ints (k _ _ _ G (Fz.rf _) S (.bool _))
theorem CV_ninI {n : Int} {ns : List Int} : CV w x .NotIn (.int n) (.list (iL ns)) (!ns.any (· == n)) := fun G T s Q E u v S r1 r2 k => by
  cases r1
  cases r2 with | list g2 c2 d2 e2 q2 =>
  exact notin_list_ints (isListG S.st g2 c2 e2) q2.ints (k _ _ _ G (Fz.rf _) S (.bool _))
theorem CV_ninS {n : Str} {ns : List Str} : CV w x .NotIn (.str n) (.list (sL ns)) (!ns.any (· == n)) := fun G T s Q E u v S r1 r2 k => by
  cases r1
  cases r2 with | list g2 c2 d2 e2 q2 =>
  exact notin_list_strs (isListG S.st g2 c2 e2) q2.strs (k _ _ _ G (Fz.rf _) S (.bool _))
-- methods of texts
theorem EV_join {e : PySem.Expr} {l : PySem.Expr} {ap : Pos} {y : Str} {ys : List Str} (he : EV w x env ρ e (.str y)) (hl : EV w x env ρ l (.list (sL ys))) (hok : (ys.map (·.length)).sum + ys.length * y.length ≤ 16777216)
    (hs : starEach [l] env = (false, eval l env) :: starEach [] env := by rfl) (pl : Sem Bool)
    (hm : eval (.Call (.Attribute e (Str.ofString "join") ap) [l] [] pos) env = (do
      let ov ← eval e env
      standAt ap.atName
      let (f, first) ← holding [ov] (getMethod ov (Str.ofString "join") pl)
      callWith pos f first (backTo pos (starEach [l] env)) [])) : EV w x env ρ (.Call (.Attribute e (Str.ofString "join") ap) [l] [] pos) (.str (Txt.join y ys)) := fun G T s Q E S k => by
  refine MethodCall_ (he G T s _ _ S fun v1 h1 tk1 G1 l1 S1 r1 => ?_) hm
  cases r1
  refine GM.join (callWith_method1 (EVL_cons hl EVL_nil hs G1 T _ _ _ S1 fun vs h2 tk2 G2 l2 S2 r2 => ?_) hs)
  cases r2 with | cons a b =>
  cases b
  cases a with | list g2 c2 d2 e2 q2 =>
  exact join_list (isListG (s := ⟨h2, s.gens, s.drawn, tk2, s.os⟩) S2.st g2 c2 e2) (by simpa using q2.strs) hok fun t' k' => k _ _ _ G2 (l1.tr l2) S2 (.str _ _)
end
end Mine
end
section
open PySem PySem.W PyProof.Rows PySem.Calls PySem.Spec
set_option Elab.async false
set_option maxRecDepth 100000
namespace Mine
open LCg
/-- where statements end -/
structure Pst where
  n : Rho → Prop
  b : Rho → Prop
  c : Rho → Prop
  r : AV → Prop
noncomputable abbrev Xs := List (Addr × Obj)
noncomputable def XIn (X : Xs) (T : Ow) : Prop := ∀ p ∈ X, (p.1, .fix p.2) ∈ T
noncomputable def Post (x : Cx) (env : Env) (X : Xs) (Ψ : Pst) (G : Fz) (s : Shared) (f : Flow) (s' : Shared) : Prop :=
  ∃ h' tk', s' = { s with heap := h', toks := tk' } ∧ match f with
    | .next => ∃ G' T' ρ', Fz.le G G' ∧ Ok x env ρ' G' T' h' ∧ XIn X T' ∧ Ψ.n ρ'
    | .brk => ∃ G' T' ρ', Fz.le G G' ∧ Ok x env ρ' G' T' h' ∧ XIn X T' ∧ Ψ.b ρ'
    | .cont => ∃ G' T' ρ', Fz.le G G' ∧ Ok x env ρ' G' T' h' ∧ XIn X T' ∧ Ψ.c ρ'
    | .ret v => ∃ G' T' av, Fz.le G G' ∧ OkB x G' T' h' ∧ XIn X T' ∧ VR G' v av ∧ Ψ.r av
noncomputable def Run (w : World) (x : Cx) (env : Env) (ρ : Rho) (sts : List Stmt) (Ψ : Pst) : Prop :=
  ∀ (X : Xs) (G : Fz) (T : Ow) (s : Shared) (E : Value → Shared → Prop), Ok x env ρ G T s.heap → XIn X T → wpAny (model pg w) x.A (execs sts env) (Post x env X Ψ G s) E s
section
variable {w : World} {x : Cx} {env : Env} {ρ ρ' : Rho} {G G' : Fz} {T T' : Ow} {h h' : Heap} {X : Xs} {Ψ : Pst} {s : Shared} {rest : List Stmt}
theorem Post.up {tk : Nat} {f : Flow} {s' : Shared} (H : Post x env X Ψ G' { s with heap := h, toks := tk } f s') (l : Fz.le G G') : Post x env X Ψ G s f s' := by
  obtain ⟨h', tk', rfl, H⟩ := H
  refine ⟨h', tk', rfl, ?_⟩
  cases f with
  | next => obtain ⟨G', T', ρ', l', r⟩ := H; exact ⟨G', T', ρ', l.tr l', r⟩
  | brk => obtain ⟨G', T', ρ', l', r⟩ := H; exact ⟨G', T', ρ', l.tr l', r⟩
  | cont => obtain ⟨G', T', ρ', l', r⟩ := H; exact ⟨G', T', ρ', l.tr l', r⟩
  | ret v => obtain ⟨G', T', ρ', l', r⟩ := H; exact ⟨G', T', ρ', l.tr l', r⟩
theorem Run.step (H : Run w x env ρ' rest Ψ) {E : Value → Shared → Prop} {tk : Nat} (S' : Ok x env ρ' G' T' h') (l : Fz.le G G') (hX : XIn X T') : wpAny (model pg w) x.A (execs rest env) (Post x env X Ψ G s) E { s with heap := h', toks := tk } :=
  wpAny_mono (H X G' T' _ E S' hX) (fun f s' p => p.up l) fun _ _ e => e
theorem XIn.put {n : Str} {v : Value} (hX : XIn X T) (P : putT env T n v T') (S : St G T h) : XIn X T' := fun p hp => by
  have hm := hX p hp
  rcases P with ⟨hl, m, hm', rfl⟩ | ⟨hl, c, v₀, hc, hm', rfl⟩
  · exact setT_mem hm fun q => by dsimp only at q; rw [q] at hm; cases S.one hm' hm
  · exact setT_mem hm fun q => by dsimp only at q; rw [q] at hm; cases S.one hm' hm
theorem Run_nil (h : Ψ.n ρ) : Run w x env ρ [] Ψ := fun X G T s E S hX => wpAny_execs_nil ⟨s.heap, s.toks, rfl, G, T, ρ, Fz.rf _, S, hX, h⟩
theorem Run_sub (hs : SubR ρ' ρ) (H : Run w x env ρ' rest Ψ) : Run w x env ρ rest Ψ := fun X G T s E S hX => H X G T s E (S.sub hs) hX
/-- a name can be given a value -/
noncomputable abbrev Kept (env : Env) (n : Str) : Prop := env.kindOf n = some .local ∨ (env.kindOf n = some .cell ∧ (env.cells.lookup n).isSome = true)
theorem Run_assign {n : Str} {p pos : Pos} {e : PySem.Expr} {av : AV} (he : EV w x env ρ e av) (hk : Kept env n) (hp : av.plain = true) (H : Run w x env ((n, av) :: ρ) rest Ψ) (hs : swapsWith e (some (.Name n p)) pos.line env = pure false := by rfl) : Run w x env ρ (.Assign [.Name n p] e pos :: rest) Ψ := fun X G T s E S hX => by
  refine wpAny_execs_cons (wpAny_Assign_Name (he G T s _ _ S fun v h1 tk1 G1 l1 S1 r1 => ?_) hs)
  exact storeV S1.toOkB S1.eg (S1.slot hk) fun T' h' tk P S' => H.step (S1.put P S' r1 hp) l1 (hX.put P S1.st)
theorem Run_ret {e : PySem.Expr} {pos : Pos} {av : AV} (he : EV w x env ρ e av) (H : Ψ.r av) : Run w x env ρ (.Return (some e) pos :: rest) Ψ := fun X G T s E S hX => by
  refine wpAny_execs_cons (wpAny_Return_some (he G T s _ _ S fun v h1 tk1 G1 l1 S1 r1 => ?_))
  exact ⟨h1, tk1, rfl, G1, T, av, l1, S1.toOkB, hX, r1, H⟩
theorem Run_brk {pos : Pos} (H : Ψ.b ρ) : Run w x env ρ (.Break pos :: rest) Ψ := fun X G T s E S hX => by
  refine wpAny_execs_cons ?_
  exact wpAny_Break ⟨s.heap, s.toks, rfl, G, T, ρ, Fz.rf _, S, hX, H⟩
theorem Run_if {t : PySem.Expr} {body orelse : List Stmt} {pos : Pos} {c : Bool} (ht : EB w x env ρ t c) (h1 : c = true → Run w x env ρ body { Ψ with n := fun ρ' => Run w x env ρ' rest Ψ }) (h2 : c = false → Run w x env ρ orelse { Ψ with n := fun ρ' => Run w x env ρ' rest Ψ }) : Run w x env ρ (.If t body orelse pos :: rest) Ψ := fun X G T s E S hX => by
  refine wpAny_execs_cons (wpAny_If (ht G T s _ _ S fun h1' tk1 G1 l1 S1 => ?_))
  have key : ∀ sts, Run w x env ρ sts { Ψ with n := fun ρ' => Run w x env ρ' rest Ψ } → wpAny (model pg w) x.A (execs sts env) (fun f s' => match f with | .next => wpAny (model pg w) x.A (execs rest env) (Post x env X Ψ G s) E s' | f => Post x env X Ψ G s f s') E { s with heap := h1', toks := tk1 } := fun sts H => by
    refine wpAny_mono (H X G1 T _ E S1 hX) (fun f s' p => ?_) fun _ _ e => e
    obtain ⟨h', tk', rfl, p⟩ := p
    cases f with
    | next =>
      obtain ⟨G', T', ρ', l', S', X', H'⟩ := p
      exact Run.step H' S' (l1.tr l') X'
    | brk => obtain ⟨G', T', ρ', l', r⟩ := p; exact ⟨h', tk', rfl, G', T', ρ', l1.tr l', r⟩
    | cont => obtain ⟨G', T', ρ', l', r⟩ := p; exact ⟨h', tk', rfl, G', T', ρ', l1.tr l', r⟩
    | ret v => obtain ⟨G', T', ρ', l', r⟩ := p; exact ⟨h', tk', rfl, G', T', ρ', l1.tr l', r⟩
  cases c with
  | true => exact key _ (h1 rfl)
  | false => exact key _ (h2 rfl)
end
/-- all but one's own lists: an own thing stays a thing of one's own -/
theorem NR.keep {env : Env} {G : Fz} {T T' : Ow} {n : Str} {av : AV} (N : NR env G T n av) (h : ∀ p ∈ T, p ∈ T') : NR env G T' n av := by
  have rd : ∀ {v : Value}, Reads env T n v → Reads env T' n v := fun r => r.imp (fun ⟨k, m, hm, e⟩ => ⟨k, m, h _ hm, e⟩) fun ⟨k, c, hc, hm⟩ => ⟨k, c, hc, h _ hm⟩
  cases av with
  | own xs => obtain ⟨a, vs, k, r, m, q⟩ := N; exact ⟨a, vs, k, rd r, h _ m, q⟩
  | ownd w es => obtain ⟨a, o, kvs, r, m, q⟩ := N; exact ⟨a, o, kvs, rd r, h _ m, q⟩
  | _ => obtain ⟨v, r, q⟩ := N; exact ⟨v, rd r, q⟩
section
variable {w : World} {x : Cx} {env : Env} {ρ ρ' : Rho} {G G' : Fz} {T T' : Ow} {h h' : Heap} {X : Xs} {Ψ : Pst} {s : Shared} {rest : List Stmt}
/-- an iterator may turn between the turns -/
theorem Ok.loosen {I : Addr} {o : Obj} (S : Ok x env ρ G T h) (hI : (I, .fix o) ∈ T) (hb : x.h₀.get? I = none) : Ok x env ρ G (setT I .any T) h := by
  obtain ⟨o', ho', q⟩ := S.st.own _ hI
  have S' : St G (setT I .any T) h := S.st.upd hI (fun _ _ _ e => e) ho' trivial
  have mem : ∀ {a : Addr} {sp : Sp}, (a, sp) ∈ T → sp ≠ .fix o → (a, sp) ∈ setT I .any T := fun hm hne => setT_mem hm fun q => by dsimp only at q; subst q; exact hne (S.st.one hm hI)
  have mem' : ∀ {a : Addr} {sp : Sp}, (a, sp) ∈ T → (∀ o, sp ≠ .fix o) → (a, sp) ∈ setT I .any T := fun hm hne => mem hm (hne o)
  have rd : ∀ {n : Str} {v : Value}, Reads env T n v → Reads env (setT I .any T) n v := fun r => r.imp (fun ⟨k, m, hm, e⟩ => ⟨k, m, mem' hm (fun _ e => nomatch e), e⟩) fun ⟨k, c, hc, hm⟩ => ⟨k, c, hc, mem' hm (fun _ e => nomatch e)⟩
  refine { st := S', base := fun b ob e => ?_, fr := ?_, eg := S.eg, ap := S.ap, ce := fun p hp => ?_, lo := ?_, rho := fun n av e => ?_ }
  · refine (S.base b ob e).imp id fun hm => setT_mem hm fun q => ?_
    dsimp only at q
    rw [q, hb] at e; cases e
  · obtain ⟨m, hm⟩ := S.fr; exact ⟨m, mem' hm (fun _ e => nomatch e)⟩
  · obtain ⟨v, hm⟩ := S.ce p hp; exact ⟨v, mem' hm (fun _ e => nomatch e)⟩
  · obtain ⟨m, hm⟩ := S.lo; exact ⟨m, mem' hm (fun _ e => nomatch e)⟩
  · have N := S.rho n av e
    cases av with
    | own xs => obtain ⟨a, vs, k, r, m, q⟩ := N; exact ⟨a, vs, k, rd r, mem' m (fun _ e => nomatch e), q⟩
    | ownd w es => obtain ⟨a, o, kvs, r, m, q⟩ := N; exact ⟨a, o, kvs, rd r, mem' m (fun _ e => nomatch e), q⟩
    | _ => obtain ⟨v, r, q⟩ := N; exact ⟨v, rd r, q⟩
/-- an iterator that has turned -/
theorem Ok.tighten {I : Addr} {o : Obj} (S : Ok x env ρ G T h) (hI : (I, .any) ∈ T) (hk : ∀ b o, b ≠ I → h.get? b = some o → h'.get? b = some o) (ho : h'.get? I = some o) : Ok x env ρ G (setT I (.fix o) T) h' := by
  have S' : St G (setT I (.fix o) T) h' := S.st.upd hI hk ho rfl
  have mem' : ∀ {a : Addr} {sp : Sp}, (a, sp) ∈ T → sp ≠ .any → (a, sp) ∈ setT I (.fix o) T := fun hm hne => setT_mem hm fun q => by dsimp only at q; subst q; exact hne (S.st.one hm hI)
  have rd : ∀ {n : Str} {v : Value}, Reads env T n v → Reads env (setT I (.fix o) T) n v := fun r => r.imp (fun ⟨k, m, hm, e⟩ => ⟨k, m, mem' hm (fun e => nomatch e), e⟩) fun ⟨k, c, hc, hm⟩ => ⟨k, c, hc, mem' hm (fun e => nomatch e)⟩
  refine { st := S', base := fun b ob e => (S.base b ob e).imp id fun hm => mem' hm (fun e => nomatch e), fr := ?_, eg := S.eg, ap := S.ap, ce := fun p hp => ?_, lo := ?_, rho := fun n av e => ?_ }
  · obtain ⟨m, hm⟩ := S.fr; exact ⟨m, mem' hm (fun e => nomatch e)⟩
  · obtain ⟨v, hm⟩ := S.ce p hp; exact ⟨v, mem' hm (fun e => nomatch e)⟩
  · obtain ⟨m, hm⟩ := S.lo; exact ⟨m, mem' hm (fun e => nomatch e)⟩
  · have N := S.rho n av e
    cases av with
    | own xs => obtain ⟨a, vs, k, r, m, q⟩ := N; exact ⟨a, vs, k, rd r, mem' m (fun e => nomatch e), q⟩
    | ownd w es => obtain ⟨a, o, kvs, r, m, q⟩ := N; exact ⟨a, o, kvs, rd r, mem' m (fun e => nomatch e), q⟩
    | _ => obtain ⟨v, r, q⟩ := N; exact ⟨v, rd r, q⟩
/-- an iterator that has come to its end -/
theorem Ok.gone {I : Addr} (S : Ok x env ρ G T h) (hI : (I, .any) ∈ T) (hk : ∀ b o, b ≠ I → h.get? b = some o → h'.get? b = some o) : ∃ T', Ok x env ρ G T' h' ∧ ∀ a sp, (a, sp) ∈ T → sp ≠ .any → (a, sp) ∈ T' := by
  let T' := T.filter fun p => p.1 ≠ I
  have mem' : ∀ {a : Addr} {sp : Sp}, (a, sp) ∈ T → sp ≠ .any → (a, sp) ∈ T' := fun {a sp} hm hne => List.mem_filter.mpr ⟨hm, by
    simp only [ne_eq, decide_not, Bool.not_eq_true', decide_eq_false_iff_not]
    intro q; subst q; exact hne (S.st.one hm hI)⟩
  have hne : ∀ p ∈ T', p.1 ≠ I := fun p hp => by simpa using (List.mem_filter.mp hp).2
  have sub : T'.Sublist T := List.filter_sublist
  have S0 := S.st.sub sub
  have S' : St G T' h' := by
    refine ⟨fun b o g => hk _ _ (fun e => S.st.off _ hI o (e ▸ g)) (S.st.keep _ _ g), fun p hp => ?_, S0.off, S0.nd⟩
    obtain ⟨o, e, q⟩ := S0.own p hp
    exact ⟨o, hk _ _ (hne p hp) e, q⟩
  have rd : ∀ {n : Str} {v : Value}, Reads env T n v → Reads env T' n v := fun r => r.imp (fun ⟨k, m, hm, e⟩ => ⟨k, m, mem' hm (fun e => nomatch e), e⟩) fun ⟨k, c, hc, hm⟩ => ⟨k, c, hc, mem' hm (fun e => nomatch e)⟩
  refine ⟨T', { st := S', base := fun b ob e => (S.base b ob e).imp id fun hm => mem' hm (fun e => nomatch e), fr := ?_, eg := S.eg, ap := S.ap, ce := fun p hp => ?_, lo := ?_, rho := fun n av e => ?_ }, fun a sp => mem'⟩
  · obtain ⟨m, hm⟩ := S.fr; exact ⟨m, mem' hm (fun e => nomatch e)⟩
  · obtain ⟨v, hm⟩ := S.ce p hp; exact ⟨v, mem' hm (fun e => nomatch e)⟩
  · obtain ⟨m, hm⟩ := S.lo; exact ⟨m, mem' hm (fun e => nomatch e)⟩
  · have N := S.rho n av e
    cases av with
    | own xs => obtain ⟨a, vs, k, r, m, q⟩ := N; exact ⟨a, vs, k, rd r, mem' m (fun e => nomatch e), q⟩
    | ownd w es => obtain ⟨a, o, kvs, r, m, q⟩ := N; exact ⟨a, o, kvs, rd r, mem' m (fun e => nomatch e), q⟩
    | _ => obtain ⟨v, r, q⟩ := N; exact ⟨v, rd r, q⟩
/-- between two turns of a for -/
inductive ForI (x : Cx) (env : Env) (X : Xs) (I : Addr) (Si : Nat → Heap → Prop) (G1 : Fz) (J : Nat → Rho → Prop) (n : Nat) (s : Shared) (k : Nat) : Shared → Prop
  | mk {h' : Heap} {tk i : Nat} {ρ' : Rho} {G' : Fz} {T' : Ow} : i ≤ n → k = n + 1 - i → Si i h' → Fz.le G1 G' → Ok x env ρ' G' T' h' → (I, .any) ∈ T' → XIn X T' → J i ρ' → ForI x env X I Si G1 J n s k { s with heap := h', toks := tk }
/-- a for, by what is so between its turns -/
theorem Run_for {n : Str} {px pos : Pos} {iter : PySem.Expr} {body : List Stmt} {av : AV} {its : List AV} (J : Nat → Rho → Prop) (hit : EV w x env ρ iter av) (hI : ItV w av its) (hk : Kept env n) (hpl : ∀ a ∈ its, a.plain = true) (h0 : J 0 ρ)
    (turn : ∀ i a ρ', its[i]? = some a → J i ρ' → Run w x env ((n, a) :: ρ') body { n := J (i + 1), c := J (i + 1), b := fun ρ' => Run w x env ρ' rest Ψ, r := Ψ.r })
    (done : ∀ ρ', J its.length ρ' → Run w x env ρ' rest Ψ) (hs : ∀ x, foldedSetIterable iter env x = pure x := by intro _; rfl) : Run w x env ρ (.For (.Name n px) iter body [] pos :: rest) Ψ := fun X G T s E S hX => by
  refine wpAny_execs_cons (wpAny_For (hit G T s _ _ S fun v h1 tk1 G1 l1 S1 r1 => ?_) hs)
  refine iterV S1.toOkB r1 hI fun I fp P Si h2 It => ?_
  have hbn : h1.get? I = none := by rw [It.new]; exact none_size h1
  have hb0 : x.h₀.get? I = none := by
    cases e : x.h₀.get? I with
    | none => rfl
    | some o => have := S1.toOkB.keep e; rw [hbn] at this; cases this
  obtain ⟨oI, heI⟩ := It.here _ _ It.now
  have S2 : Ok x env ρ G1 ((I, .any) :: T) h2 := S1.more1 (S1.toOkB.mem (S1.st.cons It.keep heI hbn trivial) (Fz.rf _) fun a sp hm _ _ _ => List.mem_cons_of_mem _ hm) (Fz.rf _)
  refine codeAny_forLoop
    (ForI x env X I Si G1 J its.length s) ?_ (its.length + 1)
    (.mk (i := 0) (Nat.zero_le _) rfl It.now (Fz.rf _) S2 (List.mem_cons_self ..) (fun p hp => List.mem_cons_of_mem _ (hX p hp)) h0) (fun _ => rfl)
  intro k s' inv
  cases inv with | @mk h' tk i ρ' G' T' hi hkk hst hG S' hI' hX' hJ =>
  subst hkk
  by_cases hlt : i < its.length
  · refine It.W.item i _ _ _ hlt hst fun v h₂ tk₂ hP hst₂ hk₂ => ?_
    obtain ⟨a, ha, hvr⟩ := It.item i v hlt hP
    obtain ⟨oI, heI⟩ := It.here _ _ hst₂
    have k₂ : ∀ b o, b ≠ I → h'.get? b = some o → h₂.get? b = some o := fun b o hb e => hk₂ b o (fun z => hb (List.mem_singleton.mp z)) e
    have S₂ := S'.tighten hI' k₂ heI
    have hX₂ : XIn ((I, oI) :: X) (setT I (.fix oI) T') := fun p hp => by
      rcases List.mem_cons.mp hp with rfl | hp
      · exact setT_self hI'
      · exact setT_mem (hX' p hp) fun q => by
          have z := hX' p hp
          dsimp only at q
          rw [q] at z
          cases S'.st.one hI' z
    refine wpAny_assign_Name (storeV S₂.toOkB S₂.eg (S₂.slot hk) fun T₃ h₃ tk₃ P₃ S₃ => ?_)
    have S₄ := S₂.put P₃ S₃ (hvr.mono hG) (hpl a (List.mem_of_getElem? ha))
    have X₄ := hX₂.put P₃ S₂.st
    have back : ∀ {G'' : Fz} {T'' : Ow} {h'' : Heap} {tk'' : Nat} {ρ'' : Rho}, Fz.le G' G'' → Ok x env ρ'' G'' T'' h'' → XIn ((I, oI) :: X) T'' → J (i + 1) ρ'' →
        ∃ m, m < its.length + 1 - i ∧ ForI x env X I Si G1 J its.length s m ({ s with heap := h'', toks := tk'' } : Shared) := by
      intro G'' T'' h'' tk'' ρ'' l'' S'' X'' J''
      have hm := X'' (I, oI) (List.mem_cons_self ..)
      obtain ⟨o₁, e₁, q₁⟩ := S''.st.own _ hm
      cases q₁
      refine ⟨its.length + 1 - (i + 1), by omega, .mk hlt rfl (It.W.frame _ _ _ hst₂ fun b hb o e => ?_) (hG.tr l'') (S''.loosen hm hb0) (setT_self hm) (fun p hp => ?_) J''⟩
      · rcases It.fp b hb with rfl | ⟨o', g⟩
        · rw [heI] at e; cases e; exact e₁
        · have z1 := S₂.st.keep _ _ (hG.of _ _ g)
          rw [e] at z1; cases z1
          exact S''.st.keep _ _ ((hG.tr l'').of _ _ g)
      · refine setT_mem (X'' p (List.mem_cons_of_mem _ hp)) fun q => ?_
        have z := hX' p hp
        dsimp only at q
        rw [q] at z
        cases S'.st.one hI' z
    refine wpAny_mono (turn i a ρ' ha hJ _ G' _ _ _ S₄ X₄) (fun f s₅ p => ?_) fun _ _ e => e
    obtain ⟨h₅, tk₅, rfl, p⟩ := p
    cases f with
    | next => obtain ⟨G₅, T₅, ρ₅, l₅, S₅, X₅, J₅⟩ := p; exact back l₅ S₅ X₅ J₅
    | cont => obtain ⟨G₅, T₅, ρ₅, l₅, S₅, X₅, J₅⟩ := p; exact back l₅ S₅ X₅ J₅
    | brk =>
      obtain ⟨G₅, T₅, ρ₅, l₅, S₅, X₅, H₅⟩ := p
      exact Run.step H₅ S₅ (l1.tr (hG.tr l₅)) fun p hp => X₅ p (List.mem_cons_of_mem _ hp)
    | ret v =>
      obtain ⟨G₅, T₅, av₅, l₅, S₅, X₅, r₅, H₅⟩ := p
      exact ⟨h₅, tk₅, rfl, G₅, T₅, av₅, l1.tr (hG.tr l₅), S₅, fun p hp => X₅ p (List.mem_cons_of_mem _ hp), r₅, H₅⟩
  · obtain rfl : i = its.length := Nat.le_antisymm hi (Nat.not_lt.mp hlt)
    refine It.W.done _ _ _ hst fun h₂ tk₂ hk₂ => ?_
    have k₂ : ∀ b o, b ≠ I → h'.get? b = some o → h₂.get? b = some o := fun b o hb e => hk₂ b o (fun z => hb (List.mem_singleton.mp z)) e
    obtain ⟨T₆, S₆, hm₆⟩ := S'.gone hI' k₂
    refine wpAny_execs_nil ?_
    exact Run.step (done ρ' hJ) S₆ (l1.tr hG) fun p hp => hm₆ _ _ (hX' p hp) (fun e => nomatch e)
end
end Mine
end
section
open PySem PySem.W PyProof.Rows PySem.Calls PySem.Spec
set_option Elab.async false
set_option maxRecDepth 100000
namespace Mine
open LCg
theorem cells_adr {cm : Str → Option Value} : ∀ {cs : List (Str × Addr)} {cells : List (Addr × Obj)}, CellsAre cm cs cells → cells.map (·.1) = cs.map (·.2)
  | _, _, .nil => rfl
  | _, _, .cons _ r => by rw [List.map_cons, List.map_cons, cells_adr r]
theorem cells_of {cm : Str → Option Value} : ∀ {cs : List (Str × Addr)} {cells : List (Addr × Obj)}, CellsAre cm cs cells → ∀ {p : Addr × Obj}, p ∈ cells → ∃ n, (n, p.1) ∈ cs ∧ p.2.data = .cell (cm n)
  | _, _, .nil, _, h => nomatch h
  | _, _, .cons d r, p, h => by
    rcases List.mem_cons.mp h with rfl | h
    · exact ⟨_, List.mem_cons_self .., d⟩
    · obtain ⟨n, h1, h2⟩ := cells_of r h
      exact ⟨n, List.mem_cons_of_mem _ h1, h2⟩
theorem cells_at {cm : Str → Option Value} : ∀ {cs : List (Str × Addr)} {cells : List (Addr × Obj)}, CellsAre cm cs cells → ∀ {n : Str} {c : Addr}, cs.lookup n = some c → ∃ o, (c, o) ∈ cells ∧ o.data = .cell (cm n)
  | _, _, .nil, _, _, h => nomatch h
  | _, _, @CellsAre.cons _ n' c' o' cs cells d r, n, c, h => by
    rw [List.lookup_cons] at h
    by_cases q : n = n'
    · subst q
      simp only [beq_self_eq_true] at h
      cases h
      exact ⟨o', List.mem_cons_self .., d⟩
    · have q' : (n == n') = false := by simpa using q
      simp only [q'] at h
      obtain ⟨o, h1, h2⟩ := cells_at r h
      exact ⟨o, List.mem_cons_of_mem _ h1, h2⟩
noncomputable def cellSp (cells : List (Addr × Obj)) : Ow := cells.map fun p => (p.1, match p.2.data with | .cell v => Sp.cell v | _ => Sp.any)
theorem cellSp_mem {cells : List (Addr × Obj)} {c : Addr} {o : Obj} {v : Option Value} (h : (c, o) ∈ cells) (hd : o.data = .cell v) : (c, Sp.cell v) ∈ cellSp cells := by
  refine List.mem_map.mpr ⟨_, h, ?_⟩
  simp only [hd]
/-- the things of the caller's own, as they stand -/
noncomputable def heldX (T : Ow) (h : Heap) : Xs := T.map fun p => (p.1, (h.get? p.1).getD default)
noncomputable def fixT (T : Ow) (h : Heap) : Ow := (heldX T h).map fun p => (p.1, .fix p.2)
theorem fixT_fst (T : Ow) (h : Heap) : (fixT T h).map (·.1) = T.map (·.1) := by
  unfold fixT heldX
  rw [List.map_map, List.map_map]
  rfl
theorem fixT_mem {T : Ow} {h : Heap} {a : Addr} {sp : Sp} {o : Obj} (hm : (a, sp) ∈ T) (e : h.get? a = some o) : (a, Sp.fix o) ∈ fixT T h := by
  refine List.mem_map.mpr ⟨(a, o), List.mem_map.mpr ⟨_, hm, ?_⟩, rfl⟩
  simp [e]
theorem heldX_mem {T : Ow} {h : Heap} {a : Addr} {sp : Sp} {o : Obj} (hm : (a, sp) ∈ T) (e : h.get? a = some o) : (a, o) ∈ heldX T h := by
  refine List.mem_map.mpr ⟨_, hm, ?_⟩
  simp [e]
/-- the def's own names' values -/
noncomputable def Params (env : Env) (binds : List (Str × Value)) (n : Str) (v : Value) : Prop :=
  (env.kindOf n = some .local ∧ bindL env.kindOf binds (fun _ => none) n = some v) ∨ (env.kindOf n = some .cell ∧ (env.cells.lookup n).isSome = true ∧ bindC env.kindOf binds (fun _ => none) n = some v)
section
variable {w : World} {x : Cx}
theorem call_def {f : Addr} {name qual : Str} {params : Arguments} {body : List Stmt} {scope : Scope} {dV kV doc pm cdv ct oc : Value} {an od : Option Addr} {osl : Array (Option Value)} {avs : List AV} {ns : List Str} {av : AV} {ρ₀ : Rho}
    (hx : x.Ok w) (ho : (kk.heap_1 w.params).lookup f = some ⟨oc, od, .func (fnOf name qual params body scope dV kV doc pm an cdv ct), osl⟩) (hcd : codeIn (kk.heap_1 w.params) cdv qual = true) (hroom : x.dp < recursionLimit)
    (hbind : ∀ (vs : List Value) (s : Shared), vs.length = avs.length → BindsTo s (fnOf name qual params body scope dV kV doc pm an cdv ct) ⟨vs, []⟩ (ns.zip vs))
    (hkind : ∀ vs : List Value, vs.length = avs.length → ((ns.zip vs).all fun y => scope.names.lookup y.1 == some .local || scope.names.lookup y.1 == some .cell) = true) (hnd : ((cellsFrom 0 scope.names []).map (·.1)).Nodup)
    (hρ : ∀ (L' : Addr) (vs : List Value) (G : Fz), VRs G vs avs → ∀ p ∈ ρ₀, p.2.plain = true ∧ ∃ v, Params (envOfC qual scope L' f cdv) (ns.zip vs) p.1 v ∧ VR G v p.2)
    (hbody : ∀ x' : Cx, x'.Ok w → x'.dp = x.dp + 1 → x'.un = x.un + 3 → Run w x' (envOfC qual scope x'.L f cdv) ρ₀ body { n := fun _ => False, b := fun _ => False, c := fun _ => False, r := fun a => a = av })
    (hco : scope.isCoroutine = false) (hgen : scope.isGenerator = false) (hk : scope.kind = .function) : CallV w x (.ref f) avs av := fun G T s Q E vs S r k => by
  have eA : x.A = x.A0 := by rw [Cx.A, hx.hA]
  rw [eA]
  obtain ⟨m, hm, F, N⟩ := S.fn hx.above
  refine wpAny_call ?_
  refine code_defC (K := kk.heap_1 w.params) (p := vw) (loose := lo) (mean := x.mean) (mg := x.mg) (mb := x.mb) (env := envX x.cn x.cs x.L x.a x.ccd x.cl) (outer := x.outer) hx.B F hx.K N hx.Tp rfl rfl hx.hk ho hcd hroom (hbind vs s r.length) (hkind vs r.length) hnd ?_ hco hgen hk
  intro g L' h₁ tk cells FG F' N' Y B' X' T' l
  have hcs := cells_adr Y
  have hLg : @LT.lt Nat _ x.L g.objs.size := FG.ns.lt
  have hgL : @LE.le Nat _ g.objs.size L' := F'.above
  -- what stood lies below the new frame
  have below : ∀ a o, s.heap.get? a = some o → a < L' := fun a o e => by
    by_cases q : a = x.L
    · rw [q]; exact Nat.lt_of_lt_of_le hLg hgL
    · cases q0 : x.h₀.get? a with
      | some o' => exact Nat.lt_of_lt_of_le (Heap.lt_size (FG.keep _ _ q0)) hgL
      | none => exact l _ (mem_allNews.mpr ⟨e, q, q0⟩)
  have kept : ∀ a o, a ≠ x.L → s.heap.get? a = some o → h₁.get? a = some o := fun a o q e => by
    cases q0 : x.h₀.get? a with
    | some o' =>
      have := S.keep q0
      rw [e] at this; cases this
      exact F'.keep _ _ (FG.keep _ _ q0)
    | none => exact (N' _ (List.mem_append_right _ (mem_allNews.mpr ⟨e, q, q0⟩))).1
  have hcl : ∀ p ∈ cells, L' + 1 ≤ p.1 := fun p hp => by
    obtain ⟨n, hn, _⟩ := cells_of Y hp
    rcases cellsFrom_of _ _ _ _ hn with h | h
    · cases h
    · exact ownAdr_ge _ _ _ h
  have hT : ∀ p ∈ T, p.1 < L' := fun p hp => by obtain ⟨o, e, _⟩ := S.st.own p hp; exact below _ _ e
  have inT : ∀ {a : Addr}, a ∈ T.map (·.1) → a < L' := fun h => by obtain ⟨p, hp, rfl⟩ := List.mem_map.mp h; exact hT p hp
  have h₁T : ∀ p ∈ T, ∃ o, h₁.get? p.1 = some o := fun p hp => by
    by_cases q : p.1 = x.L
    · obtain ⟨o, e, _⟩ := ns_obj FG.ns
      rw [q]; exact ⟨o, F'.keep _ _ e⟩
    · obtain ⟨o, e, _⟩ := S.st.own p hp
      exact ⟨o, kept _ _ q e⟩
  let G' : Fz := fun b o => b ∉ T.map (·.1) ∧ (s.heap.get? b = some o ∨ g.get? b = some o)
  have lG : Fz.le G G' := ⟨fun a o gg => ⟨fun hm => by obtain ⟨p, hp, rfl⟩ := List.mem_map.mp hm; exact S.st.off p hp o gg, .inl (S.st.keep _ _ gg)⟩⟩
  have keepG : ∀ a o, G' a o → h₁.get? a = some o := fun a o gg => by
    rcases gg.2 with e | e
    · exact kept a o (fun q => gg.1 (q ▸ List.mem_map.mpr ⟨_, hm, rfl⟩)) e
    · exact F'.keep _ _ e
  let T₁ : Ow := (L', .ns (bindL (envOfC qual scope L' f cdv).kindOf (ns.zip vs) fun _ => none)) :: (cellSp cells ++ fixT T h₁)
  have hcf : (cellSp cells).map (·.1) = cells.map (·.1) := by unfold cellSp; rw [List.map_map]; rfl
  have S₁ : St G' T₁ h₁ := by
    refine ⟨keepG, fun p hp => ?_, fun p hp o gg => ?_, ?_⟩
    · rcases List.mem_cons.mp hp with rfl | hp
      · obtain ⟨o, e, q⟩ := ns_obj F'.ns; exact ⟨o, e, q⟩
      · rcases List.mem_append.mp hp with hp | hp
        · obtain ⟨q, hq, rfl⟩ := List.mem_map.mp hp
          refine ⟨q.2, (N' q (List.mem_append_left _ hq)).1, ?_⟩
          obtain ⟨n, _, d⟩ := cells_of Y hq
          simp only [d]
          exact d
        · obtain ⟨q, hq, rfl⟩ := List.mem_map.mp hp
          obtain ⟨p, hp', rfl⟩ := List.mem_map.mp hq
          obtain ⟨o, e⟩ := h₁T p hp'
          exact ⟨o, e, by simp [e, Sp.ok]⟩
    · have out : ∀ {a : Addr}, L' ≤ a → G' a o → a = L' ∨ g.get? a ≠ none := fun {a} ha gg => by
        rcases gg.2 with e | e
        · exact absurd (below _ _ e) (Nat.not_lt.mpr ha)
        · exact .inr (by rw [e]; exact fun z => nomatch z)
      rcases List.mem_cons.mp hp with rfl | hp
      · rcases gg.2 with e | e
        · exact Nat.lt_irrefl _ (below _ _ e)
        · exact absurd (Heap.lt_size e) (Nat.not_lt.mpr hgL)
      · rcases List.mem_append.mp hp with hp | hp
        · obtain ⟨q, hq, rfl⟩ := List.mem_map.mp hp
          have z := N' q (List.mem_append_left _ hq)
          have zl := hcl q hq
          rcases gg.2 with e | e
          · exact absurd (below _ _ e) (Nat.not_lt.mpr (Nat.le_of_succ_le zl))
          · have z2 := z.2.2; dsimp only at e; rw [z2] at e; cases e
        · refine gg.1 ?_
          rw [← fixT_fst T h₁]
          exact List.mem_map.mpr ⟨p, hp, rfl⟩
    · show ((L', _) :: (cellSp cells ++ fixT T h₁) : Ow).map (·.1) |>.Nodup
      rw [List.map_cons, List.map_append, hcf, fixT_fst, List.nodup_cons, List.nodup_append]
      refine ⟨fun h => ?_, ?_, S.st.nd, fun a ha b hb e => ?_⟩
      · rcases List.mem_append.mp h with h | h
        · obtain ⟨q, hq, e⟩ := List.mem_map.mp h
          have := hcl q hq
          rw [e] at this
          exact Nat.not_succ_le_self _ this
        · exact Nat.lt_irrefl _ (inT h)
      · rw [hcs]; exact cellsFrom_nd _ _ _ List.nodup_nil fun _ h => nomatch h
      · subst e
        obtain ⟨q, hq, rfl⟩ := List.mem_map.mp ha
        exact absurd (inT hb) (Nat.not_lt.mpr (Nat.le_of_succ_le (hcl q hq)))
  let x' : Cx := { dp := x.dp + 1, un := x.un + 3, gd := x.gd, cn := qual, cs := scope, L := L', a := f, ccd := cdv, cl := cellsFrom (L' + 1) scope.names [], outer := envX x.cn x.cs x.L x.a x.ccd x.cl :: x.outer, A₀ := x.A0, base := x.base, h₀ := g, mean := x.mean, mg := x.mg, mb := x.mb }
  have hx' : x'.Ok w := ⟨B', X', T', hk, F'.above, rfl⟩
  have base : ∀ b o, g.get? b = some o → G' b o ∨ (b, .fix o) ∈ T₁ := fun b o e => by
    by_cases q : b ∈ T.map (·.1)
    · obtain ⟨p, hp, rfl⟩ := List.mem_map.mp q
      exact .inr (List.mem_cons_of_mem _ (List.mem_append_right _ (fixT_mem (sp := p.2) hp (F'.keep _ _ e))))
    · exact .inl ⟨q, .inr e⟩
  have Sok : Ok x' (envOfC qual scope L' f cdv) ρ₀ G' T₁ h₁ := by
    refine { st := S₁, base := base, fr := ⟨_, List.mem_cons_self ..⟩, eg := ⟨hk, rfl, rfl⟩, ap := cellsFrom_nd _ _ _ List.nodup_nil fun _ h => (nomatch h), ce := fun p hp => ?_, lo := ⟨_, List.mem_cons_self ..⟩, rho := fun n a e => ?_ }
    · have : p.2 ∈ cells.map (·.1) := by rw [hcs]; exact List.mem_map.mpr ⟨p, hp, rfl⟩
      obtain ⟨q, hq, e⟩ := List.mem_map.mp this
      obtain ⟨n, _, d⟩ := cells_of Y hq
      exact ⟨_, List.mem_cons_of_mem _ (List.mem_append_left _ (e ▸ cellSp_mem (c := q.1) (o := q.2) hq d))⟩
    · obtain ⟨hp, v, P, V⟩ := hρ L' vs G' (r.mono lG) _ (mem_of_lookup e)
      dsimp only at hp P V
      have R : Reads (envOfC qual scope L' f cdv) T₁ n v := by
        rcases P with ⟨k, e⟩ | ⟨k, hce, e⟩
        · exact .inl ⟨k, _, List.mem_cons_self .., e⟩
        · obtain ⟨c, hc⟩ := Option.isSome_iff_exists.mp hce
          obtain ⟨o, ho', hd'⟩ := cells_at Y hc
          rw [e] at hd'
          exact .inr ⟨.inl k, c, hc, List.mem_cons_of_mem _ (List.mem_append_left _ (cellSp_mem ho' hd'))⟩
      have z : ∃ u, Reads (envOfC qual scope L' f cdv) T₁ n u ∧ VR G' u a := ⟨v, R, V⟩
      cases a <;> first | exact z | cases hp
  have hX : XIn (heldX T h₁) T₁ := fun p hp => List.mem_cons_of_mem _ (List.mem_append_right _ (List.mem_map.mpr ⟨p, hp, rfl⟩))
  refine wpAny_mono (hbody x' hx' rfl rfl (heldX T h₁) G' T₁ { s with heap := h₁, toks := tk } _ Sok hX) (fun fl s' p => ?_) fun _ _ e => e
  obtain ⟨h₃, tk₃, rfl, p⟩ := p
  cases fl with
  | next => obtain ⟨_, _, _, _, _, _, q⟩ := p; cases q
  | brk => obtain ⟨_, _, _, _, _, _, q⟩ := p; cases q
  | cont => obtain ⟨_, _, _, _, _, _, q⟩ := p; cases q
  | ret v =>
    obtain ⟨G₃, T₃, av₃, l₃, S₃, X₃, r₃, rfl⟩ := p
    obtain ⟨m₃, hm₃, F₃, N₃⟩ := S₃.fn (x := x') F'.above
    refine ⟨L', m₃, _, F₃, N₃, fun F₄ N₄ => ?_⟩
    refine k v h₃ tk₃ G₃ (lG.tr l₃) ⟨⟨S₃.st.keep, fun p hp => ?_, fun p hp o gg => ?_, S.st.nd⟩, fun b o e => (S.base b o e).imp ((lG.tr l₃).of _ _) id, S.fr⟩ r₃
    · by_cases q : p.1 = x.L
      · obtain ⟨a, sp⟩ := p
        dsimp only at q
        subst q
        have := S.st.one hp hm
        subst this
        obtain ⟨o, ho, q⟩ := ns_obj F₄.ns
        exact ⟨o, ho, q⟩
      · obtain ⟨o, e, q'⟩ := S.st.own p hp
        obtain ⟨o', e', q''⟩ := S₃.st.own _ (X₃ _ (heldX_mem (sp := p.2) hp (kept _ _ q e)))
        cases q''
        exact ⟨o, e', q'⟩
    · obtain ⟨o', e'⟩ := h₁T p hp
      exact S₃.st.off _ (X₃ _ (heldX_mem (sp := p.2) hp e')) o gg
/-- a contract of the walk's kind, as a call's value: ints alone -/
theorem CallV_claim {kk : Nat} {f : Addr} {avs : List AV} {i : Int} (hx : x.Ok w) (hd : x.dp + kk < recursionLimit) (hu : x.un + 8 * kk < cLine)
    (C : ∀ (G : Fz) (vs : List Value), VRs G vs avs → Claim w kk f vs (fun _ => True) (fun r tl => (∃ t, r = .int i t) ∧ tl = [])) : CallV w x (.ref f) avs (.int i) := fun G T s Q E vs S r k => by
  have eA : x.A = x.A0 := by rw [Cx.A, hx.hA]
  rw [eA]
  obtain ⟨m, hm, F, N⟩ := S.fn hx.above
  refine Claim.useI (C G vs r) hx.B F hx.K N hx.Tp hx.hk hd hu fun t h' tk' F' N' => ?_
  exact k _ _ _ G (Fz.rf _) (S.back (tl := []) hm F' N') (.int _ _)
end
end Mine
end
section
open PySem PySem.W PyProof.Rows PySem.Calls PySem.Spec
set_option Elab.async false
set_option maxRecDepth 100000
namespace Mine
open LCg
theorem primeV12 (w : World) : (kk.heap_1 w.params = kk.heap_1 w.params) ∧ PySem.Challenge.rw_wn0104_01 = PySem.Challenge.rw_wn0104_01 := by
  k_fill
  exact ⟨rfl, rfl⟩
theorem k122 (w : World) : ∃ o, (kk.heap_1 w.params).lookup 122 = some o := ⟨_, by k_is⟩
/-- no other name holds a thing of its own -/
noncomputable def Alone (n : Str) (ρ : Rho) : Bool := ρ.all fun p => p.1 == n || p.2.plain
theorem alone_of {n y : Str} {ρ : Rho} {b : AV} (h : Alone n ρ = true) (e : ρ.lookup y = some b) (hne : y ≠ n) : b.plain = true := by
  have := List.all_eq_true.mp h _ (mem_of_lookup e)
  simp only [Bool.or_eq_true, beq_iff_eq] at this
  exact this.resolve_left hne
section
variable {w : World} {x : Cx} {env : Env} {ρ ρ' : Rho} {G G' : Fz} {T T' : Ow} {h h' : Heap} {X : Xs} {Ψ : Pst} {s : Shared} {rest : List Stmt} {a : Addr} {n : Str}
theorem OkB.setObj (S : OkB x G T h) {o o' : Obj} (hm : (a, .obj o) ∈ T) (S' : St G' (setT a (.obj o') T) h') (hG : Fz.le G G') : OkB x G' (setT a (.obj o') T) h' := by
  refine ⟨S', fun b ob e => (S.base b ob e).imp (hG.of _ _) fun hb => ?_, ?_⟩
  · exact setT_mem hb fun q => by dsimp only at q; subst q; cases S.st.one hm hb
  · obtain ⟨m₁, h₁⟩ := S.fr
    exact ⟨m₁, setT_mem h₁ fun q => by dsimp only at q; subst q; cases S.st.one hm h₁⟩
theorem Reads.setObj (S : St G T h) {o o' : Obj} (hm : (a, .obj o) ∈ T) {y : Str} {v : Value} (R : Reads env T y v) : Reads env (setT a (.obj o') T) y v :=
  R.imp (fun ⟨k, m, hm', e⟩ => ⟨k, m, setT_mem hm' (fun q => by dsimp only at q; rw [q] at hm'; cases S.one hm hm'), e⟩) fun ⟨k, c, hc, hm'⟩ => ⟨k, c, hc, setT_mem hm' fun q => by dsimp only at q; subst q; cases S.one hm hm'⟩
theorem XIn.setObj (hX : XIn X T) (S : St G T h) {o o' : Obj} (hm : (a, .obj o) ∈ T) : XIn X (setT a (.obj o') T) := fun p hp => setT_mem (hX p hp) fun q => by
  have z := hX p hp
  dsimp only at q; rw [q] at z; cases S.one hm z
/-- a thing of its own turns -/
theorem Ok.setObj (S : Ok x env ρ G T h) {o o' : Obj} {av : AV} (hm : (a, .obj o) ∈ T) (S' : St G' (setT a (.obj o') T) h') (hG : Fz.le G G') (hal : Alone n ρ = true) (hn : NR env G' (setT a (.obj o') T) n av) : Ok x env ((n, av) :: ρ) G' (setT a (.obj o') T) h' := by
  refine { S.toOkB.setObj hm S' hG with eg := S.eg, ap := S.ap, ce := fun p hp => ?_, lo := ?_, rho := fun y b e => ?_ }
  · obtain ⟨v, m⟩ := S.ce p hp
    exact ⟨v, setT_mem m fun q => by dsimp only at q; subst q; cases S.st.one hm m⟩
  · obtain ⟨v, m⟩ := S.lo
    exact ⟨v, setT_mem m fun q => by dsimp only at q; rw [q] at m; cases S.st.one hm m⟩
  · rw [List.lookup_cons] at e
    by_cases q : y = n
    · subst q
      simp only [beq_self_eq_true] at e
      cases e
      exact hn
    · have q' : (y == n) = false := by simpa using q
      simp only [q'] at e
      have hp := alone_of hal e q
      obtain ⟨v, R, V⟩ := NR.val hp (S.rho y b e)
      have z : ∃ u, Reads env (setT a (.obj o') T) y u ∧ VR G' u b := ⟨v, R.setObj S.st hm, V.mono hG⟩
      cases b <;> first | exact z | cases hp
theorem own_off (S : Ok x env ρ G T h) {o : Obj} (hm : (a, .obj o) ∈ T) : a ≠ env.locals ∧ ∀ c ∈ env.cells.map (·.2), a ≠ c := by
  refine ⟨fun q => ?_, fun c hc q => ?_⟩
  · obtain ⟨m, hl⟩ := S.lo
    rw [q] at hm; cases S.st.one hm hl
  · obtain ⟨p, hp, rfl⟩ := List.mem_map.mp hc
    obtain ⟨v, hv⟩ := S.ce p hp
    rw [q] at hm; cases S.st.one hm hv
/-- a name is given a new thing of its own -/
theorem Ok.putOwn (S : Ok x env ρ G ((a, .obj o₁) :: T) h) {v : Value} {av : AV} (hv : v = .ref a) (P : putT env ((a, .obj o₁) :: T) n v T') (S' : OkB x G T' h') (hal : ∀ y b, ρ.lookup y = some b → y ≠ n → b.plain = true)
    (hn : Reads env T' n (.ref a) → (a, .obj o₁) ∈ T' → NR env G T' n av) : Ok x env ((n, av) :: ρ) G T' h' := by
  have ha := S.ap
  refine { S' with eg := S.eg, ap := S.ap, ce := fun p hp => P.cell S.st (S.ce p hp), lo := P.ns S.st S.lo, rho := fun y b e => ?_ }
  rw [List.lookup_cons] at e
  by_cases q : y = n
  · subst q
    simp only [beq_self_eq_true] at e
    cases e
    exact hn (hv ▸ P.self) (P.mem_obj S.st (List.mem_cons_self ..))
  · have q' : (y == n) = false := by simpa using q
    simp only [q'] at e
    have hp := hal y b e q
    obtain ⟨u, R, V⟩ := NR.val hp (S.rho y b e)
    have z : ∃ u, Reads env T' y u ∧ VR G u b := ⟨u, P.other S.st ha q R, V⟩
    cases b <;> first | exact z | cases hp
theorem Run_new {p p' pos : Pos} (hk : Kept env n) (hal : Alone n ρ = true) (H : Run w x env ((n, .own []) :: ρ) rest Ψ) (hs : swapsWith (.List [] p') (some (.Name n p)) pos.line env = pure false := by rfl) : Run w x env ρ (.Assign [.Name n p] (.List [] p') pos :: rest) Ψ := fun X G T s E S hX => by
  refine wpAny_execs_cons (wpAny_Assign_Name (List_ (spliced_nil (wpAny_newList (hsz := by decide) ?_))) hs)
  have S1 : Ok x env ρ G ((s.heap.objs.size, .obj (listOf #[] 0)) :: T) (s.heap.push (listOf #[] 0)) := S.more1 (S.toOkB.mem (S.st.consPush _ rfl) (Fz.rf _) fun a sp hm _ _ _ => List.mem_cons_of_mem _ hm) (Fz.rf _)
  refine storeV (s := { s with heap := s.heap.push (listOf #[] 0) }) S1.toOkB S1.eg (S1.slot hk) fun T' h' tk P S' => ?_
  refine H.step (S1.putOwn rfl P S' (fun y b e hne => alone_of hal e hne) fun R hm => ?_) (Fz.rf _) (XIn.put (fun p hp => List.mem_cons_of_mem _ (hX p hp)) P S1.st)
  have z := own_off S1 (List.mem_cons_self ..)
  exact ⟨_, [], 0, R, hm, .nil, z.1, z.2⟩
theorem Run_newD {p p' pos : Pos} (hx : x.Ok w) (hk : Kept env n) (hal : Alone n ρ = true) (H : Run w x env ((n, .ownd w []) :: ρ) rest Ψ) (hs : swapsWith (.Dict [] [] p') (some (.Name n p)) pos.line env = pure false := by rfl) : Run w x env ρ (.Assign [.Name n p] (.Dict [] [] p') pos :: rest) Ψ := fun X G T s E S hX => by
  refine wpAny_execs_cons (wpAny_Assign_Name ?_ hs)
  rw [eval_Dict_empty]
  refine wpAny_bind (wpAny_standAt (wpAny_newObj_type ?_))
  have S1 : Ok x env ρ G ((s.heap.objs.size, .obj { cls := .type "dict", data := .dict #[] }) :: T) (s.heap.push { cls := .type "dict", data := .dict #[] }) := S.more1 (S.toOkB.mem (S.st.consPush _ rfl) (Fz.rf _) fun a sp hm _ _ _ => List.mem_cons_of_mem _ hm) (Fz.rf _)
  refine storeV (s := { s with heap := s.heap.push { cls := .type "dict", data := .dict #[] } }) S1.toOkB S1.eg (S1.slot hk) fun T' h' tk P S' => ?_
  refine H.step (S1.putOwn rfl P S' (fun y b e hne => alone_of hal e hne) fun R hm => ?_) (Fz.rf _) (XIn.put (fun p hp => List.mem_cons_of_mem _ (hX p hp)) P S1.st)
  have z := own_off S1 (List.mem_cons_self ..)
  refine ⟨_, _, [], R, hm, ⟨#[], 0, ⟨rfl, rfl, rfl⟩, rfl, fun _ he => (nomatch he), .nil, List.nodup_nil⟩, fun q => ?_, .nil, z.1, z.2⟩
  have h1 : @LT.lt Nat _ 122 x.h₀.objs.size := Heap.lt_size (hx.K _ _ (k122 w).choose_spec)
  obtain ⟨m, hm'⟩ := S.fr
  have h2 : @LT.lt Nat _ x.L s.heap.objs.size := S.st.lt hm'
  have h3 : @LE.le Nat _ x.h₀.objs.size x.L := hx.above
  have q' : @Eq Nat s.heap.objs.size sysModules := q
  have : @Eq Nat sysModules 1 := rfl
  omega
theorem own_name (S : Ok x env ρ G T s.heap) {p : Pos} {v : Value} {Q E : Value → Shared → Prop} (R : Reads env T n v) (hd : (n == ("__debug__" : Str)) = false) (hn : (n == ("__classdict__" : Str)) = false) (k : Q v s) : wpAny (model pg w) x.A (eval (.Name n p) env) Q E s := R.run S.eg S.st hd hn k
theorem Run_append {p ap cp pos : Pos} {e : PySem.Expr} {xs : List AV} {av : AV} (hr : ρ.lookup n = some (.own xs)) (hal : Alone n ρ = true) (he : EV w x env ρ e av) (hsz : xs.length ≤ 1000) (H : Run w x env ((n, .own (xs ++ [av])) :: ρ) rest Ψ) (pl : Sem Bool)
    (hm : eval (.Call (.Attribute (.Name n p) (Str.ofString "append") ap) [e] [] cp) env = (do
      let ov ← eval (.Name n p) env
      standAt ap.atName
      let (f, first) ← holding [ov] (getMethod ov (Str.ofString "append") pl)
      callWith cp f first (backTo cp (starEach [e] env)) []))
    (hs : starEach [e] env = (false, eval e env) :: starEach [] env := by rfl) (hi : interactive env = false := by rfl) (hsw : swapsWith (.Call (.Attribute (.Name n p) (Str.ofString "append") ap) [e] [] cp) none pos.line env = pure false := by rfl)
    (hd : (n == ("__debug__" : Str)) = false := by decide) (hn : (n == ("__classdict__" : Str)) = false := by decide) : Run w x env ρ (.Expr (.Call (.Attribute (.Name n p) (Str.ofString "append") ap) [e] [] cp) pos :: rest) Ψ := fun X G T s E S hX => by
  obtain ⟨a, vs, k, R, ham, V, d1, d2⟩ := S.rho n _ hr
  refine wpAny_execs_cons (wpAny_Expr (MethodCall_ (own_name S R hd hn ?_) hm) hi hsw)
  obtain ⟨o, ho, q⟩ := S.st.own _ ham
  cases q
  refine getMethod_list_append ho rfl rfl (callWith_method1 (EVL_cons he EVL_nil hs G T _ _ _ S fun us h2 tk2 G2 l2 S2 r2 => ?_) hs)
  cases r2 with | @cons u _ _ _ r r2 =>
  cases r2
  obtain ⟨o, ho, q⟩ := S2.st.own _ ham
  cases q
  refine append_at (hsz := by rw [List.size_toArray, V.length, sizeLine_eq]; omega) ho fun h₅ hs₅ hD₅ => ?_
  have e1 : ({ cls := .type "list", data := .seq (vs.toArray.push u) (k + 1) } : Obj) = listOf (vs ++ [u]).toArray (k + 1) := by simp
  rw [e1] at hD₅
  have S' : St G2 (setT a (.obj (listOf (vs ++ [u]).toArray (k + 1))) T) h₅ := S2.st.upd ham (fun b o hb e => hs₅.extBut b o hb e) hD₅ rfl
  refine H.step (S2.setObj ham S' (Fz.rf _) hal ⟨a, _, k + 1, R.setObj S2.st ham, setT_self ham, (V.mono l2).append (.cons r .nil), d1, d2⟩) l2 (hX.setObj S2.st ham)
theorem Run_extend {p ap cp pos : Pos} {e : PySem.Expr} {xs ys : List AV} (hr : ρ.lookup n = some (.own xs)) (hal : Alone n ρ = true) (he : EV w x env ρ e (.list ys)) (hsz : xs.length + ys.length ≤ 1000) (H : Run w x env ((n, .own (xs ++ ys)) :: ρ) rest Ψ) (pl : Sem Bool)
    (hm : eval (.Call (.Attribute (.Name n p) (Str.ofString "extend") ap) [e] [] cp) env = (do
      let ov ← eval (.Name n p) env
      standAt ap.atName
      let (f, first) ← holding [ov] (getMethod ov (Str.ofString "extend") pl)
      callWith cp f first (backTo cp (starEach [e] env)) []))
    (hs : starEach [e] env = (false, eval e env) :: starEach [] env := by rfl) (hi : interactive env = false := by rfl) (hsw : swapsWith (.Call (.Attribute (.Name n p) (Str.ofString "extend") ap) [e] [] cp) none pos.line env = pure false := by rfl)
    (hd : (n == ("__debug__" : Str)) = false := by decide) (hn : (n == ("__classdict__" : Str)) = false := by decide) : Run w x env ρ (.Expr (.Call (.Attribute (.Name n p) (Str.ofString "extend") ap) [e] [] cp) pos :: rest) Ψ := fun X G T s E S hX => by
  obtain ⟨a, vs, k, R, ham, V, d1, d2⟩ := S.rho n _ hr
  refine wpAny_execs_cons (wpAny_Expr (MethodCall_ (own_name S R hd hn ?_) hm) hi hsw)
  obtain ⟨o, ho, q⟩ := S.st.own _ ham
  cases q
  refine getMethod_builtin ⟨_, ho, rfl⟩ PySem.F.plainAttrs_list PySem.F.slot_list_extend PySem.F.type_list_extend (fun a e => by cases e; exact ⟨_, ho, rfl⟩) (callWith_method1 (EVL_cons he EVL_nil hs G T _ _ _ S fun us h2 tk2 G2 l2 S2 r2 => ?_) hs)
  cases r2 with | cons r r2 =>
  cases r2
  cases r with | @list b ob us n2 _ g c d e' q =>
  obtain ⟨cc, dd, da, sl⟩ := ob
  obtain ⟨rfl, rfl⟩ := d
  dsimp only at c e'
  subst c; subst e'
  obtain ⟨o, ho, qo⟩ := S2.st.own _ ham
  cases qo
  have hb := S2.st.keep _ _ g
  have hsz' : vs.toArray.size + us.toArray.size ≤ sizeLine := by rw [List.size_toArray, List.size_toArray, V.length, q.length, sizeLine_eq]; omega
  refine call_meets PySem.F.slot_list_extend ⟨_, ho, rfl⟩ PySem.F.entry_list_extend (PySem.F.args_list_extend_2 _ _) (AutoSeq1.list_extend_list_list_0 a vs.toArray k b us.toArray n2 (extend_door hsz') (Nat.le_trans (Nat.le_add_right _ _) hsz')) ⟨ho, hb, ?_⟩
  have e1 : vs.toArray ++ us.toArray = (vs ++ us).toArray := by simp
  have ho' : (h2.update a (Obj.mapSeq fun x => x ++ us.toArray)).get? a = some (listOf (vs ++ us).toArray (if (vs.toArray ++ us.toArray).size == vs.toArray.size then k else k + 1)) := by
    rw [Heap.get?_update_self _ ho (by rw [mapSeq_app]; rfl), mapSeq_app, e1]
  have hs₅ : Heap.SameBut a h2 (h2.update a (Obj.mapSeq fun x => x ++ us.toArray)) := Heap.SameBut.update ..
  have S' : St G2 (setT a (.obj (listOf (vs ++ us).toArray (if (vs.toArray ++ us.toArray).size == vs.toArray.size then k else k + 1))) T) (h2.update a (Obj.mapSeq fun x => x ++ us.toArray)) := S2.st.upd ham (fun b o hb e => hs₅.extBut b o hb e) ho' rfl
  exact H.step (S2.setObj ham S' (Fz.rf _) hal ⟨a, _, _, R.setObj S2.st ham, setT_self ham, (V.mono l2).append q, d1, d2⟩) l2 (hX.setObj S2.st ham)
theorem VRd.keys {G : Fz} : ∀ {kvs : List (Str × Value)} {es : List (Str × AV)}, VRd G kvs es → kvs.map (·.1) = es.map (·.1)
  | _, _, .nil => rfl
  | _, _, .cons _ r => by rw [List.map_cons, List.map_cons, r.keys]
theorem VRd.snoc {G : Fz} : ∀ {kvs : List (Str × Value)} {es : List (Str × AV)}, VRd G kvs es → ∀ {kk : Str} {v : Value} {av : AV}, VR G v av → VRd G (kvs ++ [(kk, v)]) (es ++ [(kk, av)])
  | _, _, .nil, _, _, _, h => .cons h .nil
  | _, _, .cons a r, _, _, _, h => .cons a (r.snoc h)
theorem stored_new {kvs : List (Str × Value)} {kk : Str} {v : Value} (h : kk ∉ kvs.map (·.1)) : stored kvs kk v = kvs ++ [(kk, v)] := by
  unfold stored
  rw [if_neg]
  simp only [List.any_eq_true, decide_eq_true_eq, not_exists, not_and]
  exact fun p hp e => h (List.mem_map.mpr ⟨p, hp, e⟩)
theorem Run_setD {p ip pos : Pos} {e i : PySem.Expr} {es : List (Str × AV)} {kk : Str} {av : AV} (hr : ρ.lookup n = some (.ownd w es)) (hal : Alone n ρ = true) (he : EV w x env ρ e av) (hi : EV w x env ρ i (.str kk)) (hnew : kk ∉ es.map (·.1)) (hsz : es.length ≤ 1000) (H : Run w x env ((n, .ownd w (es ++ [(kk, av)])) :: ρ) rest Ψ)
    (hs : swapsWith e (some (.Subscript (.Name n p) i ip)) pos.line env = pure false := by rfl) (hd : (n == ("__debug__" : Str)) = false := by decide) (hn : (n == ("__classdict__" : Str)) = false := by decide) : Run w x env ρ (.Assign [.Subscript (.Name n p) i ip] e pos :: rest) Ψ := fun X G T s E S hX => by
  refine wpAny_execs_cons (wpAny_Assign_Subscript (he G T s _ _ S fun v h1 tk1 G1 l1 S1 r1 => ?_) hs)
  obtain ⟨a, o, kvs, R, ham, hdi, hne, V, d1, d2⟩ := S1.rho n _ hr
  refine own_name (s := ⟨h1, s.gens, s.drawn, tk1, s.os⟩) S1 R hd hn (hi G1 T _ _ _ S1 fun u h2 tk2 G2 l2 S2 r2 => ?_)
  cases r2
  obtain ⟨o', ho, q⟩ := S2.st.own _ ham
  cases q
  refine wpAny_setItem_pairs (knd := strKind pg w) (k := kk) (hsz := by rw [V.length, sizeLine_eq]; omega) (strKind_is ..) (Heap.dictOf_iff.mpr ⟨o, ho, hdi⟩) fun h' hmm hs' => ?_
  obtain ⟨o', ho', hd'⟩ := Heap.dictOf_iff.mp hmm
  rw [stored_new (by rw [V.keys]; exact hnew)] at hd'
  have S' : St G2 (setT a (.obj o') T) h' := S2.st.upd ham (fun b o hb e => hs'.extBut b o hb e) ho' rfl
  exact H.step (S2.setObj ham S' (Fz.rf _) hal ⟨a, o', _, R.setObj S2.st ham, setT_self ham, hd', hne, (V.mono l2).snoc (r1.mono l2), d1, d2⟩) (l1.tr l2) (hX.setObj S2.st ham)
/-- what is one's own will not turn from now on -/
theorem drop_perm {T : Ow} {p : Addr × Sp} (hp : p ∈ T) : ∃ U, List.Perm T (p :: U) := by
  obtain ⟨a, b, rfl⟩ := List.append_of_mem hp
  exact ⟨a ++ b, List.perm_middle⟩
theorem Ok.freezeAt (S : Ok x env ρ G T h) {o : Obj} (hm : (a, .obj o) ∈ T) (hal : Alone n ρ = true) {av : AV} (hav : av.plain = true) (hn : ∀ U, (∀ b sp, (b, sp) ∈ T → (∀ o, sp ≠ .obj o) → (b, sp) ∈ U) → ∃ v, Reads env U n v ∧ VR (G.add a o) v av) : ∃ U, Ok x env ((n, av) :: ρ) (G.add a o) U h ∧ ∀ b sp, (b, sp) ∈ T → (∀ o, sp ≠ .obj o) → (b, sp) ∈ U := by
  obtain ⟨U, hU⟩ := drop_perm hm
  have sub : ∀ b sp, (b, sp) ∈ T → (∀ o, sp ≠ .obj o) → (b, sp) ∈ U := fun b sp hb hne => by
    rcases List.mem_cons.mp (hU.mem_iff.mp hb) with q | q
    · cases q; exact absurd rfl (hne o)
    · exact q
  have S' : St (G.add a o) U h := (S.st.perm hU).freeze
  have rd : ∀ {y : Str} {v : Value}, Reads env T y v → Reads env U y v := fun R => R.imp (fun ⟨k, m, hm, e⟩ => ⟨k, m, sub _ _ hm (fun _ e => nomatch e), e⟩) fun ⟨k, c, hc, hm⟩ => ⟨k, c, hc, sub _ _ hm (fun _ e => nomatch e)⟩
  refine ⟨U, { st := S', base := fun b ob e => ?_, fr := ?_, eg := S.eg, ap := S.ap, ce := fun p hp => ?_, lo := ?_, rho := fun y b e => ?_ }, sub⟩
  · exact (S.base b ob e).imp .inl fun hb => sub _ _ hb (fun _ e => nomatch e)
  · obtain ⟨m, hm⟩ := S.fr; exact ⟨m, sub _ _ hm (fun _ e => nomatch e)⟩
  · obtain ⟨v, hm⟩ := S.ce p hp; exact ⟨v, sub _ _ hm (fun _ e => nomatch e)⟩
  · obtain ⟨m, hm⟩ := S.lo; exact ⟨m, sub _ _ hm (fun _ e => nomatch e)⟩
  · rw [List.lookup_cons] at e
    by_cases q : y = n
    · subst q
      simp only [beq_self_eq_true] at e
      cases e
      have z := hn U sub
      cases av <;> first | exact z | cases hav
    · have q' : (y == n) = false := by simpa using q
      simp only [q'] at e
      have hp := alone_of hal e q
      obtain ⟨v, R, V⟩ := NR.val hp (S.rho y b e)
      have z : ∃ u, Reads env U y u ∧ VR (G.add a o) u b := ⟨v, rd R, V.mono (Fz.le_add ..)⟩
      cases b <;> first | exact z | cases hp
theorem Run_freeze (n : Str) {xs : List AV} (hr : ρ.lookup n = some (.own xs)) (hal : Alone n ρ = true) (H : Run w x env ((n, .list xs) :: ρ) rest Ψ) : Run w x env ρ rest Ψ := fun X G T s E S hX => by
  obtain ⟨a, vs, k, R, ham, V, d1, d2⟩ := S.rho n _ hr
  obtain ⟨U, S', sub⟩ := S.freezeAt (n := n) (av := .list xs) ham hal rfl fun U sub => ⟨_, R.imp (fun ⟨k, m, hm, e⟩ => ⟨k, m, sub _ _ hm (fun _ e => nomatch e), e⟩) fun ⟨k, c, hc, hm⟩ => ⟨k, c, hc, sub _ _ hm (fun _ e => nomatch e)⟩, .list (.inr ⟨rfl, rfl⟩) rfl ⟨rfl, rfl⟩ rfl (V.mono (Fz.le_add ..))⟩
  exact H.step (s := s) (tk := s.toks) S' (Fz.le_add ..) fun p hp => sub _ _ (hX p hp) (fun _ e => nomatch e)
theorem Run_freezeD (n : Str) {es : List (Str × AV)} (hr : ρ.lookup n = some (.ownd w es)) (hal : Alone n ρ = true) (H : Run w x env ((n, .sdict w es) :: ρ) rest Ψ) : Run w x env ρ rest Ψ := fun X G T s E S hX => by
  obtain ⟨a, o, kvs, R, ham, hdi, hne, V, d1, d2⟩ := S.rho n _ hr
  obtain ⟨U, S', sub⟩ := S.freezeAt (n := n) (av := .sdict w es) ham hal rfl fun U sub => ⟨_, R.imp (fun ⟨k, m, hm, e⟩ => ⟨k, m, sub _ _ hm (fun _ e => nomatch e), e⟩) fun ⟨k, c, hc, hm⟩ => ⟨k, c, hc, sub _ _ hm (fun _ e => nomatch e)⟩, .sdict (.inr ⟨rfl, rfl⟩) hdi hne (V.mono (Fz.le_add ..))⟩
  exact H.step (s := s) (tk := s.toks) S' (Fz.le_add ..) fun p hp => sub _ _ (hX p hp) (fun _ e => nomatch e)
/-- n += e, ints -/
theorem Run_augI {p pos : Pos} {e : PySem.Expr} {i j : Int} (hr : ρ.lookup n = some (.int i)) (hk : Kept env n) (he : EV w x env ρ e (.int j)) (H : Run w x env ((n, .int (i + j)) :: ρ) rest Ψ) (hd : (n == ("__debug__" : Str)) = false := by decide) : Run w x env ρ (.AugAssign (.Name n p) .Add e pos :: rest) Ψ := fun X G T s E S hX => by
  obtain ⟨v, R, V⟩ := NR.val rfl (S.rho n _ hr)
  cases V
  refine wpAny_execs_cons (wpAny_AugAssign_Name ?_)
  have fin : wpAny (model pg w) x.A (eval e env) (fun v s₂ => wpAny (model pg w) x.A (inplaceOp .Add (.int i ‹Tok›) v) (fun r s₃ => wpAny (model pg w) x.A (storeName env n r) (fun _ s' => wpAny (model pg w) x.A (execs rest env) (Post x env X Ψ G s) E s') E s₃) E s₂) E s := by
    refine he G T s _ _ S fun v h1 tk1 G1 l1 S1 r1 => ?_
    cases r1
    refine wpAny_iadd_int ?_
    exact storeV (s := ⟨h1, s.gens, s.drawn, tk1 + 1, s.os⟩) S1.toOkB S1.eg (S1.slot hk) fun T' h' tk P S' => H.step (S1.put P S' (.int _ _) rfl) l1 (hX.put P S1.st)
  rcases R with ⟨k, m, hm, e⟩ | ⟨k, c, hc, hm⟩
  · obtain ⟨o, ho, q⟩ := S.st.own _ hm
    exact wpAny_loadName_local S.eg.kind k (NsObj.ns q ho) e fin
  · obtain ⟨o, ho, q⟩ := S.st.own _ hm
    rcases k with k | k
    · exact wpAny_loadName_cell S.eg.kind k hc ⟨o, ho, q⟩ fin
    · rcases hk with hk | ⟨hk, _⟩ <;> rw [hk] at k <;> cases k
/-- a while: measure and what holds -/
theorem Run_while {t : PySem.Expr} {body : List Stmt} {pos : Pos} {σ : Type} (J : σ → Rho → Prop) (μ : σ → Nat) (cond : σ → Bool) (c₀ : σ) (h0 : J c₀ ρ)
    (ht : ∀ c ρ', J c ρ' → EB w x env ρ' t (cond c))
    (turn : ∀ c ρ', J c ρ' → cond c = true → Run w x env ρ' body { n := fun ρ'' => ∃ c', J c' ρ'' ∧ μ c' < μ c, c := fun ρ'' => ∃ c', J c' ρ'' ∧ μ c' < μ c, b := fun ρ' => Run w x env ρ' rest Ψ, r := Ψ.r })
    (done : ∀ c ρ', J c ρ' → cond c = false → Run w x env ρ' rest Ψ) : Run w x env ρ (.While t body [] pos :: rest) Ψ := fun X G T s E S hX => by
  refine wpAny_execs_cons (wpAny_While ?_)
  refine codeAny_whileLoop (fun k s' => ∃ h' tk c ρ' G' T', s' = { s with heap := h', toks := tk } ∧ k = μ c ∧ Fz.le G G' ∧ Ok x env ρ' G' T' h' ∧ XIn X T' ∧ J c ρ') ?_ (μ c₀) ⟨s.heap, s.toks, c₀, ρ, G, T, rfl, rfl, Fz.rf _, S, hX, h0⟩
  rintro k s' ⟨h', tk, c, ρ', G', T', rfl, rfl, hG, S', hX', hJ⟩
  refine ht c ρ' hJ G' T' _ _ _ S' fun h1 tk1 G1 l1 S1 => ?_
  cases hc : cond c with
  | false =>
    simp only [Bool.false_eq_true, if_false]
    exact wpAny_execs_nil (Run.step (done c ρ' hJ hc) S1 (hG.tr l1) hX')
  | true =>
    simp only [if_true]
    have back : ∀ {G'' : Fz} {T'' : Ow} {h'' : Heap} {tk'' : Nat} {ρ'' : Rho}, Fz.le G1 G'' → Ok x env ρ'' G'' T'' h'' → XIn X T'' → (∃ c', J c' ρ'' ∧ μ c' < μ c) →
        ∃ m, m < μ c ∧ ∃ h' tk c ρ' G' T', ({ s with heap := h'', toks := tk'' } : Shared) = { s with heap := h', toks := tk } ∧ m = μ c ∧ Fz.le G G' ∧ Ok x env ρ' G' T' h' ∧ XIn X T' ∧ J c ρ' :=
      fun l'' S'' X'' ⟨c', J', hlt⟩ => ⟨μ c', hlt, _, _, c', _, _, _, rfl, rfl, hG.tr (l1.tr l''), S'', X'', J'⟩
    refine wpAny_mono (turn c ρ' hJ hc X G1 T' _ _ S1 hX') (fun f s₅ p => ?_) fun _ _ e => e
    obtain ⟨h₅, tk₅, rfl, p⟩ := p
    cases f with
    | next => obtain ⟨G₅, T₅, ρ₅, l₅, S₅, X₅, J₅⟩ := p; exact back l₅ S₅ X₅ J₅
    | cont => obtain ⟨G₅, T₅, ρ₅, l₅, S₅, X₅, J₅⟩ := p; exact back l₅ S₅ X₅ J₅
    | brk => obtain ⟨G₅, T₅, ρ₅, l₅, S₅, X₅, H₅⟩ := p; exact Run.step H₅ S₅ (hG.tr (l1.tr l₅)) X₅
    | ret v => obtain ⟨G₅, T₅, av₅, l₅, S₅, X₅, r₅, H₅⟩ := p; exact ⟨h₅, tk₅, rfl, G₅, T₅, av₅, hG.tr (l1.tr l₅), S₅, X₅, r₅, H₅⟩
end
end Mine
end
section
open PySem PySem.W PyProof.Rows PySem.Calls PySem.Spec
set_option Elab.async false
set_option maxRecDepth 100000
namespace Mine
open LCg
section
variable {w : World} {x : Cx} {env : Env} {ρ ρv : Rho} {G G' : Fz} {T T' : Ow} {h h' : Heap} {a : Addr} {o : Obj}
theorem perm_in (p q r i : Addr × Sp) (U V : Ow) : List.Perm (p :: i :: q :: r :: (U ++ V)) (p :: q :: r :: (U ++ i :: V)) := by
  refine List.Perm.cons p ?_
  have h1 : List.Perm (q :: r :: (U ++ i :: V)) (i :: q :: r :: (U ++ V)) := by
    have e1 : q :: r :: (U ++ i :: V) = (q :: r :: U) ++ i :: V := rfl
    have e2 : i :: q :: r :: (U ++ V) = i :: ((q :: r :: U) ++ V) := rfl
    rw [e1, e2]; exact List.perm_middle
  exact h1.symm
theorem perm_out (q r i : Addr × Sp) (U V : Ow) : List.Perm (q :: r :: (U ++ i :: V)) (i :: q :: r :: (U ++ V)) := by
  have e1 : q :: r :: (U ++ i :: V) = (q :: r :: U) ++ i :: V := rfl
  have e2 : i :: q :: r :: (U ++ V) = i :: ((q :: r :: U) ++ V) := rfl
  rw [e1, e2]; exact List.perm_middle
theorem OkB.perm (S : OkB x G T h) (hp : List.Perm T T') : OkB x G T' h :=
  ⟨S.st.perm hp, fun b o e => (S.base b o e).imp id fun hm => hp.mem_iff.mp hm, let ⟨m, hm⟩ := S.fr; ⟨m, hp.mem_iff.mp hm⟩⟩
/-- two clauses gone through -/
theorem vloop2 {R : Result → Shared → Prop} {elt i0 i1 : PySem.Expr} {x0 x1 : Str} {px0 px1 : Pos} {ifs : List PySem.Expr} {scope : Scope} {cl : List (Str × Addr)} {pos : Pos} {C D I : Addr} {fp : List Addr} {P : Nat → Value → Prop} {Si : Nat → Heap → Prop} {G₁ : Fz} {its : List AV} {s : Shared} (av1 : AV → AV) (its1 : AV → List AV) (F : AV → AV → Option AV)
    (W : Walks pg w x.A I fp [I] its.length P Si) (here : ∀ i h, Si i h → ∃ o, h.get? I = some o) (hfp : ∀ b ∈ fp, b = I ∨ ∃ o, G₁ b o) (item : ∀ (i : Nat) (v : Value), i < its.length → P i v → ∃ a, its[i]? = some a ∧ VR G₁ v a)
    (hsz : (its.flatMap its1).length ≤ 16000000) (now : Si 0 s.heap) (hpl : ∀ av ∈ its, av.plain = true) (hpl1 : ∀ av ∈ its, ∀ b ∈ its1 av, b.plain = true) (hne : x1 ≠ x0)
    (g : EnvG env) (hkind : scope.kind = .function) (hin : ∀ p ∈ cl, p ∈ env.cells ∨ p.2 ∈ ownAdr (C + 1) scope.names) (hap : Apt (cEnv scope cl C env)) (hce : ∀ p ∈ env.cells, ∃ v, (p.2, .cell v) ∈ T) (hr : ∀ n av, ρ.lookup n = some av → NR env G₁ T n av) (hv : VisR env (cEnv scope cl C env) ρ ρv)
    (hn0 : (cEnv scope cl C env).kindOf x0 = some .local) (hn1 : (cEnv scope cl C env).kindOf x1 = some .local) (hs1 : ∀ y, foldedSetIterable i1 (cEnv scope cl C env) y = pure y)
    {mC : Str → Option Value} {cells : Ow} (S : OkB x G₁ ((I, .any) :: (C, .ns mC) :: (D, .obj (lst [])) :: (cells ++ T)) s.heap) (hc : CellsIn (ownAdr (C + 1) scope.names) cells)
    (inner : ∀ av ∈ its, EV w x (cEnv scope cl C env) ((x0, av) :: ρv) i1 (av1 av) ∧ ItV w (av1 av) (its1 av))
    (turn : ∀ av ∈ its, ∀ b ∈ its1 av, TurnV w x (cEnv scope cl C env) ((x1, b) :: (x0, av) :: ρv) elt ifs (F av b))
    (done : ∀ ys G mC cells h tk, Fz.le G₁ G → CellsIn (ownAdr (C + 1) scope.names) cells → OkB x G ((C, .ns mC) :: (D, .obj (lst ys)) :: (cells ++ T)) h → VRs G ys (its.flatMap fun a => (its1 a).filterMap (F a)) → R (.ok .next) { s with heap := h, toks := tk }) :
    codeAny (model pg w) x.A (.compLoop (.ListComp elt [⟨.Name x0 px0, i0, [], 0⟩, ⟨.Name x1 px1, i1, ifs, 0⟩] scope pos) 0 (.ref I) (.ref D) (cEnv scope cl C env)) R s := by
  have lenle : ∀ l : List AV, ((l.flatMap fun a => (its1 a).filterMap (F a)).length) ≤ (l.flatMap its1).length := fun l => by
    induction l with
    | nil => exact Nat.le_refl _
    | cons a r ih =>
      rw [List.flatMap_cons, List.flatMap_cons, List.length_append, List.length_append]
      exact Nat.add_le_add (List.length_filterMap_le ..) ih
  refine loop_out
    (LoopI x (ownAdr (C + 1) scope.names) its.length s G₁ Si (fun _ _ => True) (fun mC ys cells => (I, .any) :: (C, .ns mC) :: (D, .obj (lst ys)) :: (cells ++ T)) fun i => (its.take i).flatMap fun a => (its1 a).filterMap (F a)) ?_ (its.length + 1)
    (.mk (h' := s.heap) (i := 0) (Nat.zero_le _) rfl now (Fz.rf _) hc trivial S .nil) (fun _ => rfl) hs1
  intro k s' inv
  cases inv with | @mk h' tk i ys mC' cells' G hi hk hst hG hc' hInv S' hys =>
  subst hk
  by_cases hlt : i < its.length
  · refine W.item i _ _ _ hlt hst fun v h₂ tk₂ hP hst₂ hk₂ => ?_
    obtain ⟨av, hav, hvr⟩ := item i v hlt hP
    have hmem : av ∈ its := List.mem_of_getElem? hav
    obtain ⟨oI, heI⟩ := here _ _ hst₂
    have k₂ : ∀ b o, b ≠ I → h'.get? b = some o → h₂.get? b = some o := fun b o hb e => hk₂ b o (fun z => hb (List.mem_singleton.mp z)) e
    have S₂ : OkB x G ((I, .obj oI) :: (C, .ns mC') :: (D, .obj (lst ys)) :: (cells' ++ T)) h₂ := S'.turn (S'.st.turn k₂ heI rfl) (Fz.rf _) (fun _ e => nomatch e) (fun _ e => nomatch e)
    refine wpAny_assign_Name (block_put (s := ⟨h₂, s.gens, s.drawn, tk₂, s.os⟩) (ρl := []) (ρ := ρ) (ρv := ρv) g hkind hin hap hce (fun n av e => (hr n av e).mono hG) hv S₂ hc' (.inl hn0) (hvr.mono hG) (hpl av hmem) (fun _ h => nomatch h) fun mC₃ cells₃ h₃ tk₃ hc₃ _ S₃ => ?_)
    obtain ⟨hEV, hIt⟩ := inner av hmem
    refine hEV G _ _ _ _ S₃ fun xv h₄ tk₄ G₄ l₄ S₄ r₄ => ?_
    refine iterV (s := ⟨h₄, s.gens, s.drawn, tk₄, s.os⟩) S₄.toOkB r₄ hIt fun I2 fp2 P2 Si2 h₅ It => ?_
    have hbn : h₄.get? I2 = none := by rw [It.new]; exact none_size h₄
    have inv₄ : ∃ u, mC₃ x0 = some u ∧ VR G₄ u av := by
      obtain ⟨u, R, V⟩ := NR.val (hpl av hmem) (S₄.rho x0 av (by simp))
      rcases R with ⟨_, m, hm, e⟩ | ⟨k, _⟩
      · have z := S₄.st.one hm (List.mem_cons_of_mem _ (List.mem_cons_self ..))
        cases z
        exact ⟨u, e, V⟩
      · rw [hn0] at k; rcases k with k | k <;> cases k
    have S₅ : OkB x G₄ ((I2, .any) :: (C, .ns mC₃) :: (D, .obj (lst ys)) :: (cells₃ ++ ((I, .obj oI) :: T))) h₅ :=
      (S₄.toOkB.mem (T' := (I2, .any) :: (I, .obj oI) :: (C, .ns mC₃) :: (D, .obj (lst ys)) :: (cells₃ ++ T)) (S₄.st.cons It.keep (It.here _ _ It.now).choose_spec hbn trivial) (Fz.rf _) fun a sp hm _ _ _ => List.mem_cons_of_mem _ hm).perm (perm_in _ _ _ _ _ _)
    have hylen : ys.length + (its1 av).length ≤ 16777216 := by
      have h1 := lenle (its.take i)
      rw [hys.length]
      have h2 : ((its.take (i + 1)).flatMap its1).length ≤ (its.flatMap its1).length := by
        conv => rhs; rw [← List.take_append_drop (i + 1) its, List.flatMap_append, List.length_append]
        omega
      rw [List.take_add_one, hav, List.flatMap_append, List.length_append] at h2
      simp only [Option.toList_some, List.flatMap_cons, List.flatMap_nil, List.append_nil] at h2
      omega
    refine start_in ?_ (It.W.self 0 ⟨h₅, s.gens, s.drawn, tk₄, s.os⟩ _ _ It.now ?_)
    all_goals
      refine vloop (s := ⟨h₅, s.gens, s.drawn, tk₄, s.os⟩) (cenv := cEnv scope cl C env) (C := C) (I := I2) (D := D) (adr := ownAdr (C + 1) scope.names) (fp := fp2) (P := P2) (G₀ := G₄) (G₁ := G₄) (T := (I, .obj oI) :: T) (its := its1 av) (ys₀ := ys) (as₀ := (its.take i).flatMap fun a => (its1 a).filterMap (F a)) (F av) (fun G m => ∃ u, m x0 = some u ∧ VR G u av) (fun l ⟨u, e, V⟩ => ⟨u, e, V.mono l⟩)
        (fun Inv tr s n h => loop_in Inv tr n h (fun _ => rfl)) It.W It.here It.fp (Fz.rf _) It.item (by rw [← hys.length]; exact hylen) It.now S₅ hc₃ (hys.mono l₄) inv₄ ?_ ?_
      · intro j b hb v2 oI2 mC6 cells6 ys6 G6 s6 E' Q Qn hG6 hvr6 hc6 hInv6 S6 k kn
        have hbm : b ∈ its1 av := List.mem_of_getElem? hb
        obtain ⟨u, hu, V⟩ := hInv6
        refine wpAny_assign_Name (block_put (ρl := [(x0, av)]) (ρ := ρ) (ρv := ρv) g hkind hin hap (fun p hp => let ⟨v, m⟩ := hce p hp; ⟨v, List.mem_cons_of_mem _ m⟩) (fun n av e => ((hr n av e).mono (hG.tr (l₄.tr hG6))).keep fun p hp => List.mem_cons_of_mem _ hp) hv S6 hc6 (.inl hn1) hvr6 (hpl1 av hmem b hbm)
          (fun p hp => by rw [List.mem_singleton.mp hp]; exact ⟨hpl av hmem, hn0, u, hu, V⟩) fun mC7 cells7 h7 tk7 hc7 hm7 S7 => ?_)
        have inv7 : ∀ {G'}, Fz.le G6 G' → ∃ u, mC7 x0 = some u ∧ VR G' u av := fun l => ⟨u, by rw [hm7 x0 (Ne.symm hne)]; exact hu, V.mono l⟩
        exact (turn av hmem b hbm).run S7 (fun bv y h8 tk8 G8 e l S8 r => k bv y h8 tk8 G8 mC7 cells7 e l hc7 (inv7 l) S8.toOkB r) fun h8 tk8 G8 e l S8 => kn h8 tk8 G8 mC7 cells7 e l hc7 (inv7 l) S8.toOkB
      · intro ys9 G9 mC9 cells9 h9 tk9 hG9 hc9 _ S9 hys9
        have S10 : OkB x G9 ((I, .obj oI) :: (C, .ns mC9) :: (D, .obj (lst ys9)) :: (cells9 ++ T)) h9 := S9.perm (perm_out _ _ _ _ _)
        obtain ⟨o₁, e₁, q₁⟩ := S10.st.own _ (List.mem_cons_self ..)
        cases q₁
        refine ⟨its.length + 1 - (i + 1), by omega, .mk hlt rfl (W.frame _ _ _ hst₂ fun b hb o e => ?_) (hG.tr (l₄.tr hG9)) hc9 trivial (S10.turn (S10.st.say e₁ trivial) (Fz.rf _) (fun _ e => nomatch e) (fun _ e => nomatch e)) ?_⟩
        · rcases hfp b hb with rfl | ⟨o', g'⟩
          · dsimp only at e₁
            rw [heI] at e; cases e; exact e₁
          · have z1 := S₂.st.keep _ _ (hG.of _ _ g')
            rw [e] at z1; cases z1
            exact S10.st.keep _ _ ((hG.tr (l₄.tr hG9)).of _ _ g')
        · rw [List.take_add_one, hav, List.flatMap_append]
          simp only [Option.toList_some, List.flatMap_cons, List.flatMap_nil, List.append_nil]
          exact hys9
  · obtain rfl : i = its.length := Nat.le_antisymm hi (Nat.not_lt.mp hlt)
    refine W.done _ _ _ hst fun h₂ tk₂ hk₂ => ?_
    have k₂ : ∀ b o, b ≠ I → h'.get? b = some o → h₂.get? b = some o := fun b o hb e => hk₂ b o (fun z => hb (List.mem_singleton.mp z)) e
    exact done ys G mC' cells' h₂ tk₂ hG hc' (S'.drop1 k₂ (fun _ e => nomatch e) (fun _ e => nomatch e)) (by rw [List.take_length] at hys; exact hys)
end
end Mine
end
section
open PySem PySem.W PyProof.Rows PySem.Calls PySem.Spec
set_option Elab.async false
set_option maxRecDepth 100000
namespace Mine
open LCg
/-- a comprehension's run, up to its list -/
noncomputable def CompR (w : World) (x : Cx) (env : Env) (ρ : Rho) (e iter : PySem.Expr) (scope : Scope) (cl : List (Str × Addr)) (ys : List AV) : Prop :=
  ∀ (G : Fz) (T : Ow) (s : Shared) (E : Value → Shared → Prop) (RR : Value → Addr → Result → Shared → Prop), Ok x env ρ G T s.heap →
    (∀ D C mC G' h tk, Fz.le G G' → Ok x env ρ G' ((C, .ns mC) :: T) h → VR G' (.ref D) (.list ys) → RR (.ref D) C (.ok .next) { s with heap := h, toks := tk }) →
    wpAny (model pg w) x.A (eval iter env) (fun v s₁ => wpAny (model pg w) x.A (pyIter v) (fun it s₂ => wpAny (model pg w) x.A (newList []) (fun acc s₃ => wpAny (model pg w) x.A (newFunctionEnv scope env.globals cl [] env.qual none .none (some env)) (fun cenv s₄ =>
      codeAny (model pg w) x.A (.compStart e 0 it acc { cenv with scope := relabel scope env }) (RR acc cenv.locals) s₄) E s₃) E s₂) E s₁) E s
section
variable {w : World} {x : Cx} {env : Env} {ρ ρv : Rho} {G G' : Fz} {T T' : Ow} {h h' : Heap} {a : Addr} {o : Obj} {X : Xs} {Ψ : Pst} {s : Shared} {rest : List Stmt}
theorem CompR1 {elt iter : PySem.Expr} {n : Str} {px : Pos} {ifs : List PySem.Expr} {scope : Scope} {cl : List (Str × Addr)} {pos : Pos} {av : AV} {its : List AV} (F : AV → Option AV) (ρv : Rho)
    (hit : EV w x env ρ iter av) (hI : ItV w av its) (hlen : its.length ≤ 16777216) (hpl : ∀ av ∈ its, av.plain = true)
    (hkind : scope.kind = .function) (hcl : ∀ p ∈ cl, p ∈ env.cells) (hcn : (cl.map (·.1)).Nodup)
    (hv : ∀ C, VisR env (cEnv scope cl C env) ρ ρv) (hn : ∀ C, (cEnv scope cl C env).kindOf n = some .local ∨ ((cEnv scope cl C env).kindOf n = some .cell ∧ ∃ c, (cEnv scope cl C env).cells.lookup n = some c ∧ c ∈ ownAdr (C + 1) scope.names))
    (hturn : ∀ C, ∀ av ∈ its, TurnV w x (cEnv scope cl C env) ((n, av) :: ρv) elt ifs (F av)) :
    CompR w x env ρ (.ListComp elt [⟨.Name n px, iter, ifs, 0⟩] scope pos) iter scope cl (its.filterMap F) := fun G T s E RR S k => by
  refine hit G T s _ _ S fun v h1 tk1 G1 l1 S1 r1 => ?_
  refine iterV S1.toOkB r1 hI fun I fp P Si h2 It => ?_
  exact vblock (s := ⟨h2, s.gens, s.drawn, tk1, s.os⟩) F S1 It hlen hpl hkind hcl hcn hv hn hturn fun D C mC G2 h3 tk3 l2 S2 r2 => k D C mC G2 h3 tk3 (l1.tr l2) S2 r2
theorem CompR2 {elt i0 i1 : PySem.Expr} {x0 x1 : Str} {px0 px1 : Pos} {ifs : List PySem.Expr} {scope : Scope} {cl : List (Str × Addr)} {pos : Pos} {av0 : AV} {its : List AV} (av1 : AV → AV) (its1 : AV → List AV) (F : AV → AV → Option AV) (ρv : Rho)
    (hit : EV w x env ρ i0 av0) (hI : ItV w av0 its) (hsz : (its.flatMap its1).length ≤ 16000000) (hpl : ∀ av ∈ its, av.plain = true) (hpl1 : ∀ av ∈ its, ∀ b ∈ its1 av, b.plain = true) (hne : x1 ≠ x0)
    (hkind : scope.kind = .function) (hcl : ∀ p ∈ cl, p ∈ env.cells) (hcn : (cl.map (·.1)).Nodup)
    (hv : ∀ C, VisR env (cEnv scope cl C env) ρ ρv) (hn0 : ∀ C, (cEnv scope cl C env).kindOf x0 = some .local) (hn1 : ∀ C, (cEnv scope cl C env).kindOf x1 = some .local) (hs1 : ∀ C y, foldedSetIterable i1 (cEnv scope cl C env) y = pure y)
    (inner : ∀ C, ∀ av ∈ its, EV w x (cEnv scope cl C env) ((x0, av) :: ρv) i1 (av1 av) ∧ ItV w (av1 av) (its1 av))
    (turn : ∀ C, ∀ av ∈ its, ∀ b ∈ its1 av, TurnV w x (cEnv scope cl C env) ((x1, b) :: (x0, av) :: ρv) elt ifs (F av b)) :
    CompR w x env ρ (.ListComp elt [⟨.Name x0 px0, i0, [], 0⟩, ⟨.Name x1 px1, i1, ifs, 0⟩] scope pos) i0 scope cl (its.flatMap fun a => (its1 a).filterMap (F a)) := fun Gb T s E RR Sb kk => by
  refine hit Gb T s _ _ Sb fun v h1 tk1 G l1 S r1 => ?_
  refine iterV S.toOkB r1 hI fun I fp P Si hs It => ?_
  refine wpAny_newObj_type (newEnv_comp ?_)
  dsimp only
  generalize hH2 : hs.push { cls := .type "list", dict := none, data := .seq ([] : List Value).toArray } = H2
  have hC : H2.objs.size = hs.objs.size + 1 := by rw [← hH2, Heap.size_push]
  generalize hH3 : H2.push { cls := .type "dict", data := .dict #[] } = H3
  have hC3 : H3.objs.size = H2.objs.size + 1 := by rw [← hH3, Heap.size_push]
  obtain ⟨oI, heI⟩ := It.here _ _ It.now
  have hbn : h1.get? I = none := by rw [It.new]; exact none_size h1
  have S1 : St G ((I, .any) :: T) hs := S.st.cons It.keep heI hbn trivial
  have S2 : St G ((hs.objs.size, .obj (lst [])) :: (I, .any) :: T) H2 := hH2 ▸ S1.consPush _ rfl
  have old : ∀ b o, H2.get? b = some o → (pushCells H3 scope.names).get? b = some o := fun b o e => pushCells_keeps _ _ _ _ (hH3 ▸ Heap.get?_push_of_some _ e)
  have old' : ∀ b o, hs.get? b = some o → (pushCells H3 scope.names).get? b = some o := fun b o e => old b o (hH2 ▸ Heap.get?_push_of_some _ e)
  have nC : (pushCells H3 scope.names).Ns H2.objs.size (fun _ => none) := (hH3 ▸ Heap.Ns.new H2 (.type "dict")).keeps (pushCells_keeps _ _)
  have hcadr : ∀ b ∈ ownAdr (H2.objs.size + 1) scope.names, (pushCells H3 scope.names).get? b = some cell0 ∧ H2.objs.size + 1 ≤ b := fun b hb => by
    have z := ownAdr_at scope.names H3 b (by rw [hC3]; exact hb)
    rw [hC3] at z
    exact z
  have S3 : St G (((H2.objs.size, .ns fun _ => none) :: (ownAdr (H2.objs.size + 1) scope.names).map fun b => (b, Sp.cell none)) ++ ((hs.objs.size, .obj (lst [])) :: (I, .any) :: T)) (pushCells H3 scope.names) := by
    refine S2.many old _ (fun p hp => ?_) ?_
    · rcases List.mem_cons.mp hp with rfl | hp
      · obtain ⟨o, ho, q⟩ := ns_obj nC
        exact ⟨Nat.le_refl _, o, ho, q⟩
      · obtain ⟨b, hb, rfl⟩ := List.mem_map.mp hp
        exact ⟨Nat.le_of_succ_le (hcadr b hb).2, cell0, (hcadr b hb).1, rfl⟩
    · rw [List.map_cons, List.map_map]
      have e : ((fun p : Addr × Sp => p.1) ∘ fun b => (b, Sp.cell none)) = id := rfl
      rw [e, List.map_id]
      exact List.nodup_cons.mpr ⟨fun hm => absurd (hcadr _ hm).2 (Nat.not_succ_le_self _), ownAdr_nd _ _⟩
  have S4 := S3.perm (comp_perm _ _ _ _ _)
  have S5 : OkB x G ((I, .any) :: (H2.objs.size, .ns fun _ => none) :: (hs.objs.size, .obj (lst [])) :: ((ownAdr (H2.objs.size + 1) scope.names).map (fun b => (b, Sp.cell none)) ++ T)) (pushCells H3 scope.names) :=
    S.toOkB.mem S4 (Fz.rf _) fun a sp hm _ _ _ => List.mem_cons_of_mem _ (List.mem_cons_of_mem _ (List.mem_cons_of_mem _ (List.mem_append_right _ hm)))
  have hci : CellsIn (ownAdr (H2.objs.size + 1) scope.names) ((ownAdr (H2.objs.size + 1) scope.names).map fun b => (b, Sp.cell none)) := ⟨by rw [List.map_map]; exact List.map_id _, fun p hp => by obtain ⟨b, hb, rfl⟩ := List.mem_map.mp hp; exact ⟨none, rfl⟩⟩
  have hst₁ : Si 0 (pushCells H3 scope.names) := It.W.frame _ _ _ It.now fun b _ o e => old' b o e
  have hap : Apt (cEnv scope cl H2.objs.size env) := cellsFrom_nd _ _ _ (cl_nd S.ap hcl hcn) fun p hp => by
    obtain ⟨v, hm⟩ := S.ce p (hcl p hp)
    have z : @LT.lt Nat _ p.2 h1.objs.size := S.st.lt hm
    have z2 : @LT.lt Nat _ I hs.objs.size := It.lt
    have z3 : @Eq Nat I h1.objs.size := It.new
    show @LT.lt Nat _ _ _
    omega
  refine codeAny_compStart_list ?_ (It.W.self 0 _ _ _ hst₁ ?_)
  all_goals
    refine vloop2 (fp := fp) (P := P) (G₁ := G) (T := T) (its := its) av1 its1 F It.W It.here It.fp It.item hsz hst₁ hpl hpl1 hne S.eg hkind (fun p hp => .inl (hcl p hp)) hap S.ce S.rho (hv _) (hn0 _) (hn1 _) (hs1 _) S5 hci (inner _) (turn _) ?_
    intro ys G1 mC cells h tk hG hc S' hys
    have hfr := S.fr
    have sub : List.Sublist ((hs.objs.size, Sp.obj (lst ys)) :: (H2.objs.size, .ns mC) :: T) ((hs.objs.size, Sp.obj (lst ys)) :: (H2.objs.size, .ns mC) :: (cells ++ T)) := List.Sublist.cons_cons _ (List.Sublist.cons_cons _ (List.sublist_append_right ..))
    have Sa : St G1 ((hs.objs.size, Sp.obj (lst ys)) :: (H2.objs.size, .ns mC) :: T) h := (S'.st.swap).sub sub
    have Sb' : OkB x G1 ((hs.objs.size, Sp.obj (lst ys)) :: (H2.objs.size, .ns mC) :: T) h := S'.mem Sa (Fz.rf _) fun a sp hm h1 h2 h3 => by
      rcases List.mem_cons.mp hm with q | hm
      · rw [q]; exact List.mem_cons_of_mem _ (List.mem_cons_self ..)
      · rcases List.mem_cons.mp hm with q | hm
        · cases q; exact absurd rfl (h1 _)
        · rcases List.mem_append.mp hm with hm | hm
          · obtain ⟨v, e⟩ := hc.2 _ hm
            exact absurd e (h3 v)
          · exact List.mem_cons_of_mem _ (List.mem_cons_of_mem _ hm)
    have Sc := Sb'.freeze (let ⟨m, hm⟩ := hfr; ⟨m, List.mem_cons_of_mem _ hm⟩)
    exact kk _ _ mC _ h tk (l1.tr (hG.tr (Fz.le_add G1 _ _))) (Sb.more1 Sc (l1.tr (hG.tr (Fz.le_add G1 _ _)))) (.list (.inr ⟨rfl, rfl⟩) rfl ⟨rfl, rfl⟩ rfl (VRs.mono (Fz.le_add G1 _ _) hys))
theorem EV_compR {elt iter target : PySem.Expr} {ifs : List PySem.Expr} {gens : List Comprehension} {scope : Scope} {cl : List (Str × Addr)} {pos : Pos} {ys : List AV} (H : CompR w x env ρ (.ListComp elt (⟨target, iter, ifs, 0⟩ :: gens) scope pos) iter scope cl ys)
    (hclos : closureFor scope env = pure cl) (hkind : scope.kind = .function) (hnames : ∀ y ∈ scope.names, y.2 = .local → scope.names.lookup y.1 = some .local)
    (hs : ∀ x, foldedSetIterable iter env x = pure x := by intro _; rfl) : EV w x env ρ (.ListComp elt (⟨target, iter, ifs, 0⟩ :: gens) scope pos) (.list ys) := fun G T s Q E S k => by
  rw [eval_ListComp]
  refine wpAny_comprehension_free (use := none) rfl hs hclos hkind hnames (H G T s E (fun acc C => compPost (model pg w) x.A E none Q acc C) S fun D C mC G2 h3 tk3 l2 S2 r2 => ?_)
  obtain ⟨o, ho, q⟩ := S2.st.own _ (List.mem_cons_self ..)
  refine ⟨mC, NsObj.ns q ho, fun h'' hs'' => k _ _ _ G2 l2 ?_ r2⟩
  exact S.toR l2 (S2.toOkB.drop2 (fun b o hb e => hs''.extBut b o hb e) (fun _ e => nomatch e) S.fr)
theorem Run_compR {elt iter target : PySem.Expr} {ifs : List PySem.Expr} {gens : List Comprehension} {scope : Scope} {cl : List (Str × Addr)} {pos spos p : Pos} {n : Str} {ys : List AV} (H : CompR w x env ρ (.ListComp elt (⟨target, iter, ifs, 0⟩ :: gens) scope pos) iter scope cl ys)
    (hclos : closureFor scope env = pure cl) (hkind : scope.kind = .function) (hnames : ∀ y ∈ scope.names, y.2 = .local → scope.names.lookup y.1 = some .local) (hk : Kept env n)
    (hsw : swapsWith (.ListComp elt (⟨target, iter, ifs, 0⟩ :: gens) scope pos) (some (.Name n p)) spos.line env = pure true)
    (HR : Run w x env ((n, .list ys) :: ρ) rest Ψ) (hs : ∀ x, foldedSetIterable iter env x = pure x := by intro _; rfl) : Run w x env ρ (.Assign [.Name n p] (.ListComp elt (⟨target, iter, ifs, 0⟩ :: gens) scope pos) spos :: rest) Ψ := fun X G T s E S hX => by
  refine wpAny_execs_cons ?_
  rw [exec_Assign_Name_used _ _ _ _ hsw]
  refine wpAny_bind (wpAny_standAt (wpAny_bind ?_))
  show wpAny _ x.A (do let _ ← comprehension (.ListComp elt (⟨target, iter, ifs, 0⟩ :: gens) scope pos) scope env _ (newList []) false (eval iter env) (some (assign (.Name n p) env))) _ _ s
  refine wpAny_bind (wpAny_mono (wpAny_comprehension_free (use := some (assign (.Name n p) env)) (Q := fun _ s' => wpAny (model pg w) x.A (execs rest env) (Post x env X Ψ G s) E s') rfl hs hclos hkind hnames
    (H G T s E (fun acc C => compPost (model pg w) x.A E (some (assign (.Name n p) env)) (fun _ s' => wpAny (model pg w) x.A (execs rest env) (Post x env X Ψ G s) E s') acc C) S fun D C mC G2 h3 tk3 l2 S2 r2 => ?_)) (fun _ s' hq => wpAny_pure (wpAny_pure hq)) fun _ _ e => e)
  obtain ⟨oC, ho, q⟩ := S2.st.own _ (List.mem_cons_self ..)
  have hb0 : x.h₀.get? C = none := by
    cases e : x.h₀.get? C with
    | none => rfl
    | some o =>
      rcases S2.base C o e with g | hm
      · exact absurd g (S2.st.off _ (List.mem_cons_self ..) o)
      · cases S2.st.one hm (List.mem_cons_self ..)
  have S3 : OkB x G2 ((C, .fix oC) :: T) h3 := ⟨S2.st.say ho rfl, fun b o e => (S2.base b o e).imp id fun hm => by
      rcases List.mem_cons.mp hm with q | hm
      · cases q
      · exact List.mem_cons_of_mem _ hm, let ⟨m, hm⟩ := S.fr; ⟨m, List.mem_cons_of_mem _ hm⟩⟩
  have S4 : Ok x env ρ G2 ((C, .fix oC) :: T) h3 := S.more1 S3 l2
  show wpAny _ x.A (assign (.Name n p) env (.ref D)) _ _ _
  refine wpAny_assign_Name (storeV S3 S.eg (S4.slot hk) fun T' h' tk P S' => ?_)
  have S5 := S4.put P S' r2 rfl
  have hX5 : XIn ((C, oC) :: X) T' := XIn.put (T := (C, .fix oC) :: T) (fun p hp => by
    rcases List.mem_cons.mp hp with rfl | hp
    · exact List.mem_cons_self ..
    · exact List.mem_cons_of_mem _ (hX p hp)) P S4.st
  have hCm := hX5 (C, oC) (List.mem_cons_self ..)
  obtain ⟨o', ho', q'⟩ := S5.st.own _ hCm
  cases q'
  refine ⟨mC, NsObj.ns q ho', fun h'' hs'' => ?_⟩
  obtain ⟨T6, S6, hm6⟩ := (S5.loosen hCm hb0).gone (setT_self hCm) (fun b o hb e => hs''.extBut b o hb e)
  refine HR.step S6 l2 fun p hp => hm6 _ _ (setT_mem (hX5 p (List.mem_cons_of_mem _ hp)) fun e => ?_) (fun e => nomatch e)
  have z1 : p.1 < s.heap.objs.size := S.st.lt (hX p hp)
  have z2 : C ∉ T.map (·.1) := by
    have := S2.st.nd
    rw [List.map_cons, List.nodup_cons] at this
    exact this.1
  exact z2 (List.mem_map.mpr ⟨_, hX p hp, e⟩)
end
end Mine
end
section
open PySem PySem.W PyProof.Rows PySem.Calls PySem.Spec
set_option Elab.async false
set_option maxRecDepth 100000
namespace Mine
open LCg
section
variable {w : World} {x : Cx} {env : Env} {ρ ρv : Rho} {G G' : Fz} {T T' : Ow} {h h' : Heap} {a : Addr} {o : Obj} {X : Xs} {Ψ : Pst} {s : Shared} {rest : List Stmt} {pos : Pos}
theorem VRd.find {G : Fz} : ∀ {kvs : List (Str × Value)} {es : List (Str × AV)}, VRd G kvs es → ∀ {kk : Str} {av : AV}, es.lookup kk = some av → ∃ v, valueAt kvs kk = some v ∧ VR G v av
  | _, _, .nil, _, _, e => by cases e
  | _, _, @VRd.cons _ k v y vs xs r1 r2, kk, av, e => by
    rw [List.lookup_cons] at e
    unfold valueAt
    rw [List.find?_cons]
    by_cases q : kk = k
    · subst q
      simp only [beq_self_eq_true] at e
      cases e
      simp only [decide_true]
      exact ⟨v, rfl, r1⟩
    · have q' : (kk == k) = false := by simpa using q
      simp only [q'] at e
      have q2 : decide (k = kk) = false := decide_eq_false fun z => q z.symm
      simp only [q2]
      exact r2.find e
theorem VRd.miss {G : Fz} : ∀ {kvs : List (Str × Value)} {es : List (Str × AV)}, VRd G kvs es → ∀ {kk : Str}, es.lookup kk = none → valueAt kvs kk = none
  | _, _, .nil, _, _ => rfl
  | _, _, @VRd.cons _ k v y vs xs r1 r2, kk, e => by
    rw [List.lookup_cons] at e
    unfold valueAt
    rw [List.find?_cons]
    by_cases q : kk = k
    · subst q
      simp only [beq_self_eq_true] at e
      cases e
    · have q' : (kk == k) = false := by simpa using q
      simp only [q'] at e
      have q2 : decide (k = kk) = false := decide_eq_false fun z => q z.symm
      simp only [q2]
      exact r2.miss e
theorem VRi.find {G : Fz} : ∀ {kvs : List (Int × Value)} {es : List (Int × AV)}, VRi G kvs es → ∀ {kk : Int} {av : AV}, es.lookup kk = some av → ∃ v, valueAt kvs kk = some v ∧ VR G v av
  | _, _, .nil, _, _, e => by cases e
  | _, _, @VRi.cons _ k v y vs xs r1 r2, kk, av, e => by
    rw [List.lookup_cons] at e
    unfold valueAt
    rw [List.find?_cons]
    by_cases q : kk = k
    · subst q
      simp only [beq_self_eq_true] at e
      cases e
      simp only [decide_true]
      exact ⟨v, rfl, r1⟩
    · have q' : (kk == k) = false := by simpa using q
      simp only [q'] at e
      have q2 : decide (k = kk) = false := decide_eq_false fun z => q z.symm
      simp only [q2]
      exact r2.find e
theorem EV_dget {v i : PySem.Expr} {p : Pos} {es : List (Str × AV)} {k : Str} {av : AV} (hv : EV w x env ρ v (.sdict w es)) (hi : EV w x env ρ i (.str k)) (hk : es.lookup k = some av)
    (hs : ∀ (o j : Value), subscripted i false o j = operate [o, j] (getItem o j) := by intro _ _; with_unfolding_all rfl) : EV w x env ρ (.Subscript v i p) av := fun G T s Q E S kk => by
  refine Subscript_ (hv G T s _ _ S fun v1 h1 tk1 G1 l1 S1 r1 => ?_)
  refine hi G1 T _ _ _ S1 fun v2 h2 tk2 G2 l2 S2 r2 => ?_
  cases r1 with | sdict g hd hne q =>
  cases r2
  obtain ⟨u, hu, hr⟩ := q.find hk
  have hD := Heap.dictOf_iff.mpr ⟨_, S2.st.keep _ _ (l2.of _ _ g), hd⟩
  exact subscriptTail_builtinR (s := ⟨h2, s.gens, s.drawn, tk2, s.os⟩) hD.typeIs slot_dict_getitem.lookup (wpAny_getItem_of (strKind_is ..) hD.mapOf hu ⟨rfl, kk _ _ _ G2 (l1.tr l2) S2 (hr.mono l2)⟩) (hs _ _)
theorem EV_igetI {v i : PySem.Expr} {p : Pos} {es : List (Int × AV)} {k : Int} {av : AV} (hv : EV w x env ρ v (.idict w es)) (hi : EV w x env ρ i (.int k)) (hk : es.lookup k = some av)
    (hs : ∀ (o j : Value), subscripted i false o j = operate [o, j] (getItem o j) := by intro _ _; with_unfolding_all rfl) : EV w x env ρ (.Subscript v i p) av := fun G T s Q E S kk => by
  refine Subscript_ (hv G T s _ _ S fun v1 h1 tk1 G1 l1 S1 r1 => ?_)
  refine hi G1 T _ _ _ S1 fun v2 h2 tk2 G2 l2 S2 r2 => ?_
  cases r1 with | idict g hd hne q =>
  cases r2
  obtain ⟨u, hu, hr⟩ := q.find hk
  have hD := Heap.dictOf_iff.mpr ⟨_, S2.st.keep _ _ (l2.of _ _ g), hd⟩
  exact subscriptTail_builtinR (s := ⟨h2, s.gens, s.drawn, tk2, s.os⟩) hD.typeIs slot_dict_getitem.lookup (wpAny_getItem_of (intKind_is ..) hD.mapOf hu ⟨rfl, kk _ _ _ G2 (l1.tr l2) S2 (hr.mono l2)⟩) (hs _ _)
/-- d.get(k, dflt) -/
theorem EV_get2 {d ke de : PySem.Expr} {ap : Pos} {es : List (Str × AV)} {k : Str} {dv : AV} (hd : EV w x env ρ d (.sdict w es)) (hk : EV w x env ρ ke (.str k)) (hdv : EV w x env ρ de dv)
    (pl : Sem Bool)
    (hm : eval (.Call (.Attribute d (Str.ofString "get") ap) [ke, de] [] pos) env = (do
      let ov ← eval d env
      standAt ap.atName
      let (f, first) ← holding [ov] (getMethod ov (Str.ofString "get") pl)
      callWith pos f first (backTo pos (starEach [ke, de] env)) []))
    (hs : starEach [ke, de] env = (false, eval ke env) :: starEach [de] env := by rfl) (hs2 : starEach [de] env = (false, eval de env) :: starEach [] env := by rfl) (hp : (backTo pos (starEach [de] env)).any (·.1) = false := by rfl) : EV w x env ρ (.Call (.Attribute d (Str.ofString "get") ap) [ke, de] [] pos) ((es.lookup k).getD dv) := fun G T s Q E S kk => by
  refine MethodCall_ (hd G T s _ _ S fun v1 h1 tk1 G1 l1 S1 r1 => ?_) hm
  cases r1 with | sdict g hdi hne q =>
  have hD := Heap.dictOf_iff.mpr ⟨_, S1.st.keep _ _ g, hdi⟩
  refine getMethod_builtin (s := ⟨h1, s.gens, s.drawn, tk1, s.os⟩) hD.typeIs PySem.F.plainAttrs_dict PySem.F.slot_dict_get PySem.F.type_dict_get hD.mapOf.noDict (callWith_method1 (EVL_cons hk (EVL_cons hdv EVL_nil hs2) hs G1 T _ _ _ S1 fun vs h2 tk2 G2 l2 S2 r2 => ?_) hs hp)
  cases r2 with | cons a b =>
  cases b with | @cons dvv _ _ _ b c =>
  cases c
  cases a
  have hD2 := Heap.dictOf_iff.mpr ⟨_, S2.st.keep _ _ (l2.of _ _ g), hdi⟩
  refine call_meetsIn (s := ⟨h2, s.gens, s.drawn, tk2, s.os⟩) PySem.F.slot_dict_get hD2.typeIs PySem.F.entry_dict_get (PySem.F.args_dict_get_3 _ _ _) (meets_dict_get_default (strKind pg w) _ (strKind_is ..) (by simpa using hne) dvv) ⟨_, hD2.mapOf, ?_⟩
  refine kk _ _ _ G2 (l1.tr l2) S2 ?_
  cases e : es.lookup k with
  | some av =>
    obtain ⟨u, hu, hr⟩ := q.find e
    rw [hu]; exact hr.mono l2
  | none => rw [q.miss e]; exact b
-- displays
noncomputable def VRK {K : Type} (G : Fz) : List (K × Value) → List (K × AV) → Prop
  | [], [] => True
  | kv :: kvs, ka :: es => kv.1 = ka.1 ∧ VR G kv.2 ka.2 ∧ VRK G kvs es
  | _, _ => False
theorem VRK.mono {K : Type} {G G' : Fz} (l : Fz.le G G') : ∀ {kvs : List (K × Value)} {es : List (K × AV)}, VRK G kvs es → VRK G' kvs es
  | [], [], _ => trivial
  | _ :: _, _ :: _, h => ⟨h.1, h.2.1.mono l, h.2.2.mono l⟩
theorem VRK.toD {G : Fz} : ∀ {kvs : List (Str × Value)} {es : List (Str × AV)}, VRK G kvs es → VRd G kvs es
  | [], [], _ => .nil
  | (k, v) :: _, (k', a) :: _, h => by
    obtain ⟨e, h1, h2⟩ := h
    dsimp only at e; subst e
    exact .cons h1 h2.toD
theorem VRK.toI {G : Fz} : ∀ {kvs : List (Int × Value)} {es : List (Int × AV)}, VRK G kvs es → VRi G kvs es
  | [], [], _ => .nil
  | (k, v) :: _, (k', a) :: _, h => by
    obtain ⟨e, h1, h2⟩ := h
    dsimp only at e; subst e
    exact .cons h1 h2.toI
theorem VRK.keys {K : Type} {G : Fz} : ∀ {kvs : List (K × Value)} {es : List (K × AV)}, VRK G kvs es → kvs.map (·.1) = es.map (·.1)
  | [], [], _ => rfl
  | _ :: _, _ :: _, h => by rw [List.map_cons, List.map_cons, h.1, h.2.2.keys]
theorem merged_nd {K : Type} [DecidableEq K] : ∀ (kvs acc : List (K × Value)), ((acc ++ kvs).map (·.1)).Nodup → merged acc kvs = acc ++ kvs
  | [], acc, _ => by simp [merged]
  | (k, v) :: r, acc, h => by
    have e : stored acc k v = acc ++ [(k, v)] := by
      unfold stored
      rw [if_neg]
      simp only [List.any_eq_true, decide_eq_true_eq, not_exists, not_and]
      intro p hp e
      rw [List.map_append, List.nodup_append] at h
      exact h.2.2 _ (List.mem_map.mpr ⟨p, hp, rfl⟩) _ (List.mem_map.mpr ⟨_, List.mem_cons_self .., rfl⟩) e
    have ih := merged_nd r (acc ++ [(k, v)]) (by simpa using h)
    unfold merged at ih ⊢
    rw [List.foldl_cons, e, ih, List.append_assoc]; rfl
/-- a key's evaluation -/
noncomputable def EK {K : Type} [DecidableEq K] (w : World) (x : Cx) (env : Env) (ρ : Rho) (knd : KeyKind pg w K) (e : PySem.Expr) (k : K) : Prop :=
  ∀ (G : Fz) (T : Ow) (s : Shared) (Q : Value → Shared → Prop) (E : Value → Shared → Prop), Ok x env ρ G T s.heap →
    (∀ v h' tk' G', Fz.le G G' → Ok x env ρ G' T h' → knd.is k v = true → Q v { s with heap := h', toks := tk' }) → wpAny (model pg w) x.A (eval e env) Q E s
theorem EK_str {e : PySem.Expr} {k : Str} (he : EV w x env ρ e (.str k)) : EK w x env ρ (strKind pg w) e k := fun G T s Q E S kk => he G T s Q E S fun v h' tk' G' l S' r => by cases r; exact kk _ h' tk' G' l S' (strKind_is ..)
theorem EK_int {e : PySem.Expr} {k : Int} (he : EV w x env ρ e (.int k)) : EK w x env ρ (intKind pg w) e k := fun G T s Q E S kk => he G T s Q E S fun v h' tk' G' l S' r => by cases r; exact kk _ h' tk' G' l S' (intKind_is ..)
inductive EVD {K : Type} [DecidableEq K] (w : World) (x : Cx) (env : Env) (ρ : Rho) (knd : KeyKind pg w K) (pos : Pos) : List (Sem Value × Sem Value) → List (K × AV) → Prop
  | nil : EVD w x env ρ knd pos [] []
  | cons {ke ve : PySem.Expr} {k : K} {av : AV} {ps : List (Sem Value × Sem Value)} {es : List (K × AV)} : EK w x env ρ knd ke k → EV w x env ρ ve av → EVD w x env ρ knd pos ps es → EVD w x env ρ knd pos ((eval ke env, do let y ← eval ve env; standAt pos; pure y) :: ps) ((k, av) :: es)
theorem EVD.run {K : Type} [DecidableEq K] {knd : KeyKind pg w K} : ∀ {ps : List (Sem Value × Sem Value)} {es : List (K × AV)}, EVD w x env ρ knd pos ps es → ∀ {G : Fz} {T : Ow} {s : Shared} {Q : List (Value × Value) → Shared → Prop} {E : Value → Shared → Prop}, Ok x env ρ G T s.heap →
    (∀ vs kvs h' tk' G', Fz.le G G' → Ok x env ρ G' T h' → Carries knd vs kvs → VRK G' kvs es → Q vs { s with heap := h', toks := tk' }) → wpAny (model pg w) x.A (evalPairs ps) Q E s
  | _, _, .nil, G, T, s, _, _, S, k => evalPairs_nil (k [] [] s.heap s.toks G (Fz.rf _) S trivial trivial)
  | _, _, .cons hk hv r, G, T, s, _, _, S, k => by
    refine evalPairs_cons (hk G T s _ _ S fun v1 h1 tk1 G1 l1 S1 r1 => ?_)
    refine wpAny_bind (hv G1 T _ _ _ S1 fun v2 h2 tk2 G2 l2 S2 r2 => ?_)
    refine wpAny_bind (wpAny_standAt (wpAny_pure (r.run (s := ⟨h2, s.gens, s.drawn, tk2, s.os⟩) S2 fun vs kvs h3 tk3 G3 l3 S3 c q => ?_)))
    exact k ((v1, v2) :: vs) ((_, v2) :: kvs) h3 tk3 G3 (l1.tr (l2.tr l3)) S3 ⟨r1, rfl, c⟩ ⟨rfl, r2.mono l3, q⟩
/-- a written dict -/
theorem dict_made {K : Type} [DecidableEq K] {knd : KeyKind pg w K} {keys : List (Option PySem.Expr)} {values : List PySem.Expr} {ps : List (Sem Value × Sem Value)} {es : List (K × AV)} (hx : x.Ok w)
    (hshape : (evalEachOpt keys env).zip ((evalEach values env).map fun v => do let x ← v; standAt pos; pure x) = ps.map fun p => (some p.1, p.2)) (H : EVD w x env ρ knd pos ps es) (h0 : ps ≠ []) (hlen : ps.length ≤ 15) (hnd : (es.map (·.1)).Nodup)
    {G : Fz} {T : Ow} {s : Shared} {Q : Value → Shared → Prop} {E : Value → Shared → Prop} (S : Ok x env ρ G T s.heap)
    (k : ∀ d o kvs h' tk' G', Fz.le G G' → Ok x env ρ G' T h' → G' d o → o.IsDictOf knd kvs → d ≠ sysModules → VRK G' kvs es → Q (.ref d) { s with heap := h', toks := tk' }) :
    wpAny (model pg w) x.A (eval (.Dict keys values pos) env) Q E s := by
  refine wpAny_Dict_pairs (knd := knd) hshape h0 hlen ?_
  have S1 : Ok x env ρ G ((s.heap.objs.size, .obj { cls := .type "dict", data := .dict #[] }) :: T) (s.heap.push { cls := .type "dict", data := .dict #[] }) := S.more1 (S.toOkB.mem (S.st.consPush _ rfl) (Fz.rf _) fun a sp hm _ _ _ => List.mem_cons_of_mem _ hm) (Fz.rf _)
  refine H.run (s := ⟨s.heap.push { cls := .type "dict", data := .dict #[] }, s.gens, s.drawn, s.toks, s.os⟩) S1 fun vs kvs h2 tk2 G2 l2 S2 c q => ?_
  obtain ⟨o, ho, qo⟩ := S2.st.own _ (List.mem_cons_self ..)
  cases qo
  refine ⟨kvs, c, Heap.dictOf_iff.mpr ⟨_, ho, #[], 0, ⟨rfl, rfl, rfl⟩, rfl, fun _ he => (nomatch he), .nil, List.nodup_nil⟩, fun h' hd hs => ?_⟩
  rw [merged_nd kvs [] (by rw [List.nil_append, q.keys]; exact hnd), List.nil_append] at hd
  obtain ⟨o', ho', hdi⟩ := Heap.dictOf_iff.mp hd
  have S3 : OkB x G2 ((s.heap.objs.size, .obj o') :: T) h' := S2.toOkB.turn (S2.st.turn (fun b o hb e => hs.extBut b o hb e) ho' rfl) (Fz.rf _) (fun _ e => nomatch e) (fun _ e => nomatch e)
  have S4 := S3.freeze S.fr
  have lA := Fz.le_add G2 s.heap.objs.size o'
  refine k _ o' kvs h' _ _ (l2.tr lA) (S.toR (l2.tr lA) S4) (.inr ⟨rfl, rfl⟩) hdi (fun q => ?_) (q.mono lA)
  have h1 : @LT.lt Nat _ 122 x.h₀.objs.size := Heap.lt_size (hx.K _ _ (k122 w).choose_spec)
  obtain ⟨m, hm'⟩ := S.fr
  have h2' : @LT.lt Nat _ x.L s.heap.objs.size := S.st.lt hm'
  have h3 : @LE.le Nat _ x.h₀.objs.size x.L := hx.above
  have q' : @Eq Nat s.heap.objs.size sysModules := q
  have : @Eq Nat sysModules 1 := rfl
  omega
theorem EV_sdict {keys : List (Option PySem.Expr)} {values : List PySem.Expr} {ps : List (Sem Value × Sem Value)} {es : List (Str × AV)} (hx : x.Ok w) (H : EVD w x env ρ (strKind pg w) pos ps es) (h0 : ps ≠ []) (hlen : ps.length ≤ 15) (hnd : (es.map (·.1)).Nodup)
    (hshape : (evalEachOpt keys env).zip ((evalEach values env).map fun v => do let x ← v; standAt pos; pure x) = ps.map fun p => (some p.1, p.2) := by rfl) : EV w x env ρ (.Dict keys values pos) (.sdict w es) := fun G T s Q E S k =>
  dict_made hx hshape H h0 hlen hnd S fun d o kvs h' tk' G' l S' g hd hne q => k _ h' tk' G' l S' (.sdict g hd hne q.toD)
theorem EV_idict {keys : List (Option PySem.Expr)} {values : List PySem.Expr} {ps : List (Sem Value × Sem Value)} {es : List (Int × AV)} (hx : x.Ok w) (H : EVD w x env ρ (intKind pg w) pos ps es) (h0 : ps ≠ []) (hlen : ps.length ≤ 15) (hnd : (es.map (·.1)).Nodup)
    (hshape : (evalEachOpt keys env).zip ((evalEach values env).map fun v => do let x ← v; standAt pos; pure x) = ps.map fun p => (some p.1, p.2) := by rfl) : EV w x env ρ (.Dict keys values pos) (.idict w es) := fun G T s Q E S k =>
  dict_made hx hshape H h0 hlen hnd S fun d o kvs h' tk' G' l S' g hd hne q => k _ h' tk' G' l S' (.idict g hd hne q.toI)
theorem EV_dict1 {ke ve : PySem.Expr} {k : Str} {av : AV} (hx : x.Ok w) (hk : EV w x env ρ ke (.str k)) (hv : EV w x env ρ ve av) : EV w x env ρ (.Dict [some ke] [ve] pos) (.sdict w [(k, av)]) :=
  EV_sdict hx (.cons (EK_str hk) hv .nil) (by simp) (by simp) (by simp)
theorem EV_idict4 {k1 k2 k3 k4 v1 v2 v3 v4 : PySem.Expr} {i1 i2 i3 i4 : Int} {a1 a2 a3 a4 : AV} (hx : x.Ok w) (h1 : EV w x env ρ k1 (.int i1)) (g1 : EV w x env ρ v1 a1) (h2 : EV w x env ρ k2 (.int i2)) (g2 : EV w x env ρ v2 a2) (h3 : EV w x env ρ k3 (.int i3)) (g3 : EV w x env ρ v3 a3) (h4 : EV w x env ρ k4 (.int i4)) (g4 : EV w x env ρ v4 a4)
    (hnd : [i1, i2, i3, i4].Nodup) : EV w x env ρ (.Dict [some k1, some k2, some k3, some k4] [v1, v2, v3, v4] pos) (.idict w [(i1, a1), (i2, a2), (i3, a3), (i4, a4)]) :=
  EV_idict hx (.cons (EK_int h1) g1 (.cons (EK_int h2) g2 (.cons (EK_int h3) g3 (.cons (EK_int h4) g4 .nil)))) (by simp) (by simp) hnd
end
end Mine
end
section
open PySem PySem.W PyProof.Rows PySem.Calls PySem.Spec
set_option Elab.async false
set_option maxRecDepth 100000
namespace Mine
open LCg
/-- a dict comprehension's turn -/
inductive TurnD (w : World) (x : Cx) (cenv : Env) (ρ : Rho) (ke ve : PySem.Expr) : List PySem.Expr → Option (Str × AV) → Prop
  | yes {c : PySem.Expr} {k : Str} {v : AV} : EB w x cenv ρ c true → EV w x cenv ρ ke (.str k) → EV w x cenv ρ ve v → TurnD w x cenv ρ ke ve [c] (some (k, v))
  | no {c : PySem.Expr} : EB w x cenv ρ c false → TurnD w x cenv ρ ke ve [c] none
theorem TurnD.ite {w : World} {x : Cx} {cenv : Env} {ρ : Rho} {ke ve c : PySem.Expr} {b : Bool} {k : Str} {v : AV} (hc : EB w x cenv ρ c b) (hk : b = true → EV w x cenv ρ ke (.str k)) (he : b = true → EV w x cenv ρ ve v) : TurnD w x cenv ρ ke ve [c] (if b = true then some (k, v) else none) := by
  cases b with
  | true => exact .yes hc (hk rfl) (he rfl)
  | false => exact .no hc
/-- a dict comprehension's run, up to its dict -/
noncomputable def CompD (w : World) (x : Cx) (env : Env) (ρ : Rho) (e iter : PySem.Expr) (scope : Scope) (cl : List (Str × Addr)) (es : List (Str × AV)) : Prop :=
  ∀ (G : Fz) (T : Ow) (s : Shared) (E : Value → Shared → Prop) (RR : Value → Addr → Result → Shared → Prop), Ok x env ρ G T s.heap →
    (∀ D C mC G' h tk, Fz.le G G' → Ok x env ρ G' ((C, .ns mC) :: T) h → VR G' (.ref D) (.sdict w es) → RR (.ref D) C (.ok .next) { s with heap := h, toks := tk }) →
    wpAny (model pg w) x.A (eval iter env) (fun v s₁ => wpAny (model pg w) x.A (pyIter v) (fun it s₂ => wpAny (model pg w) x.A newDict (fun acc s₃ => wpAny (model pg w) x.A (newFunctionEnv scope env.globals cl [] env.qual none .none (some env)) (fun cenv s₄ =>
      codeAny (model pg w) x.A (.compStart e 0 it acc { cenv with scope := relabel scope env }) (RR acc cenv.locals) s₄) E s₃) E s₂) E s₁) E s
theorem take_fmD {its : List AV} {F : AV → Option (Str × AV)} {i : Nat} {av : AV} (h : its[i]? = some av) : (its.take (i + 1)).filterMap F = (its.take i).filterMap F ++ (F av).toList := by
  rw [List.take_add_one, h, List.filterMap_append]
  cases e : F av <;> simp [e]
section
variable {w : World} {x : Cx} {env : Env} {ρ ρv : Rho} {G G' : Fz} {T T' : Ow} {h h' : Heap} {a : Addr} {o : Obj} {X : Xs} {Ψ : Pst} {s : Shared} {rest : List Stmt}
/-- between two turns of a loop that fills a dict -/
inductive LoopD (w : World) (x : Cx) (adr : List Addr) (C D I : Addr) (T : Ow) (its : List AV) (F : AV → Option (Str × AV)) (s : Shared) (G₁ : Fz) (Si : Nat → Heap → Prop) (k : Nat) : Shared → Prop
  | mk {h' : Heap} {tk i : Nat} {oD : Obj} {kvs : List (Str × Value)} {mC : Str → Option Value} {cells : Ow} {G : Fz} : i ≤ its.length → k = its.length + 1 - i → Si i h' → Fz.le G₁ G → CellsIn adr cells → OkB x G ((I, .any) :: (C, .ns mC) :: (D, .obj oD) :: (cells ++ T)) h' → oD.IsDictOf (strKind pg w) kvs → VRd G kvs ((its.take i).filterMap F) → LoopD w x adr C D I T its F s G₁ Si k { s with heap := h', toks := tk }
theorem vloopD {R : Result → Shared → Prop} {kx vx iter : PySem.Expr} {n : Str} {px : Pos} {ifs : List PySem.Expr} {scope : Scope} {cl : List (Str × Addr)} {pos : Pos} {I C D : Addr} {fp : List Addr} {P : Nat → Value → Prop} {Si : Nat → Heap → Prop} {G₁ : Fz} {its : List AV} {s : Shared} (F : AV → Option (Str × AV))
    (W : Walks pg w x.A I fp [I] its.length P Si) (here : ∀ i h, Si i h → ∃ o, h.get? I = some o) (hfp : ∀ b ∈ fp, b = I ∨ ∃ o, G₁ b o) (item : ∀ (i : Nat) (v : Value), i < its.length → P i v → ∃ a, its[i]? = some a ∧ VR G₁ v a)
    (hsz : its.length ≤ 16777216) (now : Si 0 s.heap) (hpl : ∀ av ∈ its, av.plain = true) (hnd : ((its.filterMap F).map (·.1)).Nodup)
    (g : EnvG env) (hkind : scope.kind = .function) (hin : ∀ p ∈ cl, p ∈ env.cells ∨ p.2 ∈ ownAdr (C + 1) scope.names) (hap : Apt (cEnv scope cl C env)) (hce : ∀ p ∈ env.cells, ∃ v, (p.2, .cell v) ∈ T) (hr : ∀ n av, ρ.lookup n = some av → NR env G₁ T n av) (hv : VisR env (cEnv scope cl C env) ρ ρv)
    (hn : (cEnv scope cl C env).kindOf n = some .local)
    {mC : Str → Option Value} {cells : Ow} {oD₀ : Obj} (S : OkB x G₁ ((I, .any) :: (C, .ns mC) :: (D, .obj oD₀) :: (cells ++ T)) s.heap) (hD₀ : oD₀.IsDictOf (strKind pg w) []) (hc : CellsIn (ownAdr (C + 1) scope.names) cells)
    (turn : ∀ av ∈ its, TurnD w x (cEnv scope cl C env) ((n, av) :: ρv) kx vx ifs (F av))
    (done : ∀ oD kvs G mC cells h tk, Fz.le G₁ G → CellsIn (ownAdr (C + 1) scope.names) cells → OkB x G ((C, .ns mC) :: (D, .obj oD) :: (cells ++ T)) h → oD.IsDictOf (strKind pg w) kvs → VRd G kvs (its.filterMap F) → R (.ok .next) { s with heap := h, toks := tk }) :
    codeAny (model pg w) x.A (.compLoop (.DictComp kx vx [⟨.Name n px, iter, ifs, 0⟩] scope pos) 0 (.ref I) (.ref D) (cEnv scope cl C env)) R s := by
  refine codeAny_compLoop_testsD
    (LoopD w x (ownAdr (C + 1) scope.names) C D I T its F s G₁ Si) ?_ (its.length + 1)
    (.mk (h' := s.heap) (i := 0) (Nat.zero_le _) rfl now (Fz.rf _) hc S hD₀ .nil) (fun _ => rfl)
  intro k s' inv
  cases inv with | @mk h' tk i oD kvs mC' cells' G hi hkk hst hG hc' S' hdi hys =>
  subst hkk
  by_cases hlt : i < its.length
  · refine W.item i _ _ _ hlt hst fun v h₂ tk₂ hP hst₂ hk₂ => ?_
    obtain ⟨av, hav, hvr⟩ := item i v hlt hP
    have hmem : av ∈ its := List.mem_of_getElem? hav
    obtain ⟨oI, heI⟩ := here _ _ hst₂
    have k₂ : ∀ b o, b ≠ I → h'.get? b = some o → h₂.get? b = some o := fun b o hb e => hk₂ b o (fun z => hb (List.mem_singleton.mp z)) e
    have S₂ : OkB x G ((I, .obj oI) :: (C, .ns mC') :: (D, .obj oD) :: (cells' ++ T)) h₂ := S'.turn (S'.st.turn k₂ heI rfl) (Fz.rf _) (fun _ e => nomatch e) (fun _ e => nomatch e)
    have back : ∀ {G' : Fz} {mC'' : Str → Option Value} {cells'' : Ow} {h₃ : Heap} {oD' : Obj}, Fz.le G G' → OkB x G' ((I, .obj oI) :: (C, .ns mC'') :: (D, .obj oD') :: (cells'' ++ T)) h₃ → Si (i + 1) h₃ ∧ OkB x G' ((I, .any) :: (C, .ns mC'') :: (D, .obj oD') :: (cells'' ++ T)) h₃ := by
      intro G' mC'' cells'' h₃ oD' l S₃
      obtain ⟨o₁, e₁, q₁⟩ := S₃.st.own _ (List.mem_cons_self ..)
      cases q₁
      refine ⟨W.frame _ _ _ hst₂ fun b hb o e => ?_, S₃.turn (S₃.st.say e₁ trivial) (Fz.rf _) (fun _ e => nomatch e) (fun _ e => nomatch e)⟩
      rcases hfp b hb with rfl | ⟨o', g⟩
      · dsimp only at e₁
        rw [heI] at e; cases e; exact e₁
      · have z1 := S₂.st.keep _ _ (hG.of _ _ g)
        rw [e] at z1; cases z1
        exact S₃.st.keep _ _ ((hG.tr l).of _ _ g)
    refine wpAny_assign_Name (block_put (s := ⟨h₂, s.gens, s.drawn, tk₂, s.os⟩) (ρl := []) (ρ := ρ) (ρv := ρv) g hkind hin hap hce (fun n av e => (hr n av e).mono hG) hv S₂ hc' (.inl hn) (hvr.mono hG) (hpl av hmem) (fun _ h => nomatch h) fun mC₃ cells₃ h₃ tk₃ hc₃ _ S₃ => ?_)
    have ht := turn av hmem
    have hlen : kvs.length ≤ i := by
      rw [hys.length]
      have := List.length_filterMap_le F (its.take i)
      rw [List.length_take] at this
      omega
    generalize hF : F av = r at ht
    cases ht with
    | no hcT =>
      refine wpAny_tests_one (hcT G _ _ _ _ S₃ fun h4 tk4 G4 l4 S4 => ?_)
      simp only [Bool.false_eq_true, if_false]
      obtain ⟨s5, S6⟩ := back l4 S4.toOkB
      exact ⟨its.length + 1 - (i + 1), by omega, .mk hlt rfl s5 (hG.tr l4) hc₃ S6 hdi (by rw [take_fmD hav, hF]; simpa using hys.mono l4)⟩
    | @yes c kk vv hcT hkT hvT =>
      refine wpAny_tests_one (hcT G _ _ _ _ S₃ fun h4 tk4 G4 l4 S4 => ?_)
      simp only [if_true]
      refine hkT G4 _ _ _ _ S4 fun v5 h5 tk5 G5 l5 S5 r5 => ?_
      cases r5
      refine hvT G5 _ _ _ _ S5 fun v6 h6 tk6 G6 l6 S6 r6 => ?_
      obtain ⟨oD', eD, qD⟩ := S6.st.own (D, .obj oD) (List.mem_cons_of_mem _ (List.mem_cons_of_mem _ (List.mem_cons_self ..)))
      cases qD
      refine wpAny_dictSet_pairs (knd := strKind pg w) (s := ⟨h6, s.gens, s.drawn, tk6, s.os⟩) (k := kk) (hsz := by rw [sizeLine_eq]; omega) (strKind_is ..) (Heap.dictOf_iff.mpr ⟨oD, eD, hdi⟩) fun h7 hd7 hs7 => ?_
      obtain ⟨o7, ho7, hdi7⟩ := Heap.dictOf_iff.mp hd7
      have hnew : kk ∉ kvs.map (·.1) := by
        rw [hys.keys]
        have e : its.filterMap F = (its.take (i + 1)).filterMap F ++ (its.drop (i + 1)).filterMap F := by rw [← List.filterMap_append, List.take_append_drop]
        rw [e, List.map_append, take_fmD hav, hF] at hnd
        have n1 := (List.nodup_append.mp hnd).1
        rw [List.map_append] at n1
        intro hm
        exact (List.nodup_append.mp n1).2.2 kk hm kk (by simp) rfl
      rw [stored_new hnew] at hdi7
      have S7 : OkB x G6 ((I, .obj oI) :: (C, .ns mC₃) :: (D, .obj o7) :: (cells₃ ++ T)) h7 := by
        have u := S6.st.upd (a := D) (sp := .obj o7) (List.mem_cons_of_mem _ (List.mem_cons_of_mem _ (List.mem_cons_self ..))) (fun b o hb e => hs7.extBut b o hb e) ho7 rfl
        have nd := S6.st.nd
        simp only [List.map_cons, List.nodup_cons, List.mem_cons, not_or] at nd
        have e : setT D (.obj o7) ((I, .obj oI) :: (C, .ns mC₃) :: (D, .obj oD) :: (cells₃ ++ T)) = (I, .obj oI) :: (C, .ns mC₃) :: (D, .obj o7) :: (cells₃ ++ T) := by
          rw [setT_cons_ne nd.1.2.1, setT_cons_ne nd.2.1.1, setT_cons_eq]
          intro p hp q
          exact nd.2.2.1 (List.mem_map.mpr ⟨p, hp, q⟩)
        rw [e] at u
        refine S6.toOkB.mem u (Fz.rf _) fun a sp hm h1 h2 h3 => ?_
        rcases List.mem_cons.mp hm with q | hm
        · exact List.mem_cons.mpr (.inl q)
        · refine List.mem_cons_of_mem _ ?_
          rcases List.mem_cons.mp hm with q | hm
          · exact List.mem_cons.mpr (.inl q)
          · refine List.mem_cons_of_mem _ ?_
            rcases List.mem_cons.mp hm with q | hm
            · cases q; exact absurd rfl (h1 _)
            · exact List.mem_cons_of_mem _ hm
      have l46 := l4.tr (l5.tr l6)
      obtain ⟨s8, S8⟩ := back l46 S7
      exact ⟨its.length + 1 - (i + 1), by omega, .mk hlt rfl s8 (hG.tr l46) hc₃ S8 hdi7 (by rw [take_fmD hav, hF]; exact (hys.mono l46).snoc r6)⟩
  · obtain rfl : i = its.length := Nat.le_antisymm hi (Nat.not_lt.mp hlt)
    refine W.done _ _ _ hst fun h₂ tk₂ hk₂ => ?_
    have k₂ : ∀ b o, b ≠ I → h'.get? b = some o → h₂.get? b = some o := fun b o hb e => hk₂ b o (fun z => hb (List.mem_singleton.mp z)) e
    exact done oD kvs G mC' cells' h₂ tk₂ hG hc' (S'.drop1 k₂ (fun _ e => nomatch e) (fun _ e => nomatch e)) hdi (by rw [List.take_length] at hys; exact hys)
theorem CompD1 {kx vx iter : PySem.Expr} {n0 : Str} {px : Pos} {ifs : List PySem.Expr} {scope : Scope} {cl : List (Str × Addr)} {pos : Pos} {av : AV} {its : List AV} (F : AV → Option (Str × AV)) (ρv : Rho) (hx : x.Ok w)
    (hit : EV w x env ρ iter av) (hI : ItV w av its) (hlen : its.length ≤ 16777216) (hpl : ∀ av ∈ its, av.plain = true) (hnd : ((its.filterMap F).map (·.1)).Nodup)
    (hkind : scope.kind = .function) (hcl : ∀ p ∈ cl, p ∈ env.cells) (hcn : (cl.map (·.1)).Nodup) (hv : ∀ C, VisR env (cEnv scope cl C env) ρ ρv) (hn : ∀ C, (cEnv scope cl C env).kindOf n0 = some .local)
    (hturn : ∀ C, ∀ av ∈ its, TurnD w x (cEnv scope cl C env) ((n0, av) :: ρv) kx vx ifs (F av)) :
    CompD w x env ρ (.DictComp kx vx [⟨.Name n0 px, iter, ifs, 0⟩] scope pos) iter scope cl (its.filterMap F) := fun Gb T s E RR Sb kk => by
  refine hit Gb T s _ _ Sb fun v h1 tk1 G l1 S r1 => ?_
  refine iterV S.toOkB r1 hI fun I fp P Si hs' It => ?_
  refine wpAny_newObj_type (newEnv_comp ?_)
  dsimp only
  generalize hH2 : hs'.push { cls := .type "dict", data := .dict #[] } = H2
  have hC : H2.objs.size = hs'.objs.size + 1 := by rw [← hH2, Heap.size_push]
  generalize hH3 : H2.push { cls := .type "dict", data := .dict #[] } = H3
  have hC3 : H3.objs.size = H2.objs.size + 1 := by rw [← hH3, Heap.size_push]
  obtain ⟨oI, heI⟩ := It.here _ _ It.now
  have hbn : h1.get? I = none := by rw [It.new]; exact none_size h1
  have S1 : St G ((I, .any) :: T) hs' := S.st.cons It.keep heI hbn trivial
  have S2 : St G ((hs'.objs.size, .obj { cls := .type "dict", data := .dict #[] }) :: (I, .any) :: T) H2 := hH2 ▸ S1.consPush _ rfl
  have old : ∀ b o, H2.get? b = some o → (pushCells H3 scope.names).get? b = some o := fun b o e => pushCells_keeps _ _ _ _ (hH3 ▸ Heap.get?_push_of_some _ e)
  have old' : ∀ b o, hs'.get? b = some o → (pushCells H3 scope.names).get? b = some o := fun b o e => old b o (hH2 ▸ Heap.get?_push_of_some _ e)
  have nC : (pushCells H3 scope.names).Ns H2.objs.size (fun _ => none) := (hH3 ▸ Heap.Ns.new H2 (.type "dict")).keeps (pushCells_keeps _ _)
  have hcadr : ∀ b ∈ ownAdr (H2.objs.size + 1) scope.names, (pushCells H3 scope.names).get? b = some cell0 ∧ H2.objs.size + 1 ≤ b := fun b hb => by
    have z := ownAdr_at scope.names H3 b (by rw [hC3]; exact hb)
    rw [hC3] at z
    exact z
  have S3 : St G (((H2.objs.size, .ns fun _ => none) :: (ownAdr (H2.objs.size + 1) scope.names).map fun b => (b, Sp.cell none)) ++ ((hs'.objs.size, .obj { cls := .type "dict", data := .dict #[] }) :: (I, .any) :: T)) (pushCells H3 scope.names) := by
    refine S2.many old _ (fun p hp => ?_) ?_
    · rcases List.mem_cons.mp hp with rfl | hp
      · obtain ⟨o, ho, q⟩ := ns_obj nC
        exact ⟨Nat.le_refl _, o, ho, q⟩
      · obtain ⟨b, hb, rfl⟩ := List.mem_map.mp hp
        exact ⟨Nat.le_of_succ_le (hcadr b hb).2, cell0, (hcadr b hb).1, rfl⟩
    · rw [List.map_cons, List.map_map]
      have e : ((fun p : Addr × Sp => p.1) ∘ fun b => (b, Sp.cell none)) = id := rfl
      rw [e, List.map_id]
      exact List.nodup_cons.mpr ⟨fun hm => absurd (hcadr _ hm).2 (Nat.not_succ_le_self _), ownAdr_nd _ _⟩
  have S4 := S3.perm (comp_perm _ _ _ _ _)
  have S5 : OkB x G ((I, .any) :: (H2.objs.size, .ns fun _ => none) :: (hs'.objs.size, .obj { cls := .type "dict", data := .dict #[] }) :: ((ownAdr (H2.objs.size + 1) scope.names).map (fun b => (b, Sp.cell none)) ++ T)) (pushCells H3 scope.names) :=
    S.toOkB.mem S4 (Fz.rf _) fun a sp hm _ _ _ => List.mem_cons_of_mem _ (List.mem_cons_of_mem _ (List.mem_cons_of_mem _ (List.mem_append_right _ hm)))
  have hci : CellsIn (ownAdr (H2.objs.size + 1) scope.names) ((ownAdr (H2.objs.size + 1) scope.names).map fun b => (b, Sp.cell none)) := ⟨by rw [List.map_map]; exact List.map_id _, fun p hp => by obtain ⟨b, hb, rfl⟩ := List.mem_map.mp hp; exact ⟨none, rfl⟩⟩
  have hst₁ : Si 0 (pushCells H3 scope.names) := It.W.frame _ _ _ It.now fun b _ o e => old' b o e
  have hap : Apt (cEnv scope cl H2.objs.size env) := cellsFrom_nd _ _ _ (cl_nd S.ap hcl hcn) fun p hp => by
    obtain ⟨v, hm⟩ := S.ce p (hcl p hp)
    have z : @LT.lt Nat _ p.2 h1.objs.size := S.st.lt hm
    have z2 : @LT.lt Nat _ I hs'.objs.size := It.lt
    have z3 : @Eq Nat I h1.objs.size := It.new
    show @LT.lt Nat _ _ _
    omega
  have low : ∀ (d : Addr), hs'.objs.size ≤ d → d ≠ sysModules := fun d hd q => by
    have h1' : @LT.lt Nat _ 122 x.h₀.objs.size := Heap.lt_size (hx.K _ _ (k122 w).choose_spec)
    obtain ⟨m, hm'⟩ := S.fr
    have h2' : @LT.lt Nat _ x.L h1.objs.size := S.st.lt hm'
    have h3 : @LE.le Nat _ x.h₀.objs.size x.L := hx.above
    have z2 : @LT.lt Nat _ I hs'.objs.size := It.lt
    have z3 : @Eq Nat I h1.objs.size := It.new
    have q' : @Eq Nat d sysModules := q
    have : @Eq Nat sysModules 1 := rfl
    omega
  refine codeAny_compStart_dict ?_ (It.W.self 0 _ _ _ hst₁ ?_)
  all_goals
    refine vloopD (fp := fp) (P := P) (G₁ := G) (T := T) (its := its) F It.W It.here It.fp It.item hlen hst₁ hpl hnd S.eg hkind (fun p hp => .inl (hcl p hp)) hap S.ce S.rho (hv _) (hn _) S5 ⟨#[], 0, ⟨rfl, rfl, rfl⟩, rfl, fun _ he => (nomatch he), .nil, List.nodup_nil⟩ hci (hturn _) ?_
    intro oD kvs G1 mC cells h tk hG hc S' hdi hys
    have hfr := S.fr
    have sub : List.Sublist ((hs'.objs.size, Sp.obj oD) :: (H2.objs.size, .ns mC) :: T) ((hs'.objs.size, Sp.obj oD) :: (H2.objs.size, .ns mC) :: (cells ++ T)) := List.Sublist.cons_cons _ (List.Sublist.cons_cons _ (List.sublist_append_right ..))
    have Sa : St G1 ((hs'.objs.size, Sp.obj oD) :: (H2.objs.size, .ns mC) :: T) h := (S'.st.swap).sub sub
    have Sb' : OkB x G1 ((hs'.objs.size, Sp.obj oD) :: (H2.objs.size, .ns mC) :: T) h := S'.mem Sa (Fz.rf _) fun a sp hm h1 h2 h3 => by
      rcases List.mem_cons.mp hm with q | hm
      · rw [q]; exact List.mem_cons_of_mem _ (List.mem_cons_self ..)
      · rcases List.mem_cons.mp hm with q | hm
        · cases q; exact absurd rfl (h1 _)
        · rcases List.mem_append.mp hm with hm | hm
          · obtain ⟨v, e⟩ := hc.2 _ hm
            exact absurd e (h3 v)
          · exact List.mem_cons_of_mem _ (List.mem_cons_of_mem _ hm)
    have Sc := Sb'.freeze (let ⟨m, hm⟩ := hfr; ⟨m, List.mem_cons_of_mem _ hm⟩)
    have l2 := l1.tr (hG.tr (Fz.le_add G1 hs'.objs.size oD))
    have r2 : VR (G1.add hs'.objs.size oD) (.ref hs'.objs.size) (.sdict w (its.filterMap F)) := .sdict (.inr ⟨rfl, rfl⟩) hdi (low _ (Nat.le_refl _)) (hys.mono (Fz.le_add ..))
    exact kk _ _ mC _ h tk l2 (Sb.more1 Sc l2) r2
theorem EV_compD {kx vx iter target : PySem.Expr} {ifs : List PySem.Expr} {gens : List Comprehension} {scope : Scope} {cl : List (Str × Addr)} {pos : Pos} {es : List (Str × AV)} (H : CompD w x env ρ (.DictComp kx vx (⟨target, iter, ifs, 0⟩ :: gens) scope pos) iter scope cl es)
    (hclos : closureFor scope env = pure cl) (hkind : scope.kind = .function) (hnames : ∀ y ∈ scope.names, y.2 = .local → scope.names.lookup y.1 = some .local)
    (hs : ∀ x, foldedSetIterable iter env x = pure x := by intro _; rfl) : EV w x env ρ (.DictComp kx vx (⟨target, iter, ifs, 0⟩ :: gens) scope pos) (.sdict w es) := fun G T s Q E S k => by
  rw [arm_eval_DictComp]
  refine wpAny_comprehension_free (use := none) rfl hs hclos hkind hnames (H G T s E (fun acc C => compPost (model pg w) x.A E none Q acc C) S fun D C mC G2 h3 tk3 l2 S2 r2 => ?_)
  obtain ⟨o, ho, q⟩ := S2.st.own _ (List.mem_cons_self ..)
  refine ⟨mC, NsObj.ns q ho, fun h'' hs'' => k _ _ _ G2 l2 ?_ r2⟩
  exact S.toR l2 (S2.toOkB.drop2 (fun b o hb e => hs''.extBut b o hb e) (fun _ e => nomatch e) S.fr)
end
end Mine
end
section
open PySem PySem.W PyProof.Rows PySem.Calls PySem.Spec
set_option Elab.async false
set_option maxRecDepth 100000
namespace Mine
open LCg
theorem primeA1 (w : World) : (kk.heap_1 w.params = kk.heap_1 w.params) ∧ PySem.Challenge.rw_wn0104_01 = PySem.Challenge.rw_wn0104_01 := by
  k_fill
  exact ⟨rfl, rfl⟩
section
variable {w : World} {x : Cx} {env : Env} {ρ : Rho}
/-- a number of the top -/
theorem EV_globI {n : Str} {p : Pos} {i : Int} {t : Tok} (hx : x.Ok w) (g : GN w n (.int i t)) (hk : env.kindOf n = some .globalImplicit) (hd : (n == ("__debug__" : Str)) = false := by decide) : EV w x env ρ (.Name n p) (.int i) := fun G T s Q E S k =>
  EX_glob hx g hk hd G T s Q E S (k _ s.heap s.toks G (Fz.rf _) S (.int _ _))
theorem gn_nt (w : World) : ∃ t, GN w (Str.ofString "NT_OFFSET") (.int 256 t) := ⟨_, .inl (by k_is)⟩
set_option maxHeartbeats 1000000
theorem term_v (hx : x.Ok w) (hr : x.dp < recursionLimit) (a : Int) : CallV w x (.ref 70) [.int a] (.bool (decide (a < 256))) := by
  refine call_def (ns := [Str.ofString "x"]) (ρ₀ := [(Str.ofString "x", .int a)]) hx (by k_is) (by k_is) hr ?_ ?_ (by decide +kernel) ?_ ?_ rfl rfl rfl
  · intro vs s h
    obtain ⟨v, rfl⟩ := List.length_eq_one_iff.mp h
    exact BindsTo.of_eq rfl
  · intro vs h
    obtain ⟨v, rfl⟩ := List.length_eq_one_iff.mp h
    rfl
  · intro L' vs G r
    cases r with | cons r1 r =>
    cases r
    exact List.forall_mem_cons.mpr ⟨⟨rfl, _, .inl ⟨rfl, rfl⟩, r1⟩, List.forall_mem_nil _⟩
  · intro x' hx' _ _
    obtain ⟨t, g⟩ := gn_nt w
    refine Run_ret (EV_cmp (EV_name rfl) (EV_globI hx' g rfl) CV_ltI) rfl
end
end Mine
end
section
open PySem PySem.W PyProof.Rows PySem.Calls PySem.Spec
set_option Elab.async false
set_option maxRecDepth 100000
namespace Mine
open LCg
theorem primeA2 (w : World) : (kk.heap_1 w.params = kk.heap_1 w.params) ∧ PySem.Challenge.rw_wn0104_01 = PySem.Challenge.rw_wn0104_01 := by
  k_fill
  exact ⟨rfl, rfl⟩
noncomputable def extF (names : List Str) (due : Int) (rows : List (List Str)) : List (List Str) := rows.flatMap fun row => (names.filter fun nm => !(row.any (· == nm)) && cmpF (row.getLastD (Str.ofString "")) nm == due).map fun nm => row ++ [nm]
noncomputable def rowsF (names : List Str) (rises : List Bool) : List (List Str) := rises.foldl (fun rows r => extF names (if r then -1 else 1) rows) (names.map fun n => [n])
noncomputable abbrev rL (rows : List (List Str)) : List AV := rows.map fun r => AV.list (sL r)
theorem two {α : Type} {l : List α} (h : l.length = 2) : ∃ a b, l = [a, b] := by
  match l, h with
  | [a, b], _ => exact ⟨a, b, rfl⟩
theorem mem_extF {names : List Str} {d : Int} {rows : List (List Str)} {r : List Str} (h : r ∈ extF names d rows) : ∃ row ∈ rows, ∃ nm ∈ names, r = row ++ [nm] := by
  unfold extF at h
  obtain ⟨row, hr, h⟩ := List.mem_flatMap.mp h
  obtain ⟨nm, hn, rfl⟩ := List.mem_map.mp h
  exact ⟨row, hr, nm, (List.mem_filter.mp hn).1, rfl⟩
theorem rowsF_snoc (names : List Str) (rs : List Bool) (r : Bool) : rowsF names (rs ++ [r]) = extF names (if r then -1 else 1) (rowsF names rs) := by
  unfold rowsF
  rw [List.foldl_append]; rfl
theorem rowsF_rec {names : List Str} {P : List Bool → List (List Str) → Prop} (h0 : P [] (names.map fun n => [n])) (hs : ∀ rs r, P rs (rowsF names rs) → P (rs ++ [r]) (extF names (if r then -1 else 1) (rowsF names rs))) (rs : List Bool) : P rs (rowsF names rs) := by
  have key : ∀ n (rs : List Bool), rs.length = n → P rs (rowsF names rs) := by
    intro n
    induction n with
    | zero => intro rs h; rw [List.length_eq_zero_iff.mp h]; exact h0
    | succ n ih =>
      intro rs h
      have hne : rs ≠ [] := fun e => by rw [e] at h; cases h
      rw [← List.dropLast_concat_getLast hne, rowsF_snoc]
      exact hs _ _ (ih _ (by rw [List.length_dropLast, h]; rfl))
  exact key _ rs rfl
theorem rowsF_len (names : List Str) (rs : List Bool) : ∀ row ∈ rowsF names rs, row.length = rs.length + 1 := by
  refine rowsF_rec (P := fun rs l => ∀ row ∈ l, row.length = rs.length + 1) ?_ ?_ rs
  · intro row h
    obtain ⟨n, _, rfl⟩ := List.mem_map.mp h
    rfl
  · intro rs r ih row h
    obtain ⟨row', h', nm, _, rfl⟩ := mem_extF h
    rw [List.length_append, ih row' h', List.length_append]; rfl
theorem extF_length (names : List Str) (d : Int) : ∀ rows : List (List Str), (extF names d rows).length ≤ rows.length * names.length
  | [] => Nat.zero_le _
  | r :: rows => by
    have ih := extF_length names d rows
    unfold extF at ih ⊢
    rw [List.flatMap_cons, List.length_append, List.length_map, List.length_cons, Nat.succ_mul, Nat.add_comm]
    exact Nat.add_le_add ih (List.length_filter_le ..)
theorem rowsF_length (names : List Str) (hn : names.length ≤ 5) (rs : List Bool) : (rowsF names rs).length ≤ 5 ^ (rs.length + 1) := by
  refine rowsF_rec (P := fun rs l => l.length ≤ 5 ^ (rs.length + 1)) ?_ ?_ rs
  · rw [List.length_map]; exact hn
  · intro rs r ih
    refine Nat.le_trans (extF_length ..) ?_
    rw [List.length_append]
    exact Nat.mul_le_mul ih hn
local macro_rules | `(tactic| walk_at "call ref") => `(tactic| (k_here; k_dflt (refine' Claim.useI (strcoll_c _ _ _ _ _) ?k1 ?k2 ?k3 ?k4 ?k5 ?k6 ?k7 ?k8 ?_; (case k1 => k_asm); (case k2 => k_asm); (case k3 => k_asm); (case k4 => k_asm); (case k5 => k_asm); (case k6 => first | exact rfl | assumption); (case k7 => ktr_room); (case k8 => ktr_units)); intro t9 h9 tk9 F9 N9))
set_option maxHeartbeats 4000000 in
theorem order_c (w : World) (a : Str) (ta : Tok) (b : Str) (tb : Tok) :
    Claim w 3 117 [.str a ta, .str b tb] (fun _ => True) (fun r tl => (∃ t, r = .int (cmpF a b) t) ∧ tl = []) := by
  w_top off
  intro mean mg mb news dp un gd cn cs a₁ ccd cl outer A₀ base h₀ L m s Q E B F X N T hk hR hd hu hret
  refine wpAny_call ?_
  k_dflt cell_enter
  k_steps
  exact hret _ [] _ _ (by assumption) (by assumption) (fun _ _ _ h => nomatch h) ⟨⟨_, rfl⟩, rfl⟩
theorem k117 (w : World) : ∃ o fd, (kk.heap_1 w.params).lookup 117 = some o ∧ o.data = .func fd := ⟨_, _, by k_is, rfl⟩
theorem SubR_push {n : Str} {a : AV} {ρ' ρ : Rho} (h : SubR ρ' ρ) (hn : ρ'.all (fun p => p.1 != n) = true) : SubR ρ' ((n, a) :: ρ) := by
  induction ρ' with
  | nil => trivial
  | cons p r ih =>
    rw [List.all_cons, Bool.and_eq_true] at hn
    refine ⟨?_, ih h.2 hn.2⟩
    have : (p.1 == n) = false := by simpa using hn.1
    rw [List.lookup_cons, this]
    exact h.1
theorem SubR_in {n : Str} {a : AV} {ρ' ρ : Rho} (h : SubR ρ' ρ) (hn : ρ'.all (fun p => p.1 != n) = true) : SubR ((n, a) :: ρ') ((n, a) :: ρ) := ⟨by simp, SubR_push h hn⟩
noncomputable def toS : AV → Str
  | .str y => y
  | _ => Str.empty
theorem toS_map (row : List Str) : (sL row).map toS = row := by
  rw [List.map_map]; exact List.map_id _
noncomputable def rowFn (due : Int) : AV → AV → Option AV
  | .list xs, .str nm => if (!((xs.map toS).any (· == nm)) && cmpF ((xs.map toS).getLastD (Str.ofString "")) nm == due) = true then some (.list (xs ++ [.str nm])) else none
  | _, _ => none
theorem rowFn_eq (due : Int) (row : List Str) (nm : Str) : rowFn due (.list (sL row)) (.str nm) = if (!(row.any (· == nm)) && cmpF (row.getLastD (Str.ofString "")) nm == due) = true then some (.list (sL (row ++ [nm]))) else none := by
  simp only [rowFn, toS_map, List.map_append, List.map_cons, List.map_nil]
theorem ext_eq (names : List Str) (due : Int) : ∀ rows : List (List Str), ((rL rows).flatMap fun a => (sL names).filterMap (rowFn due a)) = rL (extF names due rows)
  | [] => rfl
  | row :: rows => by
    have ih := ext_eq names due rows
    unfold extF at ih ⊢
    show (AV.list (sL row) :: rL rows).flatMap _ = List.map _ _
    rw [List.flatMap_cons, List.flatMap_cons, List.map_append, ih]
    congr 1
    show (names.map AV.str).filterMap _ = _
    rw [List.filterMap_map, List.map_map]
    clear ih
    induction names with
    | nil => rfl
    | cons n r ihn =>
      rw [List.filterMap_cons, List.filter_cons]
      simp only [Function.comp_apply]
      rw [rowFn_eq]
      cases hc : (!(row.any (· == n)) && cmpF (row.getLastD (Str.ofString "")) n == due) with
      | true => simp only [if_true]; rw [List.map_cons, ihn]; rfl
      | false => simp only [Bool.false_eq_true, if_false]; exact ihn
theorem TurnV.ite {w : World} {x : Cx} {cenv : Env} {ρ : Rho} {elt c : PySem.Expr} {b : Bool} {v : AV} (hc : EB w x cenv ρ c b) (he : b = true → EV w x cenv ρ elt v) : TurnV w x cenv ρ elt [c] (if b = true then some v else none) := by
  cases b with
  | true => exact .yes hc (he rfl)
  | false => exact .no hc
section
variable {w : World} {x : Cx}
theorem order_v (hd : x.dp + 3 < recursionLimit) (hu : x.un + 24 < cLine) (hx : x.Ok w) (a b : Str) : CallV w x (.ref 117) [.str a, .str b] (.int (cmpF a b)) := by
  refine CallV_claim (kk := 3) hx hd hu fun G vs r => ?_
  cases r with | cons r1 r =>
  cases r with | cons r2 r =>
  cases r; cases r1; cases r2
  exact order_c w _ _ _ _
set_option maxHeartbeats 2000000
theorem rows_v (hx : x.Ok w) (hr : x.dp + 8 < recursionLimit) (hu : x.un + 200 < cLine) (names : List Str) (rises : List Bool) (hlen : names.length ≤ 5) (hlr : rises.length ≤ 4) :
    CallV w x (.ref 122) [.list (sL names), .list (bL rises)] (.list (rL (rowsF names rises))) := by
  refine call_def (ns := [Str.ofString "names", Str.ofString "rises"]) (ρ₀ := [(Str.ofString "names", .list (sL names)), (Str.ofString "rises", .list (bL rises))]) hx (by k_is) (by k_is) (by omega) ?_ ?_ (by decide +kernel) ?_ ?_ rfl rfl rfl
  · intro vs s h
    obtain ⟨a, b, rfl⟩ := two h
    exact BindsTo.of_eq rfl
  · intro vs h
    obtain ⟨a, b, rfl⟩ := two h
    rfl
  · intro L' vs G r
    cases r with | cons r1 r =>
    cases r with | cons r2 r =>
    cases r
    exact List.forall_mem_cons.mpr ⟨⟨rfl, _, .inr ⟨rfl, rfl, rfl⟩, r1⟩, List.forall_mem_cons.mpr ⟨⟨rfl, _, .inl ⟨rfl, rfl⟩, r2⟩, List.forall_mem_nil _⟩⟩
  · intro x' hx' hdp hun
    refine Run_compR (cl := []) (CompR1 (fun | .str n => some (.list (sL [n])) | _ => none) [] (EV_name rfl) .list (by simp; omega) ?_ rfl (fun _ h => nomatch h) List.nodup_nil (fun _ _ h => nomatch h) (fun C => .inl rfl) ?_) (by with_unfolding_all rfl) rfl (by decide) (.inl rfl) (by with_unfolding_all rfl) ?_
    · intro av hav
      obtain ⟨n, _, rfl⟩ := List.mem_map.mp hav
      rfl
    · intro C av hav
      obtain ⟨n, _, rfl⟩ := List.mem_map.mp hav
      exact .all (EV_list (EVL_cons (EV_name rfl) EVL_nil) (by simp))
    have e0 : ((sL names).filterMap fun | .str n => some (AV.list (sL [n])) | _ => none) = rL (rowsF names []) := by
      show (names.map AV.str).filterMap _ = (names.map fun n => [n]).map _
      rw [List.filterMap_map, List.map_map, ← List.filterMap_eq_map]
      rfl
    rw [e0]
    refine Run_for (fun i ρ' => SubR [(Str.ofString "rows", .list (rL (rowsF names (rises.take i)))), (Str.ofString "names", .list (sL names))] ρ') (EV_name rfl) .list (.inl rfl) ?_ ⟨rfl, rfl, trivial⟩ ?_ ?_
    · intro a ha
      obtain ⟨n, _, rfl⟩ := List.mem_map.mp ha
      rfl
    · intro i a ρ' hi hJ
      rw [List.getElem?_map, Option.map_eq_some_iff] at hi
      obtain ⟨r, hr, rfl⟩ := hi
      refine Run_sub (SubR_in hJ rfl) ?_
      refine Run_assign (av := .int (if r then -1 else 1)) (EV_if (EB_bool (EV_name rfl)) (fun h => by subst h; exact EV_neg EV_int) (fun h => by subst h; exact EV_int)) (.inr ⟨rfl, rfl⟩) rfl ?_
      have hrows : ∀ av ∈ rL (rowsF names (rises.take i)), ∃ row ∈ rowsF names (rises.take i), av = .list (sL row) := fun av h => by
        obtain ⟨row, h1, rfl⟩ := List.mem_map.mp h
        exact ⟨row, h1, rfl⟩
      refine Run_compR (cl := [(Str.ofString "names", x'.L + 1), (Str.ofString "due", x'.L + 1 + 1)]) (CompR2 (av0 := .list (rL (rowsF names (rises.take i)))) (fun _ => .list (sL names)) (fun _ => sL names) (rowFn (if r then -1 else 1)) [(Str.ofString "names", .list (sL names)), (Str.ofString "due", .int (if r then -1 else 1))] (EV_name rfl) .list ?_ ?_ ?_ (by decide) rfl ?_ (by show [Str.ofString "names", Str.ofString "due"].Nodup; decide +kernel) ?_ (fun _ => rfl) (fun _ => rfl) (fun _ _ => rfl) ?_ ?_) (by with_unfolding_all rfl) rfl (by decide) (.inl rfl) (by with_unfolding_all rfl) ?_
      · have h1 : ((rL (rowsF names (rises.take i))).flatMap fun _ => sL names).length = (rowsF names (rises.take i)).length * names.length := by
          show ((List.map _ _).flatMap _).length = _
          rw [List.length_flatMap, List.map_map]
          generalize rowsF names (rises.take i) = l
          induction l with
          | nil => simp
          | cons a l ih => rw [List.map_cons, List.sum_cons, ih, List.length_cons, Nat.succ_mul, Nat.add_comm]; simp
        have h2 := rowsF_length names hlen (rises.take i)
        have h3 : 5 ^ ((rises.take i).length + 1) ≤ 5 ^ 5 := Nat.pow_le_pow_right (by decide) (by rw [List.length_take]; omega)
        rw [h1]
        exact Nat.le_trans (Nat.mul_le_mul (Nat.le_trans h2 h3) hlen) (by decide)
      · intro av h
        obtain ⟨row, _, rfl⟩ := hrows av h
        rfl
      · intro _ _ b h
        obtain ⟨n, _, rfl⟩ := List.mem_map.mp h
        rfl
      · exact List.forall_mem_cons.mpr ⟨List.Mem.tail _ (List.Mem.head _), List.forall_mem_cons.mpr ⟨List.Mem.head _, List.forall_mem_nil _⟩⟩
      · intro C
        exact List.forall_mem_cons.mpr ⟨⟨rfl, rfl, .inl rfl, .inl rfl, rfl⟩, List.forall_mem_cons.mpr ⟨⟨rfl, rfl, .inl rfl, .inl rfl, rfl⟩, List.forall_mem_nil _⟩⟩
      · intro C av h
        exact ⟨EV_name rfl, .list⟩
      · intro C av h b hb
        obtain ⟨row, hrow, rfl⟩ := hrows av h
        obtain ⟨nm, _, rfl⟩ := List.mem_map.mp hb
        rw [rowFn_eq]
        have hl := rowsF_len names _ row hrow
        refine TurnV.ite (EB_and2 (EB_cmp (EV_name rfl) (EV_name rfl) CV_ninS) fun _ => EB_cmp (EV_callF hx' (EX_glob hx' (gn_order w) rfl) (EVL_cons (EV_itemN (EV_name rfl) (EV_neg EV_int) (by decide) ?_ ?_ (by decide)) (EVL_cons (EV_name rfl) EVL_nil)) (order_v (by omega) (by omega) hx' _ _) (k117 w).choose_spec.choose_spec.1 (k117 w).choose_spec.choose_spec.2) (EV_name rfl) CV_eqI) fun _ => ?_
        · rw [List.length_map, hl]; omega
        · rw [List.length_map, List.getElem?_map]
          have e : ((-1 + (row.length : Int)).toNat) = row.length - 1 := by omega
          rw [e, List.getLastD_eq_getLast?, List.getLast?_eq_getElem?]
          have : row.length - 1 < row.length := by omega
          rw [List.getElem?_eq_getElem this]; rfl
        · rw [show sL (row ++ [nm]) = sL row ++ [AV.str nm] from List.map_append ..]
          refine EV_bin (EV_name rfl) (EV_list (EVL_cons (EV_name rfl) EVL_nil) (by simp)) (BV_addL hx'.above ?_)
          rw [List.length_map, hl, List.length_take]
          simp; omega
      · rw [ext_eq]
        refine Run_nil ?_
        have hlt : i < rises.length := (List.getElem?_eq_some_iff.mp hr).1
        rw [show rises.take (i + 1) = rises.take i ++ [r] by rw [List.take_add_one, hr]; rfl, rowsF_snoc]
        exact ⟨rfl, rfl, trivial⟩
    · intro ρ' hJ
      refine Run_sub hJ (Run_ret (EV_name rfl) ?_)
      rw [List.length_map, List.take_length]
end
end Mine
end
section
open PySem PySem.W PyProof.Rows PySem.Calls PySem.Spec
set_option Elab.async false
set_option maxRecDepth 100000
namespace Mine
open LCg
theorem primeA3 (w : World) : (kk.heap_1 w.params = kk.heap_1 w.params) ∧ PySem.Challenge.rw_wn0104_01 = PySem.Challenge.rw_wn0104_01 := by
  k_fill
  exact ⟨rfl, rfl⟩
theorem k91 (w : World) : ∃ o fd, (kk.heap_1 w.params).lookup 91 = some o ∧ o.data = .func fd := ⟨_, _, by k_is, rfl⟩
noncomputable abbrev dI (es : List (Str × Int)) : List (Str × AV) := es.map fun p => (p.1, .int p.2)
noncomputable def sgn : List Str := [⟨#[60]⟩, ⟨#[62]⟩]
noncomputable def textsF : Nat → List Str
  | 0 => [Str.ofString ""]
  | n + 1 => (textsF n).flatMap fun t => sgn.map fun g => t ++ g
noncomputable def costF (roads : List (Str × Int)) (t : Str) : Int := ((roads.filter fun p => levF t p.1 == 2).map (·.2)).sum
noncomputable def furF (roads : List (Str × Int)) (size : Nat) : List (Str × Int) := (textsF size).map fun t => (t, costF roads t)
noncomputable def stepF (roads : List (Str × Int)) (size : Nat) : List (Str × Int) := (furF roads size).filter fun p => decide (0 < p.2)
/-- the roads behind i turns -/
noncomputable def roadsI' : Nat → Str → List (Str × Int)
  | 0, word => [(word, 1)]
  | i + 1, word => stepF (roadsI' i word) (word.length - (i + 1))
noncomputable def roadsF (word : Str) : Int := ((roadsI' word.length word).lookup (Str.ofString "")).getD 0
theorem textsF_len : ∀ n, ∀ t ∈ textsF n, t.length = n
  | 0, t, h => by rw [List.mem_singleton.mp h]; rfl
  | n + 1, t, h => by
    obtain ⟨t', h', h2⟩ := List.mem_flatMap.mp h
    obtain ⟨g, hg, rfl⟩ := List.mem_map.mp h2
    rw [Str.length_append, textsF_len n t' h']
    have : g.length = 1 := by
      rcases List.mem_cons.mp hg with rfl | hg
      · rfl
      · rw [List.mem_singleton.mp hg]; rfl
    rw [this]
theorem textsF_nd : ∀ n, n ≤ 4 → (textsF n).Nodup := by decide +kernel
theorem textsF_size : ∀ n, n ≤ 4 → (textsF n).length ≤ 16 := by decide +kernel
theorem dI_lookup (es : List (Str × Int)) (k : Str) : (dI es).lookup k = (es.lookup k).map AV.int := by
  induction es with
  | nil => rfl
  | cons p r ih =>
    show List.lookup k ((p.1, AV.int p.2) :: dI r) = _
    rw [List.lookup_cons, List.lookup_cons]
    cases (k == p.1) with
    | true => rfl
    | false => exact ih
theorem nd_idx {β : Type} {l : List β} (h : l.Nodup) {i j : Nat} {hi : i < l.length} {hj : j < l.length} (e : l[i] = l[j]) : i = j := by
  rcases Nat.lt_trichotomy i j with q | q | q
  · exact absurd e (List.pairwise_iff_getElem.mp h i j hi hj q)
  · exact q
  · exact absurd e.symm (List.pairwise_iff_getElem.mp h j i hj hi q)
noncomputable def vInt : AV → Int
  | .int i => i
  | _ => 0
theorem size_down (n : Nat) : Builtin.Range.rangeSize ((n : Int) - 1) (-1) (-1) = (n : Int) := by
  unfold Builtin.Range.rangeSize
  simp only [show ¬ ((-1 : Int) > 0) by decide, if_false]
  repeat' split
  all_goals first | omega | simp | (simp; omega)
theorem small_down {n : Nat} (h : n < 1000) : Builtin.Range.small ((n : Int) - 1) (-1) (-1) = true := by
  unfold Builtin.Range.small
  rw [size_down, fits_of (i := (n : Int) - 1) (by omega) (by omega), fits_of (i := (-1 : Int)) (by omega) (by omega), fits_of (i := (n : Int)) (by omega) (by omega)]
  simp [fits_of (i := (-1 : Int)) (by omega) (by omega)]
theorem size_up (n : Nat) : Builtin.Range.rangeSize 0 (n : Int) 1 = (n : Int) := by
  unfold Builtin.Range.rangeSize
  simp only [show (1 : Int) > 0 by decide, if_true]
  repeat' split
  all_goals first | omega | simp | (simp; omega)
theorem small_up {n : Nat} (h : n < 1000) : Builtin.Range.small 0 (n : Int) 1 = true := by
  unfold Builtin.Range.small
  rw [size_up, fits_of (i := (0 : Int)) (by omega) (by omega), fits_of (i := (n : Int)) (by omega) (by omega), fits_of (i := (1 : Int)) (by omega) (by omega)]
  simp [fits_of (i := (n : Int)) (by omega) (by omega)]
theorem roadsI_keys (word : Str) : ∀ i, i ≤ word.length → ∀ p ∈ roadsI' i word, p.1.length = word.length - i
  | 0, _, p, h => by rw [List.mem_singleton.mp h]; rfl
  | i + 1, hi, p, h => by
    have h1 := (List.mem_filter.mp h).1
    obtain ⟨t, ht, rfl⟩ := List.mem_map.mp h1
    show t.length = _
    rw [textsF_len _ t ht]
theorem furF_keys (roads : List (Str × Int)) (size : Nat) : (furF roads size).map (·.1) = textsF size := by
  unfold furF
  rw [List.map_map]; exact List.map_id _
theorem roadsI_nd (word : Str) (hw : word.length ≤ 4) : ∀ i, ((roadsI' i word).map (·.1)).Nodup
  | 0 => by simp [roadsI']
  | i + 1 => by
    have h1 : (roadsI' (i + 1) word).Sublist (furF (roadsI' i word) (word.length - (i + 1))) := List.filter_sublist
    refine List.Nodup.sublist (h1.map _) ?_
    rw [furF_keys]
    exact textsF_nd _ (by omega)
theorem roadsI_size (word : Str) (hw : word.length ≤ 4) : ∀ i, (roadsI' i word).length ≤ 16
  | 0 => by simp [roadsI']
  | i + 1 => by
    refine Nat.le_trans (List.length_filter_le ..) ?_
    rw [furF, List.length_map]
    exact textsF_size _ (by omega)
theorem lookup_of_nd {β : Type} : ∀ {es : List (Str × β)}, (es.map (·.1)).Nodup → ∀ p ∈ es, es.lookup p.1 = some p.2
  | q :: r, h, p, hp => by
    rw [List.map_cons, List.nodup_cons] at h
    rw [List.lookup_cons]
    rcases List.mem_cons.mp hp with rfl | hp
    · simp
    · have : (p.1 == q.1) = false := by
        rw [beq_eq_false_iff_ne]
        intro e
        exact h.1 (List.mem_map.mpr ⟨p, hp, e⟩)
      rw [this]
      exact lookup_of_nd h.2 p hp
theorem fm_filter {α β : Type} {c : α → Bool} {f : α → β} {g : α → Option β} : ∀ (l : List α), (∀ a ∈ l, g a = if c a = true then some (f a) else none) → l.filterMap g = (l.filter c).map f
  | [], _ => rfl
  | a :: l, h => by
    have ih := fm_filter l fun b hb => h b (List.mem_cons_of_mem _ hb)
    have e := h a (List.mem_cons_self ..)
    rw [List.filterMap_cons, List.filter_cons, e, ih]
    cases c a <;> simp
section
variable {w : World} {x : Cx}
theorem lev_v (hd : x.dp + 3 < recursionLimit) (hu : x.un + 24 < cLine) (hx : x.Ok w) (a b : Str) (ha : a.length ≤ 4) (hb : b.length = a.length + 1) : CallV w x (.ref 91) [.str a, .str b, .int 2] (.int (levF a b)) := by
  refine CallV_claim (kk := 3) hx hd hu fun G vs r => ?_
  cases r with | cons r1 r =>
  cases r with | cons r2 r =>
  cases r with | cons r3 r =>
  cases r; cases r1; cases r2; cases r3
  refine lev_c w _ _ _ _ _ ha hb ?_
  rw [beq_eq_false_iff_ne]
  intro e
  rw [e] at hb; omega
set_option maxHeartbeats 4000000
theorem roads_v (hx : x.Ok w) (hr : x.dp + 8 < recursionLimit) (hu : x.un + 200 < cLine) (word : Str) (hlen : word.length ≤ 4) :
    CallV w x (.ref 127) [.str word] (.int (roadsF word)) := by
  refine call_def (ns := [Str.ofString "word"]) (ρ₀ := [(Str.ofString "word", .str word)]) hx (by k_is) (by k_is) (by omega) ?_ ?_ (by decide +kernel) ?_ ?_ rfl rfl rfl
  · intro vs s h
    obtain ⟨v, rfl⟩ := List.length_eq_one_iff.mp h
    exact BindsTo.of_eq rfl
  · intro vs h
    obtain ⟨v, rfl⟩ := List.length_eq_one_iff.mp h
    rfl
  · intro L' vs G r
    cases r with | cons r1 r =>
    cases r
    exact List.forall_mem_cons.mpr ⟨⟨rfl, _, .inl ⟨rfl, rfl⟩, r1⟩, List.forall_mem_nil _⟩
  · intro x' hx' hdp hun
    refine Run_assign (EV_dict1 hx' (EV_name rfl) EV_int) (.inr ⟨rfl, rfl⟩) rfl ?_
    refine Run_for (fun i ρ' => SubR [(Str.ofString "word", .str word), (Str.ofString "roads", .sdict w (dI (roadsI' i word)))] ρ') (EV_callT (EX_glob hx' (gn_range w) rfl) (EVL_cons (EV_bin (EV_callB (EX_glob hx' (gn_len w) rfl) (EVL_cons (EV_name rfl) EVL_nil) (CallV_lenS (by omega))) EV_int BV_sub) (EVL_cons (EV_neg EV_int) (EVL_cons (EV_neg EV_int) EVL_nil))) (CallV_range3 hx' (by decide) ?_)) (.rng (n := word.length) ?_ ?_) (.inl rfl) ?_ ⟨rfl, rfl, trivial⟩ ?_ ?_
    · exact PyProof.noPylong_small (by omega)
    · exact small_down (by omega)
    · exact size_down _
    · intro a ha
      obtain ⟨i, _, rfl⟩ := List.mem_map.mp ha
      rfl
    · intro i a ρ' hi hJ
      rw [steps, List.getElem?_map, Option.map_eq_some_iff] at hi
      obtain ⟨j, hj, rfl⟩ := hi
      have hij : i < word.length := by
        have := (List.getElem?_eq_some_iff.mp hj).1
        rwa [List.length_range] at this
      rw [List.getElem?_range hij] at hj
      cases hj
      have hsz : (word.length : Int) - 1 + (i : Int) * (-1) = ((word.length - (i + 1) : Nat) : Int) := by omega
      rw [hsz]
      generalize hS : word.length - (i + 1) = size at *
      have hs4 : size ≤ 4 := by omega
      have hkeys := roadsI_keys word i (by omega)
      rw [show word.length - i = size + 1 by omega] at hkeys
      have hnd := roadsI_nd word hlen i
      have hrl := roadsI_size word hlen i
      have hstep : roadsI' (i + 1) word = stepF (roadsI' i word) size := by rw [roadsI', hS]
      generalize hRR : roadsI' i word = roads at *
      refine Run_sub (SubR_in hJ rfl) ?_
      -- texts
      refine Run_assign (EV_list (EVL_cons EV_str EVL_nil) (by simp)) (.inl rfl) rfl ?_
      refine Run_for (fun k ρ' => SubR [(Str.ofString "texts", .list (sL (textsF k))), (Str.ofString "size", .int (size : Int)), (Str.ofString "word", .str word), (Str.ofString "roads", .sdict w (dI roads))] ρ') (EV_callT (EX_glob hx' (gn_range w) rfl) (EVL_cons (EV_name rfl) EVL_nil) (CallV_range1 hx')) (.rng (n := size) (small_up (by omega)) (size_up _)) (.inl rfl) ?_ ⟨rfl, rfl, rfl, rfl, trivial⟩ ?_ ?_
      · intro a ha
        obtain ⟨i, _, rfl⟩ := List.mem_map.mp ha
        rfl
      · intro k a ρ' hk hJ
        have hkl : k < size := by
          have := (List.getElem?_eq_some_iff.mp hk).1
          rwa [steps, List.length_map, List.length_range] at this
        refine Run_sub (SubR_push hJ rfl) ?_
        have hT : ∀ av ∈ sL (textsF k), ∃ t ∈ textsF k, av = .str t := fun av h => by
          obtain ⟨t, h1, rfl⟩ := List.mem_map.mp h
          exact ⟨t, h1, rfl⟩
        refine Run_compR (cl := []) (CompR2 (av0 := .list (sL (textsF k))) (fun _ => .str (Str.ofString "<>")) (fun _ => chars (Str.ofString "<>")) (fun a b => some (.str (toS a ++ toS b))) [] (EV_name rfl) .list ?_ ?_ ?_ (by decide) rfl (fun _ h => nomatch h) List.nodup_nil (fun _ _ h => nomatch h) (fun _ => rfl) (fun _ => rfl) (fun _ _ => rfl) ?_ ?_) (by with_unfolding_all rfl) rfl (by decide) (.inl rfl) (by with_unfolding_all rfl) ?_
        · rw [List.length_flatMap]
          have h1 := textsF_size k (by omega)
          have h2 : ((sL (textsF k)).map fun _ => (chars (Str.ofString "<>")).length) = (sL (textsF k)).map fun _ => 2 := rfl
          rw [h2, List.map_const', List.sum_replicate_nat, List.length_map]
          omega
        · intro av h
          obtain ⟨t, _, rfl⟩ := hT av h
          rfl
        · intro _ _ b h
          obtain ⟨c, _, rfl⟩ := List.mem_map.mp h
          rfl
        · intro C av h
          exact ⟨EV_str, .str⟩
        · intro C av h b hb
          obtain ⟨t, ht, rfl⟩ := hT av h
          obtain ⟨c, _, rfl⟩ := List.mem_map.mp hb
          have hl := textsF_len k t ht
          refine .all (EV_bin (EV_name rfl) (EV_name rfl) (BV_addS ?_))
          show t.length + 1 ≤ _
          rw [hl, sizeLine_eq]; omega
        · refine Run_nil ?_
          have e : ((sL (textsF k)).flatMap fun a => (chars (Str.ofString "<>")).filterMap fun b => some (AV.str (toS a ++ toS b))) = sL (textsF (k + 1)) := by
            show (List.map _ (textsF k)).flatMap _ = List.map _ ((textsF k).flatMap _)
            rw [List.flatMap_map, List.map_flatMap]
            rfl
          rw [e]
          exact ⟨rfl, rfl, rfl, rfl, trivial⟩
      intro ρ' hJ
      rw [show (steps (0 : Int) 1 size).length = size by rw [steps, List.length_map, List.length_range]] at hJ
      refine Run_sub hJ ?_
      refine Run_newD hx' (.inr ⟨rfl, rfl⟩) rfl ?_
      refine Run_for (fun k ρ' => SubR [(Str.ofString "further", .ownd w (dI ((furF roads size).take k))), (Str.ofString "word", .str word), (Str.ofString "roads", .sdict w (dI roads))] ρ') (EV_name rfl) .list (.inr ⟨rfl, rfl⟩) ?_ ⟨rfl, rfl, rfl, trivial⟩ ?_ ?_
      · intro a ha
        obtain ⟨t, _, rfl⟩ := List.mem_map.mp ha
        rfl
      · intro k a ρ' hk hJ
        rw [List.getElem?_map, Option.map_eq_some_iff] at hk
        obtain ⟨t, ht, rfl⟩ := hk
        have htm : t ∈ textsF size := List.mem_of_getElem? ht
        have htl := textsF_len size t htm
        refine Run_sub (SubR_in hJ rfl) ?_
        have hfk : (furF roads size)[k]? = some (t, costF roads t) := by rw [furF, List.getElem?_map, ht]; rfl
        have hR : ∀ av ∈ (dI roads).map (fun p => AV.str p.1), ∃ p ∈ roads, av = .str p.1 := fun av h => by
          rw [List.map_map] at h
          obtain ⟨p, hp, rfl⟩ := List.mem_map.mp h
          exact ⟨p, hp, rfl⟩
        have hlk : ∀ p ∈ roads, (dI roads).lookup p.1 = some (.int p.2) := fun p hp => by
          rw [dI_lookup, lookup_of_nd hnd p hp]; rfl
        refine Run_setD (es := dI ((furF roads size).take k)) (kk := t) (av := .int (costF roads t)) rfl rfl ?_ (EV_name rfl) ?_ ?_ ?_
        · refine EV_callB (avs := [.list (iL ((roads.filter fun p => levF t p.1 == 2).map (·.2)))]) (EX_glob hx' (gn_sum w) rfl) (EVL_cons ?_ EVL_nil) CallV_sum
          have e : ((dI roads).map (fun p => AV.str p.1)).filterMap (fun a => if (levF t (toS a) == 2) = true then some (((dI roads).lookup (toS a)).getD .none) else none) = iL ((roads.filter fun p => levF t p.1 == 2).map (·.2)) := by
            rw [show iL ((roads.filter fun p => levF t p.1 == 2).map (·.2)) = (roads.filter fun p => levF t p.1 == 2).map fun p => AV.int p.2 by rw [iL, List.map_map]; rfl, List.map_map, List.filterMap_map]
            refine fm_filter roads fun p hp => ?_
            show (if (levF t p.1 == 2) = true then some (((dI roads).lookup p.1).getD .none) else none) = _
            rw [hlk p hp]; rfl
          rw [← e]
          refine EV_compR (cl := [(Str.ofString "text", x'.L + 1 + 1), (Str.ofString "roads", x'.L + 1)]) (CompR1 _ [(Str.ofString "text", .str t), (Str.ofString "roads", .sdict w (dI roads))] (EV_name rfl) .sdict ?_ ?_ rfl ?_ (by show [Str.ofString "text", Str.ofString "roads"].Nodup; decide +kernel) ?_ (fun C => .inl rfl) ?_) (by with_unfolding_all rfl) rfl (by decide)
          · rw [List.length_map, List.length_map]; omega
          · intro av h
            obtain ⟨p, _, rfl⟩ := hR av h
            rfl
          · exact List.forall_mem_cons.mpr ⟨List.Mem.tail _ (List.Mem.head _), List.forall_mem_cons.mpr ⟨List.Mem.tail _ (List.Mem.tail _ (List.Mem.head _)), List.forall_mem_nil _⟩⟩
          · intro C
            exact List.forall_mem_cons.mpr ⟨⟨rfl, rfl, .inl rfl, .inl rfl, rfl⟩, List.forall_mem_cons.mpr ⟨⟨rfl, rfl, .inl rfl, .inl rfl, rfl⟩, List.forall_mem_nil _⟩⟩
          · intro C av h
            obtain ⟨p, hp, rfl⟩ := hR av h
            refine TurnV.ite (EB_cmp (EV_callF hx' (EX_glob hx' (gn_lev w) rfl) (EVL_cons (EV_name rfl) (EVL_cons (EV_name rfl) (EVL_cons EV_int EVL_nil))) (lev_v (by omega) (by omega) hx' _ _ (by omega) (by rw [hkeys p hp, htl])) (k91 w).choose_spec.choose_spec.1 (k91 w).choose_spec.choose_spec.2) EV_int CV_eqI) fun _ => ?_
            show EV _ _ _ _ _ (((dI roads).lookup p.1).getD .none)
            rw [hlk p hp]
            exact EV_dget (EV_name rfl) (EV_name rfl) (hlk p hp)
        · rw [show (dI ((furF roads size).take k)).map (·.1) = (textsF size).take k by rw [← furF_keys roads size, dI, List.map_map, List.map_take]; rfl]
          intro hm
          obtain ⟨j, hj, e⟩ := List.mem_take_iff_getElem.mp hm
          have h1 := (List.getElem?_eq_some_iff.mp ht)
          obtain ⟨h2, h3⟩ := h1
          exact absurd (nd_idx (textsF_nd size hs4) (e.trans h3.symm)) (by omega)
        · rw [List.length_map, List.length_take, furF, List.length_map]
          have := textsF_size size hs4
          omega
        · refine Run_nil ?_
          have e : dI ((furF roads size).take k) ++ [(t, AV.int (costF roads t))] = dI ((furF roads size).take (k + 1)) := by
            rw [List.take_add_one, hfk]
            show _ = List.map _ (_ ++ _)
            rw [List.map_append]; rfl
          rw [e]
          exact ⟨rfl, rfl, rfl, trivial⟩
      intro ρ' hJ
      refine Run_sub hJ ?_
      have hfl : (List.map AV.str (textsF size)).length = (furF roads size).length := by rw [List.length_map, furF, List.length_map]
      rw [hfl, List.take_length]
      refine Run_freezeD (Str.ofString "further") rfl rfl ?_
      have hfn : ((furF roads size).map (·.1)).Nodup := by rw [furF_keys]; exact textsF_nd _ hs4
      have hFm : ∀ av ∈ (dI (furF roads size)).map (fun p => AV.str p.1), ∃ p ∈ furF roads size, av = .str p.1 := fun av h => by
        rw [List.map_map] at h
        obtain ⟨p, hp, rfl⟩ := List.mem_map.mp h
        exact ⟨p, hp, rfl⟩
      have hlf : ∀ p ∈ furF roads size, (dI (furF roads size)).lookup p.1 = some (.int p.2) := fun p hp => by
        rw [dI_lookup, lookup_of_nd hfn p hp]; rfl
      have e : ((dI (furF roads size)).map (fun p => AV.str p.1)).filterMap (fun a => if decide (0 < vInt (((dI (furF roads size)).lookup (toS a)).getD .none)) = true then some (toS a, ((dI (furF roads size)).lookup (toS a)).getD .none) else none) = dI (stepF roads size) := by
        rw [List.map_map, List.filterMap_map]
        refine fm_filter (furF roads size) fun p hp => ?_
        show (if decide (0 < vInt (((dI (furF roads size)).lookup p.1).getD .none)) = true then some (p.1, ((dI (furF roads size)).lookup p.1).getD .none) else none) = _
        rw [hlf p hp]; rfl
      refine Run_assign (EV_compD (cl := [(Str.ofString "further", x'.L + 1 + 1 + 1)]) (CompD1 (its := (dI (furF roads size)).map fun p => AV.str p.1) (fun a => if decide (0 < vInt (((dI (furF roads size)).lookup (toS a)).getD .none)) = true then some (toS a, ((dI (furF roads size)).lookup (toS a)).getD .none) else none) [(Str.ofString "further", .sdict w (dI (furF roads size)))] hx' (EV_name rfl) .sdict ?_ ?_ ?_ rfl ?_ (by show [Str.ofString "further"].Nodup; decide +kernel) ?_ (fun _ => rfl) ?_) (by with_unfolding_all rfl) rfl (by decide)) (.inr ⟨rfl, rfl⟩) rfl ?_ (hs := by with_unfolding_all rfl)
      · rw [List.length_map, List.length_map, furF, List.length_map]
        have := textsF_size size hs4
        omega
      · intro av h
        obtain ⟨p, _, rfl⟩ := hFm av h
        rfl
      · rw [e, show (dI (stepF roads size)).map (·.1) = (stepF roads size).map (·.1) by rw [dI, List.map_map]; rfl]
        exact List.Nodup.sublist (List.filter_sublist.map _) hfn
      · exact List.forall_mem_cons.mpr ⟨List.Mem.head _, List.forall_mem_nil _⟩
      · intro C
        exact List.forall_mem_cons.mpr ⟨⟨rfl, rfl, .inl rfl, .inl rfl, rfl⟩, List.forall_mem_nil _⟩
      · intro C av h
        obtain ⟨p, hp, rfl⟩ := hFm av h
        refine TurnD.ite ?_ (fun _ => EV_name rfl) fun _ => ?_
        · show EB _ _ _ _ _ (decide (0 < vInt (((dI (furF roads size)).lookup p.1).getD .none)))
          rw [hlf p hp]
          exact EB_cmp (EV_dget (EV_name rfl) (EV_name rfl) (hlf p hp)) EV_int CV_gtI
        · show EV _ _ _ _ _ (((dI (furF roads size)).lookup p.1).getD .none)
          rw [hlf p hp]
          exact EV_dget (EV_name rfl) (EV_name rfl) (hlf p hp)
      · rw [e, ← hstep]
        exact Run_nil ⟨rfl, rfl, trivial⟩
    · intro ρ' hJ
      rw [show (steps ((word.length : Int) - 1) (-1) word.length).length = word.length by rw [steps, List.length_map, List.length_range]] at hJ
      refine Run_sub hJ (Run_ret (EV_get2 (EV_name rfl) EV_str EV_int _ rfl) ?_)
      rw [dI_lookup, roadsF]
      cases (roadsI' word.length word).lookup (Str.ofString "") <;> rfl
end
end Mine
end
section
open PySem PySem.W PyProof.Rows PySem.Calls PySem.Spec
set_option Elab.async false
set_option maxRecDepth 100000
namespace Mine
open LCg
theorem primeA4 (w : World) : (kk.heap_1 w.params = kk.heap_1 w.params) ∧ PySem.Challenge.rw_wn0104_01 = PySem.Challenge.rw_wn0104_01 := by
  k_fill
  exact ⟨rfl, rfl⟩
noncomputable def exactD : List (Str × Int) := [(⟨#[33]⟩, 54), (⟨#[33, 61]⟩, 28), (⟨#[37]⟩, 24), (⟨#[37, 61]⟩, 40), (⟨#[38]⟩, 19), (⟨#[38, 61]⟩, 41), (⟨#[40]⟩, 7), (⟨#[41]⟩, 8), (⟨#[42]⟩, 16), (⟨#[42, 42]⟩, 35), (⟨#[42, 42, 61]⟩, 46), (⟨#[42, 61]⟩, 38), (⟨#[43]⟩, 14), (⟨#[43, 61]⟩, 36), (⟨#[44]⟩, 12), (⟨#[45]⟩, 15), (⟨#[45, 61]⟩, 37), (⟨#[45, 62]⟩, 51), (⟨#[46]⟩, 23), (⟨#[46, 46, 46]⟩, 52), (⟨#[47]⟩, 17), (⟨#[47, 47]⟩, 47), (⟨#[47, 47, 61]⟩, 48), (⟨#[47, 61]⟩, 39), (⟨#[58]⟩, 11), (⟨#[58, 61]⟩, 53), (⟨#[59]⟩, 13), (⟨#[60]⟩, 20), (⟨#[60, 60]⟩, 33), (⟨#[60, 60, 61]⟩, 44), (⟨#[60, 61]⟩, 29), (⟨#[61]⟩, 22), (⟨#[61, 61]⟩, 27), (⟨#[62]⟩, 21), (⟨#[62, 61]⟩, 30), (⟨#[62, 62]⟩, 34), (⟨#[62, 62, 61]⟩, 45), (⟨#[64]⟩, 49), (⟨#[64, 61]⟩, 50), (⟨#[91]⟩, 9), (⟨#[93]⟩, 10), (⟨#[94]⟩, 32), (⟨#[94, 61]⟩, 43), (⟨#[123]⟩, 25), (⟨#[124]⟩, 18), (⟨#[124, 61]⟩, 42), (⟨#[125]⟩, 26), (⟨#[126]⟩, 31)]
theorem eachL_of {h₀ : Heap} {k : Str} {P : Value → Prop} : ∀ {D : List (Str × KTD.Dat)}, (∀ d, KTD.datumAt k D = some d → KTD.Opened h₀ P d) → KTD.EachL h₀ k P D
  | [], _ => trivial
  | [(y, d)], h => fun e => h d (by show (if decide (k = y) = true then some d else _) = _; rw [if_pos (decide_eq_true e)])
  | (y, d) :: q :: D, h => by
    by_cases e : k = y
    · exact KTD.eachL_hit e (h d (by show (if decide (k = y) = true then some d else _) = _; rw [if_pos (decide_eq_true e)]))
    · exact KTD.eachL_miss e (eachL_of fun d' h' => h d' (by show (if decide (k = y) = true then some d else _) = _; rw [if_neg (by simp [e])]; exact h'))
noncomputable def exactT : List (Str × KTD.Dat) := exactD.map fun p => (p.1, KTD.Dat.flat (.int p.2))
theorem inKeys_exact (k : Str) : ∀ (D : List (Str × Int)), KTD.inKeys k (D.map fun p => (p.1, KTD.Dat.flat (.int p.2))) = KTD.inKeys k D
  | [] => rfl
  | (a, b) :: D => by
    show (decide (k = a) || KTD.inKeys k (D.map _)) = (decide (k = a) || KTD.inKeys k D)
    rw [inKeys_exact k D]
theorem datum_exact (k : Str) : ∀ (D : List (Str × Int)), KTD.datumAt k (D.map fun p => (p.1, KTD.Dat.flat (.int p.2))) = (KTD.datumAt k D).map fun i => KTD.Dat.flat (.int i)
  | [] => rfl
  | (a, b) :: D => by
    show (if decide (k = a) = true then _ else KTD.datumAt k (D.map _)) = Option.map _ (if decide (k = a) = true then _ else KTD.datumAt k D)
    rw [datum_exact k D]
    cases decide (k = a) <;> rfl
theorem gn_exactT (w : World) : GN w (Str.ofString "EXACT_TOKEN_TYPES") (.ref 61) := .inl (by k_is)
section
variable {w : World} {x : Cx} {env : Env} {ρ : Rho}
theorem exact_tab (hx : x.Ok w) : KTD.TextTab x.h₀ 61 exactT := kt_text_in hx.K (by kernel_rfl)
theorem EB_inX {e : PySem.Expr} {n : Str} {p pos : Pos} {k : Str} (hx : x.Ok w) (he : EV w x env ρ e (.str k)) (g : GN w n (.ref 61)) (hk : env.kindOf n = some .globalImplicit) (hd : (n == ("__debug__" : Str)) = false := by decide) (hm : behindInMarks .In (.Name n p) = false := by with_unfolding_all rfl) :
    EB w x env ρ (.Compare e [.In] [.Name n p] pos) (KTD.inKeys k exactD) := fun G T s Q E S h => by
  refine wpAny_isTrue_Compare1 (he G T s _ _ S fun v1 h1 tk1 G1 l1 S1 r1 => ?_) hm
  refine EX_glob hx g hk hd G1 T _ _ _ S1 ?_
  cases r1
  refine KTD.in_text (s := ⟨h1, s.gens, s.drawn, tk1, s.os⟩) (D := exactT) (h₀ := x.h₀) ⟨exact_tab hx, fun b o e => S1.toOkB.keep e⟩ ?_
  rw [show KTD.inKeys k exactT = KTD.inKeys k exactD from inKeys_exact k exactD]
  exact wpAny_truthy_bool (h h1 (tk1 + 1) G1 l1 S1)
theorem EV_getX {e : PySem.Expr} {n : Str} {p pos : Pos} {k : Str} {i : Int} (hx : x.Ok w) (he : EV w x env ρ e (.str k)) (g : GN w n (.ref 61)) (hk : env.kindOf n = some .globalImplicit) (hi : KTD.datumAt k exactD = some i) (hd : (n == ("__debug__" : Str)) = false := by decide)
    (hs : ∀ (o j : Value), subscripted e false o j = operate [o, j] (getItem o j) := by intro _ _; with_unfolding_all rfl) : EV w x env ρ (.Subscript (.Name n p) e pos) (.int i) := fun G T s Q E S kk => by
  refine Subscript_ (EX_glob hx g hk hd G T s _ _ S ?_)
  refine he G T s _ _ S fun v2 h2 tk2 G2 l2 S2 r2 => ?_
  cases r2
  have hda : KTD.datumAt k exactT = some (.flat (.int i)) := by
    rw [show KTD.datumAt k exactT = (KTD.datumAt k exactD).map fun i => KTD.Dat.flat (.int i) from datum_exact k exactD, hi]; rfl
  refine KTD.item_textA (s := ⟨h2, s.gens, s.drawn, tk2, s.os⟩) (D := exactT) (h₀ := x.h₀) ⟨exact_tab hx, fun b o e => S2.toOkB.keep e⟩ (by decide +kernel) (by rw [← KTD.isSome_datumAt, hda]; rfl) ?_ (hs _ _)
  refine eachL_of fun d hd' => ?_
  rw [hda] at hd'
  cases hd'
  exact KTD.opened_int fun t => kk _ _ _ G2 l2 S2 (.int _ _)
theorem EB_sub {ρ' : Rho} {e : PySem.Expr} {b : Bool} (hs : SubR ρ' ρ) (H : EB w x env ρ' e b) : EB w x env ρ e b := fun G T s Q E S h => H G T s Q E (S.sub hs) fun h' tk G' l S' => h h' tk G' l (S.toR l S'.toOkB)
theorem nonterm_v (hx : x.Ok w) (hr : x.dp < recursionLimit) (a : Int) : CallV w x (.ref 77) [.int a] (.bool (decide (256 ≤ a))) := by
  refine call_def (ns := [Str.ofString "x"]) (ρ₀ := [(Str.ofString "x", .int a)]) hx (by k_is) (by k_is) hr ?_ ?_ (by decide +kernel) ?_ ?_ rfl rfl rfl
  · intro vs s h
    obtain ⟨v, rfl⟩ := List.length_eq_one_iff.mp h
    exact BindsTo.of_eq rfl
  · intro vs h
    obtain ⟨v, rfl⟩ := List.length_eq_one_iff.mp h
    rfl
  · intro L' vs G r
    cases r with | cons r1 r =>
    cases r
    exact List.forall_mem_cons.mpr ⟨⟨rfl, _, .inl ⟨rfl, rfl⟩, r1⟩, List.forall_mem_nil _⟩
  · intro x' hx' _ _
    obtain ⟨t, g⟩ := gn_nt w
    refine Run_ret (EV_cmp (EV_name rfl) (EV_globI hx' g rfl) CV_geI) rfl
theorem nd4 : [(20 : Int), 33, 21, 34].Nodup := by decide
theorem l1 {b1 : Nat} {q1 l1 : Pos} : EV w x env ρ (.List [.Constant (.bool true) b1 q1] l1) (.list (bL [true])) := EV_list (EVL_cons EV_bool EVL_nil) (by simp)
theorem l2 {b1 b2 : Nat} {q1 q2 l1 : Pos} : EV w x env ρ (.List [.Constant (.bool true) b1 q1, .Constant (.bool true) b2 q2] l1) (.list (bL [true, true])) := EV_list (EVL_cons EV_bool (EVL_cons EV_bool EVL_nil)) (by simp)
theorem l1' {b1 : Nat} {q1 l1 : Pos} : EV w x env ρ (.List [.Constant (.bool false) b1 q1] l1) (.list (bL [false])) := EV_list (EVL_cons EV_bool EVL_nil) (by simp)
theorem l2' {b1 b2 : Nat} {q1 q2 l1 : Pos} : EV w x env ρ (.List [.Constant (.bool false) b1 q1, .Constant (.bool false) b2 q2] l1) (.list (bL [false, false])) := EV_list (EVL_cons EV_bool (EVL_cons EV_bool EVL_nil)) (by simp)
theorem dict_v {v1 v2 v3 v4 : PySem.Expr} {a1 a2 a3 a4 : AV} {k1 k2 k3 k4 : Nat} {p1 p2 p3 p4 pos : Pos} (hx : x.Ok w) (h1 : EV w x env ρ v1 a1) (h2 : EV w x env ρ v2 a2) (h3 : EV w x env ρ v3 a3) (h4 : EV w x env ρ v4 a4) : EV w x env ρ (.Dict [some (.Constant (.int 20) k1 p1), some (.Constant (.int 33) k2 p2), some (.Constant (.int 21) k3 p3), some (.Constant (.int 34) k4 p4)] [v1, v2, v3, v4] pos)
    (.idict w [(20, a1), (33, a2), (21, a3), (34, a4)]) := by
  exact EV_idict4 hx EV_int h1 EV_int h2 EV_int h3 EV_int h4 nd4
noncomputable def ksF (word : Str) (p : Int) : List Int := [1, 2, 3].filter fun k => KTD.inKeys (Txt.slice word (some p) (some (p + k))) exactD
noncomputable def sizeF (word : Str) (p : Int) : Int := (ksF word p).foldl max 0
noncomputable def symF (word : Str) (p : Int) : Int := (KTD.datumAt (Txt.slice word (some p) (some (p + sizeF word p))) exactD).getD 0
noncomputable def bitsF (i : Int) : List Bool := if i = 20 then [true] else if i = 33 then [true, true] else if i = 21 then [false] else [false, false]
noncomputable def stF (word : Str) : Nat → Int × List Bool
  | 0 => (0, [])
  | i + 1 => if (stF word i).1 < 4 then ((stF word i).1 + sizeF word (stF word i).1, (stF word i).2 ++ bitsF (symF word (stF word i).1)) else stF word i
noncomputable def okF (word : Str) (i : Nat) : Bool :=
  if (stF word i).1 < 4 then decide (i < 4) && (ksF word (stF word i).1).contains (sizeF word (stF word i).1) && (ksF word (stF word i).1).all (fun k => decide (k ≤ sizeF word (stF word i).1))
    && (KTD.datumAt (Txt.slice word (some (stF word i).1) (some ((stF word i).1 + sizeF word (stF word i).1))) exactD == some (symF word (stF word i).1)) && [20, 33, 21, 34].contains (symF word (stF word i).1) && decide ((stF word i).2.length ≤ 10)
  else (stF word i).2 == word.cps.toList.map (fun c => c == 60)
theorem okF_all : ∀ word ∈ textsF 4, ∀ i < 5, okF word i = true := by decide +kernel
set_option maxHeartbeats 100000
theorem rises_v (hx : x.Ok w) (hr : x.dp + 3 < recursionLimit) (hu : x.un + 64 < cLine) (word : Str) (hw : word ∈ textsF 4) :
    CallV w x (.ref 110) [.str word] (.list (bL (word.cps.toList.map fun c => c == 60))) := by
  have hl : word.length = 4 := textsF_len 4 word hw
  refine call_def (ns := [Str.ofString "word"]) (ρ₀ := [(Str.ofString "word", .str word)]) hx (by k_is) (by k_is) (by omega) ?_ ?_ (by decide +kernel) ?_ ?_ rfl rfl rfl
  · intro vs s h
    obtain ⟨v, rfl⟩ := List.length_eq_one_iff.mp h
    exact BindsTo.of_eq rfl
  · intro vs h
    obtain ⟨v, rfl⟩ := List.length_eq_one_iff.mp h
    rfl
  · intro L' vs G r
    cases r with | cons r1 r =>
    cases r
    exact List.forall_mem_cons.mpr ⟨⟨rfl, _, .inr ⟨rfl, rfl, rfl⟩, r1⟩, List.forall_mem_nil _⟩
  · intro x' hx' hdp hun
    refine Run_new (.inl rfl) rfl ?_
    refine Run_assign EV_int (.inr ⟨rfl, rfl⟩) rfl ?_
    refine Run_while (σ := Nat) (fun i ρ' => i < 5 ∧ SubR [(Str.ofString "place", .int (stF word i).1), (Str.ofString "rises", .own (bL (stF word i).2)), (Str.ofString "word", .str word)] ρ') (fun i => 5 - i) (fun i => decide ((stF word i).1 < 4)) 0 ⟨by decide, rfl, rfl, rfl, trivial⟩ ?_ ?_ ?_
    · intro i ρ' hJ
      refine EB_sub hJ.2 ?_
      exact EB_cmp (EV_name rfl) (EV_callB (EX_glob hx' (gn_len w) rfl) (EVL_cons (EV_name rfl) EVL_nil) (CallV_lenS (by omega))) (by rw [hl]; exact CV_ltI)
    · intro i ρ' hJ hc
      have hc := of_decide_eq_true hc
      have ok := okF_all word hw i hJ.1
      rw [okF, if_pos hc] at ok
      simp only [Bool.and_eq_true, decide_eq_true_eq, List.contains_iff_mem, List.all_eq_true, beq_iff_eq] at ok
      obtain ⟨⟨⟨⟨⟨h4, hmem⟩, hle⟩, hdat⟩, hsym⟩, hbits⟩ := ok
      refine Run_sub hJ.2 ?_
      have hst : stF word (i + 1) = ((stF word i).1 + sizeF word (stF word i).1, (stF word i).2 ++ bitsF (symF word (stF word i).1)) := by rw [stF, if_pos hc]
      generalize hks : ksF word (stF word i).1 = ks at *
      generalize sizeF word (stF word i).1 = sz at *
      generalize symF word (stF word i).1 = sy at *
      generalize hbi : bitsF sy = bs at *
      generalize stF word i = st at *
      refine Run_assign (EV_callB (EX_glob hx' (gn_max w) rfl) (EVL_cons (EV_compR (ys := iL ks) (cl := [(Str.ofString "word", x'.L + 1), (Str.ofString "place", x'.L + 1 + 1)]) ?_ (by with_unfolding_all rfl) rfl (by decide)) EVL_nil) (CallV_max hx' hmem hle)) (.inl rfl) rfl ?_
      · rw [← hks, show iL (ksF word st.1) = (iL [1, 2, 3]).filterMap (fun a => if KTD.inKeys (Txt.slice word (some st.1) (some (st.1 + vInt a))) exactD = true then some (AV.int (vInt a)) else none) by
          rw [iL, iL, List.filterMap_map]
          exact (fm_filter _ fun a _ => rfl).symm]
        refine CompR1 _ [(Str.ofString "word", .str word), (Str.ofString "place", .int st.1)] (EV_tup (EVL_cons EV_int (EVL_cons EV_int (EVL_cons EV_int EVL_nil))) (by simp)) .tup (by simp) (fun av h => ?_) rfl ?_ (by show [Str.ofString "word", Str.ofString "place"].Nodup; decide +kernel) ?_ (fun C => .inl rfl) ?_
        · obtain ⟨i, _, rfl⟩ := List.mem_map.mp h
          rfl
        · exact List.forall_mem_cons.mpr ⟨List.Mem.tail _ (List.Mem.head _), List.forall_mem_cons.mpr ⟨List.Mem.head _, List.forall_mem_nil _⟩⟩
        · intro C
          exact List.forall_mem_cons.mpr ⟨⟨rfl, rfl, .inl rfl, .inl rfl, rfl⟩, List.forall_mem_cons.mpr ⟨⟨rfl, rfl, .inl rfl, .inl rfl, rfl⟩, List.forall_mem_nil _⟩⟩
        · intro C av h
          obtain ⟨i, _, rfl⟩ := List.mem_map.mp h
          exact TurnV.ite (EB_inX hx' (EV_sliceS hx' (EV_name rfl) (.some (EV_name rfl)) (.some (EV_bin (EV_name rfl) (EV_name rfl) BV_add)) (.inl (by simp)) (by rw [hl, sizeLine_eq]; omega)) (gn_exactT w) rfl) fun _ => EV_name rfl
      refine Run_assign (av := .int sy) ?_ (.inl rfl) rfl ?_
      · refine EV_getX (k := Txt.slice word (some st.1) (some (st.1 + sz))) hx' ?_ (gn_exactT w) rfl hdat (hs := ?_)
        · exact EV_sliceS hx' (EV_name rfl) (.some (EV_name rfl)) (.some (EV_bin (EV_name rfl) (EV_name rfl) BV_add)) (.inl (by simp)) (by rw [hl, sizeLine_eq]; omega)
        · intro _ _; with_unfolding_all rfl
      refine Run_extend (xs := bL st.2) (ys := bL bs) rfl rfl ?_ ?_ ?_ _ rfl
      · refine EV_igetI (es := [(20, .list (bL [true])), (33, .list (bL [true, true])), (21, .list (bL [false])), (34, .list (bL [false, false]))]) (k := sy) ?_ ?_ ?_ (hs := ?_)
        · generalize envOfC _ _ _ _ _ = env'
          generalize (_ :: _ : Rho) = ρ''
          with_reducible exact dict_v hx' l1 l2 l1' l2'
        · exact EV_name rfl
        · rw [← hbi]
          rcases List.mem_cons.mp hsym with rfl | hsym
          · rfl
          rcases List.mem_cons.mp hsym with rfl | hsym
          · rfl
          rcases List.mem_cons.mp hsym with rfl | hsym
          · rfl
          cases List.mem_singleton.mp hsym
          rfl
        · intro _ _; with_unfolding_all rfl
      · rw [bL, bL, List.length_map, List.length_map, ← hbi]
        have : (bitsF sy).length ≤ 2 := by
          unfold bitsF
          split
          · simp
          split
          · simp
          split <;> simp
        omega
      refine Run_augI rfl (.inr ⟨rfl, rfl⟩) (EV_name rfl) (Run_nil ?_)
      exact ⟨i + 1, ⟨by omega, by rw [hst]; exact ⟨rfl, by show _ = some (AV.own (bL (st.2 ++ bs))); rw [bL, List.map_append]; rfl, rfl, trivial⟩⟩, by omega⟩
    · intro i ρ' hJ hc
      have hc := of_decide_eq_false hc
      have ok := okF_all word hw i hJ.1
      rw [okF, if_neg hc] at ok
      refine Run_sub hJ.2 ?_
      refine Run_freeze (Str.ofString "rises") rfl rfl ?_
      refine Run_ret (EV_name rfl) ?_
      rw [beq_iff_eq.mp ok]
end
end Mine
end
section
open PySem PySem.W PyProof.Rows PySem.Calls PySem.Spec
set_option Elab.async false
set_option maxRecDepth 100000
namespace Mine
open LCg
theorem primeA5 (w : World) : (kk.heap_1 w.params = kk.heap_1 w.params) ∧ PySem.Challenge.rw_wn0104_01 = PySem.Challenge.rw_wn0104_01 := by
  k_fill
  exact ⟨rfl, rfl⟩
noncomputable def qSign : Str := ⟨#[34]⟩
noncomputable def fourS : List Nat := [34, 97, 65, 42]
noncomputable def nameOf (a b d : Nat) : Str := ⟨#[fourS.getD a 0, fourS.getD b 0, 48 + d]⟩
noncomputable def namesAll : List Str := (List.range 4).flatMap fun a => (List.range 4).flatMap fun b => (List.range 5).map fun d => nameOf a b d
noncomputable def escF (y : Str) : Str := ⟨(y.cps.toList.flatMap fun c => if c == 34 then [34, 34] else [c]).toArray⟩
noncomputable def respF (y : Str) : Str := ⟨#[50, 53, 55, 32, 34]⟩ ++ escF y ++ ⟨#[34, 32, 109, 97, 100, 101]⟩
noncomputable def p2F (resp : Str) : Nat → Int × Str
  | 0 => (5, Str.ofString "")
  | j + 1 => if Txt.item resp (p2F resp j).1 == qSign then ((p2F resp j).1 + 1 + 1, (p2F resp j).2 ++ Txt.item resp (p2F resp j).1) else ((p2F resp j).1 + 1, (p2F resp j).2 ++ Txt.item resp (p2F resp j).1)
noncomputable def okP (y : Str) (j : Nat) : Bool :=
  let resp := respF y
  let i := (p2F resp j).1
  decide (5 ≤ i) && decide (i < (resp.length : Int)) && decide (resp.length ≤ 40) && decide ((p2F resp j).2.length ≤ 10) && decide ((Txt.item resp i).length = 1) &&
    (if j = 3 then Txt.item resp i == qSign && (decide ((resp.length : Int) ≤ i + 1) || !(Txt.item resp (i + 1) == qSign)) && (p2F resp j).2 == y else !(Txt.item resp i == qSign) || (decide (i + 1 < (resp.length : Int)) && (Txt.item resp (i + 1) == qSign)))
noncomputable def okPs (y : Str) : Bool := Txt.slice (respF y) none (some 3) == Str.ofString "257" && Txt.slice (respF y) (some 3) (some 5) == Str.ofString " \"" && okP y 0 && okP y 1 && okP y 2 && okP y 3
theorem okPs_all : ∀ y ∈ namesAll, okPs y = true := by decide +kernel
theorem okP_of {y : Str} (h : okPs y = true) : ∀ j < 4, okP y j = true := by
  simp only [okPs, Bool.and_eq_true] at h
  intro j hj
  match j, hj with
  | 0, _ => exact h.1.1.1.2
  | 1, _ => exact h.1.1.2
  | 2, _ => exact h.1.2
  | 3, _ => exact h.2
section
variable {w : World} {x : Cx} {env : Env} {ρ : Rho}
set_option maxHeartbeats 1000000
theorem parse_v (hx : x.Ok w) (hr : x.dp + 3 < recursionLimit) (y : Str) (hy : y ∈ namesAll) : CallV w x (.ref 60) [.str (respF y)] (.str y) := by
  have hok := okPs_all y hy
  have hP := okP_of hok
  simp only [okPs, Bool.and_eq_true, beq_iff_eq] at hok
  obtain ⟨⟨⟨⟨⟨h1, h2⟩, _⟩, _⟩, _⟩, _⟩ := hok
  have hlen : (respF y).length ≤ 40 := by
    have := hP 0 (by decide)
    simp only [okP, Bool.and_eq_true, decide_eq_true_eq] at this
    exact this.1.1.1.2
  have hP' : ∀ j < 4, 5 ≤ (p2F (respF y) j).1 ∧ (p2F (respF y) j).1 < ((respF y).length : Int) ∧ (p2F (respF y) j).2.length ≤ 10 ∧ (Txt.item (respF y) (p2F (respF y) j).1).length = 1 ∧
      (if j = 3 then Txt.item (respF y) (p2F (respF y) j).1 = qSign ∧ (decide (((respF y).length : Int) ≤ (p2F (respF y) j).1 + 1) || !(Txt.item (respF y) ((p2F (respF y) j).1 + 1) == qSign)) = true ∧ (p2F (respF y) j).2 = y else (Txt.item (respF y) (p2F (respF y) j).1 ≠ qSign ∨ ((p2F (respF y) j).1 + 1 < ((respF y).length : Int) ∧ Txt.item (respF y) ((p2F (respF y) j).1 + 1) = qSign))) := by
    intro j hj
    have := hP j hj
    simp only [okP, Bool.and_eq_true, decide_eq_true_eq] at this
    obtain ⟨⟨⟨⟨⟨a, b⟩, _⟩, c⟩, d⟩, e⟩ := this
    refine ⟨a, b, c, d, ?_⟩
    split
    · rename_i q
      rw [if_pos q] at e
      simp only [Bool.and_eq_true, beq_iff_eq] at e
      exact ⟨e.1.1, e.1.2, e.2⟩
    · rename_i q
      rw [if_neg q] at e
      simpa using e
  have hstep : ∀ j, p2F (respF y) (j + 1) = if Txt.item (respF y) (p2F (respF y) j).1 == qSign then ((p2F (respF y) j).1 + 1 + 1, (p2F (respF y) j).2 ++ Txt.item (respF y) (p2F (respF y) j).1) else ((p2F (respF y) j).1 + 1, (p2F (respF y) j).2 ++ Txt.item (respF y) (p2F (respF y) j).1) := fun _ => rfl
  have h0 : p2F (respF y) 0 = (5, Str.ofString "") := rfl
  generalize p2F (respF y) = st at *
  generalize respF y = resp at *
  refine call_def (ns := [Str.ofString "resp"]) (ρ₀ := [(Str.ofString "resp", .str resp)]) hx (by k_is) (by k_is) (by omega) ?_ ?_ (by decide +kernel) ?_ ?_ rfl rfl rfl
  · intro vs s h
    obtain ⟨v, rfl⟩ := List.length_eq_one_iff.mp h
    exact BindsTo.of_eq rfl
  · intro vs h
    obtain ⟨v, rfl⟩ := List.length_eq_one_iff.mp h
    rfl
  · intro L' vs G r
    cases r with | cons r1 r =>
    cases r
    exact List.forall_mem_cons.mpr ⟨⟨rfl, _, .inl ⟨rfl, rfl⟩, r1⟩, List.forall_mem_nil _⟩
  · intro x' hx' hdp hun
    have hsz : resp.length ≤ sizeLine := by rw [sizeLine_eq]; omega
    refine Run_if (EB_cmp (EV_sliceS hx' (EV_name rfl) .none (.some EV_int) (.inr (by simp)) hsz) EV_str CV_neS) (fun h => ?_) fun _ => Run_nil ?_
    · rw [h1] at h; simp at h
    refine Run_if (EB_cmp (EV_sliceS hx' (EV_name rfl) (.some EV_int) (.some EV_int) (.inr (by simp)) hsz) EV_str CV_neS) (fun h => ?_) fun _ => Run_nil ?_
    · rw [h2] at h; simp at h
    refine Run_assign EV_str (.inl rfl) rfl ?_
    refine Run_assign EV_int (.inl rfl) rfl ?_
    refine Run_assign (EV_callB (EX_glob hx' (gn_len w) rfl) (EVL_cons (EV_name rfl) EVL_nil) (CallV_lenS (by omega))) (.inl rfl) rfl ?_
    refine Run_while (σ := Nat) (fun j ρ' => j < 4 ∧ SubR [(Str.ofString "i", .int (st j).1), (Str.ofString "dirname", .str (st j).2), (Str.ofString "n", .int resp.length), (Str.ofString "resp", .str resp)] ρ') (fun j => 4 - j) (fun _ => true) 0 ⟨by decide, by rw [h0]; exact ⟨rfl, rfl, rfl, rfl, trivial⟩⟩ ?_ ?_ ?_
    · intro j ρ' hJ
      refine EB_sub hJ.2 ?_
      have := (hP' j hJ.1).2.1
      have e : decide ((st j).1 < (resp.length : Int)) = true := decide_eq_true this
      rw [← e]
      exact EB_cmp (EV_name rfl) (EV_name rfl) CV_ltI
    · intro j ρ' hJ _
      refine Run_sub hJ.2 ?_
      obtain ⟨a1, a2, a3, a4, a5⟩ := hP' j hJ.1
      have hst := hstep j
      have hj := hJ.1
      generalize st j = sj at *
      refine Run_assign (EV_itemS (EV_name rfl) (EV_name rfl) ?_ (by omega) a2) (.inl rfl) rfl ?_
      · exact fitsSsize_of (N := 1000) (by omega) (by omega) (by decide)
      refine Run_assign (EV_bin (EV_name rfl) EV_int BV_add) (.inl rfl) rfl ?_
      have hit : (if j = 3 then Txt.item resp sj.1 = qSign ∧ (decide ((resp.length : Int) ≤ sj.1 + 1) || !(Txt.item resp (sj.1 + 1) == qSign)) = true ∧ sj.2 = y else (Txt.item resp sj.1 ≠ qSign ∨ (sj.1 + 1 < (resp.length : Int) ∧ Txt.item resp (sj.1 + 1) = qSign))) := a5
      generalize hc : Txt.item resp sj.1 = c at *
      refine Run_if (EB_cmp (EV_name rfl) EV_str CV_eqS) (fun h => ?_) fun h => Run_nil ?_
      · have hq : c = qSign := beq_iff_eq.mp h
        refine Run_if (c := decide ((resp.length : Int) ≤ sj.1 + 1) || !(Txt.item resp (sj.1 + 1) == qSign)) ?_ (fun hb => ?_) fun hb => Run_nil ?_
        · refine EB_or2 (EB_cmp (EV_name rfl) (EV_name rfl) CV_geI) fun hb => ?_
          have hb := of_decide_eq_false hb
          exact EB_cmp (EV_itemS (EV_name rfl) (EV_name rfl) (fitsSsize_of (N := 1000) (by omega) (by omega) (by decide)) (by omega) (by omega)) EV_str CV_neS
        · refine Run_brk ?_
          have h3 : j = 3 := by
            refine Classical.byContradiction fun q => ?_
            rw [if_neg q] at hit
            rcases hit with z | ⟨z1, z2⟩
            · exact z hq
            · rw [z2] at hb
              simp at hb
              omega
          rw [if_pos h3] at hit
          refine Run_ret (EV_name rfl) ?_
          rw [hit.2.2]
        · have h3 : j ≠ 3 := fun q => by
            rw [if_pos q] at hit
            rw [hit.2.1] at hb; cases hb
          refine Run_assign (EV_bin (EV_name rfl) EV_int BV_add) (.inl rfl) rfl (Run_nil ?_)
          refine Run_assign (EV_bin (EV_name rfl) (EV_name rfl) (BV_addS ?_)) (.inl rfl) rfl (Run_nil ?_)
          · rw [sizeLine_eq]; omega
          · refine ⟨j + 1, ⟨by omega, ?_⟩, by omega⟩
            rw [hst, if_pos (show (c == qSign) = true from h)]
            exact ⟨rfl, rfl, rfl, rfl, trivial⟩
      · have h3 : j ≠ 3 := fun q => by
          rw [if_pos q] at hit
          have h' : (c == qSign) = false := h
          rw [beq_iff_eq.mpr hit.1] at h'
          cases h'
        refine Run_assign (EV_bin (EV_name rfl) (EV_name rfl) (BV_addS ?_)) (.inl rfl) rfl (Run_nil ?_)
        · rw [sizeLine_eq]; omega
        · refine ⟨j + 1, ⟨by omega, ?_⟩, by omega⟩
          rw [hst, if_neg (by rw [show (c == qSign) = false from h]; exact fun z => nomatch z)]
          exact ⟨rfl, rfl, rfl, rfl, trivial⟩
    · intro _ _ _ h; cases h
end
end Mine
end
section
open PySem PySem.W PyProof.Rows PySem.Calls PySem.Spec
open Sem (wp)
set_option Elab.async false
set_option maxRecDepth 100000
namespace Mine
section
variable {M : Model} {A : Around} {R : GenEnd} {Y : Protocol} {n : Nat} {s₀ : Shared} {c : Code} {fs : List Frame} {s : Shared} {env : Env}
theorem seg_bindw {α β : Type} {m : Sem α} {f : α → Sem β} {K : β → Sem Fin} {H : Value → Sem Fin} {gd : Bool → Bool} {lv : List Value → List Value}
    (h : wpAny M (A.over c fs) m (fun a s' => Seg M A R Y n s₀ c ((f a).wrap K H gd lv) fs s') (fun x s' => Seg M A R Y n s₀ c (H x) fs s') s) : Seg M A R Y n s₀ c ((m >>= f).wrap K H gd lv) fs s := by
  rw [Sem.bind_eq_wrap', Sem.wrap_wrap]; exact seg_wrap h
/-- what a loop of a def's own does to a result -/
noncomputable def fromOwn (env : Env) (K : Flow → Sem Fin) (H : Value → Sem Fin) (gd : Bool → Bool) (lv : List Value → List Value) : Result → Sem Fin :=
  fun r => ((match r with | .ok f => (.pure f : Sem Flow) | .error e => .raise e).onRaise fun (x : Value) => do
        if (← field x 1) == Value.none then unsupported "frame.own-activation:exception-without-traceback"
        setFlight x env.frame).wrap K H gd lv
theorem fromOwn_ok {K : Flow → Sem Fin} {H : Value → Sem Fin} {gd : Bool → Bool} {lv : List Value → List Value} (f : Flow) : fromOwn env K H gd lv (.ok f) = K f := rfl
theorem seg_For {target iter : PySem.Expr} {body orelse : List Stmt} {pos : Pos} {K : Flow → Sem Fin} {H : Value → Sem Fin} {gd : Bool → Bool} {lv : List Value → List Value}
    (h : wpAny M (A.over c fs) (eval iter env) (fun v s₁ => wpAny M (A.over c fs) (pyIter v) (fun it s₂ =>
        ∀ p, Seg M A R Y n s₀ (.forLoop target it body orelse env) (M.den (.forLoop target it body orelse env)) (.ret (fromOwn env K H gd lv) none (gd false) (lv []) c p [] :: fs) s₂)
        (fun x s' => Seg M A R Y n s₀ c (H x) fs s') s₁) (fun x s' => Seg M A R Y n s₀ c (H x) fs s') s)
    (hs : ∀ x, foldedSetIterable iter env x = pure x := by intro _; rfl) :
    Seg M A R Y n s₀ c ((exec (.For target iter body orelse pos) env).wrap K H gd lv) fs s := by
  rw [exec_For]
  refine seg_bindw (wpAny_standAt ?_)
  refine seg_bindw (wpAny_mono h (fun v s₁ h₁ => ?_) fun _ _ e => e)
  refine seg_bindw (wpAny_of_eq (hs v) ?_)
  refine seg_bindw (wpAny_standAt ?_)
  refine seg_bindw (wpAny_holding (wpAny_mono h₁ (fun it s₂ h₂ => ?_) fun _ _ e => e))
  exact seg_call h₂
end
noncomputable def loopEnd (c : Code) : Flow → Sem Fin
  | .next | .cont => .pure (.again c)
  | .brk => .pure (.done .next)
  | .ret v => .pure (.done (.ret v))
/-- a loop's way with an exception -/
noncomputable def noted (env : Env) (e : Value) : Sem Fin := (do noteFrame e env; theTreesLotGoes e : Sem Unit).wrap (fun _ => .raise e) .raise id id
section
variable {prog : Program} {w : World} {A : Around} {R : GenEnd} {Y : Protocol} {n : Nat} {s₀ : Shared} {fs : List Frame} {s : Shared} {env : Env}
theorem seg_forLoop {target : PySem.Expr} {it : Value} {body : List Stmt}
    (h : wpAny (model prog w) (A.over (.forLoop target it body [] env) fs) (pyNext it) (fun r s₁ => match r with
      | none => ∀ c, Seg (model prog w) A R Y n s₀ c (leafOf (.ok .next)) fs s₁
      | some v => wpAny (model prog w) (A.over (.forLoop target it body [] env) fs) (assign target env v) (fun _ s₂ =>
          Seg (model prog w) A R Y n s₀ (.forLoop target it body [] env) ((execs body env).wrap (loopEnd (.forLoop target it body [] env)) (noted env) id id) fs s₂)
          (fun x s' => Seg (model prog w) A R Y n s₀ (.forLoop target it body [] env) (noted env x) fs s') s₁)
      (fun x s' => Seg (model prog w) A R Y n s₀ (.forLoop target it body [] env) (noted env x) fs s') s) (ht : ∀ v, letOwnedTupleGo target it v = pure () := by intro _; rfl) :
    Seg (model prog w) A R Y n s₀ (.forLoop target it body [] env) ((model prog w).den (.forLoop target it body [] env)) fs s := by
  show Seg _ A R Y n s₀ _ ((forTurn target it body [] env).onRaise (fun x => do noteFrame x env; theTreesLotGoes x)) fs s
  have e : ((forTurn target it body [] env).onRaise (fun x => do noteFrame x env; theTreesLotGoes x)) = (forTurn target it body [] env).wrap .pure (noted env) id id := by
    rw [Sem.onRaise_eq_wrap]
    refine Sem.wrap_congr _ _ _ (fun _ => rfl) fun x => ?_
    rw [Sem.bind_eq_wrap]; rfl
  rw [e]
  unfold forTurn
  refine seg_bindw (wpAny_standAt ?_)
  refine seg_bindw (wpAny_onRaise (wpAny_mono h (fun r s₁ h₁ => ?_) fun _ _ h' => wpAny_standAt h'))
  cases r with
  | none =>
    refine seg_again rfl ?_
    exact h₁ _
  | some v =>
    refine seg_bindw (wpAny_of_eq (ht v) ?_)
    refine seg_bindw (wpAny_mono h₁ (fun _ s₂ h₂ => ?_) fun _ _ h' => h')
    rw [Sem.bind_eq_wrap', Sem.wrap_wrap]
    refine (congrArg (fun t => Seg (model prog w) A R Y n s₀ (.forLoop target it body [] env) t fs s₂) (Sem.wrap_congr (execs body env) id id (K' := loopEnd (.forLoop target it body [] env)) (H' := noted env) (fun f => ?_) (fun e => ?_))).mpr h₂
    · cases f <;> rfl
    · rfl
/-- a statement with no yield -/
theorem seg_plain {M : Model} {c : Code} {st : Stmt} {rest : List Stmt} {K : Flow → Sem Fin} {H : Value → Sem Fin} {gd : Bool → Bool} {lv : List Value → List Value}
    (h : wpAny M (A.over c fs) (exec st env) (fun f s' => Seg M A R Y n s₀ c (match f with | .next => (execs rest env).wrap K H gd lv | f => K f) fs s') (fun x s' => Seg M A R Y n s₀ c (H x) fs s') s) :
    Seg M A R Y n s₀ c ((execs (st :: rest) env).wrap K H gd lv) fs s := seg_execs_cons (seg_wrap h)
end
end Mine
end
section
open PySem PySem.W PyProof.Rows PySem.Calls PySem.Spec
set_option Elab.async false
set_option maxRecDepth 100000
namespace Mine
section
variable {w : World} {x : Cx} {G : Fz} {T : Ow} {s : Shared}
noncomputable abbrev genEnvOf (qual : Str) (scope : Scope) (F f : Addr) (cdv : Value) : Env := newEnv scope F mainGlobals [] (qual ++ ".<locals>.") (some f) cdv none builtinsNs
theorem gen_call {f : Addr} {name qual : Str} {params : Arguments} {body : List Stmt} {scope : Scope} {dV kV doc pm cdv ct oc : Value} {an od : Option Addr} {osl : Array (Option Value)} {binds : List (Str × Value)} {vs : List Value} {Q E : Value → Shared → Prop}
    (hx : x.Ok w) (S : OkB x G T s.heap) (ho : (kk.heap_1 w.params).lookup f = some ⟨oc, od, .func (fnOf name qual params body scope dV kV doc pm an cdv ct), osl⟩) (hcd : codeIn (kk.heap_1 w.params) cdv qual = true) (hroom : x.dp < recursionLimit)
    (hbind : BindsTo s (fnOf name qual params body scope dV kV doc pm an cdv ct) ⟨vs, []⟩ binds) (hloc : ∀ y ∈ binds, scope.names.lookup y.1 = some .local) (hcell : ∀ y ∈ scope.names, y.2 ≠ .cell)
    (hco : scope.isCoroutine = false) (hgen : scope.isGenerator = true) (hk : scope.kind = .function)
    (k : ∀ F a h' tk, h'.Ns F (fun y => binds.reverse.lookup y) → h'.IsGen a s.gens.size → (∀ b o, s.heap.get? b = some o → h'.get? b = some o) → s.heap.get? F = none → s.heap.get? a = none → a ≠ F → s.heap.objs.size ≤ F → s.heap.objs.size ≤ a →
      Q (.ref a) { s with heap := h', toks := tk, gens := s.gens.push (.fresh (.func body (genEnvOf qual scope F f cdv))) }) :
    wpAny (model pg w) x.A (call (.ref f) vs) Q E s := by
  have eA : x.A = x.A0 := by rw [Cx.A, hx.hA]
  rw [eA]
  have hkeep : ∀ b o, x.h₀.get? b = some o → s.heap.get? b = some o := fun b o e => S.keep e
  refine wpAny_call ?_
  refine codeAny_call_generator hroom (hkeep _ _ (hx.K _ _ ho)) rfl hco hgen rfl (codeRec_of (fun b o e => hkeep _ _ (hx.K b o e)) hcd) ?_
  refine hbind _ _ _ _ ?_
  refine wpAny_newFunctionEnv hcell hloc (fun h' hn hs => ?_) hk
  have hlim : s.heap.NoLimit := let ⟨mc, a, b⟩ := hx.Tp.nolimit; ⟨mc, a.keeps hkeep, b⟩
  have hkeep2 : ∀ b o, s.heap.get? b = some o → h'.get? b = some o := fun b o e => by
    have hb : b ≠ s.heap.objs.size := Nat.ne_of_lt (Heap.lt_size e)
    exact hs.extBut b o hb (Heap.get?_push_of_some _ e)
  have hsz : h'.objs.size = s.heap.objs.size + 1 := by rw [hs.1, Heap.size_push]
  refine ⟨let ⟨mc, a, b⟩ := hlim; ⟨mc, a.keeps hkeep2, b⟩, ?_⟩
  refine k s.heap.objs.size h'.objs.size _ _ (hn.push _) ⟨_, _, _, Heap.get?_push_size _ rfl, rfl, rfl, rfl⟩ (fun b o e => Heap.get?_push_of_some _ (hkeep2 b o e)) (none_size _) ?_ (by show @Ne Nat _ _; omega) (Nat.le_refl _) (by show @LE.le Nat _ _ _; omega)
  cases e : s.heap.get? h'.objs.size with
  | none => rfl
  | some o => have : @LT.lt Nat _ h'.objs.size s.heap.objs.size := Heap.lt_size e; omega
end
end Mine
end
section
open PySem PySem.W PyProof.Rows PySem.Calls PySem.Spec
set_option Elab.async false
set_option maxRecDepth 100000
namespace Mine
theorem primeG3 (w : World) : (kk.heap_1 w.params = kk.heap_1 w.params) ∧ PySem.Challenge.rw_wn0104_01 = PySem.Challenge.rw_wn0104_01 := by
  k_fill
  exact ⟨rfl, rfl⟩
theorem gn_charmax (w : World) : ∃ t, GN w (Str.ofString "CHAR_MAX") (.int 127 t) := ⟨_, .inl (by k_is)⟩
theorem gn_valueError (w : World) : GN w (Str.ofString "ValueError") (.type "ValueError") := .inr ⟨by k_is, by boot_fast, by decide⟩
section
variable {w : World} {x : Cx} {A : Around} {env : Env} {s : Shared} {L : Addr} {m : Str → Option Value} {Q E : Value → Shared → Prop} {n : Str} {p pos : Pos} {v : Value}
theorem g_local (g : EnvG env) (hL : env.locals = L) (hk : env.kindOf n = some .local) (hn : s.heap.Ns L m) (e : m n = some v) (h : Q v s) (hd : (n == ("__debug__" : Str)) = false := by decide) : wpAny (model pg w) A (eval (.Name n p) env) Q E s := by
  subst hL
  exact wpAny_Name (wpAny_loadName_local g.kind hk hn e h) hd
theorem g_glob (hx : x.Ok w) (F : Fr x.h₀ L s.heap m) (eg : EnvG env) (g : GN w n v) (hk : env.kindOf n = some .globalImplicit) (h : Q v s) (hd : (n == ("__debug__" : Str)) = false := by decide) : wpAny (model pg w) A (eval (.Name n p) env) Q E s := by
  rcases g with g | ⟨g, hb, hn⟩
  · exact gName_K F hx.K (topRead_of hx.Tp) g h eg.gl eg.kind hk hd
  · exact gName_B F hx.K (topRead_of hx.Tp) g hb hn h eg.gl eg.bu eg.kind hk hd
/-- interval == CHAR_MAX, or a number -/
theorem g_eqI {e f : PySem.Expr} {i j : Int} {Q : Bool → Shared → Prop} (he : ∀ (Q' : Value → Shared → Prop) (E' : Value → Shared → Prop), (∀ t, Q' (.int i t) s) → wpAny (model pg w) A (eval e env) Q' E' s)
    (hf : ∀ (Q' : Value → Shared → Prop) (E' : Value → Shared → Prop), (∀ t tk, Q' (.int j t) { s with toks := tk }) → wpAny (model pg w) A (eval f env) Q' E' s) (h : ∀ tk, Q (i == j) { s with toks := tk }) (hm : behindInMarks .Eq f = false := by with_unfolding_all rfl) :
    wpAny (model pg w) A (isTrue (.Compare e [.Eq] [f] pos) env (eval (.Compare e [.Eq] [f] pos) env)) Q E s := by
  refine wpAny_isTrue_Compare1 (he _ _ fun t => hf _ _ fun t' tk => ?_) hm
  exact PyProof.Rows.eq_int (wpAny_truthy_bool (h tk))
end
end Mine
end
section
open PySem PySem.W PyProof.Rows PySem.Calls PySem.Spec
set_option Elab.async false
set_option maxRecDepth 100000
namespace Mine
open LCg
noncomputable def nI : Str := Str.ofString "interval"
noncomputable def nL : Str := Str.ofString "last_interval"
/-- what a generator may have changed since its turn began -/
structure Rel (F I : Addr) (s₀ s : Shared) : Prop where
  gens : s.gens = s₀.gens
  drawn : s.drawn = s₀.drawn
  os : s.os = s₀.os
  keep : ∀ b o, b ≠ F → b ≠ I → s₀.heap.get? b = some o → s.heap.get? b = some o
theorem Rel.refl {F I : Addr} {s : Shared} : Rel F I s s := ⟨rfl, rfl, rfl, fun _ _ _ _ e => e⟩
noncomputable def Yg (x : Cx) (F I a : Addr) (vs : Array Value) (out : Nat → Int) (N : Nat) (row : List Int) (J : Nat) : Protocol := fun n s₀ v s' kap =>
  (∃ t, v = .int (out (N - 1 - n)) t) ∧ (N - 1 - n < J ∨ row[J]? = some 0) ∧ Rel F I s₀ s' ∧ ∃ oF oI, s'.heap.get? F = some oF ∧ s'.heap.get? I = some oI ∧
    (0 < n → ∀ s'' : Shared, s''.heap.get? F = some oF → s''.heap.get? I = some oI → (∀ b o, x.h₀.get? b = some o → s''.heap.get? b = some o) → s''.heap.IsList a vs → kap (.send .none) s'')
/-- where a generator stands -/
structure GenSt (x : Cx) (F I a : Addr) (vs : Array Value) (m : Str → Option Value) (j : Nat) (s : Shared) : Prop where
  ns : s.heap.Ns F m
  it : s.heap.IsListIter I a j
  li : s.heap.IsList a vs
  base : ∀ b o, x.h₀.get? b = some o → s.heap.get? b = some o
section
variable {w : World} {x : Cx} {A : Around} {R : GenEnd} {env : Env} {F I a : Addr} {vs : Array Value} {out : Nat → Int} {N n J : Nat} {row : List Int} {s₀ s : Shared} {m : Str → Option Value}
theorem fr_of (hF : x.h₀.objs.size ≤ F) (S : GenSt x F I a vs m n s) : Fr x.h₀ F s.heap m := ⟨S.ns, S.base, hF⟩
theorem GenSt.toks (S : GenSt x F I a vs m n s) (tk : Nat) : GenSt x F I a vs m n { s with toks := tk } := ⟨S.ns, S.it, S.li, S.base⟩
theorem Rel.toks (r : Rel F I s₀ s) (tk : Nat) : Rel F I s₀ { s with toks := tk } := ⟨r.gens, r.drawn, r.os, r.keep⟩
/-- a yield's protocol -/
theorem yg_of (hIF : I ≠ F) {kap : Resume → Shared → Prop} {v : Value} {j : Nat} (hv : ∃ t, v = .int (out (N - 1 - n)) t) (hal : N - 1 - n < J ∨ row[J]? = some 0) (S : GenSt x F I a vs m j s) (r : Rel F I s₀ s)
    (hk : 0 < n → ∀ s'', GenSt x F I a vs m j s'' → kap (.send .none) s'') : Yg x F I a vs out N row J n s₀ v s kap := by
  obtain ⟨oF, hoF, qF⟩ := ns_obj S.ns
  obtain ⟨oI, hoI, qI⟩ := id S.it
  refine ⟨hv, hal, r, oF, oI, hoF, hoI, fun hn s'' e1 e2 hb hl => hk hn s'' ⟨NsObj.ns qF e1, ⟨oI, e2, qI⟩, hl, hb⟩⟩
theorem whileSeg {p1 p2 p3 p4 : Pos} {k j : Nat} {fs : List Frame} {t : Tok} (g : EnvG env) (hL : env.locals = F) (hk : env.kindOf nL = some .local) (hco : env.scope.isCoroutine = false) (hi : interactive env = false) (hIF : I ≠ F)
    (hfs : splitAtGen fs = none) (hfg : fs.any Frame.guarded = false) (c : Int) (hm : m nL = some (.int c t)) (hout : ∀ i, N - 1 - n ≤ i → out i = c) (h00 : row[J]? = some 0) :
    ∀ n' s₀ s, n' ≤ n → GenSt x F I a vs m j s → Rel F I s₀ s → Seg (model pg w) A R (Yg x F I a vs out N row J) (n' + 1) s₀ (.whileLoop (.Constant (.bool true) k p1) [.Expr (.Yield (some (.Name nL p2)) p3) p4] [] env)
      ((model pg w).den (.whileLoop (.Constant (.bool true) k p1) [.Expr (.Yield (some (.Name nL p2)) p3) p4] [] env)) fs s := by
  intro n'
  induction n' with
  | zero =>
    intro s₀ s hn S r
    refine seg_whileLoop (wpAny_mono (Q := fun b s' => b = true ∧ s' = s) (E := fun _ _ => False) ?_ ?_ fun _ _ e => e.elim)
    · exact isTrue_plain (wpAny_pure (wpAny_truthy_bool ⟨rfl, rfl⟩)) rfl
    · rintro _ _ ⟨rfl, rfl⟩
      rw [if_pos rfl]
      refine seg_execs_cons (seg_Expr_Yield hfs rfl hfg ?_ hco hi)
      exact g_local g hL hk S.ns hm fun kap hkap => yg_of hIF ⟨t, by rw [hout _ (by omega)]⟩ (.inr h00) S r fun h => absurd h (Nat.lt_irrefl _)
  | succ n' ih =>
    intro s₀ s hn S r
    refine seg_whileLoop (wpAny_mono (Q := fun b s' => b = true ∧ s' = s) (E := fun _ _ => False) ?_ ?_ fun _ _ e => e.elim)
    · exact isTrue_plain (wpAny_pure (wpAny_truthy_bool ⟨rfl, rfl⟩)) rfl
    · rintro _ _ ⟨rfl, rfl⟩
      rw [if_pos rfl]
      refine seg_execs_cons (seg_Expr_Yield hfs rfl hfg ?_ hco hi)
      refine g_local g hL hk S.ns hm fun kap hkap => yg_of hIF ⟨t, by rw [hout _ (by omega)]⟩ (.inr h00) S r fun _ s'' S'' => hkap .none s'' ?_
      exact seg_again rfl (ih s'' s'' (by omega) S'' .refl)
end
end Mine
end
section
open PySem PySem.W PyProof.Rows PySem.Calls PySem.Spec
set_option Elab.async false
set_option maxRecDepth 100000
namespace Mine
open LCg
section
variable {M : Model} {A : Around} {R : GenEnd} {Y : Protocol} {n : Nat} {s₀ : Shared} {c : Code} {fs : List Frame} {s : Shared} {env : Env}
theorem seg_If {test : PySem.Expr} {body orelse : List Stmt} {pos : Pos} {K : Flow → Sem Fin} {H : Value → Sem Fin} {gd : Bool → Bool} {lv : List Value → List Value} {b : Bool} {P : Shared → Prop}
    (ht : ∀ (Q : Bool → Shared → Prop) (E : Value → Shared → Prop), (∀ s', P s' → Q b s') → wpAny M (A.over c fs) (isTrue test env (eval test env)) Q E s)
    (h1 : b = true → ∀ s', P s' → Seg M A R Y n s₀ c ((execs body env).wrap K H gd lv) fs s') (h2 : b = false → ∀ s', P s' → Seg M A R Y n s₀ c ((execs orelse env).wrap K H gd lv) fs s') :
    Seg M A R Y n s₀ c ((exec (.If test body orelse pos) env).wrap K H gd lv) fs s := by
  rw [exec_If]
  refine seg_bindw (wpAny_standAt ?_)
  refine seg_bindw (ht _ _ fun s' hP => ?_)
  cases b with
  | true => exact h1 rfl s' hP
  | false => exact h2 rfl s' hP
end
section
variable {w : World} {x : Cx} {A : Around} {R : GenEnd} {env : Env} {F I a : Addr} {vs : Array Value} {out : Nat → Int} {N J : Nat} {row : List Int}
structure GE (env : Env) (F : Addr) : Prop where
  g : EnvG env
  L : env.locals = F
  kI : env.kindOf nI = some .local
  kL : env.kindOf nL = some .local
  kC : env.kindOf (Str.ofString "CHAR_MAX") = some .globalImplicit
  co : env.scope.isCoroutine = false
  it : interactive env = false
structure GR (vs : Array Value) (row : List Int) (out : Nat → Int) (J : Nat) : Prop where
  size : vs.size = row.length
  item : ∀ (j : Nat) (i : Int), row[j]? = some i → ∃ t : Tok, vs[j]? = some (Value.int i t)
  before : ∀ j : Nat, j < J → ∃ i : Int, row[j]? = some i ∧ i ≠ 127 ∧ i ≠ 0 ∧ out j = i
  stop : (row[J]? = none ∧ J = row.length) ∨ row[J]? = some 127 ∨ (row[J]? = some 0 ∧ 0 < J ∧ ∀ i, J ≤ i → out i = out (J - 1))
theorem loopSeg {pt p1 p2 p3 p4 p5 p6 p7 p8 p9 p10 p11 p16 p17 p18 p19 p20 p21 p22 p23 p24 p25 p26 p27 p28 : Pos} {k1 k2 k4 : Nat} {raises : List Stmt} {c₀ : Code} {pp : Pos} {K : Flow → Sem Fin} {H : Value → Sem Fin} {gd : Bool → Bool} {lv : List Value → List Value} {l : List Value}
    (hx : x.Ok w) (hF : x.h₀.objs.size ≤ F) (ge : GE env F) (hIF : I ≠ F) (hIa : a ≠ I) (hFa : a ≠ F) (hIb : x.h₀.get? I = none) (gr : GR vs row out J) (hN : J < N)
    (hK1 : K .next = .pure (.done (.ret .none))) (hK2 : K (.ret .none) = .pure (.done (.ret .none)))
    (hR : row[J]? ≠ some 0 → ∀ n s₀ s, n + J = N → Rel F I s₀ s → R n s₀ (.ok (.ret .none)) s) (hA : A.handled = none) :
    let body : List Stmt := [.If (.Compare (.Name nI p1) [.Eq] [.Name (Str.ofString "CHAR_MAX") p2] p3) [.Return none p4] [] p5,
      .If (.Compare (.Name nI p6) [.Eq] [.Constant (.int 0) k1 p7] p8) [.If (.Compare (.Name nL p9) [.Is] [.Constant .none k2 p10] p11) raises [] p16, .While (.Constant (.bool true) k4 p17) [.Expr (.Yield (some (.Name nL p18)) p19) p20] [] p21] [] p22,
      .Expr (.Yield (some (.Name nI p23)) p24) p25, .Assign [.Name nL p26] (.Name nI p27) p28]
    ∀ d j n s₀ s m, j + d = J → n + j = N → GenSt x F I a vs m j s → (j = 0 ∨ ∃ t, m nL = some (.int (out (j - 1)) t)) → Rel F I s₀ s →
      Seg (model pg w) A R (Yg x F I a vs out N row J) n s₀ (.forLoop (.Name nI pt) (.ref I) body [] env) ((model pg w).den (.forLoop (.Name nI pt) (.ref I) body [] env)) [.ret (fromOwn env K H gd lv) none false l c₀ pp []] s := by
  intro body d
  have hh : (A.over (.forLoop (.Name nI pt) (.ref I) body [] env) [.ret (fromOwn env K H gd lv) none false l c₀ pp []]).handled = none := hA
  have W := Walks.list (prog := pg) (w := w) hh I a hIa vs
  have hbI : ∀ b o, x.h₀.get? b = some o → b ≠ I := fun b o e q => by rw [q, hIb] at e; cases e
  have hbF : ∀ b o, x.h₀.get? b = some o → b ≠ F := fun b o e => Nat.ne_of_lt (Nat.lt_of_lt_of_le (Heap.lt_size e) hF)
  have turn : ∀ (j n : Nat) (s₀ s : Shared) (m : Str → Option Value) (i : Int) (t : Tok), vs[j]? = some (Value.int i t) → GenSt x F I a vs m j s → Rel F I s₀ s →
      (∀ s₂, GenSt x F I a vs (fun y => if y = nI then some (.int i t) else m y) (j + 1) s₂ → Rel F I s₀ s₂ → Seg (model pg w) A R (Yg x F I a vs out N row J) n s₀ (.forLoop (.Name nI pt) (.ref I) body [] env) ((execs body env).wrap (loopEnd (.forLoop (.Name nI pt) (.ref I) body [] env)) (noted env) id id) [.ret (fromOwn env K H gd lv) none false l c₀ pp []] s₂) →
      Seg (model pg w) A R (Yg x F I a vs out N row J) n s₀ (.forLoop (.Name nI pt) (.ref I) body [] env) ((model pg w).den (.forLoop (.Name nI pt) (.ref I) body [] env)) [.ret (fromOwn env K H gd lv) none false l c₀ pp []] s := by
    intro j n s₀ s m i t hv S r k
    have hjl : j < vs.size := (Array.getElem?_eq_some_iff.mp hv).1
    refine seg_forLoop (W.item j s _ _ hjl ⟨S.it, S.li⟩ fun v h' tk hP st hk => ?_) (fun _ => rfl)
    rw [hv] at hP; cases hP
    have hk' : ∀ b o, b ≠ I → s.heap.get? b = some o → h'.get? b = some o := fun b o hb e => hk b o (fun z => hb (List.mem_singleton.mp z)) e
    obtain ⟨oF, hoF, qF⟩ := ns_obj S.ns
    have hn1 : h'.Ns F m := NsObj.ns qF (hk' _ _ hIF.symm hoF)
    refine wpAny_assign_Name (wpAny_storeName_local ge.kI (by rw [ge.L]; exact hn1) (fun h'' hn hb => ?_) (by rw [ge.g.kind]; rfl))
    rw [ge.L] at hn hb
    refine k _ ⟨hn, st.1.extBut hb.extBut hIF, st.2.extBut hb.extBut hFa, fun b o e => ?_⟩ ⟨r.gens, r.drawn, r.os, fun b o b1 b2 e => ?_⟩
    · exact hb.extBut b o (hbF _ _ e) (hk' b o (hbI _ _ e) (S.base _ _ e))
    · exact hb.extBut b o b1 (hk' b o b2 (r.keep b o b1 b2 e))
  have hfs : splitAtGen [Frame.ret (fromOwn env K H gd lv) none false l c₀ pp []] = none := rfl
  have hfg : ([Frame.ret (fromOwn env K H gd lv) none false l c₀ pp []]).any Frame.guarded = false := rfl
  have fin : row[J]? ≠ some 0 → ∀ (n : Nat) (s₀ s : Shared) (c : Code) (f : Flow), n + J = N → Rel F I s₀ s → K f = .pure (.done (.ret .none)) → Seg (model pg w) A R (Yg x F I a vs out N row J) n s₀ c (leafOf (.ok f)) [.ret (fromOwn env K H gd lv) none false l c₀ pp []] s := fun hne n s₀ s c f hn r hK => by
    refine seg_leaf (.ok f) ?_
    rw [fromOwn_ok, hK]
    exact seg_end (.ok (.ret .none)) (hR hne n s₀ s hn r)
  obtain ⟨tc, gc⟩ := gn_charmax w
  -- a test of the interval
  have test : ∀ {c : Code} {fs : List Frame} {s₂ : Shared} {m₁ : Str → Option Value} {i : Int} {t : Tok} {j' : Nat}, GenSt x F I a vs m₁ j' s₂ → m₁ nI = some (.int i t) →
      ∀ (Q : Bool → Shared → Prop) (E : Value → Shared → Prop), (∀ s', (∃ tk, s' = { s₂ with toks := tk }) → Q (i == 127) s') →
        wpAny (model pg w) (A.over c fs) (isTrue (.Compare (.Name nI p1) [.Eq] [.Name (Str.ofString "CHAR_MAX") p2] p3) env (eval (.Compare (.Name nI p1) [.Eq] [.Name (Str.ofString "CHAR_MAX") p2] p3) env)) Q E s₂ := by
    intro c fs s₂ m₁ i t j' S hm Q E k
    refine g_eqI (i := i) (j := 127) (fun Q' E' h => g_local ge.g ge.L ge.kI S.ns hm (h t)) (fun Q' E' h => g_glob hx (fr_of hF S) ge.g gc ge.kC (h _ _)) fun tk => k _ ⟨tk, rfl⟩
  have test0 : ∀ {c : Code} {fs : List Frame} {s₂ : Shared} {m₁ : Str → Option Value} {i : Int} {t : Tok} {j' : Nat}, GenSt x F I a vs m₁ j' s₂ → m₁ nI = some (.int i t) →
      ∀ (Q : Bool → Shared → Prop) (E : Value → Shared → Prop), (∀ s', (∃ tk, s' = { s₂ with toks := tk }) → Q (i == 0) s') →
        wpAny (model pg w) (A.over c fs) (isTrue (.Compare (.Name nI p6) [.Eq] [.Constant (.int 0) k1 p7] p8) env (eval (.Compare (.Name nI p6) [.Eq] [.Constant (.int 0) k1 p7] p8) env)) Q E s₂ := by
    intro c fs s₂ m₁ i t j' S hm Q E k
    refine g_eqI (i := i) (j := 0) (fun Q' E' h => g_local ge.g ge.L ge.kI S.ns hm (h t)) (fun Q' E' h => wpAny_Constant_int (h _ _)) fun tk => k _ ⟨tk, rfl⟩
  induction d with
  | zero =>
    intro j n s₀ s m hj hn S hl r
    obtain rfl : j = J := hj
    rcases gr.stop with ⟨hnone, hJl⟩ | h127 | ⟨h0, hJ0, hout⟩
    · refine seg_forLoop (W.done s _ _ (by rw [gr.size, ← hJl]; exact ⟨S.it, S.li⟩) fun h' tk hk => ?_) (fun _ => rfl)
      intro c
      exact fin (by rw [hnone]; exact fun z => nomatch z) n s₀ _ c .next hn ⟨r.gens, r.drawn, r.os, fun b o b1 b2 e => hk b o (fun z => b2 (List.mem_singleton.mp z)) (r.keep b o b1 b2 e)⟩ hK1
    · obtain ⟨t, hv⟩ := gr.item _ _ h127
      refine turn j n s₀ s m _ t hv S r fun s₂ S₂ r₂ => ?_
      refine seg_execs_cons (seg_If (test S₂ (if_pos rfl)) (fun _ s' ⟨tk, e⟩ => ?_) fun h => absurd h (by decide))
      refine seg_execs_cons (seg_wrap (wpAny_Return_none ?_))
      rw [e]
      exact fin (by rw [h127]; exact fun z => absurd (Option.some.inj z) (by decide)) n s₀ _ _ (.ret .none) hn (r₂.toks tk) hK2
    · obtain ⟨t, hv⟩ := gr.item _ _ h0
      refine turn j n s₀ s m _ t hv S r fun s₂ S₂ r₂ => ?_
      refine seg_execs_cons (seg_If (test S₂ (if_pos rfl)) (fun h => absurd h (by decide)) fun _ s' ⟨tk, e⟩ => ?_)
      refine seg_execs_nil ?_
      refine seg_execs_cons (seg_If (test0 (e ▸ S₂.toks tk) (if_pos rfl)) (fun _ s'' ⟨tk', e'⟩ => ?_) fun h => absurd h (by decide))
      subst e; subst e'
      obtain ⟨tl, hml⟩ := hl.resolve_left (by omega)
      have S₃ := (S₂.toks tk).toks tk'
      have r₃ := (r₂.toks tk).toks tk'
      refine seg_execs_cons (seg_If (b := false) (P := fun s' => s' = (⟨s₂.heap, s₂.gens, s₂.drawn, tk', s₂.os⟩ : Shared)) (fun Q E k => ?_) (fun h => nomatch h) fun _ s₄ e => ?_)
      · refine wpAny_isTrue_Compare1 (g_local ge.g ge.L ge.kL S₃.ns (show _ = some (Value.int (out (j - 1)) tl) by rw [if_neg (by decide)]; exact hml) ?_) (by with_unfolding_all rfl)
        refine wpAny_Constant_none ?_
        exact is_none_gen (wpAny_truthy_bool (k _ rfl))
      · subst e
        refine seg_execs_nil ?_
        refine seg_execs_cons (seg_While fun p => ?_)
        obtain ⟨n', rfl⟩ : ∃ n', n = n' + 1 := ⟨n - 1, by omega⟩
        refine whileSeg (n := n') ge.g ge.L ge.kL ge.co ge.it hIF rfl rfl (out (j - 1)) (show _ = some (Value.int (out (j - 1)) tl) by rw [if_neg (by decide)]; exact hml) (fun i hi => hout i (by omega)) h0 n' s₀ _ (Nat.le_refl _) S₃ r₃
  | succ d ih =>
    intro j n s₀ s m hj hn S hl r
    obtain ⟨i, hi, h127, h0, ho⟩ := gr.before j (by omega)
    obtain ⟨t, hv⟩ := gr.item j i hi
    refine turn j n s₀ s m _ t hv S r fun s₂ S₂ r₂ => ?_
    refine seg_execs_cons (seg_If (b := false) (P := fun s' => ∃ tk, s' = { s₂ with toks := tk }) (by have := test (c := .forLoop (.Name nI pt) (.ref I) body [] env) (fs := [.ret (fromOwn env K H gd lv) none false l c₀ pp []]) S₂ (if_pos rfl); rw [beq_eq_false_iff_ne.mpr h127] at this; exact this) (fun h => nomatch h) fun _ s' ⟨tk, e⟩ => ?_)
    refine seg_execs_nil ?_
    refine seg_execs_cons (seg_If (b := false) (P := fun s'' => ∃ tk, s'' = { s' with toks := tk }) (by have := test0 (c := .forLoop (.Name nI pt) (.ref I) body [] env) (fs := [.ret (fromOwn env K H gd lv) none false l c₀ pp []]) (e ▸ S₂.toks tk) (if_pos rfl); rw [beq_eq_false_iff_ne.mpr h0] at this; exact this) (fun h => nomatch h) fun _ s'' ⟨tk', e'⟩ => ?_)
    subst e; subst e'
    have S₃ := (S₂.toks tk).toks tk'
    have r₃ := (r₂.toks tk).toks tk'
    refine seg_execs_nil ?_
    obtain ⟨n', rfl⟩ : ∃ n', n = n' + 1 := ⟨n - 1, by omega⟩
    refine seg_execs_cons (seg_Expr_Yield hfs rfl hfg ?_ ge.co ge.it)
    refine g_local ge.g ge.L ge.kI S₃.ns (if_pos rfl) fun kap hkap => yg_of hIF ⟨t, ?_⟩ (.inl (by omega)) S₃ r₃ fun _ s₅ S₅ => hkap .none s₅ ?_
    · rw [show N - 1 - n' = j by omega, ho]
    · refine seg_plain (wpAny_Assign_Name (g_local ge.g ge.L ge.kI S₅.ns (if_pos rfl) ?_) rfl)
      refine wpAny_storeName_local ge.kL (by rw [ge.L]; exact S₅.ns) (fun h'' hn' hb => ?_) (by rw [ge.g.kind]; rfl)
      rw [ge.L] at hn' hb
      refine seg_execs_nil (seg_again rfl ?_)
      refine ih (j + 1) n' s₅ _ _ (by omega) (by omega) ⟨hn', S₅.it.extBut hb.extBut hIF, S₅.li.extBut hb.extBut hFa, fun b o e => hb.extBut b o (hbF _ _ e) (S₅.base _ _ e)⟩ (.inr ⟨t, ?_⟩) ⟨rfl, rfl, rfl, fun b o b1 b2 e => hb.extBut b o b1 e⟩
      show (if nL = nL then _ else _) = _
      rw [if_pos rfl, Nat.add_sub_cancel, ho]
end
end Mine
end
section
open PySem PySem.W PyProof.Rows PySem.Calls PySem.Spec
set_option Elab.async false
set_option maxRecDepth 100000
namespace Mine
open LCg
section
variable {w : World} {x : Cx} {A : Around} {R : GenEnd} {env : Env} {F I a : Addr} {vs : Array Value} {out : Nat → Int} {N J : Nat} {row : List Int}
theorem genSeg {pt p0 p0' p0'' pf pg' p1 p2 p3 p4 p5 p6 p7 p8 p9 p10 p11 p16 p17 p18 p19 p20 p21 p22 p23 p24 p25 p26 p27 p28 : Pos} {k0 k1 k2 k4 : Nat} {raises : List Stmt} {s : Shared} {m : Str → Option Value}
    (hx : x.Ok w) (hF : x.h₀.objs.size ≤ F) (ge : GE env F) (kG : env.kindOf (Str.ofString "grouping") = some .local) (hFa : a ≠ F) (gr : GR vs row out J) (hN : J < N)
    (hR : row[J]? ≠ some 0 → ∀ n s₀ s, n + J = N → Rel F I s₀ s → R n s₀ (.ok (.ret .none)) s) (hA : A.handled = none) (hI : s.heap.objs.size = I)
    (hn : s.heap.Ns F m) (hm : m (Str.ofString "grouping") = some (.ref a)) (hl : s.heap.IsList a vs) (hb : ∀ b o, x.h₀.get? b = some o → s.heap.get? b = some o) :
    Seg (model pg w) A R (Yg x F I a vs out N row J) N s (.func [.Assign [.Name nL p0] (.Constant .none k0 p0') p0'', .For (.Name nI pt) (.Name (Str.ofString "grouping") pg')
      [.If (.Compare (.Name nI p1) [.Eq] [.Name (Str.ofString "CHAR_MAX") p2] p3) [.Return none p4] [] p5,
      .If (.Compare (.Name nI p6) [.Eq] [.Constant (.int 0) k1 p7] p8) [.If (.Compare (.Name nL p9) [.Is] [.Constant .none k2 p10] p11) raises [] p16, .While (.Constant (.bool true) k4 p17) [.Expr (.Yield (some (.Name nL p18)) p19) p20] [] p21] [] p22,
      .Expr (.Yield (some (.Name nI p23)) p24) p25, .Assign [.Name nL p26] (.Name nI p27) p28] [] pf] env) ((model pg w).den (.func [.Assign [.Name nL p0] (.Constant .none k0 p0') p0'', .For (.Name nI pt) (.Name (Str.ofString "grouping") pg')
      [.If (.Compare (.Name nI p1) [.Eq] [.Name (Str.ofString "CHAR_MAX") p2] p3) [.Return none p4] [] p5,
      .If (.Compare (.Name nI p6) [.Eq] [.Constant (.int 0) k1 p7] p8) [.If (.Compare (.Name nL p9) [.Is] [.Constant .none k2 p10] p11) raises [] p16, .While (.Constant (.bool true) k4 p17) [.Expr (.Yield (some (.Name nL p18)) p19) p20] [] p21] [] p22,
      .Expr (.Yield (some (.Name nI p23)) p24) p25, .Assign [.Name nL p26] (.Name nI p27) p28] [] pf] env)) [] s := by
  have hbF : ∀ b o, x.h₀.get? b = some o → b ≠ F := fun b o e => Nat.ne_of_lt (Nat.lt_of_lt_of_le (Heap.lt_size e) hF)
  refine seg_func ?_
  refine seg_plain (wpAny_Assign_Name (wpAny_Constant_none ?_) (by with_unfolding_all rfl))
  refine wpAny_storeName_local ge.kL (by rw [ge.L]; exact hn) (fun h1 hn1 hs1 => ?_) (by rw [ge.g.kind]; rfl)
  rw [ge.L] at hn1 hs1
  have hsz : h1.objs.size = I := by rw [hs1.1]; exact hI
  have hl1 : h1.IsList a vs := hl.extBut hs1.extBut hFa
  have hIa : a ≠ I := fun q => by
    obtain ⟨o, e, _⟩ := hl1
    have : @LT.lt Nat _ a h1.objs.size := Heap.lt_size e
    have q' : @Eq Nat a I := q
    have hsz' : @Eq Nat h1.objs.size I := hsz
    omega
  have hIF : I ≠ F := fun q => by
    have : @LT.lt Nat _ F h1.objs.size := hn1.lt
    have q' : @Eq Nat I F := q
    have hsz' : @Eq Nat h1.objs.size I := hsz
    omega
  have hIb : x.h₀.get? I = none := by
    cases e : x.h₀.get? I with
    | none => rfl
    | some o =>
      have : @LT.lt Nat _ I s.heap.objs.size := Heap.lt_size (hb _ _ e)
      have hI' : @Eq Nat s.heap.objs.size I := hI
      omega
  refine seg_execs_cons (seg_For (g_local ge.g ge.L kG hn1 (show _ = some (Value.ref a) by rw [if_neg (by decide)]; exact hm) ?_) (fun _ => rfl))
  refine wpAny_pyIter_list hl1 ?_
  intro p
  subst hsz
  refine loopSeg hx hF ge hIF hIa hFa hIb gr hN rfl rfl hR hA J 0 N s _ _ (by omega) (by omega) ⟨hn1.push _, ⟨_, Heap.get?_push_size _ rfl, rfl, rfl⟩, hl1.push _, fun b o e => Heap.get?_push_of_some _ (hs1.extBut b o (hbF _ _ e) (hb _ _ e))⟩ (.inl rfl) ⟨rfl, rfl, rfl, fun b o b1 _ e => Heap.get?_push_of_some _ (hs1.extBut b o b1 e)⟩
end
end Mine
end
section
open PySem PySem.W PyProof.Rows PySem.Calls PySem.Spec
set_option Elab.async false
set_option maxRecDepth 100000
namespace Mine
open LCg
/-- a block's end where generators may have been made -/
noncomputable def PostG (x : Cx) (X : Xs) (P : AV → Prop) (G : Fz) (s : Shared) (f : Flow) (s' : Shared) : Prop :=
  ∃ h' tk' gs v G' T' av, f = .ret v ∧ s' = { s with heap := h', toks := tk', gens := gs } ∧ AllBare gs ∧ Fz.le G G' ∧ OkB x G' T' h' ∧ XIn X T' ∧ VR G' v av ∧ P av
noncomputable def RunG (w : World) (x : Cx) (env : Env) (ρ : Rho) (sts : List Stmt) (P : AV → Prop) : Prop :=
  ∀ (X : Xs) (G : Fz) (T : Ow) (s : Shared) (E : Value → Shared → Prop), Ok x env ρ G T s.heap → XIn X T → AllBare s.gens → wpAny (model pg w) x.A (execs sts env) (PostG x X P G s) E s
/-- a call that may make generators -/
noncomputable def CallVG (w : World) (x : Cx) (f : Value) (avs : List AV) (av : AV) : Prop :=
  ∀ (G : Fz) (T : Ow) (s : Shared) (Q : Value → Shared → Prop) (E : Value → Shared → Prop) (vs : List Value), OkB x G T s.heap → VRs G vs avs → AllBare s.gens →
    (∀ v h' tk' gs G', AllBare gs → Fz.le G G' → OkB x G' T h' → VR G' v av → Q v { s with heap := h', toks := tk', gens := gs }) → wpAny (model pg w) x.A (call f vs) Q E s
section
variable {w : World} {x : Cx} {env : Env} {ρ ρ' : Rho} {G G' : Fz} {T T' : Ow} {h h' : Heap} {X : Xs} {s : Shared} {rest : List Stmt} {P : AV → Prop}
theorem exec_of_execs1 {M : Model} {A : Around} {st : Stmt} {Q : Flow → Shared → Prop} {E : Value → Shared → Prop} (H : wpAny M A (execs [st] env) Q E s) : wpAny M A (exec st env) Q E s := fun Γ p hΓ => by
  have := H Γ p hΓ
  rw [execs_cons, Sem.wp_bind'] at this
  refine Sem.wp_mono _ _ _ (fun f p' s' q => ?_) (fun _ _ _ e => e) _ _ this
  cases f <;> exact q
theorem PostG.up {tk : Nat} {gs : Array GenState} {f : Flow} {s' : Shared} (H : PostG x X P G' { s with heap := h, toks := tk, gens := gs } f s') (l : Fz.le G G') : PostG x X P G s f s' := by
  obtain ⟨h', tk', gs, v, G'', T', av, rfl, rfl, a, l', r⟩ := H
  exact ⟨h', tk', gs, v, G'', T', av, rfl, rfl, a, l.tr l', r⟩
theorem RunG.step (H : RunG w x env ρ' rest P) {E : Value → Shared → Prop} {tk : Nat} {gs : Array GenState} (S' : Ok x env ρ' G' T' h') (l : Fz.le G G') (hX : XIn X T') (hg : AllBare gs) : wpAny (model pg w) x.A (execs rest env) (PostG x X P G s) E { s with heap := h', toks := tk, gens := gs } :=
  wpAny_mono (H X G' T' _ E S' hX hg) (fun f s' p => p.up l) fun _ _ e => e
theorem RunG_step {st : Stmt} {B : Rho → Prop} (H1 : Run w x env ρ [st] { n := B, b := fun _ => False, c := fun _ => False, r := fun _ => False }) (H2 : ∀ ρ', B ρ' → RunG w x env ρ' rest P) : RunG w x env ρ (st :: rest) P := fun X G T s E S hX hg => by
  refine wpAny_execs_cons (wpAny_mono (exec_of_execs1 (H1 X G T s E S hX)) (fun f s' p => ?_) fun _ _ e => e)
  obtain ⟨h', tk', rfl, p⟩ := p
  cases f with
  | next =>
    obtain ⟨G', T', ρ', l, S', hX', b⟩ := p
    exact (H2 ρ' b).step S' l hX' hg
  | brk => obtain ⟨_, _, _, _, _, _, q⟩ := p; cases q
  | cont => obtain ⟨_, _, _, _, _, _, q⟩ := p; cases q
  | ret v => obtain ⟨_, _, _, _, _, _, _, q⟩ := p; cases q
theorem RunG_last {sts : List Stmt} (H : Run w x env ρ sts { n := fun _ => False, b := fun _ => False, c := fun _ => False, r := P }) : RunG w x env ρ sts P := fun X G T s E S hX hg => by
  refine wpAny_mono (H X G T s E S hX) (fun f s' p => ?_) fun _ _ e => e
  obtain ⟨h', tk', rfl, p⟩ := p
  cases f with
  | next => obtain ⟨_, _, _, _, _, _, q⟩ := p; cases q
  | brk => obtain ⟨_, _, _, _, _, _, q⟩ := p; cases q
  | cont => obtain ⟨_, _, _, _, _, _, q⟩ := p; cases q
  | ret v => obtain ⟨G', T', av, l, S', hX', r, q⟩ := p; exact ⟨h', tk', s.gens, v, G', T', av, rfl, rfl, hg, l, S', hX', r, q⟩
theorem RunG_sub {sts : List Stmt} (hs : SubR ρ' ρ) (H : RunG w x env ρ' sts P) : RunG w x env ρ sts P := fun X G T s E S hX hg => H X G T s E (S.sub hs) hX hg
/-- things that are anything turn -/
theorem Ok.moved (S : Ok x env ρ G T h) (D : Addr → Prop) (hD : ∀ a sp, (a, sp) ∈ T → D a → sp = .any ∧ ∃ o, h'.get? a = some o) (hG : ∀ a o, G a o → ¬ D a) (hk : ∀ b o, ¬ D b → h.get? b = some o → h'.get? b = some o) : Ok x env ρ G T h' := by
  refine S.to (Fz.rf _) ⟨fun a o g => hk a o (hG a o g) (S.st.keep a o g), fun p hp => ?_, S.st.off, S.st.nd⟩
  by_cases d : D p.1
  · obtain ⟨e, o, ho⟩ := hD p.1 p.2 hp d
    exact ⟨o, ho, by rw [e]; trivial⟩
  · obtain ⟨o, e, q⟩ := S.st.own p hp
    exact ⟨o, hk _ _ d e, q⟩
theorem Ok.addAny {I : Addr} {o : Obj} (S' : Ok x env ρ G T h') (hT : ∀ p ∈ T, p.1 ≠ I) (hG : ∀ o, ¬ G I o) (h1 : h'.get? I = some o) : Ok x env ρ G ((I, .any) :: T) h' := by
  have st : St G ((I, .any) :: T) h' := by
    refine ⟨S'.st.keep, fun p hp => ?_, fun p hp o g => ?_, ?_⟩
    · rcases List.mem_cons.mp hp with rfl | hp
      · exact ⟨o, h1, trivial⟩
      · exact S'.st.own p hp
    · rcases List.mem_cons.mp hp with rfl | hp
      · exact hG _ g
      · exact S'.st.off p hp o g
    · rw [List.map_cons, List.nodup_cons]
      refine ⟨fun hm => ?_, S'.st.nd⟩
      obtain ⟨p, hp, q⟩ := List.mem_map.mp hm
      exact hT p hp q
  exact S'.more1 (S'.toOkB.mem st (Fz.rf _) fun a sp hm _ _ _ => List.mem_cons_of_mem _ hm) (Fz.rf _)
theorem Ok.offT {I : Addr} (S : Ok x env ρ G T h) (h0 : h.get? I = none) : (∀ p ∈ T, p.1 ≠ I) ∧ ∀ o, ¬ G I o := by
  refine ⟨fun p hp q => ?_, fun o g => ?_⟩
  · obtain ⟨o, e, _⟩ := S.st.own p hp
    rw [q, h0] at e; cases e
  · have := S.st.keep _ _ g
    rw [h0] at this; cases this
theorem Ok.goneT {I : Addr} (S : Ok x env ρ G T h) (hI : (I, .any) ∈ T) (hk : ∀ b o, b ≠ I → h.get? b = some o → h'.get? b = some o) : ∃ T', Ok x env ρ G T' h' ∧ (∀ a sp, (a, sp) ∈ T → sp ≠ .any → (a, sp) ∈ T') ∧ (∀ p ∈ T', p.1 ≠ I) ∧ (∀ p ∈ T, p.1 ≠ I → p ∈ T') ∧ (∀ p ∈ T', p ∈ T) := by
  let T' := T.filter fun p => p.1 ≠ I
  have mem' : ∀ {a : Addr} {sp : Sp}, (a, sp) ∈ T → sp ≠ .any → (a, sp) ∈ T' := fun {a sp} hm hne => List.mem_filter.mpr ⟨hm, by
    simp only [ne_eq, decide_not, Bool.not_eq_true', decide_eq_false_iff_not]
    intro q; subst q; exact hne (S.st.one hm hI)⟩
  have hne : ∀ p ∈ T', p.1 ≠ I := fun p hp => by simpa using (List.mem_filter.mp hp).2
  have sub : T'.Sublist T := List.filter_sublist
  have S0 := S.st.sub sub
  have S' : St G T' h' := by
    refine ⟨fun b o g => hk _ _ (fun e => S.st.off _ hI o (e ▸ g)) (S.st.keep _ _ g), fun p hp => ?_, S0.off, S0.nd⟩
    obtain ⟨o, e, q⟩ := S0.own p hp
    exact ⟨o, hk _ _ (hne p hp) e, q⟩
  have rd : ∀ {n : Str} {v : Value}, Reads env T n v → Reads env T' n v := fun r => r.imp (fun ⟨k, m, hm, e⟩ => ⟨k, m, mem' hm (fun e => nomatch e), e⟩) fun ⟨k, c, hc, hm⟩ => ⟨k, c, hc, mem' hm (fun e => nomatch e)⟩
  refine ⟨T', { st := S', base := fun b ob e => (S.base b ob e).imp id fun hm => mem' hm (fun e => nomatch e), fr := ?_, eg := S.eg, ap := S.ap, ce := fun p hp => ?_, lo := ?_, rho := fun n av e => ?_ }, fun a sp => mem', hne, fun p hp q => List.mem_filter.mpr ⟨hp, by simpa using q⟩, fun p hp => (List.mem_filter.mp hp).1⟩
  · obtain ⟨m, hm⟩ := S.fr; exact ⟨m, mem' hm (fun e => nomatch e)⟩
  · obtain ⟨v, hm⟩ := S.ce p hp; exact ⟨v, mem' hm (fun e => nomatch e)⟩
  · obtain ⟨m, hm⟩ := S.lo; exact ⟨m, mem' hm (fun e => nomatch e)⟩
  · have N := S.rho n av e
    cases av with
    | own xs => obtain ⟨a, vs, k, r, m, q⟩ := N; exact ⟨a, vs, k, rd r, mem' m (fun e => nomatch e), q⟩
    | ownd w es => obtain ⟨a, o, kvs, r, m, q⟩ := N; exact ⟨a, o, kvs, rd r, mem' m (fun e => nomatch e), q⟩
    | _ => obtain ⟨v, r, q⟩ := N; exact ⟨v, rd r, q⟩
end
section
variable {prog : Program} {w : World} {A : Around} {E : Value → Shared → Prop} {s : Shared}
theorem pyNext_genB {a : Addr} {g n : Nat} {gs : GenState} {P : Nat → Shared → Shared → Prop} {Y : Protocol} {Q : Option Value → Shared → Prop} (hh : A.handled = none)
    (hl : s.heap.NoLimit) (hroom : A.depth < recursionLimit)
    (hg : s.heap.IsGen a g) (hgs : s.gens[g]? = some gs)
    (hgo : gs.Goes (model prog w) A.in1 (fun n s₀ r s₁ => r = .ok (.ret .none) ∧ P n s₀ s₁) Y n (.send .none) (s.setGen g .running))
    (hY : ∀ v s₁ gs', gs'.bare = true → Y (n - 1) (s.setGen g .running) v s₁ (fun r' s'' => match n with
        | 0 => False
        | m + 1 => gs'.Goes (model prog w) A.in1 (fun n s₀ r s₁ => r = .ok (.ret .none) ∧ P n s₀ s₁) Y m r' s'') → Q (some v) (s₁.setGen g gs'))
    (hP : ∀ s₁, P n (s.setGen g .running) s₁ → ∀ h', (∀ b o, s₁.heap.get? b = some o → h'.get? b = some o) → Q none { s₁.setGen g .finished with heap := h' }) :
    wpAny (model prog w) A (pyNext (.ref a)) Q E s := by
  unfold pyNext
  refine wpAny_bind (wpAny_attempt (wpAny_callSpecial?_slot (name := Str.ofString "__next__") hg.typeIs slot_gen_next
    (wpAny_call_entry slot_gen_next hg.typeIs entry_gen_next ?_ (args_gen_next _))))
  show wpAny _ _ (Builtin.Generator.genWake (.ref a) (.send .none)) _ _ s
  unfold Builtin.Generator.genWake
  refine wpAny_bind (wpAny_holding (wpAny_genNumber hg (wpAny_bind (wpAny_genState hgs ?_))))
  cases gs with
  | running => exact hgo.elim
  | finished => exact hgo.elim
  | _ =>
    refine wpAny_bind (wpAny_roomToWake hl hroom ?_)
    show wpAny _ _ (.resume g (.send .none) [] _) _ _ s
    refine wpAny_resumeQ hgs hgo (fun x s₁ hx => ?_) (fun v s₁ gs' hb hv => ?_)
    · obtain ⟨rfl, hp⟩ := hx
      show wpAny _ _ (newExc (.type "StopIteration") [] >>= _) _ _ _
      refine wpAny_bind ?_
      simp only [newExc, newTuple]
      refine wpAny_bind (wpAny_newObj_type ?_ (by size_fits))
      refine wpAny_bind (m := firstArgMember _ _) (wpAny_of_eq (a := Value.none) (by first | rfl | (simp only [firstArgMember]; rfl)) ?_)
      refine wpAny_newObj_type ?_ (by size_fits)
      simp only [raiseNew]
      refine wpAny_bind (wpAny_bind (wpAny_handled ?_))
      rw [show A.in1.handled = none from hh]
      refine wpAny_throw ?_
      refine wpAny_bind (wpAny_isInstance (T := "StopIteration") (b := true) ⟨_, Heap.get?_push_size _ rfl, rfl⟩ isSubtype_stop ?_)
      exact wpAny_pure (hP s₁ hp _ fun b o hb => Heap.get?_push_of_some _ (Heap.get?_push_of_some _ hb))
    · exact wpAny_pure ⟨v, rfl, wpAny_pure (hY v s₁ gs' hb hv)⟩
end
end Mine
end
section
open PySem PySem.W PyProof.Rows PySem.Calls PySem.Spec
set_option Elab.async false
set_option maxRecDepth 100000
namespace Mine
open LCg
noncomputable def nG : Str := Str.ofString "grouping"
noncomputable def MakesGen (w : World) (x : Cx) (f : Addr) (C : Addr → Code) : Prop := ∀ (G : Fz) (T : Ow) (s : Shared) (Q E : Value → Shared → Prop) (v : Value), OkB x G T s.heap →
  (∀ F a h' tk, h'.Ns F (fun y => [(nG, v)].reverse.lookup y) → h'.IsGen a s.gens.size → (∀ b o, s.heap.get? b = some o → h'.get? b = some o) → s.heap.get? F = none → s.heap.get? a = none → a ≠ F → s.heap.objs.size ≤ F → s.heap.objs.size ≤ a →
      Q (.ref a) { s with heap := h', toks := tk, gens := s.gens.push (.fresh (C F)) }) → wpAny (model pg w) x.A (call (.ref f) [v]) Q E s
noncomputable def SegGen (w : World) (x : Cx) (C : Addr → Code) (row : List Int) (out : Nat → Int) (J N : Nat) : Prop :=
  ∀ (A : Around) (R : GenEnd) (F I a : Addr) (vs : Array Value) (s : Shared) (m : Str → Option Value), A.handled = none → x.h₀.objs.size ≤ F → a ≠ F → GR vs row out J →
    (row[J]? ≠ some 0 → ∀ n s₀ s, n + J = N → Rel F I s₀ s → R n s₀ (.ok (.ret .none)) s) → s.heap.objs.size = I → s.heap.Ns F m → m nG = some (.ref a) → s.heap.IsList a vs → (∀ b o, x.h₀.get? b = some o → s.heap.get? b = some o) →
    Seg (model pg w) A R (Yg x F I a vs out N row J) N s (C F) ((model pg w).den (C F)) [] s
section
variable {w : World} {x : Cx} {env : Env} {ρ ρ' : Rho} {G G' : Fz} {T T' : Ow} {h h' : Heap} {X : Xs} {s : Shared} {rest : List Stmt} {P : AV → Prop}
theorem AllBare.setG {s : Shared} {g : Nat} {y : GenState} (H : AllBare s.gens) (hy : y.bare = true) : AllBare (s.setGen g y).gens := fun z hz => by
  have hz' : z ∈ s.gens.setIfInBounds g y := hz
  rcases Array.mem_or_eq_of_mem_setIfInBounds hz' with q | q
  · exact H z q
  · rw [q]; exact hy
noncomputable def Ready (w : World) (x : Cx) (C : Addr → Code) (F I a : Addr) (vs : Array Value) (out : Nat → Int) (row : List Int) (J N i : Nat) (m₀ : Str → Option Value) (T : Ow) (h : Heap) (gst : GenState) : Prop :=
  (i = 0 ∧ gst = .fresh (C F) ∧ h.Ns F m₀ ∧ I = h.objs.size) ∨
  (0 < i ∧ (I, .any) ∈ T ∧ I ≠ F ∧ ∃ oF oI, h.get? F = some oF ∧ h.get? I = some oI ∧ ∀ s'' : Shared, s''.heap.get? F = some oF → s''.heap.get? I = some oI → (∀ b o, x.h₀.get? b = some o → s''.heap.get? b = some o) → s''.heap.IsList a vs →
    gst.Goes (model pg w) x.A.in1 (fun n s₀ r s₁ => r = .ok (.ret .none) ∧ (row[J]? ≠ some 0 ∧ n + J = N ∧ Rel F I s₀ s₁)) (Yg x F I a vs out N row J) (N - i) (.send .none) s'')
/-- between two turns of a for over a generator -/
inductive FGInv (w : World) (x : Cx) (env : Env) (X : List (Addr × Obj)) (C : Addr → Code) (Jn : Nat → Rho → Prop) (G4 : Fz) (F a : Addr) (us : Array Value) (out : Nat → Int) (row : List Int) (J N : Nat) (s : Shared) (k : Nat) : Shared → Prop
  | mk {h' : Heap} {tk : Nat} {gs : Array GenState} {i : Nat} {ρ' : Rho} {G' : Fz} {T' : Ow} {gst : GenState} {I : Addr} : gs[s.gens.size]? = some gst → AllBare gs → i < N → k = N - i → Fz.le G4 G' → Ok x env ρ' G' T' h' → XIn X T' → Jn i ρ' → (F, .any) ∈ T' →
      Ready w x C F I a us out row J N i (fun y => [(nG, Value.ref a)].reverse.lookup y) T' h' gst → FGInv w x env X C Jn G4 F a us out row J N s k { s with heap := h', toks := tk, gens := gs }
set_option maxHeartbeats 1000000
theorem RunG_forGen {f : Addr} {o : Obj} {fd : FuncData} {C : Addr → Code} {n fn : Str} {px pf pos cp : Pos} {arg : PySem.Expr} {body : List Stmt} {row : List Int} {out : Nat → Int} {J N : Nat} (Jn : Nat → Rho → Prop) (B D : Rho → Prop)
    (hx : x.Ok w) (hroom : x.dp < recursionLimit) (hM : MakesGen w x f C) (hS : SegGen w x C row out J N)
    (hf : EX w x env ρ (.Name fn pf) (.ref f)) (ha : EV w x env ρ arg (.list (iL row))) (ho : (kk.heap_1 w.params).lookup f = some o) (hd : o.data = .func fd)
    (hgr : ∀ vs, IntsAre vs row → GR vs.toArray row out J) (hk : Kept env n) (h0 : Jn 0 ρ) (hJb : ∀ i ρ', Jn i ρ' → i < N)
    (turn : ∀ i ρ', Jn i ρ' → (i < J ∨ row[J]? = some 0) → Run w x env ((n, .int (out i)) :: ρ') body { n := Jn (i + 1), c := Jn (i + 1), b := B, r := fun _ => False })
    (done : row[J]? ≠ some 0 → ∀ ρ', Jn J ρ' → D ρ') (HB : ∀ ρ', B ρ' → RunG w x env ρ' rest P) (HD : ∀ ρ', D ρ' → RunG w x env ρ' rest P)
    (hfd : ∀ x, foldedSetIterable (.Call (.Name fn pf) [arg] [] cp) env x = pure x := by intro _; rfl) (hse : starEach [arg] env = (false, eval arg env) :: starEach [] env := by rfl) :
    RunG w x env ρ (.For (.Name n px) (.Call (.Name fn pf) [arg] [] cp) body [] pos :: rest) P := fun X G T s E S hX hbare => by
  have eA : x.A = x.A0 := by rw [Cx.A, hx.hA]
  refine wpAny_execs_cons (wpAny_For ?_ hfd)
  refine Call_Name rfl (hf G T s _ _ S ?_)
  refine callWith_function (o := o) (fd := fd) ?_
  rw [hse]
  refine evalArgs_plain ?_
  have ha' := EVL_cons (pos := cp) ha EVL_nil hse
  unfold EVL at ha'
  rw [hse] at ha'
  refine ha' G T s _ _ S fun vs h1 tk1 G1 l1 S1 r1 => ?_
  refine ⟨⟨S1.toOkB.keep (hx.K _ _ ho), hd⟩, ?_⟩
  simp only [List.nil_append]
  cases r1 with | cons r1 r =>
  cases r
  cases r1 with | @list a oa' us ka _ ga ca da ea qa =>
  have hints : IntsAre us row := VRs.ints qa
  have gr := hgr us hints
  refine hM G1 T _ _ _ _ S1.toOkB fun F ag h2 tk2 hnF hgen hk2 hF0 hag0 hagF hFs hags => ?_
  have S2 : Ok x env ρ G1 T h2 := S1.ext hk2
  obtain ⟨oF, hoF, qF⟩ := ns_obj hnF
  obtain ⟨og, nmg, qng, hog, hcg, hdg, hsg⟩ := id hgen
  -- the generator's own: its frame (anything), itself (frozen)
  have oF := S1.offT hF0
  have oa := S1.offT hag0
  have S3 : Ok x env ρ G1 ((F, .any) :: T) h2 := S2.addAny oF.1 oF.2 hoF
  have S3' : Ok x env ρ G1 ((ag, .any) :: (F, .any) :: T) h2 := S3.addAny (fun p hp => by
    rcases List.mem_cons.mp hp with rfl | hp
    · exact hagF.symm
    · exact oa.1 p hp) oa.2 hog
  have st4 : St (G1.add ag og) ((F, .any) :: T) h2 := (S3'.st.say (sp' := .obj og) hog rfl).freeze
  have S4 : Ok x env ρ (G1.add ag og) ((F, .any) :: T) h2 := S3.to (Fz.le_add ..) st4
  have l4 : Fz.le G (G1.add ag og) := l1.tr (Fz.le_add ..)
  have ga4 : (G1.add ag og) a oa' := (Fz.le_add G1 ag og).of _ _ ga
  have gg4 : (G1.add ag og) ag og := .inr ⟨rfl, rfl⟩
  generalize G1.add ag og = G4 at *
  have hxF : x.h₀.get? F = none := by
    cases e : x.h₀.get? F with
    | none => rfl
    | some o => have := S1.toOkB.keep e; rw [hF0] at this; cases this
  have hsz1 : x.h₀.objs.size ≤ F := Nat.le_trans (by
    obtain ⟨m, hm⟩ := S1.fr
    exact Nat.le_trans hx.above (Nat.le_of_lt (S1.st.lt hm))) hFs
  have haF : a ≠ F := fun q => by
    have := S1.st.keep _ _ ga
    rw [q, hF0] at this; cases this
  refine wpAny_pyIter_gen hgen ?_
  have hgs : (s.gens.push (.fresh (C F)))[s.gens.size]? = some (.fresh (C F)) := by simp
  refine codeAny_forLoop (fun k s' => FGInv w x env X C Jn G4 F a us.toArray out row J N s k s') ?_ N
    (.mk (i := 0) (I := h2.objs.size) hgs (hbare.push rfl) (hJb 0 ρ h0) rfl (Fz.rf _) S4 (fun p hp => List.mem_cons_of_mem _ (hX p hp)) h0 (List.mem_cons_self ..) (.inl ⟨rfl, rfl, hnF, rfl⟩)) (fun _ => rfl)
  intro k s' inv
  cases inv with | @mk h' tk gs i ρ' G' T' gst I hgst hbs hiN hki hG S' hX' hJ hFT hrd =>
  subst hki
  have hbase : ∀ b o, x.h₀.get? b = some o → h'.get? b = some o := fun b o e => S'.toOkB.keep e
  have hlim : h'.NoLimit := let ⟨mc, p, q⟩ := hx.Tp.nolimit; ⟨mc, p.keeps hbase, q⟩
  have hgen' : h'.IsGen ag s.gens.size := ⟨og, nmg, qng, S'.st.keep _ _ (hG.of _ _ gg4), hcg, hdg, hsg⟩
  have hli : ∀ {h'' : Heap} {G'' : Fz} {T'' : Ow}, Fz.le G4 G'' → St G'' T'' h'' → h''.IsList a us.toArray := fun l S => ⟨_, S.keep _ _ (l.of _ _ ga4), ca, _, ea⟩
  refine pyNext_genB (n := N - i) (P := fun n s₀ s₁ => row[J]? ≠ some 0 ∧ n + J = N ∧ Rel F I s₀ s₁) (Y := Yg x F I a us.toArray out N row J) x.hh hlim (by rw [eA]; exact hroom) hgen' hgst ?_ ?_ ?_
  · rcases hrd with ⟨rfl, rfl, hns, hI⟩ | ⟨hi, hIT, hIF, oF', oI', eF, eI, hkk⟩
    · exact ⟨rfl, hS x.A.in1 _ F I a us.toArray _ _ x.hh hsz1 haF gr (fun hne n s₀ s hn r => ⟨rfl, hne, hn, r⟩) hI.symm hns rfl (hli hG S'.st) hbase⟩
    · exact hkk _ eF eI hbase (hli hG S'.st)
  · rintro v s₁ gs' hb ⟨⟨t, rfl⟩, hal, r, oF', oI', eF, eI, hcont⟩
    obtain ⟨h₁, g₁, d₁, tk₁, os₁⟩ := s₁
    obtain ⟨rg, rd, ro, rk⟩ := r
    dsimp only at rg rd ro rk eF eI
    cases rg; cases rd; cases ro
    have hIx : x.h₀.get? I = none ∧ I ≠ F ∧ (∀ o, ¬ G' I o) ∧ ∃ T₂, Ok x env ρ' G' T₂ h₁ ∧ (F, .any) ∈ T₂ ∧ (I, .any) ∈ T₂ ∧ XIn X T₂ := by
      rcases hrd with ⟨rfl, rfl, hns, hI⟩ | ⟨hi, hIT, hIF, oF'', oI'', eF0, eI0, hkk⟩
      · have hI0 : h'.get? I = none := by rw [hI]; exact none_size h'
        have off := S'.offT hI0
        have hIF : I ≠ F := fun q => by
          have : @LT.lt Nat _ F h'.objs.size := hns.lt
          have q' : @Eq Nat I F := q
          have hI' : @Eq Nat I h'.objs.size := hI
          omega
        have hI00 : x.h₀.get? I = none := by
          cases e : x.h₀.get? I with
          | none => rfl
          | some o => have := hbase _ _ e; rw [hI0] at this; cases this
        refine ⟨hI00, hIF, off.2, (I, .any) :: T', ?_, List.mem_cons_of_mem _ hFT, List.mem_cons_self .., fun p hp => List.mem_cons_of_mem _ (hX' p hp)⟩
        refine Ok.addAny (S'.moved (fun b => b = F ∨ b = I) (fun a sp hm d => ?_) (fun a o g d => ?_) (fun b o hb e => rk b o (fun q => hb (.inl q)) (fun q => hb (.inr q)) e)) off.1 off.2 eI
        · rcases d with rfl | rfl
          · exact ⟨S'.st.one hm hFT, _, eF⟩
          · exact absurd rfl (off.1 _ hm)
        · rcases d with rfl | rfl
          · exact S'.st.off _ hFT _ g
          · exact off.2 _ g
      · have hI00 : x.h₀.get? I = none := by
          cases e : x.h₀.get? I with
          | none => rfl
          | some o =>
            rcases S'.base _ _ e with g | m
            · exact absurd g (S'.st.off _ hIT _)
            · cases S'.st.one hIT m
        refine ⟨hI00, hIF, fun o g => S'.st.off _ hIT _ g, T', ?_, hFT, hIT, hX'⟩
        refine S'.moved (fun b => b = F ∨ b = I) (fun a sp hm d => ?_) (fun a o g d => ?_) (fun b o hb e => rk b o (fun q => hb (.inl q)) (fun q => hb (.inr q)) e)
        · rcases d with rfl | rfl
          · exact ⟨S'.st.one hm hFT, _, eF⟩
          · exact ⟨S'.st.one hm hIT, _, eI⟩
        · rcases d with rfl | rfl
          · exact S'.st.off _ hFT _ g
          · exact S'.st.off _ hIT _ g
    obtain ⟨hIx0, hIF, hIG, T₂, S₂, hF₂, hI₂, hX₂⟩ := hIx
    have S₃ := S₂.tighten hF₂ (fun _ _ _ e => e) eF
    have hI₃ : (I, .any) ∈ setT F (.fix oF') T₂ := setT_mem hI₂ hIF
    have S₄ := S₃.tighten hI₃ (fun _ _ _ e => e) eI
    have hF₄ : (F, .fix oF') ∈ setT I (.fix oI') (setT F (.fix oF') T₂) := setT_mem (setT_self hF₂) hIF.symm
    have hX₄ : XIn ((F, oF') :: (I, oI') :: X) (setT I (.fix oI') (setT F (.fix oF') T₂)) := fun p hp => by
      rcases List.mem_cons.mp hp with rfl | hp
      · exact hF₄
      · rcases List.mem_cons.mp hp with rfl | hp
        · exact setT_self hI₃
        · have z := hX₂ p hp
          exact setT_mem (setT_mem z fun q => by dsimp only at q; rw [q] at z; cases S₂.st.one hF₂ z) fun q => by dsimp only at q; rw [q] at z; cases S₂.st.one hI₂ z
    refine wpAny_assign_Name (storeV S₄.toOkB S₄.eg (S₄.slot hk) fun T₅ h₅ tk₅ P₅ S₅ => ?_)
    have S₆ := S₄.put P₅ S₅ (.int (out (N - 1 - (N - i - 1))) t) rfl
    have hX₆ := hX₄.put P₅ S₄.st
    rw [show N - 1 - (N - i - 1) = i by omega] at S₆
    have hb1 : AllBare (({ s with heap := h', toks := tk, gens := gs } : Shared).setGen s.gens.size .running).gens := AllBare.setG (s := { s with heap := h', toks := tk, gens := gs }) hbs rfl
    have hb2 : AllBare ((({ s with heap := h', toks := tk, gens := gs } : Shared).setGen s.gens.size .running).setGen s.gens.size gs').gens := AllBare.setG hb1 hb
    have hg2 : ((({ s with heap := h', toks := tk, gens := gs } : Shared).setGen s.gens.size .running).setGen s.gens.size gs').gens[s.gens.size]? = some gs' := setGen_self (setGen_self (s := { s with heap := h', toks := tk, gens := gs }) hgst)
    obtain ⟨gs₂, hgg⟩ : ∃ g, g = ((({ s with heap := h', toks := tk, gens := gs } : Shared).setGen s.gens.size .running).setGen s.gens.size gs').gens := ⟨_, rfl⟩
    rw [← hgg] at hb2 hg2
    refine wpAny_mono (turn i ρ' hJ (by rwa [show N - 1 - (N - i - 1) = i by omega] at hal) ((F, oF') :: (I, oI') :: X) G' T₅ _ _ S₆ hX₆) (fun fl s₇ p => ?_) fun _ _ e => e
    obtain ⟨h₇, tk₇, rfl, p⟩ := p
    have back : ∀ G₇ T₇ ρ₇, Fz.le G' G₇ → Ok x env ρ₇ G₇ T₇ h₇ → XIn ((F, oF') :: (I, oI') :: X) T₇ → Jn (i + 1) ρ₇ → ∃ m, m < N - i ∧ FGInv w x env X C Jn G4 F a us.toArray out row J N s m ({ s with heap := h₇, toks := tk₇, gens := gs₂ } : Shared) := by
      intro G₇ T₇ ρ₇ l₇ S₇ X₇ J₇
      have hiN' := hJb _ _ J₇
      have mF := X₇ (F, oF') (List.mem_cons_self ..)
      have mI := X₇ (I, oI') (List.mem_cons_of_mem _ (List.mem_cons_self ..))
      obtain ⟨_, e7F, q⟩ := S₇.st.own _ mF
      cases q
      obtain ⟨_, e7I, q⟩ := S₇.st.own _ mI
      cases q
      have S₈ := S₇.loosen mF hxF
      have mI₈ : (I, .fix oI') ∈ setT F .any T₇ := setT_mem mI hIF
      have S₉ := S₈.loosen mI₈ hIx0
      obtain ⟨m, hm⟩ : ∃ m, N - i = m + 1 := ⟨N - (i + 1), by omega⟩
      rw [hm] at hcont
      refine ⟨N - (i + 1), by omega, .mk (i := i + 1) (I := I) hg2 hb2 hiN' rfl (hG.tr l₇) S₉ (fun p hp => ?_) J₇ (setT_mem (setT_self mF) hIF.symm) (.inr ⟨Nat.succ_pos _, setT_self mI₈, hIF, oF', oI', e7F, e7I, fun s'' a1 a2 a3 a4 => ?_⟩)⟩
      · have z := X₇ p (List.mem_cons_of_mem _ (List.mem_cons_of_mem _ hp))
        have z' := hX₂ p hp
        exact setT_mem (setT_mem z fun q => by dsimp only at q; rw [q] at z'; cases S₂.st.one hF₂ z') fun q => by dsimp only at q; rw [q] at z'; cases S₂.st.one hI₂ z'
      · have := hcont (by omega) s'' a1 a2 a3 a4
        rw [show N - (i + 1) = m by omega]
        exact this
    cases fl with
    | next =>
      obtain ⟨G₇, T₇, ρ₇, l₇, S₇, X₇, J₇⟩ := p
      subst hgg
      exact back G₇ T₇ ρ₇ l₇ S₇ X₇ J₇
    | cont =>
      obtain ⟨G₇, T₇, ρ₇, l₇, S₇, X₇, J₇⟩ := p
      subst hgg
      exact back G₇ T₇ ρ₇ l₇ S₇ X₇ J₇
    | brk =>
      obtain ⟨G₇, T₇, ρ₇, l₇, S₇, X₇, b⟩ := p
      subst hgg
      exact (HB ρ₇ b).step S₇ (l4.tr (hG.tr l₇)) (fun p hp => X₇ p (List.mem_cons_of_mem _ (List.mem_cons_of_mem _ hp))) hb2
    | ret v => obtain ⟨_, _, _, _, _, _, _, q⟩ := p; cases q
  · rintro s₁ ⟨hne, hnJ, r⟩ h'' hk''
    obtain ⟨h₁, g₁, d₁, tk₁, os₁⟩ := s₁
    obtain ⟨rg, rd, ro, rk⟩ := r
    dsimp only at rg rd ro rk hk''
    cases rg; cases rd; cases ro
    obtain rfl : i = J := by omega
    have hb1 : AllBare (({ s with heap := h', toks := tk, gens := gs } : Shared).setGen s.gens.size .running).gens := AllBare.setG (s := { s with heap := h', toks := tk, gens := gs }) hbs rfl
    have hb2 : AllBare ((({ s with heap := h', toks := tk, gens := gs } : Shared).setGen s.gens.size .running).setGen s.gens.size .finished).gens := AllBare.setG hb1 rfl
    obtain ⟨T₁, S₁, m₁, o₁, k₁, _⟩ := S'.goneT hFT (h' := h') (fun _ _ _ e => e)
    have hI : ∃ T₂, Ok x env ρ' G' T₂ h' ∧ (∀ a sp, (a, sp) ∈ T₁ → sp ≠ .any → (a, sp) ∈ T₂) ∧ (∀ p ∈ T₂, p.1 ≠ I) ∧ (∀ p ∈ T₂, p.1 ≠ F) ∧ ∀ o, ¬ G' I o := by
      rcases hrd with ⟨_, _, hns, hI⟩ | ⟨hi, hIT, hIF, _⟩
      · have off := S₁.offT (show h'.get? I = none by rw [hI]; exact none_size h')
        exact ⟨T₁, S₁, fun a sp hm _ => hm, off.1, o₁, off.2⟩
      · have hIT₁ := k₁ _ hIT hIF
        obtain ⟨T₂, S₂, m₂, o₂, k₂, u₂⟩ := S₁.goneT hIT₁ (h' := h') (fun _ _ _ e => e)
        exact ⟨T₂, S₂, m₂, o₂, fun p hp => o₁ p (u₂ p hp), fun o g => S'.st.off _ hIT _ g⟩
    obtain ⟨T₂, S₂, m₂, o₂, o₂', g₂⟩ := hI
    have S₃ : Ok x env ρ' G' T₂ h'' := S₂.moved (fun b => b = F ∨ b = I) (fun a sp hm d => by
      rcases d with rfl | rfl
      · exact absurd rfl (o₂' _ hm)
      · exact absurd rfl (o₂ _ hm)) (fun a o g d => by
      rcases d with rfl | rfl
      · exact S'.st.off _ hFT _ g
      · exact g₂ _ g) (fun b o hb e => hk'' b o (rk b o (fun q => hb (.inl q)) (fun q => hb (.inr q)) e))
    refine wpAny_execs_nil ?_
    exact (HD ρ' (done hne ρ' hJ)).step S₃ (l4.tr hG) (fun p hp => m₂ _ _ (m₁ _ _ (hX' p hp) (fun e => nomatch e)) (fun e => nomatch e)) hb2
end
end Mine
end
section
open PySem PySem.W PyProof.Rows PySem.Calls PySem.Spec
set_option Elab.async false
set_option maxRecDepth 100000
namespace Mine
open LCg
theorem primeG9 (w : World) : (kk.heap_1 w.params = kk.heap_1 w.params) ∧ PySem.Challenge.rw_wn0104_01 = PySem.Challenge.rw_wn0104_01 := by
  k_fill
  exact ⟨rfl, rfl⟩
section
variable {w : World} {x : Cx}
theorem gen_pack {f : Addr} {name qual : Str} {params : Arguments} {body : List Stmt} {scope : Scope} {dV kV doc pm cdv ct oc : Value} {an od : Option Addr} {osl : Array (Option Value)}
    (hx : x.Ok w) (ho : (kk.heap_1 w.params).lookup f = some ⟨oc, od, .func (fnOf name qual params body scope dV kV doc pm an cdv ct), osl⟩) (hcd : codeIn (kk.heap_1 w.params) cdv qual = true) (hroom : x.dp < recursionLimit)
    (hbind : ∀ (s : Shared) (v : Value), BindsTo s (fnOf name qual params body scope dV kV doc pm an cdv ct) ⟨[v], []⟩ [(nG, v)]) (hloc : scope.names.lookup nG = some .local) (hcell : ∀ y ∈ scope.names, y.2 ≠ .cell)
    (hco : scope.isCoroutine = false) (hgen : scope.isGenerator = true) (hk : scope.kind = .function)
    (hseg : ∀ row out J N, J < N → SegGen w x (fun F => .func body (genEnvOf qual scope F f cdv)) row out J N) : ∃ C, MakesGen w x f C ∧ ∀ row out J N, J < N → SegGen w x C row out J N :=
  ⟨fun F => .func body (genEnvOf qual scope F f cdv), fun G T s Q E v S k => gen_call (binds := [(nG, v)]) hx S ho hcd hroom (hbind s v) (fun y hy => by cases List.mem_singleton.mp hy; exact hloc) hcell hco hgen hk k, hseg⟩
theorem gen28 (hx : x.Ok w) (hroom : x.dp < recursionLimit) : ∃ C, MakesGen w x 28 C ∧ ∀ row out J N, J < N → SegGen w x C row out J N := by
  refine gen_pack hx (by k_is) (by k_is) hroom (fun _ _ => BindsTo.of_eq rfl) rfl (by decide) rfl rfl rfl ?_
  intro row out J N hJN A R F I a vs s m hA hF haF gr hR hI hn hm hl hb
  exact genSeg hx hF ⟨⟨rfl, rfl, rfl⟩, rfl, rfl, rfl, rfl, rfl, rfl⟩ rfl haF gr hJN hR hA hI hn hm hl hb
end
end Mine
end
section
open PySem PySem.W PyProof.Rows PySem.Calls PySem.Spec
set_option Elab.async false
set_option maxRecDepth 100000
namespace Mine
open LCg
section
variable {w : World} {x : Cx}
theorem call_defG {f : Addr} {name qual : Str} {params : Arguments} {body : List Stmt} {scope : Scope} {dV kV doc pm cdv ct oc : Value} {an od : Option Addr} {osl : Array (Option Value)} {avs : List AV} {ns : List Str} {av : AV} {ρ₀ : Rho}
    (hx : x.Ok w) (ho : (kk.heap_1 w.params).lookup f = some ⟨oc, od, .func (fnOf name qual params body scope dV kV doc pm an cdv ct), osl⟩) (hcd : codeIn (kk.heap_1 w.params) cdv qual = true) (hroom : x.dp < recursionLimit)
    (hbind : ∀ (vs : List Value) (s : Shared), vs.length = avs.length → BindsTo s (fnOf name qual params body scope dV kV doc pm an cdv ct) ⟨vs, []⟩ (ns.zip vs))
    (hkind : ∀ vs : List Value, vs.length = avs.length → ((ns.zip vs).all fun y => scope.names.lookup y.1 == some .local || scope.names.lookup y.1 == some .cell) = true) (hnd : ((cellsFrom 0 scope.names []).map (·.1)).Nodup)
    (hρ : ∀ (L' : Addr) (vs : List Value) (G : Fz), VRs G vs avs → ∀ p ∈ ρ₀, p.2.plain = true ∧ ∃ v, Params (envOfC qual scope L' f cdv) (ns.zip vs) p.1 v ∧ VR G v p.2)
    (hbody : ∀ x' : Cx, x'.Ok w → x'.dp = x.dp + 1 → x'.un = x.un + 3 → RunG w x' (envOfC qual scope x'.L f cdv) ρ₀ body (fun a => a = av))
    (hco : scope.isCoroutine = false) (hgen : scope.isGenerator = false) (hk : scope.kind = .function) : CallVG w x (.ref f) avs av := fun G T s Q E vs S r hbare k => by
  have eA : x.A = x.A0 := by rw [Cx.A, hx.hA]
  rw [eA]
  obtain ⟨m, hm, F, N⟩ := S.fn hx.above
  refine wpAny_call ?_
  refine code_defC (K := kk.heap_1 w.params) (p := vw) (loose := lo) (mean := x.mean) (mg := x.mg) (mb := x.mb) (env := envX x.cn x.cs x.L x.a x.ccd x.cl) (outer := x.outer) hx.B F hx.K N hx.Tp rfl rfl hx.hk ho hcd hroom (hbind vs s r.length) (hkind vs r.length) hnd ?_ hco hgen hk
  intro g L' h₁ tk cells FG F' N' Y B' X' T' l
  have hcs := cells_adr Y
  have hLg : @LT.lt Nat _ x.L g.objs.size := FG.ns.lt
  have hgL : @LE.le Nat _ g.objs.size L' := F'.above
  -- what stood lies below the new frame
  have below : ∀ a o, s.heap.get? a = some o → a < L' := fun a o e => by
    by_cases q : a = x.L
    · rw [q]; exact Nat.lt_of_lt_of_le hLg hgL
    · cases q0 : x.h₀.get? a with
      | some o' => exact Nat.lt_of_lt_of_le (Heap.lt_size (FG.keep _ _ q0)) hgL
      | none => exact l _ (mem_allNews.mpr ⟨e, q, q0⟩)
  have kept : ∀ a o, a ≠ x.L → s.heap.get? a = some o → h₁.get? a = some o := fun a o q e => by
    cases q0 : x.h₀.get? a with
    | some o' =>
      have := S.keep q0
      rw [e] at this; cases this
      exact F'.keep _ _ (FG.keep _ _ q0)
    | none => exact (N' _ (List.mem_append_right _ (mem_allNews.mpr ⟨e, q, q0⟩))).1
  have hcl : ∀ p ∈ cells, L' + 1 ≤ p.1 := fun p hp => by
    obtain ⟨n, hn, _⟩ := cells_of Y hp
    rcases cellsFrom_of _ _ _ _ hn with h | h
    · cases h
    · exact ownAdr_ge _ _ _ h
  have hT : ∀ p ∈ T, p.1 < L' := fun p hp => by obtain ⟨o, e, _⟩ := S.st.own p hp; exact below _ _ e
  have inT : ∀ {a : Addr}, a ∈ T.map (·.1) → a < L' := fun h => by obtain ⟨p, hp, rfl⟩ := List.mem_map.mp h; exact hT p hp
  have h₁T : ∀ p ∈ T, ∃ o, h₁.get? p.1 = some o := fun p hp => by
    by_cases q : p.1 = x.L
    · obtain ⟨o, e, _⟩ := ns_obj FG.ns
      rw [q]; exact ⟨o, F'.keep _ _ e⟩
    · obtain ⟨o, e, _⟩ := S.st.own p hp
      exact ⟨o, kept _ _ q e⟩
  let G' : Fz := fun b o => b ∉ T.map (·.1) ∧ (s.heap.get? b = some o ∨ g.get? b = some o)
  have lG : Fz.le G G' := ⟨fun a o gg => ⟨fun hm => by obtain ⟨p, hp, rfl⟩ := List.mem_map.mp hm; exact S.st.off p hp o gg, .inl (S.st.keep _ _ gg)⟩⟩
  have keepG : ∀ a o, G' a o → h₁.get? a = some o := fun a o gg => by
    rcases gg.2 with e | e
    · exact kept a o (fun q => gg.1 (q ▸ List.mem_map.mpr ⟨_, hm, rfl⟩)) e
    · exact F'.keep _ _ e
  let T₁ : Ow := (L', .ns (bindL (envOfC qual scope L' f cdv).kindOf (ns.zip vs) fun _ => none)) :: (cellSp cells ++ fixT T h₁)
  have hcf : (cellSp cells).map (·.1) = cells.map (·.1) := by unfold cellSp; rw [List.map_map]; rfl
  have S₁ : St G' T₁ h₁ := by
    refine ⟨keepG, fun p hp => ?_, fun p hp o gg => ?_, ?_⟩
    · rcases List.mem_cons.mp hp with rfl | hp
      · obtain ⟨o, e, q⟩ := ns_obj F'.ns; exact ⟨o, e, q⟩
      · rcases List.mem_append.mp hp with hp | hp
        · obtain ⟨q, hq, rfl⟩ := List.mem_map.mp hp
          refine ⟨q.2, (N' q (List.mem_append_left _ hq)).1, ?_⟩
          obtain ⟨n, _, d⟩ := cells_of Y hq
          simp only [d]
          exact d
        · obtain ⟨q, hq, rfl⟩ := List.mem_map.mp hp
          obtain ⟨p, hp', rfl⟩ := List.mem_map.mp hq
          obtain ⟨o, e⟩ := h₁T p hp'
          exact ⟨o, e, by simp [e, Sp.ok]⟩
    · have out : ∀ {a : Addr}, L' ≤ a → G' a o → a = L' ∨ g.get? a ≠ none := fun {a} ha gg => by
        rcases gg.2 with e | e
        · exact absurd (below _ _ e) (Nat.not_lt.mpr ha)
        · exact .inr (by rw [e]; exact fun z => nomatch z)
      rcases List.mem_cons.mp hp with rfl | hp
      · rcases gg.2 with e | e
        · exact Nat.lt_irrefl _ (below _ _ e)
        · exact absurd (Heap.lt_size e) (Nat.not_lt.mpr hgL)
      · rcases List.mem_append.mp hp with hp | hp
        · obtain ⟨q, hq, rfl⟩ := List.mem_map.mp hp
          have z := N' q (List.mem_append_left _ hq)
          have zl := hcl q hq
          rcases gg.2 with e | e
          · exact absurd (below _ _ e) (Nat.not_lt.mpr (Nat.le_of_succ_le zl))
          · have z2 := z.2.2; dsimp only at e; rw [z2] at e; cases e
        · refine gg.1 ?_
          rw [← fixT_fst T h₁]
          exact List.mem_map.mpr ⟨p, hp, rfl⟩
    · show ((L', _) :: (cellSp cells ++ fixT T h₁) : Ow).map (·.1) |>.Nodup
      rw [List.map_cons, List.map_append, hcf, fixT_fst, List.nodup_cons, List.nodup_append]
      refine ⟨fun h => ?_, ?_, S.st.nd, fun a ha b hb e => ?_⟩
      · rcases List.mem_append.mp h with h | h
        · obtain ⟨q, hq, e⟩ := List.mem_map.mp h
          have := hcl q hq
          rw [e] at this
          exact Nat.not_succ_le_self _ this
        · exact Nat.lt_irrefl _ (inT h)
      · rw [hcs]; exact cellsFrom_nd _ _ _ List.nodup_nil fun _ h => nomatch h
      · subst e
        obtain ⟨q, hq, rfl⟩ := List.mem_map.mp ha
        exact absurd (inT hb) (Nat.not_lt.mpr (Nat.le_of_succ_le (hcl q hq)))
  let x' : Cx := { dp := x.dp + 1, un := x.un + 3, gd := x.gd, cn := qual, cs := scope, L := L', a := f, ccd := cdv, cl := cellsFrom (L' + 1) scope.names [], outer := envX x.cn x.cs x.L x.a x.ccd x.cl :: x.outer, A₀ := x.A0, base := x.base, h₀ := g, mean := x.mean, mg := x.mg, mb := x.mb }
  have hx' : x'.Ok w := ⟨B', X', T', hk, F'.above, rfl⟩
  have base : ∀ b o, g.get? b = some o → G' b o ∨ (b, .fix o) ∈ T₁ := fun b o e => by
    by_cases q : b ∈ T.map (·.1)
    · obtain ⟨p, hp, rfl⟩ := List.mem_map.mp q
      exact .inr (List.mem_cons_of_mem _ (List.mem_append_right _ (fixT_mem (sp := p.2) hp (F'.keep _ _ e))))
    · exact .inl ⟨q, .inr e⟩
  have Sok : Ok x' (envOfC qual scope L' f cdv) ρ₀ G' T₁ h₁ := by
    refine { st := S₁, base := base, fr := ⟨_, List.mem_cons_self ..⟩, eg := ⟨hk, rfl, rfl⟩, ap := cellsFrom_nd _ _ _ List.nodup_nil fun _ h => (nomatch h), ce := fun p hp => ?_, lo := ⟨_, List.mem_cons_self ..⟩, rho := fun n a e => ?_ }
    · have : p.2 ∈ cells.map (·.1) := by rw [hcs]; exact List.mem_map.mpr ⟨p, hp, rfl⟩
      obtain ⟨q, hq, e⟩ := List.mem_map.mp this
      obtain ⟨n, _, d⟩ := cells_of Y hq
      exact ⟨_, List.mem_cons_of_mem _ (List.mem_append_left _ (e ▸ cellSp_mem (c := q.1) (o := q.2) hq d))⟩
    · obtain ⟨hp, v, P, V⟩ := hρ L' vs G' (r.mono lG) _ (mem_of_lookup e)
      dsimp only at hp P V
      have R : Reads (envOfC qual scope L' f cdv) T₁ n v := by
        rcases P with ⟨k, e⟩ | ⟨k, hce, e⟩
        · exact .inl ⟨k, _, List.mem_cons_self .., e⟩
        · obtain ⟨c, hc⟩ := Option.isSome_iff_exists.mp hce
          obtain ⟨o, ho', hd'⟩ := cells_at Y hc
          rw [e] at hd'
          exact .inr ⟨.inl k, c, hc, List.mem_cons_of_mem _ (List.mem_append_left _ (cellSp_mem ho' hd'))⟩
      have z : ∃ u, Reads (envOfC qual scope L' f cdv) T₁ n u ∧ VR G' u a := ⟨v, R, V⟩
      cases a <;> first | exact z | cases hp
  have hX : XIn (heldX T h₁) T₁ := fun p hp => List.mem_cons_of_mem _ (List.mem_append_right _ (List.mem_map.mpr ⟨p, hp, rfl⟩))
  refine wpAny_mono (hbody x' hx' rfl rfl (heldX T h₁) G' T₁ { s with heap := h₁, toks := tk } _ Sok hX hbare) (fun fl s' p => ?_) fun _ _ e => e
  obtain ⟨h₃, tk₃, gs₃, v, G₃, T₃, av₃, rfl, rfl, hgs₃, l₃, S₃, X₃, r₃, rfl⟩ := p
  obtain ⟨m₃, hm₃, F₃, N₃⟩ := S₃.fn (x := x') F'.above
  refine ⟨L', m₃, _, F₃, N₃, fun F₄ N₄ => ?_⟩
  refine k v h₃ tk₃ gs₃ G₃ hgs₃ (lG.tr l₃) ⟨⟨S₃.st.keep, fun p hp => ?_, fun p hp o gg => ?_, S.st.nd⟩, fun b o e => (S.base b o e).imp ((lG.tr l₃).of _ _) id, S.fr⟩ r₃
  · by_cases q : p.1 = x.L
    · obtain ⟨a, sp⟩ := p
      dsimp only at q
      subst q
      have := S.st.one hp hm
      subst this
      obtain ⟨o, ho, q⟩ := ns_obj F₄.ns
      exact ⟨o, ho, q⟩
    · obtain ⟨o, e, q'⟩ := S.st.own p hp
      obtain ⟨o', e', q''⟩ := S₃.st.own _ (X₃ _ (heldX_mem (sp := p.2) hp (kept _ _ q e)))
      cases q''
      exact ⟨o, e', q'⟩
  · obtain ⟨o', e'⟩ := h₁T p hp
    exact S₃.st.off _ (X₃ _ (heldX_mem (sp := p.2) hp e')) o gg
end
end Mine
end
section
open PySem PySem.W PyProof.Rows PySem.Calls PySem.Spec
set_option Elab.async false
set_option maxRecDepth 100000
namespace Mine
open LCg
theorem primeA6 (w : World) : (kk.heap_1 w.params = kk.heap_1 w.params) ∧ PySem.Challenge.rw_wn0104_01 = PySem.Challenge.rw_wn0104_01 := by
  k_fill
  exact ⟨rfl, rfl⟩
theorem k28 (w : World) : ∃ o fd, (kk.heap_1 w.params).lookup 28 = some o ∧ o.data = .func fd := ⟨_, _, by k_is, rfl⟩
theorem gn_grouping (w : World) : GN w (Str.ofString "_grouping_intervals") (.ref 28) := .inl (by k_is)
noncomputable def sumT (out : Nat → Int) : Nat → Int
  | 0 => 0
  | i + 1 => sumT out i + out i
noncomputable def marksL (out : Nat → Int) (i : Nat) : List Int := (List.range i).map fun k => sumT out (k + 1)
theorem sumT_ge (out : Nat → Int) : ∀ n, (∀ k < n, 1 ≤ out k) → (n : Int) ≤ sumT out n
  | 0, _ => Int.le_refl _
  | n + 1, h => by
    have h1 := sumT_ge out n fun k hk => h k (by omega)
    have h2 := h n (by omega)
    show ((n + 1 : Nat) : Int) ≤ sumT out n + out n
    omega
theorem marksL_succ (out : Nat → Int) (i : Nat) : marksL out (i + 1) = marksL out i ++ [sumT out (i + 1)] := by
  rw [marksL, List.range_succ, List.map_append]; rfl
section
variable {w : World} {x : Cx}
set_option maxHeartbeats 1000000
theorem marks_v (hx : x.Ok w) (hr : x.dp + 4 < recursionLimit) (row : List Int) (out : Nat → Int) (J N : Nat) (hJN : J < N) (hN : 6 ≤ N) (hN2 : N ≤ 100) (hgr : ∀ vs, IntsAre vs row → GR vs.toArray row out J)
    (hpos : ∀ i, (i < J ∨ row[J]? = some 0) → 1 ≤ out i) (M : List Int)
    (hM1 : ∀ i, (i < J ∨ row[J]? = some 0) → (∀ k ≤ i, sumT out k ≤ 4) → 4 < sumT out (i + 1) → marksL out (i + 1) = M) (hM2 : row[J]? ≠ some 0 → (∀ k ≤ J, sumT out k ≤ 4) → marksL out J = M) :
    CallVG w x (.ref 105) [.list (iL row)] (.list (iL M)) := by
  refine call_defG (ns := [Str.ofString "row"]) (ρ₀ := [(Str.ofString "row", .list (iL row))]) hx (by k_is) (by k_is) (by omega) ?_ ?_ (by decide +kernel) ?_ ?_ rfl rfl rfl
  · intro vs s h
    obtain ⟨v, rfl⟩ := List.length_eq_one_iff.mp h
    exact BindsTo.of_eq rfl
  · intro vs h
    obtain ⟨v, rfl⟩ := List.length_eq_one_iff.mp h
    rfl
  · intro L' vs G r
    cases r with | cons r1 r =>
    cases r
    exact List.forall_mem_cons.mpr ⟨⟨rfl, _, .inl ⟨rfl, rfl⟩, r1⟩, List.forall_mem_nil _⟩
  · intro x' hx' hdp hun
    refine RunG_step (B := fun ρ' => ρ' = _) (Run_new (.inl rfl) rfl (Run_nil rfl)) ?_
    rintro _ rfl
    refine RunG_step (B := fun ρ' => ρ' = _) (Run_assign EV_int (.inl rfl) rfl (Run_nil rfl)) ?_
    rintro _ rfl
    obtain ⟨C, hM, hS⟩ := gen28 hx' (by omega)
    refine RunG_forGen (row := row) (out := out) (J := J) (N := N) (fun i ρ' => i < N ∧ (∀ k ≤ i, sumT out k ≤ 4) ∧ SubR [(Str.ofString "mark", .int (sumT out i)), (Str.ofString "marks", .own (iL (marksL out i)))] ρ')
      (fun ρ' => SubR [(Str.ofString "marks", .own (iL M))] ρ') (fun ρ' => SubR [(Str.ofString "marks", .own (iL M))] ρ') hx' (by omega) hM (hS row out J N hJN) (EX_glob hx' (gn_grouping w) rfl) (EV_name rfl) (k28 w).choose_spec.choose_spec.1 (k28 w).choose_spec.choose_spec.2
      hgr (.inl rfl) ⟨by omega, fun k hk => by rw [Nat.le_zero.mp hk]; exact (by decide : (0 : Int) ≤ 4), rfl, rfl, trivial⟩ (fun i ρ' h => h.1) ?_ ?_ ?_ ?_
    · intro i ρ' hJ hal
      refine Run_sub (SubR_in hJ.2.2 rfl) ?_
      have hsz : (marksL out i).length ≤ 100 := by
        rw [marksL, List.length_map, List.length_range]; omega
      refine Run_augI rfl (.inl rfl) (EV_name rfl) ?_
      refine Run_append (xs := iL (marksL out i)) rfl rfl (EV_name rfl) (by rw [iL, List.length_map]; omega) ?_ _ rfl
      have e : iL (marksL out i) ++ [AV.int (sumT out i + out i)] = iL (marksL out (i + 1)) := by
        rw [marksL_succ, iL, iL, List.map_append]; rfl
      rw [e]
      refine Run_if (EB_cmp (EV_name rfl) EV_int CV_gtI) (fun hb => ?_) fun hb => Run_nil ?_
      · refine Run_brk ?_
        have := hM1 i hal hJ.2.1 (of_decide_eq_true hb)
        rw [this]
        exact ⟨rfl, trivial⟩
      · have hb := of_decide_eq_false hb
        refine Run_nil ⟨?_, fun k hk => ?_, rfl, rfl, trivial⟩
        · have := sumT_ge out (i + 1) fun k hk => hpos k (hal.imp (fun h => by omega) id)
          have h4 : sumT out (i + 1) ≤ 4 := Int.not_lt.mp hb
          omega
        · rcases Nat.lt_or_ge k (i + 1) with h | h
          · exact hJ.2.1 k (by omega)
          · obtain rfl : k = i + 1 := by omega
            exact Int.not_lt.mp hb
    · intro hne ρ' hJ
      have := hM2 hne hJ.2.1
      rw [this] at hJ
      exact ⟨hJ.2.2.2.1, trivial⟩
    · intro ρ' h
      refine RunG_sub h (RunG_last (Run_freeze (Str.ofString "marks") rfl rfl (Run_ret (EV_name rfl) rfl)))
    · intro ρ' h
      refine RunG_sub h (RunG_last (Run_freeze (Str.ofString "marks") rfl rfl (Run_ret (EV_name rfl) rfl)))
end
end Mine
end
section
open PySem PySem.W PyProof.Rows PySem.Calls PySem.Spec
set_option Elab.async false
set_option maxRecDepth 100000
namespace Mine
open LCg
section
variable {w : World} {x : Cx} {env : Env} {ρ : Rho}
theorem EV_addReplace {pre y z nm : Str} {n : Str} {k k1 k2 : Nat} {p p1 p2 p3 ap cp pos : Pos} (hr : ρ.lookup n = some (.str nm)) (hyz : (y == z) = false) (hl1 : nm.length ≤ 1048576) (hl2 : z.length ≤ 14) (hl3 : pre.length + (Txt.replace nm y z).length ≤ sizeLine) (pl : Sem Bool)
    (hm : eval (.Call (.Attribute (.Name n p1) (Str.ofString "replace") ap) [.Constant (.str y) k1 p2, .Constant (.str z) k2 p3] [] cp) env = (do
      let ov ← eval (.Name n p1) env
      standAt ap.atName
      let (f, first) ← holding [ov] (getMethod ov (Str.ofString "replace") pl)
      callWith cp f first (backTo cp (starEach [.Constant (.str y) k1 p2, .Constant (.str z) k2 p3] env)) []))
    (hs : starEach [.Constant (.str y) k1 p2, .Constant (.str z) k2 p3] env = (false, eval (.Constant (.str y) k1 p2) env) :: starEach [.Constant (.str z) k2 p3] env := by rfl)
    (hs2 : starEach [.Constant (.str z) k2 p3] env = (false, eval (.Constant (.str z) k2 p3) env) :: starEach [] env := by rfl)
    (hd : (n == ("__debug__" : Str)) = false := by decide) (hn : (n == ("__classdict__" : Str)) = false := by decide) :
    EV w x env ρ (.BinOp (.Constant (.str pre) k p) .Add (.Call (.Attribute (.Name n p1) (Str.ofString "replace") ap) [.Constant (.str y) k1 p2, .Constant (.str z) k2 p3] [] cp) pos) (.str (pre ++ Txt.replace nm y z)) := fun G T s Q E S kk => by
  refine wpAny_BinOp (Constant_str ?_)
  obtain ⟨v, r, q⟩ := NR.val rfl (S.rho n _ hr)
  cases q
  refine MethodCall_ (r.run S.eg (s := { s with toks := s.toks + 1 }) S.st hd hn ?_) hm
  refine GM.replace (callWith_method1 ?_ hs)
  rw [hs]
  refine spliced_cons (Constant_str (k := k1) (pos := p2) ?_)
  rw [hs2]
  refine spliced_cons (Constant_str (k := k2) (pos := p3) ?_)
  refine spliced_nil ?_
  have h1 : s.toks + 1 ≠ 0 := Nat.succ_ne_zero _
  have h2 : s.toks + 1 + 1 ≠ 0 := Nat.succ_ne_zero _
  have h3 : s.toks + 1 ≠ s.toks + 1 + 1 := fun e => absurd e (by omega)
  refine SC.replaceW h1 h2 h3 hyz hl1 hl2 fun t' tk => ?_
  exact PyProof.Rows.add_str (fun t'' tk' => kk _ _ _ G (Fz.rf _) S (.str _ _)) hl3
end
end Mine
end
section
open PySem PySem.W PyProof.Rows PySem.Calls PySem.Spec
set_option Elab.async false
set_option maxRecDepth 100000
namespace Mine
open LCg
section
variable {M : Model} {A : Around} {E : Value → Shared → Prop} {s : Shared}
/-- a loop of a def's own gives an exception back -/
theorem cameW {base : Heap} {l : List Env} {env : Env} {e L : Addr} {cls a0 : Value} {Q : Unit → Shared → Prop} (hf : env.frame = some L) (hh : Heap.HeldW base l e cls a0 L s.heap)
    (hQ : ∀ h', Heap.HeldW base l e cls a0 L h' → s.heap.UpToSlots h' → Q () { s with heap := h' }) :
    wpAny M A (do
      if (← field (.ref e) 1) == Value.none then unsupported "frame.own-activation:exception-without-traceback"
      setFlight (.ref e) env.frame) Q E s := by
  obtain ⟨hkb, hen, hl, oe, vs, T, oT, ts, he, hcls, hd, h1, hnT, hTe, hT, hdT, h3⟩ := hh
  have hsz3 : 3 < ts.size := (Array.getElem?_eq_some_iff.mp h3).1
  have other : ∀ b, b ≠ T → (s.heap.update T (Obj.mapFields (·.setIfInBounds 3 (rawInt L)))).get? b = s.heap.get? b := fun b hb => Heap.get?_update_other _ _ (Ne.symm hb)
  have noRecord : ∀ b o, s.heap.get? b = some o → (∀ vs, o.data ≠ .fields vs) → b ≠ T := fun b o hb hnf q => by
    rw [q, hT] at hb; injection hb with hb; subst hb; exact hnf ts hdT
  refine wpAny_bind (wpAny_field he hd h1 ?_)
  rw [if_neg (show ¬ ((Value.ref T == Value.none) = true) from by simp)]
  unfold setFlight
  refine wpAny_bind (wpAny_field he hd h1 ?_)
  rw [if_pos (show (Value.ref T != Value.none) = true from by simp), hf]
  refine wpAny_setField hT hdT hsz3 (hQ _ ⟨fun b o hbo => (other b fun q => by rw [q, hnT] at hbo; cases hbo).trans (hkb b o hbo), hen, hl.of_keeps fun b o hb hnf => ⟨o, (other b (noRecord b o hb hnf)).trans hb, rfl⟩, ?_⟩ fun b o hb hnf => ⟨o.slots, (other b (noRecord b o hb hnf)).trans hb⟩)
  exact ⟨oe, vs, T, _, _, (other e (Ne.symm hTe)).trans he, hcls, hd, h1, hnT, hTe, Heap.get?_update_self _ hT (Obj.isFreed_of_fields (Obj.data_mapFields hdT _)), Obj.data_mapFields hdT _, by simp [hsz3]⟩
/-- a frame is noted in an exception that has none yet -/
theorem noteW {base : Heap} {env : Env} {outer : List Env} {L e : Addr} {oe : Obj} {vs : Array Value} {a0 : Value} {Q : Unit → Shared → Prop}
    (hfr : A.frames = some (env :: outer)) (hl : s.heap.FunFrames base (env :: outer)) (hf : env.frame = some L) (he : s.heap.get? e = some oe) (hkb : base.StaysIn s.heap) (hen : base.get? e = none) (hd : oe.data = .fields vs) (h0 : vs[0]? = some a0) (h1 : vs[1]? = some .none)
    (h : ∀ h', Heap.HeldW base (env :: outer) e oe.cls a0 L h' → s.heap.UpToSlots h' → Q () { s with heap := h' }) : wpAny M A (noteFrame (.ref e) env) Q E s := by
  unfold noteFrame
  simp only [hf]
  refine wpAny_bind (wpAny_field he hd h1 ?_)
  rw [if_neg (by decide)]
  refine wpAny_entryW (hadNext := false) hfr hl hf he hkb hen hd (Array.getElem?_eq_some_iff.mp h1).1 h0 fun h' hN => ?_
  obtain ⟨k1, k2, k3, k4⟩ := hN
  exact h h' ⟨k1, hen, k2, k3⟩ k4
end
end Mine
end
section
open PySem PySem.W PyProof.Rows PySem.Calls PySem.Spec
set_option Elab.async false
set_option maxRecDepth 100000
namespace Mine
open LCg
section
variable {w : World} {x : Cx} {A : Around} {R : GenEnd} {Y : Protocol} {env : Env} {outer : List Env} {F a : Addr} {vs : Array Value} {base : Heap} {n : Nat}
theorem leaves_held {M : Model} {E : Value → Shared → Prop} {s : Shared} {L e : Addr} {cls a0 : Value} {Q : Unit → Shared → Prop} (hf : env.frame = some L)
    (hh : Heap.HeldW base (env :: outer) e cls a0 L s.heap) (hQ : ∀ h', Heap.FlyingW base outer e cls a0 h' → s.heap.UpToSlots h' → Q () { s with heap := h' }) : wpAny M A (leaving env (.ref e)) Q E s := by
  unfold leaving
  refine wpAny_bind (wpAny_noteFrame_againW hf hh.2.2.2 ?_)
  refine wpAny_landsW hh fun h' hfl u => ?_
  obtain ⟨k1, k2, ⟨_, _, k3⟩, k4⟩ := hfl
  exact hQ h' ⟨k1, k2, k3, k4⟩ u
theorem raiseSeg {pt p0 p0' p0'' pf pg' p1 p2 p3 p4 p5 p6 p7 p8 p9 p10 p11 p12 p13 p14 p15 p16 p22 : Pos} {k0 k1 k2 k3 : Nat} {msg : Str} {more rest : List Stmt} {s : Shared} {m : Str → Option Value} {t0 : Tok}
    (hx : x.Ok w) (hF : x.h₀.objs.size ≤ F) (ge : GE env F) (kG : env.kindOf (Str.ofString "grouping") = some .local) (kV : env.kindOf (Str.ofString "ValueError") = some .globalImplicit) (hff : env.frame = some F) (hFa : a ≠ F) (h0 : vs[0]? = some (.int 0 t0)) (hA : A.handled = none) (hfr : A.frames = some outer)
    (hn : s.heap.Ns F m) (hm : m (Str.ofString "grouping") = some (.ref a)) (hl : s.heap.IsList a vs) (hb : ∀ b o, x.h₀.get? b = some o → s.heap.get? b = some o)
    (hbase : base.StaysIn s.heap) (hbF : base.get? F = none) (hout : ∀ h' : Heap, (∀ b o, b ≠ F → s.heap.get? b = some o → h'.get? b = some o) → h'.FunFrames base outer)
    (hR : ∀ e a0 (s' : Shared), Heap.FlyingW base outer e (.type "ValueError") a0 s'.heap → s'.gens = s.gens → s'.drawn = s.drawn → s'.os = s.os → s.heap.get? e = none → (∃ h0 : Heap, (∀ b o, b ≠ F → s.heap.get? b = some o → h0.get? b = some o) ∧ h0.UpToSlots s'.heap) → R n s (.error (.ref e)) s') :
    Seg (model pg w) A R Y n s (.func [.Assign [.Name nL p0] (.Constant .none k0 p0') p0'', .For (.Name nI pt) (.Name (Str.ofString "grouping") pg')
      (.If (.Compare (.Name nI p1) [.Eq] [.Name (Str.ofString "CHAR_MAX") p2] p3) [.Return none p4] [] p5 ::
      .If (.Compare (.Name nI p6) [.Eq] [.Constant (.int 0) k1 p7] p8) (.If (.Compare (.Name nL p9) [.Is] [.Constant .none k2 p10] p11) [.Raise (some (.Call (.Name (Str.ofString "ValueError") p12) [.Constant (.str msg) k3 p13] [] p14)) none p15] [] p16 :: more) [] p22 :: rest) [] pf] env) ((model pg w).den (.func [.Assign [.Name nL p0] (.Constant .none k0 p0') p0'', .For (.Name nI pt) (.Name (Str.ofString "grouping") pg')
      (.If (.Compare (.Name nI p1) [.Eq] [.Name (Str.ofString "CHAR_MAX") p2] p3) [.Return none p4] [] p5 ::
      .If (.Compare (.Name nI p6) [.Eq] [.Constant (.int 0) k1 p7] p8) (.If (.Compare (.Name nL p9) [.Is] [.Constant .none k2 p10] p11) [.Raise (some (.Call (.Name (Str.ofString "ValueError") p12) [.Constant (.str msg) k3 p13] [] p14)) none p15] [] p16 :: more) [] p22 :: rest) [] pf] env)) [] s := by
  refine seg_func ?_
  refine seg_plain (wpAny_Assign_Name (wpAny_Constant_none ?_) (by with_unfolding_all rfl))
  refine wpAny_storeName_local ge.kL (by rw [ge.L]; exact hn) (fun h1 hn1 hs1 => ?_) (by rw [ge.g.kind]; rfl)
  rw [ge.L] at hn1 hs1
  have hl1 : h1.IsList a vs := hl.extBut hs1.extBut hFa
  refine seg_execs_cons (seg_For (g_local ge.g ge.L kG hn1 (show _ = some (Value.ref a) by rw [if_neg (by decide)]; exact hm) ?_) (fun _ => rfl))
  refine wpAny_pyIter_list hl1 ?_
  intro p
  have hIa : a ≠ h1.objs.size := fun q => by
    obtain ⟨o, e, _⟩ := hl1
    have : @LT.lt Nat _ a h1.objs.size := Heap.lt_size e
    have q' : @Eq Nat a h1.objs.size := q
    omega
  have hvs : 0 < vs.size := (Array.getElem?_eq_some_iff.mp h0).1
  refine seg_forLoop (Walks.item (Walks.list ?_ h1.objs.size a hIa vs) 0 _ _ _ hvs ⟨⟨_, Heap.get?_push_size _ rfl, rfl, rfl⟩, hl1.push _⟩ fun v h2 tk2 hP st hk => ?_) (fun _ => rfl)
  · exact hA
  rw [h0] at hP; cases hP
  have hFI : F ≠ h1.objs.size := Nat.ne_of_lt hn1.lt
  have hn2 : h2.Ns F (fun x => if x = nL then some Value.none else m x) := by
    obtain ⟨oF, hoF, qF⟩ := ns_obj (hn1.push { cls := .type "list_iterator", data := .fields #[.ref a, .int 0 0] })
    exact NsObj.ns qF (hk _ _ (fun z => hFI (List.mem_singleton.mp z)) hoF)
  refine wpAny_assign_Name (wpAny_storeName_local ge.kI (by rw [ge.L]; exact hn2) (fun h3 hn3 hs3 => ?_) (by rw [ge.g.kind]; rfl))
  rw [ge.L] at hn3 hs3
  -- what stood stands
  have keep3 : ∀ b o, b ≠ F → s.heap.get? b = some o → h3.get? b = some o := fun b o hb e => by
    have e1 := hs1.extBut b o hb e
    have hbI : b ≠ h1.objs.size := Nat.ne_of_lt (Heap.lt_size e1)
    exact hs3.extBut b o hb (hk b o (fun z => hbI (List.mem_singleton.mp z)) (Heap.get?_push_of_some _ e1))
  have hbF' : ∀ b o, x.h₀.get? b = some o → b ≠ F := fun b o e => Nat.ne_of_lt (Nat.lt_of_lt_of_le (Heap.lt_size e) hF)
  have fr3 : Fr x.h₀ F h3 (fun y => if y = nI then some (Value.int 0 t0) else if y = nL then some Value.none else m y) := ⟨hn3, fun b o e => keep3 b o (hbF' b o e) (hb b o e), hF⟩
  obtain ⟨tc, gc⟩ := gn_charmax w
  refine seg_execs_cons (seg_If (b := false) (P := fun s' => ∃ tk, s' = (⟨h3, s.gens, s.drawn, tk, s.os⟩ : Shared)) (fun Q E k => ?_) (fun h => absurd h (by decide)) fun _ s' ⟨tk, e⟩ => ?_)
  · exact g_eqI (i := 0) (j := 127) (fun Q' E' h => g_local ge.g ge.L ge.kI hn3 (if_pos rfl) (h t0)) (fun Q' E' h => g_glob hx fr3 ge.g gc ge.kC (h _ _)) fun tk => k _ ⟨tk, rfl⟩
  subst e
  refine seg_execs_nil ?_
  refine seg_execs_cons (seg_If (b := true) (P := fun s' => ∃ tk, s' = (⟨h3, s.gens, s.drawn, tk, s.os⟩ : Shared)) (fun Q E k => ?_) (fun _ s' ⟨tk', e⟩ => ?_) fun h => nomatch h)
  · exact g_eqI (i := 0) (j := 0) (fun Q' E' h => g_local ge.g ge.L ge.kI hn3 (if_pos rfl) (h t0)) (fun Q' E' h => wpAny_Constant_int (h _ _)) fun tk => k _ ⟨tk, rfl⟩
  subst e
  refine seg_execs_cons (seg_If (b := true) (P := fun s' => s' = (⟨h3, s.gens, s.drawn, tk', s.os⟩ : Shared)) (fun Q E k => ?_) (fun _ s' e => ?_) fun h => nomatch h)
  · refine wpAny_isTrue_Compare1 (g_local ge.g ge.L ge.kL hn3 (show _ = some Value.none by rw [if_neg (by decide)]; exact if_pos rfl) ?_) (by with_unfolding_all rfl)
    refine wpAny_Constant_none ?_
    exact is_none_gen (wpAny_truthy_bool (k _ rfl))
  subst e
  refine seg_execs_cons (seg_wrap (wpAny_Raise_call PySem.F.excCall_ValueError PySem.F.excRaise_ValueError ?_ rfl ?_))
  · exact hA
  refine g_glob hx fr3 ge.g (gn_valueError w) kV ⟨rfl, ?_⟩
  rw [show starEach [PySem.Expr.Constant (.str msg) k3 p13] env = (false, eval (.Constant (.str msg) k3 p13) env) :: starEach [] env from rfl]
  refine evalArgs_plain (spliced_cons (Constant_str (k := k3) (pos := p13) (spliced_nil ⟨rfl, by simp [sizeLine_eq], fun h4 e hm => ?_⟩)))
  obtain ⟨tt, hte, htn, _⟩ := hm.there
  have hee := hm.new
  have hke := hm.keeps
  have stays : base.StaysIn h4 := fun b o e => hke _ _ (keep3 b o (fun q => by rw [q, hbF] at e; cases e) (hbase b o e))
  have hen : base.get? e = none := by
    cases q : base.get? e with
    | none => rfl
    | some o =>
      have z := keep3 e o (fun q' => by rw [q', hbF] at q; cases q) (hbase e o q)
      have hee' : h3.get? e = none := hee
      rw [hee'] at z; cases z
  have hes : s.heap.get? e = none := by
    have hee' : h3.get? e = none := hee
    cases q : s.heap.get? e with
    | none => rfl
    | some o =>
      by_cases hF' : e = F
      · obtain ⟨oF, hoF, _⟩ := ns_obj hn3
        rw [hF', hoF] at hee'; cases hee'
      · have := keep3 e o hF' q
        rw [hee'] at this; cases this
  have hff4 : h4.FunFrames base (env :: outer) := Heap.FunFrames.cons (by rw [ge.g.kind]; decide) hff (hn3.keeps hke) hbF (hout h4 fun b o hb e => hke _ _ (keep3 b o hb e))
  refine seg_wrap (wpAny_bind (noteW (base := base) (outer := outer) ?_ hff4 hff hte stays hen rfl rfl rfl fun h5 hh5 u5 => wpAny_theTreesLotGoes ?_))
  · unfold Around.over
    dsimp only
    rw [hfr]
    rfl
  refine seg_leaf (.error (.ref e)) ?_
  refine seg_bindw (cameW hff hh5 fun h6 hh6 u6 => ?_)
  refine seg_wrap (wpAny_throw ?_)
  refine seg_wrap (leaves_held hff hh6 fun h7 hfl u7 => ?_)
  exact seg_end (.error (.ref e)) (hR e _ _ hfl rfl rfl rfl hes ⟨h4, fun b o hb q => hke _ _ (keep3 b o hb q), (u5.trans u6).trans u7⟩)
end
end Mine
end
section
open PySem PySem.W PyProof.Rows PySem.Calls PySem.Spec
set_option Elab.async false
set_option maxRecDepth 100000
namespace Mine
open LCg
section
variable {prog : Program} {w : World} {A : Around} {E : Value → Shared → Prop} {s : Shared}
/-- a generator's turn that raises -/
theorem pyNext_raises {a : Addr} {g n : Nat} {gs : GenState} {P : Shared → Addr → Shared → Prop} {Y : Protocol} {Q : Option Value → Shared → Prop}
    (hl : s.heap.NoLimit) (hroom : A.depth < recursionLimit)
    (hg : s.heap.IsGen a g) (hgs : s.gens[g]? = some gs)
    (hgo : gs.Goes (model prog w) A.in1 (fun _ s₀ r s₁ => ∃ e, r = .error (.ref e) ∧ s₁.TypeIs (.ref e) "ValueError" ∧ P s₀ e s₁) (fun _ _ _ _ _ => False) n (.send .none) (s.setGen g .running))
    (hgk : ∀ e s₁, P (s.setGen g .running) e s₁ → s₁.heap.IsGen a g) (hsub : isSubtype (.type "ValueError") (.type "StopIteration") = pure false)
    (hP : ∀ e s₁, P (s.setGen g .running) e s₁ → E (.ref e) (s₁.setGen g .finished)) :
    wpAny (model prog w) A (pyNext (.ref a)) Q E s := by
  unfold pyNext
  refine wpAny_bind (wpAny_attempt (wpAny_callSpecial?_slot (name := Str.ofString "__next__") hg.typeIs slot_gen_next
    (wpAny_call_entry slot_gen_next hg.typeIs entry_gen_next ?_ (args_gen_next _))))
  show wpAny _ _ (Builtin.Generator.genWake (.ref a) (.send .none)) _ _ s
  unfold Builtin.Generator.genWake
  refine wpAny_bind (wpAny_holding (wpAny_genNumber hg (wpAny_bind (wpAny_genState hgs ?_))))
  cases gs with
  | running => exact hgo.elim
  | finished => exact hgo.elim
  | _ =>
    refine wpAny_bind (wpAny_roomToWake hl hroom ?_)
    show wpAny _ _ (.resume g (.send .none) [] _) _ _ s
    refine wpAny_resumeQ hgs hgo (fun x s₁ hx => ?_) (fun v s₁ gs' hb hv => hv.elim)
    obtain ⟨e, rfl, ht, hp⟩ := hx
    obtain ⟨o, nm, qn, ho, hc, hd, hs⟩ := hgk e s₁ hp
    show wpAny _ _ (Builtin.Generator.genLeft (.ref a) (.ref e)) _ _ _
    unfold Builtin.Generator.genLeft Builtin.Generator.madeByALambda
    refine wpAny_bind (wpAny_bind (wpAny_load ho (wpAny_pure ?_)))
    rw [hd, hc]
    refine wpAny_bind (wpAny_isInstance ht hsub ?_)
    rw [Bool.and_false]
    show wpAny _ _ (Builtin.Generator.genEscaped (.ref e)) _ _ _
    unfold Builtin.Generator.genEscaped
    refine wpAny_bind (wpAny_isInstance ht hsub ?_)
    refine wpAny_throw ?_
    refine wpAny_bind (wpAny_isInstance ht hsub ?_)
    exact wpAny_throw (hP e s₁ hp)
end
end Mine
end
section
open PySem PySem.W PyProof.Rows PySem.Calls PySem.Spec
open Sem (wp)
set_option Elab.async false
set_option maxRecDepth 100000
namespace Mine
section
variable {prog : Program} {w : World} {A : Around} {E : Value → Shared → Prop} {s : Shared}
theorem nextOf_tuple_item {it t : Addr} {i : Nat} {items : Array Value} {v : Value} {Q : Value → Shared → Prop} (hit : s.heap.IsTupleIter it t i) (ht : s.heap.IsTuple t items) (hx : items[i]? = some v)
    (k : ∀ h', h'.IsTupleIter it t (i + 1) → Heap.SameBut it s.heap h' → Q v { s with heap := h' }) : wpAny (model prog w) A (Builtin.SmallTypes.nextOf (.ref it)) Q E s := by
  obtain ⟨o, ho, hc, hd⟩ := id hit
  obtain ⟨ot, hot, _, _, hdt⟩ := ht
  unfold Builtin.SmallTypes.nextOf
  refine wpAny_bind (wpAny_callSpecial?_slot (name := Str.ofString "__next__") hit.typeIs F.slot_tuple_iterator_next (wpAny_call_entry F.slot_tuple_iterator_next hit.typeIs F.entry_tuple_iterator_next ?_ (F.args_tuple_iterator_next_1 _)))
  show wpAny _ _ (field (.ref it) 0 >>= _) _ _ s
  refine wpAny_bind (wpAny_field ho hd (x := .ref t) rfl ?_)
  show wpAny _ _ (if (Value.ref t == Value.none) = true then _ else _) _ _ s
  rw [if_neg (show ¬ ((Value.ref t == Value.none) = true) from Bool.false_ne_true)]
  show wpAny _ _ (field (.ref it) 1 >>= _) _ _ s
  refine wpAny_bind (wpAny_field ho hd (x := .int i 0) rfl ?_)
  show wpAny _ _ (seqItems? (.ref t) >>= _) _ _ s
  refine wpAny_bind (wpAny_seqItems hot hdt ?_)
  simp only [Int.toNat_natCast, hx]
  refine wpAny_bind (wpAny_setField ho hd (by simp) (wpAny_pure ⟨v, rfl, wpAny_pure (k _ ?_ (Heap.SameBut.update ..))⟩))
  exact ⟨_, Heap.get?_update_self _ ho (Obj.isFreed_of_fields (Obj.data_mapFields hd _)), (Obj.cls_mapFields ..).trans hc, by rw [Obj.data_mapFields hd]; simp [rawInt]⟩
theorem nextOf_tuple_end {it t : Addr} {i : Nat} {items : Array Value} {Q : Value → Shared → Prop} (hh : A.handled = none) (hit : s.heap.IsTupleIter it t i) (ht : s.heap.IsTuple t items) (hx : items[i]? = none)
    (k : ∀ h' e, Heap.ExtBut it s.heap h' → (∃ o, h'.get? e = some o ∧ o.cls = .type "StopIteration") → E (.ref e) { s with heap := h' }) : wpAny (model prog w) A (Builtin.SmallTypes.nextOf (.ref it)) Q E s := by
  obtain ⟨o, ho, hc, hd⟩ := id hit
  obtain ⟨ot, hot, _, _, hdt⟩ := ht
  unfold Builtin.SmallTypes.nextOf
  refine wpAny_bind (wpAny_callSpecial?_slot (name := Str.ofString "__next__") hit.typeIs F.slot_tuple_iterator_next (wpAny_call_entry F.slot_tuple_iterator_next hit.typeIs F.entry_tuple_iterator_next ?_ (F.args_tuple_iterator_next_1 _)))
  show wpAny _ _ (field (.ref it) 0 >>= _) _ _ s
  refine wpAny_bind (wpAny_field ho hd (x := .ref t) rfl ?_)
  show wpAny _ _ (if (Value.ref t == Value.none) = true then _ else _) _ _ s
  rw [if_neg (show ¬ ((Value.ref t == Value.none) = true) from Bool.false_ne_true)]
  show wpAny _ _ (field (.ref it) 1 >>= _) _ _ s
  refine wpAny_bind (wpAny_field ho hd (x := .int i 0) rfl ?_)
  show wpAny _ _ (seqItems? (.ref t) >>= _) _ _ s
  refine wpAny_bind (wpAny_seqItems hot hdt ?_)
  simp only [Int.toNat_natCast, hx]
  refine wpAny_bind (wpAny_rule (wpAny_bind (wpAny_setField ho hd (by simp) ?_)))
  show wpAny _ _ (newExc (.type "StopIteration") [] >>= _) _ _ _
  refine wpAny_bind ?_
  simp only [newExc, newTuple]
  refine wpAny_bind (wpAny_newObj_type ?_ (by size_fits))
  refine wpAny_bind (m := firstArgMember _ _) (wpAny_of_eq (a := Value.none) (by first | rfl | (simp only [firstArgMember]; rfl)) ?_)
  refine wpAny_newObj_type ?_ (by size_fits)
  simp only [raiseNew]
  refine wpAny_bind (wpAny_handled ?_)
  first | rw [show A.in1.handled = none from hh] | rw [hh]
  refine wpAny_bind (wpAny_pure (wpAny_throw ?_))
  exact k _ _ (((Heap.SameBut.update ..).extBut.push _).push _) ⟨_, Heap.get?_push_size _ rfl, rfl⟩
theorem drawsTuple (hh : A.handled = none) (it t : Addr) (hne : t ≠ it) (items : Array Value) : Draws prog w A it [it, t] items.size (fun i v => items[i]? = some v) (fun i h => h.IsTupleIter it t i ∧ h.IsTuple t items) where
  live := fun _ _ st => let ⟨o, ho, _⟩ := st.1; ⟨o, ho⟩
  frame := fun _ _ _ st hk => by
    obtain ⟨⟨o, ho, r⟩, ⟨o', ho', r'⟩⟩ := st
    exact ⟨⟨o, hk it (by simp) o ho, r⟩, ⟨o', hk t (by simp) o' ho', r'⟩⟩
  item := fun i s Q E hi st hQ => nextOf_tuple_item st.1 st.2 (v := items[i]) (by simp [hi]) fun h' hit' hs' => hQ _ h' s.toks (by simp [hi]) ⟨hit', st.2.extBut hs'.extBut hne⟩ hs'
  done := fun s Q E st hE => nextOf_tuple_end hh st.1 st.2 (by simp) hE
set_option maxHeartbeats 1000000 in
theorem meets_enumerate_newT (l : Addr) (items : Array Value) (n : Nat) (dct : Option Addr) (sl : Array (Option Value)) :
    Meets (Builtin.«enumerate.__new__» ⟨[.type "enumerate", .ref l], []⟩) (fun _ R s => s.heap.get? l = some { cls := .type "tuple", dict := dct, data := .seq items n, slots := sl } ∧
      R (.ok (.ret (.ref (s.heap.push { cls := .type "tuple_iterator", data := .fields #[.ref l, .int 0 0] }).objs.size)))
        { s with heap := (s.heap.push { cls := .type "tuple_iterator", data := .fields #[.ref l, .int 0 0] }).push { cls := .type "enumerate", data := .fields #[.none, .bool false, .ref s.heap.objs.size, rawInt 0, .none, .none] } }) :=
  .of_wp fun prog w A R s h => by
    obtain ⟨hp, g, d, tk, os⟩ := s; obtain ⟨hl, h⟩ := h
    have hsub := sub_enumerate
    have hL : Heap.IsTuple (Shared.heap ⟨hp, g, d, tk, os⟩) l items := ⟨_, hl, rfl, n, rfl⟩
    wp_walk using AutoSeq1.wpAny_loadPart' hl
    refine wpAny_stack_any fun st => wpAny_pure ?_
    split
    · rename_i c _ _ _ _ _
      cases (c == Value.type "enumerate")
      · wp_walk using AutoSeq1.wpAny_loadPart' hl, wpAny_pyIter_tuple hL
        exact ⟨_, rfl, h⟩
      · wp_walk using AutoSeq1.wpAny_loadPart' hl, wpAny_pyIter_tuple hL
        exact ⟨_, rfl, h⟩
    · wp_walk using AutoSeq1.wpAny_loadPart' hl, wpAny_pyIter_tuple hL
      exact ⟨_, rfl, h⟩
theorem call_enumerate_tuple {l : Addr} {items : Array Value} {Q : Value → Shared → Prop} (hL : s.heap.IsTuple l items)
    (h : ∀ h', IsEnum h' (s.heap.objs.size + 1) s.heap.objs.size 0 .none → h'.IsTupleIter s.heap.objs.size l 0 → h'.objs.size = s.heap.objs.size + 2 →
      (∀ b o, s.heap.get? b = some o → h'.get? b = some o) → Q (.ref (s.heap.objs.size + 1)) { s with heap := h' }) :
    wpAny (model prog w) A (call (.type "enumerate") [.ref l]) Q E s := by
  obtain ⟨⟨c, dct, dt, sl⟩, hl, hc, n, hd⟩ := hL
  replace hc : c = .type "tuple" := hc
  replace hd : dt = .seq items n := hd
  subst hc hd
  refine callType_new F.called_enumerate (by decide) (F.typeCall_enumerate_1 _) (F.newCall_enumerate_1 _) (fun obj => F.args_object_init_2 obj _) F.entry_enumerate_new
    (meets_enumerate_newT l items n dct sl) ⟨hl, ?_⟩
  have hz : (s.heap.push { cls := .type "tuple_iterator", data := .fields #[.ref l, .int 0 0] }).objs.size = s.heap.objs.size + 1 := Heap.size_push ..
  show _ ∧ _
  rw [hz]
  have he : IsEnum ((s.heap.push { cls := .type "tuple_iterator", data := .fields #[.ref l, .int 0 0] }).push
      { cls := .type "enumerate", data := .fields #[.none, .bool false, .ref s.heap.objs.size, rawInt 0, .none, .none] }) (s.heap.objs.size + 1) s.heap.objs.size 0 .none := by
    have := Heap.get?_push_size (s.heap.push { cls := .type "tuple_iterator", data := .fields #[.ref l, .int 0 0] })
      (o := { cls := .type "enumerate", data := .fields #[.none, .bool false, .ref s.heap.objs.size, rawInt 0, .none, .none] }) rfl
    rw [hz] at this; exact this
  refine ⟨⟨_, he, rfl⟩, h _ he ⟨_, Heap.get?_push_of_some _ (Heap.get?_push_size _ rfl), rfl, rfl⟩ (by rw [Heap.size_push, hz]) fun b o x => Heap.get?_push_of_some _ (Heap.get?_push_of_some _ x)⟩
end
end Mine
end
section
open PySem PySem.W PyProof.Rows PySem.Calls PySem.Spec
set_option Elab.async false
set_option maxRecDepth 100000
namespace Mine
open LCg
section
variable {prog : Program} {w : World} {A : Around} {E : Value → Shared → Prop} {R : Result → Shared → Prop} {s : Shared}
theorem compLoop_testsP {elt iter : PySem.Expr} {elts ifs : List PySem.Expr} {k : Nat} {tp : Pos} {scope : Scope} {pos : Pos} {it acc : Value} {env : Env} (I : Nat → Shared → Prop)
    (turn : ∀ n s, I n s → wpAny (model prog w) A (pyNext it) (fun r s₁ => match r with
      | none => R (.ok .next) s₁
      | some v => wpAny (model prog w) A (letOwnedTupleGo (.Tuple elts k tp) it v) (fun _ s₁' => wpAny (model prog w) A (assign (.Tuple elts k tp) env v) (fun _ s₂ =>
          wpAny (model prog w) A (forIn ifs true fun c r => if r = true then do let ok ← isTrue c env (eval c env); pure (ForInStep.yield ok) else pure (ForInStep.yield r)) (fun ok s₃ =>
            if ok = true then wpAny (model prog w) A (eval elt env) (fun x s₄ =>
              wpAny (model prog w) A (call (.builtin "list.append") [acc, x]) (fun _ s₅ => ∃ m, m < n ∧ I m s₅) (notedBy (model prog w) A env fun e s' => R (.error e) s') s₄) (notedBy (model prog w) A env fun e s' => R (.error e) s') s₃
            else ∃ m, m < n ∧ I m s₃) (notedBy (model prog w) A env fun e s' => R (.error e) s') s₂) (notedBy (model prog w) A env fun e s' => R (.error e) s') s₁') (notedBy (model prog w) A env fun e s' => R (.error e) s') s₁) (notedBy (model prog w) A env fun e s' => R (.error e) s') s)
    (n : Nat) (h : I n s) :
    codeAny (model prog w) A (.compLoop (.ListComp elt [⟨.Tuple elts k tp, iter, ifs, 0⟩] scope pos) 0 it acc env) R s := by
  refine codeAny_loop rfl I (fun n s hI => ?_) n h
  show wpAny _ A ((compTurn (.ListComp elt [⟨.Tuple elts k tp, iter, ifs, 0⟩] scope pos) 0 it acc env).onRaise (fun x => do noteFrame x env; theTreesLotGoes x)) _ _ s
  refine wpAny_noted ?_
  rw [compTurn_list]
  refine wpAny_bind (wpAny_standAt (wpAny_bind (wpAny_mono (turn n s hI) (fun r s₁ h₁ => ?_) fun _ _ h' => h')))
  cases r with
  | none => exact wpAny_pure h₁
  | some v =>
    refine wpAny_bind (wpAny_mono h₁ (fun _ s₁' h₁' => ?_) fun _ _ h' => h')
    refine wpAny_bind (wpAny_mono h₁' (fun _ s₂ h₂ => wpAny_bind (wpAny_mono h₂ (fun ok s₃ h₃ => ?_) fun _ _ h' => h')) fun _ _ h' => h')
    cases ok with
    | false => exact wpAny_pure ⟨rfl, h₃⟩
    | true =>
      exact wpAny_bind (wpAny_bind (wpAny_mono h₃ (fun x s₄ h₄ => wpAny_bind (wpAny_mono h₄ (fun _ s₅ h₅ => wpAny_pure (wpAny_pure ⟨rfl, h₅⟩)) fun _ _ h' => h')) fun _ _ h' => h'))
end
noncomputable def enumF (F : Nat → AV → Option AV) (its : List AV) : List AV := its.zipIdx.filterMap fun p => F p.2 p.1
theorem take_fmG {α β : Type} {its : List α} {F : α → Option β} {i : Nat} {av : α} (h : its[i]? = some av) : (its.take (i + 1)).filterMap F = (its.take i).filterMap F ++ (F av).toList := by
  rw [List.take_add_one, h, List.filterMap_append]
  cases e : F av <;> simp [e]
section
variable {w : World} {x : Cx} {env : Env} {ρ ρv : Rho} {T : Ow}
set_option maxHeartbeats 1000000
theorem vloopE {R : Result → Shared → Prop} {elt iter : PySem.Expr} {x0 x1 : Str} {px0 px1 tp : Pos} {tk0 : Nat} {ifs : List PySem.Expr} {scope : Scope} {cl : List (Str × Addr)} {pos : Pos} {C D e it : Addr} {fp : List Addr} {P : Nat → Value → Prop} {Sd : Nat → Heap → Prop} {G₁ : Fz} {its : List AV} {s : Shared} (F : Nat → AV → Option AV)
    (Dr : Draws pg w x.A.in1 it fp its.length P Sd) (hei : e ≠ it) (hef : e ∉ fp) (hif : it ∈ fp) (hfp : ∀ b ∈ fp, b = it ∨ ∃ o, G₁ b o) (item : ∀ (i : Nat) (v : Value), i < its.length → P i v → ∃ a, its[i]? = some a ∧ VR G₁ v a)
    (hsz : its.length ≤ 16777216) (now : Sd 0 s.heap) (hen : ∃ old, IsEnum s.heap e it 0 old) (hpl : ∀ av ∈ its, av.plain = true) (hne : x1 ≠ x0)
    (g : EnvG env) (hkind : scope.kind = .function) (hin : ∀ p ∈ cl, p ∈ env.cells ∨ p.2 ∈ ownAdr (C + 1) scope.names) (hap : Apt (cEnv scope cl C env)) (hce : ∀ p ∈ env.cells, ∃ v, (p.2, .cell v) ∈ T) (hr : ∀ n av, ρ.lookup n = some av → NR env G₁ T n av) (hv : VisR env (cEnv scope cl C env) ρ ρv)
    (hn0 : (cEnv scope cl C env).kindOf x0 = some .local) (hn1 : (cEnv scope cl C env).kindOf x1 = some .local)
    {mC : Str → Option Value} {cells : Ow} (S : OkB x G₁ ((e, .any) :: (C, .ns mC) :: (D, .obj (lst [])) :: (cells ++ ((it, .any) :: T))) s.heap) (hc : CellsIn (ownAdr (C + 1) scope.names) cells)
    (turn : ∀ (i : Nat) (av : AV), its[i]? = some av → TurnV w x (cEnv scope cl C env) ((x1, av) :: (x0, .int i) :: ρv) elt ifs (F i av))
    (done : ∀ ys G mC cells h tk, Fz.le G₁ G → CellsIn (ownAdr (C + 1) scope.names) cells → OkB x G ((C, .ns mC) :: (D, .obj (lst ys)) :: (cells ++ T)) h → VRs G ys (enumF F its) → R (.ok .next) { s with heap := h, toks := tk }) :
    codeAny (model pg w) x.A (.compLoop (.ListComp elt [⟨.Tuple [.Name x0 px0, .Name x1 px1] tk0 tp, iter, ifs, 0⟩] scope pos) 0 (.ref e) (.ref D) (cEnv scope cl C env)) R s := by
  have W := WalksT.enumerateD Dr e hei hef hif
  have hce' : ∀ {o : Sp}, ∀ p ∈ env.cells, ∃ v, (p.2, .cell v) ∈ (it, o) :: T := fun p hp => let ⟨v, m⟩ := hce p hp; ⟨v, List.mem_cons_of_mem _ m⟩
  refine compLoop_testsP
    (LoopI x (ownAdr (C + 1) scope.names) its.length s G₁ (fun i h' => (∃ old, IsEnum h' e it ((i : Nat) : Int) old) ∧ Sd i h') (fun _ _ => True) (fun mC ys cells => (e, .any) :: (C, .ns mC) :: (D, .obj (lst ys)) :: (cells ++ ((it, .any) :: T))) fun i => (its.zipIdx.take i).filterMap fun p => F p.2 p.1) ?_ (its.length + 1)
    (.mk (h' := s.heap) (i := 0) (Nat.zero_le _) rfl ⟨hen, now⟩ (Fz.rf _) hc trivial S .nil)
  intro k s' inv
  cases inv with | @mk h' tk i ys mC' cells' G hi hk hst hG hc' hInv S' hys =>
  subst hk
  by_cases hlt : i < its.length
  · refine W.item i _ _ _ hlt hst fun t vals h₁ tk₁ hPt hts ht hmid hk₁ => ?_
    obtain ⟨tki, v, hPv, rfl⟩ := hPt
    obtain ⟨av, hav, hvr⟩ := item i v hlt hPv
    have hmem : av ∈ its := List.mem_of_getElem? hav
    have hap_t := W.apart _ _ _ hmid
    refine W.go _ _ _ _ _ _ _ _ hmid fun h₂ hst₂ hk₂ => ?_
    have ht₂ : h₂.IsTuple t #[.int i tki, v] := by obtain ⟨o, ho, r⟩ := ht; exact ⟨o, hk₂ _ _ hap_t ho, r⟩
    have kk : ∀ b o, b ≠ e → b ≠ it → h'.get? b = some o → h₂.get? b = some o := fun b o h1 h2 q => by
      have nb : b ∉ [e, it] := fun hm => (List.mem_cons.mp hm).elim h1 fun hm => h2 (List.mem_singleton.mp hm)
      exact hk₂ b o nb (hk₁ b o nb q)
    -- the two that have turned, as they stand
    obtain ⟨⟨old, he₂⟩, hsd₂⟩ := hst₂
    obtain ⟨oit, hit₂⟩ := Dr.live _ _ hsd₂
    have Sa : St G ((e, .any) :: (it, .any) :: (C, .ns mC') :: (D, .obj (lst ys)) :: (cells' ++ T)) h' := S'.st.perm (perm_in _ _ _ _ _ _).symm
    have nd := Sa.nd
    simp only [List.map_cons, List.nodup_cons, List.mem_cons, not_or] at nd
    have Sb : St G ((e, .obj { cls := .type "enumerate", dict := none, data := .fields #[.none, .bool false, .ref it, rawInt (((i + 1 : Nat)) : Int), .none, old], slots := #[] }) :: (it, .obj oit) :: (C, .ns mC') :: (D, .obj (lst ys)) :: (cells' ++ T)) h₂ := by
      refine ⟨fun b o gb => ?_, fun p hp => ?_, fun p hp o gb => ?_, Sa.nd⟩
      · exact kk b o (fun q => Sa.off _ (List.mem_cons_self ..) o (q ▸ gb)) (fun q => Sa.off _ (List.mem_cons_of_mem _ (List.mem_cons_self ..)) o (q ▸ gb)) (Sa.keep b o gb)
      · rcases List.mem_cons.mp hp with rfl | hp
        · exact ⟨_, he₂, rfl⟩
        · rcases List.mem_cons.mp hp with rfl | hp
          · exact ⟨_, hit₂, rfl⟩
          · obtain ⟨o, ho, q⟩ := Sa.own p (List.mem_cons_of_mem _ (List.mem_cons_of_mem _ hp))
            refine ⟨o, kk _ _ (fun z => ?_) (fun z => ?_) ho, q⟩
            · exact (List.nodup_cons.mp Sa.nd).1 (List.mem_map.mpr ⟨p, List.mem_cons_of_mem _ hp, z⟩)
            · exact (List.nodup_cons.mp (List.nodup_cons.mp Sa.nd).2).1 (List.mem_map.mpr ⟨p, hp, z⟩)
      · rcases List.mem_cons.mp hp with rfl | hp
        · exact Sa.off _ (List.mem_cons_self ..) o gb
        · rcases List.mem_cons.mp hp with rfl | hp
          · exact Sa.off _ (List.mem_cons_of_mem _ (List.mem_cons_self ..)) o gb
          · exact Sa.off p (List.mem_cons_of_mem _ (List.mem_cons_of_mem _ hp)) o gb
    generalize hoe : ({ cls := .type "enumerate", dict := none, data := .fields #[.none, .bool false, .ref it, rawInt (((i + 1 : Nat)) : Int), .none, old], slots := #[] } : Obj) = oe at Sb
    have he₂' : h₂.get? e = some oe := hoe ▸ he₂
    have memx : ∀ a sp, (a, sp) ∈ (e, Sp.any) :: (C, .ns mC') :: (D, .obj (lst ys)) :: (cells' ++ ((it, .any) :: T)) → sp ≠ .any → (a, sp) ∈ (e, Sp.obj oe) :: (C, .ns mC') :: (D, .obj (lst ys)) :: (cells' ++ ((it, .obj oit) :: T)) := fun a sp hm hne => by
      rcases List.mem_cons.mp hm with q | hm
      · cases q; exact absurd rfl hne
      · refine List.mem_cons_of_mem _ ?_
        rcases List.mem_cons.mp hm with q | hm
        · exact List.mem_cons.mpr (.inl q)
        · refine List.mem_cons_of_mem _ ?_
          rcases List.mem_cons.mp hm with q | hm
          · exact List.mem_cons.mpr (.inl q)
          · refine List.mem_cons_of_mem _ ?_
            rcases List.mem_append.mp hm with hm | hm
            · exact List.mem_append_left _ hm
            · rcases List.mem_cons.mp hm with q | hm
              · cases q; exact absurd rfl hne
              · exact List.mem_append_right _ (List.mem_cons_of_mem _ hm)
    have S₂ : OkB x G ((e, .obj oe) :: (C, .ns mC') :: (D, .obj (lst ys)) :: (cells' ++ ((it, .obj oit) :: T))) h₂ :=
      S'.mem (Sb.perm (perm_in _ _ _ _ _ _)) (Fz.rf _) fun a sp hm _ h2 _ => memx a sp hm h2
    refine wpAny_assign_Tuple (s := ⟨h₂, s.gens, s.drawn, tk₁, s.os⟩) x.hh ht₂ rfl rfl fun h₃ hx₃ => ?_
    have k₃ : ∀ b o, h₂.get? b = some o → h₃.get? b = some o := fun b o q => hx₃ b o (Nat.ne_of_lt (Heap.lt_size q)) q
    have S₃ : OkB x G ((e, .obj oe) :: (C, .ns mC') :: (D, .obj (lst ys)) :: (cells' ++ ((it, .obj oit) :: T))) h₃ := ⟨S₂.st.ext k₃, S₂.base, S₂.fr⟩
    show wpAny _ x.A (do holding [v] (assign (.Name x0 px0) (cEnv scope cl C env) (.int i tki)); do holding [] (assign (.Name x1 px1) (cEnv scope cl C env) v); pure ()) _ _ _
    refine wpAny_bind (wpAny_holding (wpAny_assign_Name (block_put (s := ⟨h₃, s.gens, s.drawn, tk₁, s.os⟩) (T := (it, .obj oit) :: T) (ρl := []) (ρ := ρ) (ρv := ρv) (av := .int i) g hkind hin hap hce' (fun n av e => ((hr n av e).mono hG).keep fun p hp => List.mem_cons_of_mem _ hp) hv S₃ hc' (.inl hn0) (.int _ _) rfl (fun _ h => nomatch h) fun mC₄ cells₄ h₄ tk₄ hc₄ hm₄ S₄ => ?_)))
    have inv₄ : ∃ u, mC₄ x0 = some u ∧ VR G u (.int i) := by
      obtain ⟨u, Rd, V⟩ := NR.val rfl (S₄.rho x0 (.int i) (by simp))
      rcases Rd with ⟨_, m, hm, q⟩ | ⟨k, _⟩
      · have z := S₄.st.one hm (List.mem_cons_of_mem _ (List.mem_cons_self ..))
        cases z
        exact ⟨u, q, V⟩
      · rw [hn0] at k; rcases k with k | k <;> cases k
    refine wpAny_bind (wpAny_holding (wpAny_assign_Name (block_put (s := ⟨h₄, s.gens, s.drawn, tk₄, s.os⟩) (T := (it, .obj oit) :: T) (ρl := [(x0, .int i)]) (ρ := ρ) (ρv := ρv) (av := av) g hkind hin hap hce' (fun n av e => ((hr n av e).mono hG).keep fun p hp => List.mem_cons_of_mem _ hp) hv S₄.toOkB hc₄ (.inl hn1) (hvr.mono hG) (hpl av hmem)
      (fun p hp => by rw [List.mem_singleton.mp hp]; exact ⟨rfl, hn0, inv₄⟩) fun mC₅ cells₅ h₅ tk₅ hc₅ hm₅ S₅ => wpAny_pure ?_)))
    have hz : its.zipIdx[i]? = some (av, i) := by rw [List.getElem?_zipIdx, hav]; simp
    have back : ∀ {G' : Fz} {mC'' : Str → Option Value} {cells'' : Ow} {h₃ : Heap} {ys' : List Value}, Fz.le G G' → OkB x G' ((e, .obj oe) :: (C, .ns mC'') :: (D, .obj (lst ys')) :: (cells'' ++ ((it, .obj oit) :: T))) h₃ →
        ((∃ old, IsEnum h₃ e it (((i + 1 : Nat)) : Int) old) ∧ Sd (i + 1) h₃) ∧ OkB x G' ((e, .any) :: (C, .ns mC'') :: (D, .obj (lst ys')) :: (cells'' ++ ((it, .any) :: T))) h₃ := by
      intro G' mC'' cells'' h₉ ys' l S₉
      obtain ⟨o₁, e₁, q₁⟩ := S₉.st.own _ (List.mem_cons_self ..)
      cases q₁
      have S9' := S₉.st.perm (perm_in (e, Sp.obj oe) (C, Sp.ns mC'') (D, Sp.obj (lst ys')) (it, Sp.obj oit) cells'' T).symm
      obtain ⟨o₂, e₂, q₂⟩ := S9'.own (it, .obj oit) (List.mem_cons_of_mem _ (List.mem_cons_self ..))
      cases q₂
      refine ⟨⟨⟨old, by rw [← hoe] at e₁; exact e₁⟩, Dr.frame _ _ _ hsd₂ fun b hb o q => ?_⟩, ?_⟩
      · rcases hfp b hb with rfl | ⟨o', gg⟩
        · rw [hit₂] at q; cases q; exact e₂
        · have z1 := S₂.st.keep _ _ (hG.of _ _ gg)
          rw [q] at z1; cases z1
          exact S₉.st.keep _ _ ((hG.tr l).of _ _ gg)
      · refine S₉.mem (T' := (e, .any) :: (C, .ns mC'') :: (D, .obj (lst ys')) :: (cells'' ++ ((it, .any) :: T))) ?_ (Fz.rf _) fun a sp hm h1 _ _ => ?_
        · refine St.perm ?_ (perm_in _ _ _ _ _ _)
          refine (St.say (sp := .obj oe) ?_ e₁ trivial : St G' ((e, .any) :: (it, .any) :: (C, .ns mC'') :: (D, .obj (lst ys')) :: (cells'' ++ T)) h₉)
          exact (((S9'.swap).say (sp' := .any) e₂ trivial).swap : St G' ((e, .obj oe) :: (it, .any) :: (C, .ns mC'') :: (D, .obj (lst ys')) :: (cells'' ++ T)) h₉)
        · rcases List.mem_cons.mp hm with q | hm
          · cases q; exact absurd rfl (h1 _)
          · refine List.mem_cons_of_mem _ ?_
            rcases List.mem_cons.mp hm with q | hm
            · exact List.mem_cons.mpr (.inl q)
            · refine List.mem_cons_of_mem _ ?_
              rcases List.mem_cons.mp hm with q | hm
              · exact List.mem_cons.mpr (.inl q)
              · refine List.mem_cons_of_mem _ ?_
                rcases List.mem_append.mp hm with hm | hm
                · exact List.mem_append_left _ hm
                · rcases List.mem_cons.mp hm with q | hm
                  · cases q; exact absurd rfl (h1 _)
                  · exact List.mem_append_right _ (List.mem_cons_of_mem _ hm)
    refine (turn i av hav).run (s := ⟨h₅, s.gens, s.drawn, tk₅, s.os⟩) S₅ (fun bv y h₆ tk₆ G₆ hF l₆ S₆ hy => ?_) fun h₆ tk₆ G₆ hF l₆ S₆ => ?_
    · obtain ⟨oD, eD, qD⟩ := S₆.st.own (D, .obj (lst ys)) (List.mem_cons_of_mem _ (List.mem_cons_of_mem _ (List.mem_cons_self ..)))
      cases qD
      have hlen : ys.length ≤ i := by
        rw [hys.length]
        refine Nat.le_trans (List.length_filterMap_le ..) ?_
        rw [List.length_take]
        omega
      refine append_at (hsz := by show ys.toArray.size ≤ sizeLine; rw [List.size_toArray, sizeLine_eq]; omega) eD fun h₇ hs₇ hD₇ => ?_
      have S₇ : OkB x G₆ ((e, .obj oe) :: (C, .ns mC₅) :: (D, .obj (lst (ys ++ [y]))) :: (cells₅ ++ ((it, .obj oit) :: T))) h₇ := by
        have u := S₆.st.upd (a := D) (sp := .obj (lst (ys ++ [y]))) (List.mem_cons_of_mem _ (List.mem_cons_of_mem _ (List.mem_cons_self ..))) (fun b o hb e => hs₇.extBut b o hb e) (hD₇.trans (congrArg some (lst_snoc ys y))) rfl
        have nd := S₆.st.nd
        simp only [List.map_cons, List.nodup_cons, List.mem_cons, not_or] at nd
        have e' : setT D (.obj (lst (ys ++ [y]))) ((e, .obj oe) :: (C, .ns mC₅) :: (D, .obj (lst ys)) :: (cells₅ ++ ((it, .obj oit) :: T))) = (e, .obj oe) :: (C, .ns mC₅) :: (D, .obj (lst (ys ++ [y]))) :: (cells₅ ++ ((it, .obj oit) :: T)) := by
          rw [setT_cons_ne nd.1.2.1, setT_cons_ne nd.2.1.1, setT_cons_eq]
          intro p hp q
          exact nd.2.2.1 (List.mem_map.mpr ⟨p, hp, q⟩)
        rw [e'] at u
        refine S₆.toOkB.mem u (Fz.rf _) fun a sp hm h1 h2 h3 => ?_
        rcases List.mem_cons.mp hm with q | hm
        · exact List.mem_cons.mpr (.inl q)
        · refine List.mem_cons_of_mem _ ?_
          rcases List.mem_cons.mp hm with q | hm
          · exact List.mem_cons.mpr (.inl q)
          · refine List.mem_cons_of_mem _ ?_
            rcases List.mem_cons.mp hm with q | hm
            · cases q; exact absurd rfl (h1 _)
            · exact List.mem_cons_of_mem _ hm
      obtain ⟨s5, S8⟩ := back l₆ S₇
      exact ⟨its.length + 1 - (i + 1), by omega, .mk hlt rfl s5 (hG.tr l₆) hc₅ trivial S8 (by rw [take_fmG hz, hF]; exact (hys.mono l₆).append (.cons hy .nil))⟩
    · obtain ⟨s5, S8⟩ := back l₆ S₆.toOkB
      exact ⟨its.length + 1 - (i + 1), by omega, .mk hlt rfl s5 (hG.tr l₆) hc₅ trivial S8 (by rw [take_fmG hz, hF]; simpa using hys.mono l₆)⟩
  · obtain rfl : i = its.length := Nat.le_antisymm hi (Nat.not_lt.mp hlt)
    refine W.done _ _ _ hst fun h₂ tk₂ hk₂ => ?_
    have Sa := S'.perm (perm_in (e, Sp.any) (C, Sp.ns mC') (D, Sp.obj (lst ys)) (it, Sp.any) cells' T).symm
    have Sc : St G ((C, .ns mC') :: (D, .obj (lst ys)) :: (cells' ++ T)) h₂ := by
      have S0 := Sa.st.sub ((List.sublist_cons_self ..).trans (List.sublist_cons_self ..) : List.Sublist ((C, Sp.ns mC') :: (D, Sp.obj (lst ys)) :: (cells' ++ T)) ((e, Sp.any) :: (it, Sp.any) :: (C, Sp.ns mC') :: (D, Sp.obj (lst ys)) :: (cells' ++ T)))
      refine ⟨fun b o gb => hk₂ b o (fun hm => ?_) (S0.keep b o gb), fun p hp => ?_, S0.off, S0.nd⟩
      · rcases List.mem_cons.mp hm with q | hm
        · exact Sa.st.off _ (List.mem_cons_self ..) o (q ▸ gb)
        · exact Sa.st.off _ (List.mem_cons_of_mem _ (List.mem_cons_self ..)) o (List.mem_singleton.mp hm ▸ gb)
      · obtain ⟨o, ho, q⟩ := S0.own p hp
        refine ⟨o, hk₂ _ _ (fun hm => ?_) ho, q⟩
        rcases List.mem_cons.mp hm with z | hm
        · exact (List.nodup_cons.mp Sa.st.nd).1 (List.mem_map.mpr ⟨p, List.mem_cons_of_mem _ hp, z⟩)
        · exact (List.nodup_cons.mp (List.nodup_cons.mp Sa.st.nd).2).1 (List.mem_map.mpr ⟨p, hp, List.mem_singleton.mp hm⟩)
    have Sd' : OkB x G ((C, .ns mC') :: (D, .obj (lst ys)) :: (cells' ++ T)) h₂ := by
      refine ⟨Sc, fun b o q => (Sa.base b o q).imp id fun hm => ?_, ?_⟩
      · rcases List.mem_cons.mp hm with z | hm
        · cases z
        · rcases List.mem_cons.mp hm with z | hm
          · cases z
          · exact hm
      · obtain ⟨m, hm⟩ := Sa.fr
        refine ⟨m, ?_⟩
        rcases List.mem_cons.mp hm with z | hm
        · cases z
        · rcases List.mem_cons.mp hm with z | hm
          · cases z
          · exact hm
    exact done ys G mC' cells' h₂ tk₂ hG hc' Sd' (by rw [List.take_of_length_le (by simp)] at hys; exact hys)
end
end Mine
end
section
open PySem PySem.W PyProof.Rows PySem.Calls PySem.Spec
set_option Elab.async false
set_option maxRecDepth 100000
namespace Mine
open LCg
section
variable {w : World} {x : Cx} {env : Env} {ρ ρv : Rho} {T : Ow} {G G' : Fz}
set_option maxHeartbeats 1000000
/-- enumerate, called -/
theorem enumCall {G : Fz} {s : Shared} {Q E : Value → Shared → Prop} {v : Value} {av0 : AV} {xs : List AV} (hav : av0 = .list xs ∨ av0 = .tup xs) (S : OkB x G T s.heap) (r : VR G v av0)
    (k : ∀ (h' : Heap) (fp : List Addr) (P : Nat → Value → Prop) (Sd : Nat → Heap → Prop), Draws pg w x.A.in1 s.heap.objs.size fp xs.length P Sd → s.heap.objs.size + 1 ∉ fp → s.heap.objs.size ∈ fp → (∀ b ∈ fp, b = s.heap.objs.size ∨ ∃ o, G b o) → (∀ (i : Nat) (v : Value), i < xs.length → P i v → ∃ a, xs[i]? = some a ∧ VR G v a) →
      Sd 0 h' → IsEnum h' (s.heap.objs.size + 1) s.heap.objs.size 0 .none → h'.objs.size = s.heap.objs.size + 2 → (∀ b o, s.heap.get? b = some o → h'.get? b = some o) → Q (.ref (s.heap.objs.size + 1)) { s with heap := h' }) :
    wpAny (model pg w) x.A (call (.type "enumerate") [v]) Q E s := by
  have hh : x.A.in1.handled = none := x.hh
  rcases hav with rfl | rfl
  · cases r with | @list a o vs n _ g c d e q =>
    have hl : s.heap.IsList a vs.toArray := isListG S.st g c e
    have hlt : a < s.heap.objs.size := Heap.lt_size (S.st.keep _ _ g)
    refine call_enumerate_list hl fun h' he hit hsz hk => ?_
    refine k h' [s.heap.objs.size, a] (fun i v => vs.toArray[i]? = some v) (fun i h => h.IsListIter s.heap.objs.size a i ∧ h.IsList a vs.toArray) (by rw [← q.length]; exact Draws.list hh _ a (Nat.ne_of_lt hlt) vs.toArray) (fun hm => ?_) (List.mem_cons_self ..) (fun b hb => ?_) (fun i v hi hp => ?_) ⟨hit, hl.at fun o e => hk _ o e⟩ he hsz hk
    · rcases List.mem_cons.mp hm with z | hm
      · exact Nat.succ_ne_self _ z
      · exact Nat.ne_of_gt (Nat.lt_succ_of_lt hlt) (List.mem_singleton.mp hm)
    · rcases List.mem_cons.mp hb with rfl | hb
      · exact .inl rfl
      · rw [List.mem_singleton.mp hb]; exact .inr ⟨_, g⟩
    · exact q.get (by simpa using hp)
  · cases r with | @tup a o vs n _ g c e q =>
    have hl : s.heap.IsTuple a vs.toArray := ⟨o, S.st.keep _ _ g, c, n, e⟩
    have hlt : a < s.heap.objs.size := Heap.lt_size (S.st.keep _ _ g)
    refine call_enumerate_tuple hl fun h' he hit hsz hk => ?_
    refine k h' [s.heap.objs.size, a] (fun i v => vs.toArray[i]? = some v) (fun i h => h.IsTupleIter s.heap.objs.size a i ∧ h.IsTuple a vs.toArray) (by rw [← q.length]; exact drawsTuple hh _ a (Nat.ne_of_lt hlt) vs.toArray) (fun hm => ?_) (List.mem_cons_self ..) (fun b hb => ?_) (fun i v hi hp => ?_) ⟨hit, ⟨o, hk _ _ (S.st.keep _ _ g), c, n, e⟩⟩ he hsz hk
    · rcases List.mem_cons.mp hm with z | hm
      · exact Nat.succ_ne_self _ z
      · exact Nat.ne_of_gt (Nat.lt_succ_of_lt hlt) (List.mem_singleton.mp hm)
    · rcases List.mem_cons.mp hb with rfl | hb
      · exact .inl rfl
      · rw [List.mem_singleton.mp hb]; exact .inr ⟨_, g⟩
    · exact q.get (by simpa using hp)
theorem CompRE {elt arg : PySem.Expr} {x0 x1 : Str} {px0 px1 tp pf cp : Pos} {tk0 : Nat} {ifs : List PySem.Expr} {scope : Scope} {cl : List (Str × Addr)} {pos : Pos} {av0 : AV} {xs : List AV} (F : Nat → AV → Option AV) (ρv : Rho)
    (hx : x.Ok w) (harg : EV w x env ρ arg av0) (hav : av0 = .list xs ∨ av0 = .tup xs) (hlen : xs.length ≤ 16777216) (hpl : ∀ av ∈ xs, av.plain = true) (hne : x1 ≠ x0) (hke : env.kindOf (Str.ofString "enumerate") = some .globalImplicit)
    (hkind : scope.kind = .function) (hcl : ∀ p ∈ cl, p ∈ env.cells) (hcn : (cl.map (·.1)).Nodup)
    (hv : ∀ C, VisR env (cEnv scope cl C env) ρ ρv) (hn0 : ∀ C, (cEnv scope cl C env).kindOf x0 = some .local) (hn1 : ∀ C, (cEnv scope cl C env).kindOf x1 = some .local)
    (hturn : ∀ C, ∀ (i : Nat) (av : AV), xs[i]? = some av → TurnV w x (cEnv scope cl C env) ((x1, av) :: (x0, .int i) :: ρv) elt ifs (F i av))
    (hs : starEach [arg] env = (false, eval arg env) :: starEach [] env := by rfl) :
    CompR w x env ρ (.ListComp elt [⟨.Tuple [.Name x0 px0, .Name x1 px1] tk0 tp, .Call (.Name (Str.ofString "enumerate") pf) [arg] [] cp, ifs, 0⟩] scope pos) (.Call (.Name (Str.ofString "enumerate") pf) [arg] [] cp) scope cl (enumF F xs) := fun Gb T s E RR Sb kk => by
  refine Call_Name rfl ((EX_glob hx (gn_enumerate w) hke : EX w x env ρ (.Name _ pf) _) Gb T s _ _ Sb ?_)
  refine PyProof.Rows.callWith_type1 ?_ hs rfl
  refine (EVL_cons harg EVL_nil hs) Gb T s _ _ Sb fun vs h1 tk1 G l1 S r1 => ?_
  cases r1 with | cons r1 r =>
  cases r
  refine enumCall (s := ⟨h1, s.gens, s.drawn, tk1, s.os⟩) hav S.toOkB r1 fun hs' fp P Sd Dr hef hif hfp item now hen hsz2 hk => ?_
  dsimp only at Dr hef hif hfp now hen hsz2 hk ⊢
  refine wpAny_pyIter_enum hen ?_
  obtain ⟨oit, hit⟩ := Dr.live _ _ now
  have S1 : St G ([(h1.objs.size + 1, Sp.any), (h1.objs.size, Sp.any)] ++ T) hs' := by
    refine S.st.many hk _ (fun p hp => ?_) ?_
    · rcases List.mem_cons.mp hp with rfl | hp
      · exact ⟨Nat.le_succ _, _, hen, trivial⟩
      · cases List.mem_singleton.mp hp
        exact ⟨Nat.le_refl _, _, hit, trivial⟩
    · show [h1.objs.size + 1, h1.objs.size].Nodup
      refine List.nodup_cons.mpr ⟨fun hm => Nat.succ_ne_self _ (List.mem_singleton.mp hm), List.nodup_cons.mpr ⟨fun h => (nomatch h), List.nodup_nil⟩⟩
  refine wpAny_newObj_type (newEnv_comp ?_)
  dsimp only
  generalize hH2 : hs'.push { cls := .type "list", dict := none, data := .seq ([] : List Value).toArray } = H2
  have hC : H2.objs.size = hs'.objs.size + 1 := by rw [← hH2, Heap.size_push]
  generalize hH3 : H2.push { cls := .type "dict", data := .dict #[] } = H3
  have hC3 : H3.objs.size = H2.objs.size + 1 := by rw [← hH3, Heap.size_push]
  have S2 : St G ((hs'.objs.size, .obj (lst [])) :: (h1.objs.size + 1, Sp.any) :: (h1.objs.size, Sp.any) :: T) H2 := hH2 ▸ St.consPush (T := (h1.objs.size + 1, Sp.any) :: (h1.objs.size, Sp.any) :: T) S1 _ rfl
  have old : ∀ b o, H2.get? b = some o → (pushCells H3 scope.names).get? b = some o := fun b o e => pushCells_keeps _ _ _ _ (hH3 ▸ Heap.get?_push_of_some _ e)
  have old' : ∀ b o, hs'.get? b = some o → (pushCells H3 scope.names).get? b = some o := fun b o e => old b o (hH2 ▸ Heap.get?_push_of_some _ e)
  have nC : (pushCells H3 scope.names).Ns H2.objs.size (fun _ => none) := (hH3 ▸ Heap.Ns.new H2 (.type "dict")).keeps (pushCells_keeps _ _)
  have hcadr : ∀ b ∈ ownAdr (H2.objs.size + 1) scope.names, (pushCells H3 scope.names).get? b = some cell0 ∧ H2.objs.size + 1 ≤ b := fun b hb => by
    have z := ownAdr_at scope.names H3 b (by rw [hC3]; exact hb)
    rw [hC3] at z
    exact z
  have S3 : St G (((H2.objs.size, .ns fun _ => none) :: (ownAdr (H2.objs.size + 1) scope.names).map fun b => (b, Sp.cell none)) ++ ((hs'.objs.size, .obj (lst [])) :: (h1.objs.size + 1, .any) :: (h1.objs.size, Sp.any) :: T)) (pushCells H3 scope.names) := by
    refine S2.many old _ (fun p hp => ?_) ?_
    · rcases List.mem_cons.mp hp with rfl | hp
      · obtain ⟨o, ho, q⟩ := ns_obj nC
        exact ⟨Nat.le_refl _, o, ho, q⟩
      · obtain ⟨b, hb, rfl⟩ := List.mem_map.mp hp
        exact ⟨Nat.le_of_succ_le (hcadr b hb).2, cell0, (hcadr b hb).1, rfl⟩
    · rw [List.map_cons, List.map_map]
      have e : ((fun p : Addr × Sp => p.1) ∘ fun b => (b, Sp.cell none)) = id := rfl
      rw [e, List.map_id]
      exact List.nodup_cons.mpr ⟨fun hm => absurd (hcadr _ hm).2 (Nat.not_succ_le_self _), ownAdr_nd _ _⟩
  have S4 := S3.perm (comp_perm _ _ _ _ _)
  have S5 : OkB x G ((h1.objs.size + 1, .any) :: (H2.objs.size, .ns fun _ => none) :: (hs'.objs.size, .obj (lst [])) :: ((ownAdr (H2.objs.size + 1) scope.names).map (fun b => (b, Sp.cell none)) ++ ((h1.objs.size, Sp.any) :: T))) (pushCells H3 scope.names) :=
    S.toOkB.mem S4 (Fz.rf _) fun a sp hm _ _ _ => List.mem_cons_of_mem _ (List.mem_cons_of_mem _ (List.mem_cons_of_mem _ (List.mem_append_right _ (List.mem_cons_of_mem _ hm))))
  have hci : CellsIn (ownAdr (H2.objs.size + 1) scope.names) ((ownAdr (H2.objs.size + 1) scope.names).map fun b => (b, Sp.cell none)) := ⟨by rw [List.map_map]; exact List.map_id _, fun p hp => by obtain ⟨b, hb, rfl⟩ := List.mem_map.mp hp; exact ⟨none, rfl⟩⟩
  have now₁ : Sd 0 (pushCells H3 scope.names) := Dr.frame _ _ _ now fun b _ o e => old' b o e
  have hen₁ : IsEnum (pushCells H3 scope.names) (h1.objs.size + 1) h1.objs.size 0 .none := old' _ _ hen
  have hap : Apt (cEnv scope cl H2.objs.size env) := cellsFrom_nd _ _ _ (cl_nd S.ap hcl hcn) fun p hp => by
    obtain ⟨v, hm⟩ := S.ce p (hcl p hp)
    have z : @LT.lt Nat _ p.2 h1.objs.size := S.st.lt hm
    show @LT.lt Nat _ _ _
    omega
  refine codeAny_compStart_list ?_ (wpAny_pyIter_enum hen₁ ?_)
  all_goals
    refine vloopE (fp := fp) (P := P) (G₁ := G) (T := T) (its := xs) F Dr (Nat.succ_ne_self _) hef hif hfp item hlen now₁ ⟨_, hen₁⟩ hpl hne S.eg hkind (fun p hp => .inl (hcl p hp)) hap S.ce S.rho (hv _) (hn0 _) (hn1 _) S5 hci (hturn _) ?_
    intro ys G1 mC cells h tk hG hc S' hys
    have hfr := S.fr
    have sub : List.Sublist ((hs'.objs.size, Sp.obj (lst ys)) :: (H2.objs.size, .ns mC) :: T) ((hs'.objs.size, Sp.obj (lst ys)) :: (H2.objs.size, .ns mC) :: (cells ++ T)) := List.Sublist.cons_cons _ (List.Sublist.cons_cons _ (List.sublist_append_right ..))
    have Sa : St G1 ((hs'.objs.size, Sp.obj (lst ys)) :: (H2.objs.size, .ns mC) :: T) h := (S'.st.swap).sub sub
    have Sb' : OkB x G1 ((hs'.objs.size, Sp.obj (lst ys)) :: (H2.objs.size, .ns mC) :: T) h := S'.mem Sa (Fz.rf _) fun a sp hm h1 h2 h3 => by
      rcases List.mem_cons.mp hm with q | hm
      · rw [q]; exact List.mem_cons_of_mem _ (List.mem_cons_self ..)
      · rcases List.mem_cons.mp hm with q | hm
        · cases q; exact absurd rfl (h1 _)
        · rcases List.mem_append.mp hm with hm | hm
          · obtain ⟨v, e⟩ := hc.2 _ hm
            exact absurd e (h3 v)
          · exact List.mem_cons_of_mem _ (List.mem_cons_of_mem _ hm)
    have Sc := Sb'.freeze (let ⟨m, hm⟩ := hfr; ⟨m, List.mem_cons_of_mem _ hm⟩)
    exact kk _ _ mC _ h tk (l1.tr (hG.tr (Fz.le_add G1 _ _))) (Sb.more1 Sc (l1.tr (hG.tr (Fz.le_add G1 _ _)))) (.list (.inr ⟨rfl, rfl⟩) rfl ⟨rfl, rfl⟩ rfl (VRs.mono (Fz.le_add G1 _ _) hys))
end
end Mine
end
section
open PySem PySem.W PyProof.Rows PySem.Calls PySem.Spec
set_option Elab.async false
set_option maxRecDepth 100000
namespace Mine
open LCg
theorem primeG14 (w : World) : (kk.heap_1 w.params = kk.heap_1 w.params) ∧ PySem.Challenge.rw_wn0104_01 = PySem.Challenge.rw_wn0104_01 := by
  k_fill
  exact ⟨rfl, rfl⟩
section
variable {w : World} {x : Cx} {G : Fz} {T : Ow} {s : Shared} {A : Around}
theorem noLimit_of (hx : x.Ok w) (hkeep : ∀ b o, x.h₀.get? b = some o → s.heap.get? b = some o) : s.heap.NoLimit := let ⟨mc, a, b⟩ := hx.Tp.nolimit; ⟨mc, a.keeps hkeep, b⟩
theorem gen_callA {f : Addr} {name qual : Str} {params : Arguments} {body : List Stmt} {scope : Scope} {dV kV doc pm cdv ct oc : Value} {an od : Option Addr} {osl : Array (Option Value)} {binds : List (Str × Value)} {vs : List Value} {Q E : Value → Shared → Prop}
    (hx : x.Ok w) (hkeep : ∀ b o, x.h₀.get? b = some o → s.heap.get? b = some o) (ho : (kk.heap_1 w.params).lookup f = some ⟨oc, od, .func (fnOf name qual params body scope dV kV doc pm an cdv ct), osl⟩) (hcd : codeIn (kk.heap_1 w.params) cdv qual = true) (hroom : A.depth < recursionLimit)
    (hbind : BindsTo s (fnOf name qual params body scope dV kV doc pm an cdv ct) ⟨vs, []⟩ binds) (hloc : ∀ y ∈ binds, scope.names.lookup y.1 = some .local) (hcell : ∀ y ∈ scope.names, y.2 ≠ .cell)
    (hco : scope.isCoroutine = false) (hgen : scope.isGenerator = true) (hk : scope.kind = .function)
    (k : ∀ F a h' tk, h'.Ns F (fun y => binds.reverse.lookup y) → h'.IsGen a s.gens.size → (∀ b o, s.heap.get? b = some o → h'.get? b = some o) → s.heap.get? F = none → s.heap.get? a = none → a ≠ F → s.heap.objs.size ≤ F → s.heap.objs.size ≤ a →
      Q (.ref a) { s with heap := h', toks := tk, gens := s.gens.push (.fresh (.func body (genEnvOf qual scope F f cdv))) }) :
    wpAny (model pg w) A (call (.ref f) vs) Q E s := by
  refine wpAny_call ?_
  refine codeAny_call_generator hroom (hkeep _ _ (hx.K _ _ ho)) rfl hco hgen rfl (codeRec_of (fun b o e => hkeep _ _ (hx.K b o e)) hcd) ?_
  refine hbind _ _ _ _ ?_
  refine wpAny_newFunctionEnv hcell hloc (fun h' hn hs => ?_) hk
  have hlim : s.heap.NoLimit := noLimit_of hx hkeep
  have hkeep2 : ∀ b o, s.heap.get? b = some o → h'.get? b = some o := fun b o e => by
    have hb : b ≠ s.heap.objs.size := Nat.ne_of_lt (Heap.lt_size e)
    exact hs.extBut b o hb (Heap.get?_push_of_some _ e)
  have hsz : h'.objs.size = s.heap.objs.size + 1 := by rw [hs.1, Heap.size_push]
  refine ⟨let ⟨mc, a, b⟩ := hlim; ⟨mc, a.keeps hkeep2, b⟩, ?_⟩
  refine k s.heap.objs.size h'.objs.size _ _ (hn.push _) ⟨_, _, _, Heap.get?_push_size _ rfl, rfl, rfl, rfl⟩ (fun b o e => Heap.get?_push_of_some _ (hkeep2 b o e)) (none_size _) ?_ (by show @Ne Nat _ _; omega) (Nat.le_refl _) (by show @LE.le Nat _ _ _; omega)
  cases e : s.heap.get? h'.objs.size with
  | none => rfl
  | some o => have : @LT.lt Nat _ h'.objs.size s.heap.objs.size := Heap.lt_size e; omega
theorem raw_call {f : Addr} {name qual : Str} {params : Arguments} {body : List Stmt} {scope : Scope} {dV kV doc pm cdv ct oc : Value} {an od : Option Addr} {osl : Array (Option Value)} {binds : List (Str × Value)} {vs : List Value} {Q E : Value → Shared → Prop}
    (hx : x.Ok w) (hkeep : ∀ b o, x.h₀.get? b = some o → s.heap.get? b = some o) (ho : (kk.heap_1 w.params).lookup f = some ⟨oc, od, .func (fnOf name qual params body scope dV kV doc pm an cdv ct), osl⟩) (hcd : codeIn (kk.heap_1 w.params) cdv qual = true) (hroom : A.depth < recursionLimit)
    (hbind : BindsTo s (fnOf name qual params body scope dV kV doc pm an cdv ct) ⟨vs, []⟩ binds) (hloc : ∀ y ∈ binds, scope.names.lookup y.1 = some .local) (hcell : ∀ y ∈ scope.names, y.2 ≠ .cell)
    (hco : scope.isCoroutine = false) (hgen : scope.isGenerator = false) (hk : scope.kind = .function)
    (k : ∀ h₀ : Heap, h₀.Ns s.heap.objs.size (fun y => binds.reverse.lookup y) → (∀ b o, s.heap.get? b = some o → h₀.get? b = some o) →
      wpAny (model pg w) (A.deeper (genEnvOf qual scope s.heap.objs.size f cdv)) (execs body (genEnvOf qual scope s.heap.objs.size f cdv)) (fun fl s' => Q (match fl with | .ret v => v | _ => .none) s') (fun _ _ => False) { s with heap := h₀, toks := s.toks + binds.length }) :
    wpAny (model pg w) A (call (.ref f) vs) Q E s := by
  refine wpAny_call ?_
  refine codeAny_call_def hroom (hkeep _ _ (hx.K _ _ ho)) rfl (noLimit_of hx hkeep) (codeRec_of (fun b o e => hkeep _ _ (hx.K b o e)) hcd) rfl hbind hcell hloc (fun h₀ h1 h2 => ?_) hco hgen hk
  exact wpAny_mono (k h₀ h1 h2) (fun f s' p => p) fun _ _ e => e.elim
theorem sub_VE_exc : isSubtype (.type "ValueError") (.type "BaseException") = pure true := by rw [isSubtype_type]; kernel_rfl
theorem sub_VE_self : isSubtype (.type "ValueError") (.type "ValueError") = pure true := by rw [isSubtype_type]; kernel_rfl
theorem sub_VE_stop : isSubtype (.type "ValueError") (.type "StopIteration") = pure false := by rw [isSubtype_type]; kernel_rfl
theorem sub_VE_meta : isSubtype (.type ((Manifest.find? "ValueError").elim "type" fun x => x.metatype)) (.type "tuple") = pure false := by rw [isSubtype_type]; kernel_rfl
theorem callDef1 {n : Str} {p pos : Pos} {arg : PySem.Expr} {f : Addr} {o : Obj} {fd : FuncData} {env : Env} {Q E : Value → Shared → Prop} (hd : o.data = .func fd)
    (h : ∀ Q' E' : Value → Shared → Prop, Q' (.ref f) s → wpAny (model pg w) A (eval (.Name n p) env) Q' E' s)
    (ha : wpAny (model pg w) A (eval arg env) (fun v s₁ => s₁.heap.get? f = some o ∧ wpAny (model pg w) A (call (.ref f) [v]) Q E s₁) E s) (hse : starEach [arg] env = (false, eval arg env) :: starEach [] env := by rfl) :
    wpAny (model pg w) A (eval (.Call (.Name n p) [arg] [] pos) env) Q E s := by
  refine Call_Name rfl (h _ _ ?_)
  refine callWith_function (o := o) (fd := fd) ?_
  rw [hse]
  refine evalArgs_plain (spliced_cons (wpAny_mono ha (fun v s₁ h₁ => ?_) fun _ _ e => e))
  refine spliced_nil ?_
  refine ⟨⟨h₁.1, hd⟩, ?_⟩
  simp only [List.nil_append]
  exact h₁.2
theorem gen28A (w : World) : ∃ (name qual : Str) (params : Arguments) (body : List Stmt) (scope : Scope) (dV kV doc pm cdv ct oc : Value) (an od : Option Addr) (osl : Array (Option Value)),
    (kk.heap_1 w.params).lookup 28 = some ⟨oc, od, .func (fnOf name qual params body scope dV kV doc pm an cdv ct), osl⟩ ∧ codeIn (kk.heap_1 w.params) cdv qual = true ∧
    (∀ (s : Shared) (v : Value), BindsTo s (fnOf name qual params body scope dV kV doc pm an cdv ct) ⟨[v], []⟩ [(nG, v)]) ∧ scope.names.lookup nG = some .local ∧ (∀ y ∈ scope.names, y.2 ≠ .cell) ∧
    scope.isCoroutine = false ∧ scope.isGenerator = true ∧ scope.kind = .function ∧
    ∀ (x : Cx) (A : Around) (R : GenEnd) (Y : Protocol) (F a : Addr) (vs : Array Value) (base : Heap) (outer : List Env) (n : Nat) (s : Shared) (m : Str → Option Value) (t0 : Tok), x.Ok w → x.h₀.objs.size ≤ F → a ≠ F → vs[0]? = some (.int 0 t0) → A.handled = none → A.frames = some outer →
      s.heap.Ns F m → m nG = some (.ref a) → s.heap.IsList a vs → (∀ b o, x.h₀.get? b = some o → s.heap.get? b = some o) → base.StaysIn s.heap → base.get? F = none → (∀ h' : Heap, (∀ b o, b ≠ F → s.heap.get? b = some o → h'.get? b = some o) → h'.FunFrames base outer) →
      (∀ e a0 (s' : Shared), Heap.FlyingW base outer e (.type "ValueError") a0 s'.heap → s'.gens = s.gens → s'.drawn = s.drawn → s'.os = s.os → s.heap.get? e = none → (∃ h0 : Heap, (∀ b o, b ≠ F → s.heap.get? b = some o → h0.get? b = some o) ∧ h0.UpToSlots s'.heap) → R n s (.error (.ref e)) s') →
      Seg (model pg w) A R Y n s (.func body (genEnvOf qual scope F 28 cdv)) ((model pg w).den (.func body (genEnvOf qual scope F 28 cdv))) [] s := by
  refine ⟨_, _, _, _, _, _, _, _, _, _, _, _, _, _, _, by k_is, by k_is, fun _ _ => BindsTo.of_eq rfl, rfl, by decide, rfl, rfl, rfl, ?_⟩
  intro x A R Y F a vs base outer n s m t0 hx hF haF h0 hA hfr hn hm hl hb hbase hbF hout hR
  exact raiseSeg hx hF ⟨⟨rfl, rfl, rfl⟩, rfl, rfl, rfl, rfl, rfl, rfl⟩ rfl rfl rfl haF h0 hA hfr hn hm hl hb hbase hbF hout hR
end
end Mine
end
section
open PySem PySem.W PyProof.Rows PySem.Calls PySem.Spec
set_option Elab.async false
set_option maxRecDepth 100000
namespace Mine
open LCg
theorem primeG15 (w : World) : (kk.heap_1 w.params = kk.heap_1 w.params) ∧ PySem.Challenge.rw_wn0104_01 = PySem.Challenge.rw_wn0104_01 := by
  k_fill
  exact ⟨rfl, rfl⟩
section
variable {w : World} {x : Cx} {G : Fz} {T : Ow} {s : Shared} {A : Around}
set_option maxHeartbeats 1000000
theorem refused_v (hx : x.Ok w) (hou : x.outer = []) (hr : x.dp + 8 < recursionLimit) (row : List Int) : CallVG w x (.ref 98) [.list (iL (0 :: row))] (.bool true) := fun G T s Q E vs S r hbare k => by
  have eA : x.A = x.A0 := by rw [Cx.A, hx.hA]
  rw [eA]
  cases r with | cons r1 r =>
  cases r
  cases r1 with | @list a oa us ka _ ga ca da ea qa =>
  obtain ⟨m, hm⟩ := S.fr
  have hkeep : ∀ b o, x.h₀.get? b = some o → s.heap.get? b = some o := fun b o e => S.keep e
  have h0 : ∃ t0, us.toArray[0]? = some (.int 0 t0) := by
    cases qa with | cons q1 q2 =>
    cases q1 with | int _ t => exact ⟨t, by simp⟩
  obtain ⟨t0, h0⟩ := h0
  refine raw_call (binds := [(Str.ofString "row", .ref a)]) hx hkeep (by k_is) (by k_is) (show x.dp < _ by omega) (BindsTo.of_eq rfl) (fun y hy => by cases List.mem_singleton.mp hy; rfl) (by decide) rfl rfl rfl fun h₀ hn₀ hk₀ => ?_
  obtain ⟨name, qual, params, body, scope, dV, kV, doc, pm, cdv, ct, oc, an, od, osl, g1, g2, g3, g4, g5, g6, g7, g8, gseg⟩ := gen28A w
  refine wpAny_execs_cons (wpAny_Try_except (wpAny_execs_cons (wpAny_For ?_ (fun _ => rfl))))
  have hL'L : x.L < s.heap.objs.size := S.st.lt hm
  have hag : a < s.heap.objs.size := Heap.lt_size (S.st.keep _ _ ga)
  have haL : a ≠ x.L := fun q => S.st.off _ hm _ (q ▸ ga)
  generalize hE : genEnvOf (Str.ofString "_law_refused") _ s.heap.objs.size 98 _ = env'
  have eg : EnvG env' := by rw [← hE]; exact ⟨rfl, rfl, rfl⟩
  have eL : env'.locals = s.heap.objs.size := by rw [← hE]; rfl
  have ef : env'.frame = some s.heap.objs.size := by rw [← hE]; rfl
  have k1 : env'.kindOf (Str.ofString "_grouping_intervals") = some .globalImplicit := by rw [← hE]; rfl
  have k2 : env'.kindOf (Str.ofString "row") = some .local := by rw [← hE]; rfl
  have k3 : env'.kindOf (Str.ofString "ValueError") = some .globalImplicit := by rw [← hE]; rfl
  clear hE
  have hb0 : ∀ b o, x.h₀.get? b = some o → h₀.get? b = some o := fun b o e => hk₀ b o (hkeep b o e)
  have hxs : x.h₀.objs.size ≤ s.heap.objs.size := Nat.le_trans hx.above (Nat.le_of_lt hL'L)
  refine callDef1 (o := ⟨oc, od, .func (fnOf name qual params body scope dV kV doc pm an cdv ct), osl⟩) (fd := fnOf name qual params body scope dV kV doc pm an cdv ct) rfl (fun Q' E' h => g_glob hx ⟨hn₀, hb0, hxs⟩ eg (gn_group w) k1 h) ?_
  refine g_local eg eL k2 hn₀ (show _ = some (Value.ref a) from rfl) ⟨hb0 _ _ (hx.K _ _ g1), ?_⟩
  refine gen_callA (binds := [(nG, .ref a)]) hx hb0 g1 g2 (show x.dp + 1 < _ by omega) (g3 _ _) (fun y hy => by cases List.mem_singleton.mp hy; exact g4) g5 g6 g7 g8 fun F ag h2 tk2 hnF hgen hk2 hF0 hag0 hagF hFs hags => ?_
  refine wpAny_pyIter_gen hgen ?_
  dsimp only at hgen hk2 hF0 hag0 hFs hags ⊢
  have hs0 : s.heap.objs.size < h₀.objs.size := hn₀.lt
  have hLF : s.heap.objs.size ≠ F := Nat.ne_of_lt (Nat.lt_of_lt_of_le hs0 hFs)
  have hLF' : x.L ≠ F := Nat.ne_of_lt (Nat.lt_trans hL'L (Nat.lt_of_lt_of_le hs0 hFs))
  have kk : ∀ b o, s.heap.get? b = some o → h2.get? b = some o := fun b o e => hk2 b o (hk₀ b o e)
  have bk : ∀ b o, b ≠ x.L → s.heap.get? b = some o → (hideAll h2 [x.L, s.heap.objs.size, F]).get? b = some o := fun b o hb e => by
    refine hideAll_get _ (kk b o e) fun hmem => ?_
    have hlt : b < s.heap.objs.size := Heap.lt_size e
    rcases List.mem_cons.mp hmem with q | hmem
    · exact hb q
    · rcases List.mem_cons.mp hmem with q | hmem
      · rw [q] at hlt; exact Nat.lt_irrefl _ hlt
      · rw [List.mem_singleton.mp hmem] at hlt
        exact absurd hlt (Nat.not_lt.mpr (Nat.le_of_lt (Nat.lt_of_lt_of_le hs0 hFs)))
  obtain ⟨og, nmg, qng, hog, hcg, hdg, hsg⟩ := id hgen
  have bag : (hideAll h2 [x.L, s.heap.objs.size, F]).get? ag = some og := by
    refine hideAll_get _ hog fun hmem => ?_
    rcases List.mem_cons.mp hmem with q | hmem
    · rw [q] at hags; exact absurd (Nat.lt_trans hL'L hs0) (Nat.not_lt.mpr hags)
    · rcases List.mem_cons.mp hmem with q | hmem
      · rw [q] at hags; exact absurd hs0 (Nat.not_lt.mpr hags)
      · exact hagF (List.mem_singleton.mp hmem)
  have bF : (hideAll h2 [x.L, s.heap.objs.size, F]).get? F = none := hideAll_none _ (by simp)
  have bL' : (hideAll h2 [x.L, s.heap.objs.size, F]).get? s.heap.objs.size = none := hideAll_none _ (by simp)
  have bL : (hideAll h2 [x.L, s.heap.objs.size, F]).get? x.L = none := hideAll_none _ (by simp)
  have bs : (hideAll h2 [x.L, s.heap.objs.size, F]).StaysIn h2 := fun b o e => of_hideAll _ e
  generalize hideAll h2 [x.L, s.heap.objs.size, F] = base at bk bag bF bL' bL bs
  have nL' : h2.Ns s.heap.objs.size (fun y => [(Str.ofString "row", Value.ref a)].reverse.lookup y) := hn₀.keeps hk2
  obtain ⟨oL, hoL, qL⟩ := S.st.own _ hm
  have nL : h2.Ns x.L m := NsObj.ns qL (kk _ _ hoL)
  have frames : ∀ h' : Heap, (∀ b o, b ≠ F → h2.get? b = some o → h'.get? b = some o) → h'.FunFrames base (env' :: envX x.cn x.cs x.L x.a x.ccd x.cl :: x.outer) := fun h' hk' => by
    refine Heap.FunFrames.cons (by rw [eg.kind]; decide) ef (m := fun y => [(Str.ofString "row", Value.ref a)].reverse.lookup y) ?_ bL' ?_
    · obtain ⟨o, ho, q⟩ := ns_obj nL'
      exact NsObj.ns q (hk' _ _ hLF ho)
    · refine Heap.FunFrames.cons (show x.cs.kind ≠ _ by rw [hx.hk]; decide) rfl (m := m) ?_ bL (by rw [hou]; trivial)
      obtain ⟨o, ho, q⟩ := ns_obj nL
      exact NsObj.ns q (hk' _ _ hLF' ho)
  have hgs : (s.gens.push (.fresh (.func body (genEnvOf qual scope F 28 cdv))))[s.gens.size]? = some (.fresh (.func body (genEnvOf qual scope F 28 cdv))) := by simp
  have hli : h2.IsList a us.toArray := ⟨oa, kk _ _ (S.st.keep _ _ ga), ca, _, ea⟩
  have hbb : ∀ b o, x.h₀.get? b = some o → h2.get? b = some o := fun b o e => hk2 b o (hb0 b o e)
  refine codeAny_forLoop (fun k s' => s' = (⟨h2, s.gens.push (.fresh (.func body (genEnvOf qual scope F 28 cdv))), s.drawn, tk2, s.os⟩ : Shared)) ?_ 0 rfl (fun _ => rfl)
  rintro k' s' rfl
  refine pyNext_raises (n := 0) (P := fun s₀ e s₁ => s₁.gens = s₀.gens ∧ s₁.drawn = s₀.drawn ∧ s₁.os = s₀.os ∧ (∃ a0, Heap.FlyingW base (env' :: envX x.cn x.cs x.L x.a x.ccd x.cl :: x.outer) e (.type "ValueError") a0 s₁.heap) ∧ ∃ h0 : Heap, (∀ b o, b ≠ F → s₀.heap.get? b = some o → h0.get? b = some o) ∧ h0.UpToSlots s₁.heap) (Y := fun _ _ _ _ _ => False)
    (noLimit_of hx hbb) (show x.dp + 1 < _ by omega) hgen hgs ⟨rfl, ?_⟩ ?_ sub_VE_stop ?_
  · refine gseg x _ _ _ F a us.toArray base (env' :: envX x.cn x.cs x.L x.a x.ccd x.cl :: x.outer) 0 _ (fun y => [(nG, Value.ref a)].reverse.lookup y) t0 hx (Nat.le_trans hxs (Nat.le_trans (Nat.le_of_lt hs0) hFs)) (fun q => ?_) h0 rfl rfl hnF rfl hli hbb bs bF frames fun e a0 s' hfl e1 e2 e3 e4 e5 => ⟨e, rfl, hfl.there, e1, e2, e3, ⟨a0, hfl⟩, e5⟩
    rw [q] at hag
    exact absurd hag (Nat.not_lt.mpr (Nat.le_of_lt (Nat.lt_of_lt_of_le hs0 hFs)))
  · rintro e s₁ ⟨_, _, _, ⟨a0, hfl⟩, _⟩
    exact ⟨og, nmg, qng, hfl.1 _ _ bag, hcg, hdg, hsg⟩
  · rintro e ⟨h3, gs3, d3, tk3, os3⟩ ⟨rg, rd, ro, ⟨a0, hfl⟩, h0', k0, u0⟩
    dsimp only at rg rd ro hfl k0 u0
    subst rg; subst rd; subst ro
    refine wpAny_looks_onW rfl ef hfl fun h4 hh4 u4 => ?_
    refine cameW ef hh4 fun h5 hh5 u5 => ?_
    refine wpAny_noteFrame_againW ef hh5.2.2.2 ?_
    refine wpAny_landsW hh5 fun h6 hf6 u6 => ?_
    have up : h0'.UpToSlots h6 := ((u0.trans u4).trans u5).trans u6
    have nsAt : ∀ (c : Addr) (mm : Str → Option Value), c ≠ F → h2.Ns c mm → h6.Ns c mm := fun c mm hc hn => by
      obtain ⟨o, ho, q⟩ := ns_obj hn
      exact up.ns (NsObj.ns q (k0 _ _ hc ho))
    have b6 : ∀ b o, x.h₀.get? b = some o → h6.get? b = some o := fun b o e => hf6.1 b o (bk b o (fun q => by
      have : b < x.L := Nat.lt_of_lt_of_le (Heap.lt_size e) hx.above
      rw [q] at this; exact Nat.lt_irrefl _ this) (hkeep b o e))
    refine wpAny_handleBy_builtin (X := "ValueError") (T := "ValueError") (b := true) sub_VE_exc sub_VE_meta sub_VE_self ?_
    refine g_glob hx ⟨nsAt _ _ hLF nL', b6, hxs⟩ eg (gn_valueError w) k3 ⟨rfl, hf6.there, ?_⟩
    rw [if_pos rfl]
    refine wpAny_setFlight_noneW hf6.1 hf6.2.2.1 hf6.2.2.2.at fun h7 st7 _ _ kk7 => ?_
    refine wpAny_execs_cons (wpAny_Return_some ?_)
    have n7 : h7.Ns x.L m := by
      obtain ⟨o, ho, q⟩ := ns_obj (nsAt _ _ hLF' nL)
      refine Heap.UpToSlots.ns (h := h6) (fun b o' e' hn' => ⟨o'.slots, kk7 b o' e' hn'⟩) (NsObj.ns q ho)
    have S' : OkB x G T h7 := by
      refine ⟨⟨fun b o g => ?_, fun p hp => ?_, S.st.off, S.st.nd⟩, S.base, S.fr⟩
      · exact st7 b o (bk b o (fun q => S.st.off _ hm o (q ▸ g)) (S.st.keep _ _ g))
      · by_cases q : p.1 = x.L
        · obtain ⟨pa, sp⟩ := p
          dsimp only at q
          subst q
          have := S.st.one hp hm
          subst this
          obtain ⟨o, ho, q⟩ := ns_obj n7
          exact ⟨o, ho, q⟩
        · obtain ⟨o, ho, q'⟩ := S.st.own _ hp
          exact ⟨o, st7 _ _ (bk _ _ q ho), q'⟩
    have hb1 : AllBare (s.gens.push (.fresh (.func body (genEnvOf qual scope F 28 cdv)))) := hbare.push rfl
    have hb2 : AllBare ((({ s with gens := s.gens.push (.fresh (.func body (genEnvOf qual scope F 28 cdv))) } : Shared).setGen s.gens.size .running).setGen s.gens.size .finished).gens :=
      AllBare.setG (AllBare.setG (s := { s with gens := s.gens.push (.fresh (.func body (genEnvOf qual scope F 28 cdv))) }) hb1 rfl) rfl
    have fin := k (.bool true) h7 tk3 _ G hb2 (Fz.rf _) S' (.bool true)
    exact fun Γ p hΓ => wpAny_pure (M := model pg w) (A := (x.A0.deeper env').mark (some (.ref e))) (E := fun _ _ => False) (Q := fun v s' => Q v s') fin Γ p hΓ
end
end Mine
end
section
open PySem PySem.W PyProof.Rows PySem.Calls PySem.Spec
set_option Elab.async false
set_option maxRecDepth 100000
namespace Mine
open LCg
section
variable {prog : Program} {w : World} {A : Around} {E : Value → Shared → Prop}
theorem draw_list {it l : Addr} {items : Array Value} (hne : l ≠ it) : ∀ (n i : Nat) (s : Shared) (Q : List Value → Shared → Prop), s.heap.IsListIter it l i → s.heap.IsList l items → i + n ≤ items.size →
    (∀ h', h'.IsListIter it l (i + n) → h'.IsList l items → Heap.SameBut it s.heap h' → Q ((items.toList.drop i).take n) { s with heap := h' }) → wpAny (model prog w) A (draw (.ref it) n) Q E s := by
  intro n
  induction n with
  | zero =>
    intro i s Q hit hl _ hQ
    have z := hQ s.heap hit hl (Heap.SameBut.refl ..)
    rw [List.take_zero] at z
    exact wpAny_pure z
  | succ n ih =>
    intro i s Q hit hl hle hQ
    have hlt : i < items.size := by omega
    show wpAny _ _ (pyNext (.ref it) >>= _) Q E s
    refine wpAny_bind (wpAny_pyNext_list_item hit hl (x := items[i]) (by simp [hlt]) fun h₁ hit₁ hs₁ => ?_)
    refine wpAny_bind (wpAny_holding (ih (i + 1) _ _ hit₁ (hl.extBut hs₁.extBut hne) (by omega) fun h₂ hit₂ hl₂ hs₂ => wpAny_pure ?_))
    have z := hQ h₂ (by rw [show i + (n + 1) = i + 1 + n by omega]; exact hit₂) hl₂ (hs₁.trans hs₂)
    rw [show items.toList.drop i = items[i] :: items.toList.drop (i + 1) by simp [List.drop_eq_getElem_cons, hlt], List.take_succ_cons] at z
    exact z
theorem unpackItems_list {l : Addr} {items : Array Value} {s : Shared} {Q : List Value → Shared → Prop} (hh : A.handled = none) (hl : s.heap.IsList l items)
    (hQ : ∀ h', Heap.ExtBut s.heap.objs.size s.heap h' → Q items.toList { s with heap := h' }) : wpAny (model prog w) A (unpackItems (.ref l) items.size none) Q E s := by
  have hlt : l ≠ s.heap.objs.size := by obtain ⟨o, ho, _⟩ := hl; exact Nat.ne_of_lt (Heap.lt_size ho)
  unfold unpackItems
  refine wpAny_bind ?_
  unfold notIterableAtAll
  refine wpAny_bind (wpAny_specialOf hl.typeIs slot_list_iter.lookup (wpAny_pure ?_))
  simp only [Bool.false_eq_true, if_false]
  refine wpAny_bind (wpAny_holding (wpAny_pyIter_list hl ?_))
  refine wpAny_bind (wpAny_holding (draw_list hlt items.size 0 _ _ ⟨_, Heap.get?_push_size _ rfl, rfl, rfl⟩ (hl.push _) (by omega) fun h₁ hit₁ hl₁ hs₁ => ?_))
  rw [show List.take items.size (List.drop 0 items.toList) = items.toList by rw [List.drop_zero]; exact List.take_of_length_le (by simp), if_neg (by simp)]
  refine wpAny_bind (wpAny_holding (wpAny_pyNext_list_end hh hit₁ hl₁ (by simp) fun h₂ he₂ => ?_))
  simp only [Option.isSome_none, Bool.false_eq_true, if_false]
  exact wpAny_pure (hQ h₂ fun b o hb e => he₂ b o hb (hs₁.extBut b o hb (Heap.get?_push_of_some _ e)))
theorem assign_Tuple_list {env : Env} {elts : List PySem.Expr} {k : Nat} {pos : Pos} {l : Addr} {items : Array Value} {s : Shared} {Q : Unit → Shared → Prop} (hh : A.handled = none) (hl : s.heap.IsList l items)
    (hn : (assignEach elts env).length = items.size) (hstar : (assignEach elts env).findIdx? (·.1) = none)
    (h : ∀ h', Heap.ExtBut s.heap.objs.size s.heap h' → wpAny (model prog w) A (assignInOrder ((assignEach elts env).map (·.2)) items.toList) Q E { s with heap := h' }) :
    wpAny (model prog w) A (assign (.Tuple elts k pos) env (.ref l)) Q E s := by
  rw [arm_assign_Tuple]
  refine wpAny_bind (wpAny_standAt ?_)
  unfold unpack
  rw [hn, hstar]
  exact wpAny_bind (wpAny_holding (unpackItems_list hh hl h))
end
section
variable {w : World} {x : Cx} {env : Env} {ρ : Rho} {rest : List Stmt} {Ψ : Pst} {P : AV → Prop}
theorem Run_assign3 {n0 n1 n2 : Str} {p0 p1 p2 tp pos : Pos} {k : Nat} {e : PySem.Expr} {a0 a1 a2 : AV} (he : EV w x env ρ e (.list [a0, a1, a2])) (k0 : Kept env n0) (k1 : Kept env n1) (k2 : Kept env n2) (q0 : a0.plain = true) (q1 : a1.plain = true) (q2 : a2.plain = true)
    (H : Run w x env ((n2, a2) :: (n1, a1) :: (n0, a0) :: ρ) rest Ψ) (hs : swapsWithSole [.Tuple [.Name n0 p0, .Name n1 p1, .Name n2 p2] k tp] e pos.line env = pure false := by with_unfolding_all rfl) (hw : swappedStores [.Tuple [.Name n0 p0, .Name n1 p1, .Name n2 p2] k tp] e env = pure none := by with_unfolding_all rfl) :
    Run w x env ρ (.Assign [.Tuple [.Name n0 p0, .Name n1 p1, .Name n2 p2] k tp] e pos :: rest) Ψ := fun X G T s E S hX => by
  refine wpAny_execs_cons (PyProof.Rows.Assign_Tuple (he G T s _ _ S fun v h1 tk1 G1 l1 S1 r1 => ?_) hs hw)
  cases r1 with | @list a o vs n _ g c d e q =>
  cases q with | @cons v0 _ _ _ b0 q =>
  cases q with | @cons v1 _ _ _ b1 q =>
  cases q with | @cons v2 _ _ _ b2 q =>
  cases q
  have hl := isListG (s := ⟨h1, s.gens, s.drawn, tk1, s.os⟩) S1.st g c e
  refine assign_Tuple_list (s := ⟨h1, s.gens, s.drawn, tk1, s.os⟩) x.hh hl rfl rfl fun h2 hx2 => ?_
  have S2 : Ok x env ρ G1 T h2 := S1.ext fun b o q => hx2 b o (Nat.ne_of_lt (Heap.lt_size q)) q
  show wpAny _ x.A (do holding [v1, v2] (assign (.Name n0 p0) env v0); do holding [v2] (assign (.Name n1 p1) env v1); do holding [] (assign (.Name n2 p2) env v2); pure ()) _ _ _
  refine wpAny_bind (wpAny_holding (wpAny_assign_Name (storeV (s := ⟨h2, s.gens, s.drawn, tk1, s.os⟩) S2.toOkB S2.eg (S2.slot k0) fun T3 h3 tk3 P3 S3 => ?_)))
  have O3 := S2.put P3 S3 b0 q0
  have X3 := hX.put P3 S2.st
  refine wpAny_bind (wpAny_holding (wpAny_assign_Name (storeV (s := ⟨h3, s.gens, s.drawn, tk3, s.os⟩) O3.toOkB O3.eg (O3.slot k1) fun T4 h4 tk4 P4 S4 => ?_)))
  have O4 := O3.put P4 S4 b1 q1
  have X4 := X3.put P4 O3.st
  refine wpAny_bind (wpAny_holding (wpAny_assign_Name (storeV (s := ⟨h4, s.gens, s.drawn, tk4, s.os⟩) O4.toOkB O4.eg (O4.slot k2) fun T5 h5 tk5 P5 S5 => wpAny_pure ?_)))
  exact H.step (O4.put P5 S5 b2 q2) l1 (X4.put P5 O4.st)
/-- a call that makes generators, given to a name -/
theorem callG {G : Fz} {T : Ow} {s : Shared} {Q E : Value → Shared → Prop} {fn : Str} {pf cp : Pos} {arg : PySem.Expr} {f : Addr} {o : Obj} {fd : FuncData} {a0 av : AV} (hx : x.Ok w) (hf : EX w x env ρ (.Name fn pf) (.ref f)) (ha : EV w x env ρ arg a0) (hc : CallVG w x (.ref f) [a0] av)
    (ho : (kk.heap_1 w.params).lookup f = some o) (hd : o.data = .func fd) (S : Ok x env ρ G T s.heap) (hb : AllBare s.gens)
    (k : ∀ v h' tk' gs G', AllBare gs → Fz.le G G' → Ok x env ρ G' T h' → VR G' v av → Q v { s with heap := h', toks := tk', gens := gs }) (hse : starEach [arg] env = (false, eval arg env) :: starEach [] env := by rfl) :
    wpAny (model pg w) x.A (eval (.Call (.Name fn pf) [arg] [] cp) env) Q E s := by
  refine callDef1 (o := o) (fd := fd) hd (fun Q' E' h => hf G T s _ _ S h) (ha G T s _ _ S fun v h1 tk1 G1 l1 S1 r1 => ⟨S1.toOkB.keep (hx.K _ _ ho), ?_⟩) hse
  exact hc G1 T _ _ _ [v] S1.toOkB (.cons r1 .nil) hb fun u h2 tk2 gs G2 hb2 l2 S2 r2 => k u h2 tk2 gs G2 hb2 (l1.tr l2) (S1.toR l2 S2) r2
theorem RunG_assignG {n fn : Str} {p pf cp pos : Pos} {arg : PySem.Expr} {f : Addr} {o : Obj} {fd : FuncData} {a0 av : AV} (hx : x.Ok w) (hf : EX w x env ρ (.Name fn pf) (.ref f)) (ha : EV w x env ρ arg a0) (hc : CallVG w x (.ref f) [a0] av)
    (ho : (kk.heap_1 w.params).lookup f = some o) (hd : o.data = .func fd) (hk : Kept env n) (hp : av.plain = true) (H : RunG w x env ((n, av) :: ρ) rest P)
    (hs : swapsWith (.Call (.Name fn pf) [arg] [] cp) (some (.Name n p)) pos.line env = pure false := by rfl) (hse : starEach [arg] env = (false, eval arg env) :: starEach [] env := by rfl) :
    RunG w x env ρ (.Assign [.Name n p] (.Call (.Name fn pf) [arg] [] cp) pos :: rest) P := fun X G T s E S hX hb => by
  refine wpAny_execs_cons (wpAny_Assign_Name (callG hx hf ha hc ho hd S hb (fun v h1 tk1 gs G1 hb1 l1 S1 r1 => ?_) hse) hs)
  exact storeV (s := ⟨h1, gs, s.drawn, tk1, s.os⟩) S1.toOkB S1.eg (S1.slot hk) fun T' h' tk Pp S' => H.step (S1.put Pp S' r1 hp) l1 (hX.put Pp S1.st) hb1
theorem RunG_ifOrNot {fn : Str} {pf cp pn po pos : Pos} {e1 arg : PySem.Expr} {f : Addr} {o : Obj} {fd : FuncData} {a0 : AV} {body : List Stmt} (hx : x.Ok w) (h1 : EB w x env ρ e1 false) (hf : EX w x env ρ (.Name fn pf) (.ref f)) (ha : EV w x env ρ arg a0) (hc : CallVG w x (.ref f) [a0] (.bool true))
    (ho : (kk.heap_1 w.params).lookup f = some o) (hd : o.data = .func fd) (H : RunG w x env ρ rest P) (hse : starEach [arg] env = (false, eval arg env) :: starEach [] env := by rfl)
    (hpl : ∀ whole, isTrue (.Call (.Name fn pf) [arg] [] cp) env whole = (do let v ← whole; standAt (PySem.Expr.Call (.Name fn pf) [arg] [] cp).pos; holding [v] (truthy v)) := by intro _; rfl) :
    RunG w x env ρ (.If (.BoolOp .Or [e1, .UnaryOp .Not (.Call (.Name fn pf) [arg] [] cp) pn] po) body [] pos :: rest) P := fun X G T s E S hX hb => by
  refine wpAny_execs_cons (wpAny_If (isTrue_or (h1 G T s _ _ S fun h1 tk1 G1 l1 S1 => ?_)))
  refine isTrue_or (isTrue_not (isTrue_plain (callG (s := ⟨h1, s.gens, s.drawn, tk1, s.os⟩) hx hf ha hc ho hd S1 hb (fun v h2 tk2 gs G2 hb2 l2 S2 r2 => ?_) hse) (hpl _)))
  cases r2
  refine wpAny_truthy_bool (isTrue_or_nil ?_)
  refine wpAny_execs_nil ?_
  exact H.step S2 (l1.tr l2) hX hb2
end
end Mine
end
section
open PySem PySem.W PyProof.Rows PySem.Calls PySem.Spec
set_option Elab.async false
set_option maxRecDepth 100000
namespace Mine
noncomputable def keyL : List Nat → Nat
  | [p, q, r] => p * 65536 + q * 256 + r
  | _ => 0
noncomputable def keyS (y : Str) : Nat := keyL y.cps.toList
noncomputable def form3 : List Nat → Bool
  | [p, q, r] => decide (p < 256) && decide (q < 256) && decide (r < 256)
  | _ => false
theorem names_form : ∀ y ∈ namesAll, form3 y.cps.toList = true := by decide +kernel
theorem all3 {y : Str} (h : y ∈ namesAll) : ∃ p q r, y.cps.toList = [p, q, r] ∧ p < 256 ∧ q < 256 ∧ r < 256 := by
  have := names_form y h
  match hl : y.cps.toList, this with
  | [p, q, r], this =>
    rw [form3, Bool.and_eq_true, Bool.and_eq_true, decide_eq_true_eq, decide_eq_true_eq, decide_eq_true_eq] at this
    exact ⟨p, q, r, rfl, this.1.1, this.1.2, this.2⟩
theorem key_lt {y z : Str} (hy : y ∈ namesAll) (hz : z ∈ namesAll) : y.cps.toList < z.cps.toList ↔ keyS y < keyS z := by
  obtain ⟨p, q, r, e, h1, h2, h3⟩ := all3 hy
  obtain ⟨p', q', r', e', h1', h2', h3'⟩ := all3 hz
  unfold keyS
  rw [e, e']
  simp only [List.cons_lt_cons_iff, keyL]
  have : ¬ (([] : List Nat) < []) := List.lt_irrefl _
  simp only [this, and_false, or_false]
  omega
theorem key_ltC {y z : Str} (hy : y ∈ namesAll) (hz : z ∈ namesAll) : ltCps y.cps.toList z.cps.toList = decide (keyS y < keyS z) := by
  obtain ⟨p, q, r, e, h1, h2, h3⟩ := all3 hy
  obtain ⟨p', q', r', e', h1', h2', h3'⟩ := all3 hz
  unfold keyS
  rw [e, e', Bool.eq_iff_iff, decide_eq_true_iff]
  simp only [ltCps, keyL, Bool.or_eq_true, Bool.and_eq_true, decide_eq_true_eq, beq_iff_eq, Bool.false_eq_true, and_false, or_false]
  omega
theorem key_inj {y z : Str} (hy : y ∈ namesAll) (hz : z ∈ namesAll) (h : keyS y = keyS z) : y = z := by
  obtain ⟨p, q, r, e, h1, h2, h3⟩ := all3 hy
  obtain ⟨p', q', r', e', h1', h2', h3'⟩ := all3 hz
  unfold keyS at h
  rw [e, e'] at h
  simp only [keyL] at h
  have : y.cps.toList = z.cps.toList := by rw [e, e', show p = p' by omega, show q = q' by omega, show r = r' by omega]
  obtain ⟨a⟩ := y
  obtain ⟨b⟩ := z
  exact congrArg Str.mk (Array.toList_inj.mp this)
noncomputable def cmpN (i j : Nat) : Int := b2i (decide (j < i)) - b2i (decide (i < j))
noncomputable def extN (due : Int) (rows : List (List Nat)) : List (List Nat) := rows.flatMap fun row => ((List.range 5).filter fun n => !(row.any (· == n)) && cmpN (row.getLastD 0) n == due).map fun n => row ++ [n]
noncomputable def rowsN (rises : List Bool) : List (List Nat) := rises.foldl (fun rows r => extN (if r then -1 else 1) rows) ((List.range 5).map fun n => [n])
noncomputable def goodR (rows : List (List Nat)) : Prop := ∀ row ∈ rows, row ≠ [] ∧ ∀ i ∈ row, i < 5
theorem good_ext (due : Int) {rows : List (List Nat)} (h : goodR rows) : goodR (extN due rows) := by
  intro r hr
  obtain ⟨row, h1, h2⟩ := List.mem_flatMap.mp hr
  obtain ⟨n, h3, rfl⟩ := List.mem_map.mp h2
  refine ⟨by simp, fun i hi => ?_⟩
  rcases List.mem_append.mp hi with hi | hi
  · exact (h row h1).2 i hi
  · rw [List.mem_singleton.mp hi]; exact List.mem_range.mp (List.mem_filter.mp h3).1
theorem getLastD_map {α β : Type} (f : α → β) (a : α) (b : β) : ∀ {l : List α}, l ≠ [] → (l.map f).getLastD b = f (l.getLastD a)
  | l, h => by
    rw [List.getLastD_eq_getLast?, List.getLastD_eq_getLast?, List.getLast?_map, List.getLast?_eq_some_getLast h]; rfl
theorem getLastD_mem {α : Type} (a : α) {l : List α} (h : l ≠ []) : l.getLastD a ∈ l := by
  rw [List.getLastD_eq_getLast?, List.getLast?_eq_some_getLast h]; exact List.getLast_mem h
section
variable {zf : Nat → Str} (hi : ∀ i < 5, ∀ j < 5, (zf i == zf j) = (i == j)) (hc : ∀ i < 5, ∀ j < 5, cmpF (zf i) (zf j) = cmpN i j)
include hi hc
theorem ext_map (due : Int) : ∀ {rows : List (List Nat)}, goodR rows → extF ((List.range 5).map zf) due (rows.map fun r => r.map zf) = (extN due rows).map fun r => r.map zf
  | [], _ => rfl
  | row :: rows, h => by
    have ih := ext_map due (rows := rows) fun r hr => h r (List.mem_cons_of_mem _ hr)
    obtain ⟨hne, h5⟩ := h row (List.mem_cons_self ..)
    unfold extF extN at ih ⊢
    rw [List.map_cons, List.flatMap_cons, List.flatMap_cons, List.map_append, ih]
    congr 1
    rw [List.filter_map, List.map_map, List.map_map]
    have hf : (List.range 5).filter ((fun nm => !((row.map zf).any (· == nm)) && cmpF ((row.map zf).getLastD (Str.ofString "")) nm == due) ∘ zf) = (List.range 5).filter fun n => !(row.any (· == n)) && cmpN (row.getLastD 0) n == due := by
      refine List.filter_congr fun n hn => ?_
      have hn5 := List.mem_range.mp hn
      simp only [Function.comp_apply]
      rw [getLastD_map zf 0 _ hne, hc _ (h5 _ (getLastD_mem 0 hne)) _ hn5, List.any_map]
      have ha : ∀ l : List Nat, (∀ i ∈ l, i < 5) → (l.any ((· == zf n) ∘ zf)) = l.any (· == n) := by
        intro l
        induction l with
        | nil => intro _; rfl
        | cons i l ih =>
          intro h
          rw [List.any_cons, List.any_cons, ih fun j hj => h j (List.mem_cons_of_mem _ hj)]
          simp only [Function.comp_apply]
          rw [hi i (h i (List.mem_cons_self ..)) n hn5]
      rw [ha row h5]
    rw [hf]
    refine List.map_congr_left fun n _ => ?_
    simp only [Function.comp_apply, List.map_append, List.map_cons, List.map_nil]
theorem rows_map (rises : List Bool) : rowsF ((List.range 5).map zf) rises = (rowsN rises).map fun r => r.map zf := by
  unfold rowsF rowsN
  have key : ∀ (rises : List Bool) (rows : List (List Nat)), goodR rows → rises.foldl (fun rows r => extF ((List.range 5).map zf) (if r then -1 else 1) rows) (rows.map fun r => r.map zf) = (rises.foldl (fun rows r => extN (if r then -1 else 1) rows) rows).map fun r => r.map zf := by
    intro rises
    induction rises with
    | nil => intro rows _; rfl
    | cons r rs ih =>
      intro rows h
      rw [List.foldl_cons, List.foldl_cons, ext_map hi hc _ h]
      exact ih _ (good_ext _ h)
  refine (congrArg (fun l => rises.foldl _ l) ?_).trans (key rises _ ?_)
  · rw [List.map_map, List.map_map]; rfl
  · intro row hr
    obtain ⟨n, hn, rfl⟩ := List.mem_map.mp hr
    exact ⟨by simp, fun i hi => by rw [List.mem_singleton.mp hi]; exact List.mem_range.mp hn⟩
end
theorem good_rows (rises : List Bool) : goodR (rowsN rises) := by
  unfold rowsN
  have key : ∀ (rises : List Bool) (rows : List (List Nat)), goodR rows → goodR (rises.foldl (fun rows r => extN (if r then -1 else 1) rows) rows) := by
    intro rises
    induction rises with
    | nil => intro rows h; exact h
    | cons r rs ih => intro rows h; exact ih _ (good_ext _ h)
  refine key rises _ fun row hr => ?_
  obtain ⟨n, hn, rfl⟩ := List.mem_map.mp hr
  exact ⟨by simp, fun i hi => by rw [List.mem_singleton.mp hi]; exact List.mem_range.mp hn⟩
theorem flatMap_perm {α β : Type} {f g : α → List β} (h : ∀ a, (f a).Perm (g a)) : ∀ l : List α, (l.flatMap f).Perm (l.flatMap g)
  | [] => .refl _
  | a :: l => by rw [List.flatMap_cons, List.flatMap_cons]; exact (h a).append (flatMap_perm h l)
theorem ext_perm {names names' : List Str} (hn : names.Perm names') (due : Int) {rows rows' : List (List Str)} (hr : rows.Perm rows') : (extF names due rows).Perm (extF names' due rows') := by
  unfold extF
  exact (hr.flatMap_right _).trans (flatMap_perm (fun row => (hn.filter _).map _) _)
theorem rows_perm {names names' : List Str} (hn : names.Perm names') (rises : List Bool) : (rowsF names rises).Perm (rowsF names' rises) := by
  unfold rowsF
  have key : ∀ (rises : List Bool) (rows rows' : List (List Str)), rows.Perm rows' → (rises.foldl (fun rows r => extF names (if r then -1 else 1) rows) rows).Perm (rises.foldl (fun rows r => extF names' (if r then -1 else 1) rows) rows') := by
    intro rises
    induction rises with
    | nil => intro rows rows' h; exact h
    | cons r rs ih => intro rows rows' h; exact ih _ _ (ext_perm hn _ h)
  exact key rises _ _ (hn.map _)
noncomputable def dueStep (due : List Int) (r : Bool) : List Int := if r then (List.range (due.length + 1)).map fun p => (due.take p).sum else (List.range (due.length + 1)).map fun p => (due.drop p).sum
noncomputable def dueF (rises : List Bool) : List Int := rises.foldl dueStep [1]
noncomputable def words4 : List (List Bool) := [true, false].flatMap fun a => [true, false].flatMap fun b => [true, false].flatMap fun c => [true, false].map fun d => [a, b, c, d]
theorem mem_words4 {l : List Bool} (h : l.length = 4) : l ∈ words4 := by
  match l, h with
  | [a, b, c, d], _ => revert a b c d; decide
theorem due_rows : ∀ rises ∈ words4, (List.range 5).map (fun i => (((rowsN rises).filter fun r => r.getLastD 0 == i).length : Int)) = dueF rises := by decide +kernel
noncomputable def signF (r : Bool) : Str := if r then ⟨#[60]⟩ else ⟨#[62]⟩
noncomputable def wordF (rises : List Bool) : Str := Txt.join (Str.ofString "") (rises.map signF)
theorem due_roads : ∀ rises ∈ words4, roadsF (wordF rises) = (dueF rises).sum := by decide +kernel
theorem word_texts : ∀ rises ∈ words4, wordF rises ∈ textsF 4 ∧ (wordF rises).length = 4 ∧ (wordF rises).cps.toList.map (· == 60) = rises := by decide +kernel
end Mine
end
section
open PySem PySem.W PyProof.Rows PySem.Calls PySem.Spec
set_option Elab.async false
set_option maxRecDepth 100000
namespace Mine
noncomputable def sortN (names : List Str) : List Str := names.mergeSort fun a b => decide (keyS a ≤ keyS b)
theorem sort_perm (names : List Str) : (sortN names).Perm names := List.mergeSort_perm ..
theorem sort_le (names : List Str) : (sortN names).Pairwise fun a b => keyS a ≤ keyS b := by
  have := List.pairwise_mergeSort (le := fun a b : Str => decide (keyS a ≤ keyS b)) (fun a b c h1 h2 => by simp only [decide_eq_true_eq] at *; omega) (fun a b => by simp only [Bool.or_eq_true, decide_eq_true_eq]; omega) names
  exact this.imp fun h => by simpa using h
theorem rising_le : ∀ (l : List Str) (p : Str), p ∈ namesAll → (∀ y ∈ l, y ∈ namesAll) → risingS p l = true → (p :: l).Pairwise fun a b => keyS a ≤ keyS b
  | [], _, _, _, _ => List.pairwise_singleton ..
  | y :: r, p, hp, hl, h => by
    have hy := hl y (List.mem_cons_self ..)
    rw [risingS, Bool.and_eq_true, key_ltC hy hp] at h
    have h1 : keyS p ≤ keyS y := by simpa using h.1
    have ih := rising_le r y hy (fun z hz => hl z (List.mem_cons_of_mem _ hz)) h.2
    refine List.pairwise_cons.mpr ⟨fun z hz => ?_, ih⟩
    rcases List.mem_cons.mp hz with rfl | hz
    · exact h1
    · exact Nat.le_trans h1 ((List.pairwise_cons.mp ih).1 z hz)
theorem sorted_is {names ss : List Str} (hm : ∀ y ∈ names, y ∈ namesAll) (hp : ss.Perm names) (hs : sortedS ss = true) : ss = sortN names := by
  have hms : ∀ y ∈ ss, y ∈ namesAll := fun y h => hm y (hp.mem_iff.mp h)
  have h1 : ss.Pairwise fun a b => keyS a ≤ keyS b := by
    cases ss with
    | nil => exact .nil
    | cons y r => exact rising_le r y (hms y (List.mem_cons_self ..)) (fun z hz => hms z (List.mem_cons_of_mem _ hz)) hs
  refine List.Perm.eq_of_pairwise (fun a b ha hb h1 h2 => key_inj (hms a ha) (hm b ((sort_perm names).mem_iff.mp hb)) (Nat.le_antisymm h1 h2)) h1 (sort_le names) (hp.trans (sort_perm names).symm)
noncomputable def countS (rows : List (List Str)) (z : Str) : Int := ((rows.filter fun r => r.getLastD (Str.ofString "") == z).length : Int)
theorem counts {names : List Str} (hm : ∀ y ∈ names, y ∈ namesAll) (hnd : names.Nodup) (h5 : names.length = 5) {rises : List Bool} (hr : rises.length = 4) :
    (sortN names).map (countS (rowsF names rises)) = dueF rises := by
  have hz5 : (sortN names).length = 5 := (sort_perm names).length_eq.trans h5
  have hzm : ∀ y ∈ sortN names, y ∈ namesAll := fun y h => hm y ((sort_perm names).mem_iff.mp h)
  have hznd : (sortN names).Nodup := (sort_perm names).nodup_iff.mpr hnd
  have hlt : (sortN names).Pairwise fun a b => keyS a < keyS b := by
    refine List.Pairwise.imp_of_mem ?_ (List.Pairwise.and (sort_le names) hznd)
    intro a b ha hb h
    exact Nat.lt_of_le_of_ne h.1 fun e => h.2 (key_inj (hzm a ha) (hzm b hb) e)
  rw [← due_rows rises (mem_words4 hr)]
  generalize hzs : sortN names = zs at *
  have hpm : zs.Perm names := hzs ▸ sort_perm names
  let zf : Nat → Str := fun i => zs.getD i (Str.ofString "")
  have hget : ∀ i (h : i < 5), zf i = zs[i]'(hz5 ▸ h) := fun i h => by
    show zs.getD i _ = _
    rw [List.getD_eq_getElem?_getD, List.getElem?_eq_getElem (hz5 ▸ h)]; rfl
  have hzmap : zs = (List.range 5).map zf := by
    refine List.ext_getElem (by rw [List.length_map, List.length_range, hz5]) fun i h1 h2 => ?_
    rw [List.getElem_map, List.getElem_range, hget i (hz5 ▸ h1)]
  have hkey : ∀ i j, i < j → j < 5 → keyS (zf i) < keyS (zf j) := fun i j hij hj => by
    rw [hget i (Nat.lt_trans hij hj), hget j hj]
    exact List.pairwise_iff_getElem.mp hlt i j _ _ hij
  have hzf : ∀ i < 5, zf i ∈ namesAll := fun i h => by rw [hget i h]; exact hzm _ (List.getElem_mem _)
  have hkl : ∀ i < 5, ∀ j < 5, (keyS (zf i) < keyS (zf j) ↔ i < j) := fun i hi j hj => by
    refine ⟨fun h => ?_, fun h => hkey i j h hj⟩
    rcases Nat.lt_trichotomy i j with q | q | q
    · exact q
    · rw [q] at h; exact absurd h (Nat.lt_irrefl _)
    · exact absurd h (Nat.lt_asymm (hkey j i q hi))
  have hi : ∀ i < 5, ∀ j < 5, (zf i == zf j) = (i == j) := fun i hi j hj => by
    rw [Bool.eq_iff_iff, beq_iff_eq, beq_iff_eq]
    refine ⟨fun h => ?_, fun h => by rw [h]⟩
    have h1 := hkl i hi j hj
    have h2 := hkl j hj i hi
    rw [h] at h1 h2
    have h3 := Nat.lt_irrefl (keyS (zf j))
    omega
  have hc : ∀ i < 5, ∀ j < 5, cmpF (zf i) (zf j) = cmpN i j := fun i hi j hj => by
    unfold cmpF cmpN
    rw [show decide ((zf j).cps.toList < (zf i).cps.toList) = decide (j < i) from decide_eq_decide.mpr ((key_lt (hzf j hj) (hzf i hi)).trans (hkl j hj i hi)), show decide ((zf i).cps.toList < (zf j).cps.toList) = decide (i < j) from decide_eq_decide.mpr ((key_lt (hzf i hi) (hzf j hj)).trans (hkl i hi j hj))]
  have hcount : ∀ z, countS (rowsF names rises) z = countS (rowsF zs rises) z := fun z => congrArg Int.ofNat ((rows_perm hpm.symm rises).filter _).length_eq
  rw [hzmap, List.map_map]
  refine List.map_congr_left fun i hir => ?_
  have hi5 := List.mem_range.mp hir
  show countS (rowsF names rises) (zf i) = _
  rw [hcount, hzmap, rows_map hi hc rises]
  unfold countS
  rw [List.filter_map, List.length_map]
  congr 2
  refine List.filter_congr fun r hr => ?_
  obtain ⟨hne, h5'⟩ := good_rows rises r hr
  simp only [Function.comp_apply]
  rw [getLastD_map zf 0 _ hne, hi _ (h5' _ (getLastD_mem 0 hne)) _ hi5]
end Mine
end
section
open PySem PySem.W PyProof.Rows PySem.Calls PySem.Spec
set_option Elab.async false
set_option maxRecDepth 100000
namespace Mine
/-- the names -/
noncomputable def nm (a b p : Int) : Str := (Txt.item (Str.ofString "\"aA*") a ++ Txt.item (Str.ofString "\"aA*") b) ++ Txt.item (Str.ofString "01234") p
noncomputable def okN (a b p : Int) : Bool :=
  let y := nm a b p
  namesAll.any (· == y) && (y.cps.toList.getLastD 0 == 48 + p.toNat) && PyData.strOk y && y.length == 3 && ((Str.ofString "257 \"" ++ Txt.replace y (Str.ofString "\"") (Str.ofString "\"\"")) ++ Str.ofString "\" made" == respF y) &&
    decide ((Txt.replace y (Str.ofString "\"") (Str.ofString "\"\"")).length ≤ 10) && decide ((Txt.item (Str.ofString "\"aA*") a).length ≤ 1) && decide ((Txt.item (Str.ofString "\"aA*") b).length ≤ 1) && decide ((Txt.item (Str.ofString "01234") p).length ≤ 1)
theorem okN_all : ∀ a ∈ [(0 : Int), 1, 2, 3], ∀ b ∈ [(0 : Int), 1, 2, 3], ∀ p ∈ [(0 : Int), 1, 2, 3, 4], okN a b p = true := by decide +kernel
structure NameOk (y : Str) (p : Nat) : Prop where
  mem : y ∈ namesAll
  last : y.cps.toList.getLastD 0 = 48 + p
  ok : PyData.strOk y = true
  len : y.length = 3
  resp : (Str.ofString "257 \"" ++ Txt.replace y (Str.ofString "\"") (Str.ofString "\"\"")) ++ Str.ofString "\" made" = respF y
  rlen : (Txt.replace y (Str.ofString "\"") (Str.ofString "\"\"")).length ≤ 10
noncomputable def partF (ns : List Int) (p : Nat) : Int := (ns.getD (p % 4) 0).fdiv 4 + 7 * (p : Int)
noncomputable def nameF (ns : List Int) (p : Nat) : Str := nm ((partF ns p).fmod 4) (((partF ns p).fdiv 4).fmod 4) p
noncomputable def namesF (ns : List Int) : List Str := (List.range 5).map (nameF ns)
theorem mod4 (n : Int) : n.fmod 4 ∈ [(0 : Int), 1, 2, 3] := by
  have h1 : 0 ≤ n.fmod 4 := Int.fmod_nonneg_of_pos n (by decide)
  have h2 : n.fmod 4 < 4 := Int.fmod_lt_of_pos n (by decide)
  simp only [List.mem_cons, List.not_mem_nil, or_false]
  omega
theorem mod3 (n : Int) : n.fmod 3 ∈ [(0 : Int), 1, 2] := by
  have h1 : 0 ≤ n.fmod 3 := Int.fmod_nonneg_of_pos n (by decide)
  have h2 : n.fmod 3 < 3 := Int.fmod_lt_of_pos n (by decide)
  simp only [List.mem_cons, List.not_mem_nil, or_false]
  omega
theorem pl5 {p : Nat} (h : p < 5) : (p : Int) ∈ [(0 : Int), 1, 2, 3, 4] := by
  simp only [List.mem_cons, List.not_mem_nil, or_false]
  omega
theorem name_ok (ns : List Int) {p : Nat} (h : p < 5) : NameOk (nameF ns p) p := by
  have := okN_all _ (mod4 (partF ns p)) _ (mod4 ((partF ns p).fdiv 4)) _ (pl5 h)
  simp only [okN, Bool.and_eq_true, List.any_eq_true, beq_iff_eq, decide_eq_true_eq] at this
  obtain ⟨⟨⟨⟨⟨⟨⟨⟨⟨z, hz, e⟩, h2⟩, h3⟩, h4⟩, h5⟩, h6⟩, _⟩, _⟩, _⟩ := this
  exact ⟨by rw [nameF, ← e]; exact hz, h2.trans (by rw [Int.toNat_natCast]), h3, h4, h5, h6⟩
theorem names_len (ns : List Int) : (namesF ns).length = 5 := by rw [namesF, List.length_map, List.length_range]
theorem names_mem (ns : List Int) {y : Str} (h : y ∈ namesF ns) : ∃ p < 5, NameOk y p := by
  obtain ⟨p, hp, rfl⟩ := List.mem_map.mp h
  exact ⟨p, List.mem_range.mp hp, name_ok ns (List.mem_range.mp hp)⟩
theorem names_nd (ns : List Int) : (namesF ns).Nodup := by
  unfold namesF
  refine List.pairwise_map.mpr (List.Pairwise.imp_of_mem ?_ (List.nodup_range (n := 5)))
  intro a b ha hb hne e
  have h1 := (name_ok ns (List.mem_range.mp ha)).last
  have h2 := (name_ok ns (List.mem_range.mp hb)).last
  rw [e] at h1
  exact hne (by omega)
/-- the sizes -/
noncomputable def extR (r : Int) : List Int := if r = 0 then [0, 5] else if r = 1 then [127, 5] else []
noncomputable def rowL (f s t r : Int) : List Int := [f, s, t] ++ extR r
noncomputable def sumsL (f s t r : Int) : List Int := if r = 0 then [f, f + s, f + s + t] ++ [f + s + t + t, f + s + t + 2 * t] else [f, f + s, f + s + t]
noncomputable def fallsL (sums : List Int) : List Int := sums.zipIdx.filterMap fun p => if (((p.2 : Int) == 0) || decide (sums.getD (p.2 - 1) 0 < 5)) = true then some p.1 else none
noncomputable def outF (f s t : Int) (i : Nat) : Int := [f, s].getD i t
noncomputable def okM (f s t r : Int) : Bool :=
  (List.range 5).all (fun i => !((decide (i < 3) || (rowL f s t r)[3]? == some 0) && (List.range (i + 1)).all (fun k => decide (sumT (outF f s t) k ≤ 4)) && decide (4 < sumT (outF f s t) (i + 1))) || marksL (outF f s t) (i + 1) == fallsL (sumsL f s t r)) &&
    ((rowL f s t r)[3]? == some 0 || !((List.range 4).all fun k => decide (sumT (outF f s t) k ≤ 4)) || marksL (outF f s t) 3 == fallsL (sumsL f s t r))
theorem okM_all : ∀ f ∈ [(1 : Int), 2, 3, 4], ∀ s ∈ [(1 : Int), 2, 3, 4], ∀ t ∈ [(1 : Int), 2, 3, 4], ∀ r ∈ [(0 : Int), 1, 2], okM f s t r = true := by decide +kernel
theorem one4 (n : Int) : 1 + n.fmod 4 ∈ [(1 : Int), 2, 3, 4] := by
  have h1 : 0 ≤ n.fmod 4 := Int.fmod_nonneg_of_pos n (by decide)
  have h2 : n.fmod 4 < 4 := Int.fmod_lt_of_pos n (by decide)
  simp only [List.mem_cons, List.not_mem_nil, or_false]
  omega
theorem in4 {f : Int} (h : f ∈ [(1 : Int), 2, 3, 4]) : 1 ≤ f ∧ f ≤ 4 := by
  simp only [List.mem_cons, List.not_mem_nil, or_false] at h
  omega
section
variable {f s t r : Int} (hf : f ∈ [(1 : Int), 2, 3, 4]) (hs : s ∈ [(1 : Int), 2, 3, 4]) (ht : t ∈ [(1 : Int), 2, 3, 4]) (hr : r ∈ [(0 : Int), 1, 2])
include hf hs ht
theorem out_pos (i : Nat) : 1 ≤ outF f s t i := by
  have h1 := in4 hf
  have h2 := in4 hs
  have h3 := in4 ht
  match i with
  | 0 => exact h1.1
  | 1 => exact h2.1
  | i + 2 => exact h3.1
include hr
theorem falls_1 (i : Nat) (hi : i < 3 ∨ (rowL f s t r)[3]? = some 0) (h1 : ∀ k ≤ i, sumT (outF f s t) k ≤ 4) (h2 : 4 < sumT (outF f s t) (i + 1)) : marksL (outF f s t) (i + 1) = fallsL (sumsL f s t r) := by
  have hi5 : i < 5 := by
    have := sumT_ge (outF f s t) i fun k _ => out_pos hf hs ht k
    have := h1 i (Nat.le_refl _)
    omega
  have z := okM_all f hf s hs t ht r hr
  rw [okM, Bool.and_eq_true] at z
  have z1 := List.all_eq_true.mp z.1 i (List.mem_range.mpr hi5)
  rw [Bool.or_eq_true] at z1
  rcases z1 with z1 | z1
  · rw [Bool.not_eq_true'] at z1
    refine absurd ?_ (ne_true_of_eq_false z1)
    rw [Bool.and_eq_true, Bool.and_eq_true, Bool.or_eq_true, decide_eq_true_eq, decide_eq_true_eq, beq_iff_eq]
    exact ⟨⟨hi, List.all_eq_true.mpr fun k hk => decide_eq_true (h1 k (Nat.lt_succ_iff.mp (List.mem_range.mp hk)))⟩, h2⟩
  · exact beq_iff_eq.mp z1
theorem falls_2 (hne : (rowL f s t r)[3]? ≠ some 0) (h1 : ∀ k ≤ 3, sumT (outF f s t) k ≤ 4) : marksL (outF f s t) 3 = fallsL (sumsL f s t r) := by
  have z := okM_all f hf s hs t ht r hr
  rw [okM, Bool.and_eq_true, Bool.or_eq_true, Bool.or_eq_true, beq_iff_eq] at z
  rcases z.2 with (z | z) | z
  · exact absurd z hne
  · rw [Bool.not_eq_true'] at z
    refine absurd ?_ (ne_true_of_eq_false z)
    exact List.all_eq_true.mpr fun k hk => decide_eq_true (h1 k (Nat.lt_succ_iff.mp (List.mem_range.mp hk)))
  · exact beq_iff_eq.mp z
theorem row_gr (vs : List Value) (h : IntsAre vs (rowL f s t r)) : GR vs.toArray (rowL f s t r) (outF f s t) 3 := by
  have h1 := in4 hf
  have h2 := in4 hs
  have h3 := in4 ht
  have item : ∀ {vs : List Value} {row : List Int}, IntsAre vs row → ∀ (j : Nat) (i : Int), row[j]? = some i → ∃ t : Tok, vs[j]? = some (Value.int i t) := by
    intro vs row h
    induction h with
    | nil => intro j i e; simp at e
    | cons n t _ ih =>
      intro j i e
      cases j with
      | zero => rw [List.getElem?_cons_zero, Option.some.injEq] at e; subst e; exact ⟨t, rfl⟩
      | succ j => rw [List.getElem?_cons_succ] at e; rw [List.getElem?_cons_succ]; exact ih j i e
  refine ⟨?_, fun j i e => ?_, fun j hj => ?_, ?_⟩
  · rw [List.size_toArray]
    have len : ∀ {vs : List Value} {row : List Int}, IntsAre vs row → vs.length = row.length := by
      intro vs row h
      induction h with
      | nil => rfl
      | cons _ _ _ ih => rw [List.length_cons, List.length_cons, ih]
    exact len h
  · obtain ⟨t, e⟩ := item h j i e
    exact ⟨t, by rw [List.getElem?_toArray]; exact e⟩
  · match j, hj with
    | 0, _ => exact ⟨f, rfl, by omega, by omega, rfl⟩
    | 1, _ => exact ⟨s, rfl, by omega, by omega, rfl⟩
    | 2, _ => exact ⟨t, rfl, by omega, by omega, rfl⟩
  · simp only [List.mem_cons, List.not_mem_nil, or_false] at hr
    rcases hr with rfl | rfl | rfl
    · refine .inr (.inr ⟨rfl, by decide, fun i hi => ?_⟩)
      match i, hi with
      | i + 3, _ => rfl
    · exact .inr (.inl rfl)
    · exact .inl ⟨rfl, rfl⟩
end
end Mine
end
section
open PySem PySem.W PyProof.Rows PySem.Calls PySem.Spec
set_option Elab.async false
set_option maxRecDepth 100000
namespace Mine
/-- the due words -/
noncomputable def preW : List (List Bool) := [[]] ++ ([true, false].map fun a => [a]) ++ ([true, false].flatMap fun a => [true, false].map fun b => [a, b]) ++ ([true, false].flatMap fun a => [true, false].flatMap fun b => [true, false].map fun c => [a, b, c])
theorem mem_preW {l : List Bool} (h : l.length ≤ 3) : l ∈ preW := by
  match l, h with
  | [], _ => decide
  | [a], _ => revert a; decide
  | [a, b], _ => revert a b; decide
  | [a, b, c], _ => revert a b c; decide
noncomputable def condT (rise : Bool) (k p : Int) : Bool := if rise then (decide (256 + k - p < 256) == true) && (decide (256 ≤ 256 + k - p) == false) else (decide (256 ≤ 256 + k - p) == true) && (decide (256 + k - p < 256) == false)
noncomputable def toldV (rise : Bool) (told : List Int) (p : Nat) : Int := (((List.range told.length).filter fun k : Nat => condT rise (k : Int) (p : Int)).map fun k => told.getD k 0).sum
noncomputable def dueV (rise : Bool) (due : List Int) (p : Nat) : Int := if rise then (pickA due none (some (p : Int)) none).sum else (pickA due (some (p : Int)) none none).sum
theorem told_step : ∀ pre ∈ preW, ∀ r : Bool, (List.range ((dueF pre).length + 1)).map (toldV r (dueF pre)) = dueF (pre ++ [r]) := by decide +kernel
theorem due_step : ∀ pre ∈ preW, ∀ r : Bool, (List.range ((dueF pre).length + 1)).map (dueV r (dueF pre)) = dueF (pre ++ [r]) := by decide +kernel
theorem due_len : ∀ pre ∈ preW, (dueF pre).length ≤ 4 := by decide +kernel
theorem pickA_map {α β : Type} (f : α → β) (l : List α) (a b c : Option Int) : pickA (l.map f) a b c = (pickA l a b c).map f := by
  unfold pickA
  rw [List.length_map, List.map_filterMap]
  congr 1
  funext i
  rw [List.getElem?_map]
/-- the words -/
noncomputable def risesL (M : List Int) : List Bool := [(1 : Int), 2, 3, 4].map fun g => !(M.any (· == g))
theorem risesL_len (M : List Int) : (risesL M).length = 4 := rfl
theorem falls_len : ∀ f ∈ [(1 : Int), 2, 3, 4], ∀ s ∈ [(1 : Int), 2, 3, 4], ∀ t ∈ [(1 : Int), 2, 3, 4], ∀ r ∈ [(0 : Int), 1, 2], (fallsL (sumsL f s t r)).length ≤ 5 := by decide +kernel
end Mine
end
section
open PySem PySem.W PyProof.Rows PySem.Calls PySem.Spec
set_option Elab.async false
set_option maxRecDepth 100000
namespace Mine
open LCg
theorem primeM0 (w : World) : (kk.heap_1 w.params = kk.heap_1 w.params) ∧ PySem.Challenge.rw_wn0104_01 = PySem.Challenge.rw_wn0104_01 := by
  k_fill
  exact ⟨rfl, rfl⟩
theorem k60 (w : World) : ∃ o fd, (kk.heap_1 w.params).lookup 60 = some o ∧ o.data = .func fd := ⟨_, _, by k_is, rfl⟩
theorem k70 (w : World) : ∃ o fd, (kk.heap_1 w.params).lookup 70 = some o ∧ o.data = .func fd := ⟨_, _, by k_is, rfl⟩
theorem k77 (w : World) : ∃ o fd, (kk.heap_1 w.params).lookup 77 = some o ∧ o.data = .func fd := ⟨_, _, by k_is, rfl⟩
theorem k98 (w : World) : ∃ o fd, (kk.heap_1 w.params).lookup 98 = some o ∧ o.data = .func fd := ⟨_, _, by k_is, rfl⟩
theorem k105 (w : World) : ∃ o fd, (kk.heap_1 w.params).lookup 105 = some o ∧ o.data = .func fd := ⟨_, _, by k_is, rfl⟩
theorem k110 (w : World) : ∃ o fd, (kk.heap_1 w.params).lookup 110 = some o ∧ o.data = .func fd := ⟨_, _, by k_is, rfl⟩
theorem k122b (w : World) : ∃ o fd, (kk.heap_1 w.params).lookup 122 = some o ∧ o.data = .func fd := ⟨_, _, by k_is, rfl⟩
theorem k127 (w : World) : ∃ o fd, (kk.heap_1 w.params).lookup 127 = some o ∧ o.data = .func fd := ⟨_, _, by k_is, rfl⟩
section
variable {w : World} {x : Cx} {env : Env} {ρ : Rho}
theorem EV_eq {e : PySem.Expr} {a b : AV} (h : EV w x env ρ e a) (q : a = b) : EV w x env ρ e b := q ▸ h
theorem EB_eq {e : PySem.Expr} {a b : Bool} (h : EB w x env ρ e a) (q : a = b) : EB w x env ρ e b := q ▸ h
/-- a function of one name, called -/
theorem EV_call1 {n : Str} {p pos : Pos} {a : Addr} {e : PySem.Expr} {a0 av : AV} (hx : x.Ok w) (g : GN w n (.ref a)) (hk : env.kindOf n = some .globalImplicit) (he : EV w x env ρ e a0) (hc : CallV w x (.ref a) [a0] av) (ho : ∃ o fd, (kk.heap_1 w.params).lookup a = some o ∧ o.data = .func fd)
    (hd : (n == ("__debug__" : Str)) = false := by decide) (hs : starEach [e] env = (false, eval e env) :: starEach [] env := by rfl) : EV w x env ρ (.Call (.Name n p) [e] [] pos) av := by
  obtain ⟨o, fd, h1, h2⟩ := ho
  exact EV_callF hx (EX_glob hx g hk hd) (EVL_cons he EVL_nil hs) hc h1 h2 hs
theorem EV_call2 {n : Str} {p pos : Pos} {a : Addr} {e f : PySem.Expr} {a0 a1 av : AV} (hx : x.Ok w) (g : GN w n (.ref a)) (hk : env.kindOf n = some .globalImplicit) (he : EV w x env ρ e a0) (hf : EV w x env ρ f a1) (hc : CallV w x (.ref a) [a0, a1] av) (ho : ∃ o fd, (kk.heap_1 w.params).lookup a = some o ∧ o.data = .func fd)
    (hd : (n == ("__debug__" : Str)) = false := by decide) (hs : starEach [e, f] env = (false, eval e env) :: starEach [f] env := by rfl) (hs2 : starEach [f] env = (false, eval f env) :: starEach [] env := by rfl) : EV w x env ρ (.Call (.Name n p) [e, f] [] pos) av := by
  obtain ⟨o, fd, h1, h2⟩ := ho
  exact EV_callF hx (EX_glob hx g hk hd) (EVL_cons he (EVL_cons hf EVL_nil hs2) hs) hc h1 h2 hs
theorem steps_get {n i : Nat} {a : AV} (h : (steps 0 1 n)[i]? = some a) : i < n ∧ a = .int (i : Int) := by
  rw [steps, List.getElem?_map, Option.map_eq_some_iff] at h
  obtain ⟨j, hj, rfl⟩ := h
  have hij : i < n := by
    have := (List.getElem?_eq_some_iff.mp hj).1
    rwa [List.length_range] at this
  rw [List.getElem?_range hij] at hj
  cases hj
  exact ⟨hij, by rw [Int.mul_one, Int.zero_add]⟩
theorem steps_mem {n : Nat} {a : AV} (h : a ∈ steps 0 1 n) : ∃ i : Nat, i < n ∧ a = .int (i : Int) := by
  obtain ⟨i, hi, e⟩ := List.mem_iff_getElem.mp h
  exact ⟨i, steps_get (List.getElem?_eq_some_iff.mpr ⟨hi, e⟩)⟩
theorem steps_len (n : Nat) : (steps 0 1 n).length = n := by rw [steps, List.length_map, List.length_range]
/-- a comprehension over a range -/
theorem steps_map (n : Nat) (f : Nat → Int) : (steps 0 1 n).filterMap (fun a => some (.int (f (vInt a).toNat))) = iL ((List.range n).map f) := by
  rw [steps, List.filterMap_map, iL, List.map_map]
  have e : ((fun a => some (AV.int (f (vInt a).toNat))) ∘ fun (i : Nat) => AV.int (0 + (i : Int) * 1)) = fun i => some ((AV.int ∘ f) i) := by
    funext i
    show some (AV.int (f (0 + (i : Int) * 1).toNat)) = some (AV.int (f i))
    rw [Int.mul_one, Int.zero_add, Int.toNat_natCast]
  rw [e]
  exact congrFun (List.filterMap_eq_map (f := AV.int ∘ f)) _
theorem told_map (n : Nat) (c : Int → Bool) (g : Nat → Int) : (steps 0 1 n).filterMap (fun a => if c (vInt a) = true then some (.int (g (vInt a).toNat)) else none) = iL (((List.range n).filter fun k : Nat => c (k : Int)).map g) := by
  rw [steps, List.filterMap_map, iL, List.map_map]
  refine fm_filter (List.range n) fun i _ => ?_
  show (if c (0 + (i : Int) * 1) = true then some (AV.int (g (0 + (i : Int) * 1).toNat)) else none) = _
  rw [Int.mul_one, Int.zero_add, Int.toNat_natCast]; rfl
noncomputable def vBool : AV → Bool
  | .bool b => b
  | _ => false
noncomputable def lineF (z : Str) : AV → Option AV
  | .list xs => if ((xs.map toS).getLastD (Str.ofString "") == z) = true then some (.list xs) else none
  | _ => none
theorem lineF_eq (z : Str) (row : List Str) : lineF z (.list (sL row)) = if (row.getLastD (Str.ofString "") == z) = true then some (.list (sL row)) else none := by
  simp only [lineF, toS_map]
theorem lines_eq (z : Str) (rows : List (List Str)) : ((rL rows).filterMap (lineF z)).length = (rows.filter fun r => r.getLastD (Str.ofString "") == z).length := by
  rw [rL, List.filterMap_map, fm_filter (g := lineF z ∘ fun r => AV.list (sL r)) (c := fun r : List Str => r.getLastD (Str.ofString "") == z) (f := fun r => AV.list (sL r)) rows fun r _ => lineF_eq z r, List.length_map]
theorem range_it {n : Nat} (h : n < 1000) : ItV w (.rng 0 (n : Int) 1) (steps 0 1 n) := .rng (small_up h) (size_up n)
end
end Mine
end
section
open PySem PySem.W PyProof.Rows PySem.Calls PySem.Spec
set_option Elab.async false
set_option maxRecDepth 100000
namespace Mine
open LCg
theorem primeM1 (w : World) : (kk.heap_1 w.params = kk.heap_1 w.params) ∧ PySem.Challenge.rw_wn0104_01 = PySem.Challenge.rw_wn0104_01 := by
  k_fill
  exact ⟨rfl, rfl⟩
noncomputable def sumP (ws : List Int) (p : Nat) : Int := ((pickA ws (some (p : Int)) (some 63) (some 4)).map fun x => x.fmod ((10 : Int) ^ ((6 : Int).toNat))).sum
noncomputable def numsF (ws : List Int) : List Int := [5 + sumP ws 0, 8 + sumP ws 1, 6 + sumP ws 2, 9 + sumP ws 3]
theorem slice_size : ∀ n < 64, ∀ p < 4, (sliceRange (sliceBounds (some ((p : Nat) : Int)) (some 63) (some 4) n).1 (sliceBounds (some ((p : Nat) : Int)) (some 63) (some 4) n).2.1 (sliceBounds (some ((p : Nat) : Int)) (some 63) (some 4) n).2.2).length ≤ 63 := by decide +kernel
theorem pickA_size {α : Type} (l : List α) (hl : l.length ≤ 63) (p : Nat) (hp : p < 4) : (pickA l (some (p : Int)) (some 63) (some 4)).length ≤ 16777216 := by
  have h := slice_size l.length (by omega) p hp
  unfold pickA
  exact Nat.le_trans (List.length_filterMap_le ..) (Nat.le_trans h (by decide))
theorem fmodI (i : Nat) (h : i < 5) : ((i : Int)).fmod 4 = ((i % 4 : Nat) : Int) := by
  revert i; decide
section
variable {w : World} {x : Cx}
set_option maxHeartbeats 1000000
theorem law_run (hx : x.Ok w) (hou : x.outer = []) (hdp : x.dp + 40 < recursionLimit) (hun : x.un + 400 < cLine) (ws : List Int) (hws : ws.length ≤ 63) : ∃ (name qual : Str) (params : Arguments) (body : List Stmt) (scope : Scope) (dV kV doc pm cdv ct oc : Value) (an od : Option Addr) (osl : Array (Option Value)),
    (kk.heap_1 w.params).lookup 132 = some ⟨oc, od, .func (fnOf name qual params body scope dV kV doc pm an cdv ct), osl⟩ ∧
    ∀ (fa : Addr) (cd : Value), RunG w x (envOfC qual scope x.L fa cd) [(Str.ofString "script", .list (iL ws))] body (fun a => a = .bool true) := by
  refine ⟨_, _, _, _, _, _, _, _, _, _, _, _, _, _, _, by k_is, fun fa cd => ?_⟩
  -- numbers
  refine RunG_step (B := fun ρ' => SubR [(Str.ofString "numbers", .list (iL (numsF ws))), (Str.ofString "script", .list (iL ws))] ρ') (Run_compR (cl := [(Str.ofString "script", x.L + 1)]) (CompRE (xs := [.int 5, .int 8, .int 6, .int 9]) (fun i av => some (.int (vInt av + sumP ws i))) [(Str.ofString "script", .list (iL ws))] hx (EV_tup (EVL_cons EV_int (EVL_cons EV_int (EVL_cons EV_int (EVL_cons EV_int EVL_nil)))) (by simp)) (.inr rfl) (by simp) ?_ (by decide) rfl rfl ?_ (by show [Str.ofString "script"].Nodup; decide +kernel) ?_ (fun _ => rfl) (fun _ => rfl) ?_) (by with_unfolding_all rfl) rfl (by decide) (.inl rfl) (by with_unfolding_all rfl) (Run_nil ⟨rfl, rfl, trivial⟩)) ?_
  · intro av h
    simp only [List.mem_cons, List.not_mem_nil, or_false] at h
    rcases h with rfl | rfl | rfl | rfl <;> rfl
  · exact List.forall_mem_cons.mpr ⟨mem_of_lookup rfl, List.forall_mem_nil _⟩
  · intro C
    exact List.forall_mem_cons.mpr ⟨⟨rfl, rfl, .inl rfl, .inl rfl, rfl⟩, List.forall_mem_nil _⟩
  · intro C i av h
    have hi : i < 4 := (List.getElem?_eq_some_iff.mp h).1
    have hk : ∃ k : Int, av = .int k := by
      have h := List.mem_of_getElem? h
      simp only [List.mem_cons, List.not_mem_nil, or_false] at h
      rcases h with rfl | rfl | rfl | rfl <;> exact ⟨_, rfl⟩
    obtain ⟨k, rfl⟩ := hk
    refine .all (EV_bin (EV_name rfl) (EV_callB (EX_glob hx (gn_sum w) rfl) (EVL_cons (EV_eq (EV_compR (cl := []) (CompR1 (av := .list (pickA (iL ws) (some (i : Int)) (some 63) (some 4))) (fun av => some (.int ((vInt av).fmod ((10 : Int) ^ ((6 : Int).toNat))))) [] (EV_slice hx (EV_name rfl) (.some (EV_name rfl)) (.some EV_int) (.some EV_int) (by decide) (by rw [List.length_map]; omega)) .list ?_ ?_ rfl (fun _ h => nomatch h) List.nodup_nil (fun _ _ h => nomatch h) (fun _ => .inl rfl) ?_) (by with_unfolding_all rfl) rfl (by decide)) ?_) EVL_nil) CallV_sum) BV_add)
    · rw [show (iL ws : List AV) = ws.map AV.int from rfl, pickA_map, List.length_map]
      exact pickA_size ws hws i hi
    · intro av h
      rw [show (iL ws : List AV) = ws.map AV.int from rfl, pickA_map] at h
      obtain ⟨k, _, rfl⟩ := List.mem_map.mp h
      rfl
    · intro C2 av h
      rw [show (iL ws : List AV) = ws.map AV.int from rfl, pickA_map] at h
      obtain ⟨k, _, rfl⟩ := List.mem_map.mp h
      refine .all (EV_bin (EV_name rfl) (EV_bin EV_int EV_int (BV_pow (by decide) (by decide) (by decide))) (BV_mod (by decide)))
    · rw [show (iL ws : List AV) = ws.map AV.int from rfl, pickA_map, List.filterMap_map]
      show AV.list _ = AV.list (List.map AV.int (List.map _ _))
      rw [List.map_map]
      exact congrArg AV.list (congrFun (List.filterMap_eq_map (f := fun k : Int => AV.int (k.fmod ((10 : Int) ^ ((6 : Int).toNat))))) _)
  intro ρ1 h1
  refine RunG_sub h1 ?_
  clear h1 ρ1
  generalize hns : numsF ws = ns
  obtain ⟨n0, n1, n2, n3, hn⟩ : ∃ n0 n1 n2 n3, ns = [n0, n1, n2, n3] := ⟨_, _, _, _, hns.symm⟩
  clear hns
  -- names
  refine RunG_step (B := fun ρ' => ρ' = _) (Run_new (.inl rfl) rfl (Run_nil rfl)) ?_
  rintro _ rfl
  refine RunG_step (B := fun ρ' => SubR [(Str.ofString "names", .list (sL (namesF ns))), (Str.ofString "numbers", .list (iL ns)), (Str.ofString "script", .list (iL ws))] ρ') (Run_for (fun i ρ' => SubR [(Str.ofString "names", .own (sL ((List.range i).map (nameF ns)))), (Str.ofString "numbers", .list (iL ns)), (Str.ofString "script", .list (iL ws))] ρ') (EV_callT (EX_glob hx (gn_range w) rfl) (EVL_cons EV_int EVL_nil) (CallV_range1 hx)) (range_it (n := 5) (by decide)) (.inl rfl) ?_ ⟨rfl, rfl, rfl, trivial⟩ ?_ ?_) ?_
  · intro a ha
    obtain ⟨i, _, rfl⟩ := steps_mem ha
    rfl
  · intro i a ρ' hi hJ
    obtain ⟨hi5, rfl⟩ := steps_get hi
    refine Run_sub (SubR_in hJ rfl) ?_
    have h4 : i % 4 < 4 := Nat.mod_lt _ (by decide)
    have hget : (iL ns)[((i : Int).fmod 4).toNat]? = some (.int (ns.getD (i % 4) 0)) := by
      rw [fmodI i hi5, Int.toNat_natCast, List.getElem?_map, List.getD_eq_getElem?_getD, List.getElem?_eq_getElem (by rw [hn]; exact h4)]
      rfl
    refine Run_assign (av := .int (partF ns i)) (EV_bin (EV_bin (EV_item (EV_name rfl) (EV_bin (EV_name rfl) EV_int (BV_mod (by decide))) ?_ hget ?_) EV_int (BV_div (by decide) (PyProof.noPylong_small (by decide)))) (EV_bin EV_int (EV_name rfl) (BV_mul (IntMulOk.of_left (by decide)))) BV_add) (.inl rfl) rfl ?_
    · rw [fmodI i hi5]; omega
    · rw [fmodI i hi5]; omega
    have ma : ∀ n : Int, 0 ≤ n.fmod 4 ∧ n.fmod 4 < 4 := fun n => ⟨Int.fmod_nonneg_of_pos n (by decide), Int.fmod_lt_of_pos n (by decide)⟩
    have it1 := okN_all _ (mod4 (partF ns i)) _ (mod4 ((partF ns i).fdiv 4)) _ (pl5 hi5)
    simp only [okN, Bool.and_eq_true, decide_eq_true_eq] at it1
    obtain ⟨⟨⟨_, b1⟩, b2⟩, b3⟩ := it1
    refine Run_append (xs := sL ((List.range i).map (nameF ns))) (av := .str (nameF ns i)) rfl rfl (EV_bin (EV_bin (EV_itemS EV_str (EV_bin (EV_name rfl) EV_int (BV_mod (by decide))) ?_ ?_ ?_) (EV_itemS EV_str (EV_bin (EV_bin (EV_name rfl) EV_int (BV_div (by decide) (PyProof.noPylong_small (by decide)))) EV_int (BV_mod (by decide))) ?_ ?_ ?_) (BV_addS ?_)) (EV_itemS EV_str (EV_name rfl) ?_ ?_ ?_) (BV_addS ?_)) ?_ ?_ _ rfl
    · have := ma (partF ns i); exact fitsSsize_of (N := 1000) (by omega) (by omega) (by decide)
    · have := ma (partF ns i); show -(4 : Int) ≤ _; omega
    · have := ma (partF ns i); show _ < (4 : Int); omega
    · have := ma ((partF ns i).fdiv 4); exact fitsSsize_of (N := 1000) (by omega) (by omega) (by decide)
    · have := ma ((partF ns i).fdiv 4); show -(4 : Int) ≤ _; omega
    · have := ma ((partF ns i).fdiv 4); show _ < (4 : Int); omega
    · rw [sizeLine_eq]; omega
    · exact fitsSsize_of (N := 1000) (by omega) (by omega) (by decide)
    · show -(5 : Int) ≤ _; omega
    · show _ < (5 : Int); omega
    · rw [Str.length_append, sizeLine_eq]; omega
    · rw [List.length_map, List.length_map, List.length_range]; omega
    · refine Run_nil ⟨?_, rfl, rfl, trivial⟩
      show some (AV.own (sL ((List.range i).map (nameF ns)) ++ [AV.str (nameF ns i)])) = some (AV.own (sL ((List.range (i + 1)).map (nameF ns))))
      rw [List.range_succ, List.map_append, sL, sL, List.map_append]; rfl
  · intro ρ' hJ
    rw [steps_len] at hJ
    exact Run_sub hJ (Run_freeze (Str.ofString "names") rfl rfl (Run_nil ⟨rfl, rfl, rfl, trivial⟩))
  intro ρ1 h1
  refine RunG_sub h1 ?_
  clear h1 ρ1
  have hnm : ∀ y ∈ namesF ns, ∃ p < 5, NameOk y p := fun y h => names_mem ns h
  have hnl := names_len ns
  have hnd := names_nd ns
  generalize namesF ns = names at hnm hnl hnd
  have hna : ∀ y ∈ names, y ∈ namesAll := fun y h => let ⟨_, _, k⟩ := hnm y h; k.mem
  have hso : ∀ y ∈ names, PyData.strOk y = true := fun y h => let ⟨_, _, k⟩ := hnm y h; k.ok
  -- the names told by parse257
  refine RunG_step (B := fun ρ' => ρ' = _) (Run_if (c := false) (EB_eq (EB_cmp (EV_eq (b := .list (sL names)) (EV_compR (cl := []) (CompR1 (its := sL names) (fun av => some av) [] (EV_name rfl) .list (by rw [List.length_map]; omega) ?_ rfl (fun _ h => nomatch h) List.nodup_nil (fun _ _ h => nomatch h) (fun _ => .inl rfl) ?_) (by with_unfolding_all rfl) rfl (by decide)) ?_) (EV_name rfl) (CV_neSs hx (by omega) hso hso)) (by simp)) (fun h => nomatch h) fun _ => Run_nil (Run_nil rfl)) ?_
  · intro av h
    obtain ⟨y, _, rfl⟩ := List.mem_map.mp h
    rfl
  · intro C av h
    obtain ⟨y, hy, rfl⟩ := List.mem_map.mp h
    obtain ⟨p, _, k⟩ := hnm y hy
    refine .all (EV_call1 hx (gn_parse w) rfl (EV_eq (EV_bin (EV_addReplace (nm := y) rfl (by decide) (by rw [k.len]; decide) (by decide) ?_ _ rfl) EV_str (BV_addS ?_)) (congrArg AV.str k.resp)) (parse_v hx (by omega) y k.mem) (k60 w))
    · have := k.rlen
      rw [sizeLine_eq]; show 5 + _ ≤ _; omega
    · have := k.rlen
      rw [Str.length_append, sizeLine_eq]; show 5 + _ + 6 ≤ _; omega
  · rw [List.filterMap_some]
  rintro _ rfl
  -- the sizes
  have hF := one4 n0
  have hS := one4 n1
  have hT := one4 n2
  have hR := mod3 n3
  refine RunG_step (B := fun ρ' => SubR [(Str.ofString "third", .int (1 + n2.fmod 4)), (Str.ofString "second", .int (1 + n1.fmod 4)), (Str.ofString "first", .int (1 + n0.fmod 4)), (Str.ofString "names", .list (sL names)), (Str.ofString "numbers", .list (iL ns))] ρ') (Run_assign3 (a0 := .int (1 + n0.fmod 4)) (a1 := .int (1 + n1.fmod 4)) (a2 := .int (1 + n2.fmod 4)) (EV_eq (EV_compR (cl := []) (CompR1 (av := .list (pickA (iL ns) none (some 3) none)) (fun av => some (.int (1 + (vInt av).fmod 4))) [] (EV_slice hx (EV_name rfl) .none (.some EV_int) .none (by decide) (by rw [hn]; exact (by decide : 4 ≤ 16777216))) .list (by rw [hn]; exact (by decide : 3 ≤ 16777216)) ?_ rfl (fun _ h => nomatch h) List.nodup_nil (fun _ _ h => nomatch h) (fun _ => .inl rfl) ?_) (by with_unfolding_all rfl) rfl (by decide)) ?_) (.inl rfl) (.inl rfl) (.inl rfl) rfl rfl rfl (Run_nil ⟨rfl, rfl, rfl, rfl, rfl, trivial⟩)) ?_
  · intro av h
    rw [show (iL ns : List AV) = ns.map AV.int from rfl, pickA_map] at h
    obtain ⟨k, _, rfl⟩ := List.mem_map.mp h
    rfl
  · intro C av h
    rw [show (iL ns : List AV) = ns.map AV.int from rfl, pickA_map] at h
    obtain ⟨k, _, rfl⟩ := List.mem_map.mp h
    exact .all (EV_bin EV_int (EV_bin (EV_name rfl) EV_int (BV_mod (by decide))) BV_add)
  · rw [hn]; rfl
  intro ρ1 h1
  refine RunG_sub h1 ?_
  clear h1 ρ1
  generalize 1 + n0.fmod 4 = f at hF
  generalize 1 + n1.fmod 4 = sz at hS
  generalize 1 + n2.fmod 4 = t at hT
  have hget3 : (iL ns)[(3 : Int).toNat]? = some (.int n3) := by rw [hn]; rfl
  have hlenE : (extR (n3.fmod 3)).length ≤ 2 := by
    simp only [List.mem_cons, List.not_mem_nil, or_false] at hR
    rcases hR with h | h | h <;> rw [h] <;> decide
  refine RunG_step (B := fun ρ' => SubR [(Str.ofString "row", .list (iL (rowL f sz t (n3.fmod 3)))), (Str.ofString "third", .int t), (Str.ofString "second", .int sz), (Str.ofString "first", .int f), (Str.ofString "names", .list (sL names)), (Str.ofString "numbers", .list (iL ns))] ρ') (Run_assign (EV_eq (EV_bin (EV_list (EVL_cons (EV_name rfl) (EVL_cons (EV_name rfl) (EVL_cons (EV_name rfl) EVL_nil))) (by simp)) (EV_item (av := .list (iL (extR (n3.fmod 3)))) (EV_list (EVL_cons (EV_list (EVL_cons EV_int (EVL_cons EV_int EVL_nil)) (by simp)) (EVL_cons (EV_list (EVL_cons EV_int (EVL_cons EV_int EVL_nil)) (by simp)) (EVL_cons (EV_list EVL_nil (by simp)) EVL_nil))) (by simp)) (EV_bin (EV_item (EV_name rfl) EV_int (by decide) hget3 (by decide)) EV_int (BV_mod (by decide))) ?_ ?_ ?_) (BV_addL hx.above ?_)) ?_) (.inl rfl) rfl (Run_nil ⟨rfl, rfl, rfl, rfl, rfl, rfl, trivial⟩)) ?_
  · exact Int.fmod_nonneg_of_pos n3 (by decide)
  · simp only [List.mem_cons, List.not_mem_nil, or_false] at hR
    rcases hR with h | h | h <;> rw [h] <;> rfl
  · have := Int.fmod_lt_of_pos n3 (b := 3) (by decide)
    omega
  · rw [List.length_map]; show 3 + _ ≤ _; omega
  · rfl
  intro ρ1 h1
  refine RunG_sub h1 ?_
  clear h1 ρ1
  generalize hr3 : n3.fmod 3 = r at hR hlenE
  -- the sums
  refine RunG_step (B := fun ρ' => ρ' = _) (Run_assign (av := .list (iL [f, f + sz, f + sz + t])) (EV_list (EVL_cons (EV_name rfl) (EVL_cons (EV_bin (EV_name rfl) (EV_name rfl) BV_add) (EVL_cons (EV_bin (EV_bin (EV_name rfl) (EV_name rfl) BV_add) (EV_name rfl) BV_add) EVL_nil))) (by simp)) (.inr ⟨rfl, rfl⟩) rfl (Run_nil rfl)) ?_
  rintro _ rfl
  refine RunG_step (B := fun ρ' => SubR [(Str.ofString "sums", .list (iL (sumsL f sz t r))), (Str.ofString "row", .list (iL (rowL f sz t r))), (Str.ofString "names", .list (sL names)), (Str.ofString "numbers", .list (iL ns))] ρ') (Run_if (c := r == 0) (EB_eq (EB_cmp (EV_bin (EV_item (EV_name rfl) EV_int (by decide) hget3 (by decide)) EV_int (BV_mod (by decide))) EV_int CV_eqI) (by rw [hr3])) (fun h => ?_) fun h => Run_nil (Run_nil ⟨?_, rfl, rfl, rfl, trivial⟩)) ?_
  · have h0 : r = 0 := by simpa using h
    refine Run_assign (EV_bin (EV_name rfl) (EV_list (EVL_cons (EV_bin (EV_item (EV_name rfl) EV_int (by decide) rfl (by decide)) (EV_name rfl) BV_add) (EVL_cons (EV_bin (EV_item (EV_name rfl) EV_int (by decide) rfl (by decide)) (EV_bin EV_int (EV_name rfl) (BV_mul (IntMulOk.of_left (by decide)))) BV_add) EVL_nil)) (by simp)) (BV_addL hx.above (by simp))) (.inr ⟨rfl, rfl⟩) rfl (Run_nil (Run_nil ⟨?_, rfl, rfl, rfl, trivial⟩))
    rw [h0]; rfl
  · have h0 : r ≠ 0 := by simpa using h
    show some _ = some (AV.list (iL (if r = 0 then _ else _)))
    rw [if_neg h0]
  intro ρ1 h1
  refine RunG_sub h1 ?_
  clear h1 ρ1
  have hsl : (sumsL f sz t r).length ≤ 5 := by
    unfold sumsL; split <;> simp
  -- the falls
  refine RunG_step (B := fun ρ' => ρ' = _) (Run_assign (av := .list (iL (fallsL (sumsL f sz t r)))) (EV_eq (EV_compR (cl := [(Str.ofString "sums", x.L + 1 + 1)]) (CompRE (xs := iL (sumsL f sz t r)) (fun i av => if (((i : Int) == 0) || decide ((sumsL f sz t r).getD (i - 1) 0 < 5)) = true then some av else none) [(Str.ofString "sums", .list (iL (sumsL f sz t r)))] hx (EV_name rfl) (.inl rfl) (by rw [List.length_map]; omega) ?_ (by decide) rfl rfl ?_ (by show [Str.ofString "sums"].Nodup; decide +kernel) ?_ (fun _ => rfl) (fun _ => rfl) ?_) (by with_unfolding_all rfl) rfl (by decide)) ?_) (.inr ⟨rfl, rfl⟩) rfl (Run_nil rfl) (hs := by with_unfolding_all rfl)) ?_
  · intro av h
    obtain ⟨k, _, rfl⟩ := List.mem_map.mp h
    rfl
  · exact List.forall_mem_cons.mpr ⟨mem_of_lookup rfl, List.forall_mem_nil _⟩
  · intro C
    exact List.forall_mem_cons.mpr ⟨⟨rfl, rfl, .inl rfl, .inl rfl, rfl⟩, List.forall_mem_nil _⟩
  · intro C i av h
    rw [List.getElem?_map, Option.map_eq_some_iff] at h
    obtain ⟨k, hk, rfl⟩ := h
    have hil : i < (sumsL f sz t r).length := (List.getElem?_eq_some_iff.mp hk).1
    refine TurnV.ite (EB_or2 (EB_cmp (EV_name rfl) EV_int CV_eqI) fun hb => EB_cmp (EV_item (av := .int ((sumsL f sz t r).getD (i - 1) 0)) (EV_name rfl) (EV_bin (EV_name rfl) EV_int BV_sub) ?_ ?_ ?_) EV_int CV_ltI) fun _ => EV_name rfl
    all_goals have hi0 : i ≠ 0 := by simpa using hb
    · omega
    · rw [show ((i : Int) - 1).toNat = i - 1 by omega, List.getElem?_map, List.getD_eq_getElem?_getD, List.getElem?_eq_getElem (by omega)]; rfl
    · omega
  · unfold enumF fallsL
    rw [show (iL (sumsL f sz t r) : List AV) = (sumsL f sz t r).map AV.int from rfl, List.zipIdx_map, List.filterMap_map, iL, List.map_filterMap]
    refine congrArg AV.list (congrArg (fun g => List.filterMap g _) ?_)
    funext p
    show (if (((p.2 : Int) == 0) || decide ((sumsL f sz t r).getD (p.2 - 1) 0 < 5)) = true then some (AV.int p.1) else none) = Option.map AV.int (if _ then some p.1 else none)
    split <;> rfl
  rintro _ rfl
  -- the marks
  refine RunG_assignG (av := .list (iL (fallsL (sumsL f sz t r)))) hx (EX_glob hx (gn_marks w) rfl) (EV_name rfl) (marks_v hx (by omega) (rowL f sz t r) (outF f sz t) 3 10 (by decide) (by decide) (by decide) (row_gr hF hS hT hR) (fun i _ => out_pos hF hS hT i) _ (falls_1 hF hS hT hR) (falls_2 hF hS hT hR)) (k105 w).choose_spec.choose_spec.1 (k105 w).choose_spec.choose_spec.2 (.inr ⟨rfl, rfl⟩) rfl ?_
  have hfl := falls_len f hF sz hS t hT r hR
  refine RunG_ifOrNot hx (EB_eq (EB_cmp (EV_name rfl) (EV_name rfl) (CV_neIs hx (by omega))) (by simp)) (EX_glob hx (gn_refused w) rfl) (EV_bin (EV_list (EVL_cons EV_int EVL_nil) (by simp)) (EV_name rfl) (BV_addL hx.above ?_)) (refused_v hx hou (by omega) (rowL f sz t r)) (k98 w).choose_spec.choose_spec.1 (k98 w).choose_spec.choose_spec.2 ?_
  · rw [List.length_map, rowL, List.length_append]; show 1 + (3 + _) ≤ _; omega
  refine RunG_sub (ρ' := [(Str.ofString "marks", .list (iL (fallsL (sumsL f sz t r)))), (Str.ofString "falls", .list (iL (fallsL (sumsL f sz t r)))), (Str.ofString "names", .list (sL names))]) ⟨rfl, rfl, rfl, trivial⟩ ?_
  generalize fallsL (sumsL f sz t r) = M at hfl
  -- the word and its signs
  obtain ⟨w1, w2, w3⟩ := word_texts _ (mem_words4 (risesL_len M))
  refine RunG_step (B := fun ρ' => SubR [(Str.ofString "rises", .list (bL (risesL M))), (Str.ofString "falls", .list (iL M)), (Str.ofString "names", .list (sL names))] ρ') (Run_assign (EV_eq (EV_call1 hx (gn_rises w) rfl (EV_join (ys := (risesL M).map signF) EV_str (EV_eq (EV_compR (cl := [(Str.ofString "marks", x.L + 1 + 1 + 1 + 1)]) (CompR1 (its := [.int 1, .int 2, .int 3, .int 4]) (fun av => some (.str (signF (!(M.any (· == vInt av)))))) [(Str.ofString "marks", .list (iL M))] (EV_tup (EVL_cons EV_int (EVL_cons EV_int (EVL_cons EV_int (EVL_cons EV_int EVL_nil)))) (by simp)) .tup (by simp) ?_ rfl ?_ (by show [Str.ofString "marks"].Nodup; decide +kernel) ?_ (fun _ => .inl rfl) ?_) (by with_unfolding_all rfl) rfl (by decide)) ?_) ?_ rfl _ rfl) (rises_v hx (by omega) (by omega) (wordF (risesL M)) w1) (k110 w)) (congrArg (fun l => AV.list (bL l)) w3)) (.inl rfl) rfl (Run_nil ⟨rfl, rfl, rfl, trivial⟩)) ?_
  · intro av h
    simp only [List.mem_cons, List.not_mem_nil, or_false] at h
    rcases h with rfl | rfl | rfl | rfl <;> rfl
  · exact List.forall_mem_cons.mpr ⟨mem_of_lookup rfl, List.forall_mem_nil _⟩
  · intro C
    exact List.forall_mem_cons.mpr ⟨⟨rfl, rfl, .inl rfl, .inl rfl, rfl⟩, List.forall_mem_nil _⟩
  · intro C av h
    have hk : ∃ k : Int, av = .int k := by
      simp only [List.mem_cons, List.not_mem_nil, or_false] at h
      rcases h with rfl | rfl | rfl | rfl <;> exact ⟨_, rfl⟩
    obtain ⟨k, rfl⟩ := hk
    refine .all (EV_if (EB_cmp (EV_name rfl) (EV_name rfl) CV_inI) (fun h => EV_eq EV_str (congrArg AV.str ?_)) (fun h => EV_eq EV_str (congrArg AV.str ?_)))
    · show _ = signF (!(M.any (· == k)))
      rw [h]; decide +kernel
    · show _ = signF (!(M.any (· == k)))
      rw [h]; decide +kernel
  · rfl
  · exact (by decide +revert : ∀ l : List Bool, l ∈ words4 → ((l.map signF).map (·.length)).sum + (l.map signF).length * (Str.ofString "").length ≤ 16777216) _ (mem_words4 (risesL_len M))
  intro ρ1 h1
  refine RunG_sub h1 ?_
  clear h1 ρ1
  refine RunG_step (B := fun ρ' => ρ' = _) (Run_if (c := false) (EB_eq (EB_cmp (EV_name rfl) (EV_eq (b := .list (bL (risesL M))) (EV_compR (cl := [(Str.ofString "falls", x.L + 1 + 1 + 1)]) (CompR1 (its := [.int 1, .int 2, .int 3, .int 4]) (fun av => some (.bool (!(M.any (· == vInt av))))) [(Str.ofString "falls", .list (iL M))] (EV_tup (EVL_cons EV_int (EVL_cons EV_int (EVL_cons EV_int (EVL_cons EV_int EVL_nil)))) (by simp)) .tup (by simp) ?_ rfl ?_ (by show [Str.ofString "falls"].Nodup; decide +kernel) ?_ (fun _ => .inl rfl) ?_) (by with_unfolding_all rfl) rfl (by decide)) ?_) (CV_neBs hx (by omega))) (by simp)) (fun h => nomatch h) fun _ => Run_nil (Run_nil rfl)) ?_
  · intro av h
    simp only [List.mem_cons, List.not_mem_nil, or_false] at h
    rcases h with rfl | rfl | rfl | rfl <;> rfl
  · exact List.forall_mem_cons.mpr ⟨mem_of_lookup rfl, List.forall_mem_nil _⟩
  · intro C
    exact List.forall_mem_cons.mpr ⟨⟨rfl, rfl, .inl rfl, .inl rfl, rfl⟩, List.forall_mem_nil _⟩
  · intro C av h
    have hk : ∃ k : Int, av = .int k := by
      simp only [List.mem_cons, List.not_mem_nil, or_false] at h
      rcases h with rfl | rfl | rfl | rfl <;> exact ⟨_, rfl⟩
    obtain ⟨k, rfl⟩ := hk
    exact .all (EV_cmp (EV_name rfl) (EV_name rfl) CV_ninI)
  · rfl
  rintro _ rfl
  have hR4 := risesL_len M
  generalize risesL M = R at hR4 w1 w2 w3
  -- the sums that are due
  refine RunG_step (B := fun ρ' => ρ' = _) (Run_assign (av := .list (iL [1])) (EV_list (EVL_cons EV_int EVL_nil) (by simp)) (.inr ⟨rfl, rfl⟩) rfl (Run_nil rfl)) ?_
  rintro _ rfl
  refine RunG_step (B := fun ρ' => ρ' = _) (Run_assign (av := .list (iL [1])) (EV_list (EVL_cons EV_int EVL_nil) (by simp)) (.inr ⟨rfl, rfl⟩) rfl (Run_nil rfl)) ?_
  rintro _ rfl
  refine RunG_step (B := fun ρ' => SubR [(Str.ofString "due", .list (iL (dueF R))), (Str.ofString "told", .list (iL (dueF R))), (Str.ofString "rises", .list (bL R)), (Str.ofString "names", .list (sL names))] ρ') (Run_for (fun i ρ' => SubR [(Str.ofString "due", .list (iL (dueF (R.take i)))), (Str.ofString "told", .list (iL (dueF (R.take i)))), (Str.ofString "rises", .list (bL R)), (Str.ofString "names", .list (sL names))] ρ') (EV_name rfl) .list (.inl rfl) ?_ ⟨rfl, rfl, rfl, rfl, trivial⟩ ?_ ?_) ?_
  · intro a ha
    obtain ⟨b, _, rfl⟩ := List.mem_map.mp ha
    rfl
  · intro i a ρ' hi hJ
    rw [List.getElem?_map, Option.map_eq_some_iff] at hi
    obtain ⟨b, hb, rfl⟩ := hi
    have hi4 : i < R.length := (List.getElem?_eq_some_iff.mp hb).1
    rw [show R.take (i + 1) = R.take i ++ [b] by rw [List.take_add_one, hb]; rfl]
    have hpre : R.take i ∈ preW := mem_preW (by rw [List.length_take]; omega)
    generalize R.take i = pre at hpre hJ
    have hl4 := due_len pre hpre
    generalize hl : dueF pre = l at hJ hl4
    refine Run_sub (SubR_in hJ rfl) ?_
    refine Run_assign (av := .int (l.length : Int)) (EV_eq (EV_callB (EX_glob hx (gn_len w) rfl) (EVL_cons (EV_name rfl) EVL_nil) (CallV_len (by rw [List.length_map]; omega))) (by rw [List.length_map])) (.inr ⟨rfl, rfl⟩) rfl ?_
    refine Run_if (c := b) (EB_bool (EV_name rfl)) (fun h => ?_) fun h => ?_
    all_goals subst h
    all_goals have due_step' := due_step pre hpre
    all_goals have told_step' := told_step pre hpre
    all_goals rw [hl] at due_step' told_step'
    · refine Run_assign (av := .list (iL (dueF (pre ++ [true])))) (EV_eq (EV_compR (cl := [(Str.ofString "due", x.L + 1 + 1 + 1 + 1 + 1)]) (CompR1 (its := steps 0 1 (l.length + 1)) (fun a => some (.int (dueV true l (vInt a).toNat))) [(Str.ofString "due", .list (iL l))] (EV_callT (EX_glob hx (gn_range w) rfl) (EVL_cons (EV_bin (EV_name rfl) EV_int BV_add) EVL_nil) (CallV_range1 hx)) (range_it (n := l.length + 1) (by omega)) (by rw [steps_len]; omega) ?_ rfl ?_ (by show [Str.ofString "due"].Nodup; decide +kernel) ?_ (fun _ => .inl rfl) ?_) (by with_unfolding_all rfl) rfl (by decide)) ?_) (.inr ⟨rfl, rfl⟩) rfl ?_ (hs := by with_unfolding_all rfl)
      · intro a ha
        obtain ⟨p, _, rfl⟩ := steps_mem ha
        rfl
      · exact List.forall_mem_cons.mpr ⟨mem_of_lookup rfl, List.forall_mem_nil _⟩
      · intro C
        exact List.forall_mem_cons.mpr ⟨⟨rfl, rfl, .inl rfl, .inl rfl, rfl⟩, List.forall_mem_nil _⟩
      · intro C a ha
        obtain ⟨p, _, rfl⟩ := steps_mem ha
        refine .all (EV_eq (EV_callB (EX_glob hx (gn_sum w) rfl) (EVL_cons (EV_eq (EV_slice hx (EV_name rfl) .none (.some (EV_name rfl)) .none (by decide) (by rw [List.length_map]; omega)) (b := .list (iL (pickA l none (some (p : Int)) none))) (congrArg AV.list (pickA_map AV.int l _ _ _))) EVL_nil) CallV_sum) ?_)
        show _ = AV.int (dueV true l ((p : Int)).toNat)
        rw [Int.toNat_natCast]; rfl
      · rw [steps_map, due_step' true]
      refine Run_assign (av := .list (iL (dueF (pre ++ [true])))) (EV_eq (EV_compR (cl := [(Str.ofString "told", x.L + 1 + 1 + 1 + 1 + 1 + 1), (Str.ofString "size", x.L + 1 + 1 + 1 + 1 + 1 + 1 + 1)]) (CompR1 (its := steps 0 1 (l.length + 1)) (fun a => some (.int (toldV true l (vInt a).toNat))) [(Str.ofString "told", .list (iL l)), (Str.ofString "size", .int (l.length : Int))] (EV_callT (EX_glob hx (gn_range w) rfl) (EVL_cons (EV_bin (EV_name rfl) EV_int BV_add) EVL_nil) (CallV_range1 hx)) (range_it (n := l.length + 1) (by omega)) (by rw [steps_len]; omega) ?_ rfl ?_ (by show [Str.ofString "told", Str.ofString "size"].Nodup; decide +kernel) ?_ (fun C => .inr ⟨rfl, C + 1, rfl, List.mem_cons_self ..⟩) ?_) (by with_unfolding_all rfl) rfl (by decide)) ?_) (.inr ⟨rfl, rfl⟩) rfl ?_ (hs := by with_unfolding_all rfl)
      · intro a ha
        obtain ⟨p, _, rfl⟩ := steps_mem ha
        rfl
      · exact List.forall_mem_cons.mpr ⟨mem_of_lookup rfl, List.forall_mem_cons.mpr ⟨mem_of_lookup rfl, List.forall_mem_nil _⟩⟩
      · intro C
        exact List.forall_mem_cons.mpr ⟨⟨rfl, rfl, .inl rfl, .inl rfl, rfl⟩, List.forall_mem_cons.mpr ⟨⟨rfl, rfl, .inl rfl, .inl rfl, rfl⟩, List.forall_mem_nil _⟩⟩
      · intro C a ha
        obtain ⟨p, _, rfl⟩ := steps_mem ha
        refine .all (EV_eq (EV_callB (avs := [.list (iL (((List.range l.length).filter fun k : Nat => condT true (k : Int) (p : Int)).map fun k => l.getD k 0))]) (EX_glob hx (gn_sum w) rfl) (EVL_cons (EV_eq (EV_compR (cl := [(Str.ofString "told", x.L + 1 + 1 + 1 + 1 + 1 + 1), (Str.ofString "place", C + 1)]) (CompR1 (its := steps 0 1 l.length) (fun a => if condT true (vInt a) (p : Int) = true then some (.int (l.getD (vInt a).toNat 0)) else none) [(Str.ofString "told", .list (iL l)), (Str.ofString "place", .int (p : Int))] (EV_callT (EX_glob hx (gn_range w) rfl) (EVL_cons (EV_name rfl) EVL_nil) (CallV_range1 hx)) (range_it (n := l.length) (by omega)) (by rw [steps_len]; omega) ?_ rfl ?_ (by show [Str.ofString "told", Str.ofString "place"].Nodup; decide +kernel) ?_ (fun _ => .inl rfl) ?_) (by with_unfolding_all rfl) rfl (by decide)) ?_) EVL_nil) CallV_sum) ?_)
        · intro a ha
          obtain ⟨k, _, rfl⟩ := steps_mem ha
          rfl
        · exact List.forall_mem_cons.mpr ⟨mem_of_lookup rfl, List.forall_mem_cons.mpr ⟨mem_of_lookup rfl, List.forall_mem_nil _⟩⟩
        · intro C2
          exact List.forall_mem_cons.mpr ⟨⟨rfl, rfl, by first | exact .inl rfl | exact .inr rfl, by first | exact .inl rfl | exact .inr rfl, rfl⟩, List.forall_mem_cons.mpr ⟨⟨rfl, rfl, by first | exact .inl rfl | exact .inr rfl, by first | exact .inl rfl | exact .inr rfl, rfl⟩, List.forall_mem_nil _⟩⟩
        · intro C2 a ha
          obtain ⟨k, hk, rfl⟩ := steps_mem ha
          refine TurnV.ite (EB_eq (EB_and2 (EB_cmp (EV_call1 hx (gn_term w) rfl (EV_bin (EV_bin EV_int (EV_name rfl) BV_add) (EV_name rfl) BV_sub) (term_v hx (by omega) _) (k70 w)) EV_bool CV_isB) fun _ => EB_cmp (EV_call1 hx (gn_nonterm w) rfl (EV_bin (EV_bin EV_int (EV_name rfl) BV_add) (EV_name rfl) BV_sub) (nonterm_v hx (by omega) _) (k77 w)) EV_bool CV_isB) rfl) fun _ => EV_item (EV_name rfl) (EV_name rfl) (by omega) ?_ (by omega)
          show (List.map AV.int l)[((k : Int)).toNat]? = some (AV.int (l.getD ((k : Int)).toNat 0))
          rw [Int.toNat_natCast, List.getElem?_map, List.getD_eq_getElem?_getD, List.getElem?_eq_getElem hk]; rfl
        · exact congrArg AV.list (told_map l.length (fun i => condT true i (p : Int)) fun k => l.getD k 0)
        · show _ = AV.int (toldV true l ((p : Int)).toNat)
          rw [Int.toNat_natCast]; rfl
      · rw [steps_map, told_step' true]
      exact Run_nil (Run_nil ⟨rfl, rfl, rfl, rfl, trivial⟩)
    · refine Run_assign (av := .list (iL (dueF (pre ++ [false])))) (EV_eq (EV_compR (cl := [(Str.ofString "due", x.L + 1 + 1 + 1 + 1 + 1)]) (CompR1 (its := steps 0 1 (l.length + 1)) (fun a => some (.int (dueV false l (vInt a).toNat))) [(Str.ofString "due", .list (iL l))] (EV_callT (EX_glob hx (gn_range w) rfl) (EVL_cons (EV_bin (EV_name rfl) EV_int BV_add) EVL_nil) (CallV_range1 hx)) (range_it (n := l.length + 1) (by omega)) (by rw [steps_len]; omega) ?_ rfl ?_ (by show [Str.ofString "due"].Nodup; decide +kernel) ?_ (fun _ => .inl rfl) ?_) (by with_unfolding_all rfl) rfl (by decide)) ?_) (.inr ⟨rfl, rfl⟩) rfl ?_ (hs := by with_unfolding_all rfl)
      · intro a ha
        obtain ⟨p, _, rfl⟩ := steps_mem ha
        rfl
      · exact List.forall_mem_cons.mpr ⟨mem_of_lookup rfl, List.forall_mem_nil _⟩
      · intro C
        exact List.forall_mem_cons.mpr ⟨⟨rfl, rfl, .inl rfl, .inl rfl, rfl⟩, List.forall_mem_nil _⟩
      · intro C a ha
        obtain ⟨p, _, rfl⟩ := steps_mem ha
        refine .all (EV_eq (EV_callB (EX_glob hx (gn_sum w) rfl) (EVL_cons (EV_eq (EV_slice hx (EV_name rfl) (.some (EV_name rfl)) .none .none (by decide) (by rw [List.length_map]; omega)) (b := .list (iL (pickA l (some (p : Int)) none none))) (congrArg AV.list (pickA_map AV.int l _ _ _))) EVL_nil) CallV_sum) ?_)
        show _ = AV.int (dueV false l ((p : Int)).toNat)
        rw [Int.toNat_natCast]; rfl
      · rw [steps_map, due_step' false]
      refine Run_assign (av := .list (iL (dueF (pre ++ [false])))) (EV_eq (EV_compR (cl := [(Str.ofString "told", x.L + 1 + 1 + 1 + 1 + 1 + 1), (Str.ofString "size", x.L + 1 + 1 + 1 + 1 + 1 + 1 + 1)]) (CompR1 (its := steps 0 1 (l.length + 1)) (fun a => some (.int (toldV false l (vInt a).toNat))) [(Str.ofString "told", .list (iL l)), (Str.ofString "size", .int (l.length : Int))] (EV_callT (EX_glob hx (gn_range w) rfl) (EVL_cons (EV_bin (EV_name rfl) EV_int BV_add) EVL_nil) (CallV_range1 hx)) (range_it (n := l.length + 1) (by omega)) (by rw [steps_len]; omega) ?_ rfl ?_ (by show [Str.ofString "told", Str.ofString "size"].Nodup; decide +kernel) ?_ (fun C => .inr ⟨rfl, C + 1, rfl, List.mem_cons_self ..⟩) ?_) (by with_unfolding_all rfl) rfl (by decide)) ?_) (.inr ⟨rfl, rfl⟩) rfl ?_ (hs := by with_unfolding_all rfl)
      · intro a ha
        obtain ⟨p, _, rfl⟩ := steps_mem ha
        rfl
      · exact List.forall_mem_cons.mpr ⟨mem_of_lookup rfl, List.forall_mem_cons.mpr ⟨mem_of_lookup rfl, List.forall_mem_nil _⟩⟩
      · intro C
        exact List.forall_mem_cons.mpr ⟨⟨rfl, rfl, .inl rfl, .inl rfl, rfl⟩, List.forall_mem_cons.mpr ⟨⟨rfl, rfl, .inl rfl, .inl rfl, rfl⟩, List.forall_mem_nil _⟩⟩
      · intro C a ha
        obtain ⟨p, _, rfl⟩ := steps_mem ha
        refine .all (EV_eq (EV_callB (avs := [.list (iL (((List.range l.length).filter fun k : Nat => condT false (k : Int) (p : Int)).map fun k => l.getD k 0))]) (EX_glob hx (gn_sum w) rfl) (EVL_cons (EV_eq (EV_compR (cl := [(Str.ofString "told", x.L + 1 + 1 + 1 + 1 + 1 + 1), (Str.ofString "place", C + 1)]) (CompR1 (its := steps 0 1 l.length) (fun a => if condT false (vInt a) (p : Int) = true then some (.int (l.getD (vInt a).toNat 0)) else none) [(Str.ofString "told", .list (iL l)), (Str.ofString "place", .int (p : Int))] (EV_callT (EX_glob hx (gn_range w) rfl) (EVL_cons (EV_name rfl) EVL_nil) (CallV_range1 hx)) (range_it (n := l.length) (by omega)) (by rw [steps_len]; omega) ?_ rfl ?_ (by show [Str.ofString "told", Str.ofString "place"].Nodup; decide +kernel) ?_ (fun _ => .inl rfl) ?_) (by with_unfolding_all rfl) rfl (by decide)) ?_) EVL_nil) CallV_sum) ?_)
        · intro a ha
          obtain ⟨k, _, rfl⟩ := steps_mem ha
          rfl
        · exact List.forall_mem_cons.mpr ⟨mem_of_lookup rfl, List.forall_mem_cons.mpr ⟨mem_of_lookup rfl, List.forall_mem_nil _⟩⟩
        · intro C2
          exact List.forall_mem_cons.mpr ⟨⟨rfl, rfl, by first | exact .inl rfl | exact .inr rfl, by first | exact .inl rfl | exact .inr rfl, rfl⟩, List.forall_mem_cons.mpr ⟨⟨rfl, rfl, by first | exact .inl rfl | exact .inr rfl, by first | exact .inl rfl | exact .inr rfl, rfl⟩, List.forall_mem_nil _⟩⟩
        · intro C2 a ha
          obtain ⟨k, hk, rfl⟩ := steps_mem ha
          refine TurnV.ite (EB_eq (EB_and2 (EB_cmp (EV_call1 hx (gn_nonterm w) rfl (EV_bin (EV_bin EV_int (EV_name rfl) BV_add) (EV_name rfl) BV_sub) (nonterm_v hx (by omega) _) (k77 w)) EV_bool CV_isB) fun _ => EB_cmp (EV_call1 hx (gn_term w) rfl (EV_bin (EV_bin EV_int (EV_name rfl) BV_add) (EV_name rfl) BV_sub) (term_v hx (by omega) _) (k70 w)) EV_bool CV_isB) rfl) fun _ => EV_item (EV_name rfl) (EV_name rfl) (by omega) ?_ (by omega)
          show (List.map AV.int l)[((k : Int)).toNat]? = some (AV.int (l.getD ((k : Int)).toNat 0))
          rw [Int.toNat_natCast, List.getElem?_map, List.getD_eq_getElem?_getD, List.getElem?_eq_getElem hk]; rfl
        · exact congrArg AV.list (told_map l.length (fun i => condT false i (p : Int)) fun k => l.getD k 0)
        · show _ = AV.int (toldV false l ((p : Int)).toNat)
          rw [Int.toNat_natCast]; rfl
      · rw [steps_map, told_step' false]
      exact Run_nil (Run_nil ⟨rfl, rfl, rfl, rfl, trivial⟩)
  · intro ρ' hJ
    rw [List.length_map, List.take_length] at hJ
    exact Run_sub hJ (Run_nil ⟨rfl, rfl, rfl, rfl, trivial⟩)
  intro ρ1 h1
  refine RunG_sub h1 ?_
  clear h1 ρ1
  -- the rows
  have hrl : (rowsF names R).length ≤ 5 ^ 5 := by
    have := rowsF_length names (by omega) R
    rwa [hR4] at this
  have hlen5 := rowsF_len names R
  rw [hR4] at hlen5
  have hcnt := counts hna hnd hnl hR4
  have hD5 : (dueF R).length = 5 := (by decide +kernel : ∀ l ∈ words4, (dueF l).length = 5) R (mem_words4 hR4)
  refine RunG_step (B := fun ρ' => ρ' = _) (Run_assign (EV_call2 hx (gn_rows w) rfl (EV_name rfl) (EV_name rfl) (rows_v hx (by omega) (by omega) names R (by omega) (by omega)) (k122b w)) (.inr ⟨rfl, rfl⟩) rfl (Run_nil rfl)) ?_
  rintro _ rfl
  generalize rowsF names R = rows at hrl hlen5 hcnt
  have hrows : ∀ av ∈ rL rows, ∃ row ∈ rows, av = .list (sL row) := fun av h => by
    obtain ⟨row, h1, rfl⟩ := List.mem_map.mp h
    exact ⟨row, h1, rfl⟩
  refine RunG_step (B := fun ρ' => ρ' = _) (Run_if (c := false) (EB_eq (EB_or2 (EB_eq (b := false) (EB_cmp (EV_name rfl) (EV_name rfl) (CV_neIs hx (by omega))) (by simp)) fun _ => EB_eq (b := false) (EB_cmp (EV_eq (b := .list (iL (dueF R))) (EV_compR (cl := [(Str.ofString "rows", x.L + 1 + 1 + 1 + 1 + 1 + 1 + 1 + 1)]) (CompR1 (its := sL (sortN names)) (fun av => some (.int (countS rows (toS av)))) [(Str.ofString "rows", .list (rL rows))] (EV_callB (EX_glob hx (gn_sorted w) rfl) (EVL_cons (EV_name rfl) EVL_nil) (CallV_sorted hx (by omega) fun ss' hp hs => sorted_is hna hp hs)) .list ?_ ?_ rfl ?_ (by show [Str.ofString "rows"].Nodup; decide +kernel) ?_ (fun C => .inr ⟨rfl, C + 1, rfl, List.mem_cons_self ..⟩) ?_) (by with_unfolding_all rfl) rfl (by decide)) ?_) (EV_name rfl) (CV_neIs hx (by omega))) (by simp)) rfl) (fun h => nomatch h) fun _ => Run_nil (Run_nil rfl)) ?_
  · rw [List.length_map, (sort_perm names).length_eq]; omega
  · intro av h
    obtain ⟨z, _, rfl⟩ := List.mem_map.mp h
    rfl
  · exact List.forall_mem_cons.mpr ⟨mem_of_lookup rfl, List.forall_mem_nil _⟩
  · intro C
    exact List.forall_mem_cons.mpr ⟨⟨rfl, rfl, .inl rfl, .inl rfl, rfl⟩, List.forall_mem_nil _⟩
  · intro C av h
    obtain ⟨z, _, rfl⟩ := List.mem_map.mp h
    refine .all (EV_eq (EV_callB (EX_glob hx (gn_len w) rfl) (EVL_cons (EV_compR (cl := [(Str.ofString "name", C + 1)]) (CompR1 (its := rL rows) (lineF z) [(Str.ofString "name", .str z)] (EV_name rfl) .list ?_ ?_ rfl ?_ (by show [Str.ofString "name"].Nodup; decide +kernel) ?_ (fun _ => .inl rfl) ?_) (by with_unfolding_all rfl) rfl (by decide)) EVL_nil) (CallV_len ?_)) ?_)
    · rw [List.length_map]; exact Nat.le_trans hrl (by decide)
    · intro av h
      obtain ⟨row, _, rfl⟩ := hrows av h
      rfl
    · exact List.forall_mem_cons.mpr ⟨mem_of_lookup rfl, List.forall_mem_nil _⟩
    · intro C2
      exact List.forall_mem_cons.mpr ⟨⟨rfl, rfl, by first | exact .inl rfl | exact .inr rfl, by first | exact .inl rfl | exact .inr rfl, rfl⟩, List.forall_mem_nil _⟩
    · intro C2 av h
      obtain ⟨row, hrow, rfl⟩ := hrows av h
      have hl := hlen5 row hrow
      rw [lineF_eq]
      refine TurnV.ite (EB_cmp (EV_itemN (EV_name rfl) (EV_neg EV_int) (by decide) ?_ ?_ (by decide)) (EV_name rfl) CV_eqS) fun _ => EV_name rfl
      · rw [List.length_map, hl]; decide
      · rw [List.length_map, List.getElem?_map, hl]
        rw [show ((-1 + ((4 + 1 : Nat) : Int)).toNat) = 4 by decide, List.getLastD_eq_getLast?, List.getLast?_eq_getElem?, hl, List.getElem?_eq_getElem (by omega)]; rfl
    · rw [lines_eq]
      exact Nat.le_trans (List.length_filter_le ..) (Nat.le_trans hrl (by decide))
    · rw [lines_eq]; rfl
  · refine congrArg AV.list ?_
    rw [← hcnt, List.filterMap_map, iL, List.map_map]
    exact congrFun (List.filterMap_eq_map (f := AV.int ∘ countS rows)) _
  rintro _ rfl
  -- the roads
  refine RunG_last (Run_ret (av := .bool (roadsF (wordF R) == (dueF R).sum)) (EV_cmp (EV_call1 hx (gn_roads w) rfl (EV_join (ys := R.map signF) EV_str (EV_eq (EV_compR (cl := []) (CompR1 (its := bL R) (fun av => some (.str (signF (vBool av)))) [] (EV_name rfl) .list (by rw [List.length_map]; omega) ?_ rfl (fun _ h => nomatch h) List.nodup_nil (fun _ _ h => nomatch h) (fun _ => .inl rfl) ?_) (by with_unfolding_all rfl) rfl (by decide)) ?_) ?_ rfl _ rfl) (roads_v hx (by omega) (by omega) (wordF R) (by omega)) (k127 w)) (EV_callB (EX_glob hx (gn_sum w) rfl) (EVL_cons (EV_name rfl) EVL_nil) CallV_sum) CV_eqI) ?_)
  · intro av h
    obtain ⟨b, _, rfl⟩ := List.mem_map.mp h
    rfl
  · intro C av h
    obtain ⟨b, _, rfl⟩ := List.mem_map.mp h
    refine .all (EV_if (c := b) (EB_bool (EV_name rfl)) (fun h => EV_eq EV_str (congrArg AV.str ?_)) (fun h => EV_eq EV_str (congrArg AV.str ?_)))
    · rw [h]; decide +kernel
    · rw [h]; decide +kernel
  · refine congrArg AV.list ?_
    rw [List.filterMap_map, sL, List.map_map]
    exact congrFun (List.filterMap_eq_map (f := AV.str ∘ signF)) _
  · exact (by decide +revert : ∀ l : List Bool, l ∈ words4 → ((l.map signF).map (·.length)).sum + (l.map signF).length * (Str.ofString "").length ≤ 16777216) _ (mem_words4 hR4)
  · show AV.bool _ = AV.bool true
    rw [due_roads R (mem_words4 hR4)]
    simp
theorem law_runs (hx : x.Ok w) (hou : x.outer = []) (hdp : x.dp + 40 < recursionLimit) (hun : x.un + 400 < cLine) (ws : List Int) (hws : ws.length ≤ 63) {name qual : Str} {params : Arguments} {body : List Stmt} {scope : Scope} {dV kV doc pm cdv ct oc : Value} {an od : Option Addr} {osl : Array (Option Value)}
    (h : (kk.heap_1 w.params).lookup 132 = some ⟨oc, od, .func (fnOf name qual params body scope dV kV doc pm an cdv ct), osl⟩) (fa : Addr) (cd : Value) : RunG w x (envOfC qual scope x.L fa cd) [(Str.ofString "script", .list (iL ws))] body (fun a => a = .bool true) := by
  obtain ⟨name', qual', params', body', scope', dV', kV', doc', pm', cdv', ct', oc', an', od', osl', h1, h2⟩ := law_run hx hou hdp hun ws hws
  rw [h1, Option.some.injEq] at h
  injection h with _ _ h _
  injection h with h
  injection h with q1 q2 q3 q4 q5
  injection q4 with q4
  subst q2; subst q4; subst q5
  exact h2 fa cd
end
end Mine
end
section
open PySem PySem.W PyProof.Rows PySem.Calls PySem.Spec
set_option Elab.async false
set_option maxRecDepth 100000
namespace Mine
open LCg
section
variable {w : World} {s₁ : Shared} {name : Str} {scope : Scope} {body : List Stmt} {fa : Addr} {cd : Value} {mean : ExcName → Option Value} {mg mb : Str → Option Value}
theorem entry_v (KX : (kk.heap_1 w.params).In s₁.heap) (T : Top vw lo mean mg mb s₁.heap) (K0 : Below callerA s₁.heap [] s₁.heap) {h₁ : Heap} {tk₁ : Nat} {ws : List Int} {vs : List Value} {a : Addr} {cells : List (Addr × Obj)} {binds : List (Str × Value)} {P : PySem.Params}
    (hW : Well P s₁.heap (.ref a) (ofPy (.list (ws.map .int)))) (hL : s₁.heap.IsList a vs.toArray) (hI : IntsAre vs ws) (hg : s₁.gens = #[])
    (hk : scope.kind = .function) (hnd : ((cellsFrom 0 scope.names []).map (·.1)).Nodup) (hbinds : binds = [(Str.ofString "script", .ref a)]) (hks : scope.names.lookup (Str.ofString "script") = some .cell)
    (hcs : ((envOfC name scope s₁.heap.objs.size fa cd).cells.lookup (Str.ofString "script")).isSome = true)
    (F : Fr s₁.heap s₁.heap.objs.size h₁ (bindL (envOfC name scope s₁.heap.objs.size fa cd).kindOf binds fun _ => none)) (N0 : News s₁.heap s₁.heap.objs.size h₁ cells)
    (X0 : CellsAre (bindC (envOfC name scope s₁.heap.objs.size fa cd).kindOf binds fun _ => none) (envOfC name scope s₁.heap.objs.size fa cd).cells cells)
    (hrun : ∀ x : Cx, x.Ok w → x.outer = [] → x.dp + 40 < recursionLimit → x.un + 400 < cLine → RunG w x (envOfC name scope x.L fa cd) [(Str.ofString "script", .list (iL ws))] body (fun a => a = .bool true))
    {Q : Flow → Shared → Prop} {E : Value → Shared → Prop}
    (hQ : ∀ h' tk gs, AllBare gs → (∀ b o, s₁.heap.get? b = some o → h'.get? b = some o) → Q (.ret (.bool true)) { s₁ with heap := h', toks := tk, gens := gs }) :
    wpAny (model pg w) (callerA.deeper (envOfC name scope s₁.heap.objs.size fa cd)) (execs body (envOfC name scope s₁.heap.objs.size fa cd)) Q E { heap := h₁, gens := s₁.gens, drawn := s₁.drawn, toks := tk₁, os := s₁.os } := by
  subst hbinds
  let x : Cx := { dp := (callerA.deeper (envOfC name scope s₁.heap.objs.size fa cd)).depth, un := (callerA.deeper (envOfC name scope s₁.heap.objs.size fa cd)).units, gd := callerA.guards, cn := name, cs := scope, L := s₁.heap.objs.size, a := fa, ccd := cd, cl := cellsFrom (s₁.heap.objs.size + 1) scope.names [], outer := [], A₀ := callerA, base := s₁.heap, h₀ := s₁.heap, mean := mean, mg := mg, mb := mb }
  have hx : x.Ok w := ⟨K0, KX, T, hk, Nat.le_refl _, rfl⟩
  have hcsn := cells_adr X0
  have hge : ∀ p ∈ cells, s₁.heap.objs.size + 1 ≤ p.1 := fun p hp => by
    obtain ⟨n, hn, _⟩ := cells_of X0 hp
    rcases cellsFrom_of _ _ _ _ hn with h | h
    · cases h
    · exact ownAdr_ge _ _ _ h
  let G' : Fz := fun b o => s₁.heap.get? b = some o
  let T₁ : Ow := (s₁.heap.objs.size, .ns (bindL (envOfC name scope s₁.heap.objs.size fa cd).kindOf [(Str.ofString "script", .ref a)] fun _ => none)) :: cellSp cells
  have hcf : (cellSp cells).map (·.1) = cells.map (·.1) := by unfold cellSp; rw [List.map_map]; rfl
  have S₁ : St G' T₁ h₁ := by
    refine ⟨fun b o g => F.keep b o g, fun p hp => ?_, fun p hp o g => ?_, ?_⟩
    · rcases List.mem_cons.mp hp with rfl | hp
      · obtain ⟨o, e, q⟩ := ns_obj F.ns; exact ⟨o, e, q⟩
      · obtain ⟨q, hq, rfl⟩ := List.mem_map.mp hp
        refine ⟨q.2, (N0 q hq).1, ?_⟩
        obtain ⟨n, _, d⟩ := cells_of X0 hq
        simp only [d]
        exact d
    · have hlt : p.1 < s₁.heap.objs.size := Heap.lt_size (show s₁.heap.get? p.1 = some o from g)
      rcases List.mem_cons.mp hp with rfl | hp
      · exact Nat.lt_irrefl _ hlt
      · obtain ⟨q, hq, rfl⟩ := List.mem_map.mp hp
        exact absurd hlt (Nat.not_lt.mpr (Nat.le_of_succ_le (hge q hq)))
    · show (s₁.heap.objs.size :: (cellSp cells).map (·.1)).Nodup
      rw [hcf, List.nodup_cons]
      refine ⟨fun h => ?_, ?_⟩
      · obtain ⟨q, hq, e⟩ := List.mem_map.mp h
        have := hge q hq
        rw [e] at this
        exact Nat.not_succ_le_self _ this
      · rw [hcsn]; exact cellsFrom_nd _ _ _ List.nodup_nil fun _ h => nomatch h
  have VA : VR G' (.ref a) (.list (iL ws)) := by
    obtain ⟨o, ho, hc, n, hd⟩ := hL
    rw [show ofPy (.list (ws.map .int)) = WData.list (ofPys (ws.map .int)) from rfl] at hW
    cases hW with | list h1 h2 =>
    rw [h1] at ho
    cases ho
    exact .list h1 hc ⟨rfl, rfl⟩ hd (VRs.of_ints hI)
  obtain ⟨c, hc⟩ := Option.isSome_iff_exists.mp hcs
  have Sok : Ok x (envOfC name scope s₁.heap.objs.size fa cd) [(Str.ofString "script", .list (iL ws))] G' T₁ h₁ := by
    refine { st := S₁, base := fun b o e => .inl e, fr := ⟨_, List.mem_cons_self ..⟩, eg := ⟨hk, rfl, rfl⟩, ap := cellsFrom_nd _ _ _ List.nodup_nil fun _ h => (nomatch h), ce := fun p hp => ?_, lo := ⟨_, List.mem_cons_self ..⟩, rho := fun n av e => ?_ }
    · have : p.2 ∈ cells.map (·.1) := by rw [hcsn]; exact List.mem_map.mpr ⟨p, hp, rfl⟩
      obtain ⟨q, hq, e⟩ := List.mem_map.mp this
      obtain ⟨n, _, d⟩ := cells_of X0 hq
      exact ⟨_, List.mem_cons_of_mem _ (e ▸ cellSp_mem (c := q.1) (o := q.2) hq d)⟩
    · cases List.mem_singleton.mp (mem_of_lookup e)
      obtain ⟨o, ho', hd'⟩ := cells_at X0 hc
      refine ⟨.ref a, .inr ⟨.inl hks, c, hc, List.mem_cons_of_mem _ (cellSp_mem ho' (hd'.trans ?_))⟩, VA⟩
      have hks' : (envOfC name scope s₁.heap.objs.size fa cd).kindOf (Str.ofString "script") = some .cell := hks
      simp [bindC, hks']
  have hA : callerA.deeper (envOfC name scope s₁.heap.objs.size fa cd) = x.A := rfl
  rw [hA]
  refine wpAny_mono (hrun x hx rfl (by show callerA.depth + 1 + 40 < recursionLimit; decide) (by show callerA.units + 3 + 400 < cLine; decide) [] G' T₁ _ E Sok (fun _ h => nomatch h) (by rw [hg]; exact fun z hz => absurd hz (by simp))) (fun f s' p => ?_) fun _ _ e => e
  obtain ⟨h₃, tk₃, gs₃, v, G₃, T₃, av₃, rfl, rfl, hgs₃, l₃, S₃, X₃, r₃, rfl⟩ := p
  cases r₃
  exact hQ h₃ tk₃ gs₃ hgs₃ fun b o e => S₃.keep (show x.h₀.get? b = some o from e)
end
end Mine
end
section
open PySem PySem.W PyProof.Rows PySem.Calls PySem.Spec
set_option Elab.async false
set_option maxRecDepth 100000
namespace Mine
open LCg
set_option maxHeartbeats 4000000
theorem fin : PySem.Challenge.rw_wn0104_01.Holds := by
  refine hd ?_
  delta FD hook
  k_fill
  intro w s₀ s₁ mg mb G Y fa o pm cd doc dV kV ho hd hcd hD hmg hg args vals as hpre hlay hrd hwl hlo
  have KX := kIn_of Y
  have X := (Ground.X G).1
  have V := (Ground.X G).2
  refine Ground.open G ?_
  intro T B D TE TW
  try (refine guard_noD D (by decide +kernel) ?_; clear D)
  obtain ⟨_, _, M⟩ := bmod_of_top T
  have TA := at_of_top T
  try (obtain ⟨_, _, he, B0⟩ := based_of_top T rfl hmg ho hd; have he' : cd = _ := he; subst he'; clear he)
  clear hmg
  wrow_args hpre hlay hrd hwl hlo
  all_goals (
    first | refine callC_kw (enter_call ?_) | refine enter_call ?_ | refine callC_kw (enter_callW ?_) | refine enter_callW ?_ | w_how
    w_top on
    have K0 := below_caller (Top.heap T)
    w_call any ho hd hcd hD T F
    clear hd TA
    k_drop
    skip)
  refine entry_v KX T K0 (by assumption) (by assumption) (by assumption) hg rfl (by decide +kernel) ?_ rfl rfl F (by assumption) (by assumption) ?_ ?_
  · rfl
  · intro x hx hou h1 h2
    exact law_runs hx hou h1 h2 _ (by omega) (by k_is) _ _
  · intro h' tk gs hgs hkeep
    refine ⟨.inl ⟨.bool true, .bool true, [], rfl, raisesW_false ?_, .bool true, ?_, fun _ => ⟨List.nodup_nil, fun _ h => nomatch h⟩⟩, .of_keep hkeep, rfl, hgs⟩
    · wrow_none_raised
    · refine' postW_of ?qs ?qv ?qe
      case qs => o_shape
      case qv => wtm_val
      case qe => rfl
end Mine
end
set_option maxHeartbeats 8000000 in
theorem PySem.Challenge.cw_wn0104_01_holds : PySem.Challenge.rw_wn0104_01.Holds := by
  exact Mine.fin
