import PyProof.Rows.All
import Wide.All
import OpenK.AllK
import Wide.FinOn
import PySem.Challenge.RW_yv0001_01
open PySem PySem.W PyProof.Rows PySem.Calls
set_option Elab.async false
set_option maxRecDepth 100000
set_option maxHeartbeats 8000000
namespace Mine
theorem said : PySem.Challenge.rw_yv0001_01.wellSaid = true := by kernel_rfl
section
local macro_rules | `(tactic| o_head $_) => `(tactic| assumption)
/-- this proof makes the constant mkK.heap_1: the written part of the heap -/
theorem mkK (h : PySem.Challenge.rw_yv0001_01.row.Holds) : PySem.Challenge.rw_yv0001_01.row.Holds := by k_head
end
noncomputable abbrev KH : Params → Frag := mkK.heap_1
abbrev P0 : Program := PySem.Challenge.rw_yv0001_01.row.toRowW.1
def o11 : Obj := { cls := .type "tuple", data := .seq #[] }
def o12 : Obj := { cls := .none, data := .fields #[] }
def o13 : Obj := { cls := .type "code", data := .fields #[.str (Str.ofString "<module>") 182, .str (Str.ofString "<module>") 183, .str (Str.ofString "/claim/cut.py") 184, .int 1 0, .int 0 0, .int 0 0, .int 0 0, .int 0 0, .ref 11, .bool false, .int 181 0, .ref 12, .none, .none, .none, .none, .int 185 0, .int 1 0, .str (Str.ofString "/claim/cut.py") 186] }
def o14 : Obj := { cls := .type "frame", slots := #[some (.ref 13), some (.ref 3), some (.ref 3), none, some (.str (Str.ofString "__main__") 164), none, some (.ref 0)] }
noncomputable def H46 (P : Params) : Heap := { objs := ⟨[boot_o_0 P, boot_o_1 P, boot_o_2 P, boot_o_3 P, boot_o_4 P, boot_o_5 P, boot_o_6 P, boot_o_7 P, boot_o_8 P, boot_o_9 P, boot_o_10 P, o11, o12, o13, o14]⟩ }
noncomputable def T47 (P : Params) : BT :=
  .node (boot_o_0 P)
    (.node (boot_o_1 P) (.node (boot_o_3 P) (.node (boot_o_7 P) .nil .nil) (.node o11 .nil .nil)) (.node (boot_o_5 P) (.node (boot_o_9 P) .nil .nil) (.node o13 .nil .nil)))
    (.node (boot_o_2 P) (.node (boot_o_4 P) (.node (boot_o_8 P) .nil .nil) (.node o12 .nil .nil)) (.node (boot_o_6 P) (.node (boot_o_10 P) .nil .nil) (.node o14 .nil .nil)))
def env0 : Env := { scope := P0.main.scope, locals := mainNs, globals := mainNs, cells := [], code := .ref 13, frame := some 14 }
abbrev B0 : List Stmt := behindTheImports P0
abbrev cE : Code := .body B0 env0
abbrev pos0 : Pos := { line := 0, col := 0, endLine := 0, endCol := 0 }
abbrev posF : Pos := { line := 344, col := 0, endLine := 374, endCol := 84 }
def q0 : Program := view P0 [0, 2, 3, 4, 5, 6, 7, 8, 9, 10, 11, 12, 13, 14, 15, 16, 18, 19, 20, 21, 22, 23, 24, 25, 26]
abbrev loose0 : List Str := [Str.ofString "AES", Str.ofString "Counter", Str.ofString "AESBlockModeOfOperation", Str.ofString "AESStreamModeOfOperation", Str.ofString "AESSegmentModeOfOperation", Str.ofString "AESModeOfOperationECB", Str.ofString "AESModeOfOperationCBC", Str.ofString "AESModeOfOperationCFB", Str.ofString "AESModeOfOperationOFB", Str.ofString "AESModeOfOperationCTR"]
theorem pre0 (w : World) (os : OsState) : topGo treeTable P0 w 11 (some (.ref 6)) 12 ⟨boot_heap w.params, Array.mk [], boot_drawn, boot_toks, os⟩ (topStub P0) =
    some (⟨H46 w.params, #[], {}, 187, os⟩, ⟨denote treeTable cE, cE, pos0, [topFrame pos0]⟩) := by
  rw [PySem.W.Fast.te14364793385576792824]
  kernel_rfl
theorem block0 (w : World) (os : OsState) : segRun treeTable P0 w 11 (some (.ref 6)) 1 1 ⟨H46 w.params, #[], {}, 187, os⟩ (blockOf B0 env0 cE pos0 [topFrame pos0]) =
    some (.next, SharedT.abs ⟨T47 w.params, 15, {}, #[], {}, 187, os⟩, cE, pos0) := by
  rw [PySem.W.Fast.te14364793385576792824]
  kernel_rfl
theorem fin0 (w : World) (s : Shared) : topRun treeTable P0 w 11 (some (.ref 6)) 2 s (restOf [] env0 cE posF [topFrame pos0]) = some s := by
  rw [PySem.W.Fast.te14364793385576792824]
  kernel_rfl
theorem openPlain : opening P0 = plainProg P0.main.scope.names := by kernel_rfl
theorem fence0 (s : Shared) : fenceModules? P0 s = some s := by kernel_rfl
def os0 : OsState := (start (opening P0)).1.os
theorem bootOs (w : World) : (importEnds treeTable (opening P0) w 600 (start (opening P0)).1 (start (opening P0)).2).map (fun s => s.os) = some os0 := by
  rw [PySem.W.Fast.te14364793385576792824]
  kernel_rfl
theorem bootOs2 (w : World) : (fencedOpening treeTable P0 w 15926).map (fun s => s.os) = some os0 := by
  obtain ⟨s, hs, hv⟩ := Option.map_eq_some_iff.mp (bootOs w)
  have m := importEnds_mono 15326 _ _ _ _ hs
  unfold fencedOpening
  rw [m]
  show (fenceModules? P0 s).map _ = _
  rw [fence0 s]
  exact congrArg some hv
theorem boot2 : ∀ w : World, (fencedOpening treeTable P0 w 15926).map (fun s => (s.heap, s.gens, s.drawn, s.toks)) = some (boot_heap w.params, Array.mk [], boot_drawn, boot_toks) := boot_open openPlain (by decide) fence0
theorem size0 (w : World) : ((boot_heap w.params).isNs mainGlobals && (Array.mk [] : Array GenState).size == 0, (boot_heap w.params).objs.size, (boot_heap w.params).nsMap mainGlobals "__annotations__") = (true, 11, some (.ref 6)) := by kernel_rfl
abbrev XT0 : Shared → Bool := fun s => xlAt q0 [] s && recOk (RowW.records PySem.Challenge.rw_yv0001_01.row.toRowW) s
abbrev mods0 : List Str := importedModules P0.main.body
def isLive (o : Obj) : Bool := match o with
  | ⟨_, _, .freed, _⟩ => false
  | _ => true
/-- the whole top, run; what is seen behind it -/
abbrev Chk (w : World) : Prop :=
  (segRunT treeTable P0 w 11 (some (.ref 6)) 1 8200 ⟨T47 w.params, 15, {}, #[], {}, 187, os0⟩ (piecesOf B0 env0 cE pos0 [topFrame pos0])).map (fun r => (r.1, r.2.2,
      (staticsOk mods0 (boot_heap w.params) r.2.1.abs.heap && namesBound P0 r.2.1.abs.heap && gensDone r.2.1.abs && laidKept (boot_heap w.params) r.2.1.abs.heap, openSeen q0 loose0 mods0 XT0 true r.2.1.abs),
      (KH w.params).map (fun p => r.2.1.tree.get p.1), (KH w.params).all (fun p => Nat.blt p.1 r.2.1.n && isLive p.2)))
    = some (.next, (cE, posF), (true, openGood q0 loose0), (KH w.params).map (fun p => some p.2), true)
theorem chkF (w : World) : Chk (w.withFollow "special-get-raises" false) := by
  unfold Chk
  rw [PySem.W.Fast.te10110043849684766642, PySem.W.Fast.te14364793385576792824, PySem.W.Fast.te4187177175401517315]
  kernel_rfl
theorem chkT (w : World) : Chk (w.withFollow "special-get-raises" true) := by
  unfold Chk
  rw [PySem.W.Fast.te10110043849684766642, PySem.W.Fast.te14364793385576792824, PySem.W.Fast.te4187177175401517315]
  kernel_rfl
theorem chk (w : World) : Chk w := byRow2 "special-get-raises" (P := Chk) chkF chkT w
theorem left_of {p q : Program} {loose : List Str} {Xt : Shared → Bool} {α : Type} {Yf : Shared → α} {Ya : World → α} {N : Nat} {H₀ : Params → Heap} {gs₀ : Array GenState} {d₀ : Drawn} {k₀ : Nat} {os₀ : OsState} {m₀ : Nat} {ann : Option Value} {M : Nat}
    (open_ : ∀ w : World, (fencedOpening treeTable p w N).map (fun s => (s.heap, s.gens, s.drawn, s.toks)) = some (H₀ w.params, gs₀, d₀, k₀))
    (openOs : ∀ w : World, (fencedOpening treeTable p w N).map (fun s => s.os) = some os₀)
    (size : ∀ w : World, ((H₀ w.params).isNs mainGlobals && gs₀.size == 0, (H₀ w.params).objs.size, (H₀ w.params).nsMap mainGlobals "__annotations__") = (true, m₀, ann))
    (run : ∀ w : World, ∃ s₁, topRun treeTable p w m₀ ann M ⟨H₀ w.params, gs₀, d₀, k₀, os₀⟩ (topStub p) = some s₁ ∧
      (staticsOk (importedModules p.main.body) (H₀ w.params) s₁.heap && namesBound p s₁.heap && gensDone s₁ && laidKept (H₀ w.params) s₁.heap) = true ∧ openSeen q loose (importedModules p.main.body) Xt true s₁ = openGood q loose ∧ Yf s₁ = Ya w)
    (le : Nat.ble M N = true) : LeftO p q loose Xt Yf Ya N true := fun w => by
  obtain ⟨⟨h, gs, d, k, os⟩, e, e'⟩ := Option.map_eq_some_iff.mp (open_ w)
  obtain ⟨rfl, rfl, rfl, rfl⟩ : h = H₀ w.params ∧ gs = gs₀ ∧ d = d₀ ∧ k = k₀ := by simpa using e'
  have eo := openOs w
  rw [e] at eo
  obtain rfl : os = os₀ := Option.some.inj eo
  obtain ⟨z1, z2, z3⟩ : _ ∧ _ ∧ _ := by simpa only [Prod.mk.injEq] using size w
  obtain ⟨s₁, r0, l1, l2, l3⟩ := run w
  have r := topRun_mono (N - M) _ _ _ _ r0
  rw [show M + (N - M) = N by have := Nat.le_of_ble_eq_true le; omega] at r
  have t : topFrom treeTable p w N ⟨H₀ w.params, gs, d, k, os⟩ = some s₁ := by
    unfold topFrom
    dsimp only
    rw [z1, z2, z3, r]
    show (match staticsOk (importedModules p.main.body) (H₀ w.params) s₁.heap && namesBound p s₁.heap && gensDone s₁ && laidKept (H₀ w.params) s₁.heap with | true => _ | false => _) = _
    rw [l1]
  unfold openEnds
  rw [e]
  show (topFrom treeTable p w N _).map _ = _
  rw [t]
  exact congrArg some (Prod.ext l2 l3)
theorem alive_of {o : Obj} (h : isLive o = true) : alive o = some o := by
  obtain ⟨c, d, da, sl⟩ := o
  cases da <;> first | rfl | cases h
theorem run0 (w : World) : ∃ s₁, topRun treeTable P0 w 11 (some (.ref 6)) (Nat.add 12 (Nat.add 1 (Nat.add 8200 2))) ⟨boot_heap w.params, Array.mk [], boot_drawn, boot_toks, os0⟩ (topStub P0) = some s₁ ∧
    (staticsOk mods0 (boot_heap w.params) s₁.heap && namesBound P0 s₁.heap && gensDone s₁ && laidKept (boot_heap w.params) s₁.heap) = true ∧ openSeen q0 loose0 mods0 XT0 true s₁ = openGood q0 loose0 ∧ ∀ p ∈ KH w.params, s₁.heap.get? p.1 = some p.2 := by
  obtain ⟨⟨f, sT, c, q⟩, hr, he⟩ := Option.map_eq_some_iff.mp (chk w)
  simp only [Prod.mk.injEq] at he
  obtain ⟨rfl, ⟨rfl, rfl⟩, ⟨h1, h2⟩, h3, h4⟩ := he
  refine ⟨sT.abs, ?_, h1, h2, fun p hp => ?_⟩
  · refine go_top (pre0 w os0) (piece_block (block0 w os0) ?_)
    have h := segRun_of hr
    have := piece_app (rest := []) h (fin0 w sT.abs)
    rw [List.append_nil] at this
    exact this
  · have hg := List.map_inj_left.mp h3 p hp
    have hl := List.all_eq_true.mp h4 p hp
    rw [Bool.and_eq_true] at hl
    exact (abs_get (of_decide_eq_true (by simpa [Nat.blt_eq] using hl.1)) hg).trans (alive_of hl.2)
def kAddrs : List Addr := [2, 3, 15, 17, 18, 20, 21, 22, 24, 25, 27, 28, 29, 32, 33, 34, 36, 37, 39, 40, 41, 43, 44, 46, 47, 48, 55, 56, 59, 62, 65, 68, 71, 74, 77, 80, 83, 86, 89, 92, 95, 98, 99, 102, 103, 104, 107, 108, 109, 112, 113, 114, 115, 116, 117, 118, 121, 128, 129, 132, 133, 134, 136, 137, 139, 140, 141, 142, 144, 145, 147, 148, 149, 150, 151, 152, 153, 156, 163, 165, 166, 168, 169, 170, 172, 173, 175, 176, 177, 179, 180, 182, 183, 184, 186, 187, 189, 190, 191, 192, 194, 195, 197, 198, 199, 200, 202, 203, 205, 206, 207, 208, 209, 210, 211, 214, 221, 223, 224, 226, 227, 228, 229, 231, 232, 234, 235, 236, 237, 239, 240, 242, 243, 244, 245, 246, 249, 256, 258, 259, 261, 262, 263, 264, 266, 267, 269, 270, 271, 272, 274, 275, 277, 278, 279, 280, 281, 284, 291, 293, 294, 296, 297, 298, 300, 301, 303, 304, 305, 306, 307, 310, 317, 318, 320, 321, 323, 324, 325, 328, 329, 330, 333, 334, 335, 336, 337, 340, 347, 348, 350, 351, 353, 354, 355, 357, 358, 360, 361, 362, 363, 366, 367, 368, 371, 372, 373, 374, 375, 378, 385, 386, 388, 389, 391, 392, 393, 395, 396, 398, 399, 400, 402, 403, 405, 406, 407, 408, 409, 412, 419, 420, 422, 423, 425, 426, 427, 430, 431, 432, 434, 435, 437, 438, 439, 440, 441, 444, 447, 448, 449, 451, 452, 454, 455, 456, 459, 460, 461, 463, 464, 466, 467, 468, 471, 472, 473, 476, 477, 478, 480, 481, 483, 484, 485, 488, 489, 490, 492, 493, 495, 496]
noncomputable abbrev hk0 : Hook := kHook mkK.heap_1 kAddrs (fun _ => by kernel_rfl)
theorem left0 {as : List Addr} (e : ∀ P, as = (KH P).map (·.1)) : LeftO P0 q0 loose0 XT0 (kHook KH as e).obs (kHook KH as e).val 15926 true :=
  left_of boot2 bootOs2 size0 (fun w => by
    obtain ⟨s₁, a, b, c, d⟩ := run0 w
    refine ⟨s₁, a, b, c, ?_⟩
    show as.map s₁.heap.get? = (KH w.params).map fun p => some p.2
    rw [e w.params, List.map_map]
    exact List.map_congr_left d) (by decide)
section
local macro_rules | `(tactic| o_law) => `(tactic| refine holds_law said fun _ => ?_)
local macro_rules | `(tactic| k_head) => `(tactic| refine holds_open (q := q0) (loose := loose0) (Xt := XT0) (XP := XL q0 []) (Yf := Hook.obs hk0) (Ya := Hook.val hk0) (YP := Hook.says hk0) (N := 15926) (left0 _) (Hook.of hk0) (Hook.keeps hk0) (fun s e => xl_of s (Bool.and_eq_true_iff.mp e).1) XL.keeps (by rfl) (by rfl) (by rfl) (fun s e => recFacts_of (Bool.and_eq_true_iff.mp e).2) (by rfl) (by first | assumption | decide +kernel) (by decide +kernel) ⟨rfl, rfl, rfl, rfl, rfl, by decide +kernel⟩ ?hw ?hc)
open_top hd for PySem.Challenge.rw_yv0001_01
end
theorem warm_all : PySem.Challenge.rw_yv0001_01 = PySem.Challenge.rw_yv0001_01 ∧ mkK.heap_1 = mkK.heap_1 := by
  k_fill
  w_top off
  exact ⟨rfl, rfl⟩
local macro_rules | `(tactic| omega) => `(tactic| first | lia | omega (config := {}))
local macro_rules | `(tactic| tb_start) => `(tactic| with_reducible assumption)
local macro_rules | `(tactic| lcg_sub) => `(tactic| first | exact List.forall_mem_nil _ | (with_reducible refine List.forall_mem_cons.mpr ?_; exact ⟨by k_mem, by lcg_sub⟩) | (intro p' hp'; (repeat' (first | exact hp' | refine List.mem_cons_of_mem _ ?_)); done))
local macro_rules | `(tactic| k_upd) => `(tactic| with_reducible assumption)
local macro_rules | `(tactic| k_lt $h:ident) => `(tactic| (replace $h := allLt_of $h; have h9 := $h; simp only [AllLt, and_true] at $h:ident))
local macro_rules | `(tactic| k_ne) => `(tactic| (refine neN ?_; (try dsimp only); first | with_reducible assumption | exact Ne.symm (by with_reducible assumption) | exact Nat.ne_of_lt (kst_ltOf (by with_reducible assumption) (_, _) (by k_mem)) | exact Nat.ne_of_gt (kst_ltOf (by with_reducible assumption) (_, _) (by k_mem)) | fail "no fact"))
section
theorem foldQ {α : Type} {M : Model} {A : Around} {c : Sem α} {Q : α → Shared → Prop} {E : Value → Shared → Prop} {s : Shared} (h : let q := Q; wpAny M A c q E s) : wpAny M A c Q E s := h
theorem letA {α : Type} {M : Model} {A : Around} {c : Sem α} {Q : α → Shared → Prop} {E : Value → Shared → Prop} {s : Shared} (h : let A' := A; wpAny M A' c Q E s) : wpAny M A c Q E s := h
theorem an8 {a b c d e f g r C : Prop} (h : a ∧ b ∧ c ∧ d ∧ e ∧ f ∧ g ∧ r) (k : a → b → c → d → e → f → g → r → C) : C := k h.1 h.2.1 h.2.2.1 h.2.2.2.1 h.2.2.2.2.1 h.2.2.2.2.2.1 h.2.2.2.2.2.2.1 h.2.2.2.2.2.2.2
theorem an4 {a b c r C : Prop} (h : a ∧ b ∧ c ∧ r) (k : a → b → c → r → C) : C := k h.1 h.2.1 h.2.2.1 h.2.2.2
theorem an2 {a r C : Prop} (h : a ∧ r) (k : a → r → C) : C := k h.1 h.2
def KeepBut (h h' : Heap) (adr : List Addr) : Prop := ∀ b o, h.get? b = some o → b ∉ adr → h'.get? b = some o

def Ends (g : Heap) (L : Addr) (s : Shared) (R : Value → List (Addr × Obj) → Prop) (v : Value) (s' : Shared) : Prop :=
  ∃ h' tk' m' news', s' = { s with heap := h', toks := tk' } ∧ Fr g L h' m' ∧ News g L h' news' ∧ R v news'

theorem Ends.mk' {g : Heap} {L : Addr} {s : Shared} {R : Value → List (Addr × Obj) → Prop} {v : Value} {h' : Heap} {tk' : Nat} {m' : Str → Option Value} {news' : List (Addr × Obj)}
    (F : Fr g L h' m') (N : News g L h' news') (r : R v news') : Ends g L s R v { s with heap := h', toks := tk' } := ⟨h', tk', m', news', rfl, F, N, r⟩

theorem Ends.mk2 {g : Heap} {L : Addr} {s : Shared} {R : Value → List (Addr × Obj) → Prop} {v : Value} {h' : Heap} {tk' : Nat} {m' : Str → Option Value} {all news' : List (Addr × Obj)}
    (F : Fr g L h' m') (N : News g L h' all) (r : R v news') (hs : ∀ p ∈ news', p ∈ all) : Ends g L s R v { s with heap := h', toks := tk' } := ⟨h', tk', m', news', rfl, F, fun p hp => N p (hs p hp), r⟩

/-- what a call answers -/
def Ans (h₀ : Heap) (L : Addr) (m : Str → Option Value) (news : List (Addr × Obj)) (s : Shared) (R : Value → List (Addr × Obj) → Prop) (Q : Value → Shared → Prop) : Prop :=
  ∀ v news' h' tk', Fr h₀ L h' m → News h₀ L h' news' → KeepBut s.heap h' (news.map (·.1)) → (∀ p ∈ news', p.1 ∈ news.map (·.1) ∨ s.heap.get? p.1 = none) → R v news' → Q v { s with heap := h', toks := tk' }

def Spec (w : World) (f : Value) (vs : List Value) (hyp : Heap → Prop) (news : List (Addr × Obj)) (D U : Nat) (R : Value → List (Addr × Obj) → Prop) : Prop :=
  ∀ (p : Program) (loose : List Str) (mean : ExcName → Option Value) (mg mb : Str → Option Value) (dp un : Nat) (gd : Option (List Code)) (cn : Str) (cs : Scope) (a : Addr) (ccd : Value) (cl : List (Str × Addr)) (outer : List Env) (A₀ : Around) (base h₀ : Heap) (L : Addr) (m : Str → Option Value) (s : Shared)
    (Q E : Value → Shared → Prop), Below A₀ base outer h₀ → Fr h₀ L s.heap m → (mkK.heap_1 w.params).In h₀ → News h₀ L s.heap news → Top p loose mean mg mb h₀ → cs.kind = .function → dp + D < recursionLimit → un + U < cLine →
    (∀ g, KeepBut s.heap g (news.map (·.1)) → hyp g) → Ans h₀ L m news s R Q →
    codeAny (model PySem.Challenge.rw_yv0001_01.row.prog w) (ktrTop dp un gd cn cs L a ccd cl outer) (.call f ⟨vs, []⟩) (fun r s' => match r with | .ok (.ret v) => Q v s' | .ok _ => False | .error e => E e s') s

theorem spec_def {w : World} {f : Addr} {vs : List Value} {hyp : Heap → Prop} {news : List (Addr × Obj)} {D U : Nat} {R : Value → List (Addr × Obj) → Prop} {name qual : Str} {params : Arguments} {body : List Stmt} {scope : Scope} {dV kV doc pm cdv ct oc : Value} {an od : Option Addr} {osl : Array (Option Value)} {binds : List (Str × Value)}
    (ho : (mkK.heap_1 w.params).lookup f = some ⟨oc, od, .func (fnOf name qual params body scope dV kV doc pm an cdv ct), osl⟩) (hcd : codeIn (mkK.heap_1 w.params) cdv qual = true)
    (hbind : ∀ s : Shared, (mkK.heap_1 w.params).In s.heap → BindsTo s (fnOf name qual params body scope dV kV doc pm an cdv ct) ⟨vs, []⟩ binds) (hloc : ∀ y ∈ binds, scope.names.lookup y.1 = some .local)
    (hco : scope.isCoroutine = false) (hgen : scope.isGenerator = false) (hk : scope.kind = .function) (hcell : ∀ x ∈ scope.names, x.2 ≠ .cell)
    (hbody : ∀ (p : Program) (loose : List Str) (mean : ExcName → Option Value) (mg mb : Str → Option Value) (dp un : Nat) (gd : Option (List Code)) (cn : Str) (cs : Scope) (a : Addr) (ccd : Value) (cl : List (Str × Addr)) (outer : List Env) (base : Heap) (L : Addr) (g : Heap) (L' : Addr) (h₁ : Heap) (s : Shared) (tk : Nat),
      Below (ktrTop dp un gd cn cs L a ccd cl outer) base (envX cn cs L a ccd cl :: outer) g → Fr g L' h₁ (fun y => binds.reverse.lookup y) → (mkK.heap_1 w.params).In g → News g L' h₁ news → Top p loose mean mg mb g → dp + (D + 1) < recursionLimit → un + (U + 8) < cLine → hyp g →
      wpAny (model PySem.Challenge.rw_yv0001_01.row.prog w) ((ktrTop dp un gd cn cs L a ccd cl outer).deeper (envOf qual scope L' f cdv)) (execs body (envOf qual scope L' f cdv))
        (fun fl s' => Ends g L' s R (match fl with | .ret v => v | _ => .none) s') (fun _ _ => False) { s with heap := h₁, toks := tk }) : Spec w (.ref f) vs hyp news (D + 1) (U + 8) R := by
  intro p loose mean mg mb dp un gd cn cs a ccd cl outer A₀ base h₀ L m s Q E B F X N T hkk hd' hu hyp' hans
  refine code_defG B F X N T (A := ktrTop dp un gd cn cs L a ccd cl outer) rfl rfl hkk ho hcd (by show dp < _; omega) (hbind s (X.keeps F.keep)) hloc (fun g L' h₁ FG F' N' B' X' T' G => ?_) hco hgen hk hcell
  refine wpAny_mono (hbody p loose mean mg mb dp un gd cn cs a ccd cl outer base L g L' h₁ s _ B' F' X' N' T' hd' hu (hyp' g G)) (fun fl s' e => ?_) fun _ _ e => e.elim
  obtain ⟨h', tk', m', news', rfl, F2, N2, r⟩ := e
  refine leaveK_ F2 N2 fun kF kN => ?_
  refine hans _ news' h' tk' kF kN (fun b o e hb => F2.keep b o (G b o e hb)) (fun q hq => ?_) r
  by_cases hb : q.1 ∈ news.map (·.1)
  · exact .inl hb
  · refine .inr ?_
    cases e : s.heap.get? q.1 with
    | none => rfl
    | some o =>
      have z := (N2 q hq).2.2
      rw [G _ _ e hb] at z
      cases z

theorem spec_defC {w : World} {f : Addr} {vs : List Value} {hyp : Heap → Prop} {news : List (Addr × Obj)} {D U : Nat} {R : Value → List (Addr × Obj) → Prop} {name qual : Str} {params : Arguments} {body : List Stmt} {scope : Scope} {dV kV doc pm cdv ct oc : Value} {an od : Option Addr} {osl : Array (Option Value)} {binds : List (Str × Value)}
    (ho : (mkK.heap_1 w.params).lookup f = some ⟨oc, od, .func (fnOf name qual params body scope dV kV doc pm an cdv ct), osl⟩) (hcd : codeIn (mkK.heap_1 w.params) cdv qual = true)
    (hbind : ∀ s : Shared, (mkK.heap_1 w.params).In s.heap → BindsTo s (fnOf name qual params body scope dV kV doc pm an cdv ct) ⟨vs, []⟩ binds)
    (hkind : (binds.all fun y => scope.names.lookup y.1 == some .local || scope.names.lookup y.1 == some .cell) = true) (hnd : ((cellsFrom 0 scope.names []).map (·.1)).Nodup)
    (hco : scope.isCoroutine = false) (hgen : scope.isGenerator = false) (hk : scope.kind = .function)
    (hbody : ∀ (p : Program) (loose : List Str) (mean : ExcName → Option Value) (mg mb : Str → Option Value) (dp un : Nat) (gd : Option (List Code)) (cn : Str) (cs : Scope) (a : Addr) (ccd : Value) (cl : List (Str × Addr)) (outer : List Env) (base : Heap) (L : Addr) (g : Heap) (L' : Addr) (h₁ : Heap) (s : Shared) (tk : Nat) (cells : List (Addr × Obj)),
      Below (ktrTop dp un gd cn cs L a ccd cl outer) base (envX cn cs L a ccd cl :: outer) g → Fr g L' h₁ (bindL (envOfC qual scope L' f cdv).kindOf binds fun _ => none) → (mkK.heap_1 w.params).In g → News g L' h₁ (cells ++ news) →
      CellsAre (bindC (envOfC qual scope L' f cdv).kindOf binds fun _ => none) (cellsFrom (L' + 1) scope.names []) cells → Top p loose mean mg mb g → dp + (D + 1) < recursionLimit → un + (U + 8) < cLine → hyp g → (∀ q ∈ news, q.1 < L') →
      wpAny (model PySem.Challenge.rw_yv0001_01.row.prog w) ((ktrTop dp un gd cn cs L a ccd cl outer).deeper (envOfC qual scope L' f cdv)) (execs body (envOfC qual scope L' f cdv))
        (fun fl s' => Ends g L' s R (match fl with | .ret v => v | _ => .none) s') (fun _ _ => False) { s with heap := h₁, toks := tk }) : Spec w (.ref f) vs hyp news (D + 1) (U + 8) R := by
  intro p loose mean mg mb dp un gd cn cs a ccd cl outer A₀ base h₀ L m s Q E B F X N T hkk hd' hu hyp' hans
  have hK := X.keeps F.keep
  obtain ⟨FG, BG, st, lv⟩ := groundX (R := fun r s' => match r with | .ok (.ret v) => Q v s' | .ok _ => False | .error e => E e s') B F N (A := ktrTop dp un gd cn cs L a ccd cl outer) rfl rfl hkk
  have G : KeepBut s.heap (hideAll s.heap (news.map (·.1))) (news.map (·.1)) := fun b o e n => hideAll_get _ e n
  refine codeAny_call_function (by show dp < _; omega) (hK _ _ ho) rfl hco hgen rfl (codeRec_of hK hcd) (hbind s hK _ _ _ _ ?_)
  refine wpAny_newFunctionEnv_cells hk (kindsX hkind _) fun env' he s' x => ?_
  subst he
  refine ⟨(T.nolimit.keeps F.keep).keeps x.toInCall.keep, codeAny_func ?_⟩
  obtain ⟨h₁, tk, rfl, _⟩ := x.done
  have up := x.toInCall.keep
  obtain ⟨cells, NC, Y⟩ := Cl.news (h₀ := s.heap) (Nat.le_refl _) fun n c hm => ⟨x.cell n c (lookup_of_mem_nodup (cellsFrom_names scope.names 0 (s.heap.objs.size + 1) [] [] rfl ▸ hnd) hm), x.above n c hm⟩
  have lo : ∀ q ∈ news, q.1 < s.heap.objs.size := fun q hq => Heap.lt_size (N q hq).1
  have NN : News (hideAll s.heap (news.map (·.1))) s.heap.objs.size h₁ (cells ++ news) := fun q hq => by
    rcases List.mem_append.mp hq with hq | hq
    · refine ⟨(NC q hq).1, (NC q hq).2.1, ?_⟩
      cases z : (hideAll s.heap (news.map (·.1))).get? q.1 with
      | none => rfl
      | some o => exact absurd (of_hideAll _ z) (by rw [(NC q hq).2.2]; intro y; cases y)
    · exact ⟨up _ _ (N q hq).1, Nat.ne_of_lt (lo q hq), hideAll_none _ (List.mem_map_of_mem hq)⟩
  refine wpAny_mono (hbody p loose mean mg mb dp un gd cn cs a ccd cl outer base L _ _ h₁ s tk cells BG ⟨x.toInCall.ns, fun b o e => up b o (of_hideAll _ e), Nat.le_of_eq (hideAll_size _ _)⟩ (X.keeps st) NN Y (T.keeps st) hd' hu (hyp' _ G) lo) (fun fl s' e => ?_) fun _ _ e => e.elim
  obtain ⟨h', tk', m', news', rfl, F2, N2, r⟩ := e
  refine lv _ _ (leaveK_ F2 N2 fun kF kN => ?_)
  refine hans _ news' h' tk' kF kN (fun b o e hb => F2.keep b o (G b o e hb)) (fun q hq => ?_) r
  by_cases hb : q.1 ∈ news.map (·.1)
  · exact .inl hb
  · refine .inr ?_
    cases e : s.heap.get? q.1 with
    | none => rfl
    | some o =>
      have z := (N2 q hq).2.2
      rw [G _ _ e hb] at z
      cases z

theorem bind_plain {w : World} {fd : FuncData} {args : Args} {binds : List (Str × Value)} (h : bindArgs fd args = pure binds) : ∀ s : Shared, (mkK.heap_1 w.params).In s.heap → BindsTo s fd args binds := fun _ _ => BindsTo.of_eq h
theorem bind_dflt {w : World} {fd : FuncData} {args : Args} {binds : List (Str × Value)} {T : Addr} {o : Obj} {items : Array Value} {n : Nat} {k : Option (Array Value) → Sem (List (Str × Value))} (hdf : fd.defaults = .ref T) (ho : (mkK.heap_1 w.params).lookup T = some o) (hs : o.data = .seq items n)
    (h₁ : bindArgs fd args = seqItems? fd.defaults >>= k) (h₂ : k (some items) = pure binds) : ∀ s : Shared, (mkK.heap_1 w.params).In s.heap → BindsTo s fd args binds := fun _ X => binds_K X hdf ho hs h₁ h₂

theorem Upd.mem {d : Addr} {o o' : Obj} : ∀ {all all' : List (Addr × Obj)}, Upd d o o' all all' → ∀ p ∈ all', p = (d, o') ∨ (p ∈ all ∧ p.1 ≠ d)
  | _, _, .head h, p, hp => by
    rcases List.mem_cons.mp hp with rfl | hp
    · exact .inl rfl
    · exact .inr ⟨List.mem_cons_of_mem _ hp, h p hp⟩
  | _, _, .tail h r, p, hp => by
    rcases List.mem_cons.mp hp with rfl | hp
    · exact .inr ⟨List.mem_cons_self, h⟩
    · rcases Upd.mem r p hp with e | ⟨e, n⟩
      · exact .inl e
      · exact .inr ⟨List.mem_cons_of_mem _ e, n⟩
theorem Upd.was {d : Addr} {o o' : Obj} : ∀ {all all' : List (Addr × Obj)}, Upd d o o' all all' → (d, o) ∈ all
  | _, _, .head _ => List.mem_cons_self
  | _, _, .tail _ r => List.mem_cons_of_mem _ (Upd.was r)

theorem upd1_keep {h₀ h h' : Heap} {L d : Addr} {o o' : Obj} {all all' : List (Addr × Obj)} (N : News h₀ L h all) (U : Upd d o o' all all') (K : KeepBut h h' [d]) (Nd : News h₀ L h' [(d, o')]) : News h₀ L h' all' := by
  intro p hp
  rcases Upd.mem U p hp with rfl | ⟨hp, n⟩
  · exact Nd _ List.mem_cons_self
  · exact ⟨K _ _ (N p hp).1 (by simpa using n), (N p hp).2⟩
theorem upd2_keep {h₀ h h' : Heap} {L d d2 : Addr} {o o' o2 o2' : Obj} {all all1 all' : List (Addr × Obj)} (N : News h₀ L h all) (U : Upd d o o' all all1) (U2 : Upd d2 o2 o2' all1 all') (K : KeepBut h h' [d, d2]) (Nd : News h₀ L h' [(d, o'), (d2, o2')]) : News h₀ L h' all' := by
  intro p hp
  rcases Upd.mem U2 p hp with rfl | ⟨hp, n⟩
  · exact Nd _ (List.mem_cons_of_mem _ List.mem_cons_self)
  · rcases Upd.mem U p hp with rfl | ⟨hp, n'⟩
    · exact Nd _ List.mem_cons_self
    · exact ⟨K _ _ (N p hp).1 (by simp [n, n']), (N p hp).2⟩
/-- only reads: all stays -/
theorem all_keep {h₀ h h' : Heap} {L : Addr} {all : List (Addr × Obj)} (N : News h₀ L h all) (K : KeepBut h h' []) : News h₀ L h' all :=
  fun p hp => ⟨K _ _ (N p hp).1 (by simp), (N p hp).2⟩
theorem lt_of_fresh {h₀ h : Heap} {L a : Addr} {all : List (Addr × Obj)} (N : News h₀ L h all) (e : h.get? a = none) : ∀ p ∈ all, p.1 ≠ a := fun p hp q => by
  have := (N p hp).1
  rw [q, e] at this; cases this

/-- a stop of the walk: unknown to its lines -/
def Hold (P : Prop) : Prop := P
theorem Hold.mk {P : Prop} (h : Hold P) : P := h
theorem Hold.out {P : Prop} (h : P) : Hold P := h

section
variable {w : World} {A : Around} {E : Value → Shared → Prop} {s : Shared} {h₀ : Heap} {L : Addr} {m : Str → Option Value} {news : List (Addr × Obj)}
theorem item_led {l : Addr} {us : List Value} {ns : List Int} {n : Nat} {k : Int} {u : Tok} {value slice : Expr} {Q : Value → Shared → Prop} (N : News h₀ L s.heap news) (hm : (l, listOf us.toArray n) ∈ news) (hi : IntsAre us ns) (h0 : 0 ≤ k) (h1 : k < (ns.length : Int)) (hf : k < 2 ^ 63)
    (h : ∀ t, Q (.int (ns.getD k.toNat 0) t) s)
    (hs : subscripted slice false (.ref l) (.int k u) = operate [.ref l, .int k u] (getItem (.ref l) (.int k u)) := by with_unfolding_all rfl) :
    wpAny (model PySem.Challenge.rw_yv0001_01.row.prog w) A (subscriptTail value slice (.ref l) (.int k u)) Q E s := by
  have hl : s.heap.IsList l us.toArray := ⟨_, (N _ hm).1, rfl, _, rfl⟩
  obtain ⟨t, ht⟩ := hi.get k.toNat (ns.getD k.toNat 0) (by
    rw [List.getD_eq_getElem?_getD, List.getElem?_eq_getElem (by omega)]; rfl)
  exact tail_any hl.typeIs slot_list_getitem.lookup (wpAny_getItem_list hl h0 hf (by simpa using ht) (h t)) hs

theorem comp_map {env : Env} {elt : Expr} {x : Str} {scope : Scope} {cl : List (Str × Addr)} {S : List (Addr × Obj) → Prop} {P : Nat → Value → Prop} {Fin : List Value → List (Addr × Obj) → Prop} {n : Nat} (f : Nat → Int)
    (turn : ∀ (i : Nat) ys v I oI C oC D m₂ h tk (E' : Value → Shared → Prop), i < n → P i v → LCg.NsObj oC m₂ → m₂ x = some v → Fr h₀ L h m →
      News h₀ L h ((I, oI) :: (C, oC) :: (D, LCg.lst ys) :: news) → LCg.Off3 I C D news → ((@Ne Nat I C) ∧ (@Ne Nat I D) ∧ (@Ne Nat C D)) →
      wpAny (model PySem.Challenge.rw_yv0001_01.row.prog w) A (eval elt (compEnvC scope cl C env)) (LCg.CompEnd h₀ L m { s with heap := h, toks := tk } I oI C oC D (LCg.lst ys) S (fun y news' => KCfEl news (f i) y news')) E' { s with heap := h, toks := tk })
    (fin : ∀ ys, IntsAre ys ((List.range n).map f) → Fin ys news) :
    LCg.CompRest PySem.Challenge.rw_yv0001_01.row.prog w A h₀ L m env elt x scope cl s S P Fin n 0 [] news := by
  have key : ∀ (j i : Nat) (ys : List Value), i + j = n → IntsAre ys ((List.range i).map f) → LCg.CompRest PySem.Challenge.rw_yv0001_01.row.prog w A h₀ L m env elt x scope cl s S P Fin j i ys news := by
    intro j
    induction j with
    | zero =>
      intro i ys hi hy
      have e : i = n := by omega
      subst e
      exact LCg.CompRest.zero (fin ys hy)
    | succ j ih =>
      intro i ys hi hy
      refine LCg.CompRest.succ ?_
      intro v I oI C oC D m₂ h tk E' hv hC hx F N off ne
      refine wpAny_mono (turn i ys v I oI C oC D m₂ h tk E' (by omega) hv hC hx F N off ne) (fun y s₂ hq => ?_) fun _ _ e => e
      obtain ⟨h', tk', nw, e, F', N', off', hS, rfl, t', rfl⟩ := hq
      refine ⟨h', tk', nw, e, F', N', off', hS, ih (i + 1) _ (by omega) ?_⟩
      rw [List.range_succ, List.map_append]
      exact IntsAre.append hy (.cons (f i) t' .nil)
  exact key n 0 [] (by omega) .nil
end

theorem Spec.read {w : World} {f : Value} {vs : List Value} {hy : Heap → Prop} {D U : Nat} {R : Value → Prop} (S : Spec w f vs hy [] D U (fun v nw => nw = [] ∧ R v)) {p : Program} {loose : List Str} {mean : ExcName → Option Value} {mg mb : Str → Option Value} {dp un : Nat} {gd : Option (List Code)} {cn : Str} {cs : Scope} {a : Addr} {ccd : Value} {cl : List (Str × Addr)} {outer : List Env} {A₀ : Around} {base h₀ : Heap} {L : Addr} {m : Str → Option Value} {s : Shared}
    {Q E : Value → Shared → Prop} {all : List (Addr × Obj)} (B : Below A₀ base outer h₀) (F : Fr h₀ L s.heap m) (X : (mkK.heap_1 w.params).In h₀) (N : News h₀ L s.heap all) (T : Top p loose mean mg mb h₀) (hk : cs.kind = .function) (hd' : dp + D < recursionLimit) (hu : un + U < cLine)
    (hy' : ∀ g, (∀ b o, s.heap.get? b = some o → g.get? b = some o) → hy g)
    (cont : ∀ v h' k, Fr h₀ L h' m → News h₀ L h' all → (∀ b o, s.heap.get? b = some o → h'.get? b = some o) → R v → Q v { s with heap := h', toks := k }) :
    wpAny (model PySem.Challenge.rw_yv0001_01.row.prog w) (ktrTop dp un gd cn cs L a ccd cl outer) (call f vs) Q E s :=
  wpAny_call (S p loose mean mg mb dp un gd cn cs a ccd cl outer A₀ base h₀ L m s Q E B F X News.nil T hk hd' hu (fun g K => hy' g fun b o e => K b o e (by simp)) fun v news' h' tk' F' _ K' _ r =>
    cont v h' tk' F' (all_keep N K') (fun b o e => K' b o e (by simp)) r.2)
end
section
/-- the state of the draws: the list and its cells -/
structure StOk (k : Int) (vs : List Value) (cells : List Int) : Prop where
  are : IntsAre vs cells
  pos : ∀ x ∈ cells, 0 ≤ x
  pos1 : 0 < cells.length
  few : cells.length ≤ 63
  k0 : 0 ≤ k

inductive TakeEnd (c : Addr) (st : Addr) (k most : Int) (v : Value) (news' : List (Addr × Obj)) : Prop
  | mk0 (x k' : Int) (t tk' : Tok) (vs' : List Value) (cells' : List Int) (n1 n2 : Nat) (z1 : v = .int x t) (z2 : news' = [(st, listOf #[.int k' tk', .ref c] n1), (c, listOf vs'.toArray n2)]) (z3 : 0 ≤ x) (z4 : x < most) (z5 : StOk k' vs' cells') (z6 : k' ≤ k + 1) : TakeEnd c st k most v news'
theorem set_nonneg {cells : List Int} {i : Nat} {x : Int} (h : ∀ y ∈ cells, 0 ≤ y) (hx : 0 ≤ x) : ∀ y ∈ cells.set i x, 0 ≤ y := fun y hy => by
  rcases List.mem_or_eq_of_mem_set hy with h1 | rfl
  · exact h y h1
  · exact hx
theorem getD_nonneg {cells : List Int} {i : Nat} (h : ∀ y ∈ cells, 0 ≤ y) : 0 ≤ cells.getD i 0 := by
  rw [List.getD_eq_getElem?_getD]
  cases e : cells[i]? with
  | none => simp
  | some v => simpa using h v (List.mem_of_getElem? e)

theorem take_spec (w : World) {st c : Addr} {k : Int} {tk0 : Tok} {vs : List Value} {cells : List Int} {n1 n2 : Nat} {most : Int} {tm : Tok}
    (ok : StOk k vs cells) (hk1 : k < 100000) (hm0 : 0 < most) (hm1 : most < 100000) (hne : (@Ne Nat st c)) :
    Spec w (.ref 455) [.ref st, .int most tm] (fun _ => True) [(st, listOf #[.int k tk0, .ref c] n1), (c, listOf vs.toArray n2)] 1 8 (TakeEnd c st k most) := by
  obtain ⟨hi, hpos, hl, hl2, hk0⟩ := ok
  with_unfolding_all refine' spec_def ?ho ?hcd ?hbind ?hloc ?c2 ?c3 ?c4 ?c5 ?_
  (case ho => k_is)
  (case hcd => k_is)
  (case hbind => first | exact bind_plain rfl | exact bind_dflt rfl (by k_is) rfl rfl rfl)
  (case hloc => exact locs rfl)
  (case c2 => exact rfl)
  (case c3 => exact rfl)
  (case c4 => exact rfl)
  (case c5 => decide)
  intro p loose mean mg mb dp un gd cn cs ca ccd cl outer base L g L1 h1 s tk B F X N T hdp hun hyp
  refine letA ?_
  intro A0
  (try dsimp only)
  (try k_fold)
  (repeat' (first | (k_unfold; (try dsimp only)) | ((with_reducible show wpAny _ _ (exec _ _) _ _ _); (fail_if_success (fail_if_success k_fold)); refine foldQ ?_; intro q9)  | (k_end; wrow_close) | walk1 | (dsimp only; walk1) | (leave1; walk_say "STEP leave1"; try dsimp only) | fail "no step"))
  all_goals (refine Ends.mk' (by k_asm) (by k_asm) ?_)
  · exact ⟨_, k, _, _, _, _, _, _, rfl, rfl, Int.fmod_nonneg_of_pos _ hm0, Int.fmod_lt_of_pos _ hm0, ⟨by assumption, set_nonneg hpos (Int.fdiv_nonneg (getD_nonneg hpos) (by omega)), by simpa using hl, by simpa using hl2, hk0⟩, by omega⟩
  · exact ⟨_, k + 1, _, _, _, cells, _, _, rfl, rfl, Int.fmod_nonneg_of_pos _ hm0, Int.fmod_lt_of_pos _ hm0, ⟨hi, hpos, hl, hl2, by omega⟩, by omega⟩

theorem ne_of_lists {h₀ h : Heap} {L st c : Addr} {k : Int} {tk0 : Tok} {vs : List Value} {cells : List Int} {n1 n2 : Nat} {all : List (Addr × Obj)} (N : News h₀ L h all) (hi : IntsAre vs cells)
    (hst : (st, listOf #[.int k tk0, .ref c] n1) ∈ all) (hc : (c, listOf vs.toArray n2) ∈ all) : st ≠ c := by
  rintro rfl
  have h1 := (N _ hst).1
  have h2 := (N _ hc).1
  rw [h1] at h2
  have h3 := Option.some.inj h2
  injection h3 with _ _ h4
  injection h4 with h5
  have h6 : [Value.int k tk0, .ref st] = vs := congrArg Array.toList h5
  subst h6
  cases hi with
  | cons n t h => cases h

theorem take_use {w : World} {p : Program} {loose : List Str} {mean : ExcName → Option Value} {mg mb : Str → Option Value} {dp un : Nat} {gd : Option (List Code)} {cn : Str} {cs : Scope} {a : Addr} {ccd : Value} {cl : List (Str × Addr)} {outer : List Env} {A₀ : Around} {base h₀ : Heap} {L : Addr} {m : Str → Option Value} {s : Shared}
    {Q E : Value → Shared → Prop} {all : List (Addr × Obj)} {st c : Addr} {k : Int} {tk0 : Tok} {vs : List Value} {cells : List Int} {n1 n2 : Nat} {most : Int} {tm : Tok} {f1 : Obj → List (Addr × Obj)} {f2 : Obj → Obj → List (Addr × Obj)}
    (B : Below A₀ base outer h₀) (F : Fr h₀ L s.heap m) (X : (mkK.heap_1 w.params).In h₀) (N : News h₀ L s.heap all) (T : Top p loose mean mg mb h₀) (hk : cs.kind = .function)
    (hst : (st, listOf #[.int k tk0, .ref c] n1) ∈ all) (hc : (c, listOf vs.toArray n2) ∈ all) (ok : StOk k vs cells) (U1 : ∀ o, Upd st (listOf #[.int k tk0, .ref c] n1) o all (f1 o)) (U2 : ∀ o o2, Upd c (listOf vs.toArray n2) o2 (f1 o) (f2 o o2))
    (hk1 : k < 100000) (hm0 : 0 < most) (hm1 : most < 100000) (hd' : dp + 1 < recursionLimit) (hu : un + 8 < cLine)
    (cont : ∀ x k' t tk' vs' cells' n1 n2 h' tks, Fr h₀ L h' m → News h₀ L h' (f2 (listOf #[.int k' tk', .ref c] n1) (listOf vs'.toArray n2)) → 0 ≤ x → x < most → StOk k' vs' cells' → k' ≤ k + 1 → Q (.int x t) { s with heap := h', toks := tks }) :
    wpAny (model PySem.Challenge.rw_yv0001_01.row.prog w) (ktrTop dp un gd cn cs L a ccd cl outer) (call (.ref 455) [.ref st, .int most tm]) Q E s := by
  refine wpAny_call ?_
  refine take_spec w (tk0 := tk0) (n1 := n1) (n2 := n2) ok hk1 hm0 hm1 (ne_of_lists N ok.are hst hc) p loose mean mg mb dp un gd cn cs a ccd cl outer A₀ base h₀ L m s Q E B F X (fun q hq => ?_) T hk hd' hu (fun _ _ => trivial) ?_
  · rcases List.mem_cons.mp hq with rfl | hq
    · exact N _ hst
    · rw [List.mem_singleton.mp hq]; exact N _ hc
  · rintro v news' h' tk' F' N' K' _ ⟨x, k', t, tk1, vs', cells', m1, m2, rfl, rfl, h1, h2, ok', h3⟩
    exact cont x k' t tk1 vs' cells' m1 m2 h' tk' F' (upd2_keep N (U1 _) (U2 _ _) K' N') h1 h2 ok' h3
end
section
inductive TakeElt (e0 : Addr × Obj) (st c : Addr) (k' most : Int) (y : Value) (news' : List (Addr × Obj)) : Prop
  | mk0 (r : Int) (t : Tok) (k'' : Int) (tk'' : Tok) (vs'' : List Value) (cells'' : List Int) (n1 : Nat) (n2 : Nat) (z1 : y = .int r t) (z2 : 0 ≤ r) (z3 : r < most) (z4 : news' = [e0, (st, listOf #[.int k'' tk'', .ref c] n1), (c, listOf vs''.toArray n2)]) (z5 : StOk k'' vs'' cells'') (z6 : k'' ≤ k' + 1) : TakeElt e0 st c k' most y news'
/-- a comprehension whose element draws -/
theorem comp_take {w : World} {A : Around} {h₀ : Heap} {L : Addr} {m : Str → Option Value} {env : Env} {elt : Expr} {x : Str} {scope : Scope} {cl : List (Str × Addr)} {s : Shared} {S : List (Addr × Obj) → Prop} {P : Nat → Value → Prop} {Fin : List Value → List (Addr × Obj) → Prop}
    {e0 : Addr × Obj} {st c : Addr} {k : Int} {tk0 : Tok} {vs : List Value} {cells : List Int} {n1 n2 n : Nat} (most : Int) (ok : StOk k vs cells)
    (turn : ∀ (i : Nat) k' tk' vs' cells' n1 n2 ys v I oI C oC D m₂ h tk (E' : Value → Shared → Prop), i < n → StOk k' vs' cells' → k' ≤ k + i → P i v → LCg.NsObj oC m₂ → m₂ x = some v → Fr h₀ L h m →
      News h₀ L h ((I, oI) :: (C, oC) :: (D, LCg.lst ys) :: [e0, (st, listOf #[.int k' tk', .ref c] n1), (c, listOf vs'.toArray n2)]) → LCg.Off3 I C D [e0, (st, listOf #[.int k' tk', .ref c] n1), (c, listOf vs'.toArray n2)] → ((@Ne Nat I C) ∧ (@Ne Nat I D) ∧ (@Ne Nat C D)) →
      wpAny (model PySem.Challenge.rw_yv0001_01.row.prog w) A (eval elt (compEnvC scope cl C env)) (LCg.CompEnd h₀ L m { s with heap := h, toks := tk } I oI C oC D (LCg.lst ys) S (TakeElt e0 st c k' most)) E' { s with heap := h, toks := tk })
    (fin : ∀ ys ns k' tk' vs' cells' n1 n2, IntsAre ys ns → ns.length = n → (∀ y ∈ ns, 0 ≤ y ∧ y < most) → StOk k' vs' cells' → k' ≤ k + n → Fin ys [e0, (st, listOf #[.int k' tk', .ref c] n1), (c, listOf vs'.toArray n2)]) :
    LCg.CompRest PySem.Challenge.rw_yv0001_01.row.prog w A h₀ L m env elt x scope cl s S P Fin n 0 [] [e0, (st, listOf #[.int k tk0, .ref c] n1), (c, listOf vs.toArray n2)] := by
  have key : ∀ (j i : Nat) (ys : List Value) (ns : List Int) (k' : Int) (tk' : Tok) (vs' : List Value) (cells' : List Int) (n1 n2 : Nat), i + j = n → IntsAre ys ns → ns.length = i → (∀ y ∈ ns, 0 ≤ y ∧ y < most) → StOk k' vs' cells' → k' ≤ k + i →
      LCg.CompRest PySem.Challenge.rw_yv0001_01.row.prog w A h₀ L m env elt x scope cl s S P Fin j i ys [e0, (st, listOf #[.int k' tk', .ref c] n1), (c, listOf vs'.toArray n2)] := by
    intro j
    induction j with
    | zero =>
      intro i ys ns k' tk' vs' cells' n1 n2 hi hy hl hb ok' hk
      have e : i = n := by omega
      subst e
      exact LCg.CompRest.zero (fin ys ns k' tk' vs' cells' n1 n2 hy hl hb ok' hk)
    | succ j ih =>
      intro i ys ns k' tk' vs' cells' n1 n2 hi hy hl hb ok' hk
      refine LCg.CompRest.succ ?_
      intro v I oI C oC D m₂ h tk E' hv hC hx F N off ne
      refine wpAny_mono (turn i k' tk' vs' cells' n1 n2 ys v I oI C oC D m₂ h tk E' (by omega) ok' hk hv hC hx F N off ne) (fun y s₂ hq => ?_) fun _ _ e => e
      obtain ⟨h', tk2, nw, e, F', N', off', hS, r, t, k2, tk2', vs2, cells2, a1, a2, rfl, h0, h1, rfl, ok2, hk2⟩ := hq
      refine ⟨h', tk2, _, e, F', N', off', hS, ?_⟩
      refine ih (i + 1) _ (ns ++ [r]) k2 tk2' vs2 cells2 a1 a2 (by omega) (IntsAre.append hy (.cons r t .nil)) (by simp [hl]) (fun y hy => ?_) ok2 (by omega)
      rcases List.mem_append.mp hy with hy | hy
      · exact hb y hy
      · rw [List.mem_singleton.mp hy]; exact ⟨h0, h1⟩
  exact key n 0 [] [] k tk0 vs cells n1 n2 (by omega) .nil rfl (fun _ h => nomatch h) ok (by omega)

theorem menu4 (i : Nat) : 0 ≤ ([0, 255, 128, 1] : List Int).getD i 0 ∧ ([0, 255, 128, 1] : List Int).getD i 0 < 256 := by
  rcases i with _ | _ | _ | _ | i <;> simp [List.getD]
inductive OctEnd (c : Addr) (st : Addr) (k : Int) (count : Nat) (v : Value) (news' : List (Addr × Obj)) : Prop
  | mk0 (l : Addr) (ns : List Int) (us : List Value) (n : Nat) (k' : Int) (tk' : Tok) (vs' : List Value) (cells' : List Int) (n1 n2 : Nat) (z1 : v = .ref l) (z2 : news' = [(l, listOf us.toArray n), (st, listOf #[.int k' tk', .ref c] n1), (c, listOf vs'.toArray n2)]) (z3 : IntsAre us ns) (z4 : ns.length = count) (z5 : (∀ y ∈ ns, 0 ≤ y ∧ y < 256)) (z6 : StOk k' vs' cells') (z7 : k' ≤ k + count + 2) (z8 : (@Ne Nat l st)) (z9 : (@Ne Nat l c)) : OctEnd c st k count v news'
section
local macro_rules | `(tactic| walk_at "CompEnd") => `(tactic| fail "mine")

theorem oct_spec (w : World) {st c : Addr} {k : Int} {tk0 : Tok} {vs : List Value} {cells : List Int} {n1 n2 : Nat} {count : Nat} {tm : Tok}
    (ok : StOk k vs cells) (hk1 : k < 90000) (hc0 : 0 < count) (hc1 : count ≤ 32) (hne : (@Ne Nat st c)) :
    Spec w (.ref 460) [.ref st, .int count tm] (fun _ => True) [(st, listOf #[.int k tk0, .ref c] n1), (c, listOf vs.toArray n2)] 2 16 (OctEnd c st k count) := by
  with_unfolding_all refine' spec_defC ?ho ?hcd ?hbind ?hkind ?hnd ?c2 ?c3 ?c4 ?_
  (case ho => k_is)
  (case hcd => k_is)
  (case hbind => first | exact bind_plain rfl | exact bind_dflt rfl (by k_is) rfl rfl rfl)
  (case hkind => exact rfl)
  (case hnd => decide +kernel)
  (case c2 => exact rfl)
  (case c3 => exact rfl)
  (case c4 => exact rfl)
  intro p loose mean mg mb dp un gd cn cs ca ccd cl outer base L g L1 h1 s tk cells B F X N Y T hdp hun hyp l1
  (try k_lt l1)
  refine letA ?_
  intro A0
  obtain ⟨oc1, hE, dc1⟩ := CellsAre.one Y
  subst hE
  clear Y
  (try simp only [List.nil_append, List.cons_append] at N)
  (try dsimp only)
  (try k_fold)
  (repeat' (first | (k_unfold; (try dsimp only)) | ((with_reducible show wpAny _ _ (exec _ _) _ _ _); (fail_if_success (fail_if_success k_fold)); refine foldQ ?_; intro q9) | ((with_reducible show wpAny _ _ (eval (Expr.Call _ _ _ _) _) _ _ _); (fail_if_success (fail_if_success k_fold)); refine foldQ ?_; intro q9) | ((with_reducible show wpAny _ _ (eval (Expr.Subscript _ _ _) _) _ _ _); (fail_if_success (fail_if_success k_fold)); refine foldQ ?_; intro q9)  | ((with_reducible show LCg.CompSrc _ _ _ _ _ _ _ _ _ _ _ _ _ _); k_dflt ((refine LCg.CompSrc.range (by rfl) (by k_asm) (by k_asm) (by assumption) (by exact small_one (by omega) (by omega) (by omega) (by omega)) (by exact rangeSize_nat _ _) (by rw [PySem.sizeLine_eq]; omega) ?_); intro g'; refine comp_take 256 (by assumption) (fun i' k' tk' vs' cells' n1' n2' ys' v' I' oI' C' oC' D' m' h' tk2' E' hin' ok' hk' hP' hC' hx' F' N' off' ne' => ?_) ?_); (obtain ⟨tt', rfl⟩ := hP'); (simp only [LCg.Off3, and_true] at off'); (try k_fold)) | (k_here; (with_reducible show wpAny _ _ (call (Value.ref 455) [Value.ref _, Value.int _ _]) _ _ _); k_dflt ( refine' take_use ?k1 ?k2 ?k3 ?k4 ?k5 ?k6 ?k7 ?k8 ?k9 ?k10 ?k11 ?k12 ?k13 ?k14 ?k15 ?k16 ?_; (case k1 | k2 | k3 | k4 | k5 => k_asm); (case k6 => first | exact rfl | assumption); (case k7 | k8 => k_mem); (case k9 => assumption); (case k10 => (intro o1; k_upd)); (case k11 => (intro o1 o2; k_upd)); (case k12 | k13 | k14 => omega); (case k15 => ktr_room); (case k16 => ktr_units); intro x' k' t' tk' vs' cells' n1' n2' h' tks' F' N' hx0' hx1' ok' hk'; (try dsimp only at N'); (try k_fold))) | (k_end; wrow_close) | walk1 | (dsimp only; walk1) | (leave1; walk_say "STEP leave1"; try dsimp only) | fail "no step"))
  · refine Ends.mk2 (by k_asm) (by k_asm) ⟨_, _, _, _, _, _, _, _, _, _, rfl, rfl, by assumption, ?_, ?_, by assumption, by omega, by omega, by omega⟩ (SubL.mem (by k_subL))
    · simp
    · intro y hy
      simp only [List.mem_flatten, List.mem_replicate] at hy
      obtain ⟨l, ⟨_, rfl⟩, hy⟩ := hy
      rw [List.mem_singleton.mp hy]
      exact menu4 _
  · exact ⟨_, _, _, _, _, _, _, _, rfl, by assumption, by assumption, rfl, by assumption, by assumption⟩
  · refine Ends.mk2 (by k_asm) (by k_asm) ⟨_, _, _, _, _, _, _, _, _, _, rfl, rfl, by assumption, by assumption, by assumption, by assumption, by omega, by omega, by omega⟩ (SubL.mem (by k_subL))
end
end
section
def AllNe (d : Addr) : List (Addr × Obj) → Prop
  | [] => True
  | p :: r => (@Ne Nat p.1 d) ∧ AllNe d r
theorem allNe_of {d : Addr} : ∀ {l : List (Addr × Obj)}, (∀ p ∈ l, p.1 ≠ d) → AllNe d l
  | [], _ => trivial
  | p :: _, h => ⟨h p (.head _), allNe_of fun q hq => h q (.tail _ hq)⟩

theorem menu3 {x : Int} (h0 : 0 ≤ x) (h1 : x < 3) : 0 < ([16, 24, 32] : List Int).getD x.toNat 0 ∧ ([16, 24, 32] : List Int).getD x.toNat 0 ≤ 32 ∧ ((([16, 24, 32] : List Int).getD x.toNat 0).toNat = 16 ∨ (([16, 24, 32] : List Int).getD x.toNat 0).toNat = 24 ∨ (([16, 24, 32] : List Int).getD x.toNat 0).toNat = 32) := by
  have : x = 0 ∨ x = 1 ∨ x = 2 := by omega
  rcases this with rfl | rfl | rfl <;> decide
theorem oct_use {w : World} {p : Program} {loose : List Str} {mean : ExcName → Option Value} {mg mb : Str → Option Value} {dp un : Nat} {gd : Option (List Code)} {cn : Str} {cs : Scope} {a : Addr} {ccd : Value} {cl : List (Str × Addr)} {outer : List Env} {A₀ : Around} {base h₀ : Heap} {L : Addr} {m : Str → Option Value} {s : Shared}
    {Q E : Value → Shared → Prop} {all : List (Addr × Obj)} {st c : Addr} {k : Int} {tk0 : Tok} {vs : List Value} {cells : List Int} {n1 n2 : Nat} {count : Int} {tm : Tok} {f1 : Obj → List (Addr × Obj)} {f2 : Obj → Obj → List (Addr × Obj)}
    (B : Below A₀ base outer h₀) (F : Fr h₀ L s.heap m) (X : (mkK.heap_1 w.params).In h₀) (N : News h₀ L s.heap all) (T : Top p loose mean mg mb h₀) (hk : cs.kind = .function)
    (hst : (st, listOf #[.int k tk0, .ref c] n1) ∈ all) (hc : (c, listOf vs.toArray n2) ∈ all) (ok : StOk k vs cells) (U1 : ∀ o, Upd st (listOf #[.int k tk0, .ref c] n1) o all (f1 o)) (U2 : ∀ o o2, Upd c (listOf vs.toArray n2) o2 (f1 o) (f2 o o2))
    (hk1 : k < 90000) (hc0 : 0 < count) (hc1 : count ≤ 32) (hd' : dp + 2 < recursionLimit) (hu : un + 16 < cLine)
    (cont : ∀ l ns us n k' tk' vs' cells' n1 n2 h' tks, Fr h₀ L h' m → News h₀ L h' ((l, listOf us.toArray n) :: f2 (listOf #[.int k' tk', .ref c] n1) (listOf vs'.toArray n2)) → AllNe l all → IntsAre us ns → ns.length = count.toNat → (∀ y ∈ ns, 0 ≤ y ∧ y < 256) → StOk k' vs' cells' → k' ≤ k + count + 2 → Q (.ref l) { s with heap := h', toks := tks }) :
    wpAny (model PySem.Challenge.rw_yv0001_01.row.prog w) (ktrTop dp un gd cn cs L a ccd cl outer) (call (.ref 460) [.ref st, .int count tm]) Q E s := by
  obtain ⟨n, rfl⟩ : ∃ n : Nat, count = n := ⟨count.toNat, by omega⟩
  have hne := ne_of_lists N ok.are hst hc
  refine wpAny_call ?_
  refine oct_spec w (tk0 := tk0) (n1 := n1) (n2 := n2) ok hk1 (by omega) (by omega) hne p loose mean mg mb dp un gd cn cs a ccd cl outer A₀ base h₀ L m s Q E B F X (fun q hq => ?_) T hk hd' hu (fun _ _ => trivial) ?_
  · rcases List.mem_cons.mp hq with rfl | hq
    · exact N _ hst
    · rw [List.mem_singleton.mp hq]; exact N _ hc
  · rintro v news' h' tk' F' N' K' fr ⟨l, ns, us, n', k', tk1, vs', cells', m1, m2, rfl, rfl, h1, h2, h3, ok', h4, d1, d2⟩
    have hf : s.heap.get? l = none := (fr (l, _) List.mem_cons_self).elim (fun h => by
      simp only [List.map_cons, List.map_nil, List.mem_cons, List.not_mem_nil, or_false] at h
      exact (h.elim d1 d2).elim) id
    refine cont l ns us n' k' tk1 vs' cells' m1 m2 h' tk' F' (fun q hq => ?_) (allNe_of (lt_of_fresh N hf)) h1 (by simpa using h2) h3 ok' h4
    rcases List.mem_cons.mp hq with rfl | hq
    · exact N' _ List.mem_cons_self
    · exact upd2_keep N (U1 _) (U2 _ _) K' (fun q hq => N' q (List.mem_cons_of_mem _ hq)) q hq

def KeyEnd (c : Addr) (st : Addr) (k : Int) (v : Value) (news' : List (Addr × Obj)) : Prop :=
  ∃ (l : Addr) (ns : List Int) (us : List Value) (n : Nat) (k' : Int) (tk' : Tok) (vs' : List Value) (cells' : List Int) (n1 n2 : Nat), v = .ref l ∧ news' = [(l, listOf us.toArray n), (st, listOf #[.int k' tk', .ref c] n1), (c, listOf vs'.toArray n2)] ∧
    IntsAre us ns ∧ (ns.length = 16 ∨ ns.length = 24 ∨ ns.length = 32) ∧ (∀ y ∈ ns, 0 ≤ y ∧ y < 256) ∧ StOk k' vs' cells' ∧ k' ≤ k + 40 ∧ (@Ne Nat l st) ∧ (@Ne Nat l c)

theorem key_spec (w : World) {st c : Addr} {k : Int} {tk0 : Tok} {vs : List Value} {cells : List Int} {n1 n2 : Nat}
    (ok : StOk k vs cells) (hk1 : k < 80000) (hne : (@Ne Nat st c)) :
    Spec w (.ref 467) [.ref st] (fun _ => True) [(st, listOf #[.int k tk0, .ref c] n1), (c, listOf vs.toArray n2)] 3 24 (KeyEnd c st k) := by
  with_unfolding_all refine' spec_def ?ho ?hcd ?hbind ?hloc ?c2 ?c3 ?c4 ?c5 ?_
  (case ho => k_is)
  (case hcd => k_is)
  (case hbind => first | exact bind_plain rfl | exact bind_dflt rfl (by k_is) rfl rfl rfl)
  (case hloc => exact locs rfl)
  (case c2 => exact rfl)
  (case c3 => exact rfl)
  (case c4 => exact rfl)
  (case c5 => decide)
  intro p loose mean mg mb dp un gd cn cs ca ccd cl outer base L g L1 h1 s tk B F X N T hdp hun hyp
  refine letA ?_
  intro A0
  (try dsimp only)
  (try k_fold)
  (repeat' (first | (k_unfold; (try dsimp only)) | ((with_reducible show wpAny _ _ (exec _ _) _ _ _); (fail_if_success (fail_if_success k_fold)); refine foldQ ?_; intro q9) | ((with_reducible show wpAny _ _ (eval (Expr.Call _ _ _ _) _) _ _ _); (fail_if_success (fail_if_success k_fold)); refine foldQ ?_; intro q9) | ((with_reducible show wpAny _ _ (eval (Expr.Subscript _ _ _) _) _ _ _); (fail_if_success (fail_if_success k_fold)); refine foldQ ?_; intro q9)  | (k_here; (with_reducible show wpAny _ _ (call (Value.ref 460) [Value.ref _, Value.int _ _]) _ _ _); k_dflt ( refine' oct_use ?k1 ?k2 ?k3 ?k4 ?k5 ?k6 ?k7 ?k8 ?k9 ?k10 ?k11 ?k12 ?k13 ?k14 ?k15 ?k16 ?_; (case k1 | k2 | k3 | k4 | k5 => k_asm); (case k6 => first | exact rfl | assumption); (case k7 | k8 => k_mem); (case k9 => assumption); (case k10 => (intro o1; k_upd)); (case k11 => (intro o1 o2; k_upd)); (case k12 => omega); (case k13 => first | omega | exact (menu3 (by tb_start) (by tb_start)).1); (case k14 => first | omega | exact (menu3 (by tb_start) (by tb_start)).2.1); (case k15 => ktr_room); (case k16 => ktr_units); intro l' ns' us' nn' k' tk' vs' cells' n1' n2' h' tks' F' N' l1 hi' hl' ho' ok' hk'; (have h8 := l1); (simp only [AllNe, and_true] at l1); (try dsimp only at N'); (try k_fold))) | (k_here; (with_reducible show wpAny _ _ (call (Value.ref 455) [Value.ref _, Value.int _ _]) _ _ _); k_dflt ( refine' take_use ?k1 ?k2 ?k3 ?k4 ?k5 ?k6 ?k7 ?k8 ?k9 ?k10 ?k11 ?k12 ?k13 ?k14 ?k15 ?k16 ?_; (case k1 | k2 | k3 | k4 | k5 => k_asm); (case k6 => first | exact rfl | assumption); (case k7 | k8 => k_mem); (case k9 => assumption); (case k10 => (intro o1; k_upd)); (case k11 => (intro o1 o2; k_upd)); (case k12 | k13 | k14 => omega); (case k15 => ktr_room); (case k16 => ktr_units); intro x' k' t' tk' vs' cells' n1' n2' h' tks' F' N' hx0' hx1' ok' hk'; (try dsimp only at N'); (try k_fold))) | (k_end; wrow_close) | walk1 | (dsimp only; walk1) | (leave1; walk_say "STEP leave1"; try dsimp only) | fail "no step"))
  · have hm := menu3 (by assumption) (by assumption)
    refine Ends.mk2 (by k_asm) (by k_asm) ⟨_, _, _, _, _, _, _, _, _, _, rfl, rfl, by assumption, by simp only [*], by assumption, by assumption, by omega, by omega, by omega⟩ (SubL.mem (by k_subL))
end
section
inductive StEnd (v : Value) (news' : List (Addr × Obj)) : Prop
  | mk0 (st c : Addr) (tk' : Tok) (vs' : List Value) (cells' : List Int) (n1 n2 : Nat) (z1 : v = .ref st) (z2 : news' = [(st, listOf #[.int 0 tk', .ref c] n1), (c, listOf vs'.toArray n2)]) (z3 : StOk 0 vs' cells') : StEnd v news'
theorem state_spec (w : World) {scr : Addr} {us : List Value} {ns : List Int} (hi : IntsAre us ns) (hl : ns.length ≤ 63) :
    Spec w (.ref 448) [.ref scr] (fun g => g.IsList scr us.toArray) [] 1 8 StEnd := by
  with_unfolding_all refine' spec_def ?ho ?hcd ?hbind ?hloc ?c2 ?c3 ?c4 ?c5 ?_
  (case ho => k_is)
  (case hcd => k_is)
  (case hbind => first | exact bind_plain rfl | exact bind_dflt rfl (by k_is) rfl rfl rfl)
  (case hloc => exact locs rfl)
  (case c2 => exact rfl)
  (case c3 => exact rfl)
  (case c4 => exact rfl)
  (case c5 => decide)
  intro p loose mean mg mb dp un gd cn cs ca ccd cl outer base L g L1 h1 s tk B F X N T hdp hun hyp
  refine letA ?_
  intro A0
  (try dsimp only)
  (try k_fold)
  (repeat' (first | (k_unfold; (try dsimp only)) | ((with_reducible show wpAny _ _ (exec _ _) _ _ _); (fail_if_success (fail_if_success k_fold)); refine foldQ ?_; intro q9) | ((with_reducible show wpAny _ _ (eval (Expr.Call _ _ _ _) _) _ _ _); (fail_if_success (fail_if_success k_fold)); refine foldQ ?_; intro q9) | ((with_reducible show wpAny _ _ (eval (Expr.Subscript _ _ _) _) _ _ _); (fail_if_success (fail_if_success k_fold)); refine foldQ ?_; intro q9)  | (k_end; wrow_close) | walk1 | (dsimp only; walk1) | (leave1; walk_say "STEP leave1"; try dsimp only) | fail "no step"))
  all_goals (k_unmd; k_unfold; (try dsimp only))
  · refine Ends.mk2 (by k_asm) (by k_asm) ⟨_, _, _, _, [0], _, _, rfl, rfl, ⟨.cons _ _ .nil, by simp, by simp, by simp, by omega⟩⟩ (SubL.mem (by k_subL))
  · rename_i hI8 hL8 _ _ hz _ _ _ _ _ _ _
    refine Ends.mk2 (by k_asm) (by k_asm) ⟨_, _, _, _, _, _, _, rfl, rfl, ⟨by assumption, ?_, ?_, ?_, by omega⟩⟩ (SubL.mem (by k_subL))
    · intro x hx
      obtain ⟨y, _, rfl⟩ := List.mem_map.mp hx
      split <;> omega
    · omega
    · simp only [List.length_map, List.length_take]; omega
end
section
inductive AddEnd (l1 l2 : Addr) (o1 o2 : Obj) (ns1 ns2 : List Int) (v : Value) (news' : List (Addr × Obj)) : Prop
  | mk0 (l : Addr) (us : List Value) (n : Nat) (z1 : v = .ref l) (z2 : news' = [(l, listOf us.toArray n), (l1, o1), (l2, o2)]) (z3 : IntsAre us (List.zipWith Builtin.bitXor ns1 ns2)) (z4 : (@Ne Nat l l1)) (z5 : (@Ne Nat l l2)) : AddEnd l1 l2 o1 o2 ns1 ns2 v news'
theorem zip_range (f : Int → Int → Int) : ∀ {a b : List Int}, a.length = b.length → (List.range b.length).map (fun i => f (a.getD i 0) (b.getD i 0)) = List.zipWith f a b
  | [], [], _ => rfl
  | x :: a, y :: b, h => by
    rw [List.length_cons, List.range_succ_eq_map, List.map_cons, List.map_map, List.zipWith_cons_cons]
    exact congrArg (List.cons _) (zip_range f (by simpa using h))
theorem added_spec (w : World) {l1 l2 : Addr} {us1 us2 : List Value} {ns1 ns2 : List Int} {n1 n2 : Nat} (h1 : IntsAre us1 ns1) (h2 : IntsAre us2 ns2) (hl : ns1.length = ns2.length) (hl2 : ns2.length ≤ 80) :
    Spec w (.ref 472) [.ref l1, .ref l2] (fun _ => True) [(l1, listOf us1.toArray n1), (l2, listOf us2.toArray n2)] 1 8 (AddEnd l1 l2 (listOf us1.toArray n1) (listOf us2.toArray n2) ns1 ns2) := by
  with_unfolding_all refine' spec_defC ?ho ?hcd ?hbind ?hkind ?hnd ?c2 ?c3 ?c4 ?_
  (case ho => k_is)
  (case hcd => k_is)
  (case hbind => first | exact bind_plain rfl | exact bind_dflt rfl (by k_is) rfl rfl rfl)
  (case hkind => exact rfl)
  (case hnd => decide +kernel)
  (case c2 => exact rfl)
  (case c3 => exact rfl)
  (case c4 => exact rfl)
  intro p loose mean mg mb dp un gd cn cs ca ccd cl outer base L g L1 h1 s tk cells B F X N Y T hdp hun hyp l1
  (try k_lt l1)
  refine letA ?_
  intro A0
  obtain ⟨oc1, oc2, hE, dc1, dc2⟩ := CellsAre.two Y
  subst hE
  clear Y
  (try simp only [List.nil_append, List.cons_append] at N)
  (try dsimp only)
  (try k_fold)
  (repeat' (first | (k_unfold; (try dsimp only)) | ((with_reducible show wpAny _ _ (exec _ _) _ _ _); (fail_if_success (fail_if_success k_fold)); refine foldQ ?_; intro q9) | ((with_reducible show wpAny _ _ (eval (Expr.Call _ _ _ _) _) _ _ _); (fail_if_success (fail_if_success k_fold)); refine foldQ ?_; intro q9) | ((with_reducible show wpAny _ _ (eval (Expr.Subscript _ _ _) _) _ _ _); (fail_if_success (fail_if_success k_fold)); refine foldQ ?_; intro q9)  | (k_here; (with_reducible show LCg.CompSrc _ _ _ _ _ _ _ _ _ _ _ _ _ _); (refine Hold.mk ?_)) | (k_end; wrow_close) | walk1 | (dsimp only; walk1) | (leave1; walk_say "STEP leave1"; try dsimp only) | fail "no step"))
  unfold Hold
  have hz := h2.length
  refine LCg.CompSrc.range (n := ns2.length) rfl (by k_asm) (by k_asm) (by assumption) (small_one (by omega) (by omega) (by omega) (by omega))
    ((rangeSize_nat _ _).trans (by omega)) (by rw [PySem.sizeLine_eq]; omega)
    (fun g2 => comp_map (fun i => Builtin.bitXor (ns1.getD i 0) (ns2.getD i 0)) (fun i' ys' v' I' oI' C' oC' D' m' h' tk2 E' hi' hP hC' hx' F' N' off' ne' => ?_) fun ys hys => ?_)
  · obtain ⟨t', rfl⟩ := hP
    have b0 : (0 : Int) ≤ 0 + (i' : Int) := by omega
    have b1 : 0 + (i' : Int) < (ns1.length : Int) := by omega
    have b2 : 0 + (i' : Int) < (ns2.length : Int) := by omega
    have b3 : 0 + (i' : Int) < 2 ^ 63 := by omega
    simp only [LCg.Off3, and_true] at off'
    k_unmd
    k_fold
    (repeat' (first | (k_unfold; (try dsimp only)) | ((with_reducible show wpAny _ _ (exec _ _) _ _ _); (fail_if_success (fail_if_success k_fold)); refine foldQ ?_; intro q9) | ((with_reducible show wpAny _ _ (eval (Expr.Call _ _ _ _) _) _ _ _); (fail_if_success (fail_if_success k_fold)); refine foldQ ?_; intro q9) | ((with_reducible show wpAny _ _ (eval (Expr.Subscript _ _ _) _) _ _ _); (fail_if_success (fail_if_success k_fold)); refine foldQ ?_; intro q9)  | (k_here; (with_reducible show wpAny _ _ (subscriptTail _ _ (Value.ref _) (Value.int _ _)) _ _ _); k_dflt (refine item_led (by k_asm) (by k_mem) (by tb_start) (by tb_start) (by tb_start) (by tb_start) (fun t' => ?_)); (try k_fold)) | (k_end; wrow_close) | walk1 | (dsimp only; walk1) | (leave1; walk_say "STEP leave1"; try dsimp only) | fail "no step"))
    exact kcf_el (by simp) rfl rfl
  · (repeat' (first | (k_unfold; (try dsimp only)) | ((with_reducible show wpAny _ _ (exec _ _) _ _ _); (fail_if_success (fail_if_success k_fold)); refine foldQ ?_; intro q9) | ((with_reducible show wpAny _ _ (eval (Expr.Call _ _ _ _) _) _ _ _); (fail_if_success (fail_if_success k_fold)); refine foldQ ?_; intro q9) | ((with_reducible show wpAny _ _ (eval (Expr.Subscript _ _ _) _) _ _ _); (fail_if_success (fail_if_success k_fold)); refine foldQ ?_; intro q9)  | (k_end; wrow_close) | walk1 | (dsimp only; walk1) | (leave1; walk_say "STEP leave1"; try dsimp only) | fail "no step"))
    refine Ends.mk2 (by k_asm) (by k_asm) ⟨_, _, _, rfl, rfl, ?_, by omega, by omega⟩ (SubL.mem (by k_subL))
    rw [← zip_range Builtin.bitXor hl]
    exact hys
end
section
theorem bb_special {b : Array UInt8} {t : Tok} : specialOf (.bytes b t) "__bytes__" = pure (some (.builtin "bytes.__bytes__")) :=
  KBy.special_eq (by rw [typeLookup_type, builtinLookup_eq_fast]; kernel_rfl)
theorem bi_special {n : Int} {t : Tok} : specialOf (.int n t) "__bytes__" = pure none := by
  have e : specialOf (.int n t) "__bytes__" = typeLookup (.type "int") "__bytes__" := rfl
  rw [e, typeLookup_type, builtinLookup_eq_fast]; kernel_rfl
theorem bi_index {n : Int} {t : Tok} : specialOf (.int n t) "__index__" = pure (some (.builtin "int.__index__")) := by
  have e : specialOf (.int n t) "__index__" = typeLookup (.type "int") "__index__" := rfl
  rw [e, typeLookup_type, builtinLookup_eq_fast]; kernel_rfl

section
variable {prog : Program} {w : World} {A : Around} {E : Value → Shared → Prop} {s : Shared} {h₀ : Heap} {L : Addr} {m : Str → Option Value} {news : List (Addr × Obj)}
theorem new_bytes_bytes {b : Array UInt8} {t : Tok} {Q : Value → Shared → Prop} (hQ : Q (.bytes b t) s) :
    codeAny (model prog w) A (.call (.builtin "bytes.__new__") ⟨[.type "bytes", .bytes b t], []⟩) (wants Q E) s := by
  refine codeAny_of_tree ?_
  show wpAny _ A.in1 (do checkBuiltinCall "bytes.__new__" ⟨[.type "bytes", .bytes b t], []⟩; again (.builtin "bytes.__new__" ⟨[.type "bytes", .bytes b t], []⟩)) _ _ s
  refine wpAny_bind (wpAny_of_eq (F.bm_newCall _) (wpAny_pure ⟨plainId_quiet F.bm_plain _, codeAny_builtin F.bm_entry ?_⟩))
  rw [Around.under_plainId F.bm_plain _]
  unfold Builtin.«bytes.__new__»
  refine wpAny_bind (wpAny_of_eq (a := true) rfl ?_)
  refine bm_if_false rfl ?_
  refine wpAny_bind (wpAny_of_eq F.bm_sub ?_)
  refine bm_if_false rfl ?_
  refine wpAny_bind (wpAny_of_eq (F.bm_bind _) ?_)
  refine wpAny_bind (wpAny_of_eq (a := ()) rfl ?_)
  refine wpAny_bind (wpAny_of_eq (a := ()) rfl ?_)
  refine bm_if_false rfl ?_
  refine wpAny_bind (wpAny_of_eq bb_special ?_)
  split
  · refine wpAny_bind (wpAny_rule ?_)
    refine wpAny_bind (wpAny_of_eq (a := .type "bytes") rfl ?_)
    refine bm_if_true rfl ?_
    with_unfolding_all exact wpAny_pure hQ
  · rename_i hne heq
    cases heq
    exact absurd rfl hne
  · rename_i h; cases h

theorem call_bytes_bytes {b : Array UInt8} {t : Tok} {Q : Value → Shared → Prop} (hQ : Q (.bytes b t) s) : wpAny (model prog w) A (call (.type "bytes") [.bytes b t]) Q E s := by
  refine callType_codes (Q₁ := fun obj s₁ => s₁.TypeIs obj "bytes" ∧ Q obj s₁) F.bm_called (F.bm_typeCall _) F.entry_object_init
    (new_bytes_bytes ⟨PySem.W.typeIs_bytes _ _ _, hQ⟩) fun obj s₁ h₁ => ?_
  exact ⟨h₁.1, F.args_object_init_2 obj _, object_init_meets F.bm_called.init.lookup F.bm_called.made (by decide) prog w A.in1 _ s₁ ⟨h₁.1, rfl, h₁.2⟩⟩

theorem new_bytes_count {n : Nat} {t : Tok} {Q : Value → Shared → Prop} (hz : n ≤ sizeLine) (hQ : ∀ t' k, Q (.bytes (Array.replicate n 0) t') { s with toks := k }) :
    codeAny (model prog w) A (.call (.builtin "bytes.__new__") ⟨[.type "bytes", .int n t], []⟩) (wants Q E) s := by
  have h1 := bi_special (n := n) (t := t)
  have h2 := bi_index (n := n) (t := t)
  have h3 : asStr? (.int n t) = pure none := rfl
  have h4 : asIndex (.int n t) = pure (n : Int) := rfl
  generalize Value.int n t = x at *
  refine codeAny_of_tree ?_
  show wpAny _ A.in1 (do checkBuiltinCall "bytes.__new__" ⟨[.type "bytes", x], []⟩; again (.builtin "bytes.__new__" ⟨[.type "bytes", x], []⟩)) _ _ s
  refine wpAny_bind (wpAny_of_eq (F.bm_newCall _) (wpAny_pure ⟨plainId_quiet F.bm_plain _, codeAny_builtin F.bm_entry ?_⟩))
  rw [Around.under_plainId F.bm_plain _]
  unfold Builtin.«bytes.__new__»
  refine wpAny_bind (wpAny_of_eq (a := true) rfl ?_)
  refine bm_if_false rfl ?_
  refine wpAny_bind (wpAny_of_eq F.bm_sub ?_)
  refine bm_if_false rfl ?_
  refine wpAny_bind (wpAny_of_eq (F.bm_bind _) ?_)
  refine wpAny_bind (wpAny_of_eq (a := ()) rfl ?_)
  refine wpAny_bind (wpAny_of_eq (a := ()) rfl ?_)
  refine bm_if_false rfl ?_
  refine wpAny_bind (wpAny_of_eq h1 ?_)
  dsimp only
  refine wpAny_bind (wpAny_bind (wpAny_of_eq h3 (wpAny_pure ?_)))
  refine bm_if_false rfl ?_
  refine wpAny_bind (wpAny_of_eq h2 ?_)
  refine bm_if_false rfl ?_
  rw [PySem.sizeLine_eq] at hz
  refine wpAny_bind (wpAny_attempt (wpAny_of_eq h4 ?_))
  dsimp only
  refine bm_if_false ?_ ?_
  · simp only [Builtin.Bytes.fitsIndex, Bool.not_eq_false', Bool.and_eq_true, decide_eq_true_eq]; omega
  rw [if_neg (by omega), if_neg (by omega)]
  refine bm_if_false (KBy.tooLong_not (by omega)) ?_
  refine wpAny_bind (wpAny_rule ?_)
  refine wpAny_bind (wpAny_mkBytes ?_ (by rw [PySem.sizeLine_eq]; simpa using hz))
  rw [Int.toNat_natCast]
  with_unfolding_all exact wpAny_pure (hQ _ _)

theorem call_bytes_count {n : Nat} {t : Tok} {Q : Value → Shared → Prop} (hz : n ≤ sizeLine) (hQ : ∀ t' k, Q (.bytes (Array.replicate n 0) t') { s with toks := k }) : wpAny (model prog w) A (call (.type "bytes") [.int n t]) Q E s := by
  refine callType_codes (Q₁ := fun obj s₁ => s₁.TypeIs obj "bytes" ∧ Q obj s₁) F.bm_called (F.bm_typeCall _) F.entry_object_init
    (new_bytes_count hz fun _ _ => ⟨PySem.W.typeIs_bytes _ _ _, hQ _ _⟩) fun obj s₁ h₁ => ?_
  exact ⟨h₁.1, F.args_object_init_2 obj _, object_init_meets F.bm_called.init.lookup F.bm_called.made (by decide) prog w A.in1 _ s₁ ⟨h₁.1, rfl, h₁.2⟩⟩
theorem zeros_ints (n : Nat) : KBw.bInts (Array.replicate n 0) = List.replicate n 0 := by
  unfold KBw.bInts; rw [Array.toList_replicate, List.map_replicate]; rfl
theorem call_bytes_zeros {k : Int} {n : Nat} (hk : k = n) {t : Tok} {Q : Value → Shared → Prop} (hz : n ≤ 16777216) (hQ : ∀ b t' k, KBw.bInts b = List.replicate n 0 → Q (.bytes b t') { s with toks := k }) : wpAny (model prog w) A (call (.type "bytes") [.int k t]) Q E s := by
  subst hk
  exact call_bytes_count (by rw [PySem.sizeLine_eq]; exact hz) fun t' k => hQ _ t' k (zeros_ints n)

theorem byteArr_ints {ns : List Int} (h : ∀ y ∈ ns, 0 ≤ y ∧ y < 256) : KBw.bInts (byteArr ns) = ns := by
  show (ns.map fun n => n.toNat.toUInt8).map (fun c => (c.toNat : Int)) = ns
  rw [List.map_map]
  conv => rhs; rw [← List.map_id ns]
  exact List.map_congr_left fun x hx => byte_back (h x hx).1 (h x hx).2
/-- bytes(list) -/
theorem call_bytes_list {l : Addr} {us : List Value} {ns : List Int} {n : Nat} {Q : Value → Shared → Prop} (F : Fr h₀ L s.heap m) (N : News h₀ L s.heap news) (hm : (l, listOf us.toArray n) ∈ news) (hi : IntsAre us ns) (hr : ∀ y ∈ ns, 0 ≤ y ∧ y < 256) (hz : ns.length ≤ 200) (hh : A.handled = none)
    (hQ : ∀ b t' h' k, Fr h₀ L h' m → News h₀ L h' news → KBw.bInts b = ns → Q (.bytes b t') { s with heap := h', toks := k }) : wpAny (model prog w) A (call (.type "bytes") [.ref l]) Q E s :=
  call_bytes_ints ⟨_, (N _ hm).1, rfl, _, rfl⟩ hi hr (by rw [PySem.sizeLine_eq, hi.length]; omega) hh fun h' t k hk => hQ _ t h' k (F.keeps hk) (N.grown hk) (byteArr_ints hr)
theorem add_bytesK {b c : Array UInt8} {t u : Tok} {ks ns : List Int} {Q : Value → Shared → Prop} (hb : KBw.bInts b = ks) (hc : KBw.bInts c = ns) (hz : ks.length + ns.length ≤ 16777216)
    (hQ : ∀ d t' k, KBw.bInts d = ks ++ ns → Q (.bytes d t') { s with toks := k }) : wpAny (model prog w) A (binaryOp .Add (.bytes b t) (.bytes c u)) Q E s := by
  refine KBy.add_bytes (by rw [← KBw.ints_length b, ← KBw.ints_length c, hb, hc]; exact hz) fun t' k => hQ _ t' k ?_
  rw [← hb, ← hc]; simp [KBw.bInts]
theorem item_bytesK {b : Array UInt8} {t ui : Tok} {ks : List Int} {i : Int} {value slice : Expr} {Q : Value → Shared → Prop} (hb : KBw.bInts b = ks) (h0 : 0 ≤ i) (h1 : i < (ks.length : Int)) (hz : ks.length ≤ 16777216)
    (hQ : ∀ t' k, Q (.int (ks.getD i.toNat 0) t') { s with toks := k })
    (hs : subscripted slice false (.bytes b t) (.int i ui) = operate [.bytes b t, .int i ui] (getItem (.bytes b t) (.int i ui)) := by with_unfolding_all rfl)
    (ht : ∀ r, letTemporaryGo value (.bytes b t) r = pure () := by intro _; with_unfolding_all rfl) :
    wpAny (model prog w) A (subscriptTail value slice (.bytes b t) (.int i ui)) Q E s := by
  have hl := KBw.ints_length b
  rw [hb] at hl
  have e : b = b.toList.toArray := by simp
  have hlen : b.toList.length = ks.length := by simp [hl]
  have key := @KBy.item_N prog w A E s value slice t Q b.toList i ui (by omega) h0 (by omega)
  rw [← e] at key
  refine key ?_ hs ht
  have q : ((b.toList.getD i.toNat 0).toNat : Int) = ks.getD i.toNat 0 := by
    rw [← hb]
    simp only [KBw.bInts, List.getD_eq_getElem?_getD, List.getElem?_map]
    cases b.toList[i.toNat]? <;> rfl
  rw [q]
  exact hQ _ _
theorem bytes_eq {b c : Array UInt8} (h : KBw.bInts b = KBw.bInts c) : b = c := by
  unfold KBw.bInts at h
  have inj : ∀ (x y : List UInt8), x.map (fun c => (c.toNat : Int)) = y.map (fun c => (c.toNat : Int)) → x = y := by
    intro x
    induction x with
    | nil => intro y h; cases y with
      | nil => rfl
      | cons _ _ => cases h
    | cons a x ih => intro y h; cases y with
      | nil => cases h
      | cons b y =>
        simp only [List.map_cons, List.cons.injEq] at h
        have e : a = b := UInt8.toNat_inj.mp (by omega)
        rw [ih y h.2, e]
  exact Array.toList_inj.mp (inj _ _ h)
def LenIs (ks : List Int) (z : Int) : Prop := (ks.length : Int) = z ∧ ks.length ≤ 100000
theorem len_bytesN {b : Array UInt8} {t : Tok} {ks : List Int} {z : Int} {Q : Value → Shared → Prop} (hb : KBw.bInts b = ks) (hl : LenIs ks z) (h : ∀ t' k, Q (.int z t') { s with toks := k }) : wpAny (model prog w) A (call (.builtin "len") [.bytes b t]) Q E s :=
  KBw.len_K hb (by have := hl.2; omega) (by rw [hl.1]; exact h _ _)
theorem len_listN {l : Addr} {us : List Value} {n : Nat} {ks : List Int} {z : Int} {Q : Value → Shared → Prop} (N : News h₀ L s.heap news) (hm : (l, listOf us.toArray n) ∈ news) (hi : IntsAre us ks) (hl : LenIs ks z) (h : ∀ t' k, Q (.int z t') { s with toks := k }) : wpAny (model prog w) A (call (.builtin "len") [.ref l]) Q E s := by
  have e : us.toArray.size = ks.length := by rw [List.size_toArray, hi.length]
  have hz := hl.2
  exact len_list ⟨_, (N _ hm).1, rfl, _, rfl⟩ (by rw [e]; omega) (by rw [e, hl.1]; exact h _ _)
end
end
section
def IsB (ks : List Int) (v : Value) : Prop := ∃ b t, v = .bytes b t ∧ KBw.bInts b = ks
def word (k0 k1 k2 k3 : Int) : Int := Builtin.bitOr (Builtin.bitOr (Builtin.bitOr (k0 * 2 ^ 24) (k1 * 2 ^ 16)) (k2 * 2 ^ 8)) k3
def OctOk (k : Int) : Prop := 0 ≤ k ∧ k < 256
section
variable {w : World} {A : Around} {E : Value → Shared → Prop} {s : Shared}
theorem shl_oct {k : Int} {t u : Tok} {n : Int} {Q : Value → Shared → Prop} (h : OctOk k) (hn : 0 ≤ n) (hn2 : n ≤ 1000000) (hQ : ∀ t' k', Q (.int (k * 2 ^ n.toNat) t') { s with toks := k' }) : wpAny (model PySem.Challenge.rw_yv0001_01.row.prog w) A (binaryOp .LShift (.int k t) (.int n u)) Q E s :=
  lshift_int_small hn hn2 (by have := h.1; have := h.2; omega) (hQ _ _)
end
theorem str2b_spec (w : World) {b : Array UInt8} {t : Tok} :
    Spec w (.ref 33) [.bytes b t] (fun _ => True) [] 1 8 (fun v nw => nw = [] ∧ v = .bytes b t) := by
  with_unfolding_all refine' spec_def ?ho ?hcd ?hbind ?hloc ?c2 ?c3 ?c4 ?c5 ?_
  (case ho => k_is)
  (case hcd => k_is)
  (case hbind => first | exact bind_plain rfl | exact bind_dflt rfl (by k_is) rfl rfl rfl)
  (case hloc => exact locs rfl)
  (case c2 => exact rfl)
  (case c3 => exact rfl)
  (case c4 => exact rfl)
  (case c5 => decide)
  intro p loose mean mg mb dp un gd cn cs ca ccd cl outer base L g L1 h1 s tk B F X N T hdp hun hyp
  refine letA ?_
  intro A0
  (try dsimp only)
  (try k_fold)
  (repeat' (first | (k_unfold; (try dsimp only)) | ((with_reducible show wpAny _ _ (exec _ _) _ _ _); (fail_if_success (fail_if_success k_fold)); refine foldQ ?_; intro q9) | ((with_reducible show wpAny _ _ (eval (Expr.Call _ _ _ _) _) _ _ _); (fail_if_success (fail_if_success k_fold)); refine foldQ ?_; intro q9) | ((with_reducible show wpAny _ _ (eval (Expr.Subscript _ _ _) _) _ _ _); (fail_if_success (fail_if_success k_fold)); refine foldQ ?_; intro q9)  | (k_end; wrow_close) | walk1 | (dsimp only; walk1) | (leave1; walk_say "STEP leave1"; try dsimp only) | fail "no step"))
  exact Ends.mk2 (by k_asm) (by k_asm) ⟨rfl, rfl⟩ (fun _ h => nomatch h)
theorem b2str_spec (w : World) {l : Addr} {us : List Value} {n : Nat} {ns : List Int} (hi : IntsAre us ns) (ho : ∀ y ∈ ns, 0 ≤ y ∧ y < 256) (hl : ns.length ≤ 200) :
    Spec w (.ref 40) [.ref l] (fun _ => True) [(l, listOf us.toArray n)] 1 8 (fun v nw => nw = [(l, listOf us.toArray n)] ∧ IsB ns v) := by
  with_unfolding_all refine' spec_def ?ho ?hcd ?hbind ?hloc ?c2 ?c3 ?c4 ?c5 ?_
  (case ho => k_is)
  (case hcd => k_is)
  (case hbind => first | exact bind_plain rfl | exact bind_dflt rfl (by k_is) rfl rfl rfl)
  (case hloc => exact locs rfl)
  (case c2 => exact rfl)
  (case c3 => exact rfl)
  (case c4 => exact rfl)
  (case c5 => decide)
  intro p loose mean mg mb dp un gd cn cs ca ccd cl outer base L g L1 h1 s tk B F X N T hdp hun hyp
  refine letA ?_
  intro A0
  (try dsimp only)
  (try k_fold)
  (repeat' (first | (k_unfold; (try dsimp only)) | ((with_reducible show wpAny _ _ (exec _ _) _ _ _); (fail_if_success (fail_if_success k_fold)); refine foldQ ?_; intro q9) | ((with_reducible show wpAny _ _ (eval (Expr.Call _ _ _ _) _) _ _ _); (fail_if_success (fail_if_success k_fold)); refine foldQ ?_; intro q9) | ((with_reducible show wpAny _ _ (eval (Expr.Subscript _ _ _) _) _ _ _); (fail_if_success (fail_if_success k_fold)); refine foldQ ?_; intro q9)  | (k_here; (with_reducible show wpAny _ _ (call (Value.type _) [Value.ref _]) _ _ _); k_dflt (refine call_bytes_list (by k_asm) (by k_asm) (by k_mem) (by tb_start) (by tb_start) (by tb_start) (by rfl) (fun b' t' h' k' F' N' hb' => ?_)); (try k_fold)) | (k_end; wrow_close) | walk1 | (dsimp only; walk1) | (leave1; walk_say "STEP leave1"; try dsimp only) | fail "no step"))
  all_goals ((try k_unmd); (try k_unfold); (try dsimp only))
  exact Ends.mk2 (by k_asm) (by k_asm) ⟨rfl, _, _, rfl, by assumption⟩ (fun _ h => h)
theorem concatL_spec (w : World) {l : Addr} {us : List Value} {n : Nat} {ns ks : List Int} {b : Array UInt8} {t : Tok} (hb : KBw.bInts b = ks) (hi : IntsAre us ns) (ho : ∀ y ∈ ns, 0 ≤ y ∧ y < 256) (hl : ns.length ≤ 200) (hk : ks.length ≤ 200) :
    Spec w (.ref 47) [.bytes b t, .ref l] (fun _ => True) [(l, listOf us.toArray n)] 1 8 (fun v nw => nw = [(l, listOf us.toArray n)] ∧ IsB (ks ++ ns) v) := by
  have hz : ks.length + ns.length ≤ 16777216 := by omega
  with_unfolding_all refine' spec_def ?ho ?hcd ?hbind ?hloc ?c2 ?c3 ?c4 ?c5 ?_
  (case ho => k_is)
  (case hcd => k_is)
  (case hbind => first | exact bind_plain rfl | exact bind_dflt rfl (by k_is) rfl rfl rfl)
  (case hloc => exact locs rfl)
  (case c2 => exact rfl)
  (case c3 => exact rfl)
  (case c4 => exact rfl)
  (case c5 => decide)
  intro p loose mean mg mb dp un gd cn cs ca ccd cl outer base L g L1 h1 s tk B F X N T hdp hun hyp
  refine letA ?_
  intro A0
  (try dsimp only)
  (try k_fold)
  (repeat' (first | (k_unfold; (try dsimp only)) | ((with_reducible show wpAny _ _ (exec _ _) _ _ _); (fail_if_success (fail_if_success k_fold)); refine foldQ ?_; intro q9) | ((with_reducible show wpAny _ _ (eval (Expr.Call _ _ _ _) _) _ _ _); (fail_if_success (fail_if_success k_fold)); refine foldQ ?_; intro q9) | ((with_reducible show wpAny _ _ (eval (Expr.Subscript _ _ _) _) _ _ _); (fail_if_success (fail_if_success k_fold)); refine foldQ ?_; intro q9)  | (k_here; (with_reducible show wpAny _ _ (binaryOp Operator.Add (Value.bytes _ _) (Value.bytes _ _)) _ _ _); k_dflt (refine add_bytesK (by tb_start) (by tb_start) (by first | tb_start | omega) (fun b' t' k' hb' => ?_)); (try k_fold)) | (k_here; (with_reducible show wpAny _ _ (call (Value.type _) [Value.ref _]) _ _ _); k_dflt (refine call_bytes_list (by k_asm) (by k_asm) (by k_mem) (by tb_start) (by tb_start) (by tb_start) (by rfl) (fun b' t' h' k' F' N' hb' => ?_)); (try k_fold)) | (k_end; wrow_close) | walk1 | (dsimp only; walk1) | (leave1; walk_say "STEP leave1"; try dsimp only) | fail "no step"))
  exact Ends.mk2 (by k_asm) (by k_asm) ⟨rfl, _, _, rfl, by assumption⟩ (fun _ h => h)
theorem concatB_spec (w : World) {ns ks : List Int} {b c : Array UInt8} {t u : Tok} (hb : KBw.bInts b = ks) (hc : KBw.bInts c = ns) (hl : ns.length ≤ 200) (hk : ks.length ≤ 200) :
    Spec w (.ref 47) [.bytes b t, .bytes c u] (fun _ => True) [] 1 8 (fun v nw => nw = [] ∧ IsB (ks ++ ns) v) := by
  have hz : ks.length + ns.length ≤ 16777216 := by omega
  with_unfolding_all refine' spec_def ?ho ?hcd ?hbind ?hloc ?c2 ?c3 ?c4 ?c5 ?_
  (case ho => k_is)
  (case hcd => k_is)
  (case hbind => first | exact bind_plain rfl | exact bind_dflt rfl (by k_is) rfl rfl rfl)
  (case hloc => exact locs rfl)
  (case c2 => exact rfl)
  (case c3 => exact rfl)
  (case c4 => exact rfl)
  (case c5 => decide)
  intro p loose mean mg mb dp un gd cn cs ca ccd cl outer base L g L1 h1 s tk B F X N T hdp hun hyp
  refine letA ?_
  intro A0
  (try dsimp only)
  (try k_fold)
  (repeat' (first | (k_unfold; (try dsimp only)) | ((with_reducible show wpAny _ _ (exec _ _) _ _ _); (fail_if_success (fail_if_success k_fold)); refine foldQ ?_; intro q9) | ((with_reducible show wpAny _ _ (eval (Expr.Call _ _ _ _) _) _ _ _); (fail_if_success (fail_if_success k_fold)); refine foldQ ?_; intro q9) | ((with_reducible show wpAny _ _ (eval (Expr.Subscript _ _ _) _) _ _ _); (fail_if_success (fail_if_success k_fold)); refine foldQ ?_; intro q9)  | (k_here; (with_reducible show wpAny _ _ (binaryOp Operator.Add (Value.bytes _ _) (Value.bytes _ _)) _ _ _); k_dflt (refine add_bytesK (by tb_start) (by tb_start) (by first | tb_start | omega) (fun b' t' k' hb' => ?_)); (try k_fold)) | (k_here; (with_reducible show wpAny _ _ (call (Value.type _) [Value.bytes _ _]) _ _ _); refine call_bytes_bytes ?_; (try k_fold)) | (k_end; wrow_close) | walk1 | (dsimp only; walk1) | (leave1; walk_say "STEP leave1"; try dsimp only) | fail "no step"))
  exact Ends.mk2 (by k_asm) (by k_asm) ⟨rfl, _, _, rfl, by assumption⟩ (fun _ h => nomatch h)
end
section
/-- a table of the class AES, as the top left it -/
noncomputable def tabV (P : Params) (a : Addr) : List Value := match (mkK.heap_1 P).lookup a with
  | some ⟨_, _, .seq xs _, _⟩ => xs.toList
  | _ => []
noncomputable def tab (P : Params) (a : Addr) (i : Nat) : Int := match (tabV P a)[i]? with
  | some (.int v _) => v
  | _ => 0
def isI : Value → Bool
  | .int _ _ => true
  | _ => false
structure TabOk (P : Params) (a : Addr) (len : Nat) : Prop where
  at_ : ∃ n, (mkK.heap_1 P).lookup a = some ⟨.type "list", none, .seq (tabV P a).toArray n, #[]⟩
  ints_ : (tabV P a).all isI = true
  len_ : (tabV P a).length = len
theorem tab59 (P : Params) : TabOk P 59 256 := ⟨⟨_, rfl⟩, rfl, rfl⟩
theorem tab56 (P : Params) : TabOk P 56 30 := ⟨⟨_, rfl⟩, rfl, rfl⟩
theorem tab65 (P : Params) : TabOk P 65 256 := ⟨⟨_, rfl⟩, rfl, rfl⟩
theorem tab68 (P : Params) : TabOk P 68 256 := ⟨⟨_, rfl⟩, rfl, rfl⟩
theorem tab71 (P : Params) : TabOk P 71 256 := ⟨⟨_, rfl⟩, rfl, rfl⟩
theorem tab74 (P : Params) : TabOk P 74 256 := ⟨⟨_, rfl⟩, rfl, rfl⟩
theorem tab89 (P : Params) : TabOk P 89 256 := ⟨⟨_, rfl⟩, rfl, rfl⟩
theorem tab92 (P : Params) : TabOk P 92 256 := ⟨⟨_, rfl⟩, rfl, rfl⟩
theorem tab95 (P : Params) : TabOk P 95 256 := ⟨⟨_, rfl⟩, rfl, rfl⟩
theorem tab98 (P : Params) : TabOk P 98 256 := ⟨⟨_, rfl⟩, rfl, rfl⟩
theorem tab_get {P : Params} {a : Addr} {len : Nat} (T : TabOk P a len) {i : Nat} (h : i < len) : ∃ t, (tabV P a)[i]? = some (.int (tab P a i) t) := by
  have hl : i < (tabV P a).length := by rw [T.len_]; exact h
  have hv := List.all_eq_true.mp T.ints_ _ (List.getElem_mem hl)
  unfold tab
  rw [List.getElem?_eq_getElem hl]
  cases e : (tabV P a)[i] with
  | int v t => exact ⟨t, rfl⟩
  | _ => rw [e] at hv; cases hv
def octV : Value → Bool
  | .int v _ => decide (0 ≤ v) && decide (v < 256)
  | _ => false
theorem tab59_all (P : Params) : (tabV P 59).all octV = true := rfl
theorem tab56_all (P : Params) : (tabV P 56).all octV = true := rfl
theorem oct_of_all {P : Params} {a : Addr} (h : (tabV P a).all octV = true) (i : Nat) : OctOk (tab P a i) := by
  unfold tab
  cases e : (tabV P a)[i]? with
  | none => exact ⟨by decide, by decide⟩
  | some v =>
    have hv := List.all_eq_true.mp h v (List.mem_of_getElem? e)
    cases v with
    | int x t =>
      simp only [octV, Bool.and_eq_true, decide_eq_true_eq] at hv
      exact hv
    | _ => cases hv
theorem oct_S (P : Params) (i : Nat) : OctOk (tab P 59 i) := oct_of_all (tab59_all P) i
theorem oct_rcon (P : Params) (i : Nat) : OctOk (tab P 56 i) := oct_of_all (tab56_all P) i

/-- a row of a key -/
def RowAt (h : Heap) (a : Addr) (k4 : List Int) : Prop := ∃ us n, h.get? a = some (listOf us.toArray n) ∧ IntsAre us k4 ∧ k4.length = 4
def RowsIn (h : Heap) : List Addr → List (List Int) → Prop
  | [], [] => True
  | a :: r, k :: ks => RowAt h a k ∧ RowsIn h r ks
  | _, _ => False
theorem RowsIn.length {h : Heap} : ∀ {r : List Addr} {ks : List (List Int)}, RowsIn h r ks → r.length = ks.length
  | [], [], _ => rfl
  | _ :: _, _ :: _, x => congrArg Nat.succ x.2.length
  | [], _ :: _, x => x.elim
  | _ :: _, [], x => x.elim
theorem RowsIn.get {h : Heap} : ∀ {r : List Addr} {ks : List (List Int)}, RowsIn h r ks → ∀ i, i < ks.length → ∃ a, r[i]? = some a ∧ RowAt h a (ks.getD i [])
  | _ :: _, _ :: _, x, 0, _ => ⟨_, rfl, x.1⟩
  | _ :: _, _ :: _, x, i + 1, hi => by
    obtain ⟨a, e, q⟩ := x.2.get i (by simpa using hi)
    exact ⟨a, by simpa using e, by simpa using q⟩
  | [], [], _, _, hi => absurd hi (Nat.not_lt_zero _)
  | [], _ :: _, x, _, _ => x.elim
  | _ :: _, [], x, _, _ => x.elim

def kePair (P : Params) (ke kd : Addr) (t1 t2 : Tok) : List DictEntry := [⟨PyData.keyHash P (Str.ofString "_Ke"), .str (Str.ofString "_Ke") t1, .ref ke⟩, ⟨PyData.keyHash P (Str.ofString "_Kd"), .str (Str.ofString "_Kd") t2, .ref kd⟩]
/-- the object x of the class AES holds the round keys ks -/
structure AesIs (w : World) (h : Heap) (x dx ke kd : Addr) (t1 t2 : Tok) (nd nk : Nat) (rows : List Addr) (ks : List (List Int)) : Prop where
  hx : h.get? x = some (instObj 116 dx)
  hdx : h.get? dx = some (dictOf (kePair w.params ke kd t1 t2) nd)
  hke : h.get? ke = some (listOf (rows.map .ref).toArray nk)
  hrows : RowsIn h rows ks
  few : 2 ≤ ks.length ∧ ks.length ≤ 15

theorem InstAt.of_base {h₀ h : Heap} {L x C dx : Addr} {m : Str → Option Value} {od : Obj} {sl : Array (Option Value)} (F : Fr h₀ L h m) (h1 : h₀.get? x = some ⟨.ref C, some dx, .plain, sl⟩) (h2 : h₀.get? dx = some od) :
    InstAt h x ⟨.ref C, some dx, .plain, sl⟩ C (some od) := ⟨F.keep _ _ h1, rfl, rfl, F.keep _ _ h2⟩

section
variable {w : World} {A : Around} {E : Value → Shared → Prop} {s : Shared} {h₀ : Heap} {L : Addr} {m : Str → Option Value}
theorem sub_ke {ke : Addr} {rows : List Addr} {ks : List (List Int)} {nk : Nat} {i : Int} {u : Tok} {value slice : Expr} {Q : Value → Shared → Prop} (F : Fr h₀ L s.heap m) (hke : h₀.get? ke = some (listOf (rows.map .ref).toArray nk)) (hr : RowsIn h₀ rows ks) (h0 : 0 ≤ i) (h1 : i < (ks.length : Int)) (hf : i < 2 ^ 63)
    (h : ∀ a, RowAt h₀ a (ks.getD i.toNat []) → Q (.ref a) s)
    (hs : subscripted slice false (.ref ke) (.int i u) = operate [.ref ke, .int i u] (getItem (.ref ke) (.int i u)) := by with_unfolding_all rfl) :
    wpAny (model PySem.Challenge.rw_yv0001_01.row.prog w) A (subscriptTail value slice (.ref ke) (.int i u)) Q E s := by
  have hl : s.heap.IsList ke (rows.map Value.ref).toArray := ⟨_, F.keep _ _ hke, rfl, _, rfl⟩
  obtain ⟨a, e, q⟩ := hr.get i.toNat (by omega)
  exact tail_any hl.typeIs slot_list_getitem.lookup (wpAny_getItem_list hl h0 hf (by simp [e]) (h a q)) hs
theorem sub_row {a : Addr} {k4 : List Int} {i : Int} {u : Tok} {value slice : Expr} {Q : Value → Shared → Prop} (F : Fr h₀ L s.heap m) (hr : RowAt h₀ a k4) (h0 : 0 ≤ i) (h1 : i < 4)
    (h : ∀ t, Q (.int (k4.getD i.toNat 0) t) s)
    (hs : subscripted slice false (.ref a) (.int i u) = operate [.ref a, .int i u] (getItem (.ref a) (.int i u)) := by with_unfolding_all rfl) :
    wpAny (model PySem.Challenge.rw_yv0001_01.row.prog w) A (subscriptTail value slice (.ref a) (.int i u)) Q E s := by
  obtain ⟨us, n, hg, hi, hl4⟩ := hr
  have hl : s.heap.IsList a us.toArray := ⟨_, F.keep _ _ hg, rfl, _, rfl⟩
  obtain ⟨t, ht⟩ := hi.get i.toNat (k4.getD i.toNat 0) (by rw [List.getD_eq_getElem?_getD, List.getElem?_eq_getElem (by omega)]; rfl)
  exact tail_any hl.typeIs slot_list_getitem.lookup (wpAny_getItem_list hl h0 (by omega) (by simpa using ht) (h t)) hs
theorem len_ke {ke : Addr} {rows : List Addr} {ks : List (List Int)} {nk : Nat} {Q : Value → Shared → Prop} (F : Fr h₀ L s.heap m) (hke : h₀.get? ke = some (listOf (rows.map .ref).toArray nk)) (hr : RowsIn h₀ rows ks) (hf : ks.length ≤ 15)
    (h : ∀ t k, Q (.int ks.length t) { s with toks := k }) : wpAny (model PySem.Challenge.rw_yv0001_01.row.prog w) A (call (.builtin "len") [.ref ke]) Q E s := by
  have hl : s.heap.IsList ke (rows.map Value.ref).toArray := ⟨_, F.keep _ _ hke, rfl, _, rfl⟩
  have e : (rows.map Value.ref).toArray.size = ks.length := by simp [hr.length]
  refine len_list hl (by rw [e]; omega) ?_
  rw [e]
  exact h _ _
theorem sub_tab {a : Addr} {x : Int} {u : Tok} {value slice : Expr} {Q : Value → Shared → Prop} (F : Fr h₀ L s.heap m) (X : (mkK.heap_1 w.params).In h₀) (T : TabOk w.params a 256)
    (h : ∀ t, Q (.int (tab w.params a (Builtin.bitAnd x 255).toNat) t) s)
    (hs : subscripted slice false (.ref a) (.int (Builtin.bitAnd x 255) u) = operate [.ref a, .int (Builtin.bitAnd x 255) u] (getItem (.ref a) (.int (Builtin.bitAnd x 255) u)) := by with_unfolding_all rfl) :
    wpAny (model PySem.Challenge.rw_yv0001_01.row.prog w) A (subscriptTail value slice (.ref a) (.int (Builtin.bitAnd x 255) u)) Q E s := by
  obtain ⟨n, hk⟩ := T.at_
  have hl : s.heap.IsList a (tabV w.params a).toArray := ⟨_, F.keep _ _ (X _ _ hk), rfl, _, rfl⟩
  have hb := bitAnd_range x (y := 255) (by decide)
  obtain ⟨t, ht⟩ := tab_get T (i := (Builtin.bitAnd x 255).toNat) (by omega)
  exact tail_any hl.typeIs slot_list_getitem.lookup (wpAny_getItem_list hl hb.1 (by omega) (by simpa using ht) (h t)) hs
end

/-- a row of octets, as bytes or as a list -/
inductive PVin (h : Heap) : Value → List Int → Prop
  | bytes {b : Array UInt8} {t : Tok} {ns : List Int} (hb : KBw.bInts b = ns) : PVin h (.bytes b t) ns
  | list {l : Addr} {us : List Value} {n : Nat} {ns : List Int} (hg : h.get? l = some (listOf us.toArray n)) (hi : IntsAre us ns) : PVin h (.ref l) ns
theorem PVin.mono {h h' : Heap} {v : Value} {ns : List Int} (P : PVin h v ns) (k : ∀ b o, h.get? b = some o → h'.get? b = some o) : PVin h' v ns := by
  cases P with
  | bytes hb => exact .bytes hb
  | list hg hi => exact .list (k _ _ hg) hi

theorem cut_eq (ks : List Int) {x y : Int} (hx : 0 ≤ x) (hy : 0 ≤ y) :
    (ks.drop (clipAt ks.length x)).take (clipAt ks.length y - clipAt ks.length x) = (ks.drop x.toNat).take (min y.toNat ks.length - x.toNat) := by
  have e : ∀ z : Int, 0 ≤ z → clipAt ks.length z = min z.toNat ks.length := fun z hz => by
    unfold clipAt; rw [if_neg (by omega)]; omega
  rw [e x hx, e y hy]
  by_cases h : x.toNat ≤ ks.length
  · rw [Nat.min_eq_left h]
  · rw [List.drop_of_length_le (by omega), List.drop_of_length_le (l := ks) (by omega)]; simp
section
variable {w : World} {A : Around} {E : Value → Shared → Prop} {s : Shared} {h₀ : Heap} {L : Addr} {m : Str → Option Value} {news : List (Addr × Obj)}
theorem len_pv {v : Value} {ns : List Int} {z : Int} {Q : Value → Shared → Prop} (F : Fr h₀ L s.heap m) (P : PVin h₀ v ns) (hl : LenIs ns z) (h : ∀ t' k, Q (.int z t') { s with toks := k }) :
    wpAny (model PySem.Challenge.rw_yv0001_01.row.prog w) A (call (.builtin "len") [v]) Q E s := by
  cases P with
  | bytes hb => exact len_bytesN hb hl h
  | list hg hi =>
    have e : ∀ us : List Value, IntsAre us ns → us.toArray.size = ns.length := fun us hi => by rw [List.size_toArray, hi.length]
    have hz := hl.2
    exact len_list ⟨_, F.keep _ _ hg, rfl, _, rfl⟩ (by rw [e _ hi]; omega) (by rw [e _ hi, hl.1]; exact h _ _)
theorem item_pv {v : Value} {ns : List Int} {i : Int} {ui : Tok} {value slice : Expr} {Q : Value → Shared → Prop} (F : Fr h₀ L s.heap m) (P : PVin h₀ v ns) (h0 : 0 ≤ i) (h1 : i < (ns.length : Int)) (hz : ns.length ≤ 100000)
    (hQ : ∀ t' k, Q (.int (ns.getD i.toNat 0) t') { s with toks := k })
    (hs : ∀ v, subscripted slice false v (.int i ui) = operate [v, .int i ui] (getItem v (.int i ui)) := by intro _; with_unfolding_all rfl)
    (ht : ∀ b t r, letTemporaryGo value (.bytes b t) r = pure () := by intro _ _ _; with_unfolding_all rfl) :
    wpAny (model PySem.Challenge.rw_yv0001_01.row.prog w) A (subscriptTail value slice v (.int i ui)) Q E s := by
  cases P with
  | bytes hb => exact item_bytesK hb h0 h1 (by omega) hQ (hs _) (ht _ _)
  | list hg hi =>
    have hl : s.heap.IsList _ _ := ⟨_, F.keep _ _ hg, rfl, _, rfl⟩
    obtain ⟨t, e⟩ := hi.get i.toNat (ns.getD i.toNat 0) (by rw [List.getD_eq_getElem?_getD, List.getElem?_eq_getElem (by omega)]; rfl)
    exact tail_any hl.typeIs slot_list_getitem.lookup (wpAny_getItem_list hl h0 (by omega) (by simpa using e) (hQ t s.toks)) (hs _)
theorem slice_pv {v : Value} {ns zs : List Int} {x y : Int} {tx ty : Tok} {value slice : Expr} {Q : Value → Shared → Prop} (F : Fr h₀ L s.heap m) (N : News h₀ L s.heap news) (P : PVin h₀ v ns) (hx : 0 ≤ x) (hy : 0 ≤ y) (hz : ns.length ≤ 100000)
    (e : (ns.drop x.toNat).take (min y.toNat ns.length - x.toNat) = zs)
    (h : ∀ v' h' k, Fr h₀ L h' m → News h₀ L h' news → PVin h' v' zs → Q v' { s with heap := h', toks := k })
    (hs : ∀ v a, subscripted slice false v (.ref a) = operate [.ref a, v] (getItem v (.ref a)) := by intro _ _; with_unfolding_all rfl)
    (ht : ∀ v r, letTemporaryGo value v r = pure () := by intro _ _; with_unfolding_all rfl) :
    wpAny (model PySem.Challenge.rw_yv0001_01.row.prog w) A (subscriptTail value slice v (.ref s.heap.objs.size)) Q E { s with heap := s.heap.push { cls := .type "slice", data := .fields #[.int x tx, .int y ty, .none] } } := by
  cases P with
  | bytes hb => exact KBc.slice_K F N hb (.int x tx) (.int y ty) (by omega) (fun h' t' k F' N' e' => h _ h' k F' N' (.bytes (e'.trans ((cut_eq ns hx hy).trans e)))) (hs _ _) (ht _)
  | list hg hi =>
    have hm := kmk_run hi hx hy
    rw [e] at hm
    exact kmk_slice_ints F N ⟨_, F.keep _ _ hg, rfl, _, rfl⟩ (.int x tx) (.int y ty) hi hm rfl (fun D ws h' F' N' l1 hi' _ _ => h _ h' _ F' (fun p hp => N' p (List.mem_cons_of_mem _ hp)) (.list (N' _ List.mem_cons_self).1 hi')) (hs _ _) (ht _)
      (by rw [PySem.sizeLine_eq, List.size_toArray, hi.length]; omega)
end
end
local macro_rules | `(tactic| k_inst) => `(tactic| exact InstAt.of_base (by k_asm) (by with_reducible assumption) (by with_reducible assumption))
section
def Keeps : List (Str × Value) → (Str → Option Value) → Prop
  | [], _ => True
  | p :: r, m => m p.1 = some p.2 ∧ Keeps r m
def look (ps : List (Str × Value)) (u : Str → Option Value) : Str → Option Value := fun y => match ps.lookup y with
  | some v => some v
  | none => u y
theorem Keeps.look : ∀ {ps : List (Str × Value)} {m : Str → Option Value}, Keeps ps m → m = Mine.look ps m
  | [], _, _ => rfl
  | p :: r, m, h => by
    funext y
    have ih := congrFun (Keeps.look h.2) y
    unfold Mine.look at ih ⊢
    rw [List.lookup_cons]
    cases e : y == p.1 with
    | true => rw [eq_of_beq e]; exact h.1
    | false => exact ih
theorem Keeps.fr {g h : Heap} {L : Addr} {ps : List (Str × Value)} {m : Str → Option Value} (hk : Keeps ps m) (F : Fr g L h m) : Fr g L h (Mine.look ps m) := by
  rw [← hk.look]; exact F
theorem Keeps.frI {g h : Heap} {L : Addr} {ps : List (Str × Value)} {m : Str → Option Value} {x : Str} {v : Option Value} (hk : Keeps ps m) (F : Fr g L h (fun y => if y = x then v else m y)) : Fr g L h (fun y => if y = x then v else Mine.look ps m y) := by
  rw [← hk.look]; exact F

section
variable {prog : Program} {w : World} {A : Around} {E : Value → Shared → Prop} {s : Shared} {env : Env} {h₀ : Heap} {x : Str} {body : List Stmt} {Q : Flow → Shared → Prop}
theorem krs_go {r : Addr} {a₀ b₀ c : Int} {t₀ u₀ v₀ : Tok} {n : Nat} {m₀ : Str → Option Value} {all news : List (Addr × Obj)} (J : Nat → (Str → Option Value) → List (Addr × Obj) → Prop)
    (hh : A.handled = none) (hr : IsRange s.heap r a₀ b₀ c t₀ u₀ v₀) (hsmall : Builtin.Range.small a₀ b₀ c = true) (hn : Builtin.Range.rangeSize a₀ b₀ c = (n : Int)) (F : Fr h₀ env.locals s.heap m₀) (N : News h₀ env.locals s.heap all)
    (hj : J 0 m₀ news) (hsub : ∀ p ∈ news, p ∈ all)
    (turn : ∀ (i : Nat) m nw I t h tk, i < n → J i m nw → (∀ p ∈ nw, p.1 ≠ I) → Fr h₀ env.locals h (fun y => if y = x then some (.int (a₀ + (i : Int) * c) t) else m y) →
      News h₀ env.locals h ((I, krsIt (a₀ + ((i + 1 : Nat) : Int) * c) ((n : Int) - ((i + 1 : Nat) : Int)) c) :: nw) →
      wpAny (model prog w) A (execs body env) (UnrPost h₀ env.locals { s with heap := h, toks := tk } I (krsIt (a₀ + ((i + 1 : Nat) : Int) * c) ((n : Int) - ((i + 1 : Nat) : Int)) c) (J (i + 1)) Q) E { s with heap := h, toks := tk })
    (fin : ∀ m nw h tk, J n m nw → Fr h₀ env.locals h m → News h₀ env.locals h nw → Q .next { s with heap := h, toks := tk }) :
    wpAny (model prog w) A (pyIter (.ref r)) (fun it s₂ => LoopAtV prog w A h₀ env x body Q E it s₂) E s := by
  refine krs_iter hh hr hsmall hn F (fun p hp => N p (hsub p hp)) fun I hI => ?_
  have key : ∀ (j i : Nat) m nw, i + j = n → J i m nw → (∀ p ∈ nw, p.1 ≠ I) → KrsRest prog w A E h₀ env x body Q s I a₀ c n j i m nw := by
    intro j
    induction j with
    | zero =>
      intro i m nw hi hJ _
      have e : i = n := by omega
      subst e
      exact KrsRest.zero fun h tk F N => fin m nw h tk hJ F N
    | succ j ih =>
      intro i m nw hi hJ off
      refine KrsRest.succ rfl fun t h tk F N => ?_
      refine wpAny_mono (turn i m nw I t h tk (by omega) hJ off F N) (fun f s₂ p => ?_) fun _ _ e => e
      cases f with
      | ret v => exact p
      | brk => exact p
      | next =>
        obtain ⟨h', tk', m', nw', e, F', N', ho, hJ'⟩ := p
        exact ⟨h', tk', m', nw', e, F', N', ho, ih (i + 1) m' nw' (by omega) hJ' ho⟩
      | cont =>
        obtain ⟨h', tk', m', nw', e, F', N', ho, hJ'⟩ := p
        exact ⟨h', tk', m', nw', e, F', N', ho, ih (i + 1) m' nw' (by omega) hJ' ho⟩
  exact key n 0 m₀ news (by omega) hj fun p hp => Nat.ne_of_lt (hI p hp)

theorem unr_end {L I : Addr} {it : Obj} {rest : (Str → Option Value) → List (Addr × Obj) → Prop} {s₁ : Shared} {h' : Heap} {tk : Nat} {m' : Str → Option Value} {all nw : List (Addr × Obj)} (F : Fr h₀ L h' m') (N : News h₀ L h' all)
    (r : rest m' nw) (hI : (I, it) ∈ all) (sub : ∀ p ∈ nw, p ∈ all) (off : ∀ p ∈ nw, p.1 ≠ I) : UnrEnd h₀ L s₁ I it rest { s₁ with heap := h', toks := tk } :=
  UnrEnd.intro F N nw (fun p hp => by
    rcases List.mem_cons.mp hp with rfl | hp
    · exact hI
    · exact sub p hp) off r
theorem off_same {I : Addr} {nw nw' : List (Addr × Obj)} (h : ∀ p ∈ nw, p.1 ≠ I) (e : nw'.map (·.1) = nw.map (·.1)) : ∀ p ∈ nw', p.1 ≠ I := fun p hp => by
  have : p.1 ∈ nw.map (·.1) := e ▸ List.mem_map_of_mem hp
  obtain ⟨q, hq, e'⟩ := List.mem_map.mp this
  exact e' ▸ h q hq
end
def LenLe (ns : List Int) (c : Nat) : Prop := ns.length ≤ c
section
variable {w : World} {A : Around} {E : Value → Shared → Prop} {s : Shared} {h₀ : Heap} {L : Addr} {m : Str → Option Value} {news news' : List (Addr × Obj)}
theorem append_led {D : Addr} {us : List Value} {ns : List Int} {n c : Nat} {v : Int} {t : Tok} {Q : Value → Shared → Prop} (F : Fr h₀ L s.heap m) (N : News h₀ L s.heap news) (hi : IntsAre us ns) (hz : LenLe ns c) (hc : c ≤ 100000)
    (U : Upd D (listOf us.toArray n) (listOf (us ++ [Value.int v t]).toArray (n + 1)) news news')
    (h : ∀ h', Fr h₀ L h' m → News h₀ L h' news' → IntsAre (us ++ [Value.int v t]) (ns ++ [v]) → LenLe (ns ++ [v]) (c + 1) → Q .none { s with heap := h' }) : wpAny (model PySem.Challenge.rw_yv0001_01.row.prog w) A (call (.builtin "list.append") [.ref D, .int v t]) Q E s := by
  have e : listOf (us ++ [Value.int v t]).toArray (n + 1) = listOf (us.toArray.push (.int v t)) (n + 1) := by rw [List.push_toArray]
  rw [e] at U
  refine append_K F N U (fun h' F' N' => h h' F' N' (IntsAre.append hi (.cons _ _ .nil)) ?_) (by rw [List.size_toArray, hi.length, PySem.sizeLine_eq]; unfold LenLe at hz; omega)
  unfold LenLe at hz ⊢
  simp; exact hz
end
end
section
theorem compact_spec (w : World) {v : Value} {k0 k1 k2 k3 : Int} (h0 : OctOk k0) (h1 : OctOk k1) (h2 : OctOk k2) :
    Spec w (.ref 28) [v] (fun g => PVin g v [k0, k1, k2, k3]) [] 1 8 (fun r nw => nw = [] ∧ ∃ t', r = .int (word k0 k1 k2 k3) t') := by
  with_unfolding_all refine' spec_def ?ho ?hcd ?hbind ?hloc ?c2 ?c3 ?c4 ?c5 ?_
  (case ho => k_is)
  (case hcd => k_is)
  (case hbind => first | exact bind_plain rfl | exact bind_dflt rfl (by k_is) rfl rfl rfl)
  (case hloc => exact locs rfl)
  (case c2 => exact rfl)
  (case c3 => exact rfl)
  (case c4 => exact rfl)
  (case c5 => decide)
  intro p loose mean mg mb dp un gd cn cs ca ccd cl outer base L g L1 h1 s tk B F X N T hdp hun hyp
  refine letA ?_
  intro A0
  (try dsimp only)
  (try k_fold)
  (repeat' (first | (k_unfold; (try dsimp only)) | ((with_reducible show wpAny _ _ (exec _ _) _ _ _); (fail_if_success (fail_if_success k_fold)); refine foldQ ?_; intro q9) | ((with_reducible show wpAny _ _ (eval (Expr.BinOp _ _ _ _) _) _ _ _); (fail_if_success (fail_if_success k_fold)); refine foldQ ?_; intro q9) | ((with_reducible show wpAny _ _ (eval (Expr.Call _ _ _ _) _) _ _ _); (fail_if_success (fail_if_success k_fold)); refine foldQ ?_; intro q9) | ((with_reducible show wpAny _ _ (eval (Expr.Subscript _ _ _) _) _ _ _); (fail_if_success (fail_if_success k_fold)); refine foldQ ?_; intro q9)  | (k_here; (with_reducible show wpAny _ _ (subscriptTail _ _ _ (Value.int _ _)) _ _ _); k_dflt (refine item_pv (by k_asm) (by tb_start) (by first | tb_start | exact of_decide_eq_true rfl) (by first | tb_start | exact of_decide_eq_true rfl) (by first | tb_start | exact of_decide_eq_true rfl) (fun t' k' => ?_)); (try k_fold)) | (k_here; (with_reducible show wpAny _ _ (binaryOp Operator.LShift (Value.int _ _) (Value.int _ _)) _ _ _); k_dflt (refine shl_oct (by first | tb_start | (with_unfolding_all assumption)) (by decide) (by decide) (fun t' k' => ?_)); (try k_fold)) | (k_end; wrow_close) | walk1 | (dsimp only; walk1) | (leave1; walk_say "STEP leave1"; try dsimp only) | fail "no step"))
  exact Ends.mk2 (by k_asm) (by k_asm) ⟨rfl, _, rfl⟩ (fun _ h => nomatch h)
end
section
theorem oct_getD {ns : List Int} (ho : ∀ y ∈ ns, OctOk y) (i : Nat) : OctOk (ns.getD i 0) := by
  rw [List.getD_eq_getElem?_getD]
  cases e : ns[i]? with
  | none => exact ⟨by decide, by decide⟩
  | some v => exact ho v (List.mem_of_getElem? e)
theorem cut4 {ns : List Int} {a : Nat} (h : a + 4 ≤ ns.length) : (ns.drop a).take 4 = [ns.getD a 0, ns.getD (a + 1) 0, ns.getD (a + 2) 0, ns.getD (a + 3) 0] := by
  refine List.ext_getElem (by simp; omega) fun i h1 h2 => ?_
  have hi : i < 4 := by simpa using h2
  rw [List.getElem_take, List.getElem_drop]
  have e : ∀ j, (hj : a + j < ns.length) → ns.getD (a + j) 0 = ns[a + j] := fun j hj => by rw [List.getD_eq_getElem?_getD, List.getElem?_eq_getElem hj]; rfl
  have : i = 0 ∨ i = 1 ∨ i = 2 ∨ i = 3 := by omega
  rcases this with rfl | rfl | rfl | rfl <;> simp only [List.getElem_cons_zero, List.getElem_cons_succ] <;> exact (e _ (by omega)).symm
/-- the words of a block, whitened by the first round key -/
def encIn (ks : List (List Int)) (ns : List Int) (i : Nat) : Int := Builtin.bitXor (word (ns.getD (4 * i) 0) (ns.getD (4 * i + 1) 0) (ns.getD (4 * i + 2) 0) (ns.getD (4 * i + 3) 0)) ((ks.getD 0 []).getD i 0)

/-- a word of a round, ahead of the round key -/
def octOf (x : Int) : Int := Builtin.bitAnd x 255
noncomputable def encT (P : Params) (t : List Int) (i : Nat) : Int :=
  Builtin.bitXor (Builtin.bitXor (Builtin.bitXor (tab P 65 (Builtin.bitAnd ((t.getD i 0).fdiv (2 ^ 24)) 255).toNat) (tab P 68 (Builtin.bitAnd ((t.getD ((i + 1) % 4) 0).fdiv (2 ^ 16)) 255).toNat))
    (tab P 71 (Builtin.bitAnd ((t.getD ((i + 2) % 4) 0).fdiv (2 ^ 8)) 255).toNat)) (tab P 74 (Builtin.bitAnd (t.getD ((i + 3) % 4) 0) 255).toNat)
noncomputable def encRound (P : Params) (t k4 : List Int) : List Int := (List.range 4).map fun i => Builtin.bitXor (encT P t i) (k4.getD i 0)
noncomputable def encRounds (P : Params) (ks : List (List Int)) (t : List Int) : Nat → List Int
  | 0 => t
  | n + 1 => encRound P (encRounds P ks t n) (ks.getD (n + 1) [])
theorem encRounds_len (P : Params) (ks : List (List Int)) (t : List Int) (h : t.length = 4) : ∀ n, (encRounds P ks t n).length = 4
  | 0 => h
  | n + 1 => by simp [encRounds, encRound]
theorem mod4 (i k : Nat) : (((0 : Int) + (i : Int) * 1 + (k : Int)).fmod 4).toNat = (i + k) % 4 := by
  rw [Int.fmod_eq_emod_of_nonneg _ (by decide)]; omega
theorem mod4_lo (x : Int) : 0 ≤ x.fmod 4 := Int.fmod_nonneg_of_pos _ (by decide)
theorem mod4_hi (x : Int) : x.fmod 4 < 4 := Int.fmod_lt_of_pos _ (by decide)

theorem fold4 (f : Nat → Int) {as : List Int} (h : as.length = 4) : (List.range 4).foldl (fun bs q => bs.set q (f q)) as = (List.range 4).map f := by
  match as, h with
  | [a, b, c, d], _ => rfl
/-- a word of the answer -/
noncomputable def encOut (P : Params) (k4 t : List Int) (i : Nat) : List Int :=
  [Builtin.bitAnd (Builtin.bitXor (tab P 59 (Builtin.bitAnd ((t.getD i 0).fdiv (2 ^ 24)) 255).toNat) ((k4.getD i 0).fdiv (2 ^ 24))) 255,
   Builtin.bitAnd (Builtin.bitXor (tab P 59 (Builtin.bitAnd ((t.getD ((i + 1) % 4) 0).fdiv (2 ^ 16)) 255).toNat) ((k4.getD i 0).fdiv (2 ^ 16))) 255,
   Builtin.bitAnd (Builtin.bitXor (tab P 59 (Builtin.bitAnd ((t.getD ((i + 2) % 4) 0).fdiv (2 ^ 8)) 255).toNat) ((k4.getD i 0).fdiv (2 ^ 8))) 255,
   Builtin.bitAnd (Builtin.bitXor (tab P 59 (Builtin.bitAnd (t.getD ((i + 3) % 4) 0) 255).toNat) (k4.getD i 0)) 255]
/-- AES.encrypt -/
noncomputable def enc (P : Params) (ks : List (List Int)) (ns : List Int) : List Int :=
  (List.range 4).flatMap (encOut P (ks.getD (ks.length - 1) []) (encRounds P ks ((List.range 4).map (encIn ks ns)) (ks.length - 2)))
theorem enc_len (P : Params) (ks : List (List Int)) (ns : List Int) : (enc P ks ns).length = 16 := rfl
theorem enc_oct (P : Params) (ks : List (List Int)) (ns : List Int) : ∀ y ∈ enc P ks ns, OctOk y := by
  intro y hy
  obtain ⟨i, _, hy⟩ := List.mem_flatMap.mp hy
  have key : ∀ x, OctOk (Builtin.bitAnd x 255) := fun x => by have := bitAnd_range x (y := 255) (by decide); exact ⟨this.1, by omega⟩
  simp only [encOut, List.mem_cons, List.not_mem_nil, or_false] at hy
  rcases hy with rfl | rfl | rfl | rfl <;> exact key _
theorem out_len {f : Nat → List Int} (h : ∀ i, (f i).length = 4) : ∀ j, ((List.range j).flatMap f).length = 4 * j
  | 0 => rfl
  | j + 1 => by rw [List.range_succ, List.flatMap_append, List.length_append, out_len h j]; simp [h]; omega
inductive NewL (zs : List Int) (v : Value) (nw : List (Addr × Obj)) : Prop
  | mk0 (l : Addr) (us : List Value) (n : Nat) (z1 : v = .ref l) (z2 : nw = [(l, listOf us.toArray n)]) (z3 : IntsAre us zs) : NewL zs v nw
inductive EncJ1 (P : Params) (ks : List (List Int)) (ns : List Int) (L1 : Addr) (oc1 oc2 : Obj) (i : Nat) (m : Str → Option Value) (nw : List (Addr × Obj)) : Prop
  | mk0 (la lt : Addr) (usa ust : List Value) (na nt : Nat) (as : List Int) (ta tb tc tr : Tok) (z1 : nw = [(lt, listOf ust.toArray nt), (la, listOf usa.toArray na), (L1 + 1 + 1, oc1), (L1 + 1, oc2)]) (z2 : (@Ne Nat lt la)) (z3 : @LT.lt Nat _ (L1 + 1 + 1) la) (z4 : IntsAre usa as) (z5 : as.length = 4) (z6 : IntsAre ust (encRounds P ks ((List.range 4).map (encIn ks ns)) i)) (z7 : Keeps [(Str.ofString "t", .ref lt), (Str.ofString "a", .ref la), (Str.ofString "s1", .int 1 ta), (Str.ofString "s2", .int 2 tb), (Str.ofString "s3", .int 3 tc), (Str.ofString "rounds", .int ((ks.length : Int) - 1) tr)] m) : EncJ1 P ks ns L1 oc1 oc2 i m nw
inductive EncJ2 (P : Params) (ks : List (List Int)) (L1 I la lt : Addr) (oc1 oc2 : Obj) (ta tb tc tr t : Tok) (ust : List Value) (nt i : Nat) (tl as : List Int) (j : Nat) (m : Str → Option Value) (nw : List (Addr × Obj)) : Prop
  | mk0 (usb : List Value) (nb : Nat) (bs : List Int) (z1 : nw = [(la, listOf usb.toArray nb), (lt, listOf ust.toArray nt), (I, krsIt (1 + ((i + 1 : Nat) : Int) * 1) (((ks.length - 2 : Nat) : Int) - ((i + 1 : Nat) : Int)) 1), (L1 + 1 + 1, oc1), (L1 + 1, oc2)]) (z2 : IntsAre usb bs) (z3 : bs.length = 4) (z4 : bs = (List.range j).foldl (fun bs q => bs.set q (Builtin.bitXor (encT P tl q) ((ks.getD (i + 1) []).getD q 0))) as) (z5 : Keeps [(Str.ofString "t", .ref lt), (Str.ofString "a", .ref la), (Str.ofString "s1", .int 1 ta), (Str.ofString "s2", .int 2 tb), (Str.ofString "s3", .int 3 tc), (Str.ofString "rounds", .int ((ks.length : Int) - 1) tr), (Str.ofString "r", .int (1 + (i : Int) * 1) t)] m) : EncJ2 P ks L1 I la lt oc1 oc2 ta tb tc tr t ust nt i tl as j m nw
inductive EncJ3 (P : Params) (ks : List (List Int)) (L1 lt : Addr) (oc1 oc2 : Obj) (ta tb tc tr : Tok) (ust : List Value) (nt : Nat) (tl : List Int) (j : Nat) (m : Str → Option Value) (nw : List (Addr × Obj)) : Prop
  | mk0 (lr : Addr) (usr : List Value) (nr : Nat) (rs : List Int) (z1 : nw = [(lr, listOf usr.toArray nr), (lt, listOf ust.toArray nt), (L1 + 1 + 1, oc1), (L1 + 1, oc2)]) (z2 : @LT.lt Nat _ (L1 + 1 + 1) lr) (z3 : (@Ne Nat lr lt)) (z4 : IntsAre usr rs) (z5 : rs = (List.range j).flatMap (encOut P (ks.getD (ks.length - 1) []) tl)) (z6 : Keeps [(Str.ofString "t", .ref lt), (Str.ofString "result", .ref lr), (Str.ofString "s1", .int 1 ta), (Str.ofString "s2", .int 2 tb), (Str.ofString "s3", .int 3 tc), (Str.ofString "rounds", .int ((ks.length : Int) - 1) tr)] m) : EncJ3 P ks L1 lt oc1 oc2 ta tb tc tr ust nt tl j m nw
theorem enc_spec (w : World) {x dx ke kd : Addr} {t1 t2 : Tok} {nd nk : Nat} {rows : List Addr} {ks : List (List Int)} {pv : Value} {ns : List Int} (hl : ns.length = 16) (ho : ∀ y ∈ ns, OctOk y) :
    Spec w (.ref 108) [.ref x, pv] (fun g => AesIs w g x dx ke kd t1 t2 nd nk rows ks ∧ PVin g pv ns) [] 2 16 (NewL (enc w.params ks ns)) := by
  with_unfolding_all refine' spec_defC ?ho ?hcd ?hbind ?hkind ?hnd ?c2 ?c3 ?c4 ?_
  (case ho => k_is)
  (case hcd => k_is)
  (case hbind => first | exact bind_plain rfl | exact bind_dflt rfl (by k_is) rfl rfl rfl)
  (case hkind => exact rfl)
  (case hnd => decide +kernel)
  (case c2 => exact rfl)
  (case c3 => exact rfl)
  (case c4 => exact rfl)
  intro p loose mean mg mb dp un gd cn cs ca ccd cl outer base L g L1 h1 s tk cells B F X N Y T hdp hun hyp l1
  (try k_lt l1)
  refine letA ?_
  intro A0
  obtain ⟨oc1, oc2, hE, dc1, dc2⟩ := CellsAre.two Y
  subst hE
  clear Y
  (try simp only [List.nil_append, List.cons_append] at N)
  (try dsimp only)
  (try k_fold)
  obtain ⟨⟨hx, hdx, hke, hrows, few1, few2⟩, P⟩ := hyp
  have hln : LenIs ns 16 := ⟨by omega, by omega⟩
  (repeat' (first | (k_unfold; (try dsimp only)) | ((with_reducible show wpAny _ _ (exec _ _) _ _ _); (fail_if_success (fail_if_success k_fold)); refine foldQ ?_; intro q9) | ((with_reducible show wpAny _ _ (eval (Expr.Call _ _ _ _) _) _ _ _); (fail_if_success (fail_if_success k_fold)); refine foldQ ?_; intro q9) | ((with_reducible show wpAny _ _ (eval (Expr.Subscript _ _ _) _) _ _ _); (fail_if_success (fail_if_success k_fold)); refine foldQ ?_; intro q9)  | (k_here; (with_reducible show wpAny _ _ (call (Value.builtin "len") [_]) _ _ _); k_dflt (refine len_pv (by k_asm) (by tb_start) (by tb_start) (fun t' k' => ?_)); (try k_fold)) | (k_here; (with_reducible show wpAny _ _ (call (Value.builtin _) [Value.ref _]) _ _ _); k_dflt (refine len_ke (by k_asm) (by tb_start) (by tb_start) (by tb_start) (fun t' k' => ?_)); (try k_fold)) | (k_here; (with_reducible show LCg.CompSrc _ _ _ _ _ _ _ _ _ _ _ _ _ _); (refine Hold.mk ?_)) | (k_end; wrow_close) | walk1 | (dsimp only; walk1) | (leave1; walk_say "STEP leave1"; try dsimp only) | fail "no step"))
  unfold Hold
  refine LCg.CompSrc.range (n := 4) rfl (by k_asm) (by k_asm) (by assumption) (small_one (by decide) (by decide) (by decide) (by decide)) (rangeSize_nat _ _) (by rw [PySem.sizeLine_eq]; decide)
    (fun g2 => comp_map (encIn ks ns) (fun i' ys' v' I' oI' C' oC' D' m' h' tk2 E' hi' hP hC' hx' F' N' off' ne' => ?_) fun ys hys => ?_)
  · obtain ⟨t', rfl⟩ := hP
    have b0 : (0 : Int) ≤ 4 * (0 + (i' : Int)) := by omega
    have b1 : (0 : Int) ≤ 4 * (0 + (i' : Int)) + 4 := by omega
    have b2 : ns.length ≤ 100000 := by omega
    have b3 : (0 : Int) < (ks.length : Int) := by omega
    have b4 : (0 : Int) ≤ 0 + (i' : Int) := by omega
    have b5 : 0 + (i' : Int) < 4 := by omega
    have o0 := oct_getD ho (4 * i')
    have o1 := oct_getD ho (4 * i' + 1)
    have o2 := oct_getD ho (4 * i' + 2)
    have hcut : (ns.drop (4 * (0 + (i' : Int))).toNat).take (min (4 * (0 + (i' : Int)) + 4).toNat ns.length - (4 * (0 + (i' : Int))).toNat) = [ns.getD (4 * i') 0, ns.getD (4 * i' + 1) 0, ns.getD (4 * i' + 2) 0, ns.getD (4 * i' + 3) 0] := by
      rw [← cut4 (by omega), show (4 * (0 + (i' : Int))).toNat = 4 * i' by omega, show min (4 * (0 + (i' : Int)) + 4).toNat ns.length - 4 * i' = 4 by omega]
    simp only [LCg.Off3, and_true] at off'
    k_unmd
    k_fold
    (repeat' (first | (k_unfold; (try dsimp only)) | ((with_reducible show wpAny _ _ (exec _ _) _ _ _); (fail_if_success (fail_if_success k_fold)); refine foldQ ?_; intro q9) | ((with_reducible show wpAny _ _ (eval (Expr.Call _ _ _ _) _) _ _ _); (fail_if_success (fail_if_success k_fold)); refine foldQ ?_; intro q9) | ((with_reducible show wpAny _ _ (eval (Expr.Subscript _ _ _) _) _ _ _); (fail_if_success (fail_if_success k_fold)); refine foldQ ?_; intro q9)  | (k_here; (with_reducible show wpAny _ _ (call (Value.ref 28) [_]) _ _ _); k_dflt ( refine' (compact_spec _ ?o0 ?o1 ?o2).read ?k1 ?k2 ?k3 ?k4 ?k5 ?k6 ?k15 ?k16 ?ky ?_; (case ky => exact fun g hg => PVin.mono (by tb_start) hg); (case o0 | o1 | o2 => assumption); (case k1 | k2 | k3 | k4 | k5 => k_asm); (case k6 => first | exact rfl | assumption); (case k15 => ktr_room); (case k16 => ktr_units); intro v' h' k' F' N' hs' hv'; (obtain ⟨t', e'⟩ := hv'); (subst e'); (try k_fold))) | (k_here; (with_reducible show wpAny _ _ (subscriptTail _ _ _ (Value.ref _)) _ _ _); k_dflt (refine slice_pv (by k_asm) (by k_asm) (by tb_start) (by tb_start) (by tb_start) (by tb_start) (by tb_start) (fun v' h' k' F' N' P' => ?_)); (try k_fold)) | (k_here; (with_reducible show wpAny _ _ (subscriptTail _ _ (Value.ref _) (Value.int _ _)) _ _ _); k_dflt (refine sub_row (by k_asm) (by tb_start) (by first | tb_start | exact of_decide_eq_true rfl) (by first | tb_start | exact of_decide_eq_true rfl) (fun t' => ?_)); (try k_fold)) | (k_here; (with_reducible show wpAny _ _ (subscriptTail _ _ (Value.ref _) (Value.int _ _)) _ _ _); k_dflt (refine sub_ke (by k_asm) (by tb_start) (by tb_start) (by first | tb_start | exact of_decide_eq_true rfl) (by first | tb_start | exact of_decide_eq_true rfl) (by first | tb_start | exact of_decide_eq_true rfl) (fun a' hra' => ?_)); (try k_fold)) | (k_end; wrow_close) | walk1 | (dsimp only; walk1) | (leave1; walk_say "STEP leave1"; try dsimp only) | fail "no step"))
    refine kcf_el ?_ rfl rfl
    unfold encIn
    rw [show (0 + (i' : Int)).toNat = i' by omega]
    rfl
  · (repeat' (first | (k_unfold; (try dsimp only)) | ((with_reducible show wpAny _ _ (exec _ _) _ _ _); (fail_if_success (fail_if_success k_fold)); refine foldQ ?_; intro q9) | ((with_reducible show wpAny _ _ (eval (Expr.Call _ _ _ _) _) _ _ _); (fail_if_success (fail_if_success k_fold)); refine foldQ ?_; intro q9) | ((with_reducible show wpAny _ _ (eval (Expr.Subscript _ _ _) _) _ _ _); (fail_if_success (fail_if_success k_fold)); refine foldQ ?_; intro q9)  | ((with_reducible show wpAny _ _ (pyIter (Value.ref _)) (fun it s₂ => LoopAtV _ _ _ _ _ _ _ _ _ it s₂) _ _); (refine Hold.mk ?_)) | (k_here; (with_reducible show wpAny _ _ (exec (Stmt.For (Expr.Name _ _) (Expr.Call _ _ _ _) _ [] _) _) _ _ _); (rename Fr _ _ _ _ => lF'); (with_unfolding_all refine' For_invVF lF' ?k1 ?k2 ?_; (case k1 | k2 => exact rfl); k_whole)) | (k_end; wrow_close) | walk1 | (dsimp only; walk1) | (leave1; walk_say "STEP leave1"; try dsimp only) | fail "no step"))
    unfold Hold
    rename Fr _ _ _ _ => F1
    rename News _ _ _ _ => N1
    rename IsRange _ _ _ _ _ _ _ _ => hr
    refine krs_go (n := ks.length - 2) (fun i m nw => EncJ1 w.params ks ns L1 oc1 oc2 i m nw)
      rfl hr (small_one (by decide) (by decide) (by omega) (by omega)) ((rangeSize_nat _ _).trans (by omega)) F1 N1
      ⟨_, _, _, _, _, _, [0, 0, 0, 0], _, _, _, _, rfl, by omega, by omega, .cons _ _ (.cons _ _ (.cons _ _ (.cons _ _ .nil))), rfl, hys, rfl, rfl, rfl, rfl, rfl, rfl, trivial⟩ (SubL.mem (by k_subL)) ?_ ?_
    · rintro i m nw I t h tk hi ⟨la, lt, usa, ust, na, nt, as, ta, tb, tc, tr, rfl, hne, hlo, hia, hla, hit, hk⟩ hoI F2 N2
      have hR := encRounds_len w.params ks ((List.range 4).map (encIn ks ns)) (by simp) i
      generalize hT : encRounds w.params ks ((List.range 4).map (encIn ks ns)) i = tl at hit hR
      first | replace F2 := hk.fr F2 | replace F2 := hk.frI F2
      clear hk
      have hI1 : (@Ne Nat lt I) := hoI _ List.mem_cons_self
      have hI2 : (@Ne Nat la I) := hoI _ (List.mem_cons_of_mem _ List.mem_cons_self)
      k_unmd
      k_fold
      (repeat' (first | (k_unfold; (try dsimp only)) | ((with_reducible show wpAny _ _ (exec _ _) _ _ _); (fail_if_success (fail_if_success k_fold)); refine foldQ ?_; intro q9) | ((with_reducible show wpAny _ _ (eval (Expr.Call _ _ _ _) _) _ _ _); (fail_if_success (fail_if_success k_fold)); refine foldQ ?_; intro q9) | ((with_reducible show wpAny _ _ (eval (Expr.Subscript _ _ _) _) _ _ _); (fail_if_success (fail_if_success k_fold)); refine foldQ ?_; intro q9)  | ((with_reducible show wpAny _ _ (pyIter (Value.ref _)) (fun it s₂ => LoopAtV _ _ _ _ _ _ _ _ _ it s₂) _ _); (refine Hold.mk ?_)) | (k_here; (with_reducible show wpAny _ _ (exec (Stmt.For (Expr.Name _ _) (Expr.Call _ _ _ _) _ [] _) _) _ _ _); (rename Fr _ _ _ _ => lF'); (with_unfolding_all refine' For_invVF lF' ?k1 ?k2 ?_; (case k1 | k2 => exact rfl); k_whole)) | (k_end; wrow_close) | walk1 | (dsimp only; walk1) | (leave1; walk_say "STEP leave1"; try dsimp only) | fail "no step"))
      unfold Hold
      rename Fr _ _ _ _ => F3
      rename News _ _ _ _ => N3
      rename IsRange _ _ _ _ _ _ _ _ => hr2
      refine krs_go (n := 4) (fun j m nw => EncJ2 w.params ks L1 I la lt oc1 oc2 ta tb tc tr t ust nt i tl as j m nw)
        rfl hr2 (small_one (by decide) (by decide) (by decide) (by decide)) (rangeSize_nat _ _) F3 N3
        ⟨usa, na, as, rfl, hia, hla, rfl, rfl, rfl, rfl, rfl, rfl, rfl, rfl, trivial⟩ (SubL.mem (by k_subL)) ?_ ?_
      · rintro j m nw I2 t2 h2 tk2 hj ⟨usb, nb, bs, rfl, hib, hlb, hbs, hk2⟩ hoI2 F4 N4
        first | replace F4 := hk2.fr F4 | replace F4 := hk2.frI F4
        clear hk2
        have c1 : (0 : Int) ≤ 1 + (i : Int) * 1 := by omega
        have c2 : 1 + (i : Int) * 1 < (ks.length : Int) := by omega
        have c3 : 1 + (i : Int) * 1 < 2 ^ 63 := by omega
        have d1 : (0 : Int) ≤ 0 + (j : Int) * 1 := by omega
        have d2 : 0 + (j : Int) * 1 < 4 := by omega
        have d3 : 0 + (j : Int) * 1 < (tl.length : Int) := by omega
        have d4 : 0 + (j : Int) * 1 < (bs.length : Int) := by omega
        have d5 : 0 + (j : Int) * 1 < 2 ^ 63 := by omega
        have e1 := mod4_lo (0 + (j : Int) * 1 + 1)
        have e2 := mod4_lo (0 + (j : Int) * 1 + 2)
        have e3 := mod4_lo (0 + (j : Int) * 1 + 3)
        have f1 : (0 + (j : Int) * 1 + 1).fmod 4 < (tl.length : Int) := by rw [hR]; exact mod4_hi _
        have f2 : (0 + (j : Int) * 1 + 2).fmod 4 < (tl.length : Int) := by rw [hR]; exact mod4_hi _
        have f3 : (0 + (j : Int) * 1 + 3).fmod 4 < (tl.length : Int) := by rw [hR]; exact mod4_hi _
        have g1 : (0 + (j : Int) * 1 + 1).fmod 4 < 2 ^ 63 := by have := mod4_hi (0 + (j : Int) * 1 + 1); omega
        have g2 : (0 + (j : Int) * 1 + 2).fmod 4 < 2 ^ 63 := by have := mod4_hi (0 + (j : Int) * 1 + 2); omega
        have g3 : (0 + (j : Int) * 1 + 3).fmod 4 < 2 ^ 63 := by have := mod4_hi (0 + (j : Int) * 1 + 3); omega
        have hJ1 : (@Ne Nat la I2) := hoI2 _ List.mem_cons_self
        clear hr hr2
        k_unmd
        k_fold
        (repeat' (first | (k_unfold; (try dsimp only)) | ((with_reducible show wpAny _ _ (exec _ _) _ _ _); (fail_if_success (fail_if_success k_fold)); refine foldQ ?_; intro q9) | ((with_reducible show wpAny _ _ (eval (Expr.Call _ _ _ _) _) _ _ _); (fail_if_success (fail_if_success k_fold)); refine foldQ ?_; intro q9) | ((with_reducible show wpAny _ _ (eval (Expr.Subscript _ _ _) _) _ _ _); (fail_if_success (fail_if_success k_fold)); refine foldQ ?_; intro q9)  | (k_here; (with_reducible show wpAny _ _ (subscriptTail _ _ (Value.ref _) (Value.int _ _)) _ _ _); k_dflt (refine item_led (by k_asm) (by k_mem) (by tb_start) (by tb_start) (by tb_start) (by tb_start) (fun t' => ?_)); (try k_fold)) | (k_here; (with_reducible show UnrEnd _ _ _ _ _ _ _); (refine Hold.mk ?_)) | (k_here; (with_reducible show wpAny _ _ (setItem (Value.ref _) (Value.int _ _) (Value.int _ _)) _ _ _); k_dflt (refine' ksa_set ?k1 ?k2 ?k3 ?k4 ?k5 ?k6 ?k7 ?_; (case k1 | k2 => k_asm); (case k3 => k_upd); (case k4 => tb_start); (case k5 | k6 | k7 => first | tb_start | exact of_decide_eq_true rfl); k_whole); intro h' F' N' hi' hl' hs'; (try k_sweep)) | (k_here; (with_reducible show wpAny _ _ (subscriptTail _ _ (Value.ref _) (Value.int (Builtin.bitAnd _ _) _)) _ _ _); k_dflt (refine sub_tab (by k_asm) (by k_asm) (by first | exact tab59 _ | exact tab65 _ | exact tab68 _ | exact tab71 _ | exact tab74 _ | exact tab89 _ | exact tab92 _ | exact tab95 _ | exact tab98 _) (fun t' => ?_)); (try k_fold)) | (k_here; (with_reducible show wpAny _ _ (subscriptTail _ _ (Value.ref _) (Value.int _ _)) _ _ _); k_dflt (refine sub_row (by k_asm) (by tb_start) (by first | tb_start | exact of_decide_eq_true rfl) (by first | tb_start | exact of_decide_eq_true rfl) (fun t' => ?_)); (try k_fold)) | (k_here; (with_reducible show wpAny _ _ (subscriptTail _ _ (Value.ref _) (Value.int _ _)) _ _ _); k_dflt (refine sub_ke (by k_asm) (by tb_start) (by tb_start) (by first | tb_start | exact of_decide_eq_true rfl) (by first | tb_start | exact of_decide_eq_true rfl) (by first | tb_start | exact of_decide_eq_true rfl) (fun a' hra' => ?_)); (try k_fold)) | (k_end; wrow_close) | walk1 | (dsimp only; walk1) | (leave1; walk_say "STEP leave1"; try dsimp only) | fail "no step"))
        unfold Hold
        rename IntsAre (List.set _ _ _) _ => hset
        refine unr_end (by k_asm) (by k_asm) ⟨_, _, _, rfl, hset, by simp [hlb], ?_, rfl, rfl, rfl, rfl, rfl, rfl, rfl, trivial⟩ (by k_mem) (SubL.mem (by k_subL)) (off_same hoI2 rfl)
        rw [List.range_succ, List.foldl_append, ← hbs, show (0 + (j : Int) * 1).toNat = j by omega, show (1 + (i : Int) * 1).toNat = i + 1 by omega]
        simp only [List.foldl_cons, List.foldl_nil, encT]
        have m1 : ((0 + (j : Int) * 1 + 1).fmod 4).toNat = (j + 1) % 4 := mod4 j 1
        have m2 : ((0 + (j : Int) * 1 + 2).fmod 4).toNat = (j + 2) % 4 := mod4 j 2
        have m3 : ((0 + (j : Int) * 1 + 3).fmod 4).toNat = (j + 3) % 4 := mod4 j 3
        rw [m1, m2, m3]
        rfl
      · rintro m nw h3 tk3 ⟨usb, nb, bs, rfl, hib, hlb, hbs, hk2⟩ F5 N5
        first | replace F5 := hk2.fr F5 | replace F5 := hk2.frI F5
        clear hk2
        clear hr hr2
        (repeat' (first | (k_unfold; (try dsimp only)) | ((with_reducible show wpAny _ _ (exec _ _) _ _ _); (fail_if_success (fail_if_success k_fold)); refine foldQ ?_; intro q9) | ((with_reducible show wpAny _ _ (eval (Expr.Call _ _ _ _) _) _ _ _); (fail_if_success (fail_if_success k_fold)); refine foldQ ?_; intro q9) | ((with_reducible show wpAny _ _ (eval (Expr.Subscript _ _ _) _) _ _ _); (fail_if_success (fail_if_success k_fold)); refine foldQ ?_; intro q9)  | (k_here; (with_reducible show UnrEnd _ _ _ _ _ _ _); (refine Hold.mk ?_)) | (k_end; wrow_close) | walk1 | (dsimp only; walk1) | (leave1; walk_say "STEP leave1"; try dsimp only) | fail "no step"))
        unfold Hold
        rename_i D9 c9 h8 F8 N8 l9 l8 h9 F9 N9
        refine unr_end (by k_asm) (by k_asm) ⟨la, D9, usb, usb, _, _, bs, _, _, _, _, rfl, by omega, hlo, hib, hlb, ?_, rfl, rfl, rfl, rfl, rfl, rfl, trivial⟩ (by k_mem) (SubL.mem (by k_subL)) (fun q hq => ?_)
        · show IntsAre usb (encRound w.params (encRounds w.params ks ((List.range 4).map (encIn ks ns)) i) (ks.getD (i + 1) []))
          rw [hT]
          have e := fold4 (fun q => Builtin.bitXor (encT w.params tl q) ((ks.getD (i + 1) []).getD q 0)) hla
          rw [← hbs] at e
          rw [e] at hib
          exact hib
        · rcases List.mem_cons.mp hq with rfl | hq
          · show (@Ne Nat _ I)
            omega
          · rcases List.mem_cons.mp hq with rfl | hq
            · exact hI2
            · exact hoI q (List.mem_cons_of_mem _ (List.mem_cons_of_mem _ hq))
    · rintro m nw h3 tk3 ⟨la, lt, usa, ust, na, nt, as, ta, tb, tc, tr, rfl, hne, hlo, hia, hla, hit, hk⟩ F5 N5
      have hR := encRounds_len w.params ks ((List.range 4).map (encIn ks ns)) (by simp) (ks.length - 2)
      generalize hT : encRounds w.params ks ((List.range 4).map (encIn ks ns)) (ks.length - 2) = tl at hit hR
      first | replace F5 := hk.fr F5 | replace F5 := hk.frI F5
      clear hk hr
      (repeat' (first | (k_unfold; (try dsimp only)) | ((with_reducible show wpAny _ _ (exec _ _) _ _ _); (fail_if_success (fail_if_success k_fold)); refine foldQ ?_; intro q9) | ((with_reducible show wpAny _ _ (eval (Expr.Call _ _ _ _) _) _ _ _); (fail_if_success (fail_if_success k_fold)); refine foldQ ?_; intro q9) | ((with_reducible show wpAny _ _ (eval (Expr.Subscript _ _ _) _) _ _ _); (fail_if_success (fail_if_success k_fold)); refine foldQ ?_; intro q9)  | ((with_reducible show wpAny _ _ (pyIter (Value.ref _)) (fun it s₂ => LoopAtV _ _ _ _ _ _ _ _ _ it s₂) _ _); (refine Hold.mk ?_)) | (k_here; (with_reducible show wpAny _ _ (exec (Stmt.For (Expr.Name _ _) (Expr.Call _ _ _ _) _ [] _) _) _ _ _); (rename Fr _ _ _ _ => lF'); (with_unfolding_all refine' For_invVF lF' ?k1 ?k2 ?_; (case k1 | k2 => exact rfl); k_whole)) | (k_end; wrow_close) | walk1 | (dsimp only; walk1) | (leave1; walk_say "STEP leave1"; try dsimp only) | fail "no step"))
      unfold Hold
      rename Fr _ _ _ _ => F6
      rename News _ _ _ _ => N6
      rename IsRange _ _ _ _ _ _ _ _ => hr3
      refine krs_go (n := 4) (fun j m nw => EncJ3 w.params ks L1 lt oc1 oc2 ta tb tc tr ust nt tl j m nw)
        rfl hr3 (small_one (by decide) (by decide) (by decide) (by decide)) (rangeSize_nat _ _) F6 N6
        ⟨_, _, _, [], rfl, by omega, by omega, .nil, rfl, rfl, rfl, rfl, rfl, rfl, rfl, trivial⟩ (SubL.mem (by k_subL)) ?_ ?_
      · rintro j m nw I2 t2 h2 tk2 hj ⟨lr, usr, nr, rs, rfl, hlr, hlt, hir, hrs, hk2⟩ hoI2 F4 N4
        first | replace F4 := hk2.fr F4 | replace F4 := hk2.frI F4
        clear hk2
        have hrl : LenLe rs 16 := by unfold LenLe; rw [hrs, out_len (fun _ => rfl)]; omega
        have c1 : (0 : Int) ≤ (ks.length : Int) - 1 := by omega
        have c2 : (ks.length : Int) - 1 < (ks.length : Int) := by omega
        have c3 : (ks.length : Int) - 1 < 2 ^ 63 := by omega
        have d1 : (0 : Int) ≤ 0 + (j : Int) * 1 := by omega
        have d2 : 0 + (j : Int) * 1 < 4 := by omega
        have d3 : 0 + (j : Int) * 1 < (tl.length : Int) := by omega
        have d5 : 0 + (j : Int) * 1 < 2 ^ 63 := by omega
        have e1 := mod4_lo (0 + (j : Int) * 1 + 1)
        have e2 := mod4_lo (0 + (j : Int) * 1 + 2)
        have e3 := mod4_lo (0 + (j : Int) * 1 + 3)
        have f1 : (0 + (j : Int) * 1 + 1).fmod 4 < (tl.length : Int) := by rw [hR]; exact mod4_hi _
        have f2 : (0 + (j : Int) * 1 + 2).fmod 4 < (tl.length : Int) := by rw [hR]; exact mod4_hi _
        have f3 : (0 + (j : Int) * 1 + 3).fmod 4 < (tl.length : Int) := by rw [hR]; exact mod4_hi _
        have g1 : (0 + (j : Int) * 1 + 1).fmod 4 < 2 ^ 63 := by have := mod4_hi (0 + (j : Int) * 1 + 1); omega
        have g2 : (0 + (j : Int) * 1 + 2).fmod 4 < 2 ^ 63 := by have := mod4_hi (0 + (j : Int) * 1 + 2); omega
        have g3 : (0 + (j : Int) * 1 + 3).fmod 4 < 2 ^ 63 := by have := mod4_hi (0 + (j : Int) * 1 + 3); omega
        have hJ1 : (@Ne Nat lr I2) := hoI2 _ List.mem_cons_self
        clear hr3
        k_unmd
        k_fold
        (repeat' (first | (k_unfold; (try dsimp only)) | ((with_reducible show wpAny _ _ (exec _ _) _ _ _); (fail_if_success (fail_if_success k_fold)); refine foldQ ?_; intro q9) | ((with_reducible show wpAny _ _ (eval (Expr.Call _ _ _ _) _) _ _ _); (fail_if_success (fail_if_success k_fold)); refine foldQ ?_; intro q9) | ((with_reducible show wpAny _ _ (eval (Expr.Subscript _ _ _) _) _ _ _); (fail_if_success (fail_if_success k_fold)); refine foldQ ?_; intro q9)  | (k_here; (with_reducible show wpAny _ _ (call (Value.builtin "list.append") [Value.ref _, Value.int _ _]) _ _ _); k_dflt (refine' append_led ?k1 ?k2 ?k3 ?k4 ?k5 ?k6 ?_; (case k1 | k2 => k_asm); (case k6 => k_upd); (case k3 | k4 => tb_start); (case k5 => decide); k_whole); intro h' F' N' hi' hl'; (try k_sweep); (try k_fold)) | (k_here; (with_reducible show wpAny _ _ (subscriptTail _ _ (Value.ref _) (Value.int _ _)) _ _ _); k_dflt (refine item_led (by k_asm) (by k_mem) (by tb_start) (by tb_start) (by tb_start) (by tb_start) (fun t' => ?_)); (try k_fold)) | (k_here; (with_reducible show UnrEnd _ _ _ _ _ _ _); (refine Hold.mk ?_)) | (k_here; (with_reducible show wpAny _ _ (subscriptTail _ _ (Value.ref _) (Value.int (Builtin.bitAnd _ _) _)) _ _ _); k_dflt (refine sub_tab (by k_asm) (by k_asm) (by first | exact tab59 _ | exact tab65 _ | exact tab68 _ | exact tab71 _ | exact tab74 _ | exact tab89 _ | exact tab92 _ | exact tab95 _ | exact tab98 _) (fun t' => ?_)); (try k_fold)) | (k_here; (with_reducible show wpAny _ _ (subscriptTail _ _ (Value.ref _) (Value.int _ _)) _ _ _); k_dflt (refine sub_row (by k_asm) (by tb_start) (by first | tb_start | exact of_decide_eq_true rfl) (by first | tb_start | exact of_decide_eq_true rfl) (fun t' => ?_)); (try k_fold)) | (k_here; (with_reducible show wpAny _ _ (subscriptTail _ _ (Value.ref _) (Value.int _ _)) _ _ _); k_dflt (refine sub_ke (by k_asm) (by tb_start) (by tb_start) (by first | tb_start | exact of_decide_eq_true rfl) (by first | tb_start | exact of_decide_eq_true rfl) (by first | tb_start | exact of_decide_eq_true rfl) (fun a' hra' => ?_)); (try k_fold)) | (k_end; wrow_close) | walk1 | (dsimp only; walk1) | (leave1; walk_say "STEP leave1"; try dsimp only) | fail "no step"))
        unfold Hold
        rename IntsAre (_ ++ _) _ => hset
        refine unr_end (by k_asm) (by k_asm) ⟨lr, _, _, _, rfl, hlr, hlt, hset, ?_, rfl, rfl, rfl, rfl, rfl, rfl, trivial⟩ (by k_mem) (SubL.mem (by k_subL)) (off_same hoI2 rfl)
        have m1 : ((0 + (j : Int) * 1 + 1).fmod 4).toNat = (j + 1) % 4 := mod4 j 1
        have m2 : ((0 + (j : Int) * 1 + 2).fmod 4).toNat = (j + 2) % 4 := mod4 j 2
        have m3 : ((0 + (j : Int) * 1 + 3).fmod 4).toNat = (j + 3) % 4 := mod4 j 3
        rw [List.range_succ, List.flatMap_append, ← hrs, m1, m2, m3, show (0 + (j : Int) * 1).toNat = j by omega, show ((ks.length : Int) - 1).toNat = ks.length - 1 by omega]
        simp only [List.append_assoc, List.flatMap_cons, List.flatMap_nil, List.append_nil, List.cons_append, List.nil_append, encOut]
        rfl
      · rintro m nw h3 tk3 ⟨lr, usr, nr, rs, rfl, hlr, hlt, hir, hrs, hk2⟩ F7 N7
        first | replace F7 := hk2.fr F7 | replace F7 := hk2.frI F7
        clear hk2 hr3
        (repeat' (first | (k_unfold; (try dsimp only)) | ((with_reducible show wpAny _ _ (exec _ _) _ _ _); (fail_if_success (fail_if_success k_fold)); refine foldQ ?_; intro q9) | ((with_reducible show wpAny _ _ (eval (Expr.Call _ _ _ _) _) _ _ _); (fail_if_success (fail_if_success k_fold)); refine foldQ ?_; intro q9) | ((with_reducible show wpAny _ _ (eval (Expr.Subscript _ _ _) _) _ _ _); (fail_if_success (fail_if_success k_fold)); refine foldQ ?_; intro q9)  | (k_end; wrow_close) | walk1 | (dsimp only; walk1) | (leave1; walk_say "STEP leave1"; try dsimp only) | fail "no step"))
        all_goals ((try k_unmd); (try k_unfold); (try dsimp only))
        refine Ends.mk2 (by k_asm) (by k_asm) ⟨lr, usr, nr, rfl, rfl, ?_⟩ (SubL.mem (by k_subL))
        unfold enc
        rw [hT, ← hrs]
        exact hir
end
section
section
variable {prog : Program} {w : World} {A : Around} {E : Value → Shared → Prop} {s : Shared} {h₀ : Heap} {L : Addr} {m : Str → Option Value} {env : Env}
open LCg
/-- the source of a comprehension, of whatever kind -/
def SrcG (prog : Program) (w : World) (A : Around) (E : Value → Shared → Prop) (h₀ : Heap) (L : Addr) (m : Str → Option Value) (env : Env) (elt : Expr) (x : Str) (scope : Scope) (cl : List (Str × Addr)) (Fin : Shared → List Value → List (Addr × Obj) → Prop) (xv : Value) (s₁ : Shared) : Prop :=
  wpAny (model prog w) A (pyIter xv) (fun it s₂ => ∃ I fp n P St S news, it = .ref I ∧ Walks prog w A I fp [I] n P St ∧ n ≤ sizeLine ∧ (∀ i h, St i h → ∃ o, h.get? I = some o) ∧
    (∀ i h h' o nw, St i h → h.get? I = some o → h'.get? I = some o → (∀ b o, h₀.get? b = some o → h'.get? b = some o) → News h₀ L h' nw → S nw → St i h') ∧ St 0 s₂.heap ∧ (∀ b ∈ fp, b < s₂.heap.objs.size) ∧
    Fr h₀ L s₂.heap m ∧ News h₀ L s₂.heap news ∧ L ≠ I ∧ h₀.get? I = none ∧ (∀ p ∈ news, p.1 ≠ I) ∧ S news ∧ CompRest prog w A h₀ L m env elt x scope cl s₂ S P (Fin s₂) n 0 [] news) E s₁
theorem SrcG.range {elt : Expr} {x : Str} {scope : Scope} {cl : List (Str × Addr)} {Fin : Shared → List Value → List (Addr × Obj) → Prop} {r : Addr} {a b c : Int} {t u v : Tok} {n : Nat} {news all : List (Addr × Obj)} {s₁ : Shared}
    (hh : A.handled = none) (F : Fr h₀ L s₁.heap m) (N : News h₀ L s₁.heap all) (hr : IsRange s₁.heap r a b c t u v) (hsm : Builtin.Range.small a b c = true) (hn : Builtin.Range.rangeSize a b c = ((n : Nat) : Int)) (hsz : n ≤ sizeLine) (sub : ∀ p ∈ news, p ∈ all)
    (h : ∀ g, CompRest prog w A h₀ L m env elt x scope cl { s₁ with heap := g } (fun _ => True) (fun i v => ∃ t, v = .int (a + (i : Int) * c) t) (Fin { s₁ with heap := g }) n 0 [] news) :
    SrcG prog w A E h₀ L m env elt x scope cl Fin (.ref r) s₁ := by
  have N' : News h₀ L s₁.heap news := fun p hp => N p (sub p hp)
  refine wpAny_pyIter_range hr hsm ⟨s₁.heap.objs.size, [s₁.heap.objs.size], n, _, _, fun _ => True, news, rfl, Walks.range hh _ a c n, hsz, fun i h st => ⟨_, st⟩, ?_, ?_, fun b hb => ?_, F.keeps fun _ _ e => Heap.get?_push_of_some _ e, N'.grown fun _ _ e => Heap.get?_push_of_some _ e, Nat.ne_of_lt F.ns.lt, next_is_new F,
    fun p hp => Nat.ne_of_lt (Heap.lt_size (N' p hp).1), trivial, h _⟩
  · intro i h h' o nw st e e' _ _ _
    have st' : h.get? s₁.heap.objs.size = some _ := st
    show h'.get? s₁.heap.objs.size = some _
    rw [e', ← e]; exact st'
  · show IsRangeIter _ _ _ _ _
    rw [hn]; simpa using Heap.get?_push_size _ rfl
  · rw [List.mem_singleton.mp hb]
    show s₁.heap.objs.size < (s₁.heap.push _).objs.size
    rw [Heap.size_push]; exact Nat.lt_succ_self _
theorem ListComp_G {elt iter : Expr} {x : Str} {px : Pos} {scope : Scope} {cl : List (Str × Addr)} {pos : Pos} {Q : Value → Shared → Prop} (_F₀ : Fr h₀ L s.heap m)
    (hclos : closureFor scope env = pure cl) (hcell : ∀ y ∈ scope.names, y.2 ≠ .cell) (hkind : scope.kind = .function)
    (hnames : ∀ y ∈ scope.names, y.2 = .local → scope.names.lookup y.1 = some .local) (hx : scope.names.lookup x = some .local)
    (h : wpAny (model prog w) A (eval iter env) (SrcG prog w A E h₀ L m env elt x scope cl (fun s₂ => FinE h₀ L m s₂ Q)) E s)
    (hs : ∀ x, foldedSetIterable iter env x = pure x := by intro _; rfl) :
    wpAny (model prog w) A (eval (.ListComp elt [⟨.Name x px, iter, [], 0⟩] scope pos) env) Q E s := by
  rw [eval_ListComp]
  refine wpAny_comprehension_free (use := none) rfl hs hclos hkind hnames (wpAny_mono h (fun xv s₁ h₁ => ?_) fun _ _ e => e)
  refine wpAny_mono h₁ (fun it s₂ h₂ => ?_) fun _ _ e => e
  obtain ⟨I, fp, n, P, St, S, news, rfl, W, hsz, hIo, hSt, hst, hfp, F, N, hIL, hI₀, off, hS, R⟩ := h₂
  refine block_U W hsz hIo hSt hcell hkind hx hst hfp F N hIL hI₀ off hS R ?_
  intro D C h tk m' ys news' F' N' o1 hn hC₀ hD₀ hCL hDL hCD offC fin
  refine ⟨m', hn, fun h'' hs'' => fin D h'' tk (F'.change hs'' hCL hC₀) (fun p hp => ?_) o1⟩
  refine ⟨hs''.extBut _ _ ?_ (N' p hp).1, (N' p hp).2⟩
  rcases List.mem_cons.mp hp with rfl | hp
  · exact Ne.symm hCD
  · exact offC p hp
theorem Assign_ListComp_G {elt iter : Expr} {x y : Str} {px py : Pos} {scope : Scope} {cl : List (Str × Addr)} {pos spos : Pos} {Q : Flow → Shared → Prop} (_F₀ : Fr h₀ L s.heap m) (hLe : env.locals = L)
    (hsw : swapsWith (.ListComp elt [⟨.Name x px, iter, [], 0⟩] scope pos) (some (.Name y py)) spos.line env = pure true)
    (hclos : closureFor scope env = pure cl) (hcell : ∀ z ∈ scope.names, z.2 ≠ .cell) (hkind : scope.kind = .function)
    (hnames : ∀ z ∈ scope.names, z.2 = .local → scope.names.lookup z.1 = some .local) (hx : scope.names.lookup x = some .local)
    (hy : env.kindOf y = some .local) (hp : (env.scope.kind == .class || (env.scope.kind == .module && env.locals != env.globals)) = false)
    (h : wpAny (model prog w) A (eval iter env) (SrcG prog w A E h₀ L m env elt x scope cl (fun s₂ => FinA h₀ L m s₂ y Q)) E s)
    (hs : ∀ x, foldedSetIterable iter env x = pure x := by intro _; rfl) :
    wpAny (model prog w) A (exec (.Assign [.Name y py] (.ListComp elt [⟨.Name x px, iter, [], 0⟩] scope pos) spos) env) Q E s := by
  subst hLe
  rw [exec_Assign_Name_used _ _ _ _ hsw]
  refine wpAny_bind (wpAny_standAt (wpAny_bind ?_))
  show wpAny _ A (do let _ ← comprehension (.ListComp elt [⟨.Name x px, iter, [], 0⟩] scope pos) scope env _ (newList []) false (eval iter env) (some (assign (.Name y py) env))) _ _ s
  refine wpAny_bind (wpAny_mono (wpAny_comprehension_free (use := some (assign (.Name y py) env)) (Q := fun _ s' => Q .next s') rfl hs hclos hkind hnames
    (wpAny_mono h (fun xv s₁ h₁ => ?_) fun _ _ e => e)) (fun _ s' hq => wpAny_pure (wpAny_pure hq)) fun _ _ e => e)
  refine wpAny_mono h₁ (fun it s₂ h₂ => ?_) fun _ _ e => e
  obtain ⟨I, fp, n, P, St, S, news, rfl, W, hsz, hIo, hSt, hst, hfp, F, N, hIL, hI₀, off, hS, R⟩ := h₂
  refine block_U W hsz hIo hSt hcell hkind hx hst hfp F N hIL hI₀ off hS R ?_
  intro D C h' tk m' ys news' F' N' o1 hn hC₀ hD₀ hCL hDL hCD offC fin
  show wpAny _ A (assign (.Name y py) env (.ref D)) _ _ _
  refine wpAny_assign_Name (wpAny_storeName_local hy F'.ns (fun h₂ hn₂ hs₂ => ?_) hp)
  have hL₀ : h₀.get? env.locals = none := Heap.get?_none_of_le F'.above
  have F₂ : Fr h₀ env.locals h₂ (fun z => if z = y then some (.ref D) else m z) := ⟨hn₂, fun b o e => hs₂.extBut b o (fun q => by rw [q, hL₀] at e; cases e) (F'.keep b o e), F'.above⟩
  refine ⟨m', hn.sameBut hs₂ hCL, fun h'' hs'' => fin D h'' _ (F₂.change hs'' hCL hC₀) (fun p hp => ?_) o1⟩
  have z : h₂.get? p.1 = some p.2 := hs₂.extBut _ _ (N' p hp).2.1 (N' p hp).1
  refine ⟨hs''.extBut _ _ ?_ z, (N' p hp).2⟩
  rcases List.mem_cons.mp hp with rfl | hp
  · exact Ne.symm hCD
  · exact offC p hp
end

/-! int.from_bytes(b, 'big', signed=True) -/
def sgn4 (ks : List Int) : Int := if 128 ≤ ks.getD 0 0 then KFB.value ks - 256 ^ ks.length else KFB.value ks
section
variable {prog : Program} {w : World} {M : Model} {A : Around} {E : Value → Shared → Prop} {s : Shared} {env : Env} {h₀ : Heap} {L : Addr} {m : Str → Option Value} {news : List (Addr × Obj)}
def kwSg (b : Bool) : List (Str × Value) := [(Str.ofString "signed", .bool b)]
theorem callWith_boundkw {pos : Pos} {u : Addr} {e : Expr} {rest : List Expr} {kws : List Keyword} {Q : Value → Shared → Prop}
    (h : wpAny M A (spliced (backTo pos (starEach (e :: rest) env))) (fun vs s₁ => wpAny M A (evalAll ((backToKw pos (keywordEach kws env)).map (·.2)))
      (fun kvs s₂ => KFB.StandsAt u s₂.heap ∧ wpAny M A (call (.ref u) vs (((backToKw pos (keywordEach kws env)).filterMap (·.1)).zip kvs)) Q E s₂) E s₁) E s)
    (he : backTo pos (starEach (e :: rest) env) = (false, eval e env) :: backTo pos (starEach rest env) := by rfl)
    (hplain : (backTo pos (starEach (e :: rest) env)).any (·.1) = false := by rfl)
    (hall : (backToKw pos (keywordEach kws env)).all (·.1.isSome) = true := by rfl)
    (hkw : (backToKw pos (keywordEach kws env)).any (·.1.isNone) = false := by rfl) :
    wpAny M A (callWith pos (.ref u) [] (backTo pos (starEach (e :: rest) env)) (backToKw pos (keywordEach kws env))) Q E s := by
  have key : wpAny M A (evalArgs (.ref u) true (backTo pos (starEach (e :: rest) env)) (backToKw pos (keywordEach kws env))) (fun a s₁ => KFB.StandsAt u s₁.heap ∧ wpAny M A (call (.ref u) a.pos a.kw) Q E s₁) E s := by
    rw [he] at h ⊢
    exact evalArgs_kwB hall h
  unfold callWith
  refine wpAny_bind (wpAny_holding (wpAny_mono key (fun x s₁ h₁ => wpAny_bind (wpAny_standAt ?_)) fun _ _ x => x))
  obtain ⟨ho, hcall⟩ := h₁
  simp only [hplain, hkw, Bool.or_false]
  refine wpAny_bind (m := keeperOf (.ref u)) ?_
  unfold keeperOf
  refine wpAny_bind (wpAny_load ho ?_)
  simp only [KFB.bound, show (Value.type "builtin_function_or_method" != Value.type "method") = true by decide, show (Value.type "builtin_function_or_method" == Value.type "builtin_function_or_method" || Value.type "builtin_function_or_method" == Value.type "method-wrapper") = true by decide, if_true]
  refine wpAny_pure ?_
  exact wpAny_bind (wpAny_mono hcall (fun r s₂ hr => wpAny_bind (wpAny_holding (wpAny_point (wpAny_pure hr)))) fun _ _ x => x)
theorem grownI {z : Int} {Q : Value → Shared → Prop} (hz : -(2 ^ 64) < z ∧ z < 2 ^ 64) (h : Q (.int z s.toks) { s with toks := s.toks + 1 }) : wpAny M A (mkIntGrown z) Q E s := by
  unfold mkIntGrown
  have hl : ¬ (z.natAbs.log2 ≥ bitsLine) := by
    have hb : bitsLine = 134217728 := by first | rfl | decide
    by_cases hz0 : z.natAbs = 0
    · rw [hz0, hb]; decide
    · have h1 := (Nat.log2_lt (k := 64) hz0).mpr (by omega)
      omega
  rw [if_neg hl]
  exact wpAny_mkInt h
theorem head_big : ∀ l : List UInt8, l.head?.any (· ≥ 128) = decide (128 ≤ (l.map fun c => ((c.toNat : Nat) : Int)).getD 0 0)
  | [] => rfl
  | c :: r => by
    have e : (c ≥ 128) ↔ (128 : Int) ≤ (c.toNat : Int) := by
      rw [ge_iff_le, UInt8.le_iff_toNat_le]
      show 128 ≤ c.toNat ↔ _
      omega
    simp only [List.head?_cons, Option.any_some, List.map_cons, List.getD_cons_zero]
    exact decide_eq_decide.mpr e
theorem tree_signed {b : Array UInt8} {t u : Tok} {P : Fin → Shared → Prop} (hl : b.size ≤ 4) (h : P (.done (.ret (.int (sgn4 (KBw.bInts b)) s.toks))) { s with toks := s.toks + 1 }) :
    wpAny M A (Builtin.«int.from_bytes» ⟨[.type "int", .bytes b t, .str (PySem.Str.ofString "big") u], kwSg true⟩) P E s := by
  have hv : ((b.toList.foldl (fun (acc : Nat) (b : UInt8) => acc * 256 + b.toNat) 0 : Nat) : Int) = KFB.value (KBw.bInts b) := KFB.fold_cast b.toList 0
  have h1 := KFB.fold_lt b.toList 0
  rw [Nat.zero_add, Nat.one_mul, Array.length_toList] at h1
  have h2 : 256 ^ b.size ≤ 256 ^ 4 := Nat.pow_le_pow_right (by decide) hl
  unfold Builtin.«int.from_bytes»
  refine wpAny_bind (wpAny_of_eq (a := true) KFB.type_int ?_)
  refine KFB.if_not rfl ?_
  refine wpAny_bind (wpAny_of_eq (a := true) F.conv_sub_int ?_)
  refine KFB.if_not rfl ?_
  refine wpAny_bind (wpAny_of_eq (a := [some (.bytes b t), some (.str (PySem.Str.ofString "big") u), some (.bool true)]) (by kernel_rfl) ?_)
  refine wpAny_bind (wpAny_of_eq (a := PySem.Str.ofString "big") (by kernel_rfl) ?_)
  refine wpAny_bind (wpAny_truthy_bool ?_)
  refine wpAny_bind (wpAny_of_eq (a := false) (by kernel_rfl) ?_)
  refine wpAny_bind (wpAny_of_eq (a := b) rfl ?_)
  show wpAny _ _ (mkIntGrown (if (true && b.toList.head?.any (· ≥ 128)) = true then b.toList.foldl (fun (acc : Int) (b : UInt8) => acc * 256 + (b.toNat : Int)) ((0 : Nat) : Int) - 256 ^ b.toList.length else b.toList.foldl (fun (acc : Int) (b : UInt8) => acc * 256 + (b.toNat : Int)) ((0 : Nat) : Int)) >>= fun v => _) _ _ _
  rw [KFB.foldI_eq, hv, Bool.true_and, head_big]
  have e : (if decide (128 ≤ (b.toList.map fun c => ((c.toNat : Nat) : Int)).getD 0 0) = true then KFB.value (KBw.bInts b) - 256 ^ b.toList.length else KFB.value (KBw.bInts b)) = sgn4 (KBw.bInts b) := by
    unfold sgn4
    have e2 : b.toList.map (fun c => ((c.toNat : Nat) : Int)) = KBw.bInts b := rfl
    have e3 : b.toList.length = (KBw.bInts b).length := by rw [← e2, List.length_map]
    rw [e2, e3]
    by_cases h3 : 128 ≤ (KBw.bInts b).getD 0 0
    · rw [if_pos (by simpa using h3), if_pos h3]
    · rw [if_neg (by simpa using h3), if_neg h3]
  rw [e]
  have hb0 : (0 : Int) ≤ KFB.value (KBw.bInts b) := by rw [← hv]; omega
  have hb1 : KFB.value (KBw.bInts b) < 2 ^ 32 := by rw [← hv]; omega
  have hlen : (KBw.bInts b).length ≤ 4 := by rw [KBw.ints_length]; exact hl
  have hp : (256 : Int) ^ (KBw.bInts b).length ≤ 2 ^ 32 := by
    have : (256 : Nat) ^ (KBw.bInts b).length ≤ 256 ^ 4 := Nat.pow_le_pow_right (by decide) hlen
    have h4 : ((256 ^ (KBw.bInts b).length : Nat) : Int) ≤ ((256 ^ 4 : Nat) : Int) := Int.ofNat_le.mpr this
    rw [Int.natCast_pow] at h4
    exact h4
  refine wpAny_bind (grownI ?_ ?_)
  · unfold sgn4
    have hp0 : (0 : Int) ≤ 256 ^ (KBw.bInts b).length := Int.le_of_lt (Int.pow_pos (by decide))
    split <;> omega
  · refine KFB.if_so (by decide +kernel) ?_
    exact wpAny_bind (wpAny_pure (wpAny_pure h))
theorem check_sg {b : Array UInt8} {t u : Tok} {o : PySem.Str} : checkBoundCall "int.from_bytes" ⟨[.type "int", .bytes b t, .str o u], kwSg true⟩ = pure () := by first | kernel_rfl | rfl
theorem call_signed {x : Addr} {b : Array UInt8} {t u : Tok} {ks : List Int} {Q : Value → Shared → Prop} (N : News h₀ L s.heap news) (hm : (x, KFB.bound) ∈ news) (hb : KBw.bInts b = ks) (hl : ks.length ≤ 4)
    (h : ∀ t' k, Q (.int (sgn4 ks) t') { s with toks := k }) : wpAny (model prog w) A (call (.ref x) [.bytes b t, .str (PySem.Str.ofString "big") u] (kwSg true)) Q E s := by
  subst hb
  have ho := KFB.at_of N hm
  refine wpAny_call (codeAny_of_tree ?_)
  show wpAny _ A.in1 (callAny (.ref x) ⟨[.bytes b t, .str (PySem.Str.ofString "big") u], kwSg true⟩) _ _ s
  simp only [callAny]
  refine wpAny_bind (wpAny_load ho ?_)
  simp only [KFB.bound, show (Value.type "builtin_function_or_method" == Value.type "method" || Value.type "builtin_function_or_method" == Value.type "builtin_function_or_method" || Value.type "builtin_function_or_method" == Value.type "method-wrapper") = true by decide, if_true]
  refine KFB.if_so (by decide) ?_
  refine wpAny_bind (wpAny_of_eq (a := ()) check_sg ?_)
  refine wpAny_bind (wpAny_pure (wpAny_pure ?_))
  exact ⟨KFB.quiet_fb, codeAny_builtin KFB.entry_fb (tree_signed (by rw [← KBw.ints_length]; exact hl) (h _ _))⟩
end
end
section
def subS (b : Nat) : Stmt → List Stmt
  | .For _ _ x y _ => if b = 0 then x else y
  | .While _ x y _ => if b = 0 then x else y
  | .If _ x y _ => if b = 0 then x else y
  | _ => []
/-- a statement of a def's body, by its place -/
def pickS : List Nat → List Stmt → Option Stmt
  | [i], l => l[i]?
  | i :: b :: r, l => match l[i]? with
    | some st => pickS r (subS b st)
    | none => none
  | [], _ => none
theorem fn_go {K : Frag} {f : Addr} {oc oc' cdv cdv' ct ct' dV dV' kV kV' doc doc' pm pm' : Value} {od od' an an' : Option Addr} {osl osl' : Array (Option Value)} {name name' qual qual' : Str} {params params' : Arguments} {body body' : List Stmt} {scope scope' : Scope} {G : Prop}
    (h1 : K.lookup f = some ⟨oc, od, .func (fnOf name qual params body scope dV kV doc pm an cdv ct), osl⟩) (h2 : K.lookup f = some ⟨oc', od', .func (fnOf name' qual' params' body' scope' dV' kV' doc' pm' an' cdv' ct'), osl'⟩)
    (k : qual = qual' → body = body' → scope = scope' → cdv = cdv' → G) : G := by
  have e := Option.some.inj (h1.symm.trans h2)
  injection e with _ _ e2 _
  injection e2 with e3
  injection e3 with n q pr b sc gl cl df kd dc pm an code ct bi
  injection b with b
  exact k q b sc code
theorem pick_go {a : List Nat} {body : List Stmt} {st st' : Stmt} {G : Prop} (h1 : pickS a body = some st) (h2 : pickS a body = some st') (k : st = st' → G) : G := k (Option.some.inj (h1.symm.trans h2))
end
section
/-- rows of four ints each, at the addresses `as` -/
def Mat : List (Addr × Obj) → List Addr → List (List Int) → Prop
  | [], [], [] => True
  | p :: tl, a :: as, r :: M => (∃ us n, p = (a, listOf us.toArray n) ∧ IntsAre us r ∧ r.length = 4) ∧ a ∉ as ∧ Mat tl as M
  | _, _, _ => False
theorem Mat.addrs : ∀ {tl : List (Addr × Obj)} {as : List Addr} {M : List (List Int)}, Mat tl as M → tl.map (·.1) = as
  | [], [], [], _ => rfl
  | _ :: _, _ :: _, _ :: _, ⟨⟨_, _, e, _⟩, _, h⟩ => by rw [List.map_cons, h.addrs, e]
theorem Mat.len : ∀ {tl : List (Addr × Obj)} {as : List Addr} {M : List (List Int)}, Mat tl as M → as.length = M.length
  | [], [], [], _ => rfl
  | _ :: _, _ :: _, _ :: _, ⟨_, _, h⟩ => congrArg Nat.succ h.len
theorem Mat.off {tl : List (Addr × Obj)} {as : List Addr} {M : List (List Int)} {d : Addr} (h : Mat tl as M) (hd : d ∉ as) : ∀ p ∈ tl, p.1 ≠ d := fun p hp e => hd (by rw [← h.addrs, ← e]; exact List.mem_map_of_mem hp)
theorem Mat.notin {tl : List (Addr × Obj)} {as : List Addr} {M : List (List Int)} {d : Addr} (h : Mat tl as M) (hd : ∀ p ∈ tl, p.1 ≠ d) : d ∉ as := fun hm => by
  rw [← h.addrs] at hm
  obtain ⟨p, hp, e⟩ := List.mem_map.mp hm
  exact hd p hp e
theorem off_ne {as : List Addr} {d a : Addr} (h : d ∉ as) (ha : a ∈ as) : d ≠ a := fun e => h (e ▸ ha)
theorem Mat.snoc : ∀ {tl : List (Addr × Obj)} {as : List Addr} {M : List (List Int)} {a : Addr} {us : List Value} {n : Nat} {r : List Int}, Mat tl as M → IntsAre us r → r.length = 4 → a ∉ as → Mat (tl ++ [(a, listOf us.toArray n)]) (as ++ [a]) (M ++ [r])
  | [], [], [], _, _, _, _, _, hi, hl, _ => ⟨⟨_, _, rfl, hi, hl⟩, by simp, trivial⟩
  | _ :: _, b :: as, _ :: _, a, _, _, _, ⟨x, hb, h⟩, hi, hl, ha => ⟨x, fun hm => (List.mem_append.mp hm).elim hb fun q => ha (List.mem_singleton.mp q ▸ List.mem_cons_self), h.snoc hi hl fun q => ha (List.mem_cons_of_mem _ q)⟩
theorem Mat.at : ∀ {tl : List (Addr × Obj)} {as : List Addr} {M : List (List Int)} {i : Nat} {a : Addr}, Mat tl as M → as[i]? = some a →
    ∃ us n, (a, listOf us.toArray n) ∈ tl ∧ IntsAre us (M.getD i []) ∧ (M.getD i []).length = 4 ∧
      ∀ us' n' r', IntsAre us' r' → r'.length = 4 → ∃ tl', Upd a (listOf us.toArray n) (listOf us'.toArray n') tl tl' ∧ Mat tl' as (M.set i r')
  | p :: tl, b :: as, r :: M, 0, a, ⟨⟨us, n, e, hi, hl⟩, hb, h⟩, ha => by
    simp only [List.getElem?_cons_zero, Option.some.injEq] at ha
    subst ha; subst e
    exact ⟨us, n, List.mem_cons_self, hi, hl, fun us' n' r' hi' hl' => ⟨_, Upd.head (h.off hb), ⟨⟨_, _, rfl, hi', hl'⟩, hb, h⟩⟩⟩
  | p :: tl, b :: as, r :: M, i + 1, a, ⟨⟨us, n, e, hi, hl⟩, hb, h⟩, ha => by
    have ha' : as[i]? = some a := by simpa using ha
    obtain ⟨us2, n2, hm, hi2, hl2, f⟩ := Mat.at h ha'
    refine ⟨us2, n2, List.mem_cons_of_mem _ hm, by simpa using hi2, by simpa using hl2, fun us' n' r' hi' hl' => ?_⟩
    obtain ⟨tl', U, h'⟩ := f us' n' r' hi' hl'
    refine ⟨p :: tl', Upd.tail ?_ U, ⟨⟨us, n, e, hi, hl⟩, hb, by simpa using h'⟩⟩
    subst e
    exact off_ne hb (List.mem_of_getElem? ha')
  | [], [], [], i, a, _, ha => by simp at ha
def atRow (M : List (List Int)) (i j : Nat) : Int := (M.getD i []).getD j 0
def setRow (M : List (List Int)) (i j : Nat) (v : Int) : List (List Int) := M.set i ((M.getD i []).set j v)
theorem setRow_len (M : List (List Int)) (i j : Nat) (v : Int) : (setRow M i j v).length = M.length := List.length_set
theorem sub_app {α : Type} {a b all : List α} (h1 : ∀ p ∈ a, p ∈ all) (h2 : ∀ p ∈ b, p ∈ all) : ∀ p ∈ a ++ b, p ∈ all := fun p hp => (List.mem_append.mp hp).elim (h1 p) (h2 p)
section
variable {w : World} {A : Around} {E : Value → Shared → Prop} {s : Shared} {h₀ : Heap} {L : Addr} {m : Str → Option Value} {all : List (Addr × Obj)}
theorem sub_refs {l : Addr} {bs : List Addr} {n : Nat} {i : Int} {u : Tok} {value slice : Expr} {Q : Value → Shared → Prop} (N : News h₀ L s.heap all) (hm : (l, listOf (bs.map Value.ref).toArray n) ∈ all) (h0 : 0 ≤ i) (h1 : i < (bs.length : Int)) (hf : i < 2 ^ 63)
    (h : ∀ a, bs[i.toNat]? = some a → Q (.ref a) s)
    (hs : subscripted slice false (.ref l) (.int i u) = operate [.ref l, .int i u] (getItem (.ref l) (.int i u)) := by with_unfolding_all rfl) :
    wpAny (model PySem.Challenge.rw_yv0001_01.row.prog w) A (subscriptTail value slice (.ref l) (.int i u)) Q E s := by
  have hl : s.heap.IsList l (bs.map Value.ref).toArray := ⟨_, (N _ hm).1, rfl, _, rfl⟩
  have e : bs[i.toNat]? = some (bs[i.toNat]'(by omega)) := List.getElem?_eq_getElem (by omega)
  exact tail_any hl.typeIs slot_list_getitem.lookup (wpAny_getItem_list hl h0 hf (by simp [e]) (h _ e)) hs
theorem row_get {as : List Addr} {M : List (List Int)} {tl : List (Addr × Obj)} {a : Addr} {j : Nat} {i : Int} {u : Tok} {value slice : Expr} {Q : Value → Shared → Prop} (N : News h₀ L s.heap all) (hM : Mat tl as M) (sub : ∀ p ∈ tl, p ∈ all) (ha : as[j]? = some a) (h0 : 0 ≤ i) (h1 : i < 4)
    (h : ∀ t, Q (.int (atRow M j i.toNat) t) s)
    (hs : subscripted slice false (.ref a) (.int i u) = operate [.ref a, .int i u] (getItem (.ref a) (.int i u)) := by with_unfolding_all rfl) :
    wpAny (model PySem.Challenge.rw_yv0001_01.row.prog w) A (subscriptTail value slice (.ref a) (.int i u)) Q E s := by
  obtain ⟨us, n, hm, hi, hl4, _⟩ := hM.at ha
  have hl : s.heap.IsList a us.toArray := ⟨_, (N _ (sub _ hm)).1, rfl, _, rfl⟩
  obtain ⟨t, ht⟩ := hi.get i.toNat (atRow M j i.toNat) (by unfold atRow; generalize M.getD j [] = r at hl4 ⊢; rw [List.getD_eq_getElem?_getD, List.getElem?_eq_getElem (by omega)]; rfl)
  exact tail_any hl.typeIs slot_list_getitem.lookup (wpAny_getItem_list hl h0 (by omega) (by rw [List.getElem?_toArray]; exact ht) (h t)) hs
theorem row_set {as : List Addr} {M : List (List Int)} {tl : List (Addr × Obj)} {G : List (Addr × Obj) → List (Addr × Obj)} {a : Addr} {j : Nat} {i v : Int} {u t : Tok} {Q : Unit → Shared → Prop} (F : Fr h₀ L s.heap m) (N : News h₀ L s.heap all) (hM : Mat tl as M) (sub : ∀ p ∈ tl, p ∈ all) (ha : as[j]? = some a) (h0 : 0 ≤ i) (h1 : i < 4)
    (U : a ∈ as → ∀ o o' tl', Upd a o o' tl tl' → Upd a o o' all (G tl'))
    (h : ∀ h' tl', Fr h₀ L h' m → News h₀ L h' (G tl') → Mat tl' as (setRow M j i.toNat v) → Q () { s with heap := h' }) :
    wpAny (model PySem.Challenge.rw_yv0001_01.row.prog w) A (setItem (.ref a) (.int i u) (.int v t)) Q E s := by
  obtain ⟨us, n, hm, hi, hl4, f⟩ := hM.at ha
  have hle := hi.length
  have hset : IntsAre (us.set i.toNat (.int v t)) ((M.getD j []).set i.toNat v) := by
    clear f hm hl4 hle ha
    generalize i.toNat = k
    generalize M.getD j [] = r0 at hi ⊢
    induction hi generalizing k with
    | nil => simpa using IntsAre.nil
    | cons n t' hr ih =>
      cases k with
      | zero => exact .cons _ _ hr
      | succ k => exact .cons _ _ (ih k)
  obtain ⟨tl', Ut, hM'⟩ := f (us.set i.toNat (.int v t)) n ((M.getD j []).set i.toNat v) hset (by rw [List.length_set]; exact hl4)
  have UA := U (List.mem_of_getElem? ha) _ _ _ Ut
  exact ksa_set F N UA hi h0 (by rw [hl4]; omega) (by omega) fun h' F' N' _ _ _ => h h' tl' F' N' hM'
theorem row_setE {aE aD : List Addr} {ME MD : List (List Int)} {tl : List (Addr × Obj)} {G : List (Addr × Obj) → List (Addr × Obj)} {a : Addr} {j : Nat} {i v : Int} {u t : Tok} {Q : Unit → Shared → Prop} (F : Fr h₀ L s.heap m) (N : News h₀ L s.heap all) (hM : Mat tl (aE ++ aD) (ME ++ MD)) (hl : aE.length = ME.length) (sub : ∀ p ∈ tl, p ∈ all) (ha : aE[j]? = some a) (h0 : 0 ≤ i) (h1 : i < 4)
    (U : a ∈ aE ++ aD → ∀ o o' tl', Upd a o o' tl tl' → Upd a o o' all (G tl'))
    (h : ∀ h' tl' ME', Fr h₀ L h' m → News h₀ L h' (G tl') → ME' = setRow ME j i.toNat v → Mat tl' (aE ++ aD) (ME' ++ MD) → aE.length = ME'.length → Q () { s with heap := h' }) :
    wpAny (model PySem.Challenge.rw_yv0001_01.row.prog w) A (setItem (.ref a) (.int i u) (.int v t)) Q E s := by
  obtain ⟨hj, _⟩ := List.getElem?_eq_some_iff.mp ha
  refine row_set (j := j) F N hM sub (by rw [List.getElem?_append_left hj]; exact ha) h0 h1 U fun h' tl' F' N' M' => h h' tl' _ F' N' rfl ?_ (by rw [setRow_len]; exact hl)
  have e : setRow (ME ++ MD) j i.toNat v = setRow ME j i.toNat v ++ MD := by
    unfold setRow
    rw [List.set_append_left _ _ (by omega), List.getD_eq_getElem?_getD, List.getElem?_append_left (by omega), ← List.getD_eq_getElem?_getD]
  rw [e] at M'
  exact M'
theorem row_setD {aE aD : List Addr} {ME MD : List (List Int)} {tl : List (Addr × Obj)} {G : List (Addr × Obj) → List (Addr × Obj)} {a : Addr} {j : Nat} {i v : Int} {u t : Tok} {Q : Unit → Shared → Prop} (F : Fr h₀ L s.heap m) (N : News h₀ L s.heap all) (hM : Mat tl (aE ++ aD) (ME ++ MD)) (hl : aE.length = ME.length) (hd : aD.length = MD.length) (sub : ∀ p ∈ tl, p ∈ all) (ha : aD[j]? = some a) (h0 : 0 ≤ i) (h1 : i < 4)
    (U : a ∈ aE ++ aD → ∀ o o' tl', Upd a o o' tl tl' → Upd a o o' all (G tl'))
    (h : ∀ h' tl' MD', Fr h₀ L h' m → News h₀ L h' (G tl') → Mat tl' (aE ++ aD) (ME ++ MD') → aD.length = MD'.length → Q () { s with heap := h' }) :
    wpAny (model PySem.Challenge.rw_yv0001_01.row.prog w) A (setItem (.ref a) (.int i u) (.int v t)) Q E s := by
  refine row_set (j := aE.length + j) F N hM sub (by rw [List.getElem?_append_right (by omega)]; simpa using ha) h0 h1 U fun h' tl' F' N' M' => h h' tl' ((setRow (ME ++ MD) (aE.length + j) i.toNat v).drop ME.length) F' N' ?_ ?_
  · have e : setRow (ME ++ MD) (aE.length + j) i.toNat v = ME ++ (setRow (ME ++ MD) (aE.length + j) i.toNat v).drop ME.length := by
      unfold setRow
      rw [List.set_append_right _ _ (by omega), List.drop_left]
    rw [← e]
    exact M'
  · rw [List.length_drop, setRow_len, List.length_append]; omega
theorem row_getD {aE aD : List Addr} {ME MD : List (List Int)} {tl : List (Addr × Obj)} {a : Addr} {j : Nat} {i : Int} {u : Tok} {value slice : Expr} {Q : Value → Shared → Prop} (N : News h₀ L s.heap all) (hM : Mat tl (aE ++ aD) (ME ++ MD)) (sub : ∀ p ∈ tl, p ∈ all) (ha : aD[j]? = some a) (h0 : 0 ≤ i) (h1 : i < 4)
    (h : ∀ v t, Q (.int v t) s)
    (hs : subscripted slice false (.ref a) (.int i u) = operate [.ref a, .int i u] (getItem (.ref a) (.int i u)) := by with_unfolding_all rfl) :
    wpAny (model PySem.Challenge.rw_yv0001_01.row.prog w) A (subscriptTail value slice (.ref a) (.int i u)) Q E s :=
  row_get (j := aE.length + j) N hM sub (by rw [List.getElem?_append_right (by omega)]; simpa using ha) h0 h1 (fun t => h _ t) hs
/-- 16, 24, 32 octets -/
structure KcOk (kc : Nat) : Prop where
  it : kc = 4 ∨ kc = 6 ∨ kc = 8
theorem sub_rounds {kc : Nat} {z : Int} {u : Tok} {value slice : Expr} {Q : Value → Shared → Prop} (F : Fr h₀ L s.heap m) (X : (mkK.heap_1 w.params).In h₀) (hk : KcOk kc) (hz : z = 4 * (kc : Int))
    (h : ∀ t, Q (.int ((kc : Int) + 6) t) { s with toks := s.toks + 1 })
    (hs : subscripted slice false (.ref 55) (.int z u) = operate [.ref 55, .int z u] (getItem (.ref 55) (.int z u)) := by with_unfolding_all rfl) :
    wpAny (model PySem.Challenge.rw_yv0001_01.row.prog w) A (subscriptTail value slice (.ref 55) (.int z u)) Q E s := by
  obtain ⟨f, hm, a4, a6, a8⟩ : ∃ f, s.heap.MapOf (intKind PySem.Challenge.rw_yv0001_01.row.prog w) 55 f ∧ (∃ t, f 16 = some (.int 10 t)) ∧ (∃ t, f 24 = some (.int 12 t)) ∧ (∃ t, f 32 = some (.int 14 t)) := by
    refine ⟨_, ⟨_, _, _, F.keep _ _ (X 55 _ rfl), ⟨rfl, rfl, rfl⟩, rfl, ?_, fun _ => rfl⟩, ⟨_, rfl⟩, ⟨_, rfl⟩, ⟨_, rfl⟩⟩
    intro e he
    simp only [List.mem_toArray, List.mem_cons, List.not_mem_nil, or_false] at he
    rcases he with rfl | rfl | rfl
    · exact ⟨16, rfl, rfl⟩
    · exact ⟨24, rfl, rfl⟩
    · exact ⟨32, rfl, rfl⟩
  have hT : s.TypeIs (.ref 55) "dict" := hm.typeIs
  have key : ∃ t, f z = some (.int ((kc : Int) + 6) t) := by
    subst hz
    rcases hk.it with rfl | rfl | rfl
    · exact a4
    · exact a6
    · exact a8
  obtain ⟨t, e⟩ := key
  exact tail_any hT PySem.F.slot_dict_getitem.lookup (wpAny_getItem_of (knd := intKind PySem.Challenge.rw_yv0001_01.row.prog w) (by simp [intKind, Value.isInt]) hm e (h t)) hs
theorem sub_rcon {x : Int} {u : Tok} {value slice : Expr} {Q : Value → Shared → Prop} (F : Fr h₀ L s.heap m) (X : (mkK.heap_1 w.params).In h₀) (h0 : 0 ≤ x) (h1 : x < 30)
    (h : ∀ t, OctOk (tab w.params 56 x.toNat) → Q (.int (tab w.params 56 x.toNat) t) s)
    (hs : subscripted slice false (.ref 56) (.int x u) = operate [.ref 56, .int x u] (getItem (.ref 56) (.int x u)) := by with_unfolding_all rfl) :
    wpAny (model PySem.Challenge.rw_yv0001_01.row.prog w) A (subscriptTail value slice (.ref 56) (.int x u)) Q E s := by
  obtain ⟨n, hk⟩ := (tab56 w.params).at_
  have hl : s.heap.IsList 56 (tabV w.params 56).toArray := ⟨_, F.keep _ _ (X _ _ hk), rfl, _, rfl⟩
  obtain ⟨t, ht⟩ := tab_get (tab56 w.params) (i := x.toNat) (by omega)
  exact tail_any hl.typeIs slot_list_getitem.lookup (wpAny_getItem_list hl h0 (by omega) (by simpa using ht) (h t (oct_rcon _ _))) hs
theorem sub_S {x : Int} {u : Tok} {value slice : Expr} {Q : Value → Shared → Prop} (F : Fr h₀ L s.heap m) (X : (mkK.heap_1 w.params).In h₀)
    (h : ∀ t, OctOk (tab w.params 59 (Builtin.bitAnd x 255).toNat) → Q (.int (tab w.params 59 (Builtin.bitAnd x 255).toNat) t) s)
    (hs : subscripted slice false (.ref 59) (.int (Builtin.bitAnd x 255) u) = operate [.ref 59, .int (Builtin.bitAnd x 255) u] (getItem (.ref 59) (.int (Builtin.bitAnd x 255) u)) := by with_unfolding_all rfl) :
    wpAny (model PySem.Challenge.rw_yv0001_01.row.prog w) A (subscriptTail value slice (.ref 59) (.int (Builtin.bitAnd x 255) u)) Q E s := sub_tab F X (tab59 _) (fun t => h t (oct_S _ _)) hs
end
structure DivIs (a b c : Int) : Prop where
  pos : b ≠ 0
  eq : a.fdiv b = c
  small : a.natAbs < 1000000 ∧ b.natAbs < 1000000
structure ModIs (a b c : Int) : Prop where
  pos : b ≠ 0
  eq : a.fmod b = c
theorem DivIs.nat (a b : Nat) (hb : 0 < b) (h : a < 1000000) (h2 : b < 1000000) : DivIs a b ((a / b : Nat) : Int) := ⟨by omega, by rw [Int.fdiv_eq_ediv_of_nonneg _ (by omega)]; rfl, by omega, by omega⟩
theorem ModIs.nat (a b : Nat) (hb : 0 < b) : ModIs a b ((a % b : Nat) : Int) := ⟨by omega, by rw [Int.fmod_eq_emod_of_nonneg _ (by omega)]; rfl⟩
section
variable {w : World} {A : Around} {E : Value → Shared → Prop} {s : Shared} {h₀ : Heap} {L : Addr} {m : Str → Option Value} {all : List (Addr × Obj)}
theorem div_val {a b c : Int} {t u : Tok} {Q : Value → Shared → Prop} (D : DivIs a b c) (h : Q (.int c s.toks) { s with toks := s.toks + 1 }) : wpAny (model PySem.Challenge.rw_yv0001_01.row.prog w) A (binaryOp .FloorDiv (.int a t) (.int b u)) Q E s := by
  obtain ⟨hb, rfl, hs⟩ := D
  exact floordiv_int hb h (Or.inl (PyProof.noPylong_small (by omega)))
theorem mod_val {a b c : Int} {t u : Tok} {Q : Value → Shared → Prop} (D : ModIs a b c) (h : Q (.int c s.toks) { s with toks := s.toks + 1 }) : wpAny (model PySem.Challenge.rw_yv0001_01.row.prog w) A (binaryOp .Mod (.int a t) (.int b u)) Q E s := by
  obtain ⟨hb, rfl⟩ := D
  exact mod_int' hb h
theorem notin_key {kc : Nat} {a : Addr} {t t1 t2 t3 : Tok} {n : Nat} {Q : Value → Shared → Prop} (N : News h₀ L s.heap all) (hm : (a, ({ cls := .type "tuple", data := .seq #[.int 16 t1, .int 24 t2, .int 32 t3] n } : Obj)) ∈ all) (hk : KcOk kc) (h : Q (.bool false) s) :
    wpAny (model PySem.Challenge.rw_yv0001_01.row.prog w) A (compareOp .NotIn (.int (4 * (kc : Int)) t) (.ref a)) Q E s := by
  refine notin_tuple_ints (ns := [16, 24, 32]) (N.isTup hm) (.cons _ _ (.cons _ _ (.cons _ _ .nil))) ?_
  have e : ([16, 24, 32] : List Int).any (· == 4 * (kc : Int)) = true := by
    rcases hk.it with rfl | rfl | rfl <;> rfl
  rw [e]
  exact h
end
end
local macro_rules | `(tactic| k_all) => `(tactic| exact Mat.off (by with_reducible assumption) (by with_reducible assumption))
local macro_rules | `(tactic| k_upd) => `(tactic| (refine' Upd.tail ?a ?b; (case a => exact off_ne (by with_reducible assumption) (by with_reducible assumption)); (case b => k_upd)))
section
section
variable {w : World} {A : Around} {h₀ : Heap} {L : Addr} {m : Str → Option Value} {env : Env} {elt : Expr} {x : Str} {scope : Scope} {cl : List (Str × Addr)} {s : Shared} {S : List (Addr × Obj) → Prop} {P : Nat → Value → Prop} {Fin : List Value → List (Addr × Obj) → Prop} {n : Nat}
inductive RowEl (rest tl : List (Addr × Obj)) (as : List Addr) (y : Value) (news' : List (Addr × Obj)) : Prop
  | mk0 (l : Addr) (us : List Value) (k : Nat) (z1 : y = .ref l) (z2 : IntsAre us [0, 0, 0, 0]) (z3 : news' = rest ++ (tl ++ [(l, listOf us.toArray k)])) (z4 : l ∉ as) (z5 : (∀ p ∈ rest, p.1 ≠ l)) : RowEl rest tl as y news'
theorem comp_rows (rest : List (Addr × Obj)) {tl0 : List (Addr × Obj)} {as0 : List Addr} {M0 : List (List Int)} (hM : Mat tl0 as0 M0) (hr : ∀ p ∈ rest, p.1 ∉ as0)
    (turn : ∀ (i : Nat) tl as M ys v I oI C oC D m₂ h tk (E' : Value → Shared → Prop), i < n → Mat tl as M → (∀ p ∈ rest, p.1 ∉ as) → P i v → LCg.NsObj oC m₂ → m₂ x = some v → Fr h₀ L h m →
      News h₀ L h ((I, oI) :: (C, oC) :: (D, LCg.lst ys) :: (rest ++ tl)) → LCg.Off3 I C D (rest ++ tl) → ((@Ne Nat I C) ∧ (@Ne Nat I D) ∧ (@Ne Nat C D)) →
      wpAny (model PySem.Challenge.rw_yv0001_01.row.prog w) A (eval elt (compEnvC scope cl C env)) (LCg.CompEnd h₀ L m { s with heap := h, toks := tk } I oI C oC D (LCg.lst ys) S (RowEl rest tl as)) E' { s with heap := h, toks := tk })
    (fin : ∀ bs tl, bs.length = n → Mat tl (as0 ++ bs) (M0 ++ List.replicate n [0, 0, 0, 0]) → (∀ p ∈ rest, p.1 ∉ as0 ++ bs) → Fin (bs.map .ref) (rest ++ tl)) :
    LCg.CompRest PySem.Challenge.rw_yv0001_01.row.prog w A h₀ L m env elt x scope cl s S P Fin n 0 [] (rest ++ tl0) := by
  have key : ∀ (j i : Nat) (bs : List Addr) (tl : List (Addr × Obj)), i + j = n → bs.length = i → Mat tl (as0 ++ bs) (M0 ++ List.replicate i [0, 0, 0, 0]) → (∀ p ∈ rest, p.1 ∉ as0 ++ bs) →
      LCg.CompRest PySem.Challenge.rw_yv0001_01.row.prog w A h₀ L m env elt x scope cl s S P Fin j i (bs.map .ref) (rest ++ tl) := by
    intro j
    induction j with
    | zero =>
      intro i bs tl hi hl hM' hr'
      have e : i = n := by omega
      subst e
      exact LCg.CompRest.zero (fin bs tl hl hM' hr')
    | succ j ih =>
      intro i bs tl hi hl hM' hr'
      refine LCg.CompRest.succ ?_
      intro v I oI C oC D m₂ h tk E' hv hC hx F N off ne
      refine wpAny_mono (turn i tl _ _ _ v I oI C oC D m₂ h tk E' (by omega) hM' hr' hv hC hx F N off ne) (fun y s₂ hq => ?_) fun _ _ e => e
      obtain ⟨h', tk', nw, e, F', N', off', hS, l, us, k, rfl, hz, rfl, hn, hrl⟩ := hq
      refine ⟨h', tk', _, e, F', N', off', hS, ?_⟩
      have := ih (i + 1) (bs ++ [l]) (tl ++ [(l, listOf us.toArray k)]) (by omega) (by simp [hl]) ?_ ?_
      · rw [List.map_append] at this
        exact this
      · rw [List.replicate_succ', ← List.append_assoc, ← List.append_assoc]
        exact hM'.snoc hz rfl hn
      · intro p hp hm
        rw [← List.append_assoc] at hm
        rcases List.mem_append.mp hm with hm | hm
        · exact hr' p hp hm
        · exact hrl p hp (List.mem_singleton.mp hm)
  exact key n 0 [] tl0 (by omega) rfl (by simpa using hM) (by simpa using hr)
theorem off3_snoc {I C D l : Addr} {o : Obj} {rest tl : List (Addr × Obj)} (h : LCg.Off3 I C D (rest ++ tl)) (hI : (@Ne Nat l I)) (hC : (@Ne Nat l C)) (hD : (@Ne Nat l D)) : LCg.Off3 I C D (rest ++ (tl ++ [(l, o)])) :=
  LCg.Off3.of fun p hp => by
    rw [← List.append_assoc] at hp
    rcases List.mem_append.mp hp with hp | hp
    · exact h.mem p hp
    · rw [List.mem_singleton.mp hp]; exact ⟨hI, hC, hD⟩
theorem sub_rows {I C D l : Addr} {oI oC oD o : Obj} {rest tl ext : List (Addr × Obj)} : ∀ p ∈ (I, oI) :: (C, oC) :: (D, oD) :: (rest ++ (tl ++ [(l, o)])), p ∈ (l, o) :: (ext ++ (I, oI) :: (C, oC) :: (D, oD) :: (rest ++ tl)) := fun p hp => by
  simp only [List.mem_cons, List.mem_append, List.not_mem_nil, or_false] at hp ⊢
  rcases hp with h | h | h | h | h | h
  · exact .inr (.inr (.inl h))
  · exact .inr (.inr (.inr (.inl h)))
  · exact .inr (.inr (.inr (.inr (.inl h))))
  · exact .inr (.inr (.inr (.inr (.inr (.inl h)))))
  · exact .inr (.inr (.inr (.inr (.inr (.inr h)))))
  · exact .inl h
theorem allLt_app {d : Addr} : ∀ {a b : List (Addr × Obj)}, AllLt d (a ++ b) → AllLt d b
  | [], _, h => h
  | _ :: _, _, h => allLt_app h.2
theorem allLt_mem {d : Addr} : ∀ (l : List (Addr × Obj)), AllLt d l → ∀ p ∈ l, p.1 < d
  | [], _, _, hp => by simp at hp
  | q :: l, h, p, hp => by
    rcases List.mem_cons.mp hp with e | hp
    · rw [e]; exact h.1
    · exact allLt_mem l h.2 p hp
end
theorem off1_mem {D : Addr} : ∀ (l : List (Addr × Obj)), LCg.Off1 D l → ∀ p ∈ l, p.1 ≠ D
  | [], _, _, hp => by simp at hp
  | q :: l, h, p, hp => by
    rcases List.mem_cons.mp hp with e | hp
    · rw [e]; exact h.1
    · exact off1_mem l h.2 p hp
theorem off1_tail {D : Addr} {rest tl : List (Addr × Obj)} (h : LCg.Off1 D (rest ++ tl)) : ∀ p ∈ tl, p.1 ≠ D := fun p hp => off1_mem _ h p (List.mem_append_right _ hp)
section
variable {w : World} {A : Around} {E : Value → Shared → Prop} {s : Shared} {h₀ : Heap} {L : Addr} {m : Str → Option Value} {news : List (Addr × Obj)}
theorem slice_bytes {b : Array UInt8} {t : Tok} {ns zs : List Int} {x y : Int} {tx ty : Tok} {value slice : Expr} {Q : Value → Shared → Prop} (F : Fr h₀ L s.heap m) (N : News h₀ L s.heap news) (hb : KBw.bInts b = ns) (hx : 0 ≤ x) (hy : 0 ≤ y) (hz : ns.length ≤ 100000)
    (e : (ns.drop x.toNat).take (min y.toNat ns.length - x.toNat) = zs)
    (h : ∀ b' t' h' k, Fr h₀ L h' m → News h₀ L h' news → KBw.bInts b' = zs → Q (.bytes b' t') { s with heap := h', toks := k })
    (hs : ∀ v a, subscripted slice false v (.ref a) = operate [.ref a, v] (getItem v (.ref a)) := by intro _ _; with_unfolding_all rfl)
    (ht : ∀ v r, letTemporaryGo value v r = pure () := by intro _ _; with_unfolding_all rfl) :
    wpAny (model PySem.Challenge.rw_yv0001_01.row.prog w) A (subscriptTail value slice (.bytes b t) (.ref s.heap.objs.size)) Q E { s with heap := s.heap.push { cls := .type "slice", data := .fields #[.int x tx, .int y ty, .none] } } :=
  KBc.slice_K F N hb (.int x tx) (.int y ty) (by omega) (fun h' t' k F' N' e' => h _ t' h' k F' N' (e'.trans ((cut_eq ns hx hy).trans e))) (hs _ _) (ht _)
end
theorem small4 {kc : Nat} (hk : KcOk kc) : Builtin.Range.small 0 (4 * (kc : Int)) 4 = true := by rcases hk.it with rfl | rfl | rfl <;> decide
theorem size4 {kc : Nat} (hk : KcOk kc) : Builtin.Range.rangeSize 0 (4 * (kc : Int)) 4 = ((kc : Nat) : Int) := by rcases hk.it with rfl | rfl | rfl <;> rfl
/-- the same as comp_map, of any stride -/
theorem comp_mapP {w : World} {A : Around} {h₀ : Heap} {L : Addr} {m : Str → Option Value} {s : Shared} {news : List (Addr × Obj)} {env : Env} {elt : Expr} {x : Str} {scope : Scope} {cl : List (Str × Addr)} {S : List (Addr × Obj) → Prop} {P : Nat → Value → Prop} {Fin : List Value → List (Addr × Obj) → Prop} {n : Nat} (f : Nat → Int)
    (turn : ∀ (i : Nat) ys v I oI C oC D m₂ h tk (E' : Value → Shared → Prop), i < n → P i v → LCg.NsObj oC m₂ → m₂ x = some v → Fr h₀ L h m →
      News h₀ L h ((I, oI) :: (C, oC) :: (D, LCg.lst ys) :: news) → LCg.Off3 I C D news → ((@Ne Nat I C) ∧ (@Ne Nat I D) ∧ (@Ne Nat C D)) →
      wpAny (model PySem.Challenge.rw_yv0001_01.row.prog w) A (eval elt (compEnvC scope cl C env)) (LCg.CompEnd h₀ L m { s with heap := h, toks := tk } I oI C oC D (LCg.lst ys) S (fun y news' => KCfEl news (f i) y news')) E' { s with heap := h, toks := tk })
    (fin : ∀ ys, IntsAre ys ((List.range n).map f) → Fin ys news) :
    LCg.CompRest PySem.Challenge.rw_yv0001_01.row.prog w A h₀ L m env elt x scope cl s S P Fin n 0 [] news := comp_map f turn fin
/-- what the ledger of AES.__init__ holds, once the tables stand -/
inductive InitJ (P : Params) (ca x dx ke kd tkA : Addr) (oc1 : Obj) (bs bs2 : List Addr) (tks : List Int) (ME : List (List Int)) (nw : List (Addr × Obj)) : Prop
  | mk0 (us : List Value) (n : Nat) (nD : Nat) (nE : Nat) (nd : Nat) (t1 : Tok) (t2 : Tok) (tl : List (Addr × Obj)) (MD : List (List Int)) (z1 : nw = (tkA, listOf us.toArray n) :: (kd, listOf (bs2.map Value.ref).toArray nD) :: (ke, listOf (bs.map Value.ref).toArray nE) :: (x, instObj 116 dx) :: (dx, dictOf (kePair P ke kd t1 t2) nd) :: (ca, oc1) :: tl) (z2 : IntsAre us tks) (z3 : Mat tl (bs ++ bs2) (ME ++ MD)) (z4 : bs.length = ME.length) (z5 : bs2.length = MD.length) : InitJ P ca x dx ke kd tkA oc1 bs bs2 tks ME nw
inductive InitK (kc : Nat) (x tkA : Addr) (more : List (Str × Value)) (m : Str → Option Value) : Prop
  | mk0 (ta : Tok) (tb : Tok) (tc : Tok) (z1 : Keeps ([(Str.ofString "tk", .ref tkA), (Str.ofString "KC", .int kc ta), (Str.ofString "round_key_count", .int (((kc : Int) + 6 + 1) * 4) tb), (Str.ofString "rounds", .int ((kc : Int) + 6) tc), (Str.ofString "self", .ref x)] ++ more) m) : InitK kc x tkA more m
def loadM (n : Nat) (tks : List Int) (i : Nat) : List (List Int) := (List.range i).foldl (fun M q => setRow M (q / 4) (q % 4) (tks.getD q 0)) (List.replicate n [0, 0, 0, 0])
inductive InitK2 (kc : Nat) (x tkA : Addr) (r t : Nat) (m : Str → Option Value) : Prop
  | mk0 (ta : Tok) (tb : Tok) (tc : Tok) (td : Tok) (te : Tok) (z1 : Keeps [(Str.ofString "t", .int (t : Int) td), (Str.ofString "rconpointer", .int (r : Int) te), (Str.ofString "tk", .ref tkA), (Str.ofString "KC", .int kc ta), (Str.ofString "round_key_count", .int (((kc : Int) + 6 + 1) * 4) tb), (Str.ofString "rounds", .int ((kc : Int) + 6) tc), (Str.ofString "self", .ref x)] m) : InitK2 kc x tkA r t m
theorem loadM_succ (n : Nat) (tks : List Int) (i : Nat) : loadM n tks (i + 1) = setRow (loadM n tks i) (i / 4) (i % 4) (tks.getD i 0) := by
  unfold loadM; rw [List.range_succ, List.foldl_append]; rfl
theorem loadM_len (n : Nat) (tks : List Int) : ∀ i, (loadM n tks i).length = n
  | 0 => by simp [loadM]
  | i + 1 => by rw [loadM_succ, setRow_len, loadM_len n tks i]
/-- the first word's change in a round of the key schedule -/
noncomputable def keyX (P : Params) (tt : Int) (r : Nat) : Int :=
  Builtin.bitXor (Builtin.bitXor (Builtin.bitXor (Builtin.bitXor (tab P 59 (Builtin.bitAnd (tt.fdiv (2 ^ 16)) 255).toNat * 2 ^ 24) (tab P 59 (Builtin.bitAnd (tt.fdiv (2 ^ 8)) 255).toNat * 2 ^ 16)) (tab P 59 (Builtin.bitAnd tt 255).toNat * 2 ^ 8)) (tab P 59 (Builtin.bitAnd (tt.fdiv (2 ^ 24)) 255).toNat)) (tab P 56 r * 2 ^ 24)
noncomputable def keyY (P : Params) (tt : Int) : Int :=
  Builtin.bitXor (Builtin.bitXor (Builtin.bitXor (tab P 59 (Builtin.bitAnd tt 255).toNat) (tab P 59 (Builtin.bitAnd (tt.fdiv (2 ^ 8)) 255).toNat * 2 ^ 8)) (tab P 59 (Builtin.bitAnd (tt.fdiv (2 ^ 16)) 255).toNat * 2 ^ 16)) (tab P 59 (Builtin.bitAnd (tt.fdiv (2 ^ 24)) 255).toNat * 2 ^ 24)
def chain (tk : List Int) (b : Nat) (n : Nat) : List Int := (List.range n).foldl (fun tk q => tk.set (b + q) (Builtin.bitXor (tk.getD (b + q) 0) (tk.getD (b + q - 1) 0))) tk
theorem chain_succ (tk : List Int) (b n : Nat) : chain tk b (n + 1) = (chain tk b n).set (b + n) (Builtin.bitXor ((chain tk b n).getD (b + n) 0) ((chain tk b n).getD (b + n - 1) 0)) := by
  unfold chain; rw [List.range_succ, List.foldl_append]; rfl
theorem chain_len (tk : List Int) (b : Nat) : ∀ n, (chain tk b n).length = tk.length
  | 0 => rfl
  | n + 1 => by rw [chain_succ, List.length_set, chain_len tk b n]
noncomputable def stepTk (P : Params) (kc : Nat) (tk : List Int) (r : Nat) : List Int :=
  let t1 := tk.set 0 (Builtin.bitXor (tk.getD 0 0) (keyX P (tk.getD (kc - 1) 0) r))
  if kc = 8 then
    let t2 := chain t1 1 3
    let t3 := t2.set 4 (Builtin.bitXor (t2.getD 4 0) (keyY P (t2.getD 3 0)))
    chain t3 5 3
  else chain t1 1 (kc - 1)
theorem stepTk_len (P : Params) (kc : Nat) (tk : List Int) (r : Nat) : (stepTk P kc tk r).length = tk.length := by
  unfold stepTk
  dsimp only
  split <;> simp [chain_len]
def fillM (b : Nat) (tk : List Int) (M : List (List Int)) (n : Nat) : List (List Int) := (List.range n).foldl (fun M j => setRow M ((b + j) / 4) ((b + j) % 4) (tk.getD j 0)) M
theorem fillM_succ (b : Nat) (tk : List Int) (M : List (List Int)) (n : Nat) : fillM b tk M (n + 1) = setRow (fillM b tk M n) ((b + n) / 4) ((b + n) % 4) (tk.getD n 0) := by
  unfold fillM; rw [List.range_succ, List.foldl_append]; rfl
/-- the key schedule after k rounds -/
noncomputable def keySt (P : Params) (kc : Nat) (tk0 : List Int) : Nat → List Int × List (List Int)
  | 0 => (tk0, loadM (kc + 7) tk0 kc)
  | k + 1 => let t := stepTk P kc (keySt P kc tk0 k).1 k
    (t, fillM (kc * k + kc) t (keySt P kc tk0 k).2 (min kc (4 * kc + 28 - (kc * k + kc))))
theorem keySt_len (P : Params) (kc : Nat) (tk0 : List Int) : ∀ k, (keySt P kc tk0 k).1.length = tk0.length
  | 0 => rfl
  | k + 1 => by rw [keySt, stepTk_len, keySt_len P kc tk0 k]
inductive CutEnd (h₀ : Heap) (L : Addr) (s : Shared) (J : (Str → Option Value) → List (Addr × Obj) → Prop) (f : Flow) (s' : Shared) : Prop
  | mk0 (z1 : f = .next) (h' : Heap) (tk : Nat) (m' : Str → Option Value) (nw : List (Addr × Obj)) (z2 : s' = { s with heap := h', toks := tk }) (z3 : Fr h₀ L h' m') (z4 : News h₀ L h' nw) (z5 : J m' nw) : CutEnd h₀ L s J f s'
theorem cut_exec {M : Model} {A : Around} {E : Value → Shared → Prop} {s : Shared} {h₀ : Heap} {L : Addr} {st : Stmt} {env : Env} {Q : Flow → Shared → Prop} (J : (Str → Option Value) → List (Addr × Obj) → Prop)
    (h1 : wpAny M A (exec st env) (CutEnd h₀ L s J) E s) (h2 : ∀ h' tk m' nw, Fr h₀ L h' m' → News h₀ L h' nw → J m' nw → Q .next { s with heap := h', toks := tk }) : wpAny M A (exec st env) Q E s :=
  wpAny_mono h1 (fun f s' e => by
    obtain ⟨rfl, h', tk, m', nw, rfl, F, N, j⟩ := e
    exact h2 h' tk m' nw F N j) fun _ _ e => e
theorem CutEnd.mk {h₀ : Heap} {L : Addr} {s : Shared} {J : (Str → Option Value) → List (Addr × Obj) → Prop} {h' : Heap} {tk : Nat} {m' : Str → Option Value} {all nw : List (Addr × Obj)} (F : Fr h₀ L h' m') (N : News h₀ L h' all) (sub : ∀ p ∈ nw, p ∈ all) (j : J m' nw) :
    CutEnd h₀ L s J .next { s with heap := h', toks := tk } := ⟨rfl, h', tk, m', nw, rfl, F, fun p hp => N p (sub p hp), j⟩
inductive InitK3 (kc : Nat) (x tkA : Addr) (r t j : Nat) (m : Str → Option Value) : Prop
  | mk0 (ta : Tok) (tb : Tok) (tc : Tok) (td : Tok) (te : Tok) (tf : Tok) (z1 : Keeps [(Str.ofString "j", .int (j : Int) tf), (Str.ofString "t", .int (t : Int) td), (Str.ofString "rconpointer", .int (r : Int) te), (Str.ofString "tk", .ref tkA), (Str.ofString "KC", .int kc ta), (Str.ofString "round_key_count", .int (((kc : Int) + 6 + 1) * 4) tb), (Str.ofString "rounds", .int ((kc : Int) + 6) tc), (Str.ofString "self", .ref x)] m) : InitK3 kc x tkA r t j m
/-- the addresses of AES.__init__'s ledger are apart -/
structure InitO (ca x dx ke kd tkA : Addr) (as : List Addr) : Prop where
  o1 : tkA ∉ as
  o2 : kd ∉ as
  o3 : ke ∉ as
  o4 : x ∉ as
  o5 : dx ∉ as
  o6 : ca ∉ as
  d1 : (@Ne Nat kd tkA)
  d2 : (@Ne Nat ke tkA)
  d3 : (@Ne Nat x tkA)
  d4 : (@Ne Nat dx tkA)
  d5 : (@Ne Nat ca tkA)
theorem cut_ex2 {M : Model} {A : Around} {E : Value → Shared → Prop} {s s1 : Shared} {h₀ : Heap} {L : Addr} {st : Stmt} {env : Env} {Q : Flow → Shared → Prop} {J : (Str → Option Value) → List (Addr × Obj) → Prop}
    (h1 : wpAny M A (exec st env) (CutEnd h₀ L s J) (fun _ _ => False) s1) (h2 : ∀ h' tk m' nw, Fr h₀ L h' m' → News h₀ L h' nw → J m' nw → Q .next { s with heap := h', toks := tk }) : wpAny M A (exec st env) Q E s1 :=
  wpAny_mono h1 (fun f s' e => by
    obtain ⟨rfl, h', tk, m', nw, rfl, F, N, j⟩ := e
    exact h2 h' tk m' nw F N j) fun _ _ e => e.elim
theorem fillM_len (b : Nat) (tk : List Int) (M : List (List Int)) : ∀ n, (fillM b tk M n).length = M.length
  | 0 => rfl
  | n + 1 => by rw [fillM_succ, setRow_len, fillM_len b tk M n]
theorem keySt_len2 (P : Params) (kc : Nat) (tk0 : List Int) : ∀ k, (keySt P kc tk0 k).2.length = kc + 7
  | 0 => loadM_len _ _ _
  | k + 1 => by rw [keySt]; dsimp only; rw [fillM_len, keySt_len2 P kc tk0 k]
/-- the words of a key -/
def keyW (key : List Int) : List Int := (List.range (key.length / 4)).map fun i => sgn4 ((key.drop (4 * i)).take 4)
/-- the round keys of a key -/
noncomputable def expand (P : Params) (key : List Int) : List (List Int) := (keySt P (key.length / 4) (keyW key) (if key.length / 4 = 4 then 10 else if key.length / 4 = 6 then 8 else 7)).2
def RowsL (nw : List (Addr × Obj)) : List Addr → List (List Int) → Prop
  | [], [] => True
  | a :: r, k :: ks => (∃ us n, (a, listOf us.toArray n) ∈ nw ∧ IntsAre us k ∧ k.length = 4) ∧ RowsL nw r ks
  | _, _ => False
/-- the ledger nw bears an object x of the class AES with the round keys ks -/
inductive AesL (P : Params) (nw : List (Addr × Obj)) (x : Addr) (ks : List (List Int)) : Prop
  | mk0 (dx : Addr) (ke : Addr) (kd : Addr) (t1 : Tok) (t2 : Tok) (nd : Nat) (nk : Nat) (bs : List Addr) (z1 : (x, instObj 116 dx) ∈ nw) (z2 : (dx, dictOf (kePair P ke kd t1 t2) nd) ∈ nw) (z3 : (ke, listOf (bs.map Value.ref).toArray nk) ∈ nw) (z4 : RowsL nw bs ks) (z5 : 2 ≤ ks.length ∧ ks.length ≤ 15) : AesL P nw x ks
theorem RowsL.mono {nw nw' : List (Addr × Obj)} (h : ∀ p ∈ nw, p ∈ nw') : ∀ {bs : List Addr} {ks : List (List Int)}, RowsL nw bs ks → RowsL nw' bs ks
  | [], [], _ => trivial
  | _ :: _, _ :: _, ⟨⟨us, n, hm, hi, hl⟩, r⟩ => ⟨⟨us, n, h _ hm, hi, hl⟩, r.mono h⟩
  | [], _ :: _, x => x.elim
  | _ :: _, [], x => x.elim
theorem RowsL.ofMat : ∀ {tl : List (Addr × Obj)} {bs bs2 : List Addr} {ks MD : List (List Int)}, Mat tl (bs ++ bs2) (ks ++ MD) → bs.length = ks.length → RowsL tl bs ks
  | _, [], _, [], _, _, _ => trivial
  | _, [], _, _ :: _, _, _, h => nomatch h
  | _, _ :: _, _, [], _, _, h => nomatch h
  | p :: tl, b :: bs, bs2, k :: ks, MD, ⟨⟨us, n, e, hi, hl⟩, _, h⟩, hle => ⟨⟨us, n, e ▸ List.mem_cons_self, hi, hl⟩, (RowsL.ofMat h (Nat.succ.inj hle)).mono fun _ hp => List.mem_cons_of_mem _ hp⟩
  | [], _ :: _, _, _ :: _, _, h, _ => h.elim
theorem RowsL.rowsIn {g h : Heap} {L : Addr} {nw : List (Addr × Obj)} (N : News g L h nw) : ∀ {bs : List Addr} {ks : List (List Int)}, RowsL nw bs ks → RowsIn h bs ks
  | [], [], _ => trivial
  | _ :: _, _ :: _, ⟨⟨us, n, hm, hi, hl⟩, r⟩ => ⟨⟨us, n, (N _ hm).1, hi, hl⟩, r.rowsIn N⟩
  | [], _ :: _, x => x.elim
  | _ :: _, [], x => x.elim
theorem AesL.mono {P : Params} {nw nw' : List (Addr × Obj)} {x : Addr} {ks : List (List Int)} (A : AesL P nw x ks) (h : ∀ p ∈ nw, p ∈ nw') : AesL P nw' x ks := by
  obtain ⟨dx, ke, kd, t1, t2, nd, nk, bs, a, b, c, d, e⟩ := A
  exact ⟨dx, ke, kd, t1, t2, nd, nk, bs, h _ a, h _ b, h _ c, d.mono h, e⟩
/-- an object of the class AES stands in the heap -/
inductive AesAt (w : World) (h : Heap) (x : Addr) (ks : List (List Int)) : Prop
  | mk0 (dx : Addr) (ke : Addr) (kd : Addr) (t1 : Tok) (t2 : Tok) (nd : Nat) (nk : Nat) (rows : List Addr) (z1 : AesIs w h x dx ke kd t1 t2 nd nk rows ks) : AesAt w h x ks
theorem AesL.at {w : World} {g h : Heap} {L : Addr} {nw : List (Addr × Obj)} {x : Addr} {ks : List (List Int)} (A : AesL w.params nw x ks) (N : News g L h nw) : AesAt w h x ks := by
  obtain ⟨dx, ke, kd, t1, t2, nd, nk, bs, a, b, c, d, e⟩ := A
  exact ⟨dx, ke, kd, t1, t2, nd, nk, bs, (N _ a).1, (N _ b).1, (N _ c).1, d.rowsIn N, e⟩
theorem RowsIn.mono {h h' : Heap} (k : ∀ b o, h.get? b = some o → h'.get? b = some o) : ∀ {r : List Addr} {ks : List (List Int)}, RowsIn h r ks → RowsIn h' r ks
  | [], [], _ => trivial
  | _ :: _, _ :: _, ⟨⟨us, n, e, hi, hl⟩, r⟩ => ⟨⟨us, n, k _ _ e, hi, hl⟩, r.mono k⟩
  | [], _ :: _, x => x.elim
  | _ :: _, [], x => x.elim
theorem AesAt.mono {w : World} {h h' : Heap} {x : Addr} {ks : List (List Int)} (A : AesAt w h x ks) (k : ∀ b o, h.get? b = some o → h'.get? b = some o) : AesAt w h' x ks := by
  obtain ⟨dx, ke, kd, t1, t2, nd, nk, bs, a, b, c, d, e⟩ := A
  exact ⟨dx, ke, kd, t1, t2, nd, nk, bs, k _ _ a, k _ _ b, k _ _ c, d.mono k, e⟩
end
section
theorem init_if (w : World) {oc dV kV doc pm cdv ct : Value} {od an : Option Addr} {osl : Array (Option Value)} {name qual : Str} {params : Arguments} {body : List Stmt} {scope : Scope} (ho : (mkK.heap_1 w.params).lookup 103 = some ⟨oc, od, .func (fnOf name qual params body scope dV kV doc pm an cdv ct), osl⟩)
    {p : Program} {loose : List Str} {mean : ExcName → Option Value} {mg mb : Str → Option Value} {dp un : Nat} {gd : Option (List Code)} {cn : Str} {cs : Scope} {a : Addr} {ccd : Value} {cl : List (Str × Addr)} {outer : List Env} {base g h : Heap} {L L1 : Addr} {s : Shared} {tk : Nat} {m : Str → Option Value} {nw : List (Addr × Obj)}
    (B : Below (ktrTop dp un gd cn cs L a ccd cl outer) base (envX cn cs L a ccd cl :: outer) g) (F : Fr g L1 h m) (X : (mkK.heap_1 w.params).In g) (N : News g L1 h nw) (T : Top p loose mean mg mb g) {st : Stmt} (hst : pickS [10, 0, 3] body = some st) {x dx D9 D8 D7 : Addr} {oc1 : Obj} {bs bs2 : List Addr} {ME : List (List Int)} {kc k t : Nat} {tk0 : List Int} (hk : KcOk kc) (hl0 : tk0.length = kc)
    (O : InitO (L1 + 1) x dx D9 D8 D7 (bs ++ bs2)) (J : InitJ w.params (L1 + 1) x dx D9 D8 D7 oc1 bs bs2 (tk0.set 0 (Builtin.bitXor (tk0.getD 0 0) (keyX w.params (tk0.getD (kc - 1) 0) k))) ME nw) (J2 : InitK2 kc x D7 (k + 1) t m) :
    wpAny (model PySem.Challenge.rw_yv0001_01.row.prog w) ((ktrTop dp un gd cn cs L a ccd cl outer).deeper (envOfC qual scope L1 103 cdv)) (exec st (envOfC qual scope L1 103 cdv)) (CutEnd g L1 s (fun m nw => InitJ w.params (L1 + 1) x dx D9 D8 D7 oc1 bs bs2 (stepTk w.params kc tk0 k) ME nw ∧ InitK2 kc x D7 (k + 1) t m)) (fun _ _ => False) { s with heap := h, toks := tk } := by
  with_unfolding_all (refine' fn_go ho ?hk9 ?_; (case hk9 => k_is))
  rintro rfl rfl rfl rfl
  clear ho
  refine pick_go hst (by exact rfl) ?_
  rintro rfl
  clear hst
  refine letA ?_
  intro A0
  (try dsimp only)
  (try k_fold)
  obtain ⟨o1, o2, o3, o4, o5, o6, o7, o8, o9, o10, o11⟩ := O
  obtain ⟨us, n, nD, nE, nd, t1', t2', tl, MD, rfl, hs1, hM, hlE, hlD⟩ := J
  obtain ⟨ta, tb', tc, td, te, hK⟩ := J2
  obtain ⟨u, rfl⟩ : ∃ u, m = look _ u := ⟨m, hK.look⟩
  clear hK
  have hk8 : 4 ≤ kc ∧ kc ≤ 8 := by have := hk.it; omega
  generalize ht1 : tk0.set 0 (Builtin.bitXor (tk0.getD 0 0) (keyX w.params (tk0.getD (kc - 1) 0) k)) = t1 at hs1
  have hlt1 : t1.length = kc := by rw [← ht1, List.length_set]; omega
  have dv : DivIs (kc : Int) 2 ((kc / 2 : Nat) : Int) := DivIs.nat kc 2 (by omega) (by omega) (by omega)
  walk1
  (repeat' (first | (k_unfold; (try dsimp only)) | ((with_reducible show wpAny _ _ (exec _ _) _ _ _); (fail_if_success (fail_if_success k_fold)); refine foldQ ?_; intro q9) | ((with_reducible show wpAny _ _ (eval (Expr.Call _ _ _ _) _) _ _ _); (fail_if_success (fail_if_success k_fold)); refine foldQ ?_; intro q9) | ((with_reducible show wpAny _ _ (eval (Expr.Subscript _ _ _) _) _ _ _); (fail_if_success (fail_if_success k_fold)); refine foldQ ?_; intro q9)  | ((with_reducible show wpAny _ _ (pyIter (Value.ref _)) (fun it s₂ => LoopAtV _ _ _ _ _ _ _ _ _ it s₂) _ _); (refine Hold.mk ?_)) | (k_here; (with_reducible show wpAny _ _ (exec (Stmt.For (Expr.Name _ _) (Expr.Call _ _ _ _) _ [] _) _) _ _ _); (rename Fr _ _ _ _ => lF'); (with_unfolding_all refine' For_invVF lF' ?k1 ?k2 ?_; (case k1 | k2 => exact rfl); k_whole)) | (k_here; (with_reducible show wpAny _ _ (binaryOp Operator.FloorDiv (Value.int _ _) (Value.int _ _)) _ _ _); refine div_val (by tb_start) ?_) | (k_end; wrow_close) | walk1 | (dsimp only; walk1) | (leave1; walk_say "STEP leave1"; try dsimp only) | fail "no step"))
  · rename (kc : Int) ≠ 8 => hk9
    unfold Hold
    rename IsRange _ _ _ _ _ _ _ _ => hrA
    rename News _ _ _ _ => NA
    rename Fr _ _ _ _ => FA
    refine krs_go (n := kc - 1) (fun i m nw => InitJ w.params (L1 + 1) x dx D9 D8 D7 oc1 bs bs2 (chain t1 1 i) ME nw ∧ InitK2 kc x D7 (k + 1) t m) rfl hrA (small_one (by omega) (by omega) (by omega) (by omega)) ((rangeSize_nat _ _).trans (by omega)) FA NA
      ⟨⟨_, _, _, _, _, _, _, tl, _, rfl, hs1, hM, hlE, hlD⟩, _, _, _, _, _, rfl, rfl, rfl, rfl, rfl, rfl, rfl, trivial⟩ (by lcg_sub) ?_ ?_
    · --DONE{
      rintro i m nw I t9 h tk hi ⟨⟨us, n, nD, nE, nd, t1', t2', tl, MD, rfl, hus, hM, hlE, hlD⟩, ta, tb', tc, td, te, hK⟩ hoI F8 N8
      have hcl := chain_len t1 1 i
      rw [hlt1] at hcl
      generalize hc : chain t1 1 i = tc9 at hus hcl
      first | replace F8 := hK.fr F8 | replace F8 := hK.frI F8
      clear hK NA FA hrA
      have hI := hM.notin (fun p hp => hoI p (by simp [hp]))
      have hDI : (@Ne Nat D7 I) := hoI _ List.mem_cons_self
      have q1 : (0 : Int) ≤ 1 + (i : Int) * 1 := by omega
      have q2 : 1 + (i : Int) * 1 < (tc9.length : Int) := by omega
      have q3 : 1 + (i : Int) * 1 < 2 ^ 63 := by omega
      have q4 : (0 : Int) ≤ 1 + (i : Int) * 1 - 1 := by omega
      have q5 : 1 + (i : Int) * 1 - 1 < (tc9.length : Int) := by omega
      have q6 : 1 + (i : Int) * 1 - 1 < 2 ^ 63 := by omega
      (repeat' (first | (k_unfold; (try dsimp only)) | ((with_reducible show wpAny _ _ (exec _ _) _ _ _); (fail_if_success (fail_if_success k_fold)); refine foldQ ?_; intro q9) | ((with_reducible show wpAny _ _ (eval (Expr.Call _ _ _ _) _) _ _ _); (fail_if_success (fail_if_success k_fold)); refine foldQ ?_; intro q9) | ((with_reducible show wpAny _ _ (eval (Expr.Subscript _ _ _) _) _ _ _); (fail_if_success (fail_if_success k_fold)); refine foldQ ?_; intro q9)  | (k_here; (with_reducible show UnrEnd _ _ _ _ _ _ _); (refine Hold.mk ?_)) | (k_here; (with_reducible show wpAny _ _ (setItem (Value.ref _) (Value.int _ _) (Value.int _ _)) _ _ _); k_dflt (refine' ksa_set ?k1 ?k2 ?k3 ?k4 ?k5 ?k6 ?k7 ?_; (case k1 | k2 => k_asm); (case k3 => k_upd); (case k4 => tb_start); (case k5 | k6 | k7 => first | tb_start | exact of_decide_eq_true rfl); k_whole); intro h' F' N' hi' hl' hs'; (try k_sweep)) | (k_here; (with_reducible show wpAny _ _ (subscriptTail _ _ (Value.ref _) (Value.int _ _)) _ _ _); k_dflt (refine item_led (by k_asm) (by k_mem) (by tb_start) (by tb_start) (by tb_start) (by tb_start) (fun t' => ?_)); (try k_fold)) | (k_end; wrow_close) | walk1 | (dsimp only; walk1) | (leave1; walk_say "STEP leave1"; try dsimp only) | fail "no step"))
      unfold Hold
      rename IntsAre (List.set _ _ _) _ => hs9
      rename News _ _ _ _ => N9
      rename Fr _ _ _ _ => F9
      have e : tc9.set (1 + (i : Int) * 1).toNat (Builtin.bitXor (tc9.getD (1 + (i : Int) * 1).toNat 0) (tc9.getD (1 + (i : Int) * 1 - 1).toNat 0)) = chain t1 1 (i + 1) := by
        rw [chain_succ, hc, show (1 + (i : Int) * 1).toNat = 1 + i by omega, show (1 + (i : Int) * 1 - 1).toNat = 1 + i - 1 by omega]
      rw [e] at hs9
      exact unr_end F9 N9 ⟨⟨_, _, _, _, _, _, _, tl, MD, rfl, hs9, hM, hlE, hlD⟩, _, _, _, _, _, rfl, rfl, rfl, rfl, rfl, rfl, rfl, trivial⟩ (by k_mem) (by lcg_sub) (off_same hoI rfl)
      --}DONE
    · rintro m nw h tk ⟨⟨us, n, nD, nE, nd, t1', t2', tl, MD, rfl, hus, hM, hlE, hlD⟩, ta, tb', tc, td, te, hK⟩ F8 N8
      first | replace F8 := hK.fr F8 | replace F8 := hK.frI F8
      clear hK NA FA hrA
      (repeat' (first | (k_unfold; (try dsimp only)) | ((with_reducible show wpAny _ _ (exec _ _) _ _ _); (fail_if_success (fail_if_success k_fold)); refine foldQ ?_; intro q9) | ((with_reducible show wpAny _ _ (eval (Expr.Call _ _ _ _) _) _ _ _); (fail_if_success (fail_if_success k_fold)); refine foldQ ?_; intro q9) | ((with_reducible show wpAny _ _ (eval (Expr.Subscript _ _ _) _) _ _ _); (fail_if_success (fail_if_success k_fold)); refine foldQ ?_; intro q9)  | (k_end; wrow_close) | walk1 | (dsimp only; walk1) | (leave1; walk_say "STEP leave1"; try dsimp only) | fail "no step"))
      rename News _ _ _ _ => N9
      rename Fr _ _ _ _ => F9
      have e : chain t1 1 (kc - 1) = stepTk w.params kc tk0 k := by
        unfold stepTk
        rw [if_neg (by omega), ht1]
      rw [e] at hus
      exact CutEnd.mk F9 N9 (by lcg_sub) ⟨⟨_, _, _, _, _, _, _, tl, MD, rfl, hus, hM, hlE, hlD⟩, _, _, _, _, _, rfl, rfl, rfl, rfl, rfl, rfl, rfl, trivial⟩
  · rename (kc : Int) = 8 => hk9
    unfold Hold
    rename IsRange _ _ _ _ _ _ _ _ => hrA
    rename News _ _ _ _ => NA
    rename Fr _ _ _ _ => FA
    refine krs_go (n := 3) (fun i m nw => InitJ w.params (L1 + 1) x dx D9 D8 D7 oc1 bs bs2 (chain t1 1 i) ME nw ∧ InitK2 kc x D7 (k + 1) t m) rfl hrA (small_one (by omega) (by omega) (by omega) (by omega)) ((rangeSize_nat _ _).trans (by omega)) FA NA
      ⟨⟨_, _, _, _, _, _, _, tl, _, rfl, hs1, hM, hlE, hlD⟩, _, _, _, _, _, rfl, rfl, rfl, rfl, rfl, rfl, rfl, trivial⟩ (by lcg_sub) ?_ ?_
    · --DONE{
      rintro i m nw I t9 h tk hi ⟨⟨us, n, nD, nE, nd, t1', t2', tl, MD, rfl, hus, hM, hlE, hlD⟩, ta, tb', tc, td, te, hK⟩ hoI F8 N8
      have hcl := chain_len t1 1 i
      rw [hlt1] at hcl
      generalize hc : chain t1 1 i = tc9 at hus hcl
      first | replace F8 := hK.fr F8 | replace F8 := hK.frI F8
      clear hK NA FA hrA
      have hI := hM.notin (fun p hp => hoI p (by simp [hp]))
      have hDI : (@Ne Nat D7 I) := hoI _ List.mem_cons_self
      have q1 : (0 : Int) ≤ 1 + (i : Int) * 1 := by omega
      have q2 : 1 + (i : Int) * 1 < (tc9.length : Int) := by omega
      have q3 : 1 + (i : Int) * 1 < 2 ^ 63 := by omega
      have q4 : (0 : Int) ≤ 1 + (i : Int) * 1 - 1 := by omega
      have q5 : 1 + (i : Int) * 1 - 1 < (tc9.length : Int) := by omega
      have q6 : 1 + (i : Int) * 1 - 1 < 2 ^ 63 := by omega
      (repeat' (first | (k_unfold; (try dsimp only)) | ((with_reducible show wpAny _ _ (exec _ _) _ _ _); (fail_if_success (fail_if_success k_fold)); refine foldQ ?_; intro q9) | ((with_reducible show wpAny _ _ (eval (Expr.Call _ _ _ _) _) _ _ _); (fail_if_success (fail_if_success k_fold)); refine foldQ ?_; intro q9) | ((with_reducible show wpAny _ _ (eval (Expr.Subscript _ _ _) _) _ _ _); (fail_if_success (fail_if_success k_fold)); refine foldQ ?_; intro q9)  | (k_here; (with_reducible show UnrEnd _ _ _ _ _ _ _); (refine Hold.mk ?_)) | (k_here; (with_reducible show wpAny _ _ (setItem (Value.ref _) (Value.int _ _) (Value.int _ _)) _ _ _); k_dflt (refine' ksa_set ?k1 ?k2 ?k3 ?k4 ?k5 ?k6 ?k7 ?_; (case k1 | k2 => k_asm); (case k3 => k_upd); (case k4 => tb_start); (case k5 | k6 | k7 => first | tb_start | exact of_decide_eq_true rfl); k_whole); intro h' F' N' hi' hl' hs'; (try k_sweep)) | (k_here; (with_reducible show wpAny _ _ (subscriptTail _ _ (Value.ref _) (Value.int _ _)) _ _ _); k_dflt (refine item_led (by k_asm) (by k_mem) (by tb_start) (by tb_start) (by tb_start) (by tb_start) (fun t' => ?_)); (try k_fold)) | (k_end; wrow_close) | walk1 | (dsimp only; walk1) | (leave1; walk_say "STEP leave1"; try dsimp only) | fail "no step"))
      unfold Hold
      rename IntsAre (List.set _ _ _) _ => hs9
      rename News _ _ _ _ => N9
      rename Fr _ _ _ _ => F9
      have e : tc9.set (1 + (i : Int) * 1).toNat (Builtin.bitXor (tc9.getD (1 + (i : Int) * 1).toNat 0) (tc9.getD (1 + (i : Int) * 1 - 1).toNat 0)) = chain t1 1 (i + 1) := by
        rw [chain_succ, hc, show (1 + (i : Int) * 1).toNat = 1 + i by omega, show (1 + (i : Int) * 1 - 1).toNat = 1 + i - 1 by omega]
      rw [e] at hs9
      exact unr_end F9 N9 ⟨⟨_, _, _, _, _, _, _, tl, MD, rfl, hs9, hM, hlE, hlD⟩, _, _, _, _, _, rfl, rfl, rfl, rfl, rfl, rfl, rfl, trivial⟩ (by k_mem) (by lcg_sub) (off_same hoI rfl)
      --}DONE
    · rintro m nw h tk ⟨⟨us, n, nD, nE, nd, t1', t2', tl, MD, rfl, hus, hM, hlE, hlD⟩, ta, tb', tc, td, te, hK⟩ F8 N8
      first | replace F8 := hK.fr F8 | replace F8 := hK.frI F8
      clear hK NA FA hrA
      generalize hc2 : chain t1 1 3 = t2 at hus
      have hlt2 : t2.length = kc := by rw [← hc2, chain_len, hlt1]
      have g1 : (0 : Int) ≤ ((kc / 2 : Nat) : Int) - 1 := by omega
      have g2 : ((kc / 2 : Nat) : Int) - 1 < (t2.length : Int) := by omega
      have g3 : ((kc / 2 : Nat) : Int) - 1 < 2 ^ 63 := by omega
      have g4 : (0 : Int) ≤ ((kc / 2 : Nat) : Int) := by omega
      have g5 : ((kc / 2 : Nat) : Int) < (t2.length : Int) := by omega
      have g6 : ((kc / 2 : Nat) : Int) < 2 ^ 63 := by omega
      (repeat' (first | (k_unfold; (try dsimp only)) | ((with_reducible show wpAny _ _ (exec _ _) _ _ _); (fail_if_success (fail_if_success k_fold)); refine foldQ ?_; intro q9) | ((with_reducible show wpAny _ _ (eval (Expr.Call _ _ _ _) _) _ _ _); (fail_if_success (fail_if_success k_fold)); refine foldQ ?_; intro q9) | ((with_reducible show wpAny _ _ (eval (Expr.Subscript _ _ _) _) _ _ _); (fail_if_success (fail_if_success k_fold)); refine foldQ ?_; intro q9)  | (k_here; (with_reducible show wpAny _ _ (binaryOp Operator.LShift (Value.int _ _) (Value.int _ _)) _ _ _); k_dflt (refine shl_oct (by first | tb_start | (with_unfolding_all assumption)) (by decide) (by decide) (fun t' k' => ?_)); (try k_fold)) | (k_here; (with_reducible show wpAny _ _ (setItem (Value.ref _) (Value.int _ _) (Value.int _ _)) _ _ _); k_dflt (refine' ksa_set ?k1 ?k2 ?k3 ?k4 ?k5 ?k6 ?k7 ?_; (case k1 | k2 => k_asm); (case k3 => k_upd); (case k4 => tb_start); (case k5 | k6 | k7 => first | tb_start | exact of_decide_eq_true rfl); k_whole); intro h' F' N' hi' hl' hs'; (try k_sweep)) | (k_here; (with_reducible show wpAny _ _ (subscriptTail _ _ (Value.ref _) (Value.int _ _)) _ _ _); k_dflt (refine item_led (by k_asm) (by k_mem) (by tb_start) (by tb_start) (by tb_start) (by tb_start) (fun t' => ?_)); (try k_fold)) | ((with_reducible show wpAny _ _ (pyIter (Value.ref _)) (fun it s₂ => LoopAtV _ _ _ _ _ _ _ _ _ it s₂) _ _); (refine Hold.mk ?_)) | (k_here; (with_reducible show wpAny _ _ (exec (Stmt.For (Expr.Name _ _) (Expr.Call _ _ _ _) _ [] _) _) _ _ _); (rename Fr _ _ _ _ => lF'); (with_unfolding_all refine' For_invVF lF' ?k1 ?k2 ?_; (case k1 | k2 => exact rfl); k_whole)) | (k_here; (with_reducible show wpAny _ _ (binaryOp Operator.FloorDiv (Value.int _ _) (Value.int _ _)) _ _ _); refine div_val (by tb_start) ?_) | (k_here; (with_reducible show wpAny _ _ (subscriptTail _ _ (Value.ref 59) (Value.int _ _)) _ _ _); k_dflt (refine sub_S (by k_asm) (by k_asm) (fun t' ho' => ?_)); (try k_fold)) | (k_end; wrow_close) | walk1 | (dsimp only; walk1) | (leave1; walk_say "STEP leave1"; try dsimp only) | fail "no step"))
      clear F8 N8
      rename IntsAre (List.set _ _ _) _ => hs0
      have h42 : ((kc / 2 : Nat) : Int) = 4 := by omega
      generalize hU : List.set us _ _ = U at hs0
      rw [h42] at hs0
      obtain ⟨t3, ht3, hs3⟩ : ∃ t3, t3 = t2.set 4 (Builtin.bitXor (t2.getD 4 0) (keyY w.params (t2.getD 3 0))) ∧ IntsAre U t3 := ⟨_, rfl, hs0⟩
      subst hU
      have hlt3 : t3.length = kc := by rw [ht3, List.length_set]; exact hlt2
      clear hs0
      rename IsRange _ _ _ _ _ _ _ _ => hrA
      rw [show ((kc / 2 : Nat) : Int) + 1 = 5 by omega] at hrA
      unfold Hold
      rename IsRange _ _ _ _ _ _ _ _ => hrA
      rename News _ _ _ _ => NA
      rename Fr _ _ _ _ => FA
      refine krs_go (n := 3) (fun i m nw => InitJ w.params (L1 + 1) x dx D9 D8 D7 oc1 bs bs2 (chain t3 5 i) ME nw ∧ InitK2 kc x D7 (k + 1) t m) rfl hrA (small_one (by omega) (by omega) (by omega) (by omega)) ((rangeSize_nat _ _).trans (by omega)) FA NA
        ⟨⟨_, _, _, _, _, _, _, tl, _, rfl, hs3, hM, hlE, hlD⟩, _, _, _, _, _, rfl, rfl, rfl, rfl, rfl, rfl, rfl, trivial⟩ (by lcg_sub) ?_ ?_
      · --DONE{
        rintro i m nw I t9 h tk hi ⟨⟨us, n, nD, nE, nd, t1', t2', tl, MD, rfl, hus, hM, hlE, hlD⟩, ta, tb', tc, td, te, hK⟩ hoI F8 N8
        have hcl := chain_len t3 5 i
        rw [hlt3] at hcl
        generalize hc : chain t3 5 i = tc9 at hus hcl
        first | replace F8 := hK.fr F8 | replace F8 := hK.frI F8
        clear hK NA FA hrA
        have hI := hM.notin (fun p hp => hoI p (by simp [hp]))
        have hDI : (@Ne Nat D7 I) := hoI _ List.mem_cons_self
        have q1 : (0 : Int) ≤ 5 + (i : Int) * 1 := by omega
        have q2 : 5 + (i : Int) * 1 < (tc9.length : Int) := by omega
        have q3 : 5 + (i : Int) * 1 < 2 ^ 63 := by omega
        have q4 : (0 : Int) ≤ 5 + (i : Int) * 1 - 1 := by omega
        have q5 : 5 + (i : Int) * 1 - 1 < (tc9.length : Int) := by omega
        have q6 : 5 + (i : Int) * 1 - 1 < 2 ^ 63 := by omega
        (repeat' (first | (k_unfold; (try dsimp only)) | ((with_reducible show wpAny _ _ (exec _ _) _ _ _); (fail_if_success (fail_if_success k_fold)); refine foldQ ?_; intro q9) | ((with_reducible show wpAny _ _ (eval (Expr.Call _ _ _ _) _) _ _ _); (fail_if_success (fail_if_success k_fold)); refine foldQ ?_; intro q9) | ((with_reducible show wpAny _ _ (eval (Expr.Subscript _ _ _) _) _ _ _); (fail_if_success (fail_if_success k_fold)); refine foldQ ?_; intro q9)  | (k_here; (with_reducible show UnrEnd _ _ _ _ _ _ _); (refine Hold.mk ?_)) | (k_here; (with_reducible show wpAny _ _ (setItem (Value.ref _) (Value.int _ _) (Value.int _ _)) _ _ _); k_dflt (refine' ksa_set ?k1 ?k2 ?k3 ?k4 ?k5 ?k6 ?k7 ?_; (case k1 | k2 => k_asm); (case k3 => k_upd); (case k4 => tb_start); (case k5 | k6 | k7 => first | tb_start | exact of_decide_eq_true rfl); k_whole); intro h' F' N' hi' hl' hs'; (try k_sweep)) | (k_here; (with_reducible show wpAny _ _ (subscriptTail _ _ (Value.ref _) (Value.int _ _)) _ _ _); k_dflt (refine item_led (by k_asm) (by k_mem) (by tb_start) (by tb_start) (by tb_start) (by tb_start) (fun t' => ?_)); (try k_fold)) | (k_end; wrow_close) | walk1 | (dsimp only; walk1) | (leave1; walk_say "STEP leave1"; try dsimp only) | fail "no step"))
        unfold Hold
        rename IntsAre (List.set _ _ _) _ => hs9
        rename News _ _ _ _ => N9
        rename Fr _ _ _ _ => F9
        have e : tc9.set (5 + (i : Int) * 1).toNat (Builtin.bitXor (tc9.getD (5 + (i : Int) * 1).toNat 0) (tc9.getD (5 + (i : Int) * 1 - 1).toNat 0)) = chain t3 5 (i + 1) := by
          rw [chain_succ, hc, show (5 + (i : Int) * 1).toNat = 5 + i by omega, show (5 + (i : Int) * 1 - 1).toNat = 5 + i - 1 by omega]
        rw [e] at hs9
        exact unr_end F9 N9 ⟨⟨_, _, _, _, _, _, _, tl, MD, rfl, hs9, hM, hlE, hlD⟩, _, _, _, _, _, rfl, rfl, rfl, rfl, rfl, rfl, rfl, trivial⟩ (by k_mem) (by lcg_sub) (off_same hoI rfl)
        --}DONE
      · rintro m nw h tk ⟨⟨us, n, nD, nE, nd, t1', t2', tl, MD, rfl, hus, hM, hlE, hlD⟩, ta, tb', tc, td, te, hK⟩ F8 N8
        first | replace F8 := hK.fr F8 | replace F8 := hK.frI F8
        clear hK NA FA hrA
        (repeat' (first | (k_unfold; (try dsimp only)) | ((with_reducible show wpAny _ _ (exec _ _) _ _ _); (fail_if_success (fail_if_success k_fold)); refine foldQ ?_; intro q9) | ((with_reducible show wpAny _ _ (eval (Expr.Call _ _ _ _) _) _ _ _); (fail_if_success (fail_if_success k_fold)); refine foldQ ?_; intro q9) | ((with_reducible show wpAny _ _ (eval (Expr.Subscript _ _ _) _) _ _ _); (fail_if_success (fail_if_success k_fold)); refine foldQ ?_; intro q9)  | (k_end; wrow_close) | walk1 | (dsimp only; walk1) | (leave1; walk_say "STEP leave1"; try dsimp only) | fail "no step"))
        rename News _ _ _ _ => N9
        rename Fr _ _ _ _ => F9
        have e : chain t3 5 3 = stepTk w.params kc tk0 k := by
          unfold stepTk
          rw [if_pos (by omega), ht1, ht3, hc2]
        rw [e] at hus
        exact CutEnd.mk F9 N9 (by lcg_sub) ⟨⟨_, _, _, _, _, _, _, tl, MD, rfl, hus, hM, hlE, hlD⟩, _, _, _, _, _, rfl, rfl, rfl, rfl, rfl, rfl, rfl, trivial⟩
end
section
theorem init_while (w : World) {oc dV kV doc pm cdv ct : Value} {od an : Option Addr} {osl : Array (Option Value)} {name qual : Str} {params : Arguments} {body : List Stmt} {scope : Scope} (ho : (mkK.heap_1 w.params).lookup 103 = some ⟨oc, od, .func (fnOf name qual params body scope dV kV doc pm an cdv ct), osl⟩)
    {p : Program} {loose : List Str} {mean : ExcName → Option Value} {mg mb : Str → Option Value} {dp un : Nat} {gd : Option (List Code)} {cn : Str} {cs : Scope} {a : Addr} {ccd : Value} {cl : List (Str × Addr)} {outer : List Env} {base g h : Heap} {L L1 : Addr} {s : Shared} {tk : Nat} {m : Str → Option Value} {nw : List (Addr × Obj)}
    (B : Below (ktrTop dp un gd cn cs L a ccd cl outer) base (envX cn cs L a ccd cl :: outer) g) (F : Fr g L1 h m) (X : (mkK.heap_1 w.params).In g) (N : News g L1 h nw) (T : Top p loose mean mg mb g) {st : Stmt} (hst : pickS [10, 0, 5] body = some st) {x dx D9 D8 D7 : Addr} {oc1 : Obj} {bs bs2 : List Addr} {ME : List (List Int)} {kc r t : Nat} {tks : List Int} (hk : KcOk kc) (htt : t < 4 * kc + 28) (hl0 : tks.length = kc)
    (hb1 : bs.length = kc + 7) (hb2 : bs2.length = kc + 7) (O : InitO (L1 + 1) x dx D9 D8 D7 (bs ++ bs2)) (J : InitJ w.params (L1 + 1) x dx D9 D8 D7 oc1 bs bs2 tks ME nw) (J2 : InitK3 kc x D7 r t 0 m) :
    wpAny (model PySem.Challenge.rw_yv0001_01.row.prog w) ((ktrTop dp un gd cn cs L a ccd cl outer).deeper (envOfC qual scope L1 103 cdv)) (exec st (envOfC qual scope L1 103 cdv)) (CutEnd g L1 s (fun m nw => InitJ w.params (L1 + 1) x dx D9 D8 D7 oc1 bs bs2 tks (fillM t tks ME (min kc (4 * kc + 28 - t))) nw ∧ InitK2 kc x D7 r (t + min kc (4 * kc + 28 - t)) m)) (fun _ _ => False) { s with heap := h, toks := tk } := by
  with_unfolding_all (refine' fn_go ho ?hk9 ?_; (case hk9 => k_is))
  rintro rfl rfl rfl rfl
  clear ho
  refine pick_go hst (by exact rfl) ?_
  rintro rfl
  clear hst
  refine letA ?_
  intro A0
  (try dsimp only)
  (try k_fold)
  obtain ⟨o1, o2, o3, o4, o5, o6, o7, o8, o9, o10, o11⟩ := O
  have hk8 : 4 ≤ kc ∧ kc ≤ 8 := by have := hk.it; omega
  refine While_inv (fun n m nw => ∃ j, n = kc - j ∧ j ≤ min kc (4 * kc + 28 - t) ∧ InitJ w.params (L1 + 1) x dx D9 D8 D7 oc1 bs bs2 tks (fillM t tks ME j) nw ∧ InitK3 kc x D7 r (t + j) j m) (n₀ := kc) F N ⟨0, rfl, by omega, J, J2⟩ ?_
  clear J J2 F N
  rintro n m nw h tk F N ⟨j, rfl, hj, ⟨us, n, nD, nE, nd, t1, t2, tl, MD, rfl, hus, hM, hlE, hlD⟩, ta, tb', tc, td, te, tf, hK⟩
  generalize hME : fillM t tks ME j = ME1 at hM hlE
  obtain ⟨u, rfl⟩ : ∃ u, m = look _ u := ⟨m, hK.look⟩
  clear hK
  generalize hT : t + j = T at F
  have d1 : DivIs (T : Int) 4 ((T / 4 : Nat) : Int) := DivIs.nat T 4 (by omega) (by omega) (by omega)
  have d2 : ModIs (T : Int) 4 ((T % 4 : Nat) : Int) := ModIs.nat T 4 (by omega)
  have fin : j = min kc (4 * kc + 28 - t) → ∀ h' tk' m' nw', Fr g L1 h' m' → News g L1 h' nw' → (∀ p ∈ (D7, listOf us.toArray n) :: (D8, listOf (bs2.map Value.ref).toArray nD) :: (D9, listOf (bs.map Value.ref).toArray nE) :: (x, instObj 116 dx) :: (dx, dictOf (kePair w.params D9 D8 t1 t2) nd) :: (L1 + 1, oc1) :: tl, p ∈ nw') →
      InitK2 kc x D7 r T m' → CutEnd g L1 s (fun m nw => InitJ w.params (L1 + 1) x dx D9 D8 D7 oc1 bs bs2 tks (fillM t tks ME (min kc (4 * kc + 28 - t))) nw ∧ InitK2 kc x D7 r (t + min kc (4 * kc + 28 - t)) m) .next { s with heap := h', toks := tk' } := by
    intro ej h' tk' m' nw' F' N' sub k'
    subst hME
    rw [← ej, hT]
    exact CutEnd.mk F' N' sub ⟨⟨us, _, _, _, _, _, _, _, _, rfl, hus, hM, hlE, hlD⟩, k'⟩
  by_cases hj1 : j < kc
  case neg =>
    (repeat' (first | (k_unfold; (try dsimp only)) | ((with_reducible show wpAny _ _ (exec _ _) _ _ _); (fail_if_success (fail_if_success k_fold)); refine foldQ ?_; intro q9) | ((with_reducible show wpAny _ _ (eval (Expr.Call _ _ _ _) _) _ _ _); (fail_if_success (fail_if_success k_fold)); refine foldQ ?_; intro q9) | ((with_reducible show wpAny _ _ (eval (Expr.Subscript _ _ _) _) _ _ _); (fail_if_success (fail_if_success k_fold)); refine foldQ ?_; intro q9)  | (k_end; wrow_close) | walk1 | (dsimp only; walk1) | (leave1; walk_say "STEP leave1"; try dsimp only) | fail "no step"))
    rename News _ _ _ _ => N9
    rename Fr _ _ _ _ => F9
    exact fin (by omega) _ _ _ _ F9 N9 (by lcg_sub) ⟨_, _, _, _, _, rfl, rfl, rfl, rfl, rfl, rfl, rfl, trivial⟩
  by_cases hT1 : T < 4 * kc + 28
  case neg =>
    (repeat' (first | (k_unfold; (try dsimp only)) | ((with_reducible show wpAny _ _ (exec _ _) _ _ _); (fail_if_success (fail_if_success k_fold)); refine foldQ ?_; intro q9) | ((with_reducible show wpAny _ _ (eval (Expr.Call _ _ _ _) _) _ _ _); (fail_if_success (fail_if_success k_fold)); refine foldQ ?_; intro q9) | ((with_reducible show wpAny _ _ (eval (Expr.Subscript _ _ _) _) _ _ _); (fail_if_success (fail_if_success k_fold)); refine foldQ ?_; intro q9)  | (k_end; wrow_close) | walk1 | (dsimp only; walk1) | (leave1; walk_say "STEP leave1"; try dsimp only) | fail "no step"))
    rename News _ _ _ _ => N9
    rename Fr _ _ _ _ => F9
    exact fin (by omega) _ _ _ _ F9 N9 (by lcg_sub) ⟨_, _, _, _, _, rfl, rfl, rfl, rfl, rfl, rfl, rfl, trivial⟩
  · clear fin
    have e1 : (0 : Int) ≤ ((T / 4 : Nat) : Int) := by omega
    have e2 : ((T / 4 : Nat) : Int) < (bs.length : Int) := by omega
    have e3 : ((T / 4 : Nat) : Int) < 2 ^ 63 := by omega
    have e4 : (0 : Int) ≤ ((T % 4 : Nat) : Int) := by omega
    have e5 : ((T % 4 : Nat) : Int) < 4 := by omega
    have f1 : (0 : Int) ≤ (kc : Int) + 6 - ((T / 4 : Nat) : Int) := by omega
    have f2 : (kc : Int) + 6 - ((T / 4 : Nat) : Int) < (bs2.length : Int) := by omega
    have f3 : (kc : Int) + 6 - ((T / 4 : Nat) : Int) < 2 ^ 63 := by omega
    have g1 : (0 : Int) ≤ (j : Int) := by omega
    have g2 : (j : Int) < (tks.length : Int) := by omega
    have g3 : (j : Int) < 2 ^ 63 := by omega
    (repeat' (first | (k_unfold; (try dsimp only)) | ((with_reducible show wpAny _ _ (exec _ _) _ _ _); (fail_if_success (fail_if_success k_fold)); refine foldQ ?_; intro q9) | ((with_reducible show wpAny _ _ (eval (Expr.Call _ _ _ _) _) _ _ _); (fail_if_success (fail_if_success k_fold)); refine foldQ ?_; intro q9) | ((with_reducible show wpAny _ _ (eval (Expr.Subscript _ _ _) _) _ _ _); (fail_if_success (fail_if_success k_fold)); refine foldQ ?_; intro q9)  | (k_here; (with_reducible show wpAny _ _ (subscriptTail _ _ (Value.ref _) (Value.int _ _)) _ _ _); k_dflt (refine item_led (by k_asm) (by k_mem) (by tb_start) (by tb_start) (by tb_start) (by tb_start) (fun t' => ?_)); (try k_fold)) | (k_here; (with_reducible show wpAny _ _ (setItem (Value.ref _) (Value.int _ _) (Value.int _ _)) _ _ _); k_dflt (refine' row_setD ?k1 ?k2 ?k3 ?k4 ?k4b ?k5 ?k6 ?k7 ?k8 ?k9 ?_; (case k1 | k2 => k_asm); (case k3 | k4 | k4b => tb_start); (case k5 => lcg_sub); (case k6 | k7 | k8 => tb_start); (case k9 => (intro hin' o1' o2' tl' hu'; k_upd)); k_whole); intro h' tl' MD' F' N' hM' hl'; (try k_sweep)) | (k_here; (with_reducible show wpAny _ _ (setItem (Value.ref _) (Value.int _ _) (Value.int _ _)) _ _ _); k_dflt (refine' row_setE ?k1 ?k2 ?k3 ?k4 ?k5 ?k6 ?k7 ?k8 ?k9 ?_; (case k1 | k2 => k_asm); (case k3 | k4 => tb_start); (case k5 => lcg_sub); (case k6 | k7 | k8 => tb_start); (case k9 => (intro hin' o1' o2' tl' hu'; k_upd)); k_whole); intro h' tl' ME' F' N' hE' hM' hl'; (try k_sweep)) | (k_here; (with_reducible show wpAny _ _ (subscriptTail _ _ (Value.ref _) (Value.int _ _)) _ _ _); k_dflt (refine sub_refs (by k_asm) (by k_mem) (by tb_start) (by tb_start) (by tb_start) (fun a' ha' => ?_)); (try k_fold)) | (k_here; (with_reducible show wpAny _ _ (binaryOp Operator.Mod (Value.int _ _) (Value.int _ _)) _ _ _); refine mod_val (by tb_start) ?_) | (k_here; (with_reducible show wpAny _ _ (binaryOp Operator.FloorDiv (Value.int _ _) (Value.int _ _)) _ _ _); refine div_val (by tb_start) ?_) | (k_end; wrow_close) | walk1 | (dsimp only; walk1) | (leave1; walk_say "STEP leave1"; try dsimp only) | fail "no step"))
    rename Mat _ _ _ => hM9
    rename _ = setRow _ _ _ _ => hE9
    rename List.length bs = List.length _ => l9
    rename List.length bs2 = List.length _ => l9b
    rename News _ _ _ _ => N9
    rename Fr _ _ _ _ => F9
    subst hE9
    subst hME
    have e : setRow (fillM t tks ME j) (((T / 4 : Nat) : Int)).toNat (((T % 4 : Nat) : Int)).toNat (tks.getD (j : Int).toNat 0) = fillM t tks ME (j + 1) := by
      rw [fillM_succ, hT]; rfl
    rw [e] at hM9 l9
    exact WhileStep.intro F9 (fun p hp => N9 p ((by lcg_sub : ∀ p ∈ _, p ∈ _) p hp)) (n' := kc - (j + 1)) (by omega) ⟨j + 1, rfl, by omega, ⟨us, _, _, _, _, _, _, _, _, rfl, hus, hM9, l9, l9b⟩, _, _, _, _, _, _, rfl, by rw [← Nat.add_assoc, hT]; rfl, rfl, rfl, rfl, rfl, rfl, rfl, trivial⟩
end
section
theorem init_last (w : World) {oc dV kV doc pm cdv ct : Value} {od an : Option Addr} {osl : Array (Option Value)} {name qual : Str} {params : Arguments} {body : List Stmt} {scope : Scope} (ho : (mkK.heap_1 w.params).lookup 103 = some ⟨oc, od, .func (fnOf name qual params body scope dV kV doc pm an cdv ct), osl⟩)
    {p : Program} {loose : List Str} {mean : ExcName → Option Value} {mg mb : Str → Option Value} {dp un : Nat} {gd : Option (List Code)} {cn : Str} {cs : Scope} {a : Addr} {ccd : Value} {cl : List (Str × Addr)} {outer : List Env} {base g h : Heap} {L L1 : Addr} {s : Shared} {tk : Nat} {m : Str → Option Value} {nw : List (Addr × Obj)}
    (B : Below (ktrTop dp un gd cn cs L a ccd cl outer) base (envX cn cs L a ccd cl :: outer) g) (F : Fr g L1 h m) (X : (mkK.heap_1 w.params).In g) (N : News g L1 h nw) (T : Top p loose mean mg mb g) {st : Stmt} (hst : pickS [11] body = some st) {x dx D9 D8 D7 : Addr} {oc1 : Obj} {bs bs2 : List Addr} {ME : List (List Int)} {kc r t : Nat} {tks : List Int} (hk : KcOk kc)
    (hb1 : bs.length = kc + 7) (hb2 : bs2.length = kc + 7) (O : InitO (L1 + 1) x dx D9 D8 D7 (bs ++ bs2)) (J : InitJ w.params (L1 + 1) x dx D9 D8 D7 oc1 bs bs2 tks ME nw) (J2 : InitK2 kc x D7 r t m) :
    wpAny (model PySem.Challenge.rw_yv0001_01.row.prog w) ((ktrTop dp un gd cn cs L a ccd cl outer).deeper (envOfC qual scope L1 103 cdv)) (exec st (envOfC qual scope L1 103 cdv)) (CutEnd g L1 s (fun m nw => InitJ w.params (L1 + 1) x dx D9 D8 D7 oc1 bs bs2 tks ME nw)) (fun _ _ => False) { s with heap := h, toks := tk } := by
  with_unfolding_all (refine' fn_go ho ?hk9 ?_; (case hk9 => k_is))
  rintro rfl rfl rfl rfl
  clear ho
  refine pick_go hst (by exact rfl) ?_
  rintro rfl
  clear hst
  refine letA ?_
  intro A0
  (try dsimp only)
  (try k_fold)
  obtain ⟨o1, o2, o3, o4, o5, o6, o7, o8, o9, o10, o11⟩ := O
  have hk8 : 4 ≤ kc ∧ kc ≤ 8 := by have := hk.it; omega
  obtain ⟨us, n, nD, nE, nd, t1, t2, tl, MD, rfl, hus, hM, hlE, hlD⟩ := J
  obtain ⟨ta, tb', tc, td, te, hK⟩ := J2
  obtain ⟨u, rfl⟩ : ∃ u, m = look _ u := ⟨m, hK.look⟩
  clear hK
  (repeat' (first | (k_unfold; (try dsimp only)) | ((with_reducible show wpAny _ _ (exec _ _) _ _ _); (fail_if_success (fail_if_success k_fold)); refine foldQ ?_; intro q9) | ((with_reducible show wpAny _ _ (eval (Expr.Call _ _ _ _) _) _ _ _); (fail_if_success (fail_if_success k_fold)); refine foldQ ?_; intro q9) | ((with_reducible show wpAny _ _ (eval (Expr.Subscript _ _ _) _) _ _ _); (fail_if_success (fail_if_success k_fold)); refine foldQ ?_; intro q9)  | ((with_reducible show wpAny _ _ (pyIter (Value.ref _)) (fun it s₂ => LoopAtV _ _ _ _ _ _ _ _ _ it s₂) _ _); (refine Hold.mk ?_)) | (k_here; (with_reducible show wpAny _ _ (exec (Stmt.For (Expr.Name _ _) (Expr.Call _ _ _ _) _ [] _) _) _ _ _); (rename Fr _ _ _ _ => lF'); (with_unfolding_all refine' For_invVF lF' ?k1 ?k2 ?_; (case k1 | k2 => exact rfl); k_whole)) | (k_end; wrow_close) | walk1 | (dsimp only; walk1) | (leave1; walk_say "STEP leave1"; try dsimp only) | fail "no step"))
  unfold Hold
  rename IsRange _ _ _ _ _ _ _ _ => hr
  rename News _ _ _ _ => N1
  rename Fr _ _ _ _ => F1
  refine krs_go (n := kc + 5) (fun i m nw => InitJ w.params (L1 + 1) x dx D9 D8 D7 oc1 bs bs2 tks ME nw ∧ ∃ tc, Keeps [(Str.ofString "rounds", .int ((kc : Int) + 6) tc), (Str.ofString "self", .ref x)] m) rfl hr (small_one (by omega) (by omega) (by omega) (by omega)) ((rangeSize_nat _ _).trans (by omega)) F1 N1
    ⟨⟨_, _, _, _, _, _, _, tl, MD, rfl, hus, hM, hlE, hlD⟩, _, rfl, rfl, trivial⟩ (by lcg_sub) ?_ ?_
  · clear hr F1 N1 hus hM hlE hlD
    rintro i m nw I t9 h tk hi ⟨⟨us, n, nD, nE, nd, t1, t2, tl, MD, rfl, hus, hM, hlE, hlD⟩, tc, hK⟩ hoI F N
    obtain ⟨u, rfl⟩ : ∃ u, m = look _ u := ⟨m, hK.look⟩
    clear hK
    have hI := hM.notin (fun p hp => hoI p (by simp [hp]))
    have hMa := hM.addrs
    (repeat' (first | (k_unfold; (try dsimp only)) | ((with_reducible show wpAny _ _ (exec _ _) _ _ _); (fail_if_success (fail_if_success k_fold)); refine foldQ ?_; intro q9) | ((with_reducible show wpAny _ _ (eval (Expr.Call _ _ _ _) _) _ _ _); (fail_if_success (fail_if_success k_fold)); refine foldQ ?_; intro q9) | ((with_reducible show wpAny _ _ (eval (Expr.Subscript _ _ _) _) _ _ _); (fail_if_success (fail_if_success k_fold)); refine foldQ ?_; intro q9)  | ((with_reducible show wpAny _ _ (pyIter (Value.ref _)) (fun it s₂ => LoopAtV _ _ _ _ _ _ _ _ _ it s₂) _ _); (refine Hold.mk ?_)) | (k_here; (with_reducible show wpAny _ _ (exec (Stmt.For (Expr.Name _ _) (Expr.Call _ _ _ _) _ [] _) _) _ _ _); (rename Fr _ _ _ _ => lF'); (with_unfolding_all refine' For_invVF lF' ?k1 ?k2 ?_; (case k1 | k2 => exact rfl); k_whole)) | (k_end; wrow_close) | walk1 | (dsimp only; walk1) | (leave1; walk_say "STEP leave1"; try dsimp only) | fail "no step"))
    unfold Hold
    rename IsRange _ _ _ _ _ _ _ _ => hr
    rename News _ _ _ _ => N1
    rename Fr _ _ _ _ => F1
    refine krs_go (n := 4) (fun j m nw => ∃ nw', nw = (I, krsIt (1 + ((i + 1 : Nat) : Int) * 1) (((kc + 5 : Nat) : Int) - ((i + 1 : Nat) : Int)) 1) :: nw' ∧ InitJ w.params (L1 + 1) x dx D9 D8 D7 oc1 bs bs2 tks ME nw' ∧ (nw'.map (·.1) = [D7, D8, D9, x, dx, L1 + 1] ++ bs ++ bs2) ∧ ∃ tc, Keeps [(Str.ofString "r", .int (1 + (i : Int) * 1) t9), (Str.ofString "rounds", .int ((kc : Int) + 6) tc), (Str.ofString "self", .ref x)] m) rfl hr (small_one (by omega) (by omega) (by omega) (by omega)) ((rangeSize_nat _ _).trans (by omega)) F1 N1
      ⟨_, rfl, ⟨_, _, _, _, _, _, _, tl, MD, rfl, hus, hM, hlE, hlD⟩, by simp [hM.addrs], _, rfl, rfl, rfl, trivial⟩ (by lcg_sub) ?_ ?_
    · clear hr F1 N1 hus hM hlE hlD
      rintro j m nw I2 t10 h tk hj ⟨nw', rfl, ⟨us, n, nD, nE, nd, t1, t2, tl, MD, rfl, hus, hM, hlE, hlD⟩, hnw, tc, hK⟩ hoI2 F N
      obtain ⟨u, rfl⟩ : ∃ u, m = look _ u := ⟨m, hK.look⟩
      clear hK
      have hI2 := hM.notin (fun p hp => hoI2 p (by simp [hp]))
      have e1 : (0 : Int) ≤ 1 + (i : Int) * 1 := by omega
      have e2 : 1 + (i : Int) * 1 < (bs2.length : Int) := by omega
      have e3 : 1 + (i : Int) * 1 < 2 ^ 63 := by omega
      have e4 : (0 : Int) ≤ 0 + (j : Int) * 1 := by omega
      have e5 : 0 + (j : Int) * 1 < 4 := by omega
      (repeat' (first | (k_unfold; (try dsimp only)) | ((with_reducible show wpAny _ _ (exec _ _) _ _ _); (fail_if_success (fail_if_success k_fold)); refine foldQ ?_; intro q9) | ((with_reducible show wpAny _ _ (eval (Expr.Call _ _ _ _) _) _ _ _); (fail_if_success (fail_if_success k_fold)); refine foldQ ?_; intro q9) | ((with_reducible show wpAny _ _ (eval (Expr.Subscript _ _ _) _) _ _ _); (fail_if_success (fail_if_success k_fold)); refine foldQ ?_; intro q9)  | (k_here; (with_reducible show UnrEnd _ _ _ _ _ _ _); (refine Hold.mk ?_)) | (k_here; (with_reducible show wpAny _ _ (setItem (Value.ref _) (Value.int _ _) (Value.int _ _)) _ _ _); k_dflt (refine' row_setD ?k1 ?k2 ?k3 ?k4 ?k4b ?k5 ?k6 ?k7 ?k8 ?k9 ?_; (case k1 | k2 => k_asm); (case k3 | k4 | k4b => tb_start); (case k5 => lcg_sub); (case k6 | k7 | k8 => tb_start); (case k9 => (intro hin' o1' o2' tl' hu'; k_upd)); k_whole); intro h' tl' MD' F' N' hM' hl'; (try k_sweep)) | (k_here; (with_reducible show wpAny _ _ (subscriptTail _ _ (Value.ref _) (Value.int _ _)) _ _ _); k_dflt (refine row_getD (by k_asm) (by tb_start) (by lcg_sub) (by tb_start) (by tb_start) (by tb_start) (fun v' t' => ?_)); (try k_fold)) | (k_here; (with_reducible show wpAny _ _ (subscriptTail _ _ (Value.ref _) (Value.int _ _)) _ _ _); k_dflt (refine sub_refs (by k_asm) (by k_mem) (by tb_start) (by tb_start) (by tb_start) (fun a' ha' => ?_)); (try k_fold)) | (k_here; (with_reducible show wpAny _ _ (subscriptTail _ _ (Value.ref _) (Value.int (Builtin.bitAnd _ _) _)) _ _ _); k_dflt (refine sub_tab (by k_asm) (by k_asm) (by first | exact tab89 _ | exact tab92 _ | exact tab95 _ | exact tab98 _) (fun t' => ?_)); (try k_fold)) | (k_end; wrow_close) | walk1 | (dsimp only; walk1) | (leave1; walk_say "STEP leave1"; try dsimp only) | fail "no step"))
      unfold Hold
      rename Mat _ _ _ => hM9
      rename List.length bs2 = List.length _ => l9b
      rename News _ _ _ _ => N9
      rename Fr _ _ _ _ => F9
      exact unr_end F9 N9 ⟨_, rfl, ⟨us, _, _, _, _, _, _, _, _, rfl, hus, hM9, hlE, l9b⟩, by simp [hM9.addrs], _, rfl, rfl, rfl, trivial⟩ (by k_mem) (by lcg_sub) (off_same hoI2 (by simp [hM9.addrs, hM.addrs]))
    · rintro m nw h tk ⟨nw', rfl, ⟨us, n, nD, nE, nd, t1, t2, tl, MD, rfl, hus, hM, hlE, hlD⟩, hnw, tc, hK⟩ F N
      obtain ⟨u, rfl⟩ : ∃ u, m = look _ u := ⟨m, hK.look⟩
      clear hK
      (repeat' (first | (k_unfold; (try dsimp only)) | ((with_reducible show wpAny _ _ (exec _ _) _ _ _); (fail_if_success (fail_if_success k_fold)); refine foldQ ?_; intro q9) | ((with_reducible show wpAny _ _ (eval (Expr.Call _ _ _ _) _) _ _ _); (fail_if_success (fail_if_success k_fold)); refine foldQ ?_; intro q9) | ((with_reducible show wpAny _ _ (eval (Expr.Subscript _ _ _) _) _ _ _); (fail_if_success (fail_if_success k_fold)); refine foldQ ?_; intro q9)  | (k_here; (with_reducible show UnrEnd _ _ _ _ _ _ _); (refine Hold.mk ?_)) | (k_end; wrow_close) | walk1 | (dsimp only; walk1) | (leave1; walk_say "STEP leave1"; try dsimp only) | fail "no step"))
      unfold Hold
      rename News _ _ _ _ => N9
      rename Fr _ _ _ _ => F9
      exact unr_end F9 N9 ⟨⟨us, _, _, _, _, _, _, _, _, rfl, hus, hM, hlE, hlD⟩, _, rfl, rfl, trivial⟩ (by k_mem) (by lcg_sub) (off_same hoI (by simp [hM.addrs, hMa]))
  · rintro m nw h tk ⟨J, tc, hK⟩ F N
    (repeat' (first | (k_unfold; (try dsimp only)) | ((with_reducible show wpAny _ _ (exec _ _) _ _ _); (fail_if_success (fail_if_success k_fold)); refine foldQ ?_; intro q9) | ((with_reducible show wpAny _ _ (eval (Expr.Call _ _ _ _) _) _ _ _); (fail_if_success (fail_if_success k_fold)); refine foldQ ?_; intro q9) | ((with_reducible show wpAny _ _ (eval (Expr.Subscript _ _ _) _) _ _ _); (fail_if_success (fail_if_success k_fold)); refine foldQ ?_; intro q9)  | (k_end; wrow_close) | walk1 | (dsimp only; walk1) | (leave1; walk_say "STEP leave1"; try dsimp only) | fail "no step"))
    rename News _ _ _ _ => N9
    rename Fr _ _ _ _ => F9
    exact CutEnd.mk F9 N9 (fun _ hp => hp) J
end
section
inductive WhK (P : Params) (L1 x dx D9 D8 D7 : Addr) (oc1 : Obj) (bs bs2 : List Addr) (tks : List Int) (kc n : Nat) (m : Str → Option Value) (nw : List (Addr × Obj)) : Prop
  | mk0 (k : Nat) (t : Nat) (z1 : n = 4 * kc + 28 - t) (z2 : t = min (kc * k + kc) (4 * kc + 28)) (z3 : kc * k < 4 * kc + 28) (z4 : InitJ P (L1 + 1) x dx D9 D8 D7 oc1 bs bs2 (keySt P kc tks k).1 (keySt P kc tks k).2 nw) (z5 : InitK2 kc x D7 k t m) : WhK P L1 x dx D9 D8 D7 oc1 bs bs2 tks kc n m nw
theorem init_spec (w : World) {x dx : Addr} {b : Array UInt8} {tb : Tok} {key : List Int} {kc : Nat} (hk : KcOk kc) (hb : KBw.bInts b = key) (hl : key.length = 4 * kc) (hne : (@Ne Nat x dx)) :
    Spec w (.ref 103) [.ref x, .bytes b tb] (fun _ => True) [(x, instObj 116 dx), (dx, dictOf [] 0)] 2 16 (fun v nw => v = .none ∧ AesL w.params nw x (expand w.params key)) := by
  with_unfolding_all refine' spec_defC ?ho ?hcd ?hbind ?hkind ?hnd ?c2 ?c3 ?c4 ?_
  (case ho => k_is)
  (case hcd => k_is)
  (case hbind => first | exact bind_plain rfl | exact bind_dflt rfl (by k_is) rfl rfl rfl)
  (case hkind => exact rfl)
  (case hnd => decide +kernel)
  (case c2 => exact rfl)
  (case c3 => exact rfl)
  (case c4 => exact rfl)
  intro p loose mean mg mb dp un gd cn cs ca ccd cl outer base L g L1 h1 s tk cells B F X N Y T hdp hun hyp l1
  (try k_lt l1)
  refine letA ?_
  intro A0
  obtain ⟨oc1, hE, dc1⟩ := CellsAre.one Y
  subst hE
  clear Y
  (try simp only [List.nil_append, List.cons_append] at N)
  (try dsimp only)
  (try k_fold)
  have hln : LenIs key (4 * (kc : Int)) := ⟨by omega, by have := hk.it; omega⟩
  have hk8 : 4 ≤ kc ∧ kc ≤ 8 := by have := hk.it; omega
  (repeat' (first | (k_unfold; (try dsimp only)) | ((with_reducible show wpAny _ _ (exec _ _) _ _ _); (fail_if_success (fail_if_success k_fold)); refine foldQ ?_; intro q9) | ((with_reducible show wpAny _ _ (eval (Expr.BinOp _ _ _ _) _) _ _ _); (fail_if_success (fail_if_success k_fold)); refine foldQ ?_; intro q9) | ((with_reducible show wpAny _ _ (eval (Expr.Call _ _ _ _) _) _ _ _); (fail_if_success (fail_if_success k_fold)); refine foldQ ?_; intro q9) | ((with_reducible show wpAny _ _ (eval (Expr.Subscript _ _ _) _) _ _ _); (fail_if_success (fail_if_success k_fold)); refine foldQ ?_; intro q9)  | ((with_reducible show SrcG _ _ _ _ _ _ _ _ _ _ _ _ _ _ _); (refine Hold.mk ?_)) | (k_here; (with_reducible show wpAny _ _ (eval (Expr.ListComp _ [⟨Expr.Name _ _, _, _, _⟩] _ _) _) _ _ _); k_dflt (refine ListComp_G (by k_asm) (by with_unfolding_all rfl) (by decide) (by rfl) (by decide) (by rfl) ?_)) | (k_here; (with_reducible show wpAny _ _ (subscriptTail _ _ (Value.ref 55) (Value.int _ _)) _ _ _); k_dflt (refine sub_rounds (by k_asm) (by k_asm) (by tb_start) rfl (fun t' => ?_)); (try k_fold)) | (k_here; (with_reducible show wpAny _ _ (compareOp CmpOp.NotIn (Value.int _ _) (Value.ref _)) _ _ _); k_dflt (refine notin_key (by k_asm) (by k_mem) (by tb_start) ?_); (try k_fold)) | (k_here; (with_reducible show wpAny _ _ (call (Value.builtin _) [Value.bytes _ _]) _ _ _); k_dflt (refine len_bytesN (by tb_start) (by tb_start) (fun t' k' => ?_)); (try k_fold)) | (k_end; wrow_close) | walk1 | (dsimp only; walk1) | (leave1; walk_say "STEP leave1"; try dsimp only) | fail "no step"))
  unfold Hold
  rename IsRange _ _ _ _ _ _ _ _ => hr
  refine SrcG.range (n := kc + 7) (news := [(x, instObj 116 dx), (dx, dictOf [] 0), (L1 + 1, oc1)] ++ []) rfl (by k_asm) (by k_asm) hr (small_one (by omega) (by omega) (by omega) (by omega)) ((rangeSize_nat _ _).trans (by omega)) (by rw [PySem.sizeLine_eq]; omega) (by lcg_sub)
    (fun g2 => comp_rows [(x, instObj 116 dx), (dx, dictOf [] 0), (L1 + 1, oc1)] (tl0 := []) (as0 := []) (M0 := []) trivial (by simp) (fun i tl as M ys v I oI C oC D m₂ h tk E' hi hM hr' hP hC hx F2 N2 off ne => ?_) (fun bs tl hbl hM hr2 => ?_))
  · --DONE{
    (repeat' (first | (k_unfold; (try dsimp only)) | ((with_reducible show wpAny _ _ (exec _ _) _ _ _); (fail_if_success (fail_if_success k_fold)); refine foldQ ?_; intro q9) | ((with_reducible show wpAny _ _ (eval (Expr.BinOp _ _ _ _) _) _ _ _); (fail_if_success (fail_if_success k_fold)); refine foldQ ?_; intro q9) | ((with_reducible show wpAny _ _ (eval (Expr.Call _ _ _ _) _) _ _ _); (fail_if_success (fail_if_success k_fold)); refine foldQ ?_; intro q9) | ((with_reducible show wpAny _ _ (eval (Expr.Subscript _ _ _) _) _ _ _); (fail_if_success (fail_if_success k_fold)); refine foldQ ?_; intro q9)  | (k_here; (with_reducible show LCg.CompEnd _ _ _ _ _ _ _ _ _ _ _ _ _ _); (refine Hold.mk ?_)) | (k_end; wrow_close) | walk1 | (dsimp only; walk1) | (leave1; walk_say "STEP leave1"; try dsimp only) | fail "no step"))
    unfold Hold
    rename_i tk9 l9 n9 l8 D9 h9 F9 N9 i9 n10 s9 e9 e10 e11 l7 l10
    obtain ⟨_, _, _, _, _, _, _, q9⟩ := l10
    refine LCg.CompEnd.intro F9 N9 _ (sub_rows (ext := [_])) (off3_snoc off (by omega) (by omega) (by omega)) trivial ⟨D9, _, _, rfl, i9, rfl, hM.notin fun p hp => Nat.ne_of_lt (allLt_mem tl q9 p hp), by k_all⟩
    --}DONE
  · clear hr
    unfold LCg.FinE
    intro D9 h9 tk9 F9 N9 o9
    have hD9 := hM.notin (off1_tail o9)
    have hx9 := hr2 _ (List.mem_cons_self)
    have hdx9 := hr2 _ (List.mem_cons_of_mem _ List.mem_cons_self)
    have hc9 := hr2 _ (List.mem_cons_of_mem _ (List.mem_cons_of_mem _ List.mem_cons_self))
    simp only [List.nil_append] at hM hD9 hx9 hdx9 hc9
    simp only [LCg.Off1, List.cons_append, List.nil_append] at o9
    simp only [List.cons_append, List.nil_append] at N9
    (try k_sweep)
    (repeat' (first | (k_unfold; (try dsimp only)) | ((with_reducible show wpAny _ _ (exec _ _) _ _ _); (fail_if_success (fail_if_success k_fold)); refine foldQ ?_; intro q9) | ((with_reducible show wpAny _ _ (eval (Expr.BinOp _ _ _ _) _) _ _ _); (fail_if_success (fail_if_success k_fold)); refine foldQ ?_; intro q9) | ((with_reducible show wpAny _ _ (eval (Expr.Call _ _ _ _) _) _ _ _); (fail_if_success (fail_if_success k_fold)); refine foldQ ?_; intro q9) | ((with_reducible show wpAny _ _ (eval (Expr.Subscript _ _ _) _) _ _ _); (fail_if_success (fail_if_success k_fold)); refine foldQ ?_; intro q9)  | ((with_reducible show SrcG _ _ _ _ _ _ _ _ _ _ _ _ _ _ _); (refine Hold.mk ?_)) | (k_here; (with_reducible show wpAny _ _ (eval (Expr.ListComp _ [⟨Expr.Name _ _, _, _, _⟩] _ _) _) _ _ _); k_dflt (refine ListComp_G (by k_asm) (by with_unfolding_all rfl) (by decide) (by rfl) (by decide) (by rfl) ?_)) | (k_end; wrow_close) | walk1 | (dsimp only; walk1) | (leave1; walk_say "STEP leave1"; try dsimp only) | fail "no step"))
    unfold Hold
    clear hr2
    rename IsRange _ _ _ _ _ _ _ _ => hr
    rename News _ _ _ _ => N1
    rename Fr _ _ _ _ => F1
    refine SrcG.range (n := kc + 7) (news := [(D9, LCg.lst (bs.map .ref)), (x, instObj 116 dx), (dx, _), (L1 + 1, oc1)] ++ tl) rfl F1 N1 hr (small_one (by omega) (by omega) (by omega) (by omega)) ((rangeSize_nat _ _).trans (by omega)) (by rw [PySem.sizeLine_eq]; omega) (by lcg_sub)
      (fun g2 => comp_rows [(D9, LCg.lst (bs.map .ref)), (x, instObj 116 dx), (dx, _), (L1 + 1, oc1)] hM (by
        intro p hp
        simp only [List.mem_cons, List.not_mem_nil, or_false] at hp
        rcases hp with rfl | rfl | rfl | rfl
        · exact hD9
        · exact hx9
        · exact hdx9
        · exact hc9) (fun i tl as M ys v I oI C oC D m₂ h tk E' hi hM hr' hP hC hx F2 N2 off ne => ?_) (fun bs2 tl2 hbl2 hM2 hr2 => ?_))
    · --DONE{
      (repeat' (first | (k_unfold; (try dsimp only)) | ((with_reducible show wpAny _ _ (exec _ _) _ _ _); (fail_if_success (fail_if_success k_fold)); refine foldQ ?_; intro q9) | ((with_reducible show wpAny _ _ (eval (Expr.BinOp _ _ _ _) _) _ _ _); (fail_if_success (fail_if_success k_fold)); refine foldQ ?_; intro q9) | ((with_reducible show wpAny _ _ (eval (Expr.Call _ _ _ _) _) _ _ _); (fail_if_success (fail_if_success k_fold)); refine foldQ ?_; intro q9) | ((with_reducible show wpAny _ _ (eval (Expr.Subscript _ _ _) _) _ _ _); (fail_if_success (fail_if_success k_fold)); refine foldQ ?_; intro q9)  | (k_here; (with_reducible show LCg.CompEnd _ _ _ _ _ _ _ _ _ _ _ _ _ _); (refine Hold.mk ?_)) | (k_end; wrow_close) | walk1 | (dsimp only; walk1) | (leave1; walk_say "STEP leave1"; try dsimp only) | fail "no step"))
      unfold Hold
      rename_i tk9 l9 n9 l8 D9 h9 F9 N9 i9 n10 s9 e9 e10 e11 l7 l10
      obtain ⟨_, _, _, _, _, _, _, _, q9⟩ := l10
      refine LCg.CompEnd.intro F9 N9 _ (sub_rows (ext := [_])) (off3_snoc off (by omega) (by omega) (by omega)) trivial ⟨D9, _, _, rfl, i9, rfl, hM.notin fun p hp => Nat.ne_of_lt (allLt_mem _ q9 p hp), by k_all⟩
      --}DONE
    · clear hr hM hD9 hx9 hdx9 hc9
      unfold LCg.FinE
      intro D8 h8 tk8 F8 N8 o8
      have hD8 := hM2.notin (off1_tail o8)
      have hD9 := hr2 _ (List.mem_cons_self)
      have hx9 := hr2 _ (List.mem_cons_of_mem _ List.mem_cons_self)
      have hdx9 := hr2 _ (List.mem_cons_of_mem _ (List.mem_cons_of_mem _ List.mem_cons_self))
      have hc9 := hr2 _ (List.mem_cons_of_mem _ (List.mem_cons_of_mem _ (List.mem_cons_of_mem _ List.mem_cons_self)))
      clear hr2
      dsimp only at hD9 hx9 hdx9 hc9
      simp only [LCg.Off1, List.cons_append, List.nil_append] at o8
      simp only [List.cons_append, List.nil_append] at N8
      have dv : DivIs (4 * (kc : Int)) 4 (kc : Int) := ⟨by omega, by rw [Int.fdiv_eq_ediv_of_nonneg _ (by omega)]; omega, by omega, by omega⟩
      (try k_sweep)
      (repeat' (first | (k_unfold; (try dsimp only)) | ((with_reducible show wpAny _ _ (exec _ _) _ _ _); (fail_if_success (fail_if_success k_fold)); refine foldQ ?_; intro q9) | ((with_reducible show wpAny _ _ (eval (Expr.BinOp _ _ _ _) _) _ _ _); (fail_if_success (fail_if_success k_fold)); refine foldQ ?_; intro q9) | ((with_reducible show wpAny _ _ (eval (Expr.Call _ _ _ _) _) _ _ _); (fail_if_success (fail_if_success k_fold)); refine foldQ ?_; intro q9) | ((with_reducible show wpAny _ _ (eval (Expr.Subscript _ _ _) _) _ _ _); (fail_if_success (fail_if_success k_fold)); refine foldQ ?_; intro q9)  | ((with_reducible show SrcG _ _ _ _ _ _ _ _ _ _ _ _ _ _ _); (refine Hold.mk ?_)) | (k_here; (with_reducible show wpAny _ _ (exec (Stmt.Assign [Expr.Name _ _] (Expr.ListComp _ [⟨Expr.Name _ _, _, _, _⟩] _ _) _) _) _ _ _); k_dflt (refine Assign_ListComp_G (by k_asm) (by rfl) (by with_unfolding_all rfl) (by with_unfolding_all rfl) (by decide) (by rfl) (by decide) (by rfl) (by rfl) (by rfl) ?_)) | (k_here; (with_reducible show wpAny _ _ (binaryOp Operator.FloorDiv (Value.int _ _) (Value.int _ _)) _ _ _); refine div_val (by tb_start) ?_) | (k_here; (with_reducible show wpAny _ _ (call (Value.builtin _) [Value.bytes _ _]) _ _ _); k_dflt (refine len_bytesN (by tb_start) (by tb_start) (fun t' k' => ?_)); (try k_fold)) | (k_end; wrow_close) | walk1 | (dsimp only; walk1) | (leave1; walk_say "STEP leave1"; try dsimp only) | fail "no step"))
      unfold Hold
      rename IsRange _ _ _ _ _ _ _ _ => hr
      rename News _ _ _ _ => N1
      rename Fr _ _ _ _ => F1
      refine SrcG.range (n := kc) (news := [(D8, LCg.lst (bs2.map .ref)), (D9, LCg.lst (bs.map .ref)), (x, instObj 116 dx), (dx, _), (L1 + 1, oc1)] ++ tl2) rfl F1 N1 hr (small4 hk) (size4 hk) (by rw [PySem.sizeLine_eq]; omega) (by lcg_sub)
        (fun g2 => comp_map (fun i => sgn4 ((key.drop (4 * i)).take 4)) (fun i ys v I oI C oC D m₂ h tk E' hi hP hC hx F2 N2 off ne => ?_) (fun ys hys => ?_))
      · --DONE{
        obtain ⟨t', rfl⟩ := hP
        have b0 : (0 : Int) ≤ 0 + (i : Int) * 4 := by omega
        have b1 : (0 : Int) ≤ 0 + (i : Int) * 4 + 4 := by omega
        have b2 : key.length ≤ 100000 := by omega
        have hcut : (key.drop (0 + (i : Int) * 4).toNat).take (min (0 + (i : Int) * 4 + 4).toNat key.length - (0 + (i : Int) * 4).toNat) = (key.drop (4 * i)).take 4 := by
          rw [show (0 + (i : Int) * 4).toNat = 4 * i by omega, show min (0 + (i : Int) * 4 + 4).toNat key.length - 4 * i = 4 by omega]
        have b6 : ((key.drop (4 * i)).take 4).length ≤ 4 := by rw [List.length_take]; omega
        simp only [List.cons_append, List.nil_append] at N2
        (try k_sweep)
        (repeat' (first | (k_unfold; (try dsimp only)) | ((with_reducible show wpAny _ _ (exec _ _) _ _ _); (fail_if_success (fail_if_success k_fold)); refine foldQ ?_; intro q9) | ((with_reducible show wpAny _ _ (eval (Expr.BinOp _ _ _ _) _) _ _ _); (fail_if_success (fail_if_success k_fold)); refine foldQ ?_; intro q9) | ((with_reducible show wpAny _ _ (eval (Expr.Call _ _ _ _) _) _ _ _); (fail_if_success (fail_if_success k_fold)); refine foldQ ?_; intro q9) | ((with_reducible show wpAny _ _ (eval (Expr.Subscript _ _ _) _) _ _ _); (fail_if_success (fail_if_success k_fold)); refine foldQ ?_; intro q9)  | (k_here; (with_reducible show wpAny _ _ (subscriptTail _ _ (Value.bytes _ _) (Value.ref _)) _ _ _); k_dflt (refine slice_bytes (by k_asm) (by k_asm) (by tb_start) (by tb_start) (by tb_start) (by tb_start) (by tb_start) (fun b' t' h' k' F' N' hb' => ?_)); (try k_fold)) | (k_here; (with_reducible show wpAny _ _ (call (Value.ref _) [Value.bytes _ _, Value.str _ _] _) _ _ _); k_dflt (refine call_signed (by k_asm) (by k_mem) (by tb_start) (by tb_start) (fun t' k' => ?_)); (try k_fold)) | (k_here; (with_reducible show wpAny _ _ (callWith _ (Value.ref _) _ _ (backToKw _ _)) _ _ _); k_dflt (refine callWith_boundkw ?_)) | (k_here; (with_reducible show LCg.CompEnd _ _ _ _ _ _ _ _ _ _ _ _ _ _); (refine Hold.mk ?_)) | (k_end; wrow_close) | walk1 | (dsimp only; walk1) | (leave1; walk_say "STEP leave1"; try dsimp only) | fail "no step"))
        unfold Hold
        rename News _ _ _ _ => N9
        rename Fr _ _ _ _ => F9
        exact LCg.CompEnd.intro F9 N9 _ (by lcg_sub) off trivial (kcf_el rfl rfl rfl)
        --}DONE
      · clear hr
        unfold LCg.FinA
        intro D7 h7 tk7 F7 N7 o7
        have hD7 := hM2.notin (off1_tail o7)
        simp only [LCg.Off1, List.cons_append, List.nil_append] at o7
        simp only [List.cons_append, List.nil_append] at N7
        (try k_sweep)
        (repeat' (first | (k_unfold; (try dsimp only)) | ((with_reducible show wpAny _ _ (exec _ _) _ _ _); (fail_if_success (fail_if_success k_fold)); refine foldQ ?_; intro q9) | ((with_reducible show wpAny _ _ (eval (Expr.BinOp _ _ _ _) _) _ _ _); (fail_if_success (fail_if_success k_fold)); refine foldQ ?_; intro q9) | ((with_reducible show wpAny _ _ (eval (Expr.Call _ _ _ _) _) _ _ _); (fail_if_success (fail_if_success k_fold)); refine foldQ ?_; intro q9) | ((with_reducible show wpAny _ _ (eval (Expr.Subscript _ _ _) _) _ _ _); (fail_if_success (fail_if_success k_fold)); refine foldQ ?_; intro q9)  | ((with_reducible show wpAny _ _ (pyIter (Value.ref _)) (fun it s₂ => LoopAtV _ _ _ _ _ _ _ _ _ it s₂) _ _); (refine Hold.mk ?_)) | (k_here; (with_reducible show wpAny _ _ (exec (Stmt.For (Expr.Name _ _) (Expr.Call _ _ _ _) _ [] _) _) _ _ _); (rename Fr _ _ _ _ => lF'); (with_unfolding_all refine' For_invVF lF' ?k1 ?k2 ?_; (case k1 | k2 => exact rfl); k_whole)) | (k_end; wrow_close) | walk1 | (dsimp only; walk1) | (leave1; walk_say "STEP leave1"; try dsimp only) | fail "no step"))
        unfold Hold
        rename IsRange _ _ _ _ _ _ _ _ => hr3
        rename News _ _ _ _ => N3
        rename Fr _ _ _ _ => F3
        generalize hT0 : (List.range kc).map (fun i => sgn4 ((key.drop (4 * i)).take 4)) = tks at hys
        have htl : tks.length = kc := by rw [← hT0, List.length_map, List.length_range]
        have hb1 : bs.length = (List.replicate (kc + 7) ([0, 0, 0, 0] : List Int)).length := by rw [List.length_replicate]; exact hbl
        have hb2 : bs2.length = (List.replicate (kc + 7) ([0, 0, 0, 0] : List Int)).length := by rw [List.length_replicate]; exact hbl2
        refine krs_go (n := kc) (fun i m nw => InitJ w.params (L1 + 1) x dx D9 D8 D7 oc1 bs bs2 tks (loadM (kc + 7) tks i) nw ∧ InitK kc x D7 [] m) rfl hr3 (small_one (by omega) (by omega) (by omega) (by omega)) ((rangeSize_nat _ _).trans (by omega)) F3 N3
          ⟨⟨ys, _, _, _, _, _, _, tl2, _, rfl, hys, hM2, hb1, hb2⟩, _, _, _, rfl, rfl, rfl, rfl, rfl, trivial⟩ (by lcg_sub) ?_ ?_
        · --DONE{
          rintro i m nw I t h tk hi ⟨⟨us, n, nD, nE, nd, t1, t2, tl, MD, rfl, hus, hM, hlE, hlD⟩, ta, tb', tc, hK⟩ hoI F4 N4
          generalize hME : loadM (kc + 7) tks i = ME at hM hlE
          first | replace F4 := hK.fr F4 | replace F4 := hK.frI F4
          simp only [List.append_nil] at F4
          clear hK hM2 F3 N3 hr3
          have hI := hM.notin (fun p hp => hoI p (by simp [hp]))
          have d1 : DivIs (0 + (i : Int) * 1) 4 ((i / 4 : Nat) : Int) := by rw [show (0 + (i : Int) * 1) = ((i : Nat) : Int) by omega]; exact DivIs.nat i 4 (by omega) (by omega) (by omega)
          have d2 : ModIs (0 + (i : Int) * 1) 4 ((i % 4 : Nat) : Int) := by rw [show (0 + (i : Int) * 1) = ((i : Nat) : Int) by omega]; exact ModIs.nat i 4 (by omega)
          have e1 : (0 : Int) ≤ ((i / 4 : Nat) : Int) := by omega
          have e2 : ((i / 4 : Nat) : Int) < (bs.length : Int) := by omega
          have e3 : ((i / 4 : Nat) : Int) < 2 ^ 63 := by omega
          have e4 : (0 : Int) ≤ ((i % 4 : Nat) : Int) := by omega
          have e5 : ((i % 4 : Nat) : Int) < 4 := by omega
          have f1 : (0 : Int) ≤ (kc : Int) + 6 - ((i / 4 : Nat) : Int) := by omega
          have f2 : (kc : Int) + 6 - ((i / 4 : Nat) : Int) < (bs2.length : Int) := by omega
          have f3 : (kc : Int) + 6 - ((i / 4 : Nat) : Int) < 2 ^ 63 := by omega
          have g1 : (0 : Int) ≤ 0 + (i : Int) * 1 := by omega
          have g2 : 0 + (i : Int) * 1 < (tks.length : Int) := by omega
          have g3 : 0 + (i : Int) * 1 < 2 ^ 63 := by omega
          (repeat' (first | (k_unfold; (try dsimp only)) | ((with_reducible show wpAny _ _ (exec _ _) _ _ _); (fail_if_success (fail_if_success k_fold)); refine foldQ ?_; intro q9) | ((with_reducible show wpAny _ _ (eval (Expr.BinOp _ _ _ _) _) _ _ _); (fail_if_success (fail_if_success k_fold)); refine foldQ ?_; intro q9) | ((with_reducible show wpAny _ _ (eval (Expr.Call _ _ _ _) _) _ _ _); (fail_if_success (fail_if_success k_fold)); refine foldQ ?_; intro q9) | ((with_reducible show wpAny _ _ (eval (Expr.Subscript _ _ _) _) _ _ _); (fail_if_success (fail_if_success k_fold)); refine foldQ ?_; intro q9)  | (k_here; (with_reducible show UnrEnd _ _ _ _ _ _ _); (refine Hold.mk ?_)) | (k_here; (with_reducible show wpAny _ _ (subscriptTail _ _ (Value.ref _) (Value.int _ _)) _ _ _); k_dflt (refine item_led (by k_asm) (by k_mem) (by tb_start) (by tb_start) (by tb_start) (by tb_start) (fun t' => ?_)); (try k_fold)) | (k_here; (with_reducible show wpAny _ _ (setItem (Value.ref _) (Value.int _ _) (Value.int _ _)) _ _ _); k_dflt (refine' row_setD ?k1 ?k2 ?k3 ?k4 ?k4b ?k5 ?k6 ?k7 ?k8 ?k9 ?_; (case k1 | k2 => k_asm); (case k3 | k4 | k4b => tb_start); (case k5 => lcg_sub); (case k6 | k7 | k8 => tb_start); (case k9 => (intro hin' o1' o2' tl' hu'; k_upd)); k_whole); intro h' tl' MD' F' N' hM' hl'; (try k_sweep)) | (k_here; (with_reducible show wpAny _ _ (setItem (Value.ref _) (Value.int _ _) (Value.int _ _)) _ _ _); k_dflt (refine' row_setE ?k1 ?k2 ?k3 ?k4 ?k5 ?k6 ?k7 ?k8 ?k9 ?_; (case k1 | k2 => k_asm); (case k3 | k4 => tb_start); (case k5 => lcg_sub); (case k6 | k7 | k8 => tb_start); (case k9 => (intro hin' o1' o2' tl' hu'; k_upd)); k_whole); intro h' tl' ME' F' N' hE' hM' hl'; (try k_sweep)) | (k_here; (with_reducible show wpAny _ _ (subscriptTail _ _ (Value.ref _) (Value.int _ _)) _ _ _); k_dflt (refine sub_refs (by k_asm) (by k_mem) (by tb_start) (by tb_start) (by tb_start) (fun a' ha' => ?_)); (try k_fold)) | (k_here; (with_reducible show wpAny _ _ (binaryOp Operator.Mod (Value.int _ _) (Value.int _ _)) _ _ _); refine mod_val (by tb_start) ?_) | (k_here; (with_reducible show wpAny _ _ (binaryOp Operator.FloorDiv (Value.int _ _) (Value.int _ _)) _ _ _); refine div_val (by tb_start) ?_) | (k_end; wrow_close) | walk1 | (dsimp only; walk1) | (leave1; walk_say "STEP leave1"; try dsimp only) | fail "no step"))
          unfold Hold
          rename Mat _ _ _ => hM9
          rename _ = setRow _ _ _ _ => hE9
          rename List.length bs = List.length _ => l9
          rename List.length bs2 = List.length _ => l9b
          rename News _ _ _ _ => N9
          rename Fr _ _ _ _ => F9
          have e : setRow (loadM (kc + 7) tks i) (((i / 4 : Nat) : Int)).toNat (((i % 4 : Nat) : Int)).toNat (tks.getD (0 + (i : Int) * 1).toNat 0) = loadM (kc + 7) tks (i + 1) := by
            rw [loadM_succ, show (0 + (i : Int) * 1).toNat = i by omega]; rfl
          subst hE9
          subst hME
          rw [e] at hM9 l9
          exact unr_end F9 N9 ⟨⟨us, _, _, _, _, _, _, _, _, rfl, hus, hM9, l9, l9b⟩, _, _, _, rfl, rfl, rfl, rfl, rfl, trivial⟩ (by k_mem) (by lcg_sub) (off_same hoI (by simp [hM9.addrs, hM.addrs]))
          --}DONE
        · rintro m nw h tk ⟨⟨us, n, nD, nE, nd, t1, t2, tl, MD, rfl, hus, hM, hlE, hlD⟩, ta, tb', tc, hK⟩ F4 N4
          generalize hME : loadM (kc + 7) tks kc = ME at hM hlE
          first | replace F4 := hK.fr F4 | replace F4 := hK.frI F4
          simp only [List.append_nil] at F4
          clear hK hM2 F3 N3 hr3
          (repeat' (first | (k_unfold; (try dsimp only)) | ((with_reducible show wpAny _ _ (exec _ _) _ _ _); (fail_if_success (fail_if_success k_fold)); refine foldQ ?_; intro q9) | ((with_reducible show wpAny _ _ (eval (Expr.BinOp _ _ _ _) _) _ _ _); (fail_if_success (fail_if_success k_fold)); refine foldQ ?_; intro q9) | ((with_reducible show wpAny _ _ (eval (Expr.Call _ _ _ _) _) _ _ _); (fail_if_success (fail_if_success k_fold)); refine foldQ ?_; intro q9) | ((with_reducible show wpAny _ _ (eval (Expr.Subscript _ _ _) _) _ _ _); (fail_if_success (fail_if_success k_fold)); refine foldQ ?_; intro q9)  | (k_here; (with_reducible show wpAny _ _ (exec (Stmt.While _ _ _ _) _) _ _ _); (refine Hold.mk ?_)) | (k_end; wrow_close) | walk1 | (dsimp only; walk1) | (leave1; walk_say "STEP leave1"; try dsimp only) | fail "no step"))
          unfold Hold
          subst hME
          rename News _ _ _ _ => N5
          rename Fr _ _ _ _ => F5
          refine While_inv (fun n m nw => WhK w.params L1 x dx D9 D8 D7 oc1 bs bs2 tks kc n m nw) (n₀ := 4 * kc + 28 - kc) F5 N5
            ⟨0, kc, rfl, by omega, by omega, ⟨us, _, _, _, _, _, _, tl, _, rfl, hus, hM, hlE, hlD⟩, _, _, _, _, _, rfl, rfl, rfl, rfl, rfl, rfl, rfl, trivial⟩ ?_
          clear F5 N5 F4 N4 hus hM hlE hlD
          rintro n m nw h tk F6 N6 ⟨k, t, rfl, ht, hkk, ⟨us, n, nD, nE, nd, t1, t2, tl, MD, rfl, hus, hM, hlE, hlD⟩, ta, tb', tc, td, te, hK⟩
          have hL1 := keySt_len w.params kc tks k
          generalize hT : (keySt w.params kc tks k).1 = tk0 at hus hL1
          generalize hME : (keySt w.params kc tks k).2 = ME at hM hlE
          first | replace F6 := hK.fr F6 | replace F6 := hK.frI F6
          clear hK
          have hk30 : k < 12 := by
            rcases hk.it with rfl | rfl | rfl <;> omega
          have g1 : (0 : Int) ≤ (kc : Int) - 1 := by omega
          have g2 : (kc : Int) - 1 < (tk0.length : Int) := by omega
          have g3 : (kc : Int) - 1 < 2 ^ 63 := by omega
          have g4 : (0 : Int) < (tk0.length : Int) := by omega
          have g5 : (0 : Int) ≤ (k : Int) := by omega
          have g6 : (k : Int) < 30 := by omega
          have O : InitO (L1 + 1) x dx D9 D8 D7 (bs ++ bs2) := ⟨hD7, hD8, hD9, hx9, hdx9, hc9, by omega, by omega, by omega, by omega, by omega⟩
          have hb1' : bs.length = kc + 7 := by rw [hb1, List.length_replicate]
          have hb2' : bs2.length = kc + 7 := by rw [hb2, List.length_replicate]
          by_cases htt : t < 4 * kc + 28
          · have htk : t = kc * k + kc := by omega
            (repeat' (first | (k_unfold; (try dsimp only)) | ((with_reducible show wpAny _ _ (exec _ _) _ _ _); (fail_if_success (fail_if_success k_fold)); refine foldQ ?_; intro q9) | ((with_reducible show wpAny _ _ (eval (Expr.BinOp _ _ _ _) _) _ _ _); (fail_if_success (fail_if_success k_fold)); refine foldQ ?_; intro q9) | ((with_reducible show wpAny _ _ (eval (Expr.Call _ _ _ _) _) _ _ _); (fail_if_success (fail_if_success k_fold)); refine foldQ ?_; intro q9) | ((with_reducible show wpAny _ _ (eval (Expr.Subscript _ _ _) _) _ _ _); (fail_if_success (fail_if_success k_fold)); refine foldQ ?_; intro q9)  | (k_here; (with_reducible show wpAny _ _ (binaryOp Operator.LShift (Value.int _ _) (Value.int _ _)) _ _ _); k_dflt (refine shl_oct (by first | tb_start | (with_unfolding_all assumption)) (by decide) (by decide) (fun t' k' => ?_)); (try k_fold)) | (k_here; (with_reducible show wpAny _ _ (setItem (Value.ref _) (Value.int _ _) (Value.int _ _)) _ _ _); k_dflt (refine' ksa_set ?k1 ?k2 ?k3 ?k4 ?k5 ?k6 ?k7 ?_; (case k1 | k2 => k_asm); (case k3 => k_upd); (case k4 => tb_start); (case k5 | k6 | k7 => first | tb_start | exact of_decide_eq_true rfl); k_whole); intro h' F' N' hi' hl' hs'; (try k_sweep)) | (k_here; (with_reducible show wpAny _ _ (subscriptTail _ _ (Value.ref _) (Value.int _ _)) _ _ _); k_dflt (refine item_led (by k_asm) (by k_mem) (by tb_start) (by tb_start) (by tb_start) (by tb_start) (fun t' => ?_)); (try k_fold)) | (k_here; (with_reducible show wpAny _ _ (exec (Stmt.If _ _ (_ :: _) _) _) _ _ _); (refine Hold.mk ?_)) | (k_here; (with_reducible show wpAny _ _ (subscriptTail _ _ (Value.ref 59) (Value.int _ _)) _ _ _); k_dflt (refine sub_S (by k_asm) (by k_asm) (fun t' ho' => ?_)); (try k_fold)) | (k_here; (with_reducible show wpAny _ _ (subscriptTail _ _ (Value.ref 56) (Value.int _ _)) _ _ _); k_dflt (refine sub_rcon (by k_asm) (by k_asm) (by tb_start) (by tb_start) (fun t' ho' => ?_)); (try k_fold)) | (k_end; wrow_close) | walk1 | (dsimp only; walk1) | (leave1; walk_say "STEP leave1"; try dsimp only) | fail "no step"))
            unfold Hold
            rename IntsAre (List.set _ _ _) _ => hs0
            rename News _ _ _ _ => N7
            rename Fr _ _ _ _ => F7
            generalize hU : List.set us _ _ = U at hs0
            rw [show ((kc : Int) - 1).toNat = kc - 1 by omega] at hs0
            subst hU
            refine' cut_ex2 (init_if w ?ho B F7 X N7 T ?hst hk (by omega) O ⟨_, _, _, _, _, _, _, tl, MD, rfl, hs0, hM, hlE, hlD⟩ ⟨_, _, _, _, _, rfl, rfl, rfl, rfl, rfl, rfl, rfl, trivial⟩) ?_
            case ho => k_is
            case hst => exact rfl
            clear F7 N7 hs0 hM hlE hlD
            have hls : (stepTk w.params kc tk0 k).length = kc := by rw [stepTk_len]; omega
            have e1 : (keySt w.params kc tks (k + 1)).1 = stepTk w.params kc tk0 k := by rw [keySt]; dsimp only; rw [hT]
            have e2 : (keySt w.params kc tks (k + 1)).2 = fillM t (stepTk w.params kc tk0 k) ME (min kc (4 * kc + 28 - t)) := by rw [keySt]; dsimp only; rw [hT, hME, htk]
            rintro h tk m nw F8 N8 ⟨⟨us, n, nD, nE, nd, t1', t2', tl, MD, rfl, hus, hM, hlE, hlD⟩, ta, tb', tc, td, te, hK⟩
            first | replace F8 := hK.fr F8 | replace F8 := hK.frI F8
            clear hK
            (repeat' (first | (k_unfold; (try dsimp only)) | ((with_reducible show wpAny _ _ (exec _ _) _ _ _); (fail_if_success (fail_if_success k_fold)); refine foldQ ?_; intro q9) | ((with_reducible show wpAny _ _ (eval (Expr.BinOp _ _ _ _) _) _ _ _); (fail_if_success (fail_if_success k_fold)); refine foldQ ?_; intro q9) | ((with_reducible show wpAny _ _ (eval (Expr.Call _ _ _ _) _) _ _ _); (fail_if_success (fail_if_success k_fold)); refine foldQ ?_; intro q9) | ((with_reducible show wpAny _ _ (eval (Expr.Subscript _ _ _) _) _ _ _); (fail_if_success (fail_if_success k_fold)); refine foldQ ?_; intro q9)  | (k_here; (with_reducible show wpAny _ _ (exec (Stmt.While _ _ _ _) _) _ _ _); (refine Hold.mk ?_)) | (k_end; wrow_close) | walk1 | (dsimp only; walk1) | (leave1; walk_say "STEP leave1"; try dsimp only) | fail "no step"))
            unfold Hold
            rename News _ _ _ _ => N7
            rename Fr _ _ _ _ => F7
            refine' cut_ex2 (init_while w ?ho B F7 X N7 T ?hst hk htt hls hb1' hb2' O ⟨_, _, _, _, _, _, _, tl, MD, rfl, hus, hM, hlE, hlD⟩ ⟨_, _, _, _, _, _, rfl, rfl, rfl, rfl, rfl, rfl, rfl, rfl, trivial⟩) ?_
            case ho => k_is
            case hst => exact rfl
            clear F7 N7 hus hM hlE hlD
            rintro h tk m nw F8 N8 ⟨J, J2⟩
            (repeat' (first | (k_unfold; (try dsimp only)) | ((with_reducible show wpAny _ _ (exec _ _) _ _ _); (fail_if_success (fail_if_success k_fold)); refine foldQ ?_; intro q9) | ((with_reducible show wpAny _ _ (eval (Expr.BinOp _ _ _ _) _) _ _ _); (fail_if_success (fail_if_success k_fold)); refine foldQ ?_; intro q9) | ((with_reducible show wpAny _ _ (eval (Expr.Call _ _ _ _) _) _ _ _); (fail_if_success (fail_if_success k_fold)); refine foldQ ?_; intro q9) | ((with_reducible show wpAny _ _ (eval (Expr.Subscript _ _ _) _) _ _ _); (fail_if_success (fail_if_success k_fold)); refine foldQ ?_; intro q9)  | (k_end; wrow_close) | walk1 | (dsimp only; walk1) | (leave1; walk_say "STEP leave1"; try dsimp only) | fail "no step"))
            rw [← e2, ← e1] at J
            have hm : kc * (k + 1) = kc * k + kc := Nat.mul_succ kc k
            exact WhileStep.intro F8 N8 (n' := 4 * kc + 28 - (t + min kc (4 * kc + 28 - t))) (by omega) ⟨k + 1, _, rfl, by omega, by omega, J, J2⟩
          · have hkf : k = if kc = 4 then 10 else if kc = 6 then 8 else 7 := by
              rcases hk.it with rfl | rfl | rfl
              · rw [if_pos rfl]; omega
              · rw [if_neg (by decide), if_pos rfl]; omega
              · rw [if_neg (by decide), if_neg (by decide)]; omega
            have hlm := keySt_len2 w.params kc tks k
            have hex : expand w.params key = ME := by
              have e0 : key.length / 4 = kc := by omega
              unfold expand keyW
              rw [e0, hT0, ← hkf, hME]
            (repeat' (first | (k_unfold; (try dsimp only)) | ((with_reducible show wpAny _ _ (exec _ _) _ _ _); (fail_if_success (fail_if_success k_fold)); refine foldQ ?_; intro q9) | ((with_reducible show wpAny _ _ (eval (Expr.BinOp _ _ _ _) _) _ _ _); (fail_if_success (fail_if_success k_fold)); refine foldQ ?_; intro q9) | ((with_reducible show wpAny _ _ (eval (Expr.Call _ _ _ _) _) _ _ _); (fail_if_success (fail_if_success k_fold)); refine foldQ ?_; intro q9) | ((with_reducible show wpAny _ _ (eval (Expr.Subscript _ _ _) _) _ _ _); (fail_if_success (fail_if_success k_fold)); refine foldQ ?_; intro q9)  | (k_here; (with_reducible show wpAny _ _ (exec (Stmt.For _ _ _ _ _) _) _ _ _); (refine Hold.mk ?_)) | (k_end; wrow_close) | walk1 | (dsimp only; walk1) | (leave1; walk_say "STEP leave1"; try dsimp only) | fail "no step"))
            unfold Hold
            rename News _ _ _ _ => N7
            rename Fr _ _ _ _ => F7
            refine' cut_ex2 (init_last w ?ho B F7 X N7 T ?hst hk hb1' hb2' O ⟨_, _, _, _, _, _, _, tl, MD, rfl, hus, hM, hlE, hlD⟩ (J2 := ⟨_, _, _, _, _, rfl, rfl, rfl, rfl, rfl, rfl, rfl, trivial⟩)) ?_
            case ho => k_is
            case hst => exact rfl
            clear F7 N7 hus hM hlE hlD
            rintro h tk m nw F8 N8 ⟨us, n, nD, nE, nd, t1', t2', tl, MD, rfl, hus, hM, hlE, hlD⟩
            (repeat' (first | (k_unfold; (try dsimp only)) | ((with_reducible show wpAny _ _ (exec _ _) _ _ _); (fail_if_success (fail_if_success k_fold)); refine foldQ ?_; intro q9) | ((with_reducible show wpAny _ _ (eval (Expr.BinOp _ _ _ _) _) _ _ _); (fail_if_success (fail_if_success k_fold)); refine foldQ ?_; intro q9) | ((with_reducible show wpAny _ _ (eval (Expr.Call _ _ _ _) _) _ _ _); (fail_if_success (fail_if_success k_fold)); refine foldQ ?_; intro q9) | ((with_reducible show wpAny _ _ (eval (Expr.Subscript _ _ _) _) _ _ _); (fail_if_success (fail_if_success k_fold)); refine foldQ ?_; intro q9)  | (k_end; wrow_close) | walk1 | (dsimp only; walk1) | (leave1; walk_say "STEP leave1"; try dsimp only) | fail "no step"))
            refine Ends.mk2 F8 N8 ⟨rfl, ?_⟩ (fun _ hp => hp)
            rw [hex]
            refine ⟨dx, D9, D8, t1', t2', nd, nE, bs, by simp, by simp, by simp, (RowsL.ofMat hM hlE).mono (by lcg_sub), ?_, ?_⟩
            · rw [← hlE, hb1']; omega
            · rw [← hlE, hb1']; omega
end
section
def KeepLow (n : Nat) (h h' : Heap) : Prop := ∀ b o, b < n → h.get? b = some o → h'.get? b = some o
theorem KeepLow.of {n a : Nat} {h h' : Heap} (k : Heap.ExtBut a h h') (ha : n ≤ a) : KeepLow n h h' := fun b o hb e => k b o (Nat.ne_of_lt (Nat.lt_of_lt_of_le hb ha)) e
theorem KeepLow.trans {n : Nat} {h h' h'' : Heap} (k : KeepLow n h h') (k' : KeepLow n h' h'') : KeepLow n h h'' := fun b o hb e => k' b o hb (k b o hb e)
/-- an iterator that yields the ints ns -/
structure ItG (prog : Program) (w : World) (n0 : Nat) (I : Addr) (ns : List Int) (St : Nat → Heap → Prop) : Prop where
  frame : ∀ i h h', St i h → (∀ o, h.get? I = some o → h'.get? I = some o) → KeepLow n0 h h' → St i h'
  here : ∀ i h, St i h → ∃ o, h.get? I = some o
  item : ∀ {A : Around} {E : Value → Shared → Prop} (i : Nat) (s : Shared) (Q : Value → Shared → Prop), i < ns.length → St i s.heap → (∀ h' t k, St (i + 1) h' → Heap.SameBut I s.heap h' → Q (.int (ns.getD i 0) t) { s with heap := h', toks := k }) → wpAny (model prog w) A (Builtin.SmallTypes.nextOf (.ref I)) Q E s
  done : ∀ {A : Around} {E : Value → Shared → Prop} (s : Shared) (Q : Value → Shared → Prop), A.handled = none → St ns.length s.heap → (∀ h' e, Heap.ExtBut I s.heap h' → (∃ o, h'.get? e = some o ∧ o.cls = .type "StopIteration") → E (.ref e) { s with heap := h' }) → wpAny (model prog w) A (Builtin.SmallTypes.nextOf (.ref I)) Q E s
section
variable {prog : Program} {w : World} {A : Around} {E : Value → Shared → Prop} {s : Shared} {b : Array UInt8} {t : Tok}
theorem nextB_item {it : Addr} {i : Nat} {c : UInt8} {Q : Value → Shared → Prop} (hit : KBw.IsBytesIter s.heap it b t i) (hx : b[i]? = some c)
    (hQ : ∀ h', KBw.IsBytesIter h' it b t (i + 1) → Heap.SameBut it s.heap h' → Q (.int (c.toNat : Int) s.toks) { s with heap := h', toks := s.toks + 1 }) : wpAny (model prog w) A (Builtin.SmallTypes.nextOf (.ref it)) Q E s := by
  obtain ⟨o, ho, hc, hd⟩ := id hit
  unfold Builtin.SmallTypes.nextOf
  refine wpAny_bind (wpAny_callSpecial?_slot (name := Str.ofString "__next__") (KBw.iter_typeIs hit) KBw.slot_next
    (wpAny_call_entry KBw.slot_next (KBw.iter_typeIs hit) KBw.entry_next ?_ (KBw.args_next _)))
  show wpAny _ _ (field (.ref it) 0 >>= _) _ _ s
  refine wpAny_bind (wpAny_field ho hd (x := .bytes b t) rfl ?_)
  show wpAny _ _ (if (Value.bytes b t == Value.none) = true then _ else _) _ _ s
  rw [if_neg (show ¬ ((Value.bytes b t == Value.none) = true) from Bool.false_ne_true)]
  show wpAny _ _ (field (.ref it) 1 >>= _) _ _ s
  refine wpAny_bind (wpAny_field ho hd (x := .int i 0) rfl ?_)
  refine wpAny_bind (wpAny_of_eq (a := b) rfl ?_)
  simp only [Int.toNat_natCast, hx]
  refine wpAny_bind (wpAny_setField ho hd (by simp) (wpAny_bind (wpAny_mkInt (wpAny_pure ⟨_, rfl, wpAny_pure (hQ _ ?_ (Heap.SameBut.update ..))⟩))))
  exact ⟨_, Heap.get?_update_self _ ho (Obj.isFreed_of_fields (Obj.data_mapFields hd _)), (Obj.cls_mapFields ..).trans hc, by
    rw [Obj.data_mapFields hd]; simp [rawInt]⟩
theorem nextB_end {it : Addr} {i : Nat} {Q : Value → Shared → Prop} (hh : A.handled = none) (hit : KBw.IsBytesIter s.heap it b t i) (hx : b[i]? = none)
    (hE : ∀ h' e, Heap.ExtBut it s.heap h' → (∃ o, h'.get? e = some o ∧ o.cls = .type "StopIteration") → E (.ref e) { s with heap := h' }) : wpAny (model prog w) A (Builtin.SmallTypes.nextOf (.ref it)) Q E s := by
  obtain ⟨o, ho, hc, hd⟩ := id hit
  unfold Builtin.SmallTypes.nextOf
  refine wpAny_bind (wpAny_callSpecial?_slot (name := Str.ofString "__next__") (KBw.iter_typeIs hit) KBw.slot_next
    (wpAny_call_entry KBw.slot_next (KBw.iter_typeIs hit) KBw.entry_next ?_ (KBw.args_next _)))
  show wpAny _ _ (field (.ref it) 0 >>= _) _ _ s
  refine wpAny_bind (wpAny_field ho hd (x := .bytes b t) rfl ?_)
  show wpAny _ _ (if (Value.bytes b t == Value.none) = true then _ else _) _ _ s
  rw [if_neg (show ¬ ((Value.bytes b t == Value.none) = true) from Bool.false_ne_true)]
  show wpAny _ _ (field (.ref it) 1 >>= _) _ _ s
  refine wpAny_bind (wpAny_field ho hd (x := .int i 0) rfl ?_)
  refine wpAny_bind (wpAny_of_eq (a := b) rfl ?_)
  simp only [Int.toNat_natCast, hx]
  refine wpAny_bind (wpAny_rule (wpAny_bind (wpAny_setField ho hd (by simp) ?_)))
  show wpAny _ _ (newExc (.type "StopIteration") [] >>= _) _ _ _
  refine wpAny_bind ?_
  simp only [newExc, newTuple]
  refine wpAny_bind (wpAny_newObj_type ?_ (by size_fits))
  refine wpAny_bind (m := firstArgMember _ _) (wpAny_of_eq (a := Value.none) (by first | rfl | (simp only [firstArgMember]; rfl)) ?_)
  refine wpAny_newObj_type ?_ (by size_fits)
  simp only [raiseNew]
  refine wpAny_bind (wpAny_handled ?_)
  first | rw [show A.in1.handled = none from hh] | rw [hh]
  refine wpAny_bind (wpAny_pure (wpAny_throw ?_))
  exact hE _ _ (((Heap.SameBut.update ..).extBut.push _).push _) ⟨_, Heap.get?_push_size _ rfl, rfl⟩
end
theorem ints_getD {b : Array UInt8} {ns : List Int} (hb : KBw.bInts b = ns) {i : Nat} (hi : i < ns.length) : ∃ c, b[i]? = some c ∧ ns.getD i 0 = (c.toNat : Int) := by
  have hl := KBw.ints_length b
  rw [hb] at hl
  have e : b[i]? = some (b[i]'(by omega)) := Array.getElem?_eq_getElem (by omega)
  refine ⟨_, e, ?_⟩
  have := KBw.ints_get e
  rw [hb] at this
  rw [List.getD_eq_getElem?_getD, this]; rfl
theorem ItG.bytes {prog : Program} {w : World} {n0 : Nat} {I : Addr} {b : Array UInt8} {t : Tok} {ns : List Int} (hb : KBw.bInts b = ns) : ItG prog w n0 I ns (fun i h => KBw.IsBytesIter h I b t i) where
  frame := fun _ _ _ st hk _ => let ⟨o, ho, r⟩ := st; ⟨o, hk o ho, r⟩
  here := fun _ _ st => let ⟨o, ho, _⟩ := st; ⟨o, ho⟩
  item := fun i s Q hi st hQ => by
    obtain ⟨c, hc, e⟩ := ints_getD hb hi
    rw [e] at hQ
    exact nextB_item st hc fun h' st' sb => hQ h' _ _ st' sb
  done := fun s Q hh st hE => nextB_end hh st (by
    have hl := KBw.ints_length b
    rw [hb] at hl
    rw [hl]; exact Array.getElem?_eq_none (Nat.le_refl _)) hE
theorem ItG.list {prog : Program} {w : World} {n0 : Nat} {I l : Addr} {us : List Value} {ns : List Int} (hi : IntsAre us ns) (hl : l < n0) : ItG prog w n0 I ns (fun i h => h.IsListIter I l i ∧ h.IsList l us.toArray) where
  frame := fun _ _ _ st hk hk' => ⟨st.1.at hk, st.2.at fun o e => hk' l o hl e⟩
  here := fun _ _ st => let ⟨⟨o, ho, _⟩, _⟩ := st; ⟨o, ho⟩
  item := fun i s Q hlt st hQ => by
    obtain ⟨t, ht⟩ := hi.get i (ns.getD i 0) (by rw [List.getD_eq_getElem?_getD, List.getElem?_eq_getElem hlt]; rfl)
    refine wpAny_nextOf_list_item st.1 st.2 (x := .int (ns.getD i 0) t) (by simpa using ht) fun h' hit' hs' => ?_
    by_cases e : l = I
    · exfalso
      obtain ⟨o, ho, hc, _⟩ := st.1
      obtain ⟨o', ho', hc', _⟩ := st.2
      rw [e, ho] at ho'
      cases ho'
      rw [hc] at hc'
      exact absurd (Value.type.inj hc') (by decide)
    · exact hQ h' t s.toks ⟨hit', st.2.extBut hs'.extBut e⟩ hs'
  done := fun s Q hh st hE => wpAny_nextOf_list_end hh st.1 st.2 (by
    have := hi.length
    exact Array.getElem?_eq_none (by rw [List.size_toArray]; omega)) hE
/-- where a zip's parts lie -/
structure ZAp (n0 z TI TO I1 I2 : Addr) : Prop where
  lz : n0 ≤ z
  lTI : n0 ≤ TI
  lTO : n0 ≤ TO
  l1 : n0 ≤ I1
  l2 : n0 ≤ I2
  TIz : TI ≠ z
  TOz : TO ≠ z
  i1z : I1 ≠ z
  i2z : I2 ≠ z
  TITO : TI ≠ TO
  TI1 : TI ≠ I1
  TI2 : TI ≠ I2
  TO1 : TO ≠ I1
  TO2 : TO ≠ I2
  i12 : I1 ≠ I2
def ZSt (S1 S2 : Nat → Heap → Prop) (z TI TO I1 I2 : Addr) (f0 : Value) (i : Nat) (h : Heap) : Prop := IsZip h z TI TO f0 ∧ IsPair h TI (.ref I1) (.ref I2) ∧ (∃ a b, IsPair h TO a b) ∧ S1 i h ∧ S2 i h
section
variable {prog : Program} {w : World} {A : Around} {E : Value → Shared → Prop} {s : Shared} {n0 z TI TO I1 I2 : Addr} {ns1 ns2 : List Int} {S1 S2 : Nat → Heap → Prop}
theorem zipG_item (D : ZAp n0 z TI TO I1 I2) (G1 : ItG prog w n0 I1 ns1 S1) (G2 : ItG prog w n0 I2 ns2 S2) {i : Nat} (h1 : i < ns1.length) (h2 : i < ns2.length) (st : ZSt S1 S2 z TI TO I1 I2 .none i s.heap) {Q : Option Value → Shared → Prop}
    (hQ : ∀ (T : Addr) h' k t u, ZSt S1 S2 z TI TO I1 I2 (rawInt T) (i + 1) h' → IsPair h' T (.int (ns1.getD i 0) t) (.int (ns2.getD i 0) u) → n0 ≤ T → s.heap.get? T = none → T ≠ z → (∀ c o, c ≠ z → c ≠ TO → c ≠ I1 → c ≠ I2 → s.heap.get? c = some o → h'.get? c = some o) → Q (some (.ref T)) { s with heap := h', toks := k }) :
    wpAny (model prog w) A (pyNext (.ref z)) Q E s := by
  obtain ⟨hz, hTI, ⟨a, b, hTO⟩, s1, s2⟩ := st
  have hT : s.TypeIs (.ref z) "zip" := ⟨_, hz, rfl⟩
  unfold pyNext
  refine wpAny_bind (wpAny_attempt (wpAny_callSpecial?_slot (name := Str.ofString "__next__") hT PySem.F.slot_zip_next (wpAny_call_entry PySem.F.slot_zip_next hT PySem.F.entry_zip_next ?_ (PySem.F.args_zip_next_1 _))))
  show wpAny _ _ (field (.ref z) 2 >>= _) _ _ _
  refine wpAny_bind (wpAny_field hz rfl (x := .bool false) rfl ?_)
  show wpAny _ _ (field (.ref z) 3 >>= _) _ _ _
  refine wpAny_bind (wpAny_field hz rfl (x := .ref TI) rfl ?_)
  refine wpAny_bind (wpAny_seqItems hTI rfl ?_)
  show wpAny _ _ (Builtin.SmallTypes.ownedTupleIsFree (.ref z) >>= _) _ _ _
  refine wpAny_bind ?_
  unfold Builtin.SmallTypes.ownedTupleIsFree
  refine wpAny_bind (wpAny_field hz rfl (x := .none) rfl (wpAny_pure ?_))
  simp only [if_true]
  refine wpAny_bind (wpAny_rule ?_)
  refine wpAny_bind (wpAny_field hz rfl (x := .ref TO) rfl ?_)
  refine wpAny_bind (wpAny_setField_rec hz (by simp) fun h₁ hz₁ hs₁ => ?_)
  replace hz₁ : IsZip h₁ z TI TO .ellipsis := hz₁
  refine wpAny_bind ?_
  simp only [List.zipIdx_cons, List.zipIdx_nil, List.forIn_cons, List.forIn_nil]
  refine wpAny_bind (wpAny_bind (wpAny_onRaise ?_))
  show wpAny _ _ (Builtin.SmallTypes.nextOf (.ref I1) >>= _) _ _ _
  refine wpAny_bind (G1.item i _ _ h1 (G1.frame _ _ _ s1 (fun o e => hs₁.extBut _ _ D.i1z e) (KeepLow.of hs₁.extBut D.lz)) fun h₂ t k₂ s1₂ hs₂ => wpAny_pure ?_)
  have hTO₂ : IsPair h₂ TO a b := hs₂.extBut _ _ D.TO1 (hs₁.extBut _ _ D.TOz hTO)
  refine wpAny_bind (wpAny_seqItems hTO₂ rfl ?_)
  refine wpAny_bind (wpAny_updateSeq_pair hTO₂ fun h₃ hTO₃ hs₃ => ?_)
  refine wpAny_bind (wpAny_letGo (wpAny_pure ?_))
  refine wpAny_bind (wpAny_bind (wpAny_onRaise ?_))
  show wpAny _ _ (Builtin.SmallTypes.nextOf (.ref I2) >>= _) _ _ _
  have s2₃ : S2 i h₃ := G2.frame _ _ _ (G2.frame _ _ _ (G2.frame _ _ _ s2 (fun o e => hs₁.extBut _ _ D.i2z e) (KeepLow.of hs₁.extBut D.lz)) (fun o e => hs₂.extBut _ _ D.i12.symm e) (KeepLow.of hs₂.extBut D.l1)) (fun o e => hs₃.extBut _ _ D.TO2.symm e) (KeepLow.of hs₃.extBut D.lTO)
  refine wpAny_bind (G2.item i _ _ h2 s2₃ fun h₄ u k₄ s2₄ hs₄ => wpAny_pure ?_)
  have hTO₄ := hs₄.extBut _ _ D.TO2 hTO₃
  refine wpAny_bind (wpAny_seqItems hTO₄ rfl ?_)
  refine wpAny_bind (wpAny_updateSeq_pair hTO₄ fun h₅ hTO₅ hs₅ => ?_)
  replace hTO₅ : IsPair h₅ TO (.int (ns1.getD i 0) t) (.int (ns2.getD i 0) u) := hTO₅
  refine wpAny_bind (wpAny_letGo (wpAny_pure (wpAny_pure ?_)))
  refine wpAny_bind (wpAny_seqItems hTO₅ rfl ?_)
  refine wpAny_bind (wpAny_newTuple ?_)
  have hsz : h₅.objs.size = s.heap.objs.size := by rw [hs₅.1, hs₄.1, hs₃.1, hs₂.1, hs₁.1]
  have hz₅ : IsZip h₅ z TI TO .ellipsis := hs₅.extBut _ _ D.TOz.symm (hs₄.extBut _ _ D.i2z.symm (hs₃.extBut _ _ D.TOz.symm (hs₂.extBut _ _ D.i1z.symm hz₁)))
  have hk₅ : ∀ c o, c ≠ z → c ≠ TO → c ≠ I1 → c ≠ I2 → s.heap.get? c = some o → h₅.get? c = some o := fun c o c1 c2 c3 c4 e =>
    hs₅.extBut _ _ c2 (hs₄.extBut _ _ c4 (hs₃.extBut _ _ c2 (hs₂.extBut _ _ c3 (hs₁.extBut _ _ c1 e))))
  have s1₅ : S1 (i + 1) h₅ := G1.frame _ _ _ (G1.frame _ _ _ (G1.frame _ _ _ s1₂ (fun o e => hs₃.extBut _ _ D.TO1.symm e) (KeepLow.of hs₃.extBut D.lTO)) (fun o e => hs₄.extBut _ _ D.i12 e) (KeepLow.of hs₄.extBut D.l2)) (fun o e => hs₅.extBut _ _ D.TO1.symm e) (KeepLow.of hs₅.extBut D.lTO)
  have s2₅ : S2 (i + 1) h₅ := G2.frame _ _ _ s2₄ (fun o e => hs₅.extBut _ _ D.TO2.symm e) (KeepLow.of hs₅.extBut D.lTO)
  have hzlt : z < h₅.objs.size := Heap.lt_size hz₅
  obtain ⟨o1, e1⟩ := G1.here _ _ s1₅
  obtain ⟨o2, e2⟩ := G2.here _ _ s2₅
  show wpAny _ _ (Builtin.SmallTypes.ownedTupleHandOut (.ref z) (.ref h₅.objs.size) >>= _) _ _ _
  refine wpAny_bind ?_
  unfold Builtin.SmallTypes.ownedTupleHandOut
  have hz₆ : IsZip (h₅.push { cls := .type "tuple", data := .seq #[.int (ns1.getD i 0) t, .int (ns2.getD i 0) u] }) z TI TO .ellipsis := Heap.get?_push_of_some _ hz₅
  refine wpAny_bind (wpAny_setField_rec hz₆ (by simp) fun h₇ hz₇ hs₇ => ?_)
  replace hz₇ : IsZip h₇ z TI TO (rawInt h₅.objs.size) := hz₇
  refine wpAny_setField_rec hz₇ (by simp) fun h₈ hz₈ hs₈ => ?_
  replace hz₈ : IsZip h₈ z TI TO (rawInt h₅.objs.size) := hz₈
  have up : ∀ c o, c ≠ z → h₅.get? c = some o → h₈.get? c = some o := fun c o c1 e => hs₈.extBut _ _ c1 (hs₇.extBut _ _ c1 (Heap.get?_push_of_some _ e))
  have hT₈ : IsPair h₈ h₅.objs.size (.int (ns1.getD i 0) t) (.int (ns2.getD i 0) u) := hs₈.extBut _ _ (Nat.ne_of_gt hzlt) (hs₇.extBut _ _ (Nat.ne_of_gt hzlt) (Heap.get?_push_size _ rfl))
  have low : KeepLow n0 h₅ h₈ := fun b o hb e => up b o (fun q => absurd hb (by rw [q]; exact Nat.not_lt.mpr D.lz)) e
  refine wpAny_pure ⟨_, rfl, wpAny_pure ?_⟩
  show Q (some (.ref h₅.objs.size)) _
  refine hQ h₅.objs.size h₈ k₄ t u ⟨hz₈, up _ _ D.TIz (hk₅ _ _ D.TIz D.TITO D.TI1 D.TI2 hTI), ⟨_, _, up _ _ D.TOz hTO₅⟩, G1.frame _ _ _ s1₅ (fun o e => up _ o D.i1z e) low, G2.frame _ _ _ s2₅ (fun o e => up _ o D.i2z e) low⟩ hT₈ ?_ ?_ (Nat.ne_of_gt hzlt) fun c o c1 c2 c3 c4 e => up c o c1 (hk₅ c o c1 c2 c3 c4 e)
  · exact Nat.le_of_lt (Nat.lt_of_le_of_lt D.lz hzlt)
  · cases q : s.heap.get? h₅.objs.size with
    | none => rfl
    | some o => exact absurd (Heap.lt_size q) (by rw [hsz]; exact Nat.lt_irrefl _)
theorem zipG_end (hh : A.handled = none) (D : ZAp n0 z TI TO I1 I2) (G1 : ItG prog w n0 I1 ns1 S1) (st : ZSt S1 S2 z TI TO I1 I2 .none ns1.length s.heap) {Q : Option Value → Shared → Prop}
    (hQ : ∀ h', (∀ c o, c ≠ z → c ≠ TO → c ≠ I1 → c ≠ I2 → s.heap.get? c = some o → h'.get? c = some o) → Q none { s with heap := h' }) : wpAny (model prog w) A (pyNext (.ref z)) Q E s := by
  obtain ⟨hz, hTI, ⟨a, b, hTO⟩, s1, s2⟩ := st
  have hT : s.TypeIs (.ref z) "zip" := ⟨_, hz, rfl⟩
  unfold pyNext
  refine wpAny_bind (wpAny_attempt (wpAny_callSpecial?_slot (name := Str.ofString "__next__") hT PySem.F.slot_zip_next (wpAny_call_entry PySem.F.slot_zip_next hT PySem.F.entry_zip_next ?_ (PySem.F.args_zip_next_1 _))))
  show wpAny _ _ (field (.ref z) 2 >>= _) _ _ _
  refine wpAny_bind (wpAny_field hz rfl (x := .bool false) rfl ?_)
  show wpAny _ _ (field (.ref z) 3 >>= _) _ _ _
  refine wpAny_bind (wpAny_field hz rfl (x := .ref TI) rfl ?_)
  refine wpAny_bind (wpAny_seqItems hTI rfl ?_)
  show wpAny _ _ (Builtin.SmallTypes.ownedTupleIsFree (.ref z) >>= _) _ _ _
  refine wpAny_bind ?_
  unfold Builtin.SmallTypes.ownedTupleIsFree
  refine wpAny_bind (wpAny_field hz rfl (x := .none) rfl (wpAny_pure ?_))
  simp only [if_true]
  refine wpAny_bind (wpAny_rule ?_)
  refine wpAny_bind (wpAny_field hz rfl (x := .ref TO) rfl ?_)
  refine wpAny_bind (wpAny_setField_rec hz (by simp) fun h₁ hz₁ hs₁ => ?_)
  replace hz₁ : IsZip h₁ z TI TO .ellipsis := hz₁
  refine wpAny_bind ?_
  simp only [List.zipIdx_cons, List.zipIdx_nil, List.forIn_cons, List.forIn_nil]
  refine wpAny_bind (wpAny_bind (wpAny_onRaise ?_))
  show wpAny _ _ (Builtin.SmallTypes.nextOf (.ref I1) >>= _) _ _ _
  refine wpAny_bind (G1.done _ _ hh (G1.frame _ _ _ s1 (fun o e => hs₁.extBut _ _ D.i1z e) (KeepLow.of hs₁.extBut D.lz)) fun h₂ e hs₂ he => ?_)
  obtain ⟨oe, hoe, hce⟩ := he
  have hz₂ : IsZip h₂ z TI TO .ellipsis := hs₂ _ _ D.i1z.symm hz₁
  have hez : e ≠ z := fun x => by subst x; rw [hz₂] at hoe; cases hoe; simp at hce
  refine wpAny_setField_rec hz₂ (by simp) fun h₃ _ hs₃ => ?_
  refine wpAny_bind (wpAny_isInstance (T := "StopIteration") (b := true) ⟨oe, hs₃.extBut _ _ hez hoe, hce⟩ isSubtype_stop ?_)
  exact wpAny_pure (hQ _ fun c o c1 _ c3 _ x => hs₃.extBut _ _ c1 (hs₂ _ _ c3 (hs₁.extBut _ _ c1 x)))
end
end
section
abbrev zH3 (h : Heap) (o1 o2 : Obj) : Heap := ((h.push o1).push o2).push { cls := .type "tuple", data := .seq #[.ref h.objs.size, .ref (h.push o1).objs.size] }
abbrev zH4 (h : Heap) (o1 o2 : Obj) : Heap := (zH3 h o1 o2).push { cls := .type "tuple", data := .seq #[.none, .none] }
abbrev zH5 (h : Heap) (o1 o2 : Obj) : Heap := (zH4 h o1 o2).push { cls := .type "zip", data := .fields #[.none, .bool false, .bool false, .ref ((h.push o1).push o2).objs.size, .ref (zH3 h o1 o2).objs.size] }
def Iters (v : Value) (o : Obj) (s : Shared) : Prop := ∀ (prog : Program) (w : World) (A : Around) (E Q : Value → Shared → Prop), Q (.ref s.heap.objs.size) { s with heap := s.heap.push o } → wpAny (model prog w) A (pyIter v) Q E s
theorem meets_zipG (v1 v2 : Value) (o1 o2 : Obj) :
    Meets (Builtin.«zip.__new__» ⟨[.type "zip", v1, v2], []⟩) (fun _ R s => Iters v1 o1 s ∧ Iters v2 o2 { s with heap := s.heap.push o1 } ∧
      R (.ok (.ret (.ref (zH4 s.heap o1 o2).objs.size))) { s with heap := zH5 s.heap o1 o2 }) :=
  .of_wp fun prog w A R s h => by
    obtain ⟨hp, g, d, tk, os⟩ := s; obtain ⟨hl1, hl2, h⟩ := h
    have hsub := sub_zip
    have k1 := fun (A : Around) (E Q : Value → Shared → Prop) => hl1 prog w A E Q
    have k2 := fun (A : Around) (E Q : Value → Shared → Prop) => hl2 prog w A E Q
    wp_walk using k1 _ _ _, k2 _ _ _
    exact ⟨_, rfl, h⟩
section
variable {prog : Program} {w : World} {A : Around} {E : Value → Shared → Prop} {s : Shared} {n0 z TI TO I1 I2 : Addr} {ns1 ns2 : List Int} {S1 S2 : Nat → Heap → Prop}
theorem call_zipG {v1 v2 : Value} {o1 o2 : Obj} (i1 : Iters v1 o1 s) (i2 : Iters v2 o2 { s with heap := s.heap.push o1 }) (f1 : o1.isFreed = false) (f2 : o2.isFreed = false) {Q : Value → Shared → Prop}
    (h : ∀ h', IsZip h' (s.heap.objs.size + 4) (s.heap.objs.size + 2) (s.heap.objs.size + 3) .none → IsPair h' (s.heap.objs.size + 2) (.ref s.heap.objs.size) (.ref (s.heap.objs.size + 1)) → IsPair h' (s.heap.objs.size + 3) .none .none →
      h'.get? s.heap.objs.size = some o1 → h'.get? (s.heap.objs.size + 1) = some o2 → h'.objs.size = s.heap.objs.size + 5 → (∀ c o, s.heap.get? c = some o → h'.get? c = some o) → Q (.ref (s.heap.objs.size + 4)) { s with heap := h' }) :
    wpAny (model prog w) A (call (.type "zip") [v1, v2]) Q E s := by
  refine callType_new PySem.F.called_zip (by decide) (PySem.F.typeCall_zip_2 _ _) (PySem.F.newCall_zip_2 _ _) (fun obj => PySem.F.args_object_init_3 obj _ _) PySem.F.entry_zip_new (meets_zipG v1 v2 o1 o2) ⟨i1, i2, ?_⟩
  have z1 : (s.heap.push o1).objs.size = s.heap.objs.size + 1 := Heap.size_push ..
  have z2 : ((s.heap.push o1).push o2).objs.size = s.heap.objs.size + 2 := by rw [Heap.size_push, z1]
  have z3 : (zH3 s.heap o1 o2).objs.size = s.heap.objs.size + 3 := by rw [Heap.size_push, z2]
  have z4 : (zH4 s.heap o1 o2).objs.size = s.heap.objs.size + 4 := by rw [Heap.size_push, z3]
  have z5 : (zH5 s.heap o1 o2).objs.size = s.heap.objs.size + 5 := by rw [Heap.size_push, z4]
  have g5 : (zH5 s.heap o1 o2).get? (zH4 s.heap o1 o2).objs.size = some _ := Heap.get?_push_size _ rfl
  have g4 : (zH5 s.heap o1 o2).get? (zH3 s.heap o1 o2).objs.size = some _ := Heap.get?_push_of_some _ (Heap.get?_push_size _ rfl)
  have g3 : (zH5 s.heap o1 o2).get? ((s.heap.push o1).push o2).objs.size = some _ := Heap.get?_push_of_some _ (Heap.get?_push_of_some _ (Heap.get?_push_size _ rfl))
  have g2 : (zH5 s.heap o1 o2).get? (s.heap.push o1).objs.size = some o2 := Heap.get?_push_of_some _ (Heap.get?_push_of_some _ (Heap.get?_push_of_some _ (Heap.get?_push_size _ f2)))
  have g1 : (zH5 s.heap o1 o2).get? s.heap.objs.size = some o1 := Heap.get?_push_of_some _ (Heap.get?_push_of_some _ (Heap.get?_push_of_some _ (Heap.get?_push_of_some _ (Heap.get?_push_size _ f1))))
  show _ ∧ _
  rw [z2, z3, z4] at g5
  rw [z1, z2] at g3
  rw [z3] at g4
  rw [z1] at g2
  rw [z4]
  exact ⟨⟨_, g5, rfl⟩, h _ g5 g3 g4 g1 g2 z5 fun c o x => Heap.get?_push_of_some _ (Heap.get?_push_of_some _ (Heap.get?_push_of_some _ (Heap.get?_push_of_some _ (Heap.get?_push_of_some _ x))))⟩
theorem ZSt.frame (G1 : ItG prog w n0 I1 ns1 S1) (G2 : ItG prog w n0 I2 ns2 S2) {f0 : Value} {i : Nat} {h h' : Heap} (st : ZSt S1 S2 z TI TO I1 I2 f0 i h) (k : KeepLow n0 h h') (k2 : ∀ c o, c = z ∨ c = TI ∨ c = TO ∨ c = I1 ∨ c = I2 → h.get? c = some o → h'.get? c = some o) :
    ZSt S1 S2 z TI TO I1 I2 f0 i h' := by
  obtain ⟨hz, hTI, ⟨a, b, hTO⟩, s1, s2⟩ := st
  exact ⟨k2 _ _ (.inl rfl) hz, k2 _ _ (.inr (.inl rfl)) hTI, ⟨a, b, k2 _ _ (.inr (.inr (.inl rfl))) hTO⟩, G1.frame _ _ _ s1 (fun o e => k2 _ o (.inr (.inr (.inr (.inl rfl)))) e) k, G2.frame _ _ _ s2 (fun o e => k2 _ o (.inr (.inr (.inr (.inr rfl)))) e) k⟩
theorem IntsAre.snoc {us : List Value} {ns : List Int} (h : IntsAre us ns) (n : Int) (t : Tok) : IntsAre (us ++ [.int n t]) (ns ++ [n]) := IntsAre.append h (.cons n t .nil)
theorem zipWith_take {f : Int → Int → Int} {a b : List Int} {i : Nat} (h1 : i < a.length) (h2 : i < b.length) : List.zipWith f (a.take (i + 1)) (b.take (i + 1)) = List.zipWith f (a.take i) (b.take i) ++ [f (a.getD i 0) (b.getD i 0)] := by
  rw [List.take_succ, List.take_succ, List.getElem?_eq_getElem h1, List.getElem?_eq_getElem h2]
  rw [List.zipWith_append (by simp; omega)]
  rw [List.getD_eq_getElem?_getD, List.getD_eq_getElem?_getD, List.getElem?_eq_getElem h1, List.getElem?_eq_getElem h2]
  rfl
open LCg in
theorem zip_block {h₀ : Heap} {L : Addr} {m : Str → Option Value} {env : Env} {iter : Expr} {x x₂ : Str} {px px₂ tp qx qx₂ qq : Pos} {tk} {scope : Scope} {cl : List (Str × Addr)} {pos : Pos} {s₂ : Shared} {news : List (Addr × Obj)} {RR : Value → Addr → Result → Shared → Prop}
    (D : ZAp n0 z TI TO I1 I2) (G1 : ItG prog w n0 I1 ns1 S1) (G2 : ItG prog w n0 I2 ns2 S2) (hl : ns1.length ≤ ns2.length) (hsz : ns1.length ≤ sizeLine) (st : ZSt S1 S2 z TI TO I1 I2 .none 0 s₂.heap) (hup : z < s₂.heap.objs.size ∧ TI < s₂.heap.objs.size ∧ TO < s₂.heap.objs.size ∧ I1 < s₂.heap.objs.size ∧ I2 < s₂.heap.objs.size)
    (hcell : ∀ y ∈ scope.names, y.2 ≠ .cell) (hkind : scope.kind = .function) (hx : scope.names.lookup x = some .local) (hx₂ : scope.names.lookup x₂ = some .local) (hxx : x ≠ x₂) (hxd : (x == ("__debug__" : Str)) = false) (hxd₂ : (x₂ == ("__debug__" : Str)) = false) (hh : A.handled = none)
    (F : Fr h₀ L s₂.heap m) (N : News h₀ L s₂.heap news) (low : ∀ p ∈ news, p.1 < n0) (hL : L < n0) (hb : h₀.objs.size ≤ n0) (hn0 : n0 ≤ s₂.heap.objs.size)
    (hRR : ∀ D C h tk m' ys, Fr h₀ L h m → News h₀ L h ((D, lst ys) :: news) → Off1 D news → h.Ns C m' → h₀.get? C = none → h₀.get? D = none → C ≠ L → D ≠ L → C ≠ D → (∀ p ∈ news, p.1 ≠ C) → IntsAre ys (List.zipWith Builtin.bitXor ns1 ns2) → RR (.ref D) C (.ok .next) { s₂ with heap := h, toks := tk }) :
    wpAny (model prog w) A (newList []) (fun acc s₃ => wpAny (model prog w) A (newFunctionEnv scope env.globals cl [] env.qual none .none (some env)) (fun cenv s₄ =>
      codeAny (model prog w) A (.compStart (.ListComp (.BinOp (.Name x qx) .BitXor (.Name x₂ qx₂) qq) [⟨.Tuple [.Name x px, .Name x₂ px₂] tk tp, iter, [], 0⟩] scope pos) 0 (.ref z) acc { cenv with scope := relabel scope env }) (RR acc cenv.locals) s₄) E s₃) E s₂ := by
  refine wpAny_newObj_type (wpAny_newFunctionEnv hcell (by intro y hy; simp at hy) (fun h₁ hns₁ hsb₁ => ?_) hkind)
  dsimp only at hns₁ hsb₁ ⊢
  generalize hH2 : s₂.heap.push { cls := .type "list", dict := none, data := .seq ([] : List Value).toArray } = H2 at hns₁ hsb₁ ⊢
  have hC : H2.objs.size = s₂.heap.objs.size + 1 := by rw [← hH2, Heap.size_push]
  have hDC : s₂.heap.objs.size ≠ H2.objs.size := by rw [hC]; exact Nat.ne_of_lt (Nat.lt_succ_self _)
  have below : ∀ b, b < s₂.heap.objs.size → b ≠ H2.objs.size ∧ b ≠ s₂.heap.objs.size := fun b hb => ⟨by rw [hC]; exact Nat.ne_of_lt (Nat.lt_succ_of_lt hb), Nat.ne_of_lt hb⟩
  have old : ∀ b o, s₂.heap.get? b = some o → h₁.get? b = some o := fun b o e => hsb₁.extBut b o (below b (Heap.lt_size e)).1 (Heap.get?_push_of_some _ (hH2 ▸ Heap.get?_push_of_some _ e))
  have hacc : h₁.get? s₂.heap.objs.size = some (lst []) := hsb₁.extBut _ _ hDC (Heap.get?_push_of_some _ (hH2 ▸ Heap.get?_push_size _ rfl))
  have fresh₀ : ∀ a, s₂.heap.objs.size ≤ a → h₀.get? a = none := fun a ha => by
    cases e : h₀.get? a with
    | none => rfl
    | some o' => exact absurd (Heap.lt_size (F.keep a o' e)) (Nat.not_lt.mpr ha)
  have hD₀ : h₀.get? s₂.heap.objs.size = none := fresh₀ _ (Nat.le_refl _)
  have hC₀ : h₀.get? H2.objs.size = none := fresh₀ _ (by rw [hC]; exact Nat.le_succ _)
  have hDL : s₂.heap.objs.size ≠ L := fun q => absurd hL (by rw [← q]; exact Nat.not_lt.mpr hn0)
  have hCL : H2.objs.size ≠ L := fun q => absurd hL (by rw [← q, hC]; exact Nat.not_lt.mpr (Nat.le_succ_of_le hn0))
  have zC : ∀ c, c = z ∨ c = TI ∨ c = TO ∨ c = I1 ∨ c = I2 → c < s₂.heap.objs.size := by
    rintro c (rfl | rfl | rfl | rfl | rfl)
    · exact hup.1
    · exact hup.2.1
    · exact hup.2.2.1
    · exact hup.2.2.2.1
    · exact hup.2.2.2.2
  have frOf : ∀ h, KeepLow n0 s₂.heap h → Fr h₀ L h m := fun h k => ⟨F.ns.at' fun o e => k L o hL e, fun b o e => k b o (Nat.lt_of_lt_of_le (Heap.lt_size e) hb) (F.keep b o e), F.above⟩
  have nwOf : ∀ h, KeepLow n0 s₂.heap h → News h₀ L h news := fun h k p hp => ⟨k _ _ (low p hp) (N p hp).1, (N p hp).2⟩
  have loop : ∀ s₃ : Shared, s₃ = { s₂ with heap := h₁, toks := s₂.toks + ([] : List (Str × Value)).length } →
      codeAny (model prog w) A (.compLoop (.ListComp (.BinOp (.Name x qx) .BitXor (.Name x₂ qx₂) qq) [⟨.Tuple [.Name x px, .Name x₂ px₂] tk tp, iter, [], 0⟩] scope pos) 0 (.ref z) (.ref s₂.heap.objs.size) (compEnvC scope cl H2.objs.size env))
        (RR (.ref s₂.heap.objs.size) H2.objs.size) s₃ := by
    rintro s₃ rfl
    refine LCp.codeAny_compLoop_pair
      (fun k s' => ∃ h' tk i ys m', s' = { s₂ with heap := h', toks := tk } ∧ i ≤ ns1.length ∧ k = ns1.length + 1 - i ∧ ys.length = i ∧ ZSt S1 S2 z TI TO I1 I2 .none i h' ∧ KeepLow n0 s₂.heap h' ∧ h'.Ns H2.objs.size m' ∧ h'.get? s₂.heap.objs.size = some (lst ys) ∧
        IntsAre ys (List.zipWith Builtin.bitXor (ns1.take i) (ns2.take i))) ?_ (ns1.length + 1)
      ⟨h₁, _, 0, [], _, rfl, Nat.zero_le _, rfl, rfl, st.frame G1 G2 (fun b o _ e => old b o e) (fun c o _ e => old c o e), fun b o _ e => old b o e, hns₁, hacc, .nil⟩
    rintro k s' ⟨h', tk, i, ys, m', rfl, hi, rfl, hyl, hst', hkl, hn', hD', hiy⟩
    by_cases hlt : i < ns1.length
    · refine zipG_item D G1 G2 hlt (by omega) hst' fun T h₂ tk₂ t u hst₂ hT₂ hTn hTf hTz hk₂ => ?_
      have z4 : ∀ c, n0 > c → c ≠ z ∧ c ≠ TO ∧ c ≠ I1 ∧ c ≠ I2 := fun c hc => ⟨fun q => absurd D.lz (by rw [← q]; exact Nat.not_le.mpr hc), fun q => absurd D.lTO (by rw [← q]; exact Nat.not_le.mpr hc), fun q => absurd D.l1 (by rw [← q]; exact Nat.not_le.mpr hc), fun q => absurd D.l2 (by rw [← q]; exact Nat.not_le.mpr hc)⟩
      have up4 : ∀ c, s₂.heap.objs.size ≤ c → c ≠ z ∧ c ≠ TO ∧ c ≠ I1 ∧ c ≠ I2 := fun c hc => ⟨fun q => absurd hup.1 (by rw [← q]; exact Nat.not_lt.mpr hc), fun q => absurd hup.2.2.1 (by rw [← q]; exact Nat.not_lt.mpr hc), fun q => absurd hup.2.2.2.1 (by rw [← q]; exact Nat.not_lt.mpr hc), fun q => absurd hup.2.2.2.2 (by rw [← q]; exact Nat.not_lt.mpr hc)⟩
      have kC := fun o => hk₂ H2.objs.size o (up4 _ (by omega)).1 (up4 _ (by omega)).2.1 (up4 _ (by omega)).2.2.1 (up4 _ (by omega)).2.2.2
      have kD := fun o => hk₂ s₂.heap.objs.size o (up4 _ (by omega)).1 (up4 _ (by omega)).2.1 (up4 _ (by omega)).2.2.1 (up4 _ (by omega)).2.2.2
      have kl₂ : KeepLow n0 h' h₂ := fun b o hb e => hk₂ b o (z4 b hb).1 (z4 b hb).2.1 (z4 b hb).2.2.1 (z4 b hb).2.2.2 e
      obtain ⟨hz₂, r₂⟩ := hst₂
      refine wpAny_letOwnedTupleGo_zip hz₂ fun h₃ hz₃ hs₃ => ?_
      have hTI₃ : TI ≠ z := D.TIz
      have hst₃ : ZSt S1 S2 z TI TO I1 I2 .none (i + 1) h₃ := by
        obtain ⟨hTI, ⟨a, b, hTO⟩, s1, s2⟩ := r₂
        exact ⟨hz₃, hs₃.extBut _ _ D.TIz hTI, ⟨a, b, hs₃.extBut _ _ D.TOz hTO⟩, G1.frame _ _ _ s1 (fun o e => hs₃.extBut _ _ D.i1z e) (KeepLow.of hs₃.extBut D.lz), G2.frame _ _ _ s2 (fun o e => hs₃.extBut _ _ D.i2z e) (KeepLow.of hs₃.extBut D.lz)⟩
      have hT₃ := hs₃.extBut _ _ hTz hT₂
      refine assign_Tuple_tuple hh ⟨_, hT₃, rfl, _, rfl⟩ rfl rfl fun h₅ he => ?_
      have he' : ∀ b o, h₃.get? b = some o → h₅.get? b = some o := fun b o e => he b o (Nat.ne_of_lt (Heap.lt_size e)) e
      have hn₅ : h₅.Ns H2.objs.size m' := ((hn'.at' fun o e => kC o e).at' fun o e => hs₃.extBut _ _ (up4 _ (by omega)).1 e).at' fun o e => he' _ o e
      refine assignInOrder_cons (wpAny_assign_Name (wpAny_storeName_local (lookup_relabel_local hx) hn₅ (fun h₆ hn₆ hs₆ => ?_) (by simp [compEnvC, relabel, hkind])))
      refine assignInOrder_cons (wpAny_assign_Name (wpAny_storeName_local (lookup_relabel_local hx₂) hn₆ (fun h₇ hn₇ hs₇ => ?_) (by simp [compEnvC, relabel, hkind])))
      refine assignInOrder_nil ?_
      have k57 : ∀ b o, b ≠ H2.objs.size → h₅.get? b = some o → h₇.get? b = some o := fun b o hb e => hs₇.extBut b o hb (hs₆.extBut b o hb e)
      have lowC : ∀ b, b < n0 → b ≠ H2.objs.size := fun b hb => by rw [hC]; exact Nat.ne_of_lt (Nat.lt_of_lt_of_le hb (Nat.le_succ_of_le hn0))
      have kl₇ : KeepLow n0 s₂.heap h₇ := hkl.trans (kl₂.trans ((KeepLow.of hs₃.extBut D.lz).trans fun b o hb e => k57 b o (lowC b hb) (he' b o e)))
      have hst₇ : ZSt S1 S2 z TI TO I1 I2 .none (i + 1) h₇ := hst₃.frame G1 G2 (fun b o hb e => k57 b o (lowC b hb) (he' b o e)) fun c o hc e => k57 c o (below c (zC c hc)).1 (he' c o e)
      have hD₇ : h₇.get? s₂.heap.objs.size = some (lst ys) := k57 _ _ hDC (he' _ _ (hs₃.extBut _ _ (up4 _ (Nat.le_refl _)).1 (kD _ hD')))
      refine wpAny_BinOp (wpAny_Name (wpAny_loadName_local (by simp [compEnvC, relabel, hkind]) (lookup_relabel_local hx) hn₇ (v := .int (ns1.getD i 0) t) (by simp [hxx]) ?_) hxd)
      refine wpAny_Name (wpAny_loadName_local (by simp [compEnvC, relabel, hkind]) (lookup_relabel_local hx₂) hn₇ (v := .int (ns2.getD i 0) u) (by simp) ?_) hxd₂
      refine xor_int ?_
      refine append_at (hsz := by show ys.toArray.size ≤ sizeLine; rw [List.size_toArray, hyl]; exact Nat.le_trans hi hsz) hD₇ fun h₈ hs₈ hD₈ => ?_
      refine ⟨ns1.length + 1 - (i + 1), by omega, h₈, _, i + 1, ys ++ [_], _, rfl, hlt, rfl, by rw [List.length_append, List.length_singleton, hyl], hst₇.frame G1 G2 (KeepLow.of hs₈.extBut hn0) (fun c o hc e => hs₈.extBut _ _ (below c (zC c hc)).2 e), kl₇.trans (KeepLow.of hs₈.extBut hn0), hn₇.sameBut hs₈ (Ne.symm hDC), hD₈.trans (congrArg some (lst_snoc ys _)), ?_⟩
      rw [zipWith_take hlt (by omega)]
      exact IntsAre.snoc hiy _ _
    · obtain rfl : i = ns1.length := Nat.le_antisymm hi (Nat.not_lt.mp hlt)
      refine zipG_end hh D G1 hst' fun h₂ hk₂ => ?_
      have z4 : ∀ c, n0 > c → c ≠ z ∧ c ≠ TO ∧ c ≠ I1 ∧ c ≠ I2 := fun c hc => ⟨fun q => absurd D.lz (by rw [← q]; exact Nat.not_le.mpr hc), fun q => absurd D.lTO (by rw [← q]; exact Nat.not_le.mpr hc), fun q => absurd D.l1 (by rw [← q]; exact Nat.not_le.mpr hc), fun q => absurd D.l2 (by rw [← q]; exact Nat.not_le.mpr hc)⟩
      have up4 : ∀ c, s₂.heap.objs.size ≤ c → c ≠ z ∧ c ≠ TO ∧ c ≠ I1 ∧ c ≠ I2 := fun c hc => ⟨fun q => absurd hup.1 (by rw [← q]; exact Nat.not_lt.mpr hc), fun q => absurd hup.2.2.1 (by rw [← q]; exact Nat.not_lt.mpr hc), fun q => absurd hup.2.2.2.1 (by rw [← q]; exact Nat.not_lt.mpr hc), fun q => absurd hup.2.2.2.2 (by rw [← q]; exact Nat.not_lt.mpr hc)⟩
      have kl₂ : KeepLow n0 s₂.heap h₂ := hkl.trans fun b o hb e => hk₂ b o (z4 b hb).1 (z4 b hb).2.1 (z4 b hb).2.2.1 (z4 b hb).2.2.2 e
      have kD := hk₂ s₂.heap.objs.size _ (up4 _ (by omega)).1 (up4 _ (by omega)).2.1 (up4 _ (by omega)).2.2.1 (up4 _ (by omega)).2.2.2 hD'
      have hz : List.zipWith Builtin.bitXor (ns1.take ns1.length) (ns2.take ns1.length) = List.zipWith Builtin.bitXor ns1 ns2 := by
        rw [List.take_length]
        conv => rhs; rw [← List.take_append_drop ns1.length ns2]
        rw [← List.append_nil ns1, List.zipWith_append (by simp; omega)]
        simp
      rw [hz] at hiy
      refine hRR _ _ h₂ _ m' ys (frOf _ kl₂) (fun p hp => ?_) ?_ (hn'.at' fun o e => hk₂ H2.objs.size o (up4 _ (by omega)).1 (up4 _ (by omega)).2.1 (up4 _ (by omega)).2.2.1 (up4 _ (by omega)).2.2.2 e) hC₀ hD₀ hCL hDL (Ne.symm hDC) (fun p hp q => ?_) hiy
      · rcases List.mem_cons.mp hp with rfl | hp
        · exact ⟨kD, hDL, hD₀⟩
        · exact nwOf _ kl₂ p hp
      · have : ∀ l : List (Addr × Obj), (∀ p ∈ l, p.1 < n0) → Off1 s₂.heap.objs.size l := by
          intro l
          induction l with
          | nil => intro _; trivial
          | cons p l ih => exact fun h => ⟨fun q => absurd (h p List.mem_cons_self) (by rw [q]; exact Nat.not_lt.mpr hn0), ih fun p hp => h p (List.mem_cons_of_mem _ hp)⟩
        exact this news low
      · have := low p hp
        rw [q, hC] at this
        exact absurd this (Nat.not_lt.mpr (Nat.le_succ_of_le hn0))
  exact codeAny_compStart_list (loop _ rfl) (wpAny_pyIter_zip (st.frame G1 G2 (h' := h₁) (fun b o _ e => old b o e) (fun c o _ e => old c o e)).1 (loop _ rfl))
end
end
section
/-- a value that is a row of ints: bytes, a list of the ledger, a list of the base -/
inductive PVl (h₀ : Heap) (nw : List (Addr × Obj)) : Value → List Int → Prop
  | bytes {b : Array UInt8} {t : Tok} {ns : List Int} (hb : KBw.bInts b = ns) : PVl h₀ nw (.bytes b t) ns
  | list {l : Addr} {us : List Value} {n : Nat} {ns : List Int} (hm : (l, listOf us.toArray n) ∈ nw) (hi : IntsAre us ns) : PVl h₀ nw (.ref l) ns
  | base {l : Addr} {us : List Value} {n : Nat} {ns : List Int} (hg : h₀.get? l = some (listOf us.toArray n)) (hi : IntsAre us ns) : PVl h₀ nw (.ref l) ns
theorem PVl.in {h₀ h : Heap} {L : Addr} {m : Str → Option Value} {nw : List (Addr × Obj)} {v : Value} {ns : List Int} (P : PVl h₀ nw v ns) (F : Fr h₀ L h m) (N : News h₀ L h nw) : PVin h v ns := by
  cases P with
  | bytes hb => exact .bytes hb
  | list hm hi => exact .list (N _ hm).1 hi
  | base hg hi => exact .list (F.keep _ _ hg) hi
theorem PVin.iters {h : Heap} {v : Value} {ns : List Int} (P : PVin h v ns) (prog : Program) (w : World) : ∃ (o : Obj) (St : Addr → Nat → Heap → Prop), o.isFreed = false ∧ (∀ s : Shared, (∀ b x, h.get? b = some x → s.heap.get? b = some x) → Iters v o s) ∧
    (∀ n0 I, h.objs.size ≤ n0 → ItG prog w n0 I ns (St I)) ∧ (∀ h' I, h'.get? I = some o → (∀ b x, h.get? b = some x → h'.get? b = some x) → St I 0 h') := by
  cases P with
  | @bytes b t _ hb =>
    exact ⟨{ cls := .type "bytes_iterator", data := .fields #[.bytes b t, .int 0 0] }, fun I i h => KBw.IsBytesIter h I b t i, rfl, fun s _ prog w A E Q hQ => KBw.pyIter_bytes hQ, fun n0 I _ => ItG.bytes hb, fun h' I e _ => ⟨_, e, rfl, rfl⟩⟩
  | @list l us n _ hg hi =>
    exact ⟨{ cls := .type "list_iterator", data := .fields #[.ref l, .int 0 0] }, fun I i h => h.IsListIter I l i ∧ h.IsList l us.toArray, rfl, fun s k prog w A E Q hQ => wpAny_pyIter_list ⟨_, k _ _ hg, rfl, _, rfl⟩ hQ,
      fun n0 I hn => ItG.list hi (Nat.lt_of_lt_of_le (Heap.lt_size hg) hn), fun h' I e k => ⟨⟨_, e, rfl, rfl⟩, ⟨_, k _ _ hg, rfl, _, rfl⟩⟩⟩
def SrcZ (prog : Program) (w : World) (A : Around) (h₀ : Heap) (L : Addr) (m : Str → Option Value) (Fin : Shared → List Value → List (Addr × Obj) → Prop) (xv : Value) (s₁ : Shared) : Prop :=
  ∃ z n0 TI TO I1 I2 ns1 ns2 S1 S2 news, xv = .ref z ∧ ZAp n0 z TI TO I1 I2 ∧ ItG prog w n0 I1 ns1 S1 ∧ ItG prog w n0 I2 ns2 S2 ∧ ns1.length ≤ ns2.length ∧ ns1.length ≤ sizeLine ∧ ZSt S1 S2 z TI TO I1 I2 .none 0 s₁.heap ∧
    (z < s₁.heap.objs.size ∧ TI < s₁.heap.objs.size ∧ TO < s₁.heap.objs.size ∧ I1 < s₁.heap.objs.size ∧ I2 < s₁.heap.objs.size) ∧ A.handled = none ∧ Fr h₀ L s₁.heap m ∧ News h₀ L s₁.heap news ∧ (∀ p ∈ news, p.1 < n0) ∧ L < n0 ∧ h₀.objs.size ≤ n0 ∧ n0 ≤ s₁.heap.objs.size ∧
    (∀ ys, IntsAre ys (List.zipWith Builtin.bitXor ns1 ns2) → Fin s₁ ys news)
theorem ne_add {n a b : Nat} (h : a ≠ b) : n + a ≠ n + b := fun q => h (Nat.add_left_cancel q)
theorem zap (n : Nat) : ZAp n (n + 4) (n + 2) (n + 3) n (n + 1) := ⟨Nat.le_add_right _ _, Nat.le_add_right _ _, Nat.le_add_right _ _, Nat.le_refl _, Nat.le_add_right _ _, ne_add (by decide), ne_add (by decide), ne_add (a := 0) (by decide), ne_add (by decide), ne_add (by decide), ne_add (b := 0) (by decide), ne_add (by decide), ne_add (b := 0) (by decide), ne_add (by decide), ne_add (a := 0) (by decide)⟩
section
variable {prog : Program} {w : World} {A : Around} {E : Value → Shared → Prop} {s : Shared} {h₀ : Heap} {L : Addr} {m : Str → Option Value} {env : Env} {news : List (Addr × Obj)}
theorem zip_src {v1 v2 : Value} {ns1 ns2 : List Int} {Fin : Shared → List Value → List (Addr × Obj) → Prop} (hh : A.handled = none) (F : Fr h₀ L s.heap m) (N : News h₀ L s.heap news) (P1 : PVl h₀ news v1 ns1) (P2 : PVl h₀ news v2 ns2) (hl : ns1.length ≤ ns2.length) (hsz : ns1.length ≤ 100000)
    (fin : ∀ g ys, IntsAre ys (List.zipWith Builtin.bitXor ns1 ns2) → Fin { s with heap := g } ys news) : wpAny (model prog w) A (call (.type "zip") [v1, v2]) (SrcZ prog w A h₀ L m Fin) E s := by
  obtain ⟨o1, St1, f1, i1, g1, s1⟩ := (P1.in F N).iters prog w
  obtain ⟨o2, St2, f2, i2, g2, s2⟩ := (P2.in F N).iters prog w
  refine call_zipG (i1 s fun _ _ e => e) (i2 _ fun _ _ e => Heap.get?_push_of_some _ e) f1 f2 fun h' hz hTI hTO e1 e2 hsize hk => ?_
  have hs : ∀ k, s.heap.objs.size + 4 - k < h'.objs.size := fun k => by omega
  refine ⟨_, s.heap.objs.size, _, _, _, _, ns1, ns2, St1 _, St2 _, news, rfl, zap _, g1 _ _ (Nat.le_refl _), g2 _ _ (Nat.le_refl _), hl, by rw [PySem.sizeLine_eq]; omega,
    ⟨hz, hTI, ⟨_, _, hTO⟩, s1 _ _ e1 hk, s2 _ _ e2 hk⟩, ⟨hs 0, hs 2, hs 1, hs 4, hs 3⟩, hh, F.keeps hk, N.grown hk, fun p hp => Heap.lt_size (N p hp).1, F.ns.lt, Nat.le_trans F.above (Nat.le_of_lt F.ns.lt), by show s.heap.objs.size ≤ h'.objs.size; omega, fun ys hys => fin h' ys hys⟩
open LCg in
theorem Assign_ListComp_Z {iter : Expr} {x x₂ y : Str} {px px₂ tp py qx qx₂ qq : Pos} {tk} {scope : Scope} {cl : List (Str × Addr)} {pos spos : Pos} {Q : Flow → Shared → Prop} (_F₀ : Fr h₀ L s.heap m) (hLe : env.locals = L)
    (hsw : swapsWith (.ListComp (.BinOp (.Name x qx) .BitXor (.Name x₂ qx₂) qq) [⟨.Tuple [.Name x px, .Name x₂ px₂] tk tp, iter, [], 0⟩] scope pos) (some (.Name y py)) spos.line env = pure true)
    (hclos : closureFor scope env = pure cl) (hcell : ∀ z ∈ scope.names, z.2 ≠ .cell) (hkind : scope.kind = .function)
    (hnames : ∀ z ∈ scope.names, z.2 = .local → scope.names.lookup z.1 = some .local) (hx : scope.names.lookup x = some .local) (hx₂ : scope.names.lookup x₂ = some .local) (hxx : x ≠ x₂) (hxd : (x == ("__debug__" : Str)) = false) (hxd₂ : (x₂ == ("__debug__" : Str)) = false)
    (hy : env.kindOf y = some .local) (hp : (env.scope.kind == .class || (env.scope.kind == .module && env.locals != env.globals)) = false)
    (h : wpAny (model prog w) A (eval iter env) (SrcZ prog w A h₀ L m (fun s₂ => FinA h₀ L m s₂ y Q)) E s)
    (hs : ∀ x, foldedSetIterable iter env x = pure x := by intro _; rfl) :
    wpAny (model prog w) A (exec (.Assign [.Name y py] (.ListComp (.BinOp (.Name x qx) .BitXor (.Name x₂ qx₂) qq) [⟨.Tuple [.Name x px, .Name x₂ px₂] tk tp, iter, [], 0⟩] scope pos) spos) env) Q E s := by
  subst hLe
  rw [exec_Assign_Name_used _ _ _ _ hsw]
  refine wpAny_bind (wpAny_standAt (wpAny_bind ?_))
  show wpAny _ A (do let _ ← comprehension (.ListComp (.BinOp (.Name x qx) .BitXor (.Name x₂ qx₂) qq) [⟨.Tuple [.Name x px, .Name x₂ px₂] tk tp, iter, [], 0⟩] scope pos) scope env _ (newList []) false (eval iter env) (some (assign (.Name y py) env))) _ _ s
  refine wpAny_bind (wpAny_mono (wpAny_comprehension_free (use := some (assign (.Name y py) env)) (Q := fun _ s' => Q .next s') rfl hs hclos hkind hnames
    (wpAny_mono h (fun xv s₁ h₁ => ?_) fun _ _ e => e)) (fun _ s' hq => wpAny_pure (wpAny_pure hq)) fun _ _ e => e)
  obtain ⟨z, n0, TI, TO, I1, I2, ns1, ns2, S1, S2, news, rfl, D, G1, G2, hl, hsz, st, hup, hh, F, N, low, hL, hb, hn0, fin⟩ := h₁
  refine wpAny_pyIter_zip st.1 ?_
  refine zip_block D G1 G2 hl hsz st hup hcell hkind hx hx₂ hxx hxd hxd₂ hh F N low hL hb hn0 ?_
  intro D' C h' tk m' ys F' N' o1 hn hC₀ hD₀ hCL hDL hCD offC hys
  show wpAny _ A (assign (.Name y py) env (.ref D')) _ _ _
  refine wpAny_assign_Name (wpAny_storeName_local hy F'.ns (fun h₂ hn₂ hs₂ => ?_) hp)
  have hL₀ : h₀.get? env.locals = none := Heap.get?_none_of_le F'.above
  have F₂ : Fr h₀ env.locals h₂ (fun z => if z = y then some (.ref D') else m z) := ⟨hn₂, fun b o e => hs₂.extBut b o (fun q => by rw [q, hL₀] at e; cases e) (F'.keep b o e), F'.above⟩
  refine ⟨m', hn.sameBut hs₂ hCL, fun h'' hs'' => fin ys hys D' h'' _ (F₂.change hs'' hCL hC₀) (fun p hp => ?_) o1⟩
  have z : h₂.get? p.1 = some p.2 := hs₂.extBut _ _ (N' p hp).2.1 (N' p hp).1
  refine ⟨hs''.extBut _ _ ?_ z, (N' p hp).2⟩
  rcases List.mem_cons.mp hp with rfl | hp
  · exact Ne.symm hCD
  · exact offC p hp
end
end
section
theorem bitXor_nat (a b : Nat) : Builtin.bitXor (a : Int) (b : Int) = ((a ^^^ b : Nat) : Int) := by
  rw [bitXor_and, bitAnd_pp (Int.natCast_nonneg a) (Int.natCast_nonneg b), Int.toNat_natCast, Int.toNat_natCast]
  have h := nat_xor_and a b
  omega
where
  nat_xor_and (m : Nat) : ∀ n : Nat, (m ^^^ n) + 2 * (m &&& n) = m + n := by
    induction m using Nat.strongRecOn with
    | _ m ih =>
      intro n
      by_cases h0 : m = 0
      · subst h0; simp
      · have h1 := ih (m / 2) (Nat.div_lt_self (Nat.pos_of_ne_zero h0) (by decide)) (n / 2)
        have hx := Nat.div_add_mod (m ^^^ n) 2
        have ha := Nat.div_add_mod (m &&& n) 2
        have hm := Nat.div_add_mod m 2
        have hn := Nat.div_add_mod n 2
        rw [Nat.xor_div_two] at hx
        rw [Nat.and_div_two] at ha
        have e1 : (m ^^^ n) % 2 = (m % 2 + n % 2) % 2 := by
          have := Nat.xor_mod_two_pow (a := m) (b := n) (n := 1)
          simp only [Nat.pow_one] at this
          rw [this]
          rcases Nat.mod_two_eq_zero_or_one m with e | e <;> rcases Nat.mod_two_eq_zero_or_one n with e' | e' <;> rw [e, e'] <;> decide
        have e2 : (m &&& n) % 2 = (m % 2) * (n % 2) := by
          have := Nat.and_mod_two_pow (a := m) (b := n) (n := 1)
          simp only [Nat.pow_one] at this
          rw [this]
          rcases Nat.mod_two_eq_zero_or_one m with e | e <;> rcases Nat.mod_two_eq_zero_or_one n with e' | e' <;> rw [e, e'] <;> decide
        rw [e1] at hx
        rw [e2] at ha
        rcases Nat.mod_two_eq_zero_or_one m with e | e <;> rcases Nat.mod_two_eq_zero_or_one n with e' | e' <;> simp only [e, e'] at hx ha <;> omega
theorem nat_of_oct {y : Int} (h : OctOk y) : ∃ n : Nat, n < 256 ∧ y = (n : Int) := ⟨y.toNat, by have := h.1; have := h.2; omega, by have := h.1; omega⟩
theorem xor_oct1 {x z : Int} (h1 : OctOk x) (h2 : OctOk z) : OctOk (Builtin.bitXor x z) := by
  obtain ⟨n, hn, rfl⟩ := nat_of_oct h1
  obtain ⟨m, hm, rfl⟩ := nat_of_oct h2
  rw [bitXor_nat]
  have := Nat.xor_lt_two_pow (n := 8) hn hm
  exact ⟨Int.natCast_nonneg _, by omega⟩
theorem xor_xor {x z : Int} (h1 : OctOk x) (h2 : OctOk z) : Builtin.bitXor (Builtin.bitXor x z) z = x := by
  obtain ⟨n, hn, rfl⟩ := nat_of_oct h1
  obtain ⟨m, hm, rfl⟩ := nat_of_oct h2
  rw [bitXor_nat, bitXor_nat, Nat.xor_assoc, Nat.xor_self, Nat.xor_zero]
theorem xor_comm {x z : Int} (h1 : OctOk x) (h2 : OctOk z) : Builtin.bitXor x z = Builtin.bitXor z x := by
  obtain ⟨n, hn, rfl⟩ := nat_of_oct h1
  obtain ⟨m, hm, rfl⟩ := nat_of_oct h2
  rw [bitXor_nat, bitXor_nat, Nat.xor_comm]
theorem AesIs.mono {w : World} {h h' : Heap} {x dx ke kd : Addr} {t1 t2 : Tok} {nd nk : Nat} {rows : List Addr} {ks : List (List Int)} (A : AesIs w h x dx ke kd t1 t2 nd nk rows ks) (k : ∀ b o, h.get? b = some o → h'.get? b = some o) : AesIs w h' x dx ke kd t1 t2 nd nk rows ks :=
  ⟨k _ _ A.hx, k _ _ A.hdx, k _ _ A.hke, A.hrows.mono k, A.few⟩
theorem oct_and {ns : List Int} (h : ∀ y ∈ ns, 0 ≤ y ∧ y < 256) : ∀ y ∈ ns, OctOk y := h
theorem enc_use {w : World} {p : Program} {loose : List Str} {mean : ExcName → Option Value} {mg mb : Str → Option Value} {dp un : Nat} {gd : Option (List Code)} {cn : Str} {cs : Scope} {a : Addr} {ccd : Value} {cl : List (Str × Addr)} {outer : List Env} {A₀ : Around} {base h₀ : Heap} {L : Addr} {m : Str → Option Value} {s : Shared}
    {Q E : Value → Shared → Prop} {all : List (Addr × Obj)} {x : Addr} {ks : List (List Int)} {pv : Value} {ns : List Int} (B : Below A₀ base outer h₀) (F : Fr h₀ L s.heap m) (X : (mkK.heap_1 w.params).In h₀) (N : News h₀ L s.heap all) (T : Top p loose mean mg mb h₀) (hk : cs.kind = .function)
    (A9 : AesAt w s.heap x ks) (P : PVl h₀ all pv ns) (hl : ns.length = 16) (ho : ∀ y ∈ ns, OctOk y) (hd' : dp + 2 < recursionLimit) (hu : un + 16 < cLine)
    (cont : ∀ l us n h' tk, Fr h₀ L h' m → News h₀ L h' ((l, listOf us.toArray n) :: all) → AllNe l all → IntsAre us (enc w.params ks ns) → (enc w.params ks ns).length = 16 → (∀ y ∈ enc w.params ks ns, OctOk y) → Q (.ref l) { s with heap := h', toks := tk }) :
    wpAny (model PySem.Challenge.rw_yv0001_01.row.prog w) (ktrTop dp un gd cn cs L a ccd cl outer) (call (.ref 108) [.ref x, pv]) Q E s := by
  obtain ⟨dx, ke, kd, t1, t2, nd, nk, rows, A8⟩ := A9
  have P8 := P.in F N
  refine wpAny_call (enc_spec w (x := x) (dx := dx) (ke := ke) (kd := kd) (t1 := t1) (t2 := t2) (nd := nd) (nk := nk) (rows := rows) (ks := ks) (pv := pv) hl ho p loose mean mg mb dp un gd cn cs a ccd cl outer A₀ base h₀ L m s Q E B F X News.nil T hk hd' hu (fun g K => ?_) ?_)
  · have k : ∀ b o, s.heap.get? b = some o → g.get? b = some o := fun b o e => K b o e (fun h => nomatch h)
    exact ⟨A8.mono k, P8.mono k⟩
  · rintro v news' h' tk' F' N' K' fr ⟨l, us, n, rfl, rfl, hi⟩
    have hf : s.heap.get? l = none := (fr (l, _) List.mem_cons_self).elim (fun h => nomatch h) id
    refine cont l us n h' tk' F' (fun q hq => ?_) (allNe_of (lt_of_fresh N hf)) hi (enc_len _ _ _) (enc_oct _ _ _)
    rcases List.mem_cons.mp hq with rfl | hq
    · exact N' _ List.mem_cons_self
    · exact all_keep N K' q hq
/-- every object of tl is apart from each of the ledger's -/
def AllNeT (tl : List (Addr × Obj)) : List (Addr × Obj) → Prop
  | [] => True
  | p :: r => AllNe p.1 tl ∧ AllNeT tl r
theorem allNeT_of {tl : List (Addr × Obj)} : ∀ {l : List (Addr × Obj)}, (∀ p ∈ l, ∀ q ∈ tl, q.1 ≠ p.1) → AllNeT tl l
  | [], _ => trivial
  | p :: _, h => ⟨allNe_of (h p List.mem_cons_self), allNeT_of fun q hq => h q (List.mem_cons_of_mem _ hq)⟩
theorem kc_of {key : List Int} (h : key.length = 16 ∨ key.length = 24 ∨ key.length = 32) : ∃ kc, KcOk kc ∧ key.length = 4 * kc := by
  rcases h with h | h | h
  · exact ⟨4, ⟨.inl rfl⟩, h⟩
  · exact ⟨6, ⟨.inr (.inl rfl)⟩, h⟩
  · exact ⟨8, ⟨.inr (.inr rfl)⟩, h⟩
def KeyOk (key : List Int) : Prop := key.length = 16 ∨ key.length = 24 ∨ key.length = 32
/-- AES(key) -/
theorem aes_use {w : World} {p : Program} {loose : List Str} {mean : ExcName → Option Value} {mg mb : Str → Option Value} {dp un : Nat} {gd : Option (List Code)} {cn : Str} {cs : Scope} {a : Addr} {ccd : Value} {cl : List (Str × Addr)} {outer : List Env} {A₀ : Around} {base h₀ : Heap} {L : Addr} {m : Str → Option Value} {s : Shared}
    {Q E : Value → Shared → Prop} {all : List (Addr × Obj)} {b : Array UInt8} {t : Tok} {key : List Int} (B : Below A₀ base outer h₀) (F : Fr h₀ L s.heap m) (X : (mkK.heap_1 w.params).In h₀) (N : News h₀ L s.heap all) (T : Top p loose mean mg mb h₀) (hk : cs.kind = .function)
    (hb : KBw.bInts b = key) (hkey : KeyOk key) (hd' : dp + 1 + 2 < recursionLimit) (hu : un + 1 + 16 < cLine)
    (cont : ∀ x tl h' tk, Fr h₀ L h' m → News h₀ L h' (all ++ tl) → AllNeT tl all → AesL w.params tl x (expand w.params key) → Q (.ref x) { s with heap := h', toks := tk }) :
    wpAny (model PySem.Challenge.rw_yv0001_01.row.prog w) (ktrTop dp un gd cn cs L a ccd cl outer) (call (.ref 116) [.bytes b t]) Q E s := by
  obtain ⟨kc, hkc, hl⟩ := kc_of hkey
  refine call_cls F X N (by k_is) (by k_is) (by k_is) fun x dx h1 F1 N1 l1 l2 => ?_
  refine init_spec w (x := x) (dx := dx) (tb := t) hkc hb hl (Nat.ne_of_gt l2) p loose mean mg mb (dp + 1) (un + 1) _ cn cs a ccd cl outer A₀ base h₀ L m { s with heap := h1 } (fun v s' => InitBack x (fun r s' => match r with | .ok (.ret v) => Q v s' | .ok _ => False | .error e => E e s') (.ok (.ret v)) s') E B F1 X (fun q hq => ?_) T hk hd' hu (fun _ _ => trivial) ?_
  · rcases List.mem_cons.mp hq with rfl | hq
    · exact N1 _ List.mem_cons_self
    · rw [List.mem_singleton.mp hq]; exact N1 _ (List.mem_cons_of_mem _ List.mem_cons_self)
  · rintro v news' h' tk' F' N' K' fr ⟨rfl, hA⟩
    have low : ∀ p ∈ all, p.1 ∉ [x, dx] := fun p hp h => by
      have := l1 p hp
      simp only [List.mem_cons, List.not_mem_nil, or_false] at h
      rcases h with h | h
      · rw [h] at this; exact absurd this (Nat.not_lt.mpr (Nat.le_of_lt l2))
      · rw [h] at this; exact absurd this (Nat.lt_irrefl _)
    have Nall : News h₀ L h1 all := fun p hp => N1 p (List.mem_cons_of_mem _ (List.mem_cons_of_mem _ hp))
    refine ⟨rfl, cont x news' h' tk' F' (fun q hq => ?_) (allNeT_of fun p hp q hq e => ?_) hA⟩
    · rcases List.mem_append.mp hq with hq | hq
      · exact ⟨K' _ _ (Nall q hq).1 (low q hq), (Nall q hq).2⟩
      · exact N' q hq
    · rcases fr q hq with h | h
      · exact low p hp (e ▸ h)
      · rw [e, (Nall p hp).1] at h; cases h
theorem AllNe.out {d : Addr} : ∀ {l : List (Addr × Obj)}, AllNe d l → ∀ p ∈ l, p.1 ≠ d
  | [], _, _, hp => by simp at hp
  | q :: l, h, p, hp => by
    rcases List.mem_cons.mp hp with e | hp
    · rw [e]; exact h.1
    · exact AllNe.out h.2 p hp
theorem AllNe.app {d : Addr} {a b : List (Addr × Obj)} (h : AllNe d a) (h' : AllNe d b) : ∀ p ∈ a ++ b, p.1 ≠ d := fun p hp => (List.mem_append.mp hp).elim (h.out p) (h'.out p)
theorem PVin.pl {h : Heap} {nw : List (Addr × Obj)} {v : Value} {ns : List Int} (P : PVin h v ns) : PVl h nw v ns := by cases P <;> first | exact .bytes (by assumption) | exact .base (by assumption) (by assumption)
theorem PVin.handed {h : Heap} {v : Value} {ns : List Int} (P : PVin h v ns) : handedIn v = true := by cases P <;> rfl
/-- what a mode's __init__ leaves: the object, its dict, the AES behind it -/
inductive ModeEnd (w : World) (C x dx : Addr) (key : List Int) (es : Tok → Addr → Obj → Prop) (v : Value) (nw : List (Addr × Obj)) : Prop
  | mk0 (z1 : v = .none) (tl : List (Addr × Obj)) (t : Tok) (a : Addr) (ds : Obj) (z2 : nw = (x, instObj C dx) :: (dx, ds) :: tl) (z3 : es t a ds) (z4 : AesL w.params tl a (expand w.params key)) (z5 : AllNe x tl) (z6 : AllNe dx tl) : ModeEnd w C x dx key es v nw
theorem mode_use {w : World} {p : Program} {loose : List Str} {mean : ExcName → Option Value} {mg mb : Str → Option Value} {dp un : Nat} {gd : Option (List Code)} {cn : Str} {cs : Scope} {a : Addr} {ccd : Value} {cl : List (Str × Addr)} {outer : List Env} {A₀ : Around} {base h₀ : Heap} {L : Addr} {m : Str → Option Value} {s : Shared}
    {Q E : Value → Shared → Prop} {all : List (Addr × Obj)} {f : Value} {args : List Value} {C x dx : Addr} {es : List DictEntry} {n D U : Nat} {key : List Int} {esP : Tok → Addr → Obj → Prop} {f1 : Obj → List (Addr × Obj)} (S : Spec w f args (fun _ => True) [(x, instObj C dx), (dx, dictOf es n)] D U (ModeEnd w C x dx key esP))
    (B : Below A₀ base outer h₀) (F : Fr h₀ L s.heap m) (X : (mkK.heap_1 w.params).In h₀) (N : News h₀ L s.heap all) (T : Top p loose mean mg mb h₀) (hk : cs.kind = .function)
    (hx : (x, instObj C dx) ∈ all) (U1 : ∀ o, Upd dx (dictOf es n) o all (f1 o)) (hd' : dp + D < recursionLimit) (hu : un + U < cLine)
    (cont : ∀ tl t a ds h' tk, Fr h₀ L h' m → News h₀ L h' (f1 ds ++ tl) → AllNeT tl all → esP t a ds → AesL w.params tl a (expand w.params key) → Q .none { s with heap := h', toks := tk }) :
    wpAny (model PySem.Challenge.rw_yv0001_01.row.prog w) (ktrTop dp un gd cn cs L a ccd cl outer) (call f args) Q E s := by
  have hdx := Mine.Upd.was (U1 (dictOf es n))
  refine wpAny_call (S p loose mean mg mb dp un gd cn cs a ccd cl outer A₀ base h₀ L m s Q E B F X (fun q hq => ?_) T hk hd' hu (fun _ _ => trivial) ?_)
  · rcases List.mem_cons.mp hq with rfl | hq
    · exact N _ hx
    · rw [List.mem_singleton.mp hq]; exact N _ hdx
  · rintro v news' h' tk' F' N' K' fr ⟨rfl, tl, t, a, ds, rfl, he, hA, o1, o2⟩
    have U2 := U1 ds
    refine cont tl t a ds h' tk' F' (fun q hq => ?_) (allNeT_of fun p hp q hq e => ?_) he hA
    · rcases List.mem_append.mp hq with hq | hq
      · rcases Upd.mem U2 q hq with rfl | ⟨hq, hn⟩
        · exact N' _ (List.mem_cons_of_mem _ List.mem_cons_self)
        · by_cases hqx : q.1 = x
          · have : q = (x, instObj C dx) := by
              have e1 := (N _ hq).1
              rw [hqx, (N _ hx).1] at e1
              obtain ⟨q1, q2⟩ := q
              simp only at hqx e1
              rw [hqx, ← Option.some.inj e1]
            rw [this]; exact N' _ List.mem_cons_self
          · exact ⟨K' _ _ (N q hq).1 (by simp [hqx, hn]), (N q hq).2⟩
      · exact N' _ (List.mem_cons_of_mem _ (List.mem_cons_of_mem _ hq))
    · rcases fr q (List.mem_cons_of_mem _ (List.mem_cons_of_mem _ hq)) with h | h
      · simp only [List.map_cons, List.map_nil, List.mem_cons, List.not_mem_nil, or_false] at h
        exact h.elim (o1.out q hq) (o2.out q hq)
      · rw [e, (N p hp).1] at h; cases h
theorem PVl.sub {h₀ : Heap} {nw nw' : List (Addr × Obj)} {v : Value} {ns : List Int} (P : PVl h₀ nw v ns) (h : ∀ p ∈ nw, p ∈ nw') : PVl h₀ nw' v ns := by
  cases P with
  | bytes hb => exact .bytes hb
  | list hm hi => exact .list (h _ hm) hi
  | base hg hi => exact .base hg hi
end
local macro_rules | `(tactic| k_all) => `(tactic| first | exact AllNe.out (by with_reducible assumption) | exact AllNe.app (by with_reducible assumption) (by with_reducible assumption) | exact Mat.off (by with_reducible assumption) (by with_reducible assumption))
local macro_rules | `(tactic| lcg_sub) => `(tactic| first | exact List.forall_mem_nil _ | (with_reducible refine List.forall_mem_cons.mpr ?_; exact ⟨by k_mem, by lcg_sub⟩) | (intro p' hp'; (repeat' (first | exact hp' | exact List.mem_append_left _ hp' | exact List.mem_append_right _ hp' | exact List.mem_append_left _ (List.mem_append_left _ hp') | exact List.mem_append_left _ (List.mem_append_right _ hp') | refine List.mem_cons_of_mem _ ?_)); done))
local macro_rules | `(tactic| k_handed) => `(tactic| exact PVin.handed (by with_reducible assumption))
local macro_rules | `(tactic| k_ne) => `(tactic| (refine neN ?_; (try dsimp only); first | with_reducible assumption | exact Ne.symm (by with_reducible assumption) | exact Nat.ne_of_lt (kst_ltOf (by with_reducible assumption) (_, _) (by k_mem)) | exact Nat.ne_of_gt (kst_ltOf (by with_reducible assumption) (_, _) (by k_mem)) | exact AllNe.out (by with_reducible assumption) (_, _) (by k_mem) | exact Ne.symm (AllNe.out (by with_reducible assumption) (_, _) (by k_mem)) | exact off1_mem _ (by with_reducible assumption) (_, _) (by k_mem) | exact Ne.symm (off1_mem _ (by with_reducible assumption) (_, _) (by k_mem)) | fail "no fact"))
section
theorem News.sub {g h : Heap} {L : Addr} {nw all : List (Addr × Obj)} (N : News g L h all) (s : ∀ p ∈ nw, p ∈ all) : News g L h nw := fun p hp => N p (s p hp)
theorem call_bytes_base {prog : Program} {w : World} {A : Around} {E : Value → Shared → Prop} {s : Shared} {h₀ : Heap} {L : Addr} {m : Str → Option Value} {news : List (Addr × Obj)} {l : Addr} {us : List Value} {ns : List Int} {n : Nat} {Q : Value → Shared → Prop} (F : Fr h₀ L s.heap m) (N : News h₀ L s.heap news) (hg : h₀.get? l = some (listOf us.toArray n)) (hi : IntsAre us ns) (hr : ∀ y ∈ ns, OctOk y) (hz : ns.length ≤ 200) (hh : A.handled = none)
    (hQ : ∀ b t' h' k, Fr h₀ L h' m → News h₀ L h' news → KBw.bInts b = ns → Q (.bytes b t') { s with heap := h', toks := k }) : wpAny (model prog w) A (call (.type "bytes") [.ref l]) Q E s :=
  call_bytes_ints ⟨_, F.keep _ _ hg, rfl, _, rfl⟩ hi hr (by rw [PySem.sizeLine_eq, hi.length]; omega) hh fun h' t k hk => hQ _ t h' k (F.keeps hk) (N.grown hk) (byteArr_ints hr)
theorem b2str2_spec (w : World) {l : Addr} {ns : List Int} (ho : ∀ y ∈ ns, OctOk y) (hl : ns.length ≤ 200) :
    Spec w (.ref 40) [.ref l] (fun g => PVin g (.ref l) ns) [] 1 8 (fun v nw => nw = [] ∧ IsB ns v) := by
  with_unfolding_all refine' spec_def ?ho ?hcd ?hbind ?hloc ?c2 ?c3 ?c4 ?c5 ?_
  (case ho => k_is)
  (case hcd => k_is)
  (case hbind => first | exact bind_plain rfl | exact bind_dflt rfl (by k_is) rfl rfl rfl)
  (case hloc => exact locs rfl)
  (case c2 => exact rfl)
  (case c3 => exact rfl)
  (case c4 => exact rfl)
  (case c5 => decide)
  intro p loose mean mg mb dp un gd cn cs ca ccd cl outer base L g L1 h1 s tk B F X N T hdp hun hyp
  refine letA ?_
  intro A0
  (try dsimp only)
  (try k_fold)
  cases hyp
  (repeat' (first | (k_unfold; (try dsimp only)) | ((with_reducible show wpAny _ _ (exec _ _) _ _ _); (fail_if_success (fail_if_success k_fold)); refine foldQ ?_; intro q9) | ((with_reducible show wpAny _ _ (eval (Expr.Call _ _ _ _) _) _ _ _); (fail_if_success (fail_if_success k_fold)); refine foldQ ?_; intro q9) | ((with_reducible show wpAny _ _ (eval (Expr.Subscript _ _ _) _) _ _ _); (fail_if_success (fail_if_success k_fold)); refine foldQ ?_; intro q9)  | (k_here; (with_reducible show wpAny _ _ (call (Value.type _) [Value.ref _]) _ _ _); k_dflt (refine call_bytes_base (by k_asm) (by k_asm) (by tb_start) (by tb_start) (by tb_start) (by tb_start) (by rfl) (fun b' t' h' k' F' N' hb' => ?_)); (try k_fold)) | (k_end; wrow_close) | walk1 | (dsimp only; walk1) | (leave1; walk_say "STEP leave1"; try dsimp only) | fail "no step"))
  all_goals ((try k_unmd); (try k_unfold); (try dsimp only))
  exact Ends.mk2 (by k_asm) (by k_asm) ⟨rfl, _, _, rfl, by assumption⟩ (fun _ h => nomatch h)
theorem b2str_use {w : World} {p : Program} {loose : List Str} {mean : ExcName → Option Value} {mg mb : Str → Option Value} {dp un : Nat} {gd : Option (List Code)} {cn : Str} {cs : Scope} {a : Addr} {ccd : Value} {cl : List (Str × Addr)} {outer : List Env} {A₀ : Around} {base h₀ : Heap} {L : Addr} {m : Str → Option Value} {s : Shared}
    {Q E : Value → Shared → Prop} {all : List (Addr × Obj)} {l : Addr} {ns : List Int} (B : Below A₀ base outer h₀) (F : Fr h₀ L s.heap m) (X : (mkK.heap_1 w.params).In h₀) (N : News h₀ L s.heap all) (T : Top p loose mean mg mb h₀) (hk : cs.kind = .function)
    (P : PVl h₀ all (.ref l) ns) (ho : ∀ y ∈ ns, OctOk y) (hl : ns.length ≤ 200) (hd' : dp + 1 < recursionLimit) (hu : un + 8 < cLine)
    (cont : ∀ b t h' k, Fr h₀ L h' m → News h₀ L h' all → KBw.bInts b = ns → Q (.bytes b t) { s with heap := h', toks := k }) :
    wpAny (model PySem.Challenge.rw_yv0001_01.row.prog w) (ktrTop dp un gd cn cs L a ccd cl outer) (call (.ref 40) [.ref l]) Q E s :=
  (b2str2_spec w ho hl).read B F X N T hk hd' hu (fun g K => (P.in F N).mono K) fun v h' k F' N' _ r => by
    obtain ⟨b, t, rfl, hb⟩ := r
    exact cont b t h' k F' N' hb
theorem AesAt.inst {w : World} {h : Heap} {x : Addr} {ks : List (List Int)} (A : AesAt w h x ks) : ∃ dx ke kd t1 t2 nd, h.get? x = some (instObj 116 dx) ∧ h.get? dx = some (dictOf (kePair w.params ke kd t1 t2) nd) := by
  obtain ⟨dx, ke, kd, t1, t2, nd, nk, rows, A⟩ := A
  exact ⟨dx, ke, kd, t1, t2, nd, A.hx, A.hdx⟩
def aesEs (P : Params) (t : Tok) (a : Addr) : List DictEntry := [⟨PyData.keyHash P (Str.ofString "_aes"), .str (Str.ofString "_aes") t, .ref a⟩]
theorem ecb_spec (w : World) {x dx ax : Addr} {t tb : Tok} {n : Nat} {ks : List (List Int)} {b : Array UInt8} {ns : List Int} (hb : KBw.bInts b = ns) (hl : ns.length = 16) (ho : ∀ y ∈ ns, OctOk y) :
    Spec w (.ref 297) [.ref x, .bytes b tb] (fun g => g.get? x = some (instObj 307 dx) ∧ g.get? dx = some (dictOf (aesEs w.params t ax) n) ∧ AesAt w g ax ks) [] 3 24 (fun v nw => nw = [] ∧ IsB (enc w.params ks ns) v) := by
  with_unfolding_all refine' spec_def ?ho ?hcd ?hbind ?hloc ?c2 ?c3 ?c4 ?c5 ?_
  (case ho => k_is)
  (case hcd => k_is)
  (case hbind => first | exact bind_plain rfl | exact bind_dflt rfl (by k_is) rfl rfl rfl)
  (case hloc => exact locs rfl)
  (case c2 => exact rfl)
  (case c3 => exact rfl)
  (case c4 => exact rfl)
  (case c5 => decide)
  intro p loose mean mg mb dp un gd cn cs ca ccd cl outer base L g L1 h1 s tk B F X N T hdp hun hyp
  refine letA ?_
  intro A0
  (try dsimp only)
  (try k_fold)
  obtain ⟨hx, hdx, hA⟩ := hyp
  unfold aesEs at hdx
  obtain ⟨dxa, ke, kd, ta1, ta2, nda, hax, hadx⟩ := hA.inst
  have hln : LenIs ns 16 := ⟨by omega, by omega⟩
  (repeat' (first | (k_unfold; (try dsimp only)) | ((with_reducible show wpAny _ _ (exec _ _) _ _ _); (fail_if_success (fail_if_success k_fold)); refine foldQ ?_; intro q9) | ((with_reducible show wpAny _ _ (eval (Expr.Call _ _ _ _) _) _ _ _); (fail_if_success (fail_if_success k_fold)); refine foldQ ?_; intro q9) | ((with_reducible show wpAny _ _ (eval (Expr.Subscript _ _ _) _) _ _ _); (fail_if_success (fail_if_success k_fold)); refine foldQ ?_; intro q9)  | (k_here; (with_reducible show wpAny _ _ (call (Value.builtin _) [Value.bytes _ _]) _ _ _); k_dflt (refine len_bytesN (by tb_start) (by tb_start) (fun t' k' => ?_)); (try k_fold)) | (k_here; (with_reducible show wpAny _ _ (call (Value.ref 40) [Value.ref _]) _ _ _); k_dflt ( refine' b2str_use ?k1 ?k2 ?k3 ?k4 ?k5 ?k6 ?k7 ?k8 ?k9 ?k15 ?k16 ?_; (case k1 | k2 | k3 | k4 | k5 => k_asm); (case k6 => first | exact rfl | assumption); (case k7 => first | exact PVl.list (by k_mem) (by tb_start) | exact PVl.base (by tb_start) (by tb_start)); (case k8 => tb_start); (case k9 => first | tb_start | omega); (case k15 => ktr_room); (case k16 => ktr_units); intro b' t' h' k' F' N' hb'; (try k_fold))) | (k_here; (with_reducible show wpAny _ _ (call (Value.ref 33) [Value.bytes _ _]) _ _ _); k_dflt ( refine' (str2b_spec _).read ?k1 ?k2 ?k3 ?k4 ?k5 ?k6 ?k15 ?k16 ?ky ?_; (case ky => exact fun _ _ => trivial); (case k1 | k2 | k3 | k4 | k5 => k_asm); (case k6 => first | exact rfl | assumption); (case k15 => ktr_room); (case k16 => ktr_units); intro v' h' k' F' N' hs' hv'; subst hv'; (clear hs'); (try k_fold))) | (k_here; (with_reducible show wpAny _ _ (call (Value.ref 108) [_, _]) _ _ _); k_dflt ( refine' enc_use ?k1 ?k2 ?k3 ?k4 ?k5 ?k6 ?k7 ?k8 ?k9 ?k10 ?k11 ?k12 ?_; (case k1 | k2 | k3 | k4 | k5 => k_asm); (case k6 => first | exact rfl | assumption); (case k7 => first | exact AesAt.mono (by tb_start) (Fr.keep (by k_asm)) | exact AesL.at (by tb_start) (News.sub (by k_asm) (by lcg_sub))); (case k8 => first | exact PVl.bytes (by tb_start) | exact PVl.list (by k_mem) (by tb_start) | exact PVl.base (by tb_start) (by tb_start) | exact PVl.sub (by tb_start) (by lcg_sub)); (case k9 | k10 => tb_start); (case k11 => ktr_room); (case k12 => ktr_units); intro l' us' nn' h' tk' F' N' l1 hi' hl' ho'; (have h8 := l1); (simp only [AllNe, and_true] at l1); (try k_fold))) | (k_end; wrow_close) | walk1 | (dsimp only; walk1) | (leave1; walk_say "STEP leave1"; try dsimp only) | fail "no step"))
  exact Ends.mk2 (by k_asm) (by k_asm) ⟨rfl, _, _, rfl, by assumption⟩ (fun _ h => nomatch h)
theorem ecb_init (w : World) {x dx : Addr} {tb : Tok} {b : Array UInt8} {key : List Int} (hne : (@Ne Nat x dx)) (hb : KBw.bInts b = key) (hkey : KeyOk key) :
    Spec w (.ref 169) [.ref x, .bytes b tb] (fun _ => True) [(x, instObj 307 dx), (dx, dictOf [] 0)] 4 32 (ModeEnd w 307 x dx key (fun t a o => o = dictOf (aesEs w.params t a) 1)) := by
  with_unfolding_all refine' spec_def ?ho ?hcd ?hbind ?hloc ?c2 ?c3 ?c4 ?c5 ?_
  (case ho => k_is)
  (case hcd => k_is)
  (case hbind => first | exact bind_plain rfl | exact bind_dflt rfl (by k_is) rfl rfl rfl)
  (case hloc => exact locs rfl)
  (case c2 => exact rfl)
  (case c3 => exact rfl)
  (case c4 => exact rfl)
  (case c5 => decide)
  intro p loose mean mg mb dp un gd cn cs ca ccd cl outer base L g L1 h1 s tk B F X N T hdp hun hyp
  refine letA ?_
  intro A0
  (try dsimp only)
  (try k_fold)
  (repeat' (first | (k_unfold; (try dsimp only)) | ((with_reducible show wpAny _ _ (exec _ _) _ _ _); (fail_if_success (fail_if_success k_fold)); refine foldQ ?_; intro q9) | ((with_reducible show wpAny _ _ (eval (Expr.Call _ _ _ _) _) _ _ _); (fail_if_success (fail_if_success k_fold)); refine foldQ ?_; intro q9) | ((with_reducible show wpAny _ _ (eval (Expr.Subscript _ _ _) _) _ _ _); (fail_if_success (fail_if_success k_fold)); refine foldQ ?_; intro q9)  | (k_here; (with_reducible show wpAny _ _ (call (Value.ref 116) [_]) _ _ _); k_dflt ( refine' aes_use ?k1 ?k2 ?k3 ?k4 ?k5 ?k6 ?k7 ?k8 ?k9 ?k10 ?_; (case k1 | k2 | k3 | k4 | k5 => k_asm); (case k6 => first | exact rfl | assumption); (case k7 | k8 => tb_start); (case k9 => ktr_room); (case k10 => ktr_units); intro x' tl' h' tk' F' N' l1 hA'; (simp only [List.cons_append, List.nil_append] at N'); (simp only [AllNeT, and_true] at l1); (repeat (first | (refine an8 l1 ?_; clear l1; intro hne' hne' hne' hne' hne' hne' hne' l1) | (refine an4 l1 ?_; clear l1; intro hne' hne' hne' l1) | (refine an2 l1 ?_; clear l1; intro hne' l1))); (try k_fold))) | (k_end; wrow_close) | walk1 | (dsimp only; walk1) | (leave1; walk_say "STEP leave1"; try dsimp only) | fail "no step"))
  exact Ends.mk2 (by k_asm) (by k_asm) ⟨rfl, _, _, _, _, rfl, rfl, by assumption, by assumption, by assumption⟩ (by lcg_sub)
end
section
def cbcEs (P : Params) (t1 : Tok) (lv : Value) (t : Tok) (a : Addr) : List DictEntry := [⟨PyData.keyHash P (Str.ofString "_last_cipherblock"), .str (Str.ofString "_last_cipherblock") t1, lv⟩, ⟨PyData.keyHash P (Str.ofString "_aes"), .str (Str.ofString "_aes") t, .ref a⟩]
theorem xor_oct {a b : List Int} (ha : ∀ y ∈ a, OctOk y) (hb : ∀ y ∈ b, OctOk y) : ∀ y ∈ List.zipWith Builtin.bitXor a b, OctOk y := by
  induction a generalizing b with
  | nil => intro y hy; simp at hy
  | cons x a ih => cases b with
    | nil => intro y hy; simp at hy
    | cons z b =>
      intro y hy
      rw [List.zipWith_cons_cons] at hy
      rcases List.mem_cons.mp hy with rfl | hy
      · exact xor_oct1 (ha x List.mem_cons_self) (hb z List.mem_cons_self)
      · exact ih (fun y h => ha y (List.mem_cons_of_mem _ h)) (fun y h => hb y (List.mem_cons_of_mem _ h)) y hy
theorem cbc_blk (w : World) {x dx : Addr} {t1 tb : Tok} {lv : Value} {b : Array UInt8} {key : List Int} (hne : (@Ne Nat x dx)) (hb : KBw.bInts b = key) (hkey : KeyOk key) :
    Spec w (.ref 169) [.ref x, .bytes b tb] (fun _ => True) [(x, instObj 337 dx), (dx, dictOf [⟨PyData.keyHash w.params (Str.ofString "_last_cipherblock"), .str (Str.ofString "_last_cipherblock") t1, lv⟩] 1)] 4 32 (ModeEnd w 337 x dx key (fun t a o => o = dictOf (cbcEs w.params t1 lv t a) 2)) := by
  with_unfolding_all refine' spec_def ?ho ?hcd ?hbind ?hloc ?c2 ?c3 ?c4 ?c5 ?_
  (case ho => k_is)
  (case hcd => k_is)
  (case hbind => first | exact bind_plain rfl | exact bind_dflt rfl (by k_is) rfl rfl rfl)
  (case hloc => exact locs rfl)
  (case c2 => exact rfl)
  (case c3 => exact rfl)
  (case c4 => exact rfl)
  (case c5 => decide)
  intro p loose mean mg mb dp un gd cn cs ca ccd cl outer base L g L1 h1 s tk B F X N T hdp hun hyp
  refine letA ?_
  intro A0
  (try dsimp only)
  (try k_fold)
  (repeat' (first | (k_unfold; (try dsimp only)) | ((with_reducible show wpAny _ _ (exec _ _) _ _ _); (fail_if_success (fail_if_success k_fold)); refine foldQ ?_; intro q9) | ((with_reducible show wpAny _ _ (eval (Expr.Call _ _ _ _) _) _ _ _); (fail_if_success (fail_if_success k_fold)); refine foldQ ?_; intro q9) | ((with_reducible show wpAny _ _ (eval (Expr.Subscript _ _ _) _) _ _ _); (fail_if_success (fail_if_success k_fold)); refine foldQ ?_; intro q9)  | (k_here; (with_reducible show wpAny _ _ (call (Value.ref 116) [_]) _ _ _); k_dflt ( refine' aes_use ?k1 ?k2 ?k3 ?k4 ?k5 ?k6 ?k7 ?k8 ?k9 ?k10 ?_; (case k1 | k2 | k3 | k4 | k5 => k_asm); (case k6 => first | exact rfl | assumption); (case k7 | k8 => tb_start); (case k9 => ktr_room); (case k10 => ktr_units); intro x' tl' h' tk' F' N' l1 hA'; (simp only [List.cons_append, List.nil_append] at N'); (simp only [AllNeT, and_true] at l1); (repeat (first | (refine an8 l1 ?_; clear l1; intro hne' hne' hne' hne' hne' hne' hne' l1) | (refine an4 l1 ?_; clear l1; intro hne' hne' hne' l1) | (refine an2 l1 ?_; clear l1; intro hne' l1))); (try k_fold))) | (k_end; wrow_close) | walk1 | (dsimp only; walk1) | (leave1; walk_say "STEP leave1"; try dsimp only) | fail "no step"))
  exact Ends.mk2 (by k_asm) (by k_asm) ⟨rfl, _, _, _, _, rfl, rfl, by assumption, by assumption, by assumption⟩ (by lcg_sub)
theorem cbc_init (w : World) {x dx : Addr} {tb ti : Tok} {b iv : Array UInt8} {key ivs : List Int} (hne : (@Ne Nat x dx)) (hb : KBw.bInts b = key) (hkey : KeyOk key) (hi : KBw.bInts iv = ivs) (hil : ivs.length = 16) :
    Spec w (.ref 324) [.ref x, .bytes b tb, .bytes iv ti] (fun _ => True) [(x, instObj 337 dx), (dx, dictOf [] 0)] 5 40 (ModeEnd w 337 x dx key (fun t a o => ∃ t1, o = dictOf (cbcEs w.params t1 (.bytes iv ti) t a) 2)) := by
  with_unfolding_all refine' spec_def ?ho ?hcd ?hbind ?hloc ?c2 ?c3 ?c4 ?c5 ?_
  (case ho => k_is)
  (case hcd => k_is)
  (case hbind => first | exact bind_plain rfl | exact bind_dflt rfl (by k_is) rfl rfl rfl)
  (case hloc => exact locs rfl)
  (case c2 => exact rfl)
  (case c3 => exact rfl)
  (case c4 => exact rfl)
  (case c5 => decide)
  intro p loose mean mg mb dp un gd cn cs ca ccd cl outer base L g L1 h1 s tk B F X N T hdp hun hyp
  refine letA ?_
  intro A0
  (try dsimp only)
  (try k_fold)
  have hln : LenIs ivs 16 := ⟨by omega, by omega⟩
  (repeat' (first | (k_unfold; (try dsimp only)) | ((with_reducible show wpAny _ _ (exec _ _) _ _ _); (fail_if_success (fail_if_success k_fold)); refine foldQ ?_; intro q9) | ((with_reducible show wpAny _ _ (eval (Expr.Call _ _ _ _) _) _ _ _); (fail_if_success (fail_if_success k_fold)); refine foldQ ?_; intro q9) | ((with_reducible show wpAny _ _ (eval (Expr.Subscript _ _ _) _) _ _ _); (fail_if_success (fail_if_success k_fold)); refine foldQ ?_; intro q9)  | (k_here; (with_reducible show wpAny _ _ (call (Value.ref 169) [Value.ref _, Value.bytes _ _]) _ _ _); k_dflt ( refine' mode_use (cbc_blk _ (by first | tb_start | omega) (by tb_start) (by tb_start)) ?k1 ?k2 ?k3 ?k4 ?k5 ?k6 ?k7 ?k8 ?k9 ?k10 ?_; (case k1 | k2 | k3 | k4 | k5 => k_asm); (case k6 => first | exact rfl | assumption); (case k7 => k_mem); (case k8 => (intro o1; k_upd)); (case k9 => ktr_room); (case k10 => ktr_units); intro tl' t' a' ds' h' tk' F' N' l1 he' hA'; subst he'; (simp only [List.cons_append, List.nil_append] at N'); (simp only [AllNeT, and_true] at l1); (repeat (first | (refine an8 l1 ?_; clear l1; intro hne' hne' hne' hne' hne' hne' hne' l1) | (refine an4 l1 ?_; clear l1; intro hne' hne' hne' l1) | (refine an2 l1 ?_; clear l1; intro hne' l1))); (try k_fold))) | (k_here; (with_reducible show wpAny _ _ (call (Value.builtin _) [Value.bytes _ _]) _ _ _); k_dflt (refine len_bytesN (by tb_start) (by tb_start) (fun t' k' => ?_)); (try k_fold)) | (k_here; (with_reducible show wpAny _ _ (call (Value.ref 33) [Value.bytes _ _]) _ _ _); k_dflt ( refine' (str2b_spec _).read ?k1 ?k2 ?k3 ?k4 ?k5 ?k6 ?k15 ?k16 ?ky ?_; (case ky => exact fun _ _ => trivial); (case k1 | k2 | k3 | k4 | k5 => k_asm); (case k6 => first | exact rfl | assumption); (case k15 => ktr_room); (case k16 => ktr_units); intro v' h' k' F' N' hs' hv'; subst hv'; (clear hs'); (try k_fold))) | (k_end; wrow_close) | walk1 | (dsimp only; walk1) | (leave1; walk_say "STEP leave1"; try dsimp only) | fail "no step"))
  exact Ends.mk2 (by k_asm) (by k_asm) ⟨rfl, _, _, _, _, rfl, ⟨_, rfl⟩, by assumption, by assumption, by assumption⟩ (by lcg_sub)
theorem cbc_spec (w : World) {x dx ax : Addr} {t1 t tb : Tok} {ks : List (List Int)} {b : Array UInt8} {ns lns : List Int} {lv : Value} (hne : (@Ne Nat x dx)) (hb : KBw.bInts b = ns) (hl : ns.length = 16) (ho : ∀ y ∈ ns, OctOk y) (hl2 : lns.length = 16) (ho2 : ∀ y ∈ lns, OctOk y) :
    Spec w (.ref 329) [.ref x, .bytes b tb] (fun g => AesAt w g ax ks ∧ PVin g lv lns) [(x, instObj 337 dx), (dx, dictOf (cbcEs w.params t1 lv t ax) 2)] 3 24
      (fun v nw => IsB (enc w.params ks (List.zipWith Builtin.bitXor ns lns)) v ∧ ∃ l us k, nw = [(l, listOf us.toArray k), (x, instObj 337 dx), (dx, dictOf (cbcEs w.params t1 (.ref l) t ax) 2)] ∧ IntsAre us (enc w.params ks (List.zipWith Builtin.bitXor ns lns)) ∧ (@Ne Nat l x) ∧ (@Ne Nat l dx)) := by
  with_unfolding_all refine' spec_def ?ho ?hcd ?hbind ?hloc ?c2 ?c3 ?c4 ?c5 ?_
  (case ho => k_is)
  (case hcd => k_is)
  (case hbind => first | exact bind_plain rfl | exact bind_dflt rfl (by k_is) rfl rfl rfl)
  (case hloc => exact locs rfl)
  (case c2 => exact rfl)
  (case c3 => exact rfl)
  (case c4 => exact rfl)
  (case c5 => decide)
  intro p loose mean mg mb dp un gd cn cs ca ccd cl outer base L g L1 h1 s tk B F X N T hdp hun hyp
  refine letA ?_
  intro A0
  (try dsimp only)
  (try k_fold)
  unfold cbcEs at N
  obtain ⟨hA, hP⟩ := hyp
  obtain ⟨dxa, ke, kd, ta1, ta2, nda, hax, hadx⟩ := hA.inst
  have hln : LenIs ns 16 := ⟨by omega, by omega⟩
  have hz1 : (List.zipWith Builtin.bitXor ns lns).length = 16 := by rw [List.length_zipWith]; omega
  have hz2 := xor_oct ho ho2
  (repeat' (first | (k_unfold; (try dsimp only)) | ((with_reducible show wpAny _ _ (exec _ _) _ _ _); (fail_if_success (fail_if_success k_fold)); refine foldQ ?_; intro q9) | ((with_reducible show wpAny _ _ (eval (Expr.Call _ _ _ _) _) _ _ _); (fail_if_success (fail_if_success k_fold)); refine foldQ ?_; intro q9) | ((with_reducible show wpAny _ _ (eval (Expr.Subscript _ _ _) _) _ _ _); (fail_if_success (fail_if_success k_fold)); refine foldQ ?_; intro q9)  | (k_here; (with_reducible show wpAny _ _ (call (Value.type "zip") [_, _]) _ _ _); k_dflt ( refine' zip_src ?k0 ?k1 ?k2 ?k3 ?k4 ?k5 ?k6 ?_; (case k0 => exact rfl); (case k1 | k2 => k_asm); (case k3 | k4 => first | exact PVl.bytes (by tb_start) | exact PVl.list (by k_mem) (by tb_start) | exact PVl.base (by tb_start) (by tb_start) | exact PVin.pl (by tb_start) | tb_start); (case k5 | k6 => first | tb_start | omega); intro g' ys' hys' D' h' tk' F' N' o1; (have h8 := o1); (simp only [LCg.Off1, and_true] at o1); (try k_fold))) | (k_here; (with_reducible show wpAny _ _ (exec (Stmt.Assign [Expr.Name _ _] (Expr.ListComp _ [⟨Expr.Tuple _ _ _, _, _, _⟩] _ _) _) _) _ _ _); k_dflt (refine Assign_ListComp_Z (by k_asm) (by rfl) (by with_unfolding_all rfl) (by with_unfolding_all rfl) (by decide) (by rfl) (by decide) (by rfl) (by rfl) (by decide) (by decide) (by decide) (by rfl) (by rfl) ?_)) | (k_here; (with_reducible show wpAny _ _ (call (Value.builtin _) [Value.bytes _ _]) _ _ _); k_dflt (refine len_bytesN (by tb_start) (by tb_start) (fun t' k' => ?_)); (try k_fold)) | (k_here; (with_reducible show wpAny _ _ (call (Value.ref 40) [Value.ref _]) _ _ _); k_dflt ( refine' b2str_use ?k1 ?k2 ?k3 ?k4 ?k5 ?k6 ?k7 ?k8 ?k9 ?k15 ?k16 ?_; (case k1 | k2 | k3 | k4 | k5 => k_asm); (case k6 => first | exact rfl | assumption); (case k7 => first | exact PVl.list (by k_mem) (by tb_start) | exact PVl.base (by tb_start) (by tb_start)); (case k8 => tb_start); (case k9 => first | tb_start | omega); (case k15 => ktr_room); (case k16 => ktr_units); intro b' t' h' k' F' N' hb'; (try k_fold))) | (k_here; (with_reducible show wpAny _ _ (call (Value.ref 33) [Value.bytes _ _]) _ _ _); k_dflt ( refine' (str2b_spec _).read ?k1 ?k2 ?k3 ?k4 ?k5 ?k6 ?k15 ?k16 ?ky ?_; (case ky => exact fun _ _ => trivial); (case k1 | k2 | k3 | k4 | k5 => k_asm); (case k6 => first | exact rfl | assumption); (case k15 => ktr_room); (case k16 => ktr_units); intro v' h' k' F' N' hs' hv'; subst hv'; (clear hs'); (try k_fold))) | (k_here; (with_reducible show wpAny _ _ (call (Value.ref 108) [_, _]) _ _ _); k_dflt ( refine' enc_use ?k1 ?k2 ?k3 ?k4 ?k5 ?k6 ?k7 ?k8 ?k9 ?k10 ?k11 ?k12 ?_; (case k1 | k2 | k3 | k4 | k5 => k_asm); (case k6 => first | exact rfl | assumption); (case k7 => first | exact AesAt.mono (by tb_start) (Fr.keep (by k_asm)) | exact AesL.at (by tb_start) (News.sub (by k_asm) (by lcg_sub))); (case k8 => first | exact PVl.bytes (by tb_start) | exact PVl.list (by k_mem) (by tb_start) | exact PVl.base (by tb_start) (by tb_start) | exact PVl.sub (by tb_start) (by lcg_sub)); (case k9 | k10 => tb_start); (case k11 => ktr_room); (case k12 => ktr_units); intro l' us' nn' h' tk' F' N' l1 hi' hl' ho'; (have h8 := l1); (simp only [AllNe, and_true] at l1); (try k_fold))) | (k_end; wrow_close) | walk1 | (dsimp only; walk1) | (leave1; walk_say "STEP leave1"; try dsimp only) | fail "no step"))
  rename _ ≠ _ ∧ _ ≠ _ ∧ _ ≠ _ => e1
  unfold cbcEs
  exact Ends.mk2 (by k_asm) (by k_asm) ⟨⟨_, _, rfl, by assumption⟩, _, _, _, rfl, by assumption, e1.2.1.symm, e1.2.2.symm⟩ (by lcg_sub)
end
section
def cfbEs (P : Params) (t1 t2 t3 : Tok) (sv : Value) (t : Tok) (a : Addr) : List DictEntry := [⟨PyData.keyHash P (Str.ofString "_shift_register"), .str (Str.ofString "_shift_register") t1, sv⟩, ⟨PyData.keyHash P (Str.ofString "_segment_bytes"), .str (Str.ofString "_segment_bytes") t2, .int 16 t3⟩, ⟨PyData.keyHash P (Str.ofString "_aes"), .str (Str.ofString "_aes") t, .ref a⟩]
theorem cfb_blk (w : World) {x dx : Addr} {t1 t2 t3 tb : Tok} {sv : Value} {b : Array UInt8} {key : List Int} (hne : (@Ne Nat x dx)) (hb : KBw.bInts b = key) (hkey : KeyOk key) :
    Spec w (.ref 169) [.ref x, .bytes b tb] (fun _ => True) [(x, instObj 375 dx), (dx, dictOf [⟨PyData.keyHash w.params (Str.ofString "_shift_register"), .str (Str.ofString "_shift_register") t1, sv⟩, ⟨PyData.keyHash w.params (Str.ofString "_segment_bytes"), .str (Str.ofString "_segment_bytes") t2, .int 16 t3⟩] 2)] 4 32 (ModeEnd w 375 x dx key (fun t a o => o = dictOf (cfbEs w.params t1 t2 t3 sv t a) 3)) := by
  with_unfolding_all refine' spec_def ?ho ?hcd ?hbind ?hloc ?c2 ?c3 ?c4 ?c5 ?_
  (case ho => k_is)
  (case hcd => k_is)
  (case hbind => first | exact bind_plain rfl | exact bind_dflt rfl (by k_is) rfl rfl rfl)
  (case hloc => exact locs rfl)
  (case c2 => exact rfl)
  (case c3 => exact rfl)
  (case c4 => exact rfl)
  (case c5 => decide)
  intro p loose mean mg mb dp un gd cn cs ca ccd cl outer base L g L1 h1 s tk B F X N T hdp hun hyp
  refine letA ?_
  intro A0
  (try dsimp only)
  (try k_fold)
  (repeat' (first | (k_unfold; (try dsimp only)) | ((with_reducible show wpAny _ _ (exec _ _) _ _ _); (fail_if_success (fail_if_success k_fold)); refine foldQ ?_; intro q9) | ((with_reducible show wpAny _ _ (eval (Expr.Call _ _ _ _) _) _ _ _); (fail_if_success (fail_if_success k_fold)); refine foldQ ?_; intro q9) | ((with_reducible show wpAny _ _ (eval (Expr.Subscript _ _ _) _) _ _ _); (fail_if_success (fail_if_success k_fold)); refine foldQ ?_; intro q9)  | (k_here; (with_reducible show wpAny _ _ (call (Value.ref 116) [_]) _ _ _); k_dflt ( refine' aes_use ?k1 ?k2 ?k3 ?k4 ?k5 ?k6 ?k7 ?k8 ?k9 ?k10 ?_; (case k1 | k2 | k3 | k4 | k5 => k_asm); (case k6 => first | exact rfl | assumption); (case k7 | k8 => tb_start); (case k9 => ktr_room); (case k10 => ktr_units); intro x' tl' h' tk' F' N' l1 hA'; (simp only [List.cons_append, List.nil_append] at N'); (simp only [AllNeT, and_true] at l1); (repeat (first | (refine an8 l1 ?_; clear l1; intro hne' hne' hne' hne' hne' hne' hne' l1) | (refine an4 l1 ?_; clear l1; intro hne' hne' hne' l1) | (refine an2 l1 ?_; clear l1; intro hne' l1))); (try k_fold))) | (k_end; wrow_close) | walk1 | (dsimp only; walk1) | (leave1; walk_say "STEP leave1"; try dsimp only) | fail "no step"))
  exact Ends.mk2 (by k_asm) (by k_asm) ⟨rfl, _, _, _, _, rfl, rfl, by assumption, by assumption, by assumption⟩ (by lcg_sub)
theorem cfb_init (w : World) {x dx : Addr} {tb ti ts : Tok} {b iv : Array UInt8} {key ivs : List Int} (hne : (@Ne Nat x dx)) (hb : KBw.bInts b = key) (hkey : KeyOk key) (hi : KBw.bInts iv = ivs) (hil : ivs.length = 16) :
    Spec w (.ref 354) [.ref x, .bytes b tb, .bytes iv ti, .int 16 ts] (fun _ => True) [(x, instObj 375 dx), (dx, dictOf [] 0)] 5 40 (ModeEnd w 375 x dx key (fun t a o => ∃ t1 t2 t3, o = dictOf (cfbEs w.params t1 t2 t3 (.bytes iv ti) t a) 3)) := by
  with_unfolding_all refine' spec_def ?ho ?hcd ?hbind ?hloc ?c2 ?c3 ?c4 ?c5 ?_
  (case ho => k_is)
  (case hcd => k_is)
  (case hbind => first | exact bind_plain rfl | exact bind_dflt rfl (by k_is) rfl rfl rfl)
  (case hloc => exact locs rfl)
  (case c2 => exact rfl)
  (case c3 => exact rfl)
  (case c4 => exact rfl)
  (case c5 => decide)
  intro p loose mean mg mb dp un gd cn cs ca ccd cl outer base L g L1 h1 s tk B F X N T hdp hun hyp
  refine letA ?_
  intro A0
  (try dsimp only)
  (try k_fold)
  have hln : LenIs ivs 16 := ⟨by omega, by omega⟩
  (repeat' (first | (k_unfold; (try dsimp only)) | ((with_reducible show wpAny _ _ (exec _ _) _ _ _); (fail_if_success (fail_if_success k_fold)); refine foldQ ?_; intro q9) | ((with_reducible show wpAny _ _ (eval (Expr.Call _ _ _ _) _) _ _ _); (fail_if_success (fail_if_success k_fold)); refine foldQ ?_; intro q9) | ((with_reducible show wpAny _ _ (eval (Expr.Subscript _ _ _) _) _ _ _); (fail_if_success (fail_if_success k_fold)); refine foldQ ?_; intro q9)  | (k_here; (with_reducible show wpAny _ _ (call (Value.ref 169) [Value.ref _, Value.bytes _ _]) _ _ _); k_dflt ( refine' mode_use (cfb_blk _ (by first | tb_start | omega) (by tb_start) (by tb_start)) ?k1 ?k2 ?k3 ?k4 ?k5 ?k6 ?k7 ?k8 ?k9 ?k10 ?_; (case k1 | k2 | k3 | k4 | k5 => k_asm); (case k6 => first | exact rfl | assumption); (case k7 => k_mem); (case k8 => (intro o1; k_upd)); (case k9 => ktr_room); (case k10 => ktr_units); intro tl' t' a' ds' h' tk' F' N' l1 he' hA'; subst he'; (simp only [List.cons_append, List.nil_append] at N'); (simp only [AllNeT, and_true] at l1); (repeat (first | (refine an8 l1 ?_; clear l1; intro hne' hne' hne' hne' hne' hne' hne' l1) | (refine an4 l1 ?_; clear l1; intro hne' hne' hne' l1) | (refine an2 l1 ?_; clear l1; intro hne' l1))); (try k_fold))) | (k_here; (with_reducible show wpAny _ _ (call (Value.builtin _) [Value.bytes _ _]) _ _ _); k_dflt (refine len_bytesN (by tb_start) (by tb_start) (fun t' k' => ?_)); (try k_fold)) | (k_here; (with_reducible show wpAny _ _ (call (Value.ref 33) [Value.bytes _ _]) _ _ _); k_dflt ( refine' (str2b_spec _).read ?k1 ?k2 ?k3 ?k4 ?k5 ?k6 ?k15 ?k16 ?ky ?_; (case ky => exact fun _ _ => trivial); (case k1 | k2 | k3 | k4 | k5 => k_asm); (case k6 => first | exact rfl | assumption); (case k15 => ktr_room); (case k16 => ktr_units); intro v' h' k' F' N' hs' hv'; subst hv'; (clear hs'); (try k_fold))) | (k_end; wrow_close) | walk1 | (dsimp only; walk1) | (leave1; walk_say "STEP leave1"; try dsimp only) | fail "no step"))
  exact Ends.mk2 (by k_asm) (by k_asm) ⟨rfl, _, _, _, _, rfl, ⟨_, _, _, rfl⟩, by assumption, by assumption, by assumption⟩ (by lcg_sub)
end
section
section
variable {w : World} {A : Around} {E : Value → Shared → Prop} {s : Shared} {h₀ : Heap} {L : Addr} {m : Str → Option Value} {news news' : List (Addr × Obj)}
theorem extend_led {D b : Addr} {us vs : List Value} {ns ms : List Int} {n n2 c : Nat} {Q : Value → Shared → Prop} (F : Fr h₀ L s.heap m) (N : News h₀ L s.heap news) (hb : (b, listOf vs.toArray n2) ∈ news) (hi : IntsAre us ns) (hj : IntsAre vs ms) (hz : LenLe ns c) (hm : LenIs ms 16) (hc : c ≤ 100000)
    (U : Upd D (listOf us.toArray n) (listOf (us ++ vs).toArray (n + 1)) news news')
    (h : ∀ h', Fr h₀ L h' m → News h₀ L h' news' → IntsAre (us ++ vs) (ns ++ ms) → Q .none { s with heap := h' }) : wpAny (model PySem.Challenge.rw_yv0001_01.row.prog w) A (call (.builtin "list.extend") [.ref D, .ref b]) Q E s := by
  have e1 := hi.length
  have e2 := hj.length
  have e3 := hm.1
  unfold LenLe at hz
  have e4 : ns.length + ms.length ≤ 100016 := by omega
  refine kl_extend F N hb (l := us ++ vs) rfl (by simp; intro e; rw [e] at e2; simp at e2; omega) U (fun q => ?_) (by simp; rw [PySem.sizeLine_eq]; omega) (by simp; rw [PySem.sizeLine_eq]; omega) (fun h' F' N' => h h' F' N' (IntsAre.append hi hj))
  simp only [Bool.and_eq_true] at q
  have := q.2
  unfold Builtin.List.listTooLong at this
  simp [PySem.sizeLine_eq] at this
  omega
theorem cut_bytes {b : Array UInt8} {tb : Tok} {ns zs : List Int} {x y : Int} {tx ty : Tok} {value slice : Expr} {Q : Value → Shared → Prop} {hh : Heap} {k0 : Nat} (F : Fr h₀ L hh m) (N : News h₀ L hh news) (hb : KBw.bInts b = ns) (hx : 0 ≤ x) (hy : 0 ≤ y) (hz : ns.length ≤ 100000)
    (e : (ns.drop x.toNat).take (min y.toNat ns.length - x.toNat) = zs)
    (h : ∀ b' t' h' k, Fr h₀ L h' m → News h₀ L h' news → KBw.bInts b' = zs → Q (.bytes b' t') { s with heap := h', toks := k })
    (hs : ∀ v a, subscripted slice false v (.ref a) = operate [.ref a, v] (getItem v (.ref a)))
    (ht : ∀ b t r, letTemporaryGo value (.bytes b t) r = pure ()) :
    wpAny (model PySem.Challenge.rw_yv0001_01.row.prog w) A (subscriptTail value slice (.bytes b tb) (.ref hh.objs.size)) Q E { s with toks := k0, heap := hh.push { cls := .type "slice", data := .fields #[.int x tx, .int y ty, .none] } } :=
  KBc.slice_K (s := { s with heap := hh, toks := k0 }) F N hb (.int x tx) (.int y ty) (by omega) (fun h' t' k F' N' e' => h _ _ h' k F' N' (e'.trans ((cut_eq ns hx hy).trans e))) (hs _ _) (ht _ _)
theorem cut_from {b : Array UInt8} {tb : Tok} {ns zs : List Int} {x : Int} {tx : Tok} {value slice : Expr} {Q : Value → Shared → Prop} {hh : Heap} {k0 : Nat} (F : Fr h₀ L hh m) (N : News h₀ L hh news) (hb : KBw.bInts b = ns) (hx : 0 ≤ x) (hz : ns.length ≤ 100000)
    (e : ns.drop x.toNat = zs)
    (h : ∀ b' t' h' k, Fr h₀ L h' m → News h₀ L h' news → KBw.bInts b' = zs → Q (.bytes b' t') { s with heap := h', toks := k })
    (hs : ∀ v a, subscripted slice false v (.ref a) = operate [.ref a, v] (getItem v (.ref a)))
    (ht : ∀ b t r, letTemporaryGo value (.bytes b t) r = pure ()) :
    wpAny (model PySem.Challenge.rw_yv0001_01.row.prog w) A (subscriptTail value slice (.bytes b tb) (.ref hh.objs.size)) Q E { s with toks := k0, heap := hh.push { cls := .type "slice", data := .fields #[.int x tx, .none, .none] } } := by
  refine KBc.slice_K (s := { s with heap := hh, toks := k0 }) F N hb (.int x tx) .none (by omega) (fun h' t' k F' N' e' => h _ _ h' k F' N' (e'.trans (Eq.trans ?_ e))) (hs _ _) (ht _ _)
  have e2 : clipAt ns.length x = min x.toNat ns.length := by unfold clipAt; rw [if_neg (by omega)]; omega
  show (ns.drop (clipAt ns.length x)).take (ns.length - clipAt ns.length x) = _
  rw [e2, kmk_drop_min, List.take_of_length_le]
  rw [List.length_drop]; omega
theorem cut_upto {l : Addr} {us : List Value} {n : Nat} {ns zs : List Int} {y : Int} {ty : Tok} {value slice : Expr} {Q : Value → Shared → Prop} {hh : Heap} {k0 : Nat} (F : Fr h₀ L hh m) (N : News h₀ L hh news) (hm : (l, listOf us.toArray n) ∈ news) (hi : IntsAre us ns) (hy : 0 ≤ y) (hz : ns.length ≤ 100000)
    (e : ns.take y.toNat = zs)
    (h : ∀ D us' h' k, Fr h₀ L h' m → News h₀ L h' ((D, listOf us'.toArray 0) :: news) → AllNe D news → IntsAre us' zs → Q (.ref D) { s with heap := h', toks := k })
    (hs : ∀ v a, subscripted slice false v (.ref a) = operate [.ref a, v] (getItem v (.ref a)))
    (ht : ∀ v r, letTemporaryGo value v r = pure ()) :
    wpAny (model PySem.Challenge.rw_yv0001_01.row.prog w) A (subscriptTail value slice (.ref l) (.ref hh.objs.size)) Q E { s with toks := k0, heap := hh.push { cls := .type "slice", data := .fields #[.none, .int y ty, .none] } } := by
  have hk := kmk_upto hi hy
  rw [e] at hk
  exact kmk_slice_ints (s := { s with heap := hh, toks := k0 }) F N ⟨_, (N _ hm).1, rfl, _, rfl⟩ .none (.int y ty) hi hk rfl (fun D ws h' F' N' l1 hi' _ _ => h D ws h' _ F' N' (allNe_of fun p hp => Nat.ne_of_lt (l1 p hp)) hi') (hs _ _) (ht _)
    (by rw [PySem.sizeLine_eq, List.size_toArray, hi.length]; omega)
end
theorem rangeSize_16 (n : Nat) : Builtin.Range.rangeSize 0 (16 * (n : Int)) 16 = (n : Int) := by
  unfold Builtin.Range.rangeSize
  rw [if_pos (by decide)]
  split <;> omega
theorem small_16 {n : Nat} (h : n ≤ 100) : Builtin.Range.small 0 (16 * (n : Int)) 16 = true :=
  (by decide +kernel : ∀ n < 101, Builtin.Range.small 0 (16 * ((n : Nat) : Int)) 16 = true) n (by omega)
theorem flat_len {bl : List (List Int)} (hl : ∀ r ∈ bl, r.length = 16 ∧ ∀ y ∈ r, OctOk y) : bl.flatten.length = 16 * bl.length := by
  induction bl with
  | nil => rfl
  | cons r bl ih => rw [List.flatten_cons, List.length_append, ih fun q hq => hl q (List.mem_cons_of_mem _ hq), (hl r List.mem_cons_self).1, List.length_cons]; omega
theorem flat_cut {bl : List (List Int)} (hl : ∀ r ∈ bl, r.length = 16 ∧ ∀ y ∈ r, OctOk y) : ∀ {i : Nat}, i < bl.length → (bl.flatten.drop (16 * i)).take 16 = bl.getD i [] := by
  induction bl with
  | nil => intro i h; simp at h
  | cons r bl ih =>
    intro i h
    have e := (hl r List.mem_cons_self).1
    cases i with
    | zero => rw [List.flatten_cons, Nat.mul_zero, List.drop_zero, List.take_append_of_le_length (by omega), List.take_of_length_le (by omega)]; rfl
    | succ i =>
      rw [List.flatten_cons, List.drop_append, List.drop_of_length_le (by omega), List.nil_append, show 16 * (i + 1) - r.length = 16 * i by omega, ih (fun q hq => hl q (List.mem_cons_of_mem _ hq)) (by simpa using h)]
      rfl
theorem row_ok {bl : List (List Int)} (hl : ∀ r ∈ bl, r.length = 16 ∧ ∀ y ∈ r, OctOk y) {i : Nat} (h : i < bl.length) : (bl.getD i []).length = 16 ∧ ∀ y ∈ bl.getD i [], OctOk y := by
  rw [List.getD_eq_getElem?_getD, List.getElem?_eq_getElem h]
  exact hl _ (List.getElem_mem h)
theorem concat2_spec (w : World) {l : Addr} {ns ks : List Int} {b : Array UInt8} {t : Tok} (hb : KBw.bInts b = ks) (ho : ∀ y ∈ ns, OctOk y) (hl : ns.length ≤ 200) (hk : ks.length ≤ 200) :
    Spec w (.ref 47) [.bytes b t, .ref l] (fun g => PVin g (.ref l) ns) [] 1 8 (fun v nw => nw = [] ∧ IsB (ks ++ ns) v) := by
  have hz : ks.length + ns.length ≤ 16777216 := by omega
  with_unfolding_all refine' spec_def ?ho ?hcd ?hbind ?hloc ?c2 ?c3 ?c4 ?c5 ?_
  (case ho => k_is)
  (case hcd => k_is)
  (case hbind => first | exact bind_plain rfl | exact bind_dflt rfl (by k_is) rfl rfl rfl)
  (case hloc => exact locs rfl)
  (case c2 => exact rfl)
  (case c3 => exact rfl)
  (case c4 => exact rfl)
  (case c5 => decide)
  intro p loose mean mg mb dp un gd cn cs ca ccd cl outer base L g L1 h1 s tk B F X N T hdp hun hyp
  refine letA ?_
  intro A0
  (try dsimp only)
  (try k_fold)
  cases hyp
  (repeat' (first | (k_unfold; (try dsimp only)) | ((with_reducible show wpAny _ _ (exec _ _) _ _ _); (fail_if_success (fail_if_success k_fold)); refine foldQ ?_; intro q9) | ((with_reducible show wpAny _ _ (eval (Expr.Call _ _ _ _) _) _ _ _); (fail_if_success (fail_if_success k_fold)); refine foldQ ?_; intro q9) | ((with_reducible show wpAny _ _ (eval (Expr.Subscript _ _ _) _) _ _ _); (fail_if_success (fail_if_success k_fold)); refine foldQ ?_; intro q9)  | (k_here; (with_reducible show wpAny _ _ (call (Value.type _) [Value.ref _]) _ _ _); k_dflt (refine call_bytes_base (by k_asm) (by k_asm) (by tb_start) (by tb_start) (by tb_start) (by tb_start) (by rfl) (fun b' t' h' k' F' N' hb' => ?_)); (try k_fold)) | (k_here; (with_reducible show wpAny _ _ (binaryOp Operator.Add (Value.bytes _ _) (Value.bytes _ _)) _ _ _); k_dflt (refine add_bytesK (by tb_start) (by tb_start) (by first | tb_start | omega) (fun b' t' k' hb' => ?_)); (try k_fold)) | (k_end; wrow_close) | walk1 | (dsimp only; walk1) | (leave1; walk_say "STEP leave1"; try dsimp only) | fail "no step"))
  exact Ends.mk2 (by k_asm) (by k_asm) ⟨rfl, _, _, rfl, by assumption⟩ (fun _ h => nomatch h)
theorem concat_use {w : World} {p : Program} {loose : List Str} {mean : ExcName → Option Value} {mg mb : Str → Option Value} {dp un : Nat} {gd : Option (List Code)} {cn : Str} {cs : Scope} {a : Addr} {ccd : Value} {cl : List (Str × Addr)} {outer : List Env} {A₀ : Around} {base h₀ : Heap} {L : Addr} {m : Str → Option Value} {s : Shared}
    {Q E : Value → Shared → Prop} {all : List (Addr × Obj)} {l : Addr} {ns ks : List Int} {b : Array UInt8} {t : Tok} (B : Below A₀ base outer h₀) (F : Fr h₀ L s.heap m) (X : (mkK.heap_1 w.params).In h₀) (N : News h₀ L s.heap all) (T : Top p loose mean mg mb h₀) (hk : cs.kind = .function)
    (hb : KBw.bInts b = ks) (P : PVl h₀ all (.ref l) ns) (ho : ∀ y ∈ ns, OctOk y) (hl : LenIs ns 16) (he : ks = []) (hd' : dp + 1 < recursionLimit) (hu : un + 8 < cLine)
    (cont : ∀ b' t' h' k, Fr h₀ L h' m → News h₀ L h' all → KBw.bInts b' = ns → Q (.bytes b' t') { s with heap := h', toks := k }) :
    wpAny (model PySem.Challenge.rw_yv0001_01.row.prog w) (ktrTop dp un gd cn cs L a ccd cl outer) (call (.ref 47) [.bytes b t, .ref l]) Q E s :=
  (concat2_spec w hb ho (by have := hl.1; omega) (by rw [he]; decide)).read B F X N T hk hd' hu (fun g K => (P.in F N).mono K) fun v h' k F' N' _ r => by
    obtain ⟨b', t', rfl, hb'⟩ := r
    exact cont b' t' h' k F' N' (by rw [hb', he]; rfl)
end
section
theorem UpdF.toUpd {d : Addr} {o : Obj} {all : List (Addr × Obj)} {f : Obj → List (Addr × Obj)} (U : UpdF d o all f) (o' : Obj) : Upd d o o' all (f o') := by
  induction U with
  | head h => exact .head h
  | tail h _ ih => exact .tail h ih
section
variable {w : World} {A : Around} {E : Value → Shared → Prop} {s : Shared} {h₀ : Heap} {L : Addr} {m : Str → Option Value} {news : List (Addr × Obj)} {f : Obj → List (Addr × Obj)}
theorem extend_f {D b : Addr} {us vs : List Value} {ns ms : List Int} {n n2 c : Nat} {Q : Value → Shared → Prop} (F : Fr h₀ L s.heap m) (N : News h₀ L s.heap news) (_hD : (D, listOf us.toArray n) ∈ news) (hb : (b, listOf vs.toArray n2) ∈ news) (U : UpdF D (listOf us.toArray n) news f)
    (hi : IntsAre us ns) (hj : IntsAre vs ms) (hz : LenLe ns c) (hm : LenIs ms 16) (hc : c ≤ 100000)
    (h : ∀ us' h', Fr h₀ L h' m → News h₀ L h' (f (listOf (List.toArray us') (n + 1))) → IntsAre us' (ns ++ ms) → Q .none { s with heap := h' }) : wpAny (model PySem.Challenge.rw_yv0001_01.row.prog w) A (call (.builtin "list.extend") [.ref D, .ref b]) Q E s := by
  have e1 := hi.length
  have e2 := hj.length
  have e3 := hm.1
  unfold LenLe at hz
  have e4 : ns.length + ms.length ≤ 100016 := by omega
  refine kl_extend F N hb (l := us ++ vs) rfl (by simp; intro e; rw [e] at e2; simp at e2; omega) (UpdF.toUpd U _) (fun q => ?_) (by simp; rw [PySem.sizeLine_eq]; omega) (by simp; rw [PySem.sizeLine_eq]; omega) (fun h' F' N' => h _ h' F' N' (IntsAre.append hi hj))
  simp only [Bool.and_eq_true] at q
  have := q.2
  unfold Builtin.List.listTooLong at this
  simp [PySem.sizeLine_eq] at this
  omega
theorem iadd_f {D b : Addr} {us vs : List Value} {ns ms : List Int} {n n2 c : Nat} {Q : Value → Shared → Prop} (F : Fr h₀ L s.heap m) (N : News h₀ L s.heap news) (hD : (D, listOf us.toArray n) ∈ news) (hb : (b, listOf vs.toArray n2) ∈ news) (U : UpdF D (listOf us.toArray n) news f)
    (hi : IntsAre us ns) (hj : IntsAre vs ms) (hz : LenLe ns c) (hm : LenIs ms 16) (hc : c ≤ 100000)
    (h : ∀ us' h', Fr h₀ L h' m → News h₀ L h' (f (listOf (List.toArray us') (n + 1))) → IntsAre us' (ns ++ ms) → Q (.ref D) { s with heap := h' }) : wpAny (model PySem.Challenge.rw_yv0001_01.row.prog w) A (inplaceOp .Add (.ref D) (.ref b)) Q E s := by
  have e1 := hi.length
  have e2 := hj.length
  have e3 := hm.1
  unfold LenLe at hz
  have e4 : ns.length + ms.length ≤ 100016 := by omega
  have ha : s.TypeIs (.ref D) "list" := ⟨_, (N _ hD).1, rfl⟩
  have hb' : s.TypeIs (.ref b) "list" := ⟨_, (N _ hb).1, rfl⟩
  have hfi : fillsInplaceSlot (.type "list") "add" (Operator.Add == .Add) = pure false := by
    unfold fillsInplaceSlot
    show (typeLookup (.type "list") (dunderI "add") >>= fun fi => pure (fi.isSome && !isSeqSlot fi)) = pure false
    rw [PySem.F.slot_list_iadd.lookup]
    have : isSeqSlot (some (.builtin "list.__iadd__")) = true := by decide +kernel
    show (pure ((some (Value.builtin "list.__iadd__")).isSome && !isSeqSlot (some (.builtin "list.__iadd__"))) : Sem Bool) = pure false
    rw [this]; rfl
  have hsi : seqSlot? (.type "list") (dunderI "add") = pure (some (.builtin "list.__iadd__")) := PySem.seqSlot_of PySem.F.slot_list_iadd.lookup (by decide +kernel)
  unfold inplaceOp
  refine wpAny_holding ?_
  refine wpAny_bind (wpAny_typeOf ha (wpAny_bind (wpAny_of_eq hfi ?_)))
  show wpAny _ A (if false = true then _ else _) Q E s
  rw [if_neg Bool.false_ne_true]
  refine wpAny_bind (wpAny_binaryOp1_none (nm := "add") ha hb' PySem.noFill_list_add ?_)
  refine wpAny_bind (wpAny_of_eq hsi ?_)
  refine wpAny_bind (wpAny_rule ?_)
  obtain ⟨pre, post, rfl, hf, a, c⟩ := U.split
  have z := N (D, listOf us.toArray n) (List.mem_append.mpr (.inr (.head _)))
  refine call_meets PySem.F.slot_list_iadd ha PySem.F.entry_list_iadd (PySem.F.args_list_iadd_2 _ _) (PySem.AutoSeq1.list___iadd___list_list_0 D us.toArray n b vs.toArray n2 (fun q => ?_) (by simp; rw [PySem.sizeLine_eq]; omega) (by simp; rw [PySem.sizeLine_eq]; omega)) ⟨z.1, (N _ hb).1, ?_⟩
  · simp only [Bool.and_eq_true] at q
    have := q.2
    unfold Builtin.List.listTooLong at this
    simp [PySem.sizeLine_eq] at this
    omega
  · refine h (us ++ vs) _ (F.change (Heap.SameBut.update ..) z.2.1 z.2.2) ?_ (IntsAre.append hi hj)
    rw [hf]
    refine kl_turn _ N a c ?_ ?_
    · apply Array.toList_inj.mp
      simp
    · simp
      intro e; rw [e] at e2; simp at e2; omega
theorem append_f {D : Addr} {us : List Value} {ns : List Int} {n c : Nat} {v : Int} {t : Tok} {Q : Value → Shared → Prop} (F : Fr h₀ L s.heap m) (N : News h₀ L s.heap news) (_hD : (D, listOf us.toArray n) ∈ news) (U : UpdF D (listOf us.toArray n) news f) (hi : IntsAre us ns) (hz : LenLe ns c) (hc : c ≤ 100000)
    (h : ∀ us' h', Fr h₀ L h' m → News h₀ L h' (f (listOf (List.toArray us') (n + 1))) → IntsAre us' (ns ++ [v]) → Q .none { s with heap := h' }) : wpAny (model PySem.Challenge.rw_yv0001_01.row.prog w) A (call (.builtin "list.append") [.ref D, .int v t]) Q E s :=
  append_led F N hi hz hc (UpdF.toUpd U _) fun h' F' N' hi' _ => h _ h' F' N' hi'
theorem pop0_f {D : Addr} {us : List Value} {z : Int} {O r : List Int} {n c : Nat} {tz : Tok} {Q : Value → Shared → Prop} (F : Fr h₀ L s.heap m) (N : News h₀ L s.heap news) (_hD : (D, listOf us.toArray n) ∈ news) (U : UpdF D (listOf us.toArray n) news f) (hi : IntsAre us O) (he : O = z :: r) (hz : LenLe r c) (hc : c ≤ 100000)
    (h : ∀ us' t h', Fr h₀ L h' m → News h₀ L h' (f (listOf (List.toArray us') (n + 1))) → IntsAre us' r → Q (.int z t) { s with heap := h' }) : wpAny (model PySem.Challenge.rw_yv0001_01.row.prog w) A (call (.builtin "list.pop") [.ref D, .int 0 tz]) Q E s := by
  subst he
  cases hi with
  | cons _ t hi =>
    have e1 := hi.length
    unfold LenLe at hz
    exact kl_popAt F N (k := 0) (p := []) (by rfl) (by unfold seqIndex?; simp) (by rfl) (UpdF.toUpd U _) (by simp; rw [PySem.sizeLine_eq]; omega) fun h' F' N' => h _ t h' F' N' hi
end
section
variable {prog : Program} {w : World} {A : Around} {E : Value → Shared → Prop} {s : Shared} {env : Env} {h₀ : Heap} {x : Str} {body : List Stmt} {Q : Flow → Shared → Prop}
theorem kbs_go {b : Array UInt8} {t : Tok} {ns : List Int} {m₀ : Str → Option Value} {all news : List (Addr × Obj)} (J : Nat → (Str → Option Value) → List (Addr × Obj) → Prop)
    (hh : A.handled = none) (hb : KBw.bInts b = ns) (F : Fr h₀ env.locals s.heap m₀) (N : News h₀ env.locals s.heap all) (hj : J 0 m₀ news) (hsub : ∀ p ∈ news, p ∈ all)
    (turn : ∀ (i : Nat) m nw I it u h tk, i < ns.length → J i m nw → (∀ p ∈ nw, p.1 ≠ I) → Fr h₀ env.locals h (fun y => if y = x then some (.int (ns.getD i 0) u) else m y) → News h₀ env.locals h ((I, it) :: nw) →
      wpAny (model prog w) A (execs body env) (UnrPost h₀ env.locals { s with heap := h, toks := tk } I it (J (i + 1)) Q) E { s with heap := h, toks := tk })
    (fin : ∀ m nw h tk, J ns.length m nw → Fr h₀ env.locals h m → News h₀ env.locals h nw → Q .next { s with heap := h, toks := tk }) :
    wpAny (model prog w) A (pyIter (.bytes b t)) (fun it s₂ => LoopAtV prog w A h₀ env x body Q E it s₂) E s := by
  refine iter_bytesUnr hh F (fun p hp => N p (hsub p hp)) hb fun I hI => ?_
  have key : ∀ (r : List Int) (i : Nat) m nw, ns.drop i = r → i ≤ ns.length → J i m nw → (∀ p ∈ nw, p.1 ≠ I) → BytesRest prog w A E h₀ env x body Q s I r m nw := by
    intro r
    induction r with
    | nil =>
      intro i m nw hi hl hJ _
      have e : i = ns.length := by
        have := congrArg List.length hi
        rw [List.length_drop] at this
        simp at this; omega
      subst e
      exact BytesRest.zero fun h tk F N => fin m nw h tk hJ F N
    | cons c r ih =>
      intro i m nw hi hl hJ off
      have hlt : i < ns.length := by
        have := congrArg List.length hi
        rw [List.length_drop, List.length_cons] at this
        omega
      rw [List.drop_eq_getElem_cons hlt] at hi
      have ec : ns.getD i 0 = c := by
        rw [List.getD_eq_getElem?_getD, List.getElem?_eq_getElem hlt]
        exact (List.cons.inj hi).1
      have er := (List.cons.inj hi).2
      refine BytesRest.succ fun _ _ u it h tk F N => ?_
      rw [← ec] at F
      refine wpAny_mono (turn i m nw I it u h tk hlt hJ off F N) (fun f s₂ p => ?_) fun _ _ e => e
      cases f with
      | ret v => exact p
      | brk => exact p
      | next =>
        obtain ⟨h', tk', m', nw', e, F', N', ho, hJ'⟩ := p
        exact ⟨h', tk', m', nw', e, F', N', ho, ih (i + 1) m' nw' er hlt hJ' ho⟩
      | cont =>
        obtain ⟨h', tk', m', nw', e, F', N', ho, hJ'⟩ := p
        exact ⟨h', tk', m', nw', e, F', N', ho, ih (i + 1) m' nw' er hlt hJ' ho⟩
  exact key ns 0 m₀ news rfl (Nat.zero_le _) hj fun p hp => Nat.ne_of_lt (hI p hp)
theorem kls_go {ax : Addr} {vs : List Value} {n : Nat} {m₀ : Str → Option Value} {all news : List (Addr × Obj)} (J : Nat → (Str → Option Value) → List (Addr × Obj) → Prop)
    (hh : A.handled = none) (hm : ∀ i m nw, J i m nw → (ax, listOf vs.toArray n) ∈ nw) (F : Fr h₀ env.locals s.heap m₀) (N : News h₀ env.locals s.heap all) (hj : J 0 m₀ news) (hsub : ∀ p ∈ news, p ∈ all)
    (turn : ∀ (i : Nat) m nw I it v h tk, vs[i]? = some v → i < vs.length → J i m nw → (∀ p ∈ nw, p.1 ≠ I) → Fr h₀ env.locals h (fun y => if y = x then some v else m y) → News h₀ env.locals h ((I, it) :: nw) →
      wpAny (model prog w) A (execs body env) (UnrPost h₀ env.locals { s with heap := h, toks := tk } I it (J (i + 1)) Q) E { s with heap := h, toks := tk })
    (fin : ∀ m nw h tk, J vs.length m nw → Fr h₀ env.locals h m → News h₀ env.locals h nw → Q .next { s with heap := h, toks := tk }) :
    wpAny (model prog w) A (pyIter (.ref ax)) (fun it s₂ => LoopAtV prog w A h₀ env x body Q E it s₂) E s := by
  refine iter_listUnr (lo := listOf vs.toArray n) (vs := vs) (n := n) hh F (fun p hp => N p (hsub p hp)) (hm _ _ _ hj) rfl rfl fun I hI => ?_
  have key : ∀ (r : List Value) (i : Nat) m nw, vs.drop i = r → i ≤ vs.length → J i m nw → (∀ p ∈ nw, p.1 ≠ I) → ListRest prog w A E h₀ env x body Q s I (ax, listOf vs.toArray n) r m nw := by
    intro r
    induction r with
    | nil =>
      intro i m nw hi hl hJ _
      have e : i = vs.length := by
        have := congrArg List.length hi
        rw [List.length_drop] at this
        simp at this; omega
      subst e
      exact ListRest.zero fun h tk F N => fin m nw h tk hJ F N
    | cons c r ih =>
      intro i m nw hi hl hJ off
      have hlt : i < vs.length := by
        have := congrArg List.length hi
        rw [List.length_drop, List.length_cons] at this
        omega
      rw [List.drop_eq_getElem_cons hlt] at hi
      have ec : vs[i]? = some c := by
        rw [List.getElem?_eq_getElem hlt]
        exact congrArg some (List.cons.inj hi).1
      have er := (List.cons.inj hi).2
      refine ListRest.succ fun it h tk _ F N => ?_
      refine wpAny_mono (turn i m nw I it c h tk ec hlt hJ off F N) (fun f s₂ p => ?_) fun _ _ e => e
      cases f with
      | ret v => exact p
      | brk => exact p
      | next =>
        obtain ⟨h', tk', m', nw', e, F', N', ho, hJ'⟩ := p
        exact ⟨h', tk', m', nw', e, F', N', ho, hm _ _ _ hJ', ih (i + 1) m' nw' er hlt hJ' ho⟩
      | cont =>
        obtain ⟨h', tk', m', nw', e, F', N', ho, hJ'⟩ := p
        exact ⟨h', tk', m', nw', e, F', N', ho, hm _ _ _ hJ', ih (i + 1) m' nw' er hlt hJ' ho⟩
  exact key vs 0 m₀ news rfl (Nat.zero_le _) hj fun p hp => Nat.ne_of_lt (hI p hp)
end
theorem concatB_use {w : World} {p : Program} {loose : List Str} {mean : ExcName → Option Value} {mg mb : Str → Option Value} {dp un : Nat} {gd : Option (List Code)} {cn : Str} {cs : Scope} {a : Addr} {ccd : Value} {cl : List (Str × Addr)} {outer : List Env} {A₀ : Around} {base h₀ : Heap} {L : Addr} {m : Str → Option Value} {s : Shared}
    {Q E : Value → Shared → Prop} {all : List (Addr × Obj)} {ns ks : List Int} {b c : Array UInt8} {t u : Tok} (B : Below A₀ base outer h₀) (F : Fr h₀ L s.heap m) (X : (mkK.heap_1 w.params).In h₀) (N : News h₀ L s.heap all) (T : Top p loose mean mg mb h₀) (hk : cs.kind = .function)
    (hb : KBw.bInts b = ks) (hc : KBw.bInts c = ns) (hl : LenIs ns 16) (he : ks = []) (hd' : dp + 1 < recursionLimit) (hu : un + 8 < cLine)
    (cont : ∀ b' t' h' k, Fr h₀ L h' m → News h₀ L h' all → KBw.bInts b' = ns → Q (.bytes b' t') { s with heap := h', toks := k }) :
    wpAny (model PySem.Challenge.rw_yv0001_01.row.prog w) (ktrTop dp un gd cn cs L a ccd cl outer) (call (.ref 47) [.bytes b t, .bytes c u]) Q E s :=
  (concatB_spec w hb hc (by have := hl.1; omega) (by rw [he]; decide)).read B F X N T hk hd' hu (fun _ _ => trivial) fun v h' k F' N' _ r => by
    obtain ⟨b', t', rfl, hb'⟩ := r
    exact cont b' t' h' k F' N' (by rw [hb', he]; rfl)
section
variable {w : World} {E : Value → Shared → Prop} {p : Program} {loose : List Str} {mean : ExcName → Option Value} {mg mb : Str → Option Value} {dp un : Nat} {gd : Option (List Code)} {cn : Str} {cs : Scope} {a : Addr} {ccd : Value} {cl : List (Str × Addr)} {outer : List Env} {A₀ : Around} {base h₀ : Heap} {L : Addr} {m : Str → Option Value} {s : Shared}
theorem base_keep {g h : Heap} {news : List (Addr × Obj)} (F : Fr h₀ L h m) (N : News h₀ L h news) (K : KeepBut h g (news.map (·.1))) : ∀ b o, h₀.get? b = some o → g.get? b = some o := fun b o e => K b o (F.keep b o e) fun hm => by
  obtain ⟨q, hq, rfl⟩ := List.mem_map.mp hm
  have := (N q hq).2.2
  rw [this] at e; cases e
/-- a call after which what it was handed is needed no more -/
theorem spec_last {Q : Value → Shared → Prop} {f : Value} {args : List Value} {hyp : Heap → Prop} {news all rest : List (Addr × Obj)} {D U : Nat} {R : Value → Prop} (S : Spec w f args hyp news D U (fun v nw => R v ∧ nw = []))
    (B : Below A₀ base outer h₀) (F : Fr h₀ L s.heap m) (X : (mkK.heap_1 w.params).In h₀) (N : News h₀ L s.heap all) (T : Top p loose mean mg mb h₀) (hk : cs.kind = .function) (sub : ∀ p ∈ news, p ∈ all)
    (hyp' : ∀ g, KeepBut s.heap g (news.map (·.1)) → hyp g) (hrest : ∀ p ∈ rest, p ∈ all ∧ ∀ q ∈ news, q.1 ≠ p.1) (hd' : dp + D < recursionLimit) (hu : un + U < cLine)
    (cont : ∀ v h' tk, Fr h₀ L h' m → News h₀ L h' rest → R v → Q v { s with heap := h', toks := tk }) :
    wpAny (model PySem.Challenge.rw_yv0001_01.row.prog w) (ktrTop dp un gd cn cs L a ccd cl outer) (call f args) Q E s :=
  wpAny_call (S p loose mean mg mb dp un gd cn cs a ccd cl outer A₀ base h₀ L m s Q E B F X (fun q hq => N q (sub q hq)) T hk hd' hu hyp' fun v news' h' tk' F' N' K' fr r =>
    cont v h' tk' F' (fun q hq => ⟨K' _ _ (N q (hrest q hq).1).1 (fun hm => by
      obtain ⟨z, hz, e⟩ := List.mem_map.mp hm
      exact (hrest q hq).2 z hz e), (N q (hrest q hq).1).2⟩) r.1)
end
section
variable {prog : Program} {w : World} {A : Around} {E : Value → Shared → Prop} {s : Shared} {env : Env} {h₀ : Heap} {x : Str} {body orelse : List Stmt}
/-- a loop with an else that is never reached -/
theorem krs_else {R : Result → Shared → Prop} {px : Pos} {r : Addr} {a₀ b₀ c : Int} {t₀ u₀ v₀ : Tok} {n : Nat} {m₀ : Str → Option Value} {all news : List (Addr × Obj)} (J : Nat → (Str → Option Value) → List (Addr × Obj) → Prop)
    (hh : A.handled = none) (hx : env.kindOf x = some .local) (hp : (env.scope.kind == .class || (env.scope.kind == .module && env.locals != env.globals)) = false)
    (hr : IsRange s.heap r a₀ b₀ c t₀ u₀ v₀) (hsmall : Builtin.Range.small a₀ b₀ c = true) (hn : Builtin.Range.rangeSize a₀ b₀ c = (n : Int)) (F : Fr h₀ env.locals s.heap m₀) (N : News h₀ env.locals s.heap all)
    (hj : J 0 m₀ news) (hsub : ∀ p ∈ news, p ∈ all) (hJn : ∀ m nw, ¬ J n m nw)
    (turn : ∀ (i : Nat) m nw I t h tk, i < n → J i m nw → (∀ p ∈ nw, p.1 ≠ I) → Fr h₀ env.locals h (fun y => if y = x then some (.int (a₀ + (i : Int) * c) t) else m y) →
      News h₀ env.locals h ((I, krsIt (a₀ + ((i + 1 : Nat) : Int) * c) ((n : Int) - ((i + 1 : Nat) : Int)) c) :: nw) →
      wpAny (model prog w) A (execs body env) (UnrPost h₀ env.locals { s with heap := h, toks := tk } I (krsIt (a₀ + ((i + 1 : Nat) : Int) * c) ((n : Int) - ((i + 1 : Nat) : Int)) c) (J (i + 1)) (fun f s' => R (.ok f) s')) (fun _ _ => False) { s with heap := h, toks := tk }) :
    wpAny (model prog w) A (pyIter (.ref r)) (fun it s₂ => codeAny (model prog w) A (.forLoop (.Name x px) it body orelse env) R s₂) E s := by
  refine wpAny_pyIter_range hr hsmall ?_
  have W : Walks prog w A s.heap.objs.size [s.heap.objs.size] [s.heap.objs.size] n (fun i v => i < n ∧ ∃ t, v = .int (a₀ + i * c) t)
      (fun i h => IsRangeIter h s.heap.objs.size (a₀ + (i : Nat) * c) ((n : Int) - (i : Nat)) c) := (Walks.range hh _ a₀ c n).bound
  have hnew := next_is_new F
  have hIL : env.locals ≠ s.heap.objs.size := Nat.ne_of_lt F.ns.lt
  refine codeAny_forLoop (fun k s' => ∃ h' tk m' nw i, s' = { s with heap := h', toks := tk } ∧ IsRangeIter h' s.heap.objs.size (a₀ + ((i : Nat) : Int) * c) ((n : Int) - ((i : Nat) : Int)) c ∧ Fr h₀ env.locals h' m' ∧ News h₀ env.locals h' nw ∧ (∀ p ∈ nw, p.1 ≠ s.heap.objs.size) ∧ J i m' nw ∧ i ≤ n ∧ k = n + 1 - i)
    ?_ (n + 1) ⟨_, s.toks, m₀, news, 0, rfl, (by show IsRangeIter _ _ _ _ _; rw [hn]; simpa using Heap.get?_push_size _ rfl), F.push _, (fun p hp => ⟨Heap.get?_push_of_some _ (N p (hsub p hp)).1, (N p (hsub p hp)).2⟩), fun p hp => Nat.ne_of_lt (Heap.lt_size (N p (hsub p hp)).1), hj, Nat.zero_le _, rfl⟩
  rintro k s' ⟨h', tk, m', nw, i, rfl, hst, F', N', off, hJ, hi, rfl⟩
  by_cases hlt : i < n
  · refine W.item i _ _ _ hlt hst fun v h₁ tk₁ hP hst₁ hk₁ => ?_
    obtain ⟨_, t, rfl⟩ := hP
    have hk₂ : ∀ b o, b ≠ s.heap.objs.size → h'.get? b = some o → h₁.get? b = some o := fun b o hb => hk₁ b o (by simpa using hb)
    have F₁ : Fr h₀ env.locals h₁ m' := ⟨F'.ns.at' fun o e => hk₂ _ o hIL e, fun b o e => hk₂ b o (fun q => by rw [q, hnew] at e; cases e) (F'.keep b o e), F'.above⟩
    have N₁ : News h₀ env.locals h₁ nw := fun p hp => ⟨hk₂ _ _ (off p hp) (N' p hp).1, (N' p hp).2⟩
    refine wpAny_assign_Name (wpAny_storeName_local hx F₁.ns (fun h₂ hn₂ hs₂ => ?_) hp)
    have F₂ := F₁.set hn₂ hs₂
    have hst₂ : h₂.get? s.heap.objs.size = some (krsIt (a₀ + ((i + 1 : Nat) : Int) * c) ((n : Int) - ((i + 1 : Nat) : Int)) c) := (hs₂.2 _ (Ne.symm hIL)).trans hst₁
    have N₂ : News h₀ env.locals h₂ ((s.heap.objs.size, krsIt (a₀ + ((i + 1 : Nat) : Int) * c) ((n : Int) - ((i + 1 : Nat) : Int)) c) :: nw) := fun p hp => by
      rcases List.mem_cons.mp hp with rfl | hp
      · exact ⟨hst₂, Ne.symm hIL, hnew⟩
      · exact N₁.set hs₂ p hp
    refine wpAny_mono (turn i m' nw _ t _ _ hlt hJ off F₂ N₂) (fun f s₃ p => ?_) fun _ _ e => e.elim
    have fin : UnrEnd h₀ env.locals { s with heap := h₂, toks := tk₁ } s.heap.objs.size (krsIt (a₀ + ((i + 1 : Nat) : Int) * c) ((n : Int) - ((i + 1 : Nat) : Int)) c) (J (i + 1)) s₃ →
        ∃ m, m < n + 1 - i ∧ ∃ h' tk m' nw i, s₃ = { s with heap := h', toks := tk } ∧ IsRangeIter h' s.heap.objs.size (a₀ + ((i : Nat) : Int) * c) ((n : Int) - ((i : Nat) : Int)) c ∧ Fr h₀ env.locals h' m' ∧ News h₀ env.locals h' nw ∧ (∀ p ∈ nw, p.1 ≠ s.heap.objs.size) ∧ J i m' nw ∧ i ≤ n ∧ m = n + 1 - i := by
      rintro ⟨h3, tk3, m3, nw3, rfl, F3, N3, off3, hJ3⟩
      exact ⟨n + 1 - (i + 1), by omega, h3, tk3, m3, nw3, i + 1, rfl, (N3 _ List.mem_cons_self).1, F3, fun p hp => N3 p (List.mem_cons_of_mem _ hp), off3, hJ3, hlt, rfl⟩
    cases f with
    | ret v => exact p
    | brk => exact p
    | next => exact fin p
    | cont => exact fin p
  · have hin : i = n := by omega
    subst hin
    exact absurd hJ (hJn _ _)
end
end
section
/-- the shift register ahead of block i -/
noncomputable def cfbAt (P : Params) (ks : List (List Int)) (sv : List Int) (bl : List (List Int)) : Nat → List Int
  | 0 => sv
  | i + 1 => List.zipWith Builtin.bitXor (bl.getD i []) (enc P ks (cfbAt P ks sv bl i))
noncomputable def cfbOut (P : Params) (ks : List (List Int)) (sv : List Int) (bl : List (List Int)) (n : Nat) : List Int := ((List.range n).map fun i => cfbAt P ks sv bl (i + 1)).flatten
theorem cfbAt_ok (P : Params) (ks : List (List Int)) {sv : List Int} {bl : List (List Int)} (hl : ∀ r ∈ bl, r.length = 16 ∧ ∀ y ∈ r, OctOk y) (hs : sv.length = 16) (ho : ∀ y ∈ sv, OctOk y) : ∀ i, i ≤ bl.length → (cfbAt P ks sv bl i).length = 16 ∧ ∀ y ∈ cfbAt P ks sv bl i, OctOk y
  | 0, _ => ⟨hs, ho⟩
  | i + 1, h => by
    have := row_ok hl (Nat.lt_of_succ_le h)
    exact ⟨by rw [cfbAt, List.length_zipWith, this.1, enc_len]; rfl, xor_oct this.2 (enc_oct _ _ _)⟩
theorem cfbOut_succ (P : Params) (ks : List (List Int)) (sv : List Int) (bl : List (List Int)) (n : Nat) : cfbOut P ks sv bl (n + 1) = cfbOut P ks sv bl n ++ cfbAt P ks sv bl (n + 1) := by
  unfold cfbOut
  rw [List.range_succ, List.map_append, List.flatten_append]
  simp
theorem cfbOut_len (P : Params) (ks : List (List Int)) {sv : List Int} {bl : List (List Int)} (hl : ∀ r ∈ bl, r.length = 16 ∧ ∀ y ∈ r, OctOk y) (hs : sv.length = 16) (ho : ∀ y ∈ sv, OctOk y) : ∀ n, n ≤ bl.length → (cfbOut P ks sv bl n).length = 16 * n ∧ ∀ y ∈ cfbOut P ks sv bl n, OctOk y
  | 0, _ => ⟨rfl, fun y hy => by simp [cfbOut] at hy⟩
  | n + 1, h => by
    have ih := cfbOut_len P ks hl hs ho n (by omega)
    have h2 := cfbAt_ok P ks hl hs ho (n + 1) h
    rw [cfbOut_succ]
    refine ⟨by rw [List.length_append, ih.1, h2.1]; omega, fun y hy => ?_⟩
    rcases List.mem_append.mp hy with hy | hy
    · exact ih.2 y hy
    · exact h2.2 y hy
inductive CfbJ (P : Params) (x dx ax : Addr) (t1 t2 t3 t tb : Tok) (ks : List (List Int)) (svs : List Int) (b : Array UInt8) (bl : List (List Int)) (i : Nat) (m : Str → Option Value) (nw : List (Addr × Obj)) : Prop
  | mk0 (lE : Addr) (us : List Value) (n : Nat) (rb : Array UInt8) (tr : Tok) (z1 : nw = [(lE, listOf us.toArray n), (x, instObj 375 dx), (dx, dictOf (cfbEs P t1 t2 t3 (.bytes rb tr) t ax) 3)]) (z2 : (@Ne Nat lE x)) (z3 : (@Ne Nat lE dx)) (z4 : IntsAre us (cfbOut P ks svs bl i)) (z5 : KBw.bInts rb = cfbAt P ks svs bl i) (z6 : Keeps [(Str.ofString "encrypted", .ref lE), (Str.ofString "plaintext", .bytes b tb), (Str.ofString "self", .ref x)] m) : CfbJ P x dx ax t1 t2 t3 t tb ks svs b bl i m nw
theorem cfbe_spec (w : World) {x dx ax : Addr} {t1 t2 t3 t tb ts : Tok} {ks : List (List Int)} {svs : List Int} {b sb : Array UInt8} {bl : List (List Int)} (hne : (@Ne Nat x dx)) (hb : KBw.bInts b = bl.flatten) (hl : ∀ r ∈ bl, r.length = 16 ∧ ∀ y ∈ r, OctOk y) (hn : bl.length ≤ 10) (hsb : KBw.bInts sb = svs) (hsv : svs.length = 16) (hso : ∀ y ∈ svs, OctOk y) :
    Spec w (.ref 367) [.ref x, .bytes b tb] (fun g => AesAt w g ax ks) [(x, instObj 375 dx), (dx, dictOf (cfbEs w.params t1 t2 t3 (.bytes sb ts) t ax) 3)] 3 24
      (fun v nw => IsB (cfbOut w.params ks svs bl bl.length) v ∧ nw = []) := by
  with_unfolding_all refine' spec_def ?ho ?hcd ?hbind ?hloc ?c2 ?c3 ?c4 ?c5 ?_
  (case ho => k_is)
  (case hcd => k_is)
  (case hbind => first | exact bind_plain rfl | exact bind_dflt rfl (by k_is) rfl rfl rfl)
  (case hloc => exact locs rfl)
  (case c2 => exact rfl)
  (case c3 => exact rfl)
  (case c4 => exact rfl)
  (case c5 => decide)
  intro p loose mean mg mb dp un gd cn cs ca ccd cl outer base L g L1 h1 s tk B F X N T hdp hun hyp
  refine letA ?_
  intro A0
  (try dsimp only)
  (try k_fold)
  unfold cfbEs at N
  obtain ⟨dxa, ke, kd, ta1, ta2, nda, hax, hadx⟩ := hyp.inst
  have hfl := flat_len hl
  have hln : LenIs bl.flatten (16 * (bl.length : Int)) := ⟨by omega, by omega⟩
  have hmod : (16 * (bl.length : Int)).fmod 16 = 0 := by rw [Int.mul_fmod_right]
  (repeat' (first | (k_unfold; (try dsimp only)) | ((with_reducible show wpAny _ _ (exec _ _) _ _ _); (fail_if_success (fail_if_success k_fold)); refine foldQ ?_; intro q9) | ((with_reducible show wpAny _ _ (eval (Expr.BinOp _ _ _ _) _) _ _ _); (fail_if_success (fail_if_success k_fold)); refine foldQ ?_; intro q9) | ((with_reducible show wpAny _ _ (eval (Expr.Call _ _ _ _) _) _ _ _); (fail_if_success (fail_if_success k_fold)); refine foldQ ?_; intro q9) | ((with_reducible show wpAny _ _ (eval (Expr.Subscript _ _ _) _) _ _ _); (fail_if_success (fail_if_success k_fold)); refine foldQ ?_; intro q9)  | (k_here; (with_reducible show wpAny _ _ (call (Value.builtin _) [Value.bytes _ _]) _ _ _); k_dflt (refine len_bytesN (by tb_start) (by tb_start) (fun t' k' => ?_)); (try k_fold)) | (k_here; (with_reducible show wpAny _ _ (call (Value.ref 33) [Value.bytes _ _]) _ _ _); k_dflt ( refine' (str2b_spec _).read ?k1 ?k2 ?k3 ?k4 ?k5 ?k6 ?k15 ?k16 ?ky ?_; (case ky => exact fun _ _ => trivial); (case k1 | k2 | k3 | k4 | k5 => k_asm); (case k6 => first | exact rfl | assumption); (case k15 => ktr_room); (case k16 => ktr_units); intro v' h' k' F' N' hs' hv'; subst hv'; (clear hs'); (try k_fold))) | (k_end; wrow_close) | walk1 | (dsimp only; walk1) | (leave1; walk_say "STEP leave1"; try dsimp only) | fail "no step"))
  rename Fr _ _ _ _ => F1
  rename News _ _ _ _ => N1
  rename IsRange _ _ _ _ _ _ _ _ => hr
  refine krs_go (n := bl.length) (fun i m nw => CfbJ w.params x dx ax t1 t2 t3 t tb ks svs b bl i m nw)
    rfl hr (small_16 (by omega)) (rangeSize_16 _) F1 N1
    ⟨_, _, _, _, _, rfl, by omega, by omega, .nil, hsb, rfl, rfl, rfl, trivial⟩ (SubL.mem (by k_subL)) ?_ ?_
  · rintro i m nw I ti h tk hi ⟨lE, us, n, rb, tr, rfl, n1, n2, hus, hrb, hk⟩ hoI F2 N2
    first | replace F2 := hk.fr F2 | replace F2 := hk.frI F2
    clear hk
    have hI1 : (@Ne Nat lE I) := hoI _ List.mem_cons_self
    have hI2 : (@Ne Nat x I) := hoI _ (List.mem_cons_of_mem _ List.mem_cons_self)
    have hI3 : (@Ne Nat dx I) := hoI _ (List.mem_cons_of_mem _ (List.mem_cons_of_mem _ List.mem_cons_self))
    have hR := cfbAt_ok w.params ks hl hsv hso i (by omega)
    have hB := row_ok hl hi
    have hO : LenLe (cfbOut w.params ks svs bl i) 200 := by have := (cfbOut_len w.params ks hl hsv hso i (by omega)).1; unfold LenLe; omega
    have hC := flat_cut hl hi
    generalize hrT : cfbAt w.params ks svs bl i = rT at hrb hR
    have hA : cfbAt w.params ks svs bl (i + 1) = List.zipWith Builtin.bitXor (bl.getD i []) (enc w.params ks rT) := by rw [cfbAt, hrT]
    have hS := cfbOut_succ w.params ks svs bl i
    rw [hA] at hS
    have hRl := hR.1
    have hRo := hR.2
    have hBl : LenIs (bl.getD i []) 16 := ⟨by omega, by omega⟩
    have k1 : (0 : Int) ≤ 0 + (i : Int) * 16 := by omega
    have k2 : (0 : Int) ≤ 0 + (i : Int) * 16 + 16 := by omega
    have k3 : bl.flatten.length ≤ 100000 := by omega
    have hC2 : (bl.flatten.drop (0 + (i : Int) * 16).toNat).take (min (0 + (i : Int) * 16 + 16).toNat bl.flatten.length - (0 + (i : Int) * 16).toNat) = bl.getD i [] := by
      rw [← hC, show (0 + (i : Int) * 16).toNat = 16 * i by omega, show min (0 + (i : Int) * 16 + 16).toNat bl.flatten.length - 16 * i = 16 by omega]
    have hE1 : (enc w.params ks rT).length ≤ 100000 := by rw [enc_len]; decide
    have hE2 : (enc w.params ks rT).take (16 : Int).toNat = enc w.params ks rT := by rw [List.take_of_length_le]; rw [enc_len]; decide
    have hR2 : rT.drop (16 : Int).toNat = [] := List.drop_of_length_le (by rw [hRl]; decide)
    have hR3 : rT.length ≤ 100000 := by omega
    have hBo := hB.2
    have hZ1 : LenIs (List.zipWith Builtin.bitXor (bl.getD i []) (enc w.params ks rT)) 16 := ⟨by rw [List.length_zipWith, hB.1, enc_len]; rfl, by rw [List.length_zipWith, hB.1, enc_len]; decide⟩
    have hZ2 := xor_oct hB.2 (enc_oct w.params ks rT)
    unfold cfbEs at N2
    clear hr
    k_unmd
    k_fold
    (repeat' (first | (k_unfold; (try dsimp only)) | ((with_reducible show wpAny _ _ (exec _ _) _ _ _); (fail_if_success (fail_if_success k_fold)); refine foldQ ?_; intro q9) | ((with_reducible show wpAny _ _ (eval (Expr.BinOp _ _ _ _) _) _ _ _); (fail_if_success (fail_if_success k_fold)); refine foldQ ?_; intro q9) | ((with_reducible show wpAny _ _ (eval (Expr.Call _ _ _ _) _) _ _ _); (fail_if_success (fail_if_success k_fold)); refine foldQ ?_; intro q9) | ((with_reducible show wpAny _ _ (eval (Expr.Subscript _ _ _) _) _ _ _); (fail_if_success (fail_if_success k_fold)); refine foldQ ?_; intro q9)  | (k_here; (with_reducible show UnrEnd _ _ _ _ _ _ _); (refine Hold.mk ?_)) | (k_here; (with_reducible show wpAny _ _ (call (Value.builtin "list.extend") [Value.ref _, Value.ref _]) _ _ _); k_dflt (refine' extend_f ?k1 ?k2 ?k3 ?k4 ?k9 ?k5 ?k6 ?k7 ?k8 ?k10 ?_; (case k1 | k2 => k_asm); (case k3 | k4 => k_mem); (case k9 => k_updF); (case k5 | k6 | k7 | k8 => tb_start); (case k10 => decide); k_whole); intro us' h' F' N' hi'; (try dsimp only at N'); (try k_fold)) | (k_here; (with_reducible show wpAny _ _ (call (Value.ref 47) [Value.bytes _ _, Value.ref _]) _ _ _); k_dflt ( refine' concat_use ?k1 ?k2 ?k3 ?k4 ?k5 ?k6 ?k7 ?k8 ?k9 ?k10 ?k11 ?k15 ?k16 ?_; (case k1 | k2 | k3 | k4 | k5 => k_asm); (case k6 => first | exact rfl | assumption); (case k7 => tb_start); (case k8 => first | exact PVl.list (by k_mem) (by tb_start) | exact PVl.base (by tb_start) (by tb_start)); (case k9 | k10 => tb_start); (case k11 => first | exact rfl | tb_start); (case k15 => ktr_room); (case k16 => ktr_units); intro b' t' h' k' F' N' hb'; (try k_fold))) | (k_here; (with_reducible show wpAny _ _ (subscriptTail _ _ (Value.ref _) (Value.ref _)) _ _ _); k_dflt (refine' cut_upto ?k1 ?k2 ?k3 ?k4 ?k5 ?k6 ?k7 (fun D' us' h' k' F' N' lt' hi' => ?_) ?k8 ?k9; (case k1 | k2 => k_asm); (case k3 => k_mem); (case k4 => tb_start); (case k5 => first | tb_start | decide); (case k6 | k7 => tb_start); (case k8 => intro _ _; with_unfolding_all rfl); (case k9 => intro _ _; with_unfolding_all rfl)); (have h8 := lt'); (simp only [AllNe, and_true] at lt'); (try k_fold)) | (k_here; (with_reducible show wpAny _ _ (subscriptTail _ _ (Value.bytes _ _) (Value.ref _)) _ _ _); k_dflt (first | (refine' cut_bytes ?k1 ?k2 ?k3 ?k4 ?k5 ?k6 ?k7 (fun b' t' h' k' F' N' hb' => ?_) ?k8 ?k9; (case k1 | k2 => k_asm); (case k3 | k4 | k5 | k6 | k7 => tb_start); (case k8 => intro _ _; with_unfolding_all rfl); (case k9 => intro _ _ _; with_unfolding_all rfl)); | (refine' cut_from ?k1 ?k2 ?k3 ?k4 ?k5 ?k6 (fun b' t' h' k' F' N' hb' => ?_) ?k8 ?k9; (case k1 | k2 => k_asm); (case k3 => tb_start); (case k4 => first | tb_start | decide); (case k5 | k6 => tb_start); (case k8 => intro _ _; with_unfolding_all rfl); (case k9 => intro _ _ _; with_unfolding_all rfl))); (try k_fold)) | (k_here; (with_reducible show wpAny _ _ (call (Value.type "zip") [_, _]) _ _ _); k_dflt ( refine' zip_src ?k0 ?k1 ?k2 ?k3 ?k4 ?k5 ?k6 ?_; (case k0 => exact rfl); (case k1 | k2 => k_asm); (case k3 | k4 => first | exact PVl.bytes (by tb_start) | exact PVl.list (by k_mem) (by tb_start) | exact PVl.base (by tb_start) (by tb_start) | exact PVin.pl (by tb_start) | tb_start); (case k5 | k6 => first | tb_start | omega); intro g' ys' hys' D' h' tk' F' N' o1; (have h8 := o1); (simp only [LCg.Off1, and_true] at o1); (try k_fold))) | (k_here; (with_reducible show wpAny _ _ (exec (Stmt.Assign [Expr.Name _ _] (Expr.ListComp _ [⟨Expr.Tuple _ _ _, _, _, _⟩] _ _) _) _) _ _ _); k_dflt (refine Assign_ListComp_Z (by k_asm) (by rfl) (by with_unfolding_all rfl) (by with_unfolding_all rfl) (by decide) (by rfl) (by decide) (by rfl) (by rfl) (by decide) (by decide) (by decide) (by rfl) (by rfl) ?_)) | (k_here; (with_reducible show wpAny _ _ (call (Value.builtin _) [Value.ref _]) _ _ _); k_dflt (refine len_listN (by k_asm) (by k_mem) (by tb_start) (by tb_start) (fun t' k' => ?_)); (try k_fold)) | (k_here; (with_reducible show wpAny _ _ (call (Value.builtin _) [Value.bytes _ _]) _ _ _); k_dflt (refine len_bytesN (by tb_start) (by tb_start) (fun t' k' => ?_)); (try k_fold)) | (k_here; (with_reducible show wpAny _ _ (call (Value.ref 108) [_, _]) _ _ _); k_dflt ( refine' enc_use ?k1 ?k2 ?k3 ?k4 ?k5 ?k6 ?k7 ?k8 ?k9 ?k10 ?k11 ?k12 ?_; (case k1 | k2 | k3 | k4 | k5 => k_asm); (case k6 => first | exact rfl | assumption); (case k7 => first | exact AesAt.mono (by tb_start) (Fr.keep (by k_asm)) | exact AesL.at (by tb_start) (News.sub (by k_asm) (by lcg_sub))); (case k8 => first | exact PVl.bytes (by tb_start) | exact PVl.list (by k_mem) (by tb_start) | exact PVl.base (by tb_start) (by tb_start) | exact PVl.sub (by tb_start) (by lcg_sub)); (case k9 | k10 => tb_start); (case k11 => ktr_room); (case k12 => ktr_units); intro l' us' nn' h' tk' F' N' l1 hi' hl' ho'; (have h8 := l1); (simp only [AllNe, and_true] at l1); (try k_fold))) | (k_end; wrow_close) | walk1 | (dsimp only; walk1) | (leave1; walk_say "STEP leave1"; try dsimp only) | fail "no step"))
    unfold Hold
    refine unr_end (by k_asm) (by k_asm) ⟨lE, _, _, _, _, rfl, n1, n2, by rw [hS]; assumption, by rw [hA]; assumption, rfl, rfl, rfl, trivial⟩ (by k_mem) (by unfold cfbEs; exact SubL.mem (by k_subL)) (by exact off_same hoI rfl)
  · rintro m nw h3 tk3 ⟨lE, us, n, rb, tr, rfl, n1, n2, hus, hrb, hk⟩ F5 N5
    first | replace F5 := hk.fr F5 | replace F5 := hk.frI F5
    clear hk hr
    have hO := cfbOut_len w.params ks hl hsv hso bl.length (Nat.le_refl _)
    have hO1 : (cfbOut w.params ks svs bl bl.length).length ≤ 200 := by omega
    have hO2 := hO.2
    unfold cfbEs at N5
    (try k_unmd)
    (try k_fold)
    (repeat' (first | (k_unfold; (try dsimp only)) | ((with_reducible show wpAny _ _ (exec _ _) _ _ _); (fail_if_success (fail_if_success k_fold)); refine foldQ ?_; intro q9) | ((with_reducible show wpAny _ _ (eval (Expr.BinOp _ _ _ _) _) _ _ _); (fail_if_success (fail_if_success k_fold)); refine foldQ ?_; intro q9) | ((with_reducible show wpAny _ _ (eval (Expr.Call _ _ _ _) _) _ _ _); (fail_if_success (fail_if_success k_fold)); refine foldQ ?_; intro q9) | ((with_reducible show wpAny _ _ (eval (Expr.Subscript _ _ _) _) _ _ _); (fail_if_success (fail_if_success k_fold)); refine foldQ ?_; intro q9)  | (k_here; (with_reducible show wpAny _ _ (call (Value.ref 40) [Value.ref _]) _ _ _); k_dflt ( refine' b2str_use ?k1 ?k2 ?k3 ?k4 ?k5 ?k6 ?k7 ?k8 ?k9 ?k15 ?k16 ?_; (case k1 | k2 | k3 | k4 | k5 => k_asm); (case k6 => first | exact rfl | assumption); (case k7 => first | exact PVl.list (by k_mem) (by tb_start) | exact PVl.base (by tb_start) (by tb_start)); (case k8 => tb_start); (case k9 => first | tb_start | omega); (case k15 => ktr_room); (case k16 => ktr_units); intro b' t' h' k' F' N' hb'; (try k_fold))) | (k_end; wrow_close) | walk1 | (dsimp only; walk1) | (leave1; walk_say "STEP leave1"; try dsimp only) | fail "no step"))
    exact Ends.mk2 (by k_asm) (by k_asm) ⟨⟨_, _, rfl, by assumption⟩, rfl⟩ (fun _ h => nomatch h)
end
section
/-- the shift register ahead of block i -/
def cfdAt (sv : List Int) (bl : List (List Int)) : Nat → List Int
  | 0 => sv
  | i + 1 => bl.getD i []
noncomputable def cfdOut (P : Params) (ks : List (List Int)) (sv : List Int) (bl : List (List Int)) (n : Nat) : List Int := ((List.range n).map fun i => List.zipWith Builtin.bitXor (bl.getD i []) (enc P ks (cfdAt sv bl i))).flatten
theorem cfdAt_ok {sv : List Int} {bl : List (List Int)} (hl : ∀ r ∈ bl, r.length = 16 ∧ ∀ y ∈ r, OctOk y) (hs : sv.length = 16) (ho : ∀ y ∈ sv, OctOk y) : ∀ i, i ≤ bl.length → (cfdAt sv bl i).length = 16 ∧ ∀ y ∈ cfdAt sv bl i, OctOk y
  | 0, _ => ⟨hs, ho⟩
  | _ + 1, h => row_ok hl (Nat.lt_of_succ_le h)
theorem cfdOut_succ (P : Params) (ks : List (List Int)) (sv : List Int) (bl : List (List Int)) (n : Nat) : cfdOut P ks sv bl (n + 1) = cfdOut P ks sv bl n ++ List.zipWith Builtin.bitXor (bl.getD n []) (enc P ks (cfdAt sv bl n)) := by
  unfold cfdOut
  rw [List.range_succ, List.map_append, List.flatten_append]
  simp
theorem cfdOut_len (P : Params) (ks : List (List Int)) {sv : List Int} {bl : List (List Int)} (hl : ∀ r ∈ bl, r.length = 16 ∧ ∀ y ∈ r, OctOk y) (hs : sv.length = 16) (ho : ∀ y ∈ sv, OctOk y) : ∀ n, n ≤ bl.length → (cfdOut P ks sv bl n).length = 16 * n ∧ ∀ y ∈ cfdOut P ks sv bl n, OctOk y
  | 0, _ => ⟨rfl, fun y hy => by simp [cfdOut] at hy⟩
  | n + 1, h => by
    have ih := cfdOut_len P ks hl hs ho n (by omega)
    have h2 := row_ok hl (Nat.lt_of_succ_le h)
    rw [cfdOut_succ]
    refine ⟨by rw [List.length_append, ih.1, List.length_zipWith, h2.1, enc_len]; omega, fun y hy => ?_⟩
    rcases List.mem_append.mp hy with hy | hy
    · exact ih.2 y hy
    · exact xor_oct h2.2 (enc_oct _ _ _) y hy
inductive CfdJ (P : Params) (x dx ax : Addr) (t1 t2 t3 t tb : Tok) (ks : List (List Int)) (svs : List Int) (b : Array UInt8) (bl : List (List Int)) (i : Nat) (m : Str → Option Value) (nw : List (Addr × Obj)) : Prop
  | mk0 (lE : Addr) (us : List Value) (n : Nat) (rb : Array UInt8) (tr : Tok) (z1 : nw = [(lE, listOf us.toArray n), (x, instObj 375 dx), (dx, dictOf (cfbEs P t1 t2 t3 (.bytes rb tr) t ax) 3)]) (z2 : (@Ne Nat lE x)) (z3 : (@Ne Nat lE dx)) (z4 : IntsAre us (cfdOut P ks svs bl i)) (z5 : KBw.bInts rb = cfdAt svs bl i) (z6 : Keeps [(Str.ofString "decrypted", .ref lE), (Str.ofString "ciphertext", .bytes b tb), (Str.ofString "self", .ref x)] m) : CfdJ P x dx ax t1 t2 t3 t tb ks svs b bl i m nw
theorem cfbd_spec (w : World) {x dx ax : Addr} {t1 t2 t3 t tb ts : Tok} {ks : List (List Int)} {svs : List Int} {b sb : Array UInt8} {bl : List (List Int)} (hne : (@Ne Nat x dx)) (hb : KBw.bInts b = bl.flatten) (hl : ∀ r ∈ bl, r.length = 16 ∧ ∀ y ∈ r, OctOk y) (hn : bl.length ≤ 10) (hsb : KBw.bInts sb = svs) (hsv : svs.length = 16) (hso : ∀ y ∈ svs, OctOk y) :
    Spec w (.ref 372) [.ref x, .bytes b tb] (fun g => AesAt w g ax ks) [(x, instObj 375 dx), (dx, dictOf (cfbEs w.params t1 t2 t3 (.bytes sb ts) t ax) 3)] 3 24
      (fun v nw => IsB (cfdOut w.params ks svs bl bl.length) v ∧ nw = []) := by
  with_unfolding_all refine' spec_def ?ho ?hcd ?hbind ?hloc ?c2 ?c3 ?c4 ?c5 ?_
  (case ho => k_is)
  (case hcd => k_is)
  (case hbind => first | exact bind_plain rfl | exact bind_dflt rfl (by k_is) rfl rfl rfl)
  (case hloc => exact locs rfl)
  (case c2 => exact rfl)
  (case c3 => exact rfl)
  (case c4 => exact rfl)
  (case c5 => decide)
  intro p loose mean mg mb dp un gd cn cs ca ccd cl outer base L g L1 h1 s tk B F X N T hdp hun hyp
  refine letA ?_
  intro A0
  (try dsimp only)
  (try k_fold)
  unfold cfbEs at N
  obtain ⟨dxa, ke, kd, ta1, ta2, nda, hax, hadx⟩ := hyp.inst
  have hfl := flat_len hl
  have hln : LenIs bl.flatten (16 * (bl.length : Int)) := ⟨by omega, by omega⟩
  have hmod : (16 * (bl.length : Int)).fmod 16 = 0 := by rw [Int.mul_fmod_right]
  (repeat' (first | (k_unfold; (try dsimp only)) | ((with_reducible show wpAny _ _ (exec _ _) _ _ _); (fail_if_success (fail_if_success k_fold)); refine foldQ ?_; intro q9) | ((with_reducible show wpAny _ _ (eval (Expr.BinOp _ _ _ _) _) _ _ _); (fail_if_success (fail_if_success k_fold)); refine foldQ ?_; intro q9) | ((with_reducible show wpAny _ _ (eval (Expr.Call _ _ _ _) _) _ _ _); (fail_if_success (fail_if_success k_fold)); refine foldQ ?_; intro q9) | ((with_reducible show wpAny _ _ (eval (Expr.Subscript _ _ _) _) _ _ _); (fail_if_success (fail_if_success k_fold)); refine foldQ ?_; intro q9)  | (k_here; (with_reducible show wpAny _ _ (call (Value.builtin _) [Value.bytes _ _]) _ _ _); k_dflt (refine len_bytesN (by tb_start) (by tb_start) (fun t' k' => ?_)); (try k_fold)) | (k_here; (with_reducible show wpAny _ _ (call (Value.ref 33) [Value.bytes _ _]) _ _ _); k_dflt ( refine' (str2b_spec _).read ?k1 ?k2 ?k3 ?k4 ?k5 ?k6 ?k15 ?k16 ?ky ?_; (case ky => exact fun _ _ => trivial); (case k1 | k2 | k3 | k4 | k5 => k_asm); (case k6 => first | exact rfl | assumption); (case k15 => ktr_room); (case k16 => ktr_units); intro v' h' k' F' N' hs' hv'; subst hv'; (clear hs'); (try k_fold))) | (k_end; wrow_close) | walk1 | (dsimp only; walk1) | (leave1; walk_say "STEP leave1"; try dsimp only) | fail "no step"))
  rename Fr _ _ _ _ => F1
  rename News _ _ _ _ => N1
  rename IsRange _ _ _ _ _ _ _ _ => hr
  refine krs_go (n := bl.length) (fun i m nw => CfdJ w.params x dx ax t1 t2 t3 t tb ks svs b bl i m nw)
    rfl hr (small_16 (by omega)) (rangeSize_16 _) F1 N1
    ⟨_, _, _, _, _, rfl, by omega, by omega, .nil, hsb, rfl, rfl, rfl, trivial⟩ (SubL.mem (by k_subL)) ?_ ?_
  · rintro i m nw I ti h tk hi ⟨lE, us, n, rb, tr, rfl, n1, n2, hus, hrb, hk⟩ hoI F2 N2
    first | replace F2 := hk.fr F2 | replace F2 := hk.frI F2
    clear hk
    have hI1 : (@Ne Nat lE I) := hoI _ List.mem_cons_self
    have hI2 : (@Ne Nat x I) := hoI _ (List.mem_cons_of_mem _ List.mem_cons_self)
    have hI3 : (@Ne Nat dx I) := hoI _ (List.mem_cons_of_mem _ (List.mem_cons_of_mem _ List.mem_cons_self))
    have hR := cfdAt_ok hl hsv hso i (by omega)
    have hB := row_ok hl hi
    have hO : LenLe (cfdOut w.params ks svs bl i) 200 := by have := (cfdOut_len w.params ks hl hsv hso i (by omega)).1; unfold LenLe; omega
    have hC := flat_cut hl hi
    generalize hrT : cfdAt svs bl i = rT at hrb hR
    have hA : cfdAt svs bl (i + 1) = bl.getD i [] := rfl
    have hS : cfdOut w.params ks svs bl (i + 1) = cfdOut w.params ks svs bl i ++ List.zipWith Builtin.bitXor (bl.getD i []) (enc w.params ks rT) := by rw [cfdOut_succ, hrT]
    have hRl := hR.1
    have hRo := hR.2
    have hBl : LenIs (bl.getD i []) 16 := ⟨by omega, by omega⟩
    have k1 : (0 : Int) ≤ 0 + (i : Int) * 16 := by omega
    have k2 : (0 : Int) ≤ 0 + (i : Int) * 16 + 16 := by omega
    have k3 : bl.flatten.length ≤ 100000 := by omega
    have hC2 : (bl.flatten.drop (0 + (i : Int) * 16).toNat).take (min (0 + (i : Int) * 16 + 16).toNat bl.flatten.length - (0 + (i : Int) * 16).toNat) = bl.getD i [] := by
      rw [← hC, show (0 + (i : Int) * 16).toNat = 16 * i by omega, show min (0 + (i : Int) * 16 + 16).toNat bl.flatten.length - 16 * i = 16 by omega]
    have hE1 : (enc w.params ks rT).length ≤ 100000 := by rw [enc_len]; decide
    have hE2 : (enc w.params ks rT).take (16 : Int).toNat = enc w.params ks rT := by rw [List.take_of_length_le]; rw [enc_len]; decide
    have hR2 : rT.drop (16 : Int).toNat = [] := List.drop_of_length_le (by rw [hRl]; decide)
    have hR3 : rT.length ≤ 100000 := by omega
    have hBo := hB.2
    have hZ1 : LenIs (List.zipWith Builtin.bitXor (bl.getD i []) (enc w.params ks rT)) 16 := ⟨by rw [List.length_zipWith, hB.1, enc_len]; rfl, by rw [List.length_zipWith, hB.1, enc_len]; decide⟩
    have hZ2 := xor_oct hB.2 (enc_oct w.params ks rT)
    unfold cfbEs at N2
    clear hr
    k_unmd
    k_fold
    (repeat' (first | (k_unfold; (try dsimp only)) | ((with_reducible show wpAny _ _ (exec _ _) _ _ _); (fail_if_success (fail_if_success k_fold)); refine foldQ ?_; intro q9) | ((with_reducible show wpAny _ _ (eval (Expr.BinOp _ _ _ _) _) _ _ _); (fail_if_success (fail_if_success k_fold)); refine foldQ ?_; intro q9) | ((with_reducible show wpAny _ _ (eval (Expr.Call _ _ _ _) _) _ _ _); (fail_if_success (fail_if_success k_fold)); refine foldQ ?_; intro q9) | ((with_reducible show wpAny _ _ (eval (Expr.Subscript _ _ _) _) _ _ _); (fail_if_success (fail_if_success k_fold)); refine foldQ ?_; intro q9)  | (k_here; (with_reducible show wpAny _ _ (call (Value.ref 47) [Value.bytes _ _, Value.bytes _ _]) _ _ _); k_dflt ( refine' concatB_use ?k1 ?k2 ?k3 ?k4 ?k5 ?k6 ?k7 ?k8 ?k10 ?k11 ?k15 ?k16 ?_; (case k1 | k2 | k3 | k4 | k5 => k_asm); (case k6 => first | exact rfl | assumption); (case k7 | k8 | k10 => tb_start); (case k11 => first | exact rfl | tb_start); (case k15 => ktr_room); (case k16 => ktr_units); intro b' t' h' k' F' N' hb'; (try k_fold))) | (k_here; (with_reducible show UnrEnd _ _ _ _ _ _ _); (refine Hold.mk ?_)) | (k_here; (with_reducible show wpAny _ _ (call (Value.builtin "list.extend") [Value.ref _, Value.ref _]) _ _ _); k_dflt (refine' extend_f ?k1 ?k2 ?k3 ?k4 ?k9 ?k5 ?k6 ?k7 ?k8 ?k10 ?_; (case k1 | k2 => k_asm); (case k3 | k4 => k_mem); (case k9 => k_updF); (case k5 | k6 | k7 | k8 => tb_start); (case k10 => decide); k_whole); intro us' h' F' N' hi'; (try dsimp only at N'); (try k_fold)) | (k_here; (with_reducible show wpAny _ _ (subscriptTail _ _ (Value.ref _) (Value.ref _)) _ _ _); k_dflt (refine' cut_upto ?k1 ?k2 ?k3 ?k4 ?k5 ?k6 ?k7 (fun D' us' h' k' F' N' lt' hi' => ?_) ?k8 ?k9; (case k1 | k2 => k_asm); (case k3 => k_mem); (case k4 => tb_start); (case k5 => first | tb_start | decide); (case k6 | k7 => tb_start); (case k8 => intro _ _; with_unfolding_all rfl); (case k9 => intro _ _; with_unfolding_all rfl)); (have h8 := lt'); (simp only [AllNe, and_true] at lt'); (try k_fold)) | (k_here; (with_reducible show wpAny _ _ (subscriptTail _ _ (Value.bytes _ _) (Value.ref _)) _ _ _); k_dflt (first | (refine' cut_bytes ?k1 ?k2 ?k3 ?k4 ?k5 ?k6 ?k7 (fun b' t' h' k' F' N' hb' => ?_) ?k8 ?k9; (case k1 | k2 => k_asm); (case k3 | k4 | k5 | k6 | k7 => tb_start); (case k8 => intro _ _; with_unfolding_all rfl); (case k9 => intro _ _ _; with_unfolding_all rfl)); | (refine' cut_from ?k1 ?k2 ?k3 ?k4 ?k5 ?k6 (fun b' t' h' k' F' N' hb' => ?_) ?k8 ?k9; (case k1 | k2 => k_asm); (case k3 => tb_start); (case k4 => first | tb_start | decide); (case k5 | k6 => tb_start); (case k8 => intro _ _; with_unfolding_all rfl); (case k9 => intro _ _ _; with_unfolding_all rfl))); (try k_fold)) | (k_here; (with_reducible show wpAny _ _ (call (Value.type "zip") [_, _]) _ _ _); k_dflt ( refine' zip_src ?k0 ?k1 ?k2 ?k3 ?k4 ?k5 ?k6 ?_; (case k0 => exact rfl); (case k1 | k2 => k_asm); (case k3 | k4 => first | exact PVl.bytes (by tb_start) | exact PVl.list (by k_mem) (by tb_start) | exact PVl.base (by tb_start) (by tb_start) | exact PVin.pl (by tb_start) | tb_start); (case k5 | k6 => first | tb_start | omega); intro g' ys' hys' D' h' tk' F' N' o1; (have h8 := o1); (simp only [LCg.Off1, and_true] at o1); (try k_fold))) | (k_here; (with_reducible show wpAny _ _ (exec (Stmt.Assign [Expr.Name _ _] (Expr.ListComp _ [⟨Expr.Tuple _ _ _, _, _, _⟩] _ _) _) _) _ _ _); k_dflt (refine Assign_ListComp_Z (by k_asm) (by rfl) (by with_unfolding_all rfl) (by with_unfolding_all rfl) (by decide) (by rfl) (by decide) (by rfl) (by rfl) (by decide) (by decide) (by decide) (by rfl) (by rfl) ?_)) | (k_here; (with_reducible show wpAny _ _ (call (Value.builtin _) [Value.bytes _ _]) _ _ _); k_dflt (refine len_bytesN (by tb_start) (by tb_start) (fun t' k' => ?_)); (try k_fold)) | (k_here; (with_reducible show wpAny _ _ (call (Value.ref 108) [_, _]) _ _ _); k_dflt ( refine' enc_use ?k1 ?k2 ?k3 ?k4 ?k5 ?k6 ?k7 ?k8 ?k9 ?k10 ?k11 ?k12 ?_; (case k1 | k2 | k3 | k4 | k5 => k_asm); (case k6 => first | exact rfl | assumption); (case k7 => first | exact AesAt.mono (by tb_start) (Fr.keep (by k_asm)) | exact AesL.at (by tb_start) (News.sub (by k_asm) (by lcg_sub))); (case k8 => first | exact PVl.bytes (by tb_start) | exact PVl.list (by k_mem) (by tb_start) | exact PVl.base (by tb_start) (by tb_start) | exact PVl.sub (by tb_start) (by lcg_sub)); (case k9 | k10 => tb_start); (case k11 => ktr_room); (case k12 => ktr_units); intro l' us' nn' h' tk' F' N' l1 hi' hl' ho'; (have h8 := l1); (simp only [AllNe, and_true] at l1); (try k_fold))) | (k_end; wrow_close) | walk1 | (dsimp only; walk1) | (leave1; walk_say "STEP leave1"; try dsimp only) | fail "no step"))
    unfold Hold
    refine unr_end (by k_asm) (by k_asm) ⟨lE, _, _, _, _, rfl, n1, n2, by rw [hS]; assumption, by rw [hA]; assumption, rfl, rfl, rfl, trivial⟩ (by k_mem) (by unfold cfbEs; exact SubL.mem (by k_subL)) (by exact off_same hoI rfl)
  · rintro m nw h3 tk3 ⟨lE, us, n, rb, tr, rfl, n1, n2, hus, hrb, hk⟩ F5 N5
    first | replace F5 := hk.fr F5 | replace F5 := hk.frI F5
    clear hk hr
    have hO := cfdOut_len w.params ks hl hsv hso bl.length (Nat.le_refl _)
    have hO1 : (cfdOut w.params ks svs bl bl.length).length ≤ 200 := by omega
    have hO2 := hO.2
    unfold cfbEs at N5
    (try k_unmd)
    (try k_fold)
    (repeat' (first | (k_unfold; (try dsimp only)) | ((with_reducible show wpAny _ _ (exec _ _) _ _ _); (fail_if_success (fail_if_success k_fold)); refine foldQ ?_; intro q9) | ((with_reducible show wpAny _ _ (eval (Expr.BinOp _ _ _ _) _) _ _ _); (fail_if_success (fail_if_success k_fold)); refine foldQ ?_; intro q9) | ((with_reducible show wpAny _ _ (eval (Expr.Call _ _ _ _) _) _ _ _); (fail_if_success (fail_if_success k_fold)); refine foldQ ?_; intro q9) | ((with_reducible show wpAny _ _ (eval (Expr.Subscript _ _ _) _) _ _ _); (fail_if_success (fail_if_success k_fold)); refine foldQ ?_; intro q9)  | (k_here; (with_reducible show wpAny _ _ (call (Value.ref 40) [Value.ref _]) _ _ _); k_dflt ( refine' b2str_use ?k1 ?k2 ?k3 ?k4 ?k5 ?k6 ?k7 ?k8 ?k9 ?k15 ?k16 ?_; (case k1 | k2 | k3 | k4 | k5 => k_asm); (case k6 => first | exact rfl | assumption); (case k7 => first | exact PVl.list (by k_mem) (by tb_start) | exact PVl.base (by tb_start) (by tb_start)); (case k8 => tb_start); (case k9 => first | tb_start | omega); (case k15 => ktr_room); (case k16 => ktr_units); intro b' t' h' k' F' N' hb'; (try k_fold))) | (k_end; wrow_close) | walk1 | (dsimp only; walk1) | (leave1; walk_say "STEP leave1"; try dsimp only) | fail "no step"))
    exact Ends.mk2 (by k_asm) (by k_asm) ⟨⟨_, _, rfl, by assumption⟩, rfl⟩ (fun _ h => nomatch h)
end
section
def ofbEs (P : Params) (t1 t2 : Tok) (lv : Value) (lR : Addr) (t : Tok) (a : Addr) : List DictEntry := [⟨PyData.keyHash P (Str.ofString "_last_precipherblock"), .str (Str.ofString "_last_precipherblock") t1, lv⟩, ⟨PyData.keyHash P (Str.ofString "_remaining_block"), .str (Str.ofString "_remaining_block") t2, .ref lR⟩, ⟨PyData.keyHash P (Str.ofString "_aes"), .str (Str.ofString "_aes") t, .ref a⟩]
theorem ofb_blk (w : World) {x dx lR : Addr} {t1 t2 tb : Tok} {lv : Value} {b : Array UInt8} {key : List Int} (hne : (@Ne Nat x dx)) (hb : KBw.bInts b = key) (hkey : KeyOk key) :
    Spec w (.ref 169) [.ref x, .bytes b tb] (fun _ => True) [(x, instObj 409 dx), (dx, dictOf [⟨PyData.keyHash w.params (Str.ofString "_last_precipherblock"), .str (Str.ofString "_last_precipherblock") t1, lv⟩, ⟨PyData.keyHash w.params (Str.ofString "_remaining_block"), .str (Str.ofString "_remaining_block") t2, .ref lR⟩] 2)] 4 32 (ModeEnd w 409 x dx key (fun t a o => o = dictOf (ofbEs w.params t1 t2 lv lR t a) 3)) := by
  with_unfolding_all refine' spec_def ?ho ?hcd ?hbind ?hloc ?c2 ?c3 ?c4 ?c5 ?_
  (case ho => k_is)
  (case hcd => k_is)
  (case hbind => first | exact bind_plain rfl | exact bind_dflt rfl (by k_is) rfl rfl rfl)
  (case hloc => exact locs rfl)
  (case c2 => exact rfl)
  (case c3 => exact rfl)
  (case c4 => exact rfl)
  (case c5 => decide)
  intro p loose mean mg mb dp un gd cn cs ca ccd cl outer base L g L1 h1 s tk B F X N T hdp hun hyp
  refine letA ?_
  intro A0
  (try dsimp only)
  (try k_fold)
  (repeat' (first | (k_unfold; (try dsimp only)) | ((with_reducible show wpAny _ _ (exec _ _) _ _ _); (fail_if_success (fail_if_success k_fold)); refine foldQ ?_; intro q9) | ((with_reducible show wpAny _ _ (eval (Expr.Call _ _ _ _) _) _ _ _); (fail_if_success (fail_if_success k_fold)); refine foldQ ?_; intro q9) | ((with_reducible show wpAny _ _ (eval (Expr.Subscript _ _ _) _) _ _ _); (fail_if_success (fail_if_success k_fold)); refine foldQ ?_; intro q9)  | (k_here; (with_reducible show wpAny _ _ (call (Value.ref 116) [_]) _ _ _); k_dflt ( refine' aes_use ?k1 ?k2 ?k3 ?k4 ?k5 ?k6 ?k7 ?k8 ?k9 ?k10 ?_; (case k1 | k2 | k3 | k4 | k5 => k_asm); (case k6 => first | exact rfl | assumption); (case k7 | k8 => tb_start); (case k9 => ktr_room); (case k10 => ktr_units); intro x' tl' h' tk' F' N' l1 hA'; (simp only [List.cons_append, List.nil_append] at N'); (simp only [AllNeT, and_true] at l1); (repeat (first | (refine an8 l1 ?_; clear l1; intro hne' hne' hne' hne' hne' hne' hne' l1) | (refine an4 l1 ?_; clear l1; intro hne' hne' hne' l1) | (refine an2 l1 ?_; clear l1; intro hne' l1))); (try k_fold))) | (k_end; wrow_close) | walk1 | (dsimp only; walk1) | (leave1; walk_say "STEP leave1"; try dsimp only) | fail "no step"))
  exact Ends.mk2 (by k_asm) (by k_asm) ⟨rfl, _, _, _, _, rfl, rfl, by assumption, by assumption, by assumption⟩ (by lcg_sub)
def OfbEnd (w : World) (x dx : Addr) (key : List Int) (lv : Value) (v : Value) (nw : List (Addr × Obj)) : Prop :=
  v = .none ∧ ∃ tl t1 t2 t a lR n, nw = (x, instObj 409 dx) :: (dx, dictOf (ofbEs w.params t1 t2 lv lR t a) 3) :: (lR, listOf (List.toArray []) n) :: tl ∧ AesL w.params tl a (expand w.params key) ∧ AllNe x tl ∧ AllNe dx tl ∧ AllNe lR tl ∧ (@Ne Nat lR x) ∧ (@Ne Nat lR dx)
theorem ofb_init (w : World) {x dx : Addr} {tb ti : Tok} {b iv : Array UInt8} {key ivs : List Int} (hne : (@Ne Nat x dx)) (hb : KBw.bInts b = key) (hkey : KeyOk key) (hi : KBw.bInts iv = ivs) (hil : ivs.length = 16) :
    Spec w (.ref 392) [.ref x, .bytes b tb, .bytes iv ti] (fun _ => True) [(x, instObj 409 dx), (dx, dictOf [] 0)] 5 40 (OfbEnd w x dx key (.bytes iv ti)) := by
  with_unfolding_all refine' spec_def ?ho ?hcd ?hbind ?hloc ?c2 ?c3 ?c4 ?c5 ?_
  (case ho => k_is)
  (case hcd => k_is)
  (case hbind => first | exact bind_plain rfl | exact bind_dflt rfl (by k_is) rfl rfl rfl)
  (case hloc => exact locs rfl)
  (case c2 => exact rfl)
  (case c3 => exact rfl)
  (case c4 => exact rfl)
  (case c5 => decide)
  intro p loose mean mg mb dp un gd cn cs ca ccd cl outer base L g L1 h1 s tk B F X N T hdp hun hyp
  refine letA ?_
  intro A0
  (try dsimp only)
  (try k_fold)
  have hln : LenIs ivs 16 := ⟨by omega, by omega⟩
  (repeat' (first | (k_unfold; (try dsimp only)) | ((with_reducible show wpAny _ _ (exec _ _) _ _ _); (fail_if_success (fail_if_success k_fold)); refine foldQ ?_; intro q9) | ((with_reducible show wpAny _ _ (eval (Expr.Call _ _ _ _) _) _ _ _); (fail_if_success (fail_if_success k_fold)); refine foldQ ?_; intro q9) | ((with_reducible show wpAny _ _ (eval (Expr.Subscript _ _ _) _) _ _ _); (fail_if_success (fail_if_success k_fold)); refine foldQ ?_; intro q9)  | (k_here; (with_reducible show wpAny _ _ (call (Value.ref 169) [Value.ref _, Value.bytes _ _]) _ _ _); k_dflt ( refine' mode_use (ofb_blk _ (by first | tb_start | omega) (by tb_start) (by tb_start)) ?k1 ?k2 ?k3 ?k4 ?k5 ?k6 ?k7 ?k8 ?k9 ?k10 ?_; (case k1 | k2 | k3 | k4 | k5 => k_asm); (case k6 => first | exact rfl | assumption); (case k7 => k_mem); (case k8 => (intro o1; k_upd)); (case k9 => ktr_room); (case k10 => ktr_units); intro tl' t' a' ds' h' tk' F' N' l1 he' hA'; subst he'; (simp only [List.cons_append, List.nil_append] at N'); (simp only [AllNeT, and_true] at l1); (repeat (first | (refine an8 l1 ?_; clear l1; intro hne' hne' hne' hne' hne' hne' hne' l1) | (refine an4 l1 ?_; clear l1; intro hne' hne' hne' l1) | (refine an2 l1 ?_; clear l1; intro hne' l1))); (try k_fold))) | (k_here; (with_reducible show wpAny _ _ (call (Value.builtin _) [Value.bytes _ _]) _ _ _); k_dflt (refine len_bytesN (by tb_start) (by tb_start) (fun t' k' => ?_)); (try k_fold)) | (k_here; (with_reducible show wpAny _ _ (call (Value.ref 33) [Value.bytes _ _]) _ _ _); k_dflt ( refine' (str2b_spec _).read ?k1 ?k2 ?k3 ?k4 ?k5 ?k6 ?k15 ?k16 ?ky ?_; (case ky => exact fun _ _ => trivial); (case k1 | k2 | k3 | k4 | k5 => k_asm); (case k6 => first | exact rfl | assumption); (case k15 => ktr_room); (case k16 => ktr_units); intro v' h' k' F' N' hs' hv'; subst hv'; (clear hs'); (try k_fold))) | (k_end; wrow_close) | walk1 | (dsimp only; walk1) | (leave1; walk_say "STEP leave1"; try dsimp only) | fail "no step"))
  rename_i q3
  exact Ends.mk2 (by k_asm) (by k_asm) ⟨rfl, _, _, _, _, _, _, _, rfl, by assumption, hne', l1, q3, by omega, by omega⟩ (by unfold ofbEs; lcg_sub)
end
section
noncomputable def ecbIt (P : Params) (ks : List (List Int)) (first : List Int) : Nat → List Int
  | 0 => first
  | n + 1 => enc P ks (ecbIt P ks first n)
theorem ecbIt_ok (P : Params) (ks : List (List Int)) {first : List Int} (hl : first.length = 16) (ho : ∀ y ∈ first, OctOk y) : ∀ n, (ecbIt P ks first n).length = 16 ∧ ∀ y ∈ ecbIt P ks first n, OctOk y
  | 0 => ⟨hl, ho⟩
  | _ + 1 => ⟨enc_len _ _ _, enc_oct _ _ _⟩
noncomputable def ofbOut (P : Params) (ks : List (List Int)) (first ns : List Int) (n : Nat) : List Int := (List.range n).map fun k => Builtin.bitXor (ns.getD k 0) ((ecbIt P ks first (k / 16 + 1)).getD (k % 16) 0)
theorem ofbOut_succ (P : Params) (ks : List (List Int)) (first ns : List Int) {q r : Nat} (hr : r < 16) : ofbOut P ks first ns (16 * q + r + 1) = ofbOut P ks first ns (16 * q + r) ++ [Builtin.bitXor (ns.getD (16 * q + r) 0) ((ecbIt P ks first (q + 1)).getD r 0)] := by
  unfold ofbOut
  rw [List.range_succ, List.map_append, List.map_cons, List.map_nil, show (16 * q + r) / 16 = q by omega, show (16 * q + r) % 16 = r by omega]
theorem ofbOut_oct (P : Params) (ks : List (List Int)) {first ns : List Int} (ho : ∀ y ∈ ns, OctOk y) (n : Nat) : ∀ y ∈ ofbOut P ks first ns n, OctOk y := by
  intro y hy
  obtain ⟨k, _, rfl⟩ := List.mem_map.mp hy
  exact xor_oct1 (oct_getD ho _) (oct_getD (enc_oct _ _ _) _)
theorem drop_head {O : List Int} {r : Nat} (h : r < O.length) : O.drop r = O.getD r 0 :: O.drop (r + 1) := by
  rw [List.drop_eq_getElem_cons h, List.getD_eq_getElem?_getD, List.getElem?_eq_getElem h]; rfl
theorem take_snoc {O : List Int} {r : Nat} (h : r < O.length) : O.take r ++ [O.getD r 0] = O.take (r + 1) := by
  rw [List.take_succ, List.getD_eq_getElem?_getD, List.getElem?_eq_getElem h]; rfl
/-- the ledger of OFB.encrypt's loop ahead of the turn i -/
inductive OfbJ (w : World) (h₀ : Heap) (x dx ax : Addr) (t1 t2 t : Tok) (b : Array UInt8) (tb : Tok) (ks : List (List Int)) (first ns : List Int) (i : Nat) (m : Str → Option Value) (nw : List (Addr × Obj)) : Prop
  | mk0 (q r : Nat) (lE lR : Addr) (usE usR : List Value) (nE nR : Nat) (lv : Value) (tl : List (Addr × Obj)) (z1 : i = 16 * q + r) (z2 : r < 16) (z3 : nw = (lE, listOf usE.toArray nE) :: (lR, listOf usR.toArray nR) :: (x, instObj 409 dx) :: (dx, dictOf (ofbEs w.params t1 t2 lv lR t ax) 3) :: tl) (z4 : ((@Ne Nat lE x) ∧ (@Ne Nat lE dx) ∧ (@Ne Nat lR x) ∧ (@Ne Nat lR dx) ∧ (@Ne Nat lE lR))) (z5 : IntsAre usE (ofbOut w.params ks first ns i)) (z6 : ((r = 0 ∧ IntsAre usR [] ∧ PVl h₀ tl lv (ecbIt w.params ks first q) ∧ AllNe lE tl ∧ AllNe lR tl ∧ AllNe x tl ∧ AllNe dx tl) ∨
     (0 < r ∧ IntsAre usR ((ecbIt w.params ks first (q + 1)).drop r) ∧ ∃ lP usP nP, tl = [(lP, listOf (List.toArray usP) nP)] ∧ lv = .ref lP ∧ IntsAre usP ((ecbIt w.params ks first (q + 1)).take r) ∧ (@Ne Nat lP lE) ∧ (@Ne Nat lP lR) ∧ (@Ne Nat lP x) ∧ (@Ne Nat lP dx)))) (z7 : Keeps [(Str.ofString "encrypted", .ref lE), (Str.ofString "self", .ref x)] m) : OfbJ w h₀ x dx ax t1 t2 t b tb ks first ns i m nw
theorem ofbe_spec (w : World) {x dx ax lR : Addr} {t1 t2 t tb ts : Tok} {nR : Nat} {ks : List (List Int)} {first ns : List Int} {b sb : Array UInt8} (hne : (@Ne Nat x dx)) (hneR : (@Ne Nat lR x)) (hneR2 : (@Ne Nat lR dx)) (hb : KBw.bInts b = ns) (ho : ∀ y ∈ ns, OctOk y) (hl : ns.length ≤ 160) (hsb : KBw.bInts sb = first) (hsv : first.length = 16) (hso : ∀ y ∈ first, OctOk y) :
    Spec w (.ref 399) [.ref x, .bytes b tb] (fun g => AesAt w g ax ks) [(x, instObj 409 dx), (dx, dictOf (ofbEs w.params t1 t2 (.bytes sb ts) lR t ax) 3), (lR, listOf (List.toArray []) nR)] 3 24
      (fun v nw => IsB (ofbOut w.params ks first ns ns.length) v ∧ nw = []) := by
  with_unfolding_all refine' spec_def ?ho ?hcd ?hbind ?hloc ?c2 ?c3 ?c4 ?c5 ?_
  (case ho => k_is)
  (case hcd => k_is)
  (case hbind => first | exact bind_plain rfl | exact bind_dflt rfl (by k_is) rfl rfl rfl)
  (case hloc => exact locs rfl)
  (case c2 => exact rfl)
  (case c3 => exact rfl)
  (case c4 => exact rfl)
  (case c5 => decide)
  intro p loose mean mg mb dp un gd cn cs ca ccd cl outer base L g L1 h1 s tk B F X N T hdp hun hyp
  refine letA ?_
  intro A0
  (try dsimp only)
  (try k_fold)
  unfold ofbEs at N
  obtain ⟨dxa, ke, kd, ta1, ta2, nda, hax, hadx⟩ := hyp.inst
  (repeat' (first | (k_unfold; (try dsimp only))  | (k_here; (with_reducible show wpAny _ _ (call (Value.ref 33) [Value.bytes _ _]) _ _ _); k_dflt ( refine' (str2b_spec _).read ?k1 ?k2 ?k3 ?k4 ?k5 ?k6 ?k15 ?k16 ?ky ?_; (case ky => exact fun _ _ => trivial); (case k1 | k2 | k3 | k4 | k5 => k_asm); (case k6 => first | exact rfl | assumption); (case k15 => ktr_room); (case k16 => ktr_units); intro v' h' k' F' N' hs' hv'; subst hv'; (clear hs'); (try k_fold))) | (k_end; wrow_close) | walk1 | (dsimp only; walk1) | (leave1; walk_say "STEP leave1"; try dsimp only) | fail "no step"))
  rename Fr _ _ _ _ => F1
  rename News _ _ _ _ => N1
  refine kbs_go (fun i m nw => OfbJ w g x dx ax t1 t2 t b tb ks first ns i m nw) rfl hb F1 N1
    ⟨0, 0, _, lR, [], [], _, _, _, [], rfl, by decide, rfl, ⟨by omega, by omega, by omega, by omega, by omega⟩, .nil, .inl ⟨rfl, .nil, .bytes hsb, trivial, trivial, trivial, trivial⟩, rfl, rfl, trivial⟩ (SubL.mem (by k_subL)) ?_ ?_
  · rintro i m nw I it u h tk hi ⟨q, r, lE, lR, usE, usR, nE, nR, lv, tl, he, hr, rfl, ⟨n1, n2, n3, n4, n5⟩, hus, hD, hk⟩ hoI F2 N2
    first | replace F2 := hk.fr F2 | replace F2 := hk.frI F2
    clear hk
    have hI1 : (@Ne Nat lE I) := hoI _ List.mem_cons_self
    have hI4 : (@Ne Nat lR I) := hoI _ (List.mem_cons_of_mem _ List.mem_cons_self)
    have hI2 : (@Ne Nat x I) := hoI _ (List.mem_cons_of_mem _ (List.mem_cons_of_mem _ List.mem_cons_self))
    have hI3 : (@Ne Nat dx I) := hoI _ (List.mem_cons_of_mem _ (List.mem_cons_of_mem _ (List.mem_cons_of_mem _ List.mem_cons_self)))
    have hO1 := ecbIt_ok w.params ks hsv hso (q + 1)
    have hO : LenLe (ofbOut w.params ks first ns i) 160 := by unfold LenLe ofbOut; rw [List.length_map, List.length_range]; omega
    have hS := ofbOut_succ w.params ks first ns (q := q) hr
    have hd := drop_head (O := ecbIt w.params ks first (q + 1)) (r := r) (by omega)
    have ht := take_snoc (O := ecbIt w.params ks first (q + 1)) (r := r) (by omega)
    have hL : LenLe ((ecbIt w.params ks first (q + 1)).drop (r + 1)) 16 := by unfold LenLe; rw [List.length_drop]; omega
    rw [← he] at hS
    unfold ofbEs at N2
    k_unmd
    k_fold
    rcases hD with ⟨rfl, hR, hP, o1, o2, o3, o4⟩ | ⟨hr0, hR, lP, usP, nP, rfl, rfl, hPi, p1, p2, p3, p4⟩
    · have hO0 := ecbIt_ok w.params ks hsv hso q
      have hOl := hO0.1
      have hOo := hO0.2
      have oI := fun p hp => hoI p (List.mem_cons_of_mem _ (List.mem_cons_of_mem _ (List.mem_cons_of_mem _ (List.mem_cons_of_mem _ hp))))
      have oI2 := allNe_of oI
      have hnil : IntsAre [] [] := .nil
      have hl0 : LenLe ([] : List Int) 16 := by unfold LenLe; decide
      have hz : LenIs ([] : List Int) 0 := ⟨rfl, by decide⟩
      have hd2 : enc w.params ks (ecbIt w.params ks first q) = (ecbIt w.params ks first (q + 1)).getD 0 0 :: (ecbIt w.params ks first (q + 1)).drop (0 + 1) := hd
      clear oI
      (repeat' (first | (k_unfold; (try dsimp only))  | (k_here; (with_reducible show UnrEnd _ _ _ _ _ _ _); (refine Hold.mk ?_)) | (k_here; (with_reducible show wpAny _ _ (call (Value.builtin "list.pop") [Value.ref _, Value.int _ _]) _ _ _); k_dflt (refine' pop0_f ?k1 ?k2 ?k3 ?k9 ?k5 ?k6 ?k7 ?k10 ?_; (case k1 | k2 => k_asm); (case k3 => k_mem); (case k9 => k_updF); (case k5 | k6 | k7 => tb_start); (case k10 => decide); k_whole); intro us' t' h' F' N' hi'; (try dsimp only at N'); (try k_fold)) | (k_here; (with_reducible show wpAny _ _ (call (Value.builtin "list.append") [Value.ref _, Value.int _ _]) _ _ _); k_dflt (refine' append_f ?k1 ?k2 ?k3 ?k9 ?k5 ?k7 ?k10 ?_; (case k1 | k2 => k_asm); (case k3 => k_mem); (case k9 => k_updF); (case k5 | k7 => tb_start); (case k10 => decide); k_whole); intro us' h' F' N' hi'; (try dsimp only at N'); (try k_fold)) | (k_here; (with_reducible show wpAny _ _ (call (Value.builtin _) [Value.ref _]) _ _ _); k_dflt (refine len_listN (by k_asm) (by k_mem) (by tb_start) (by tb_start) (fun t' k' => ?_)); (try k_fold)) | (k_here; (with_reducible show wpAny _ _ (call (Value.ref 108) [_, _]) _ _ _); k_dflt ( refine' enc_use ?k1 ?k2 ?k3 ?k4 ?k5 ?k6 ?k7 ?k8 ?k9 ?k10 ?k11 ?k12 ?_; (case k1 | k2 | k3 | k4 | k5 => k_asm); (case k6 => first | exact rfl | assumption); (case k7 => first | exact AesAt.mono (by tb_start) (Fr.keep (by k_asm)) | exact AesL.at (by tb_start) (News.sub (by k_asm) (by lcg_sub))); (case k8 => first | exact PVl.bytes (by tb_start) | exact PVl.list (by k_mem) (by tb_start) | exact PVl.base (by tb_start) (by tb_start) | exact PVl.sub (by tb_start) (by lcg_sub)); (case k9 | k10 => tb_start); (case k11 => ktr_room); (case k12 => ktr_units); intro l' us' nn' h' tk' F' N' l1 hi' hl' ho'; (have h8 := l1); (simp only [AllNe, and_true] at l1); (repeat (first | (refine an8 l1 ?_; clear l1; intro hne' hne' hne' hne' hne' hne' hne' l1) | (refine an4 l1 ?_; clear l1; intro hne' hne' hne' l1) | (refine an2 l1 ?_; clear l1; intro hne' l1))); (try k_fold))) | (k_end; wrow_close) | walk1 | (dsimp only; walk1) | (leave1; walk_say "STEP leave1"; try dsimp only) | fail "no step"))
      rename_i lP _ _ _ _ _ usR' _ hRr _ _ usP' _ hPp _ _ _ _
      unfold Hold
      refine unr_end (by k_asm) (by k_asm) ⟨q, 0 + 1, lE, l', _, usR', _, _, .ref lP, [(lP, listOf (List.toArray usP') _)], by omega, by decide, rfl, ⟨n1, n2, by omega, by omega, by omega⟩, by rw [hS]; assumption,
        .inr ⟨by decide, hRr, lP, usP', _, rfl, rfl, ht ▸ hPp, by omega, by omega, by omega, by omega⟩, rfl, rfl, trivial⟩ (by k_mem) (by unfold ofbEs; exact SubL.mem (by k_subL)) (AllNe.out (by exact ⟨hI1, by omega, hI2, hI3, by omega, trivial⟩))
    · have hz : LenIs ((ecbIt w.params ks first (q + 1)).drop r) (16 - (r : Int)) := ⟨by rw [List.length_drop]; omega, by rw [List.length_drop]; omega⟩
      have hz2 : LenLe ((ecbIt w.params ks first (q + 1)).take r) 16 := by unfold LenLe; rw [List.length_take]; omega
      have hpI : (@Ne Nat lP I) := hoI _ (List.mem_cons_of_mem _ (List.mem_cons_of_mem _ (List.mem_cons_of_mem _ (List.mem_cons_of_mem _ List.mem_cons_self))))
      (repeat' (first | (k_unfold; (try dsimp only))  | (k_here; (with_reducible show UnrEnd _ _ _ _ _ _ _); (refine Hold.mk ?_)) | (k_here; (with_reducible show wpAny _ _ (call (Value.builtin "list.pop") [Value.ref _, Value.int _ _]) _ _ _); k_dflt (refine' pop0_f ?k1 ?k2 ?k3 ?k9 ?k5 ?k6 ?k7 ?k10 ?_; (case k1 | k2 => k_asm); (case k3 => k_mem); (case k9 => k_updF); (case k5 | k6 | k7 => tb_start); (case k10 => decide); k_whole); intro us' t' h' F' N' hi'; (try dsimp only at N'); (try k_fold)) | (k_here; (with_reducible show wpAny _ _ (call (Value.builtin "list.append") [Value.ref _, Value.int _ _]) _ _ _); k_dflt (refine' append_f ?k1 ?k2 ?k3 ?k9 ?k5 ?k7 ?k10 ?_; (case k1 | k2 => k_asm); (case k3 => k_mem); (case k9 => k_updF); (case k5 | k7 => tb_start); (case k10 => decide); k_whole); intro us' h' F' N' hi'; (try dsimp only at N'); (try k_fold)) | (k_here; (with_reducible show wpAny _ _ (call (Value.builtin _) [Value.ref _]) _ _ _); k_dflt (refine len_listN (by k_asm) (by k_mem) (by tb_start) (by tb_start) (fun t' k' => ?_)); (try k_fold)) | (k_end; wrow_close) | walk1 | (dsimp only; walk1) | (leave1; walk_say "STEP leave1"; try dsimp only) | fail "no step"))
      unfold Hold
      rename_i usR' _ _ _ hRr _ _ usP' _ hPp _ _ _ _
      by_cases hr1 : r + 1 < 16
      · refine unr_end (by k_asm) (by k_asm) ⟨q, r + 1, lE, lR, _, usR', _, _, .ref lP, [(lP, listOf (List.toArray usP') _)], by omega, hr1, rfl, ⟨n1, n2, n3, n4, n5⟩, by rw [hS]; assumption,
          .inr ⟨by omega, hRr, lP, usP', _, rfl, rfl, ht ▸ hPp, p1, p2, p3, p4⟩, rfl, rfl, trivial⟩ (by k_mem) (by unfold ofbEs; exact SubL.mem (by k_subL)) (AllNe.out (by exact ⟨hI1, hI4, hI2, hI3, hpI, trivial⟩))
      · rw [List.drop_of_length_le (by omega)] at hRr
        rw [ht, List.take_of_length_le (by omega)] at hPp
        refine unr_end (by k_asm) (by k_asm) ⟨q + 1, 0, lE, lR, _, usR', _, _, .ref lP, [(lP, listOf (List.toArray usP') _)], by omega, by decide, rfl, ⟨n1, n2, n3, n4, n5⟩, by rw [hS]; assumption,
          .inl ⟨rfl, hRr, .list List.mem_cons_self hPp, ⟨p1, trivial⟩, ⟨p2, trivial⟩, ⟨p3, trivial⟩, ⟨p4, trivial⟩⟩, rfl, rfl, trivial⟩ (by k_mem) (by unfold ofbEs; exact SubL.mem (by k_subL)) (AllNe.out (by exact ⟨hI1, hI4, hI2, hI3, hpI, trivial⟩))
  · rintro m nw h3 tk3 ⟨q, r, lE, lR, usE, usR, nE, nR, lv, tl, he, hr, rfl, ⟨n1, n2, n3, n4, n5⟩, hus, _, hk⟩ F5 N5
    first | replace F5 := hk.fr F5 | replace F5 := hk.frI F5
    clear hk
    have hO2 := ofbOut_oct w.params ks (first := first) ho ns.length
    have hO1 : (ofbOut w.params ks first ns ns.length).length ≤ 200 := by unfold ofbOut; rw [List.length_map, List.length_range]; omega
    unfold ofbEs at N5
    (try k_unmd)
    (try k_fold)
    (repeat' (first | (k_unfold; (try dsimp only))  | (k_here; (with_reducible show wpAny _ _ (call (Value.ref 40) [Value.ref _]) _ _ _); k_dflt ( refine' b2str_use ?k1 ?k2 ?k3 ?k4 ?k5 ?k6 ?k7 ?k8 ?k9 ?k15 ?k16 ?_; (case k1 | k2 | k3 | k4 | k5 => k_asm); (case k6 => first | exact rfl | assumption); (case k7 => first | exact PVl.list (by k_mem) (by tb_start) | exact PVl.base (by tb_start) (by tb_start)); (case k8 => tb_start); (case k9 => first | tb_start | omega); (case k15 => ktr_room); (case k16 => ktr_units); intro b' t' h' k' F' N' hb'; (try k_fold))) | (k_end; wrow_close) | walk1 | (dsimp only; walk1) | (leave1; walk_say "STEP leave1"; try dsimp only) | fail "no step"))
    exact Ends.mk2 (by k_asm) (by k_asm) ⟨⟨_, _, rfl, by assumption⟩, rfl⟩ (fun _ h => nomatch h)
end
section
theorem ofbd_spec (w : World) {x dx ax lR : Addr} {t1 t2 t tb ts : Tok} {nR : Nat} {ks : List (List Int)} {first ns : List Int} {b sb : Array UInt8} (hne : (@Ne Nat x dx)) (hneR : (@Ne Nat lR x)) (hneR2 : (@Ne Nat lR dx)) (hb : KBw.bInts b = ns) (ho : ∀ y ∈ ns, OctOk y) (hl : ns.length ≤ 160) (hsb : KBw.bInts sb = first) (hsv : first.length = 16) (hso : ∀ y ∈ first, OctOk y) :
    Spec w (.ref 406) [.ref x, .bytes b tb] (fun g => AesAt w g ax ks) [(x, instObj 409 dx), (dx, dictOf (ofbEs w.params t1 t2 (.bytes sb ts) lR t ax) 3), (lR, listOf (List.toArray []) nR)] 4 32
      (fun v nw => IsB (ofbOut w.params ks first ns ns.length) v ∧ nw = []) := by
  with_unfolding_all refine' spec_def ?ho ?hcd ?hbind ?hloc ?c2 ?c3 ?c4 ?c5 ?_
  (case ho => k_is)
  (case hcd => k_is)
  (case hbind => first | exact bind_plain rfl | exact bind_dflt rfl (by k_is) rfl rfl rfl)
  (case hloc => exact locs rfl)
  (case c2 => exact rfl)
  (case c3 => exact rfl)
  (case c4 => exact rfl)
  (case c5 => decide)
  intro p loose mean mg mb dp un gd cn cs ca ccd cl outer base L g L1 h1 s tk B F X N T hdp hun hyp
  refine letA ?_
  intro A0
  (try dsimp only)
  (try k_fold)
  unfold ofbEs at N
  (repeat' (first | (k_unfold; (try dsimp only)) | ((with_reducible show wpAny _ _ (exec _ _) _ _ _); (fail_if_success (fail_if_success k_fold)); refine foldQ ?_; intro q9) | ((with_reducible show wpAny _ _ (eval (Expr.Call _ _ _ _) _) _ _ _); (fail_if_success (fail_if_success k_fold)); refine foldQ ?_; intro q9) | ((with_reducible show wpAny _ _ (eval (Expr.Subscript _ _ _) _) _ _ _); (fail_if_success (fail_if_success k_fold)); refine foldQ ?_; intro q9)  | (k_here; (with_reducible show wpAny _ _ (call (Value.ref 399) [Value.ref _, Value.bytes _ _]) _ _ _); k_dflt ( refine' spec_last (rest := []) (ofbe_spec w hne hneR hneR2 hb ho hl hsb hsv hso) ?k1 ?k2 ?k3 ?k4 ?k5 ?k6 ?k7 ?k8 ?k9 ?k10 ?k11 ?_; (case k1 | k2 | k3 | k4 | k5 => k_asm); (case k6 => first | exact rfl | assumption); (case k7 => (unfold ofbEs; lcg_sub)); (case k8 => exact fun g' K' => AesAt.mono (by tb_start) (base_keep (by k_asm) (News.sub (by k_asm) (by unfold ofbEs; lcg_sub)) K')); (case k9 => exact fun _ h => nomatch h); (case k10 => ktr_room); (case k11 => ktr_units); rintro v' h' tk' F' N' ⟨b', t', hv', hb'⟩; subst hv'; (try k_fold))) | (k_end; wrow_close) | walk1 | (dsimp only; walk1) | (leave1; walk_say "STEP leave1"; try dsimp only) | fail "no step"))
  exact Ends.mk2 (by k_asm) (by k_asm) ⟨⟨_, _, rfl, by assumption⟩, rfl⟩ (fun _ h => nomatch h)
end
section
def ctEs (P : Params) (t1 : Tok) (lc : Addr) : List DictEntry := [⟨PyData.keyHash P (Str.ofString "_counter"), .str (Str.ofString "_counter") t1, .ref lc⟩]
/-- the sixteen octets of a number below 2^16 -/
def oct16 (v : Nat) : List Int := List.replicate 14 0 ++ [((v / 256 : Nat) : Int), ((v % 256 : Nat) : Int)]
theorem oct16_map {v : Nat} (hv : v < 65536) : (List.range 16).map (fun k => ((v / 2 ^ (120 - 8 * k) : Nat) : Int).fmod 256) = oct16 v := by
  have z : ∀ k, k < 14 → ((v / 2 ^ (120 - 8 * k) : Nat) : Int).fmod 256 = 0 := fun k hk => by
    rw [Nat.div_eq_of_lt (Nat.lt_of_lt_of_le hv (Nat.le_trans (by decide : 65536 ≤ 2 ^ 16) (Nat.pow_le_pow_right (by decide) (by omega))))]; rfl
  show [_, _, _, _, _, _, _, _, _, _, _, _, _, _, _, _] = _
  dsimp only
  rw [z 0 (by decide), z 1 (by decide), z 2 (by decide), z 3 (by decide), z 4 (by decide), z 5 (by decide), z 6 (by decide), z 7 (by decide), z 8 (by decide), z 9 (by decide), z 10 (by decide), z 11 (by decide), z 12 (by decide), z 13 (by decide)]
  show _ = [(0 : Int), 0, 0, 0, 0, 0, 0, 0, 0, 0, 0, 0, 0, 0, ((v / 256 : Nat) : Int), ((v % 256 : Nat) : Int)]
  have e1 : ((v / 2 ^ (120 - 8 * 14) : Nat) : Int).fmod 256 = ((v / 256 : Nat) : Int) := by
    show ((v / 256 : Nat) : Int).fmod 256 = _
    rw [Int.fmod_eq_emod_of_nonneg _ (by decide)]; omega
  have e2 : ((v / 2 ^ (120 - 8 * 15) : Nat) : Int).fmod 256 = ((v % 256 : Nat) : Int) := by
    show ((v / 1 : Nat) : Int).fmod 256 = _
    rw [Nat.div_one, Int.fmod_eq_emod_of_nonneg _ (by decide)]; rfl
  rw [e1, e2]
theorem shr_nat {w : World} {A : Around} {E : Value → Shared → Prop} {s : Shared} {v : Nat} {i : Int} {t u : Tok} {Q : Value → Shared → Prop} (h0 : 0 ≤ i) (h : ∀ t' k, Q (.int ((v / 2 ^ i.toNat : Nat) : Int) t') { s with toks := k }) :
    wpAny (model PySem.Challenge.rw_yv0001_01.row.prog w) A (binaryOp .RShift (.int (v : Int) t) (.int i u)) Q E s := by
  refine PySem.AutoIntOpsIf.rshift ?_
  rw [if_neg (by omega)]
  split
  · rename_i hb
    have hlt : v < 2 ^ i.toNat := by
      have := (PySem.intBits_le_iff (m := i.toNat) (x := (v : Int))).mp (by omega)
      simpa using this
    have hz := h s.toks (s.toks + 1)
    rw [if_neg (by omega)]
    have e := h s.toks (s.toks + 1)
    rw [Nat.div_eq_of_lt hlt] at e
    exact e
  · have e := h s.toks (s.toks + 1)
    have q : ((v / 2 ^ i.toNat : Nat) : Int) = (v : Int).fdiv (2 ^ i.toNat) := by
      rw [Int.fdiv_eq_ediv_of_nonneg _ (Int.pow_nonneg (by decide))]
      simp
    rw [q] at e
    exact e
theorem mod_256 {w : World} {A : Around} {E : Value → Shared → Prop} {s : Shared} {a : Int} {t u : Tok} {Q : Value → Shared → Prop} (h : ∀ t' k, Q (.int (a.fmod 256) t') { s with toks := k }) :
    wpAny (model PySem.Challenge.rw_yv0001_01.row.prog w) A (binaryOp .Mod (.int a t) (.int 256 u)) Q E s := by
  refine PySem.AutoIntOpsIf.mod ?_
  rw [if_neg (by decide)]
  exact h _ _
theorem cnt_init (w : World) {x dx : Addr} {v : Nat} {tv : Tok} (hne : (@Ne Nat x dx)) (hv : v < 65536) :
    Spec w (.ref 133) [.ref x, .int (v : Int) tv] (fun _ => True) [(x, instObj 151 dx), (dx, dictOf [] 0)] 1 8
      (fun r nw => r = .none ∧ ∃ lc us n t1, nw = [(x, instObj 151 dx), (dx, dictOf (ctEs w.params t1 lc) 1), (lc, listOf (List.toArray us) n)] ∧ IntsAre us (oct16 v) ∧ (@Ne Nat lc x) ∧ (@Ne Nat lc dx)) := by
  with_unfolding_all refine' spec_defC ?ho ?hcd ?hbind ?hkind ?hnd ?c2 ?c3 ?c4 ?_
  (case ho => k_is)
  (case hcd => k_is)
  (case hbind => first | exact bind_plain rfl | exact bind_dflt rfl (by k_is) rfl rfl rfl)
  (case hkind => exact rfl)
  (case hnd => decide +kernel)
  (case c2 => exact rfl)
  (case c3 => exact rfl)
  (case c4 => exact rfl)
  intro p loose mean mg mb dp un gd cn cs ca ccd cl outer base L g L1 h1 s tk cells B F X N Y T hdp hun hyp l1
  (try k_lt l1)
  refine letA ?_
  intro A0
  obtain ⟨oc1, hE, dc1⟩ := CellsAre.one Y
  subst hE
  clear Y
  (try simp only [List.nil_append, List.cons_append] at N)
  (try dsimp only)
  (try k_fold)
  (repeat' (first | (k_unfold; (try dsimp only)) | ((with_reducible show wpAny _ _ (exec _ _) _ _ _); (fail_if_success (fail_if_success k_fold)); refine foldQ ?_; intro q9) | ((with_reducible show wpAny _ _ (eval (Expr.BinOp _ _ _ _) _) _ _ _); (fail_if_success (fail_if_success k_fold)); refine foldQ ?_; intro q9) | ((with_reducible show wpAny _ _ (eval (Expr.Call _ _ _ _) _) _ _ _); (fail_if_success (fail_if_success k_fold)); refine foldQ ?_; intro q9) | ((with_reducible show wpAny _ _ (eval (Expr.Subscript _ _ _) _) _ _ _); (fail_if_success (fail_if_success k_fold)); refine foldQ ?_; intro q9)  | ((with_reducible show SrcG _ _ _ _ _ _ _ _ _ _ _ _ _ _ _); (refine Hold.mk ?_)) | (k_here; (with_reducible show wpAny _ _ (eval (Expr.ListComp _ [⟨Expr.Name _ _, _, _, _⟩] _ _) _) _ _ _); k_dflt (refine ListComp_G (by k_asm) (by with_unfolding_all rfl) (by decide) (by rfl) (by decide) (by rfl) ?_)) | (k_end; wrow_close) | walk1 | (dsimp only; walk1) | (leave1; walk_say "STEP leave1"; try dsimp only) | fail "no step"))
  unfold Hold
  rename IsRange _ _ _ _ _ _ _ _ => hr
  rename News _ _ _ _ => N1
  rename Fr _ _ _ _ => F1
  refine SrcG.range (n := 16) (news := [(x, instObj 151 dx), (dx, dictOf [] 0), (L1 + 1, oc1)]) rfl F1 N1 hr (by decide) (by rfl) (by rw [PySem.sizeLine_eq]; decide) (by lcg_sub)
    (fun g2 => comp_map (fun k => ((v / 2 ^ (120 - 8 * k) : Nat) : Int).fmod 256) (fun i ys v' I oI C oC D m₂ h tk E' hi hP hC hx F2 N2 off ne => ?_) (fun ys hys => ?_))
  · obtain ⟨t', rfl⟩ := hP
    have b0 : (0 : Int) ≤ 128 - 8 + (i : Int) * -8 := by omega
    (repeat' (first | (k_unfold; (try dsimp only)) | ((with_reducible show wpAny _ _ (exec _ _) _ _ _); (fail_if_success (fail_if_success k_fold)); refine foldQ ?_; intro q9) | ((with_reducible show wpAny _ _ (eval (Expr.BinOp _ _ _ _) _) _ _ _); (fail_if_success (fail_if_success k_fold)); refine foldQ ?_; intro q9) | ((with_reducible show wpAny _ _ (eval (Expr.Call _ _ _ _) _) _ _ _); (fail_if_success (fail_if_success k_fold)); refine foldQ ?_; intro q9) | ((with_reducible show wpAny _ _ (eval (Expr.Subscript _ _ _) _) _ _ _); (fail_if_success (fail_if_success k_fold)); refine foldQ ?_; intro q9)  | (k_here; (with_reducible show wpAny _ _ (binaryOp Operator.Mod (Value.int _ _) (Value.int _ _)) _ _ _); k_dflt (refine mod_256 (fun t' k' => ?_)); (try k_fold)) | (k_here; (with_reducible show wpAny _ _ (binaryOp Operator.RShift (Value.int _ _) (Value.int _ _)) _ _ _); k_dflt (refine shr_nat (by tb_start) (fun t' k' => ?_)); (try k_fold)) | (k_here; (with_reducible show LCg.CompEnd _ _ _ _ _ _ _ _ _ _ _ _ _ _); (refine Hold.mk ?_)) | (k_end; wrow_close) | walk1 | (dsimp only; walk1) | (leave1; walk_say "STEP leave1"; try dsimp only) | fail "no step"))
    unfold Hold
    rename News _ _ _ _ => N9
    rename Fr _ _ _ _ => F9
    refine LCg.CompEnd.intro F9 N9 _ (by lcg_sub) off trivial (kcf_el ?_ rfl rfl)
    rw [show (128 - 8 + (i : Int) * -8).toNat = 120 - 8 * i by omega]
  · rw [oct16_map hv] at hys
    clear hr
    (repeat' (first | (k_unfold; (try dsimp only)) | ((with_reducible show wpAny _ _ (exec _ _) _ _ _); (fail_if_success (fail_if_success k_fold)); refine foldQ ?_; intro q9) | ((with_reducible show wpAny _ _ (eval (Expr.BinOp _ _ _ _) _) _ _ _); (fail_if_success (fail_if_success k_fold)); refine foldQ ?_; intro q9) | ((with_reducible show wpAny _ _ (eval (Expr.Call _ _ _ _) _) _ _ _); (fail_if_success (fail_if_success k_fold)); refine foldQ ?_; intro q9) | ((with_reducible show wpAny _ _ (eval (Expr.Subscript _ _ _) _) _ _ _); (fail_if_success (fail_if_success k_fold)); refine foldQ ?_; intro q9)  | (k_end; wrow_close) | walk1 | (dsimp only; walk1) | (leave1; walk_say "STEP leave1"; try dsimp only) | fail "no step"))
    rename _ ≠ _ ∧ _ ≠ _ ∧ _ ≠ _ => o9
    exact Ends.mk2 (by k_asm) (by k_asm) ⟨rfl, _, _, _, _, rfl, hys, o9.1.symm, o9.2.1.symm⟩ (by unfold ctEs; lcg_sub)
end
section
structure IdxOk (ns : List Int) (k : Int) : Prop where
  lo : 0 ≤ k
  hi : k < (ns.length : Int)
  fit : k < 2 ^ 63
section
variable {w : World} {A : Around} {E : Value → Shared → Prop} {s : Shared} {h₀ : Heap} {L : Addr} {m : Str → Option Value} {news : List (Addr × Obj)} {f : Obj → List (Addr × Obj)}
theorem get_f {D : Addr} {us : List Value} {ns : List Int} {n : Nat} {k z : Int} {u : Tok} {Q : Value → Shared → Prop} (N : News h₀ L s.heap news) (hm : (D, listOf us.toArray n) ∈ news) (hi : IntsAre us ns) (hk : IdxOk ns k) (e : ns.getD k.toNat 0 = z) (h : ∀ t, Q (.int z t) s) :
    wpAny (model PySem.Challenge.rw_yv0001_01.row.prog w) A (getItem (.ref D) (.int k u)) Q E s := ksa_get N hm hi hk.lo hk.hi hk.fit (e ▸ h)
theorem sub_f {D : Addr} {us : List Value} {ns : List Int} {n : Nat} {k z : Int} {u : Tok} {value slice : Expr} {Q : Value → Shared → Prop} (N : News h₀ L s.heap news) (hm : (D, listOf us.toArray n) ∈ news) (hi : IntsAre us ns) (hk : IdxOk ns k) (e : ns.getD k.toNat 0 = z) (h : ∀ t, Q (.int z t) s)
    (hs : subscripted slice false (.ref D) (.int k u) = operate [.ref D, .int k u] (getItem (.ref D) (.int k u))) :
    wpAny (model PySem.Challenge.rw_yv0001_01.row.prog w) A (subscriptTail value slice (.ref D) (.int k u)) Q E s := ksa_sub N hm hi hk.lo hk.hi hk.fit (e ▸ h) hs
theorem set_f {D : Addr} {us : List Value} {ns ms : List Int} {n : Nat} {k x : Int} {t u : Tok} {Q : Unit → Shared → Prop} (F : Fr h₀ L s.heap m) (N : News h₀ L s.heap news) (_hm : (D, listOf us.toArray n) ∈ news) (U : UpdF D (listOf us.toArray n) news f) (hi : IntsAre us ns) (hk : IdxOk ns k) (e : ns.set k.toNat x = ms)
    (h : ∀ us' h', Fr h₀ L h' m → News h₀ L h' (f (listOf (List.toArray us') n)) → IntsAre us' ms → Q () { s with heap := h' }) :
    wpAny (model PySem.Challenge.rw_yv0001_01.row.prog w) A (setItem (.ref D) (.int k t) (.int x u)) Q E s :=
  ksa_set F N (UpdF.toUpd U _) hi hk.lo hk.hi hk.fit fun h' F' N' hi' _ _ => h _ h' F' N' (e ▸ hi')
end
theorem oct16_len (v : Nat) : (oct16 v).length = 16 := by unfold oct16; simp
theorem oct16_oct {v : Nat} (hv : v < 65536) : ∀ y ∈ oct16 v, OctOk y := by
  intro y hy
  unfold oct16 at hy
  rcases List.mem_append.mp hy with hy | hy
  · rw [List.eq_of_mem_replicate hy]; exact ⟨by decide, by decide⟩
  · rcases List.mem_cons.mp hy with rfl | hy
    · exact ⟨by omega, by omega⟩
    · rw [List.mem_singleton.mp hy]; exact ⟨by omega, by omega⟩
theorem oct16_last {v : Nat} : (oct16 v).getD 15 0 = ((v % 256 : Nat) : Int) := rfl
theorem oct16_step {v : Nat} (h : v % 256 + 1 < 256) : (oct16 v).set 15 (((v % 256 : Nat) : Int) + 1) = oct16 (v + 1) := by
  show List.replicate 14 0 ++ [((v / 256 : Nat) : Int), ((v % 256 : Nat) : Int) + 1] = _
  unfold oct16
  rw [show (v + 1) / 256 = v / 256 by omega, show (v + 1) % 256 = v % 256 + 1 by omega]
  rfl
theorem oct16_carry {v : Nat} (h : v % 256 = 255) : (List.replicate 14 0 ++ [((v / 256 : Nat) : Int), 0]).set 14 (((v / 256 : Nat) : Int) + 1) = oct16 (v + 1) := by
  show List.replicate 14 0 ++ [((v / 256 : Nat) : Int) + 1, 0] = _
  unfold oct16
  rw [show (v + 1) / 256 = v / 256 + 1 by omega, show (v + 1) % 256 = 0 by omega]
  rfl
/-- what increment leaves -/
def IncEnd (w : World) (x dx lc : Addr) (t1 : Tok) (v : Nat) (r : Value) (nw : List (Addr × Obj)) : Prop :=
  r = .none ∧ ∃ us n, nw = [(x, instObj 151 dx), (dx, dictOf (ctEs w.params t1 lc) 1), (lc, listOf (List.toArray us) n)] ∧ IntsAre us (oct16 (v + 1))
inductive IncJ (w : World) (x dx lc : Addr) (t1 : Tok) (v i : Nat) (m : Str → Option Value) (nw : List (Addr × Obj)) : Prop
  | mk0 (us : List Value) (n : Nat) (z1 : nw = [(x, instObj 151 dx), (dx, dictOf (ctEs w.params t1 lc) 1), (lc, listOf (List.toArray us) n)]) (z2 : ((i = 0 ∧ IntsAre us (oct16 v)) ∨ (i = 1 ∧ v % 256 = 255 ∧ IntsAre us (List.replicate 14 0 ++ [((v / 256 : Nat) : Int), 0])))) (z3 : Keeps [(Str.ofString "self", .ref x)] m) : IncJ w x dx lc t1 v i m nw
theorem inc_spec (w : World) {x dx lc : Addr} {t1 : Tok} {us : List Value} {n v : Nat} (hne : (@Ne Nat x dx)) (h1 : (@Ne Nat lc x)) (h2 : (@Ne Nat lc dx)) (hi : IntsAre us (oct16 v)) (hv : v < 65535) :
    Spec w (.ref 148) [.ref x] (fun _ => True) [(x, instObj 151 dx), (dx, dictOf (ctEs w.params t1 lc) 1), (lc, listOf us.toArray n)] 1 8 (IncEnd w x dx lc t1 v) := by
  with_unfolding_all refine' spec_def ?ho ?hcd ?hbind ?hloc ?c2 ?c3 ?c4 ?c5 ?_
  (case ho => k_is)
  (case hcd => k_is)
  (case hbind => first | exact bind_plain rfl | exact bind_dflt rfl (by k_is) rfl rfl rfl)
  (case hloc => exact locs rfl)
  (case c2 => exact rfl)
  (case c3 => exact rfl)
  (case c4 => exact rfl)
  (case c5 => decide)
  intro p loose mean mg mb dp un gd cn cs ca ccd cl outer base L g L1 h1 s tk B F X N T hdp hun hyp
  refine letA ?_
  intro A0
  (try dsimp only)
  (try k_fold)
  unfold ctEs at N
  have hl : LenIs (oct16 v) 16 := ⟨by rw [oct16_len]; rfl, by rw [oct16_len]; decide⟩
  (repeat' (first | (k_unfold; (try dsimp only)) | ((with_reducible show wpAny _ _ (exec _ _) _ _ _); (fail_if_success (fail_if_success k_fold)); refine foldQ ?_; intro q9) | ((with_reducible show wpAny _ _ (eval (Expr.Call _ _ _ _) _) _ _ _); (fail_if_success (fail_if_success k_fold)); refine foldQ ?_; intro q9) | ((with_reducible show wpAny _ _ (eval (Expr.Subscript _ _ _) _) _ _ _); (fail_if_success (fail_if_success k_fold)); refine foldQ ?_; intro q9)  | (k_end; wrow_close) | walk1 | (dsimp only; walk1) | (leave1; walk_say "STEP leave1"; try dsimp only) | fail "no step"))
  refine PySem.wpAny_For ?_
  (try k_fold)
  (repeat' (first | (k_unfold; (try dsimp only)) | ((with_reducible show wpAny _ _ (exec _ _) _ _ _); (fail_if_success (fail_if_success k_fold)); refine foldQ ?_; intro q9) | ((with_reducible show wpAny _ _ (eval (Expr.Call _ _ _ _) _) _ _ _); (fail_if_success (fail_if_success k_fold)); refine foldQ ?_; intro q9) | ((with_reducible show wpAny _ _ (eval (Expr.Subscript _ _ _) _) _ _ _); (fail_if_success (fail_if_success k_fold)); refine foldQ ?_; intro q9)  | (k_here; (with_reducible show wpAny _ _ (call (Value.builtin _) [Value.ref _]) _ _ _); k_dflt (refine len_listN (by k_asm) (by k_mem) (by tb_start) (by tb_start) (fun t' k' => ?_)); (try k_fold)) | (k_end; wrow_close) | walk1 | (dsimp only; walk1) | (leave1; walk_say "STEP leave1"; try dsimp only) | fail "no step"))
  rename Fr _ _ _ _ => F1
  rename News _ _ _ _ => N1
  rename IsRange _ _ _ _ _ _ _ _ => hr
  refine krs_else (n := 16) (fun i m nw => IncJ w x dx lc t1 v i m nw)
    rfl (by rfl) (by rfl) hr (by decide) (by rfl) F1 N1 ⟨_, _, rfl, .inl ⟨rfl, hi⟩, rfl, trivial⟩ (SubL.mem (by k_subL)) (fun m nw h => ?_) ?_
  · obtain ⟨us, n, _, h, _⟩ := h
    omega
  · rintro i m nw I t h tk hi ⟨us, n, rfl, hD, hk⟩ hoI F2 N2
    first | replace F2 := hk.fr F2 | replace F2 := hk.frI F2
    clear hk hr
    have hI1 : (@Ne Nat x I) := hoI _ List.mem_cons_self
    have hI2 : (@Ne Nat dx I) := hoI _ (List.mem_cons_of_mem _ List.mem_cons_self)
    have hI3 : (@Ne Nat lc I) := hoI _ (List.mem_cons_of_mem _ (List.mem_cons_of_mem _ List.mem_cons_self))
    unfold ctEs at N2
    (try k_unmd)
    (try k_fold)
    rcases hD with ⟨rfl, hus⟩ | ⟨rfl, hv2, hus⟩
    · have hk0 : IdxOk (oct16 v) (16 - 1 + ((0 : Nat) : Int) * -1) := ⟨by decide, by rw [oct16_len]; decide, by decide⟩
      have e0 : (oct16 v).getD (16 - 1 + ((0 : Nat) : Int) * -1).toNat 0 = ((v % 256 : Nat) : Int) := rfl
      by_cases h256 : v % 256 + 1 < 256
      · have s0 : (oct16 v).set (16 - 1 + ((0 : Nat) : Int) * -1).toNat (((v % 256 : Nat) : Int) + 1) = oct16 (v + 1) := oct16_step h256
        have hk1 : IdxOk (oct16 (v + 1)) (16 - 1 + ((0 : Nat) : Int) * -1) := ⟨by decide, by rw [oct16_len]; decide, by decide⟩
        have e1 : (oct16 (v + 1)).getD (16 - 1 + ((0 : Nat) : Int) * -1).toNat 0 = (((v + 1) % 256 : Nat) : Int) := rfl
        (repeat' (first | (k_unfold; (try dsimp only)) | ((with_reducible show wpAny _ _ (exec _ _) _ _ _); (fail_if_success (fail_if_success k_fold)); refine foldQ ?_; intro q9) | ((with_reducible show wpAny _ _ (eval (Expr.Call _ _ _ _) _) _ _ _); (fail_if_success (fail_if_success k_fold)); refine foldQ ?_; intro q9) | ((with_reducible show wpAny _ _ (eval (Expr.Subscript _ _ _) _) _ _ _); (fail_if_success (fail_if_success k_fold)); refine foldQ ?_; intro q9)  | (k_here; (with_reducible show wpAny _ _ (setItem (Value.ref _) (Value.int _ _) (Value.int _ _)) _ _ _); k_dflt (refine' set_f ?k1 ?k2 ?k3 ?k9 ?k4 ?k5 ?k6 ?_; (case k1 | k2 => k_asm); (case k3 => k_mem); (case k9 => k_updF); (case k4 | k5 | k6 => tb_start); k_whole); intro us' h' F' N' hi'; (try dsimp only at N'); (try k_fold)) | (k_here; (with_reducible show wpAny _ _ (subscriptTail _ _ (Value.ref _) (Value.int _ _)) _ _ _); k_dflt (refine' sub_f ?k1 ?k2 ?k3 ?k4 ?k5 (fun t' => ?_) ?k6; (case k1 => k_asm); (case k2 => k_mem); (case k3 | k4 | k5 => tb_start); (case k6 => with_unfolding_all rfl)); (try k_fold)) | (k_here; (with_reducible show wpAny _ _ (getItem (Value.ref _) (Value.int _ _)) _ _ _); k_dflt (refine get_f (by k_asm) (by k_mem) (by tb_start) (by tb_start) (by tb_start) (fun t' => ?_)); (try k_fold)) | (k_end; wrow_close) | walk1 | (dsimp only; walk1) | (leave1; walk_say "STEP leave1"; try dsimp only) | fail "no step"))
        exact Ends.mk2 (by k_asm) (by k_asm) ⟨rfl, _, _, rfl, by assumption⟩ (by unfold ctEs; lcg_sub)
      · have h255 : v % 256 = 255 := by omega
        have s0 : (oct16 v).set (16 - 1 + ((0 : Nat) : Int) * -1).toNat (((v % 256 : Nat) : Int) + 1) = List.replicate 14 0 ++ [((v / 256 : Nat) : Int), ((v % 256 : Nat) : Int) + 1] := rfl
        have hk1 : IdxOk (List.replicate 14 0 ++ [((v / 256 : Nat) : Int), ((v % 256 : Nat) : Int) + 1]) (16 - 1 + ((0 : Nat) : Int) * -1) := ⟨by decide, by simp, by decide⟩
        have e1 : (List.replicate 14 0 ++ [((v / 256 : Nat) : Int), ((v % 256 : Nat) : Int) + 1]).getD (16 - 1 + ((0 : Nat) : Int) * -1).toNat 0 = ((v % 256 : Nat) : Int) + 1 := rfl
        have s1 : (List.replicate 14 0 ++ [((v / 256 : Nat) : Int), ((v % 256 : Nat) : Int) + 1]).set (16 - 1 + ((0 : Nat) : Int) * -1).toNat 0 = List.replicate 14 0 ++ [((v / 256 : Nat) : Int), 0] := rfl
        (repeat' (first | (k_unfold; (try dsimp only)) | ((with_reducible show wpAny _ _ (exec _ _) _ _ _); (fail_if_success (fail_if_success k_fold)); refine foldQ ?_; intro q9) | ((with_reducible show wpAny _ _ (eval (Expr.Call _ _ _ _) _) _ _ _); (fail_if_success (fail_if_success k_fold)); refine foldQ ?_; intro q9) | ((with_reducible show wpAny _ _ (eval (Expr.Subscript _ _ _) _) _ _ _); (fail_if_success (fail_if_success k_fold)); refine foldQ ?_; intro q9)  | (k_here; (with_reducible show UnrEnd _ _ _ _ _ _ _); (refine Hold.mk ?_)) | (k_here; (with_reducible show wpAny _ _ (setItem (Value.ref _) (Value.int _ _) (Value.int _ _)) _ _ _); k_dflt (refine' set_f ?k1 ?k2 ?k3 ?k9 ?k4 ?k5 ?k6 ?_; (case k1 | k2 => k_asm); (case k3 => k_mem); (case k9 => k_updF); (case k4 | k5 | k6 => tb_start); k_whole); intro us' h' F' N' hi'; (try dsimp only at N'); (try k_fold)) | (k_here; (with_reducible show wpAny _ _ (subscriptTail _ _ (Value.ref _) (Value.int _ _)) _ _ _); k_dflt (refine' sub_f ?k1 ?k2 ?k3 ?k4 ?k5 (fun t' => ?_) ?k6; (case k1 => k_asm); (case k2 => k_mem); (case k3 | k4 | k5 => tb_start); (case k6 => with_unfolding_all rfl)); (try k_fold)) | (k_here; (with_reducible show wpAny _ _ (getItem (Value.ref _) (Value.int _ _)) _ _ _); k_dflt (refine get_f (by k_asm) (by k_mem) (by tb_start) (by tb_start) (by tb_start) (fun t' => ?_)); (try k_fold)) | (k_end; wrow_close) | walk1 | (dsimp only; walk1) | (leave1; walk_say "STEP leave1"; try dsimp only) | fail "no step"))
        unfold Hold
        exact unr_end (by k_asm) (by k_asm) ⟨_, _, rfl, .inr ⟨rfl, h255, by assumption⟩, rfl, trivial⟩ (by k_mem) (by unfold ctEs; exact SubL.mem (by k_subL)) (by exact off_same hoI rfl)
    · have hk0 : IdxOk (List.replicate 14 0 ++ [((v / 256 : Nat) : Int), 0]) (16 - 1 + ((1 : Nat) : Int) * -1) := ⟨by decide, by simp, by decide⟩
      have e0 : (List.replicate 14 0 ++ [((v / 256 : Nat) : Int), 0]).getD (16 - 1 + ((1 : Nat) : Int) * -1).toNat 0 = ((v / 256 : Nat) : Int) := rfl
      have s0 : (List.replicate 14 0 ++ [((v / 256 : Nat) : Int), 0]).set (16 - 1 + ((1 : Nat) : Int) * -1).toNat (((v / 256 : Nat) : Int) + 1) = oct16 (v + 1) := oct16_carry hv2
      have hk1 : IdxOk (oct16 (v + 1)) (16 - 1 + ((1 : Nat) : Int) * -1) := ⟨by decide, by rw [oct16_len]; decide, by decide⟩
      have e1 : (oct16 (v + 1)).getD (16 - 1 + ((1 : Nat) : Int) * -1).toNat 0 = (((v + 1) / 256 : Nat) : Int) := rfl
      (repeat' (first | (k_unfold; (try dsimp only)) | ((with_reducible show wpAny _ _ (exec _ _) _ _ _); (fail_if_success (fail_if_success k_fold)); refine foldQ ?_; intro q9) | ((with_reducible show wpAny _ _ (eval (Expr.Call _ _ _ _) _) _ _ _); (fail_if_success (fail_if_success k_fold)); refine foldQ ?_; intro q9) | ((with_reducible show wpAny _ _ (eval (Expr.Subscript _ _ _) _) _ _ _); (fail_if_success (fail_if_success k_fold)); refine foldQ ?_; intro q9)  | (k_here; (with_reducible show wpAny _ _ (setItem (Value.ref _) (Value.int _ _) (Value.int _ _)) _ _ _); k_dflt (refine' set_f ?k1 ?k2 ?k3 ?k9 ?k4 ?k5 ?k6 ?_; (case k1 | k2 => k_asm); (case k3 => k_mem); (case k9 => k_updF); (case k4 | k5 | k6 => tb_start); k_whole); intro us' h' F' N' hi'; (try dsimp only at N'); (try k_fold)) | (k_here; (with_reducible show wpAny _ _ (subscriptTail _ _ (Value.ref _) (Value.int _ _)) _ _ _); k_dflt (refine' sub_f ?k1 ?k2 ?k3 ?k4 ?k5 (fun t' => ?_) ?k6; (case k1 => k_asm); (case k2 => k_mem); (case k3 | k4 | k5 => tb_start); (case k6 => with_unfolding_all rfl)); (try k_fold)) | (k_here; (with_reducible show wpAny _ _ (getItem (Value.ref _) (Value.int _ _)) _ _ _); k_dflt (refine get_f (by k_asm) (by k_mem) (by tb_start) (by tb_start) (by tb_start) (fun t' => ?_)); (try k_fold)) | (k_end; wrow_close) | walk1 | (dsimp only; walk1) | (leave1; walk_say "STEP leave1"; try dsimp only) | fail "no step"))
      exact Ends.mk2 (by k_asm) (by k_asm) ⟨rfl, _, _, rfl, by assumption⟩ (by unfold ctEs; lcg_sub)
end
section
def ctrEs (P : Params) (t : Tok) (a : Addr) (t1 : Tok) (cx : Addr) (t2 : Tok) (lR : Addr) : List DictEntry := [⟨PyData.keyHash P (Str.ofString "_aes"), .str (Str.ofString "_aes") t, .ref a⟩, ⟨PyData.keyHash P (Str.ofString "_counter"), .str (Str.ofString "_counter") t1, .ref cx⟩, ⟨PyData.keyHash P (Str.ofString "_remaining_counter"), .str (Str.ofString "_remaining_counter") t2, .ref lR⟩]
theorem ctr_blk (w : World) {x dx : Addr} {tb : Tok} {b : Array UInt8} {key : List Int} (hne : (@Ne Nat x dx)) (hb : KBw.bInts b = key) (hkey : KeyOk key) :
    Spec w (.ref 169) [.ref x, .bytes b tb] (fun _ => True) [(x, instObj 441 dx), (dx, dictOf [] 0)] 4 32 (ModeEnd w 441 x dx key (fun t a o => o = dictOf (aesEs w.params t a) 1)) := by
  with_unfolding_all refine' spec_def ?ho ?hcd ?hbind ?hloc ?c2 ?c3 ?c4 ?c5 ?_
  (case ho => k_is)
  (case hcd => k_is)
  (case hbind => first | exact bind_plain rfl | exact bind_dflt rfl (by k_is) rfl rfl rfl)
  (case hloc => exact locs rfl)
  (case c2 => exact rfl)
  (case c3 => exact rfl)
  (case c4 => exact rfl)
  (case c5 => decide)
  intro p loose mean mg mb dp un gd cn cs ca ccd cl outer base L g L1 h1 s tk B F X N T hdp hun hyp
  refine letA ?_
  intro A0
  (try dsimp only)
  (try k_fold)
  (repeat' (first | (k_unfold; (try dsimp only)) | ((with_reducible show wpAny _ _ (exec _ _) _ _ _); (fail_if_success (fail_if_success k_fold)); refine foldQ ?_; intro q9) | ((with_reducible show wpAny _ _ (eval (Expr.Call _ _ _ _) _) _ _ _); (fail_if_success (fail_if_success k_fold)); refine foldQ ?_; intro q9) | ((with_reducible show wpAny _ _ (eval (Expr.Subscript _ _ _) _) _ _ _); (fail_if_success (fail_if_success k_fold)); refine foldQ ?_; intro q9)  | (k_here; (with_reducible show wpAny _ _ (call (Value.ref 116) [_]) _ _ _); k_dflt ( refine' aes_use ?k1 ?k2 ?k3 ?k4 ?k5 ?k6 ?k7 ?k8 ?k9 ?k10 ?_; (case k1 | k2 | k3 | k4 | k5 => k_asm); (case k6 => first | exact rfl | assumption); (case k7 | k8 => tb_start); (case k9 => ktr_room); (case k10 => ktr_units); intro x' tl' h' tk' F' N' l1 hA'; (simp only [List.cons_append, List.nil_append] at N'); (simp only [AllNeT, and_true] at l1); (repeat (first | (refine an8 l1 ?_; clear l1; intro hne' hne' hne' hne' hne' hne' hne' l1) | (refine an4 l1 ?_; clear l1; intro hne' hne' hne' l1) | (refine an2 l1 ?_; clear l1; intro hne' l1))); (try k_fold))) | (k_end; wrow_close) | walk1 | (dsimp only; walk1) | (leave1; walk_say "STEP leave1"; try dsimp only) | fail "no step"))
  exact Ends.mk2 (by k_asm) (by k_asm) ⟨rfl, _, _, _, _, rfl, rfl, by assumption, by assumption, by assumption⟩ (by lcg_sub)
def CtrEnd (w : World) (x dx cx : Addr) (key : List Int) (v : Value) (nw : List (Addr × Obj)) : Prop :=
  v = .none ∧ ∃ tl t a t1 t2 lR n, nw = (x, instObj 441 dx) :: (dx, dictOf (ctrEs w.params t a t1 cx t2 lR) 3) :: (lR, listOf (List.toArray []) n) :: tl ∧ AesL w.params tl a (expand w.params key) ∧ AllNe x tl ∧ AllNe dx tl ∧ AllNe lR tl ∧ (@Ne Nat lR x) ∧ (@Ne Nat lR dx)
theorem ctr_init (w : World) {x dx cx : Addr} {tb : Tok} {b : Array UInt8} {key : List Int} (hne : (@Ne Nat x dx)) (hb : KBw.bInts b = key) (hkey : KeyOk key) :
    Spec w (.ref 426) [.ref x, .bytes b tb, .ref cx] (fun _ => True) [(x, instObj 441 dx), (dx, dictOf [] 0)] 5 40 (CtrEnd w x dx cx key) := by
  with_unfolding_all refine' spec_def ?ho ?hcd ?hbind ?hloc ?c2 ?c3 ?c4 ?c5 ?_
  (case ho => k_is)
  (case hcd => k_is)
  (case hbind => first | exact bind_plain rfl | exact bind_dflt rfl (by k_is) rfl rfl rfl)
  (case hloc => exact locs rfl)
  (case c2 => exact rfl)
  (case c3 => exact rfl)
  (case c4 => exact rfl)
  (case c5 => decide)
  intro p loose mean mg mb dp un gd cn cs ca ccd cl outer base L g L1 h1 s tk B F X N T hdp hun hyp
  refine letA ?_
  intro A0
  (try dsimp only)
  (try k_fold)
  (repeat' (first | (k_unfold; (try dsimp only)) | ((with_reducible show wpAny _ _ (exec _ _) _ _ _); (fail_if_success (fail_if_success k_fold)); refine foldQ ?_; intro q9) | ((with_reducible show wpAny _ _ (eval (Expr.Call _ _ _ _) _) _ _ _); (fail_if_success (fail_if_success k_fold)); refine foldQ ?_; intro q9) | ((with_reducible show wpAny _ _ (eval (Expr.Subscript _ _ _) _) _ _ _); (fail_if_success (fail_if_success k_fold)); refine foldQ ?_; intro q9)  | (k_here; (with_reducible show wpAny _ _ (call (Value.ref 169) [Value.ref _, Value.bytes _ _]) _ _ _); k_dflt ( refine' mode_use (ctr_blk _ (by first | tb_start | omega) (by tb_start) (by tb_start)) ?k1 ?k2 ?k3 ?k4 ?k5 ?k6 ?k7 ?k8 ?k9 ?k10 ?_; (case k1 | k2 | k3 | k4 | k5 => k_asm); (case k6 => first | exact rfl | assumption); (case k7 => k_mem); (case k8 => (intro o1; k_upd)); (case k9 => ktr_room); (case k10 => ktr_units); intro tl' t' a' ds' h' tk' F' N' l1 he' hA'; subst he'; (simp only [List.cons_append, List.nil_append] at N'); (simp only [AllNeT, and_true] at l1); (repeat (first | (refine an8 l1 ?_; clear l1; intro hne' hne' hne' hne' hne' hne' hne' l1) | (refine an4 l1 ?_; clear l1; intro hne' hne' hne' l1) | (refine an2 l1 ?_; clear l1; intro hne' l1))); (try k_fold))) | (k_end; wrow_close) | walk1 | (dsimp only; walk1) | (leave1; walk_say "STEP leave1"; try dsimp only) | fail "no step"))
  rename _ ∧ _ ∧ AllLt _ _ => hlt
  exact Ends.mk2 (by k_asm) (by k_asm) ⟨rfl, _, _, _, _, _, _, _, rfl, by assumption, hne', l1, allNe_of (fun p hp => Nat.ne_of_lt (allLt_mem _ hlt.2.2 p hp)), by omega, by omega⟩ (by unfold ctrEs; lcg_sub)
end
section
theorem same_obj {h₀ h : Heap} {L : Addr} {all : List (Addr × Obj)} (N : News h₀ L h all) {x : Addr} {o : Obj} (hx : (x, o) ∈ all) {p : Addr × Obj} (hp : p ∈ all) (e : p.1 = x) : p = (x, o) := by
  have e1 := (N p hp).1
  rw [e, (N _ hx).1] at e1
  exact Prod.ext e (Option.some.inj e1).symm
section
variable {w : World} {E : Value → Shared → Prop} {p : Program} {loose : List Str} {mean : ExcName → Option Value} {mg mb : Str → Option Value} {dp un : Nat} {gd : Option (List Code)} {cn : Str} {cs : Scope} {a : Addr} {ccd : Value} {cl : List (Str × Addr)} {outer : List Env} {A₀ : Around} {base h₀ : Heap} {L : Addr} {m : Str → Option Value} {s : Shared}
theorem inc_use {Q : Value → Shared → Prop} {x dx lc : Addr} {t1 : Tok} {us : List Value} {n v : Nat} {all : List (Addr × Obj)} {f : Obj → List (Addr × Obj)}
    (B : Below A₀ base outer h₀) (F : Fr h₀ L s.heap m) (X : (mkK.heap_1 w.params).In h₀) (N : News h₀ L s.heap all) (T : Top p loose mean mg mb h₀) (hk : cs.kind = .function)
    (hx : (x, instObj 151 dx) ∈ all) (hdx : (dx, dictOf (ctEs w.params t1 lc) 1) ∈ all) (hlc : (lc, listOf us.toArray n) ∈ all) (U : UpdF lc (listOf us.toArray n) all f) (hne : (@Ne Nat x dx)) (h1 : (@Ne Nat lc x)) (h2 : (@Ne Nat lc dx)) (hi : IntsAre us (oct16 v)) (hv : v < 65535)
    (hd' : dp + 1 < recursionLimit) (hu : un + 8 < cLine)
    (cont : ∀ us' n' h' tk, Fr h₀ L h' m → News h₀ L h' (f (listOf (List.toArray us') n')) → IntsAre us' (oct16 (v + 1)) → Q .none { s with heap := h', toks := tk }) :
    wpAny (model PySem.Challenge.rw_yv0001_01.row.prog w) (ktrTop dp un gd cn cs L a ccd cl outer) (call (.ref 148) [.ref x]) Q E s :=
  wpAny_call (inc_spec w (n := n) hne h1 h2 hi hv p loose mean mg mb dp un gd cn cs a ccd cl outer A₀ base h₀ L m s Q E B F X (fun q hq => by
    rcases List.mem_cons.mp hq with rfl | hq
    · exact N _ hx
    · rcases List.mem_cons.mp hq with rfl | hq
      · exact N _ hdx
      · rw [List.mem_singleton.mp hq]; exact N _ hlc) T hk hd' hu (fun _ _ => trivial) fun v' news' h' tk' F' N' K' fr r => by
    obtain ⟨rfl, us', n', rfl, hi'⟩ := r
    refine cont us' n' h' tk' F' (fun q hq => ?_) hi'
    rcases Mine.Upd.mem (UpdF.toUpd U _) q hq with rfl | ⟨hq, hn⟩
    · exact N' _ (List.mem_cons_of_mem _ (List.mem_cons_of_mem _ List.mem_cons_self))
    · by_cases e1 : q.1 = x
      · rw [same_obj N hx hq e1]; exact N' _ List.mem_cons_self
      · by_cases e2 : q.1 = dx
        · rw [same_obj N hdx hq e2]; exact N' _ (List.mem_cons_of_mem _ List.mem_cons_self)
        · exact ⟨K' _ _ (N q hq).1 (by simp [e1, e2, hn]), (N q hq).2⟩)
end
theorem cutl_from {w : World} {A : Around} {E : Value → Shared → Prop} {h₀ : Heap} {L : Addr} {m : Str → Option Value} {news : List (Addr × Obj)} {s : Shared} {l : Addr} {us : List Value} {n : Nat} {ns zs : List Int} {x : Int} {tx : Tok} {value slice : Expr} {Q : Value → Shared → Prop} {hh : Heap} {k0 : Nat} (F : Fr h₀ L hh m) (N : News h₀ L hh news) (hm : (l, listOf us.toArray n) ∈ news) (hi : IntsAre us ns) (hx : 0 ≤ x) (hz : ns.length ≤ 100000)
    (e : ns.drop x.toNat = zs)
    (h : ∀ D us' h' k, Fr h₀ L h' m → News h₀ L h' ((D, listOf us'.toArray 0) :: news) → AllNe D news → IntsAre us' zs → Q (.ref D) { s with heap := h', toks := k })
    (hs : ∀ v a, subscripted slice false v (.ref a) = operate [.ref a, v] (getItem v (.ref a)))
    (ht : ∀ a r, letTemporaryGo value (.ref a) r = pure ()) :
    wpAny (model PySem.Challenge.rw_yv0001_01.row.prog w) A (subscriptTail value slice (.ref l) (.ref hh.objs.size)) Q E { s with toks := k0, heap := hh.push { cls := .type "slice", data := .fields #[.int x tx, .none, .none] } } := by
  have hk := kmk_from hi hx
  rw [e] at hk
  exact kmk_slice_ints (s := { s with heap := hh, toks := k0 }) F N ⟨_, (N _ hm).1, rfl, _, rfl⟩ (.int x tx) .none hi hk rfl (fun D ws h' F' N' l1 hi' _ _ => h D ws h' _ F' N' (allNe_of fun p hp => Nat.ne_of_lt (l1 p hp)) hi') (hs _ _) (ht _)
    (by rw [PySem.sizeLine_eq, List.size_toArray, hi.length]; omega)
noncomputable def ctrRow (P : Params) (ks : List (List Int)) (v n : Nat) : List Int := ((List.range n).map fun i => enc P ks (oct16 (v + i))).flatten
theorem ctrRow_succ (P : Params) (ks : List (List Int)) (v n : Nat) : ctrRow P ks v (n + 1) = ctrRow P ks v n ++ enc P ks (oct16 (v + n)) := by
  unfold ctrRow
  rw [List.range_succ, List.map_append, List.flatten_append]
  simp
theorem ctrRow_len (P : Params) (ks : List (List Int)) (v : Nat) : ∀ n, (ctrRow P ks v n).length = 16 * n ∧ ∀ y ∈ ctrRow P ks v n, OctOk y
  | 0 => ⟨rfl, fun y hy => by simp [ctrRow] at hy⟩
  | n + 1 => by
    have ih := ctrRow_len P ks v n
    rw [ctrRow_succ]
    refine ⟨by rw [List.length_append, ih.1, enc_len]; omega, fun y hy => ?_⟩
    rcases List.mem_append.mp hy with hy | hy
    · exact ih.2 y hy
    · exact enc_oct _ _ _ y hy
/-- the addresses of CTR.encrypt's ledger are apart -/
structure CtrO (x dx cx cdx lc lR : Addr) : Prop where
  d1 : (@Ne Nat x dx)
  d2 : (@Ne Nat x cx)
  d3 : (@Ne Nat x cdx)
  d4 : (@Ne Nat lc x)
  d5 : (@Ne Nat lR x)
  d6 : (@Ne Nat dx cx)
  d7 : (@Ne Nat dx cdx)
  d8 : (@Ne Nat lc dx)
  d9 : (@Ne Nat lR dx)
  d10 : (@Ne Nat cx cdx)
  d11 : (@Ne Nat lc cx)
  d12 : (@Ne Nat lR cx)
  d13 : (@Ne Nat lc cdx)
  d14 : (@Ne Nat lR cdx)
  d15 : (@Ne Nat lR lc)
inductive CtrJ (w : World) (x dx cx cdx lc lR ax : Addr) (t t1 t2 t3 tb : Tok) (v q : Nat) (ks : List (List Int)) (b : Array UInt8) (n : Nat) (m : Str → Option Value) (nw : List (Addr × Obj)) : Prop
  | mk0 (j : Nat) (usR usC : List Value) (nR nC : Nat) (z1 : n = q - j) (z2 : j ≤ q) (z3 : nw = [(lR, listOf usR.toArray nR), (x, instObj 441 dx), (dx, dictOf (ctrEs w.params t ax t1 cx t2 lR) 3), (cx, instObj 151 cdx), (cdx, dictOf (ctEs w.params t3 lc) 1), (lc, listOf usC.toArray nC)]) (z4 : IntsAre usR (ctrRow w.params ks v j)) (z5 : IntsAre usC (oct16 (v + j))) (z6 : Keeps [(Str.ofString "self", .ref x), (Str.ofString "plaintext", .bytes b tb)] m) : CtrJ w x dx cx cdx lc lR ax t t1 t2 t3 tb v q ks b n m nw
theorem ctre_spec (w : World) {x dx cx cdx lc lR ax : Addr} {t t1 t2 t3 tb : Tok} {nR nc v q : Nat} {usc : List Value} {ks : List (List Int)} {ns : List Int} {b : Array UInt8} (O : CtrO x dx cx cdx lc lR) (hb : KBw.bInts b = ns) (ho : ∀ y ∈ ns, OctOk y) (hl : ns.length = 16 * q) (hq : q ≤ 10) (hc : IntsAre usc (oct16 v)) (hv : v + q < 65535) :
    Spec w (.ref 431) [.ref x, .bytes b tb] (fun g => AesAt w g ax ks) [(x, instObj 441 dx), (dx, dictOf (ctrEs w.params t ax t1 cx t2 lR) 3), (lR, listOf (List.toArray []) nR), (cx, instObj 151 cdx), (cdx, dictOf (ctEs w.params t3 lc) 1), (lc, listOf usc.toArray nc)] 3 24
      (fun r nw => IsB (List.zipWith Builtin.bitXor ns (ctrRow w.params ks v q)) r ∧ nw = []) := by
  with_unfolding_all refine' spec_def ?ho ?hcd ?hbind ?hloc ?c2 ?c3 ?c4 ?c5 ?_
  (case ho => k_is)
  (case hcd => k_is)
  (case hbind => first | exact bind_plain rfl | exact bind_dflt rfl (by k_is) rfl rfl rfl)
  (case hloc => exact locs rfl)
  (case c2 => exact rfl)
  (case c3 => exact rfl)
  (case c4 => exact rfl)
  (case c5 => decide)
  intro p loose mean mg mb dp un gd cn cs ca ccd cl outer base L g L1 h1 s tk B F X N T hdp hun hyp
  refine letA ?_
  intro A0
  (try dsimp only)
  (try k_fold)
  obtain ⟨d1, d2, d3, d4, d5, d6, d7, d8, d9, d10, d11, d12, d13, d14, d15⟩ := O
  unfold ctrEs ctEs at N
  obtain ⟨dxa, ke, kd, ta1, ta2, nda, hax, hadx⟩ := hyp.inst
  have hln : LenIs ns (16 * (q : Int)) := ⟨by omega, by omega⟩
  (repeat' (first | (k_unfold; (try dsimp only)) | ((with_reducible show wpAny _ _ (exec _ _) _ _ _); (fail_if_success (fail_if_success k_fold)); refine foldQ ?_; intro q9) | ((with_reducible show wpAny _ _ (eval (Expr.Call _ _ _ _) _) _ _ _); (fail_if_success (fail_if_success k_fold)); refine foldQ ?_; intro q9) | ((with_reducible show wpAny _ _ (eval (Expr.Subscript _ _ _) _) _ _ _); (fail_if_success (fail_if_success k_fold)); refine foldQ ?_; intro q9)  | (k_here; (with_reducible show wpAny _ _ (exec (Stmt.While _ _ _ _) _) _ _ _); (refine Hold.mk ?_)) | (k_end; wrow_close) | walk1 | (dsimp only; walk1) | (leave1; walk_say "STEP leave1"; try dsimp only) | fail "no step"))
  unfold Hold
  rename Fr _ _ _ _ => F1
  rename News _ _ _ _ => N1
  (try k_unfold)
  refine While_inv (fun n m nw => CtrJ w x dx cx cdx lc lR ax t t1 t2 t3 tb v q ks b n m nw) (n₀ := q) F1 (News.sub N1 (nw := [(lR, _), (x, _), (dx, _), (cx, _), (cdx, _), (lc, _)]) (by unfold ctrEs ctEs; lcg_sub)) ⟨0, [], _, _, _, rfl, Nat.zero_le _, rfl, .nil, hc, rfl, rfl, trivial⟩ ?_
  clear F1 N1
  rintro n m nw h tk F N ⟨j, usR, usC, nR, nC, rfl, hj, rfl, hR, hC, hk⟩
  first | replace F := hk.fr F | replace F := hk.frI F
  clear hk
  unfold ctrEs ctEs at N
  have hRl := ctrRow_len w.params ks v j
  have hL : LenIs (ctrRow w.params ks v j) (16 * (j : Int)) := ⟨by omega, by omega⟩
  have hLe : LenLe (ctrRow w.params ks v j) 200 := by unfold LenLe; omega
  by_cases hjq : j < q
  · have hOl := oct16_len (v + j)
    have hOo := oct16_oct (v := v + j) (by omega)
    have hEl : LenIs (enc w.params ks (oct16 (v + j))) 16 := ⟨rfl, by rw [enc_len]; decide⟩
    have hS := ctrRow_succ w.params ks v j
    (repeat' (first | (k_unfold; (try dsimp only)) | ((with_reducible show wpAny _ _ (exec _ _) _ _ _); (fail_if_success (fail_if_success k_fold)); refine foldQ ?_; intro q9) | ((with_reducible show wpAny _ _ (eval (Expr.Call _ _ _ _) _) _ _ _); (fail_if_success (fail_if_success k_fold)); refine foldQ ?_; intro q9) | ((with_reducible show wpAny _ _ (eval (Expr.Subscript _ _ _) _) _ _ _); (fail_if_success (fail_if_success k_fold)); refine foldQ ?_; intro q9)  | (k_here; (with_reducible show wpAny _ _ (call (Prod.fst _) (_ ++ [])) _ _ _); dsimp only [List.nil_append, List.cons_append, List.append_nil]) | (k_here; (with_reducible show wpAny _ _ (getAttr (Value.ref _) (Str.ofString "value") _) _ _ _); k_dflt (refine' get_prop ?k1 ?k2 ?k3 ?k4 ?k5 ?k6 ?k7 ?k8 ?k9 ?_; (case k1 | k2 => k_asm); (case k3 => k_inst); (case k4 | k5 | k6 | k7 | k8 | k9 => k_is); k_whole; (refine' ktl_code ?k1 ?k2 ?k3 ?k4 ?k5 ?kA ?kF ?kK ?k6 ?k7 ?k8 ?k9 ?kB ?_ ?c2 ?c3 ?c4 ?c5; (case kA | kF | kK => exact rfl); (case k1 | k2 | k3 | k4 | k5 => k_asm); (case k6 | k7 => k_is); (case k8 => first | ktr_room | (show dp + 1 < recursionLimit; omega)); (case k9 => exact rfl); (case c5 => decide); (case kB => exact locs rfl); (case c2 | c3 | c4 => exact rfl); k_whole; intro g' L' h' FG' F' N' B' X' T'; (try dsimp only); (try k_lift B'); (try k_fold)))) | (k_here; (with_reducible show WhileStep _ _ _ _ _ _ _); (refine Hold.mk ?_)) | (k_here; (with_reducible show wpAny _ _ (call (Value.ref 148) [Value.ref _]) _ _ _); k_dflt ( refine' inc_use ?k1 ?k2 ?k3 ?k4 ?k5 ?k6 ?k7 ?k8 ?k9 ?k10 ?k11 ?k12 ?k13 ?k14 ?k15 ?k16 ?k17 ?_; (case k1 | k2 | k3 | k4 | k5 => k_asm); (case k6 => first | exact rfl | assumption); (case k7 => k_mem); (case k8 => (unfold ctEs; k_mem)); (case k9 => k_mem); (case k10 => k_updF); (case k11 | k12 | k13 | k14 => tb_start); (case k15 => first | tb_start | omega); (case k16 => ktr_room); (case k17 => ktr_units); intro us' n' h' tk' F' N' hi'; (try dsimp only at N'); (try k_fold))) | (k_here; (with_reducible show wpAny _ _ (inplaceOp _ (Value.ref _) (Value.ref _)) _ _ _); k_dflt (refine' iadd_f ?k1 ?k2 ?k3 ?k4 ?k9 ?k5 ?k6 ?k7 ?k8 ?k10 ?_; (case k1 | k2 => k_asm); (case k3 | k4 => k_mem); (case k9 => k_updF); (case k5 | k6 | k7 | k8 => tb_start); (case k10 => decide); k_whole); intro us' h' F' N' hi'; (try dsimp only at N'); (try k_fold)) | (k_here; (with_reducible show wpAny _ _ (call (Value.builtin _) [Value.ref _]) _ _ _); k_dflt (refine len_listN (by k_asm) (by k_mem) (by tb_start) (by tb_start) (fun t' k' => ?_)); (try k_fold)) | (k_here; (with_reducible show wpAny _ _ (call (Value.builtin _) [Value.bytes _ _]) _ _ _); k_dflt (refine len_bytesN (by tb_start) (by tb_start) (fun t' k' => ?_)); (try k_fold)) | (k_here; (with_reducible show wpAny _ _ (call (Value.ref 108) [_, _]) _ _ _); k_dflt ( refine' enc_use ?k1 ?k2 ?k3 ?k4 ?k5 ?k6 ?k7 ?k8 ?k9 ?k10 ?k11 ?k12 ?_; (case k1 | k2 | k3 | k4 | k5 => k_asm); (case k6 => first | exact rfl | assumption); (case k7 => first | exact AesAt.mono (by tb_start) (Fr.keep (by k_asm)) | exact AesL.at (by tb_start) (News.sub (by k_asm) (by lcg_sub))); (case k8 => first | exact PVl.bytes (by tb_start) | exact PVl.list (by k_mem) (by tb_start) | exact PVl.base (by tb_start) (by tb_start) | exact PVl.sub (by tb_start) (by lcg_sub)); (case k9 | k10 => tb_start); (case k11 => ktr_room); (case k12 => ktr_units); intro l' us' nn' h' tk' F' N' l1 hi' hl' ho'; (have h8 := l1); (simp only [AllNe, and_true] at l1); (repeat (first | (refine an8 l1 ?_; clear l1; intro hne' hne' hne' hne' hne' hne' hne' l1) | (refine an4 l1 ?_; clear l1; intro hne' hne' hne' l1) | (refine an2 l1 ?_; clear l1; intro hne' l1))); (try k_fold))) | (k_end; wrow_close) | walk1 | (dsimp only; walk1) | (leave1; walk_say "STEP leave1"; try dsimp only) | fail "no step"))
    unfold Hold
    rename News _ _ _ _ => N9
    rename Fr _ _ _ _ => F9
    exact WhileStep.intro F9 (fun p hp => N9 p ((by unfold ctrEs ctEs; lcg_sub : ∀ p ∈ _, p ∈ _) p hp)) (n' := q - (j + 1)) (by omega) ⟨j + 1, _, _, _, _, rfl, by omega, rfl, by rw [hS]; assumption, by assumption, rfl, rfl, trivial⟩
  · obtain rfl : j = q := by omega
    have z1 : ns.length ≤ (ctrRow w.params ks v j).length := by omega
    have hZ2 : (List.zipWith Builtin.bitXor ns (ctrRow w.params ks v j)).length ≤ 200 := by rw [List.length_zipWith]; omega
    have hZ3 := xor_oct ho hRl.2
    have hx0 : (0 : Int) ≤ 16 * (j : Int) := by omega
    have hx1 : (ctrRow w.params ks v j).length ≤ 100000 := by omega
    have hx2 : (ctrRow w.params ks v j).drop (16 * (j : Int)).toNat = [] := List.drop_of_length_le (by omega)
    have hZ : LenIs (List.zipWith Builtin.bitXor ns (ctrRow w.params ks v j)) (16 * (j : Int)) := ⟨by rw [List.length_zipWith]; omega, by rw [List.length_zipWith]; omega⟩
    (repeat' (first | (k_unfold; (try dsimp only)) | ((with_reducible show wpAny _ _ (exec _ _) _ _ _); (fail_if_success (fail_if_success k_fold)); refine foldQ ?_; intro q9) | ((with_reducible show wpAny _ _ (eval (Expr.Call _ _ _ _) _) _ _ _); (fail_if_success (fail_if_success k_fold)); refine foldQ ?_; intro q9) | ((with_reducible show wpAny _ _ (eval (Expr.Subscript _ _ _) _) _ _ _); (fail_if_success (fail_if_success k_fold)); refine foldQ ?_; intro q9)  | (k_here; (with_reducible show wpAny _ _ (subscriptTail _ _ (Value.ref _) (Value.ref _)) _ _ _); k_dflt (refine' cutl_from ?k1 ?k2 ?k3 ?k4 ?k5 ?k6 ?k7 (fun D' us' h' k' F' N' lt' hi' => ?_) ?k8 ?k9; (case k1 | k2 => k_asm); (case k3 => k_mem); (case k4 => tb_start); (case k5 => first | tb_start | decide); (case k6 | k7 => tb_start); (case k8 => intro _ _; with_unfolding_all rfl); (case k9 => intro _ _; with_unfolding_all rfl)); (have h8 := lt'); (simp only [AllNe, and_true] at lt'); (try k_fold)) | (k_here; (with_reducible show wpAny _ _ (call (Value.type "zip") [_, _]) _ _ _); k_dflt ( refine' zip_src ?k0 ?k1 ?k2 ?k3 ?k4 ?k5 ?k6 ?_; (case k0 => exact rfl); (case k1 | k2 => k_asm); (case k3 | k4 => first | exact PVl.bytes (by tb_start) | exact PVl.list (by k_mem) (by tb_start) | exact PVl.base (by tb_start) (by tb_start) | exact PVin.pl (by tb_start) | tb_start); (case k5 | k6 => first | tb_start | omega); intro g' ys' hys' D' h' tk' F' N' o1; (have h8 := o1); (simp only [LCg.Off1, and_true] at o1); (try k_fold))) | (k_here; (with_reducible show wpAny _ _ (exec (Stmt.Assign [Expr.Name _ _] (Expr.ListComp _ [⟨Expr.Tuple _ _ _, _, _, _⟩] _ _) _) _) _ _ _); k_dflt (refine Assign_ListComp_Z (by k_asm) (by rfl) (by with_unfolding_all rfl) (by with_unfolding_all rfl) (by decide) (by rfl) (by decide) (by rfl) (by rfl) (by decide) (by decide) (by decide) (by rfl) (by rfl) ?_)) | (k_here; (with_reducible show wpAny _ _ (call (Value.builtin _) [Value.ref _]) _ _ _); k_dflt (refine len_listN (by k_asm) (by k_mem) (by tb_start) (by tb_start) (fun t' k' => ?_)); (try k_fold)) | (k_here; (with_reducible show wpAny _ _ (call (Value.builtin _) [Value.bytes _ _]) _ _ _); k_dflt (refine len_bytesN (by tb_start) (by tb_start) (fun t' k' => ?_)); (try k_fold)) | (k_here; (with_reducible show wpAny _ _ (call (Value.ref 40) [Value.ref _]) _ _ _); k_dflt ( refine' b2str_use ?k1 ?k2 ?k3 ?k4 ?k5 ?k6 ?k7 ?k8 ?k9 ?k15 ?k16 ?_; (case k1 | k2 | k3 | k4 | k5 => k_asm); (case k6 => first | exact rfl | assumption); (case k7 => first | exact PVl.list (by k_mem) (by tb_start) | exact PVl.base (by tb_start) (by tb_start)); (case k8 => tb_start); (case k9 => first | tb_start | omega); (case k15 => ktr_room); (case k16 => ktr_units); intro b' t' h' k' F' N' hb'; (try k_fold))) | (k_here; (with_reducible show wpAny _ _ (call (Value.ref 33) [Value.bytes _ _]) _ _ _); k_dflt ( refine' (str2b_spec _).read ?k1 ?k2 ?k3 ?k4 ?k5 ?k6 ?k15 ?k16 ?ky ?_; (case ky => exact fun _ _ => trivial); (case k1 | k2 | k3 | k4 | k5 => k_asm); (case k6 => first | exact rfl | assumption); (case k15 => ktr_room); (case k16 => ktr_units); intro v' h' k' F' N' hs' hv'; subst hv'; (clear hs'); (try k_fold))) | (k_end; wrow_close) | walk1 | (dsimp only; walk1) | (leave1; walk_say "STEP leave1"; try dsimp only) | fail "no step"))
    exact Ends.mk2 (by k_asm) (by k_asm) ⟨⟨_, _, rfl, by assumption⟩, rfl⟩ (fun _ h => nomatch h)
end
section
theorem ctrd_spec (w : World) {x dx cx cdx lc lR ax : Addr} {t t1 t2 t3 tb : Tok} {nR nc v q : Nat} {usc : List Value} {ks : List (List Int)} {ns : List Int} {b : Array UInt8} (O : CtrO x dx cx cdx lc lR) (hb : KBw.bInts b = ns) (ho : ∀ y ∈ ns, OctOk y) (hl : ns.length = 16 * q) (hq : q ≤ 10) (hc : IntsAre usc (oct16 v)) (hv : v + q < 65535) :
    Spec w (.ref 438) [.ref x, .bytes b tb] (fun g => AesAt w g ax ks) [(x, instObj 441 dx), (dx, dictOf (ctrEs w.params t ax t1 cx t2 lR) 3), (lR, listOf (List.toArray []) nR), (cx, instObj 151 cdx), (cdx, dictOf (ctEs w.params t3 lc) 1), (lc, listOf usc.toArray nc)] 4 32
      (fun r nw => IsB (List.zipWith Builtin.bitXor ns (ctrRow w.params ks v q)) r ∧ nw = []) := by
  with_unfolding_all refine' spec_def ?ho ?hcd ?hbind ?hloc ?c2 ?c3 ?c4 ?c5 ?_
  (case ho => k_is)
  (case hcd => k_is)
  (case hbind => first | exact bind_plain rfl | exact bind_dflt rfl (by k_is) rfl rfl rfl)
  (case hloc => exact locs rfl)
  (case c2 => exact rfl)
  (case c3 => exact rfl)
  (case c4 => exact rfl)
  (case c5 => decide)
  intro p loose mean mg mb dp un gd cn cs ca ccd cl outer base L g L1 h1 s tk B F X N T hdp hun hyp
  refine letA ?_
  intro A0
  (try dsimp only)
  (try k_fold)
  unfold ctrEs ctEs at N
  (repeat' (first | (k_unfold; (try dsimp only)) | ((with_reducible show wpAny _ _ (exec _ _) _ _ _); (fail_if_success (fail_if_success k_fold)); refine foldQ ?_; intro q9) | ((with_reducible show wpAny _ _ (eval (Expr.Call _ _ _ _) _) _ _ _); (fail_if_success (fail_if_success k_fold)); refine foldQ ?_; intro q9) | ((with_reducible show wpAny _ _ (eval (Expr.Subscript _ _ _) _) _ _ _); (fail_if_success (fail_if_success k_fold)); refine foldQ ?_; intro q9)  | (k_here; (with_reducible show wpAny _ _ (call (Value.ref 431) [Value.ref _, Value.bytes _ _]) _ _ _); k_dflt ( refine' spec_last (rest := []) (ctre_spec w O hb ho hl hq hc hv) ?k1 ?k2 ?k3 ?k4 ?k5 ?k6 ?k7 ?k8 ?k9 ?k10 ?k11 ?_; (case k1 | k2 | k3 | k4 | k5 => k_asm); (case k6 => first | exact rfl | assumption); (case k7 => (unfold ctrEs ctEs; lcg_sub)); (case k8 => exact fun g' K' => AesAt.mono (by tb_start) (base_keep (by k_asm) (News.sub (by k_asm) (by unfold ctrEs ctEs; lcg_sub)) K')); (case k9 => exact fun _ h => nomatch h); (case k10 => ktr_room); (case k11 => ktr_units); rintro v' h' tk' F' N' ⟨b', t', hv', hb'⟩; subst hv'; (try k_fold))) | (k_end; wrow_close) | walk1 | (dsimp only; walk1) | (leave1; walk_say "STEP leave1"; try dsimp only) | fail "no step"))
  exact Ends.mk2 (by k_asm) (by k_asm) ⟨⟨_, _, rfl, by assumption⟩, rfl⟩ (fun _ h => nomatch h)
end
section
theorem off_nil {tl : List (Addr × Obj)} : ∀ p ∈ tl, ∀ q ∈ ([] : List (Addr × Obj)), q.1 ≠ p.1 := fun _ _ _ h => nomatch h
theorem off_cons {x : Addr} {o : Obj} {tl fr : List (Addr × Obj)} (h : AllNe x tl) (k : ∀ p ∈ tl, ∀ q ∈ fr, q.1 ≠ p.1) : ∀ p ∈ tl, ∀ q ∈ (x, o) :: fr, q.1 ≠ p.1 := fun p hp q hq => by
  rcases List.mem_cons.mp hq with rfl | hq
  · exact Ne.symm (h.out p hp)
  · exact k p hp q hq
theorem AllNeT.out {tl : List (Addr × Obj)} : ∀ {l : List (Addr × Obj)}, AllNeT tl l → ∀ p ∈ l, ∀ q ∈ tl, q.1 ≠ p.1
  | [], _, _, hp => by simp at hp
  | r :: l, h, p, hp => by
    rcases List.mem_cons.mp hp with e | hp
    · rw [e]; exact h.1.out
    · exact AllNeT.out h.2 p hp
theorem sepT {nw fr all : List (Addr × Obj)} (h : AllNeT nw all) (s : ∀ q ∈ fr, q ∈ nw) : ∀ p ∈ all, ∀ q ∈ fr, q.1 ≠ p.1 := fun p hp q hq => h.out p hp q (s q hq)
section
variable {w : World} {E : Value → Shared → Prop} {p : Program} {loose : List Str} {mean : ExcName → Option Value} {mg mb : Str → Option Value} {dp un : Nat} {gd : Option (List Code)} {cn : Str} {cs : Scope} {a : Addr} {ccd : Value} {cl : List (Str × Addr)} {outer : List Env} {A₀ : Around} {base h₀ : Heap} {L : Addr} {m : Str → Option Value} {s : Shared}
/-- a class of the base is called: what its __init__ leaves -/
theorem new_use {Q : Value → Shared → Prop} {C f : Addr} {args : List Value} {D U : Nat} {all : List (Addr × Obj)} {R : Addr → Addr → Value → List (Addr × Obj) → Prop} (S : ∀ x dx, (@Ne Nat x dx) → Spec w (.ref f) (.ref x :: args) (fun _ => True) [(x, instObj C dx), (dx, dictOf [] 0)] D U (R x dx))
    (hR : ∀ x dx v nw, R x dx v nw → v = .none) (k1 : makesIn (mkK.heap_1 w.params) C = true) (k2 : findIn (mkK.heap_1 w.params) (.ref C) "__init__" = some (some (.ref f))) (k3 : isFn (mkK.heap_1 w.params) (.ref f) = true)
    (B : Below A₀ base outer h₀) (F : Fr h₀ L s.heap m) (X : (mkK.heap_1 w.params).In h₀) (N : News h₀ L s.heap all) (T : Top p loose mean mg mb h₀) (hk : cs.kind = .function) (hd' : dp + 1 + D < recursionLimit) (hu : un + 1 + U < cLine)
    (cont : ∀ x dx nw h' tk, (@Ne Nat x dx) → Fr h₀ L h' m → News h₀ L h' (nw ++ all) → AllNeT nw all → R x dx .none nw → Q (.ref x) { s with heap := h', toks := tk }) :
    wpAny (model PySem.Challenge.rw_yv0001_01.row.prog w) (ktrTop dp un gd cn cs L a ccd cl outer) (call (.ref C) args) Q E s := by
  refine call_cls F X N k1 k2 k3 fun x dx h1 F1 N1 l1 l2 => ?_
  refine S x dx (Nat.ne_of_gt l2) p loose mean mg mb (dp + 1) (un + 1) _ cn cs a ccd cl outer A₀ base h₀ L m { s with heap := h1 } (fun v s' => InitBack x (fun r s' => match r with | .ok (.ret v) => Q v s' | .ok _ => False | .error e => E e s') (.ok (.ret v)) s') E B F1 X (fun q hq => ?_) T hk hd' hu (fun _ _ => trivial) ?_
  · rcases List.mem_cons.mp hq with rfl | hq
    · exact N1 _ List.mem_cons_self
    · rw [List.mem_singleton.mp hq]; exact N1 _ (List.mem_cons_of_mem _ List.mem_cons_self)
  · rintro v news' h' tk' F' N' K' fr r
    have hv := hR _ _ _ _ r
    subst hv
    have low : ∀ p ∈ all, p.1 ∉ [x, dx] := fun p hp h => by
      have := l1 p hp
      simp only [List.mem_cons, List.not_mem_nil, or_false] at h
      rcases h with h | h
      · rw [h] at this; exact absurd this (Nat.not_lt.mpr (Nat.le_of_lt l2))
      · rw [h] at this; exact absurd this (Nat.lt_irrefl _)
    have Nall : News h₀ L h1 all := fun p hp => N1 p (List.mem_cons_of_mem _ (List.mem_cons_of_mem _ hp))
    refine ⟨rfl, cont x dx news' h' tk' (Nat.ne_of_gt l2) F' (fun q hq => ?_) (allNeT_of fun p hp q hq e => ?_) r⟩
    · rcases List.mem_append.mp hq with hq | hq
      · exact N' q hq
      · exact ⟨K' _ _ (Nall q hq).1 (low q hq), (Nall q hq).2⟩
    · rcases fr q hq with h | h
      · exact low p hp (e ▸ h)
      · rw [e, (Nall p hp).1] at h; cases h
/-- a method's call after which the object is needed no more -/
theorem meth_last {Q : Value → Shared → Prop} {f : Value} {args : List Value} {fr tl whole all : List (Addr × Obj)} {ax : Addr} {ks : List (List Int)} {zs : List Int} {D U : Nat} (S : Spec w f args (fun g => AesAt w g ax ks) fr D U (fun v nw => IsB zs v ∧ nw = []))
    (B : Below A₀ base outer h₀) (F : Fr h₀ L s.heap m) (X : (mkK.heap_1 w.params).In h₀) (N : News h₀ L s.heap whole) (T : Top p loose mean mg mb h₀) (hk : cs.kind = .function) (sub : ∀ p ∈ fr, p ∈ whole) (hA : AesL w.params tl ax ks) (off : ∀ p ∈ tl, ∀ q ∈ fr, q.1 ≠ p.1) (subt : ∀ p ∈ tl, p ∈ whole)
    (sep : ∀ p ∈ all, ∀ q ∈ fr, q.1 ≠ p.1) (suba : ∀ p ∈ all, p ∈ whole) (hd' : dp + D < recursionLimit) (hu : un + U < cLine)
    (cont : ∀ b t h' tk, Fr h₀ L h' m → News h₀ L h' all → KBw.bInts b = zs → Q (.bytes b t) { s with heap := h', toks := tk }) :
    wpAny (model PySem.Challenge.rw_yv0001_01.row.prog w) (ktrTop dp un gd cn cs L a ccd cl outer) (call f args) Q E s :=
  spec_last S B F X N T hk sub (fun g K => AesL.at hA (L := L) (g := h₀) fun p hp => ⟨K _ _ (N p (subt p hp)).1 fun hm => by
      obtain ⟨z, hz, e⟩ := List.mem_map.mp hm
      exact off p hp z hz e, (N p (subt p hp)).2⟩) (fun q hq => ⟨suba q hq, sep q hq⟩) hd' hu fun v h' tk F' N' r => by
    obtain ⟨b, t, rfl, hb⟩ := r
    exact cont b t h' tk F' N' hb
end
theorem AesL.inst {P : Params} {tl : List (Addr × Obj)} {x : Addr} {ks : List (List Int)} (A : AesL P tl x ks) : ∃ dx ke kd t1 t2 n, (x, instObj 116 dx) ∈ tl ∧ (dx, dictOf (kePair P ke kd t1 t2) n) ∈ tl := by
  obtain ⟨dx, ke, kd, t1, t2, nd, nk, bs, a, b, _⟩ := A
  exact ⟨dx, ke, kd, t1, t2, nd, a, b⟩
theorem InstAt.of_tl {h₀ h : Heap} {L x C dx : Addr} {tl whole : List (Addr × Obj)} {od : Obj} (N : News h₀ L h whole) (h1 : (x, instObj C dx) ∈ tl) (h2 : (dx, od) ∈ tl) (sub : ∀ p ∈ tl, p ∈ whole) : InstAt h x (instObj C dx) C (some od) :=
  InstAt.of_news (News.sub N sub) h1 h2
theorem all_app {d : Addr} {a b : List (Addr × Obj)} (h : ∀ p ∈ a, p.1 ≠ d) (k : ∀ p ∈ b, p.1 ≠ d) : ∀ p ∈ a ++ b, p.1 ≠ d := fun p hp => (List.mem_append.mp hp).elim (h p) (k p)
theorem tail_sep {d : Addr} {o : Obj} {nw l : List (Addr × Obj)} (h : AllNeT nw l) (hm : (d, o) ∈ nw) : ∀ p ∈ l, p.1 ≠ d := fun p hp => Ne.symm (h.out p hp _ hm)
theorem allNe_sub {d : Addr} {l l' : List (Addr × Obj)} (h : AllNe d l) (s : ∀ p ∈ l', p ∈ l) : ∀ p ∈ l', p.1 ≠ d := fun p hp => h.out p (s p hp)
theorem News.last2 {g h : Heap} {L : Addr} {p q : Addr × Obj} {tl all : List (Addr × Obj)} (N : News g L h ((p :: q :: tl) ++ all)) : News g L h (p :: q :: (all ++ tl)) := fun r hr => N r (by
  simp only [List.mem_cons, List.mem_append, List.cons_append] at hr ⊢
  rcases hr with h | h | h | h
  · exact .inl h
  · exact .inr (.inl h)
  · exact .inr (.inr (.inr h))
  · exact .inr (.inr (.inl h)))
theorem News.last3 {g h : Heap} {L : Addr} {p q o : Addr × Obj} {tl all : List (Addr × Obj)} (N : News g L h ((p :: q :: o :: tl) ++ all)) : News g L h (p :: q :: o :: (all ++ tl)) := fun r hr => N r (by
  simp only [List.mem_cons, List.mem_append, List.cons_append] at hr ⊢
  rcases hr with h | h | h | h | h
  · exact .inl h
  · exact .inr (.inl h)
  · exact .inr (.inr (.inl h))
  · exact .inr (.inr (.inr (.inr h)))
  · exact .inr (.inr (.inr (.inl h))))
/-- a row of values that are bytes -/
inductive BytesAre : List Value → List (List Int) → Prop
  | nil : BytesAre [] []
  | cons {b : Array UInt8} {r : List Int} {vs : List Value} {rs : List (List Int)} (t : Tok) (hb : KBw.bInts b = r) (h : BytesAre vs rs) : BytesAre (.bytes b t :: vs) (r :: rs)
theorem BytesAre.len : ∀ {vs : List Value} {rs : List (List Int)}, BytesAre vs rs → vs.length = rs.length
  | _, _, .nil => rfl
  | _, _, .cons _ _ h => congrArg (· + 1) h.len
theorem BytesAre.get : ∀ {vs : List Value} {rs : List (List Int)} {i : Nat} {v : Value}, BytesAre vs rs → vs[i]? = some v → ∃ b t, v = .bytes b t ∧ KBw.bInts b = rs.getD i []
  | _, _, _, _, .nil, h => by simp at h
  | _, _, 0, _, .cons t hb _, h => ⟨_, t, (Option.some.inj h).symm, hb⟩
  | _, _, _ + 1, _, .cons _ _ hr, h => hr.get h
theorem BytesAre.snoc : ∀ {vs : List Value} {rs : List (List Int)} {b : Array UInt8} {t : Tok} {r : List Int}, BytesAre vs rs → KBw.bInts b = r → BytesAre (vs ++ [.bytes b t]) (rs ++ [r])
  | _, _, _, t, _, .nil, hb => .cons t hb .nil
  | _, _, _, _, _, .cons t hb h, hb' => .cons t hb (h.snoc hb')
theorem take_flat {rs : List (List Int)} {i : Nat} (h : i < rs.length) : (rs.take (i + 1)).flatten = (rs.take i).flatten ++ rs.getD i [] := by
  rw [List.take_succ, List.flatten_append, List.getD_eq_getElem?_getD, List.getElem?_eq_getElem h]
  simp
theorem flat_le {rs : List (List Int)} (hl : ∀ r ∈ rs, r.length = 16) : ∀ i, (rs.take i).flatten.length ≤ 16 * i
  | 0 => by simp
  | i + 1 => by
    have ih := flat_le hl i
    by_cases h : i < rs.length
    · rw [take_flat h, List.length_append]
      have : (rs.getD i []).length = 16 := by
        rw [List.getD_eq_getElem?_getD, List.getElem?_eq_getElem h]
        exact hl _ (List.getElem_mem h)
      omega
    · rw [List.take_of_length_le (by omega)] at ih ⊢
      omega
theorem joined_spec (w : World) {l : Addr} {vs : List Value} {rs : List (List Int)} {n : Nat} (hv : BytesAre vs rs) (hl : ∀ r ∈ rs, r.length = 16) (hn : rs.length ≤ 10) :
    Spec w (.ref 484) [.ref l] (fun _ => True) [(l, listOf vs.toArray n)] 1 8 (fun v nw => IsB rs.flatten v ∧ nw = []) := by
  with_unfolding_all refine' spec_def ?ho ?hcd ?hbind ?hloc ?c2 ?c3 ?c4 ?c5 ?_
  (case ho => k_is)
  (case hcd => k_is)
  (case hbind => first | exact bind_plain rfl | exact bind_dflt rfl (by k_is) rfl rfl rfl)
  (case hloc => exact locs rfl)
  (case c2 => exact rfl)
  (case c3 => exact rfl)
  (case c4 => exact rfl)
  (case c5 => decide)
  intro p loose mean mg mb dp un gd cn cs ca ccd cl outer base L g L1 h1 s tk B F X N T hdp hun hyp
  refine letA ?_
  intro A0
  (try dsimp only)
  (try k_fold)
  (repeat' (first | (k_unfold; (try dsimp only)) | ((with_reducible show wpAny _ _ (exec _ _) _ _ _); (fail_if_success (fail_if_success k_fold)); refine foldQ ?_; intro q9) | ((with_reducible show wpAny _ _ (eval (Expr.Call _ _ _ _) _) _ _ _); (fail_if_success (fail_if_success k_fold)); refine foldQ ?_; intro q9) | ((with_reducible show wpAny _ _ (eval (Expr.Subscript _ _ _) _) _ _ _); (fail_if_success (fail_if_success k_fold)); refine foldQ ?_; intro q9)  | (k_end; wrow_close) | walk1 | (dsimp only; walk1) | (leave1; walk_say "STEP leave1"; try dsimp only) | fail "no step"))
  rename Fr _ _ _ _ => F1
  rename News _ _ _ _ => N1
  refine kls_go (vs := vs) (n := n) (fun i m nw => ∃ (b : Array UInt8) (t : Tok), nw = [(l, listOf vs.toArray n)] ∧ KBw.bInts b = (rs.take i).flatten ∧ Keeps [(Str.ofString "found", .bytes b t)] m) rfl (fun i m nw h => ?_) F1 N1 ⟨_, _, rfl, rfl, rfl, trivial⟩ (by lcg_sub) ?_ ?_
  · obtain ⟨_, _, rfl, _⟩ := h
    exact List.mem_cons_self
  · rintro i m nw I it v h tk hvi hi ⟨b, t, rfl, hb, hk⟩ hoI F2 N2
    first | replace F2 := hk.fr F2 | replace F2 := hk.frI F2
    clear hk
    obtain ⟨b2, t2, rfl, hb2⟩ := hv.get hvi
    rw [hv.len] at hi
    have hr : (rs.getD i []).length = 16 := by
      rw [List.getD_eq_getElem?_getD, List.getElem?_eq_getElem hi]
      exact hl _ (List.getElem_mem hi)
    have hle := flat_le hl i
    have hz : (rs.take i).flatten.length + (rs.getD i []).length ≤ 16777216 := by omega
    have hs := take_flat hi
    have hIl : (@Ne Nat l I) := hoI _ List.mem_cons_self
    (try k_unmd)
    (try k_fold)
    (repeat' (first | (k_unfold; (try dsimp only)) | ((with_reducible show wpAny _ _ (exec _ _) _ _ _); (fail_if_success (fail_if_success k_fold)); refine foldQ ?_; intro q9) | ((with_reducible show wpAny _ _ (eval (Expr.Call _ _ _ _) _) _ _ _); (fail_if_success (fail_if_success k_fold)); refine foldQ ?_; intro q9) | ((with_reducible show wpAny _ _ (eval (Expr.Subscript _ _ _) _) _ _ _); (fail_if_success (fail_if_success k_fold)); refine foldQ ?_; intro q9)  | (k_here; (with_reducible show UnrEnd _ _ _ _ _ _ _); (refine Hold.mk ?_)) | (k_end; wrow_close) | walk1 | (dsimp only; walk1) | (leave1; walk_say "STEP leave1"; try dsimp only) | fail "no step"))
    unfold Hold
    exact unr_end (by k_asm) (by k_asm) ⟨_, _, rfl, by rw [hs]; assumption, rfl, trivial⟩ (by k_mem) (by lcg_sub) (by exact off_same hoI rfl)
  · rintro m nw h3 tk3 ⟨b, t, rfl, hb, hk⟩ F5 N5
    first | replace F5 := hk.fr F5 | replace F5 := hk.frI F5
    clear hk
    rw [hv.len, List.take_length] at hb
    (try k_unmd)
    (try k_fold)
    (repeat' (first | (k_unfold; (try dsimp only)) | ((with_reducible show wpAny _ _ (exec _ _) _ _ _); (fail_if_success (fail_if_success k_fold)); refine foldQ ?_; intro q9) | ((with_reducible show wpAny _ _ (eval (Expr.Call _ _ _ _) _) _ _ _); (fail_if_success (fail_if_success k_fold)); refine foldQ ?_; intro q9) | ((with_reducible show wpAny _ _ (eval (Expr.Subscript _ _ _) _) _ _ _); (fail_if_success (fail_if_success k_fold)); refine foldQ ?_; intro q9)  | (k_end; wrow_close) | walk1 | (dsimp only; walk1) | (leave1; walk_say "STEP leave1"; try dsimp only) | fail "no step"))
    exact Ends.mk2 (by k_asm) (by k_asm) ⟨⟨_, _, rfl, by assumption⟩, rfl⟩ (fun _ h => nomatch h)
end
section
section
variable {prog : Program} {w : World} {A : Around} {E : Value → Shared → Prop} {s : Shared}
theorem bytes_len_special : typeLookup (.type "bytes") "__len__" = pure (some (.builtin "bytes.__len__")) := by rw [typeLookup_type, builtinLookup_eq_fast]; kernel_rfl
theorem extend_bytes {R : Result → Shared → Prop} (hh : A.handled = none) (b : Array UInt8) (t : Tok) (S : Addr) (res : Value) (c₀ : Nat) (hS : s.heap.get? S = some { cls := .type "list", data := .seq #[] c₀ })
    (hR : ∀ h' tk acc' c', (∀ a o, a ≠ S → s.heap.get? a = some o → h'.get? a = some o) → h'.get? S = some { cls := .type "list", dict := none, data := .seq acc' c', slots := #[] } →
      ItemsOf (fun i v => ∃ c u, b[i]? = some c ∧ v = .int (c.toNat : Int) u) acc' b.size → R (.ok (.ret res)) { s with heap := h', toks := tk }) (hn : b.size ≤ sizeLine) :
    wpAny (model prog w) A.in1 (Builtin.List.listExtendWith (.ref S) (.bytes b t) res)
      (fun fin s' => match fin with | .done f => R (.ok f) s' | .again c' => c'.quiet = true ∧ codeAny (model prog w) A c' R s') (fun e s' => R (.error e) s') s := by
  have hSI : S ≠ s.heap.objs.size := Nat.ne_of_lt (Heap.lt_size hS)
  have hSf : S ∉ [s.heap.objs.size] := fun hm => hSI (List.mem_singleton.mp hm)
  have W := KBw.walks (prog := prog) (w := w) (A := A.in1) hh s.heap.objs.size b t
  unfold Builtin.List.listExtendWith
  refine wpAny_bind (wpAny_typeOf (T := "bytes") (v := .bytes b t) rfl ?_)
  have h1 : Builtin.List.listSameRef (.ref S) (.bytes b t) = false := rfl
  have h2 : (Value.type "bytes" == Value.type "list") = false := by decide
  have h3 : (Value.type "bytes" == Value.type "tuple") = false := by decide
  simp only [h1, h2, h3, Bool.or_false, Bool.false_eq_true, if_false]
  refine wpAny_bind (KBw.pyIter_bytes ?_)
  refine wpAny_bind (wpAny_holding ?_)
  unfold Builtin.List.listLengthHint
  refine wpAny_bind (wpAny_specialOf (T := "bytes") (v := .bytes b t) rfl bytes_len_special ?_)
  wp_delta
  refine wpAny_bind (wpAny_isInstance (T := "bytes") (v := .bytes b t) (b := true) rfl (by rw [isSubtype_type]; kernel_rfl) ?_)
  show wpAny _ _ (typeOf (Value.bytes b t) >>= _) _ _ _
  refine wpAny_bind (wpAny_typeOf (T := "bytes") (v := .bytes b t) rfl ?_)
  refine wpAny_pure ?_
  rw [if_neg (by decide)]
  refine wpAny_pure ⟨plainId_quiet F.plain_extend_loop _, codeAny_extend_loopS W.toS hn _ hSf _ b.size 0 _ _ _ rfl (Nat.zero_le _) ⟨_, Heap.get?_push_size _ rfl, rfl, rfl⟩ (Heap.get?_push_of_some _ hS) (ItemsOf.nil _) fun s' acc' c' hm hS' hacc => ?_⟩
  rw [Moved.eq_with hm]
  refine hR s'.heap s'.toks acc' c' (fun a o ha e => hm.heap a o (fun hmem => ?_) (Heap.get?_push_of_some _ e)) hS' hacc
  rcases List.mem_cons.mp hmem with e' | hmem
  · exact ha e'
  · exact absurd (Heap.lt_size e) (by rw [List.mem_singleton.mp hmem]; exact Nat.lt_irrefl _)
theorem list_init_bytes {R : Result → Shared → Prop} (hh : A.handled = none) (b : Array UInt8) (t : Tok) (S : Addr) (hS : s.heap.get? S = some { cls := .type "list", data := .seq #[] })
    (hR : ∀ h' tk acc' c', (∀ a o, a ≠ S → s.heap.get? a = some o → h'.get? a = some o) → h'.get? S = some { cls := .type "list", dict := none, data := .seq acc' c', slots := #[] } →
      ItemsOf (fun i v => ∃ c u, b[i]? = some c ∧ v = .int (c.toNat : Int) u) acc' b.size → R (.ok (.ret .none)) { s with heap := h', toks := tk }) (hn : b.size ≤ sizeLine) :
    wpAny (model prog w) A.in1 (Builtin.«list.__init__» ⟨[.ref S, .bytes b t], []⟩)
      (fun fin s' => match fin with | .done f => R (.ok f) s' | .again c' => c'.quiet = true ∧ codeAny (model prog w) A c' R s') (fun e s' => R (.error e) s') s := by
  show wpAny _ _ (do let old ← Builtin.List.listItems (.ref S); Builtin.List.listUpdate (.ref S) (fun _ => #[]); letGo old.toList.reverse; Builtin.List.listExtendWith (.ref S) (.bytes b t) .none) _ _ s
  refine wpAny_bind ?_
  unfold Builtin.List.listItems
  refine wpAny_bind (wpAny_seqItems hS rfl (wpAny_pure ?_))
  show wpAny _ _ (updateSeq S (fun _ => #[]) >>= fun _ => letGo (#[] : Array Value).toList.reverse >>= fun _ => Builtin.List.listExtendWith (.ref S) (.bytes b t) .none) _ _ s
  refine wpAny_bind (wpAny_updateSeq hS rfl ?_)
  have hS₂ := Heap.get?_update_self (Obj.mapSeq (fun _ => (#[] : Array Value))) hS rfl
  have oth : ∀ a o, a ≠ S → s.heap.get? a = some o → (s.heap.update S (Obj.mapSeq (fun _ => (#[] : Array Value)))).get? a = some o :=
    fun a o ha e => (Heap.get?_update_other _ _ (Ne.symm ha)).trans e
  refine wpAny_bind (wpAny_letGo ?_)
  refine extend_bytes hh b t S .none _ hS₂ (fun h' tk acc' c' hk hS' hacc => ?_) hn
  exact hR h' tk acc' c' (fun a o ha e => hk a o ha (oth a o ha e)) hS' hacc
theorem items_ints : ∀ (n : Nat) {b : Array UInt8} {us : List Value}, us.length = n → (∀ (i : Nat) (v : Value), us[i]? = some v → ∃ (c : UInt8) (u : Tok), b.toList[i]? = some c ∧ v = Value.int (c.toNat : Int) u) → n ≤ b.toList.length → IntsAre us ((b.toList.take n).map fun c => (c.toNat : Int))
  | 0, _, [], _, _, _ => .nil
  | n + 1, b, us, hl, h, hn => by
    have e : us = us.take n ++ us.drop n := (List.take_append_drop n us).symm
    have hd : (us.drop n).length = 1 := by rw [List.length_drop]; omega
    obtain ⟨v, hv⟩ : ∃ v, us.drop n = [v] := by
      match us.drop n, hd with
      | [v], _ => exact ⟨v, rfl⟩
    have hvi : us[n]? = some v := by
      have := congrArg (·[0]?) hv
      simpa using this
    obtain ⟨c, u, hc, rfl⟩ := h n v hvi
    have ih := items_ints n (b := b) (us := us.take n) (by rw [List.length_take]; omega) (fun i v hi => h i v (by
      rw [List.getElem?_take] at hi
      split at hi
      · exact hi
      · cases hi)) (by omega)
    rw [e, hv, List.take_succ, hc, List.map_append]
    exact IntsAre.append ih (.cons _ u .nil)
theorem call_list_bytes {h₀ : Heap} {L : Addr} {m : Str → Option Value} {news : List (Addr × Obj)} {b : Array UInt8} {t : Tok} {ns : List Int} {Q : Value → Shared → Prop} (hh : A.handled = none) (F : Fr h₀ L s.heap m) (N : News h₀ L s.heap news) (hb : KBw.bInts b = ns) (hz : ns.length ≤ 200)
    (h : ∀ D us n h' k, Fr h₀ L h' m → News h₀ L h' ((D, listOf (List.toArray us) n) :: news) → AllNe D news → IntsAre us ns → Q (.ref D) { s with heap := h', toks := k }) :
    wpAny (model prog w) A (call (.type "list") [.bytes b t]) Q E s := by
  have hsz : b.size = ns.length := by rw [← hb, KBw.ints_length]
  refine callType_codes (Q₁ := fun obj s₁ => obj = .ref s.heap.objs.size ∧ s₁ = { s with heap := s.heap.push { cls := .type "list", data := .seq #[] } }) PySem.F.called_list (PySem.F.typeCall_list_1 _) PySem.F.entry_list_init
    (code_list_new _ ⟨rfl, rfl⟩) fun obj s₁ h₁ => ?_
  obtain ⟨rfl, rfl⟩ := h₁
  have hS : (s.heap.push { cls := .type "list", data := .seq #[] }).get? s.heap.objs.size = some { cls := .type "list", data := .seq #[] } := Heap.get?_push_size _ rfl
  refine ⟨⟨_, hS, rfl⟩, PySem.F.args_list_init_2 _ _, list_init_bytes (A := A.in1) hh b t _ hS (fun h' tk acc' c' hk hS' hacc => ?_) (by rw [PySem.sizeLine_eq]; omega)⟩
  have hk2 : ∀ a o, s.heap.get? a = some o → h'.get? a = some o := fun a o e => hk a o (Nat.ne_of_lt (Heap.lt_size e)) (Heap.get?_push_of_some _ e)
  refine ⟨rfl, h _ acc'.toList c' h' tk (F.keeps hk2) (fun p hp => ?_) (allNe_of fun p hp => Nat.ne_of_lt (Heap.lt_size (N p hp).1)) ?_⟩
  · rcases List.mem_cons.mp hp with rfl | hp
    · refine ⟨by rw [Array.toArray_toList]; exact hS', Nat.ne_of_gt F.ns.lt, next_is_new F⟩
    · exact ⟨hk2 _ _ (N p hp).1, (N p hp).2⟩
  · have := items_ints b.size (b := b) (us := acc'.toList) (by rw [Array.length_toList]; exact hacc.1) (fun i v hv => by
      obtain ⟨c, u, hc, e⟩ := hacc.2 i v (by simpa using hv)
      exact ⟨c, u, by simpa using hc, e⟩) (by simp)
    rw [List.take_of_length_le (by simp)] at this
    rw [← hb]
    exact this
end
end
local macro_rules | `(tactic| k_inst) => `(tactic| first | exact InstAt.of_tl (by k_asm) (by with_reducible assumption) (by with_reducible assumption) (by lcg_sub) | fail "no object")
local macro_rules | `(tactic| k_all) => `(tactic| first | exact allNe_sub (by with_reducible assumption) (by lcg_sub) | fail "no row")
local macro_rules | `(tactic| k_ne) => `(tactic| (refine neN ?_; (try dsimp only); first | exact (LCg.Off3.mem (by with_reducible assumption) (_, _) (by k_mem)).1 | exact (LCg.Off3.mem (by with_reducible assumption) (_, _) (by k_mem)).2.1 | exact (LCg.Off3.mem (by with_reducible assumption) (_, _) (by k_mem)).2.2 | exact Ne.symm (LCg.Off3.mem (by with_reducible assumption) (_, _) (by k_mem)).1 | exact Ne.symm (LCg.Off3.mem (by with_reducible assumption) (_, _) (by k_mem)).2.1 | exact Ne.symm (LCg.Off3.mem (by with_reducible assumption) (_, _) (by k_mem)).2.2 | fail "no fact"))
local macro_rules | `(tactic| k_all) => `(tactic| first | exact tail_sep (by with_reducible assumption) (by k_mem) | (refine' all_app ?a9 ?b9; (case a9 => k_all); (case b9 => k_all)) | fail "no rows")
section
set_option maxHeartbeats 200000
/-- the row of blocks that each mode gives over noughts -/
noncomputable def ofbRow (P : Params) (ks : List (List Int)) (first : List Int) (n : Nat) : List Int := ((List.range n).map fun i => ecbIt P ks first (i + 1)).flatten
theorem ofbRow_succ (P : Params) (ks : List (List Int)) (first : List Int) (n : Nat) : ofbRow P ks first (n + 1) = ofbRow P ks first n ++ ecbIt P ks first (n + 1) := by
  unfold ofbRow
  rw [List.range_succ, List.map_append, List.flatten_append]
  simp
theorem ofbRow_len (P : Params) (ks : List (List Int)) (first : List Int) : ∀ n, (ofbRow P ks first n).length = 16 * n ∧ ∀ y ∈ ofbRow P ks first n, OctOk y
  | 0 => ⟨rfl, fun y hy => by simp [ofbRow] at hy⟩
  | n + 1 => by
    have ih := ofbRow_len P ks first n
    have h2 : (ecbIt P ks first (n + 1)).length = 16 := enc_len _ _ _
    have h3 : ∀ y ∈ ecbIt P ks first (n + 1), OctOk y := enc_oct _ _ _
    rw [ofbRow_succ]
    refine ⟨by rw [List.length_append, ih.1, h2]; omega, fun y hy => ?_⟩
    rcases List.mem_append.mp hy with hy | hy
    · exact ih.2 y hy
    · exact h3 y hy
/-- sixteen noughts, n times -/
def noughts (n : Nat) : List (List Int) := List.replicate n (List.replicate 16 0)
theorem noughts_ok (n : Nat) : ∀ r ∈ noughts n, r.length = 16 ∧ ∀ y ∈ r, OctOk y := fun r hr => by
  rw [List.eq_of_mem_replicate hr]
  exact ⟨rfl, fun y hy => by rw [List.eq_of_mem_replicate hy]; exact ⟨by decide, by decide⟩⟩
theorem noughts_flat : ∀ n, List.replicate (16 * n) (0 : Int) = (noughts n).flatten
  | 0 => rfl
  | n + 1 => by
    show _ = List.replicate 16 0 ++ (noughts n).flatten
    rw [← noughts_flat n, List.replicate_append_replicate]
    congr 1; omega
theorem noughts_get {n i : Nat} (h : i < n) : (noughts n).getD i [] = List.replicate 16 0 := by
  unfold noughts
  rw [List.getD_eq_getElem?_getD, List.getElem?_replicate, if_pos h]; rfl
theorem xor_zero {z : Int} (h : OctOk z) : Builtin.bitXor 0 z = z := by
  obtain ⟨n, _, rfl⟩ := nat_of_oct h
  have := bitXor_nat 0 n
  rw [Nat.zero_xor] at this
  exact this
theorem zero_row : ∀ {z : List Int}, (∀ y ∈ z, OctOk y) → List.zipWith Builtin.bitXor (List.replicate z.length 0) z = z
  | [], _ => rfl
  | y :: z, h => by
    rw [List.length_cons, List.replicate_succ, List.zipWith_cons_cons, xor_zero (h y List.mem_cons_self), zero_row fun q hq => h q (List.mem_cons_of_mem _ hq)]
theorem zero_row16 {z : List Int} (hl : z.length = 16) (h : ∀ y ∈ z, OctOk y) : List.zipWith Builtin.bitXor (List.replicate 16 0) z = z := by
  have := zero_row h
  rw [hl] at this; exact this
theorem xor_rows : ∀ {a z : List Int}, a.length = z.length → (∀ y ∈ a, OctOk y) → (∀ y ∈ z, OctOk y) → List.zipWith Builtin.bitXor (List.zipWith Builtin.bitXor a z) z = a
  | [], [], _, _, _ => rfl
  | x :: a, y :: z, hl, h1, h2 => by
    rw [List.zipWith_cons_cons, List.zipWith_cons_cons, xor_xor (h1 x List.mem_cons_self) (h2 y List.mem_cons_self), xor_rows (Nat.succ.inj hl) (fun q hq => h1 q (List.mem_cons_of_mem _ hq)) fun q hq => h2 q (List.mem_cons_of_mem _ hq)]
theorem xor_swap : ∀ {a z : List Int}, (∀ y ∈ a, OctOk y) → (∀ y ∈ z, OctOk y) → List.zipWith Builtin.bitXor a z = List.zipWith Builtin.bitXor z a
  | [], [], _, _ => rfl
  | [], _ :: _, _, _ => rfl
  | _ :: _, [], _, _ => rfl
  | x :: a, y :: z, h1, h2 => by
    rw [List.zipWith_cons_cons, List.zipWith_cons_cons, xor_comm (h1 x List.mem_cons_self) (h2 y List.mem_cons_self), xor_swap (fun q hq => h1 q (List.mem_cons_of_mem _ hq)) fun q hq => h2 q (List.mem_cons_of_mem _ hq)]
theorem cfb_zero (P : Params) (ks : List (List Int)) {first : List Int} (n : Nat) : ∀ i, i ≤ n → cfbAt P ks first (noughts n) i = ecbIt P ks first i
  | 0, _ => rfl
  | i + 1, h => by
    rw [cfbAt, noughts_get h, cfb_zero P ks n i (Nat.le_of_succ_le h), zero_row16 (enc_len _ _ _) (enc_oct _ _ _)]; rfl
theorem cfb_noughts (P : Params) (ks : List (List Int)) {first : List Int} (n : Nat) : cfbOut P ks first (noughts n) (noughts n).length = ofbRow P ks first n := by
  unfold cfbOut ofbRow
  rw [show (noughts n).length = n from List.length_replicate]
  congr 1
  refine List.map_congr_left fun i hi => cfb_zero P ks n (i + 1) (List.mem_range.mp hi)
theorem flat_getD : ∀ {rs : List (List Int)}, (∀ r ∈ rs, r.length = 16) → ∀ k, k < 16 * rs.length → rs.flatten.getD k 0 = (rs.getD (k / 16) []).getD (k % 16) 0
  | [], _, k, h => by simp at h
  | r :: rs, hl, k, h => by
    have e := hl r List.mem_cons_self
    rw [List.flatten_cons]
    by_cases hk : k < 16
    · rw [List.getD_eq_getElem?_getD, List.getElem?_append_left (by omega), Nat.div_eq_of_lt hk, Nat.mod_eq_of_lt hk, ← List.getD_eq_getElem?_getD, List.getD_cons_zero]
    · have ih := flat_getD (fun q hq => hl q (List.mem_cons_of_mem _ hq)) (k - 16) (by rw [List.length_cons] at h; omega)
      rw [List.getD_eq_getElem?_getD, List.getElem?_append_right (by omega), e, ← List.getD_eq_getElem?_getD, ih, show k / 16 = (k - 16) / 16 + 1 by omega, show (k - 16) % 16 = k % 16 by omega, List.getD_cons_succ]
theorem getD_map {f : Nat → List Int} {n i : Nat} (h : i < n) : ((List.range n).map f).getD i [] = f i := by
  rw [List.getD_eq_getElem?_getD, List.getElem?_map, List.getElem?_range h]; rfl
theorem ofbRow_get (P : Params) (ks : List (List Int)) (first : List Int) {n k : Nat} (hk : k < 16 * n) : (ofbRow P ks first n).getD k 0 = (ecbIt P ks first (k / 16 + 1)).getD (k % 16) 0 := by
  have h1 : ∀ r ∈ (List.range n).map fun i => ecbIt P ks first (i + 1), r.length = 16 := fun r hr => by
    obtain ⟨i, _, rfl⟩ := List.mem_map.mp hr
    exact enc_len _ _ _
  have h2 := flat_getD h1 k (by rw [List.length_map, List.length_range]; exact hk)
  rw [getD_map (f := fun i => ecbIt P ks first (i + 1)) (by omega : k / 16 < n)] at h2
  exact h2
theorem ofb_zip (P : Params) (ks : List (List Int)) {first ns : List Int} {n : Nat} (hl : ns.length = 16 * n) : ofbOut P ks first ns ns.length = List.zipWith Builtin.bitXor ns (ofbRow P ks first n) := by
  have hr := (ofbRow_len P ks first n).1
  have hz := zip_range Builtin.bitXor (hl.trans hr.symm)
  rw [hr] at hz
  rw [← hz, hl]
  unfold ofbOut
  refine List.map_congr_left fun k hk => ?_
  rw [ofbRow_get P ks first (List.mem_range.mp hk)]
theorem ofb_noughts (P : Params) (ks : List (List Int)) {first : List Int} (n : Nat) : ofbOut P ks first (noughts n).flatten (noughts n).flatten.length = ofbRow P ks first n := by
  have hl : (noughts n).flatten.length = 16 * n := by rw [← noughts_flat, List.length_replicate]
  rw [ofb_zip P ks hl]
  have hr := ofbRow_len P ks first n
  have := zero_row hr.2
  rw [hr.1] at this
  rw [← noughts_flat]; exact this
/-- the cipher blocks of CFB -/
noncomputable def cfbRows (P : Params) (ks : List (List Int)) (first : List Int) (bl : List (List Int)) : List (List Int) := (List.range bl.length).map fun i => cfbAt P ks first bl (i + 1)
theorem cfbRows_ok (P : Params) (ks : List (List Int)) {first : List Int} {bl : List (List Int)} (hl : ∀ r ∈ bl, r.length = 16 ∧ ∀ y ∈ r, OctOk y) (hs : first.length = 16) (ho : ∀ y ∈ first, OctOk y) : ∀ r ∈ cfbRows P ks first bl, r.length = 16 ∧ ∀ y ∈ r, OctOk y := fun r hr => by
  obtain ⟨i, hi, rfl⟩ := List.mem_map.mp hr
  exact cfbAt_ok P ks hl hs ho (i + 1) (List.mem_range.mp hi)
theorem cfb_rows (P : Params) (ks : List (List Int)) (first : List Int) (bl : List (List Int)) : cfbOut P ks first bl bl.length = (cfbRows P ks first bl).flatten := rfl
theorem cfb_back (P : Params) (ks : List (List Int)) {first : List Int} {bl : List (List Int)} (hl : ∀ r ∈ bl, r.length = 16 ∧ ∀ y ∈ r, OctOk y) (hs : first.length = 16) (ho : ∀ y ∈ first, OctOk y) :
    cfdOut P ks first (cfbRows P ks first bl) (cfbRows P ks first bl).length = bl.flatten := by
  have hn : (cfbRows P ks first bl).length = bl.length := by unfold cfbRows; rw [List.length_map, List.length_range]
  have hat : ∀ i, i ≤ bl.length → cfdAt first (cfbRows P ks first bl) i = cfbAt P ks first bl i
    | 0, _ => rfl
    | i + 1, h => getD_map h
  rw [hn]
  unfold cfdOut
  congr 1
  refine List.ext_getElem (by rw [List.length_map, List.length_range]) fun i h1 h2 => ?_
  rw [List.getElem_map, List.getElem_range]
  have hb := row_ok hl h2
  rw [hat i (Nat.le_of_lt h2)]
  unfold cfbRows
  rw [getD_map h2, cfbAt, xor_rows (by rw [hb.1, enc_len]) hb.2 (enc_oct _ _ _), List.getD_eq_getElem?_getD, List.getElem?_eq_getElem h2]; rfl
theorem zip_flat : ∀ {A B : List (List Int)}, A.length = B.length → (∀ r ∈ A, r.length = 16) → (∀ r ∈ B, r.length = 16) → List.zipWith Builtin.bitXor A.flatten B.flatten = (List.zipWith (List.zipWith Builtin.bitXor) A B).flatten
  | [], [], _, _, _ => rfl
  | a :: A, b :: B, hl, h1, h2 => by
    rw [List.flatten_cons, List.flatten_cons, List.zipWith_append ((h1 a List.mem_cons_self).trans (h2 b List.mem_cons_self).symm), List.zipWith_cons_cons, List.flatten_cons,
      zip_flat (Nat.succ.inj hl) (fun q hq => h1 q (List.mem_cons_of_mem _ hq)) fun q hq => h2 q (List.mem_cons_of_mem _ hq)]
/-- the blocks that CTR gives -/
noncomputable def ctrRows (P : Params) (ks : List (List Int)) (v : Nat) (bl : List (List Int)) : List (List Int) := List.zipWith (List.zipWith Builtin.bitXor) bl ((List.range bl.length).map fun i => enc P ks (oct16 (v + i)))
theorem ctr_rows (P : Params) (ks : List (List Int)) (v : Nat) {bl : List (List Int)} (hl : ∀ r ∈ bl, r.length = 16 ∧ ∀ y ∈ r, OctOk y) : List.zipWith Builtin.bitXor bl.flatten (ctrRow P ks v bl.length) = (ctrRows P ks v bl).flatten :=
  zip_flat (by rw [List.length_map, List.length_range]) (fun r hr => (hl r hr).1) fun r hr => by
    obtain ⟨i, _, rfl⟩ := List.mem_map.mp hr
    exact enc_len _ _ _
theorem ctrRows_get (P : Params) (ks : List (List Int)) (v : Nat) {bl : List (List Int)} {i : Nat} (h : i < bl.length) : (ctrRows P ks v bl).getD i [] = List.zipWith Builtin.bitXor (bl.getD i []) (enc P ks (oct16 (v + i))) := by
  unfold ctrRows
  rw [List.getD_eq_getElem?_getD, List.getElem?_zipWith, List.getElem?_map, List.getElem?_range h, List.getElem?_eq_getElem h, List.getD_eq_getElem?_getD, List.getElem?_eq_getElem h]; rfl
theorem ctrRows_ok (P : Params) (ks : List (List Int)) (v : Nat) {bl : List (List Int)} (hl : ∀ r ∈ bl, r.length = 16 ∧ ∀ y ∈ r, OctOk y) : (ctrRows P ks v bl).length = bl.length ∧ ∀ r ∈ ctrRows P ks v bl, r.length = 16 ∧ ∀ y ∈ r, OctOk y := by
  have hn : (ctrRows P ks v bl).length = bl.length := by unfold ctrRows; rw [List.length_zipWith, List.length_map, List.length_range, Nat.min_self]
  refine ⟨hn, fun r hr => ?_⟩
  obtain ⟨i, hi, rfl⟩ := List.getElem_of_mem hr
  have hi' : i < bl.length := hn ▸ hi
  have e := ctrRows_get P ks v hi'
  rw [List.getD_eq_getElem?_getD, List.getElem?_eq_getElem hi] at e
  have hb := row_ok hl hi'
  have e' : (ctrRows P ks v bl)[i] = List.zipWith Builtin.bitXor (bl.getD i []) (enc P ks (oct16 (v + i))) := e
  rw [e']
  exact ⟨by rw [List.length_zipWith, hb.1, enc_len]; rfl, xor_oct hb.2 (enc_oct _ _ _)⟩
theorem ctr_back (P : Params) (ks : List (List Int)) (v : Nat) {bl : List (List Int)} (hl : ∀ r ∈ bl, r.length = 16 ∧ ∀ y ∈ r, OctOk y) : List.zipWith Builtin.bitXor (ctrRows P ks v bl).flatten (ctrRow P ks v bl.length) = bl.flatten := by
  rw [← ctr_rows P ks v hl]
  have hr := ctrRow_len P ks v bl.length
  refine xor_rows (by rw [flat_len hl, hr.1]) (fun y hy => ?_) hr.2
  obtain ⟨r, hr, hy⟩ := List.mem_flatten.mp hy
  exact (hl r hr).2 y hy
theorem flat_oct {bl : List (List Int)} (hl : ∀ r ∈ bl, r.length = 16 ∧ ∀ y ∈ r, OctOk y) : ∀ y ∈ bl.flatten, OctOk y := fun y hy => by
  obtain ⟨r, hr, hy⟩ := List.mem_flatten.mp hy
  exact (hl r hr).2 y hy
end
section
section
variable {w : World} {A : Around} {E : Value → Shared → Prop} {s : Shared} {h₀ : Heap} {L : Addr} {m : Str → Option Value} {news : List (Addr × Obj)}
theorem cmp_ne {b c : Array UInt8} {t u : Tok} {n1 n2 : List Int} {Q : Value → Shared → Prop} (hb : KBw.bInts b = n1) (hc : KBw.bInts c = n2) (e : n1 = n2) (h : Q (.bool false) s) : wpAny (model PySem.Challenge.rw_yv0001_01.row.prog w) A (compareOp .NotEq (.bytes b t) (.bytes c u)) Q E s := by
  have hbc : b = c := bytes_eq (hb.trans (e.trans hc.symm))
  subst hbc
  refine ne_bytes ?_
  rw [bne_self_eq_false]; exact h
theorem cmp_eq {b c : Array UInt8} {t u : Tok} {n1 n2 : List Int} {Q : Value → Shared → Prop} (hb : KBw.bInts b = n1) (hc : KBw.bInts c = n2) (e : n1 = n2) (h : Q (.bool true) s) : wpAny (model PySem.Challenge.rw_yv0001_01.row.prog w) A (compareOp .Eq (.bytes b t) (.bytes c u)) Q E s := by
  have hbc : b = c := bytes_eq (hb.trans (e.trans hc.symm))
  subst hbc
  refine eq_bytes ?_
  rw [beq_self_eq_true]; exact h
theorem addl_use {x y : Addr} {ns ms : List Int} {c d : Nat} {Q : Value → Shared → Prop} (F : Fr h₀ L s.heap m) (N : News h₀ L s.heap news) (P1 : PVl h₀ news (.ref x) ns) (P2 : PVl h₀ news (.ref y) ms) (hz : LenLe ns c) (hz2 : LenLe ms d) (hc : c ≤ 100000) (hd : d ≤ 100000)
    (h : ∀ D us h', Fr h₀ L h' m → News h₀ L h' ((D, listOf (List.toArray us) 0) :: news) → AllNe D news → IntsAre us (ns ++ ms) → Q (.ref D) { s with heap := h' }) :
    wpAny (model PySem.Challenge.rw_yv0001_01.row.prog w) A (binaryOp .Add (.ref x) (.ref y)) Q E s := by
  obtain ⟨us, n, g1, i1⟩ : ∃ us n, s.heap.get? x = some (listOf (List.toArray us) n) ∧ IntsAre us ns := by
    cases P1 with
    | list hm hi => exact ⟨_, _, (N _ hm).1, hi⟩
    | base hg hi => exact ⟨_, _, F.keep _ _ hg, hi⟩
  obtain ⟨vs, n2, g2, i2⟩ : ∃ us n, s.heap.get? y = some (listOf (List.toArray us) n) ∧ IntsAre us ms := by
    cases P2 with
    | list hm hi => exact ⟨_, _, (N _ hm).1, hi⟩
    | base hg hi => exact ⟨_, _, F.keep _ _ hg, hi⟩
  unfold LenLe at hz hz2
  exact kmk_add_ints F N ⟨_, g1, rfl, _, rfl⟩ ⟨_, g2, rfl, _, rfl⟩ i1 i2 (fun D us h' F' N' l1 hi => h D us h' F' N' (allNe_of fun p hp => Nat.ne_of_lt (l1 p hp)) hi) (by rw [PySem.sizeLine_eq]; omega)
end
section
variable {w : World} {E : Value → Shared → Prop} {p : Program} {loose : List Str} {mean : ExcName → Option Value} {mg mb : Str → Option Value} {dp un : Nat} {gd : Option (List Code)} {cn : Str} {cs : Scope} {a : Addr} {ccd : Value} {cl : List (Str × Addr)} {outer : List Env} {A₀ : Around} {base h₀ : Heap} {L : Addr} {m : Str → Option Value} {s : Shared}
theorem cbce_use {Q : Value → Shared → Prop} {x dx ax : Addr} {t1 t tb : Tok} {lv : Value} {ks : List (List Int)} {b : Array UInt8} {ns lns : List Int} {all tl lt : List (Addr × Obj)} {f : Obj → List (Addr × Obj)}
    (B : Below A₀ base outer h₀) (F : Fr h₀ L s.heap m) (X : (mkK.heap_1 w.params).In h₀) (N : News h₀ L s.heap all) (T : Top p loose mean mg mb h₀) (hk : cs.kind = .function)
    (hx : (x, instObj 337 dx) ∈ all) (U : UpdF dx (dictOf (cbcEs w.params t1 lv t ax) 2) all f) (hne : (@Ne Nat x dx)) (hA : AesL w.params tl ax ks) (subt : ∀ p ∈ tl, p ∈ all) (o1 : AllNe x tl) (o2 : AllNe dx tl)
    (P : PVl h₀ lt lv lns) (subl : ∀ p ∈ lt, p ∈ all) (o3 : AllNe x lt) (o4 : AllNe dx lt) (hb : KBw.bInts b = ns) (hl : ns.length = 16) (ho : ∀ y ∈ ns, OctOk y) (hl2 : lns.length = 16) (ho2 : ∀ y ∈ lns, OctOk y)
    (hd' : dp + 3 < recursionLimit) (hu : un + 24 < cLine)
    (cont : ∀ l us k b' t' h' tk, Fr h₀ L h' m → News h₀ L h' ((l, listOf (List.toArray us) k) :: f (dictOf (cbcEs w.params t1 (.ref l) t ax) 2)) → AllNe l all → IntsAre us (enc w.params ks (List.zipWith Builtin.bitXor ns lns)) → KBw.bInts b' = enc w.params ks (List.zipWith Builtin.bitXor ns lns) → Q (.bytes b' t') { s with heap := h', toks := tk }) :
    wpAny (model PySem.Challenge.rw_yv0001_01.row.prog w) (ktrTop dp un gd cn cs L a ccd cl outer) (call (.ref 329) [.ref x, .bytes b tb]) Q E s := by
  have hdx := Mine.Upd.was (UpdF.toUpd U (dictOf (cbcEs w.params t1 lv t ax) 2))
  have low : ∀ tt : List (Addr × Obj), AllNe x tt → AllNe dx tt → ∀ p ∈ tt, p.1 ∉ ([(x, instObj 337 dx), (dx, dictOf (cbcEs w.params t1 lv t ax) 2)].map (·.1)) := fun tt a b p hp h => by
    simp only [List.map_cons, List.map_nil, List.mem_cons, List.not_mem_nil, or_false] at h
    exact h.elim (a.out p hp) (b.out p hp)
  refine wpAny_call (cbc_spec w (ax := ax) (ks := ks) (lv := lv) (t := t) (t1 := t1) hne hb hl ho hl2 ho2 p loose mean mg mb dp un gd cn cs a ccd cl outer A₀ base h₀ L m s Q E B F X (fun q hq => ?_) T hk hd' hu (fun g K => ?_) ?_)
  · rcases List.mem_cons.mp hq with rfl | hq
    · exact N _ hx
    · rw [List.mem_singleton.mp hq]; exact N _ hdx
  · refine ⟨AesL.at hA (L := L) (g := h₀) fun p hp => ⟨K _ _ (N p (subt p hp)).1 (low tl o1 o2 p hp), (N p (subt p hp)).2⟩, ?_⟩
    cases P with
    | bytes hb => exact .bytes hb
    | list hm hi => exact .list (K _ _ (N _ (subl _ hm)).1 (low lt o3 o4 _ hm)) hi
    | @base l us n _ hg hi => exact .list (K _ _ (F.keep _ _ hg) fun hm => by
        simp only [List.map_cons, List.map_nil, List.mem_cons, List.not_mem_nil, or_false] at hm
        rcases hm with e | e
        · have := (N _ hx).2.2
          rw [← e, hg] at this; cases this
        · have := (N _ hdx).2.2
          rw [← e, hg] at this; cases this) hi
  · rintro v news' h' tk' F' N' K' fr ⟨⟨b', t', rfl, hb'⟩, l, us, k, rfl, hi, n1, n2⟩
    have hf : s.heap.get? l = none := (fr (l, _) List.mem_cons_self).elim (fun h => by
      simp only [List.map_cons, List.map_nil, List.mem_cons, List.not_mem_nil, or_false] at h
      exact (h.elim n1 n2).elim) id
    refine cont l us k b' t' h' tk' F' (fun q hq => ?_) (allNe_of (lt_of_fresh N hf)) hi hb'
    rcases List.mem_cons.mp hq with rfl | hq
    · exact N' _ List.mem_cons_self
    · rcases Mine.Upd.mem (UpdF.toUpd U _) q hq with rfl | ⟨hq, hn⟩
      · exact N' _ (List.mem_cons_of_mem _ (List.mem_cons_of_mem _ List.mem_cons_self))
      · by_cases e1 : q.1 = x
        · rw [same_obj N hx hq e1]; exact N' _ (List.mem_cons_of_mem _ List.mem_cons_self)
        · exact ⟨K' _ _ (N q hq).1 (by simp [e1, hn]), (N q hq).2⟩
end
section
variable {w : World} {A : Around} {h₀ : Heap} {L : Addr} {m : Str → Option Value} {env : Env} {elt : Expr} {x : Str} {scope : Scope} {cl : List (Str × Addr)} {s : Shared} {S : List (Addr × Obj) → Prop} {P : Nat → Value → Prop} {Fin : List Value → List (Addr × Obj) → Prop} {n : Nat}
def ByEl (St : List (Addr × Obj) → Prop) (r : List Int) (y : Value) (nw : List (Addr × Obj)) : Prop := St nw ∧ ∃ b t, y = .bytes b t ∧ KBw.bInts b = r
/-- a comprehension whose elements are bytes, with a state -/
theorem comp_bytes {news : List (Addr × Obj)} (St : Nat → List (Addr × Obj) → Prop) (f : Nat → List Int)
    (turn : ∀ (i : Nat) nw ys v I oI C oC D m₂ h tk (E' : Value → Shared → Prop), i < n → St i nw → P i v → LCg.NsObj oC m₂ → m₂ x = some v → Fr h₀ L h m →
      News h₀ L h ((I, oI) :: (C, oC) :: (D, LCg.lst ys) :: nw) → LCg.Off3 I C D nw → ((@Ne Nat I C) ∧ (@Ne Nat I D) ∧ (@Ne Nat C D)) →
      wpAny (model PySem.Challenge.rw_yv0001_01.row.prog w) A (eval elt (compEnvC scope cl C env)) (LCg.CompEnd h₀ L m { s with heap := h, toks := tk } I oI C oC D (LCg.lst ys) S (ByEl (St (i + 1)) (f i))) E' { s with heap := h, toks := tk })
    (fin : ∀ ys nw, BytesAre ys ((List.range n).map f) → St n nw → Fin ys nw) (st0 : St 0 news) :
    LCg.CompRest PySem.Challenge.rw_yv0001_01.row.prog w A h₀ L m env elt x scope cl s S P Fin n 0 [] news := by
  have key : ∀ (j i : Nat) (ys : List Value) nw, i + j = n → BytesAre ys ((List.range i).map f) → St i nw → LCg.CompRest PySem.Challenge.rw_yv0001_01.row.prog w A h₀ L m env elt x scope cl s S P Fin j i ys nw := by
    intro j
    induction j with
    | zero =>
      intro i ys nw hi hy hst
      have e : i = n := by omega
      subst e
      exact LCg.CompRest.zero (fin ys nw hy hst)
    | succ j ih =>
      intro i ys nw hi hy hst
      refine LCg.CompRest.succ ?_
      intro v I oI C oC D m₂ h tk E' hv hC hx F N off ne
      refine wpAny_mono (turn i nw ys v I oI C oC D m₂ h tk E' (by omega) hst hv hC hx F N off ne) (fun y s₂ hq => ?_) fun _ _ e => e
      obtain ⟨h', tk', nw', e, F', N', off', hS, hst', b, t, rfl, hb⟩ := hq
      refine ⟨h', tk', nw', e, F', N', off', hS, ih (i + 1) _ nw' (by omega) ?_ hst'⟩
      rw [List.range_succ, List.map_append]
      exact hy.snoc hb
  exact key n 0 [] news (by omega) .nil st0
end
theorem call_bytes_zf {prog : Program} {w : World} {A : Around} {E : Value → Shared → Prop} {s : Shared} {k : Int} {n : Nat} {zs : List Int} (hk : k = n) (e : List.replicate n 0 = zs) {t : Tok} {Q : Value → Shared → Prop} (hz : n ≤ 16777216) (hQ : ∀ b t' k, KBw.bInts b = zs → Q (.bytes b t') { s with toks := k }) : wpAny (model prog w) A (call (.type "bytes") [.int k t]) Q E s :=
  call_bytes_zeros hk hz fun b t' k hb => hQ b t' k (hb.trans e)
theorem joined_use {w : World} {E : Value → Shared → Prop} {p : Program} {loose : List Str} {mean : ExcName → Option Value} {mg mb : Str → Option Value} {dp un : Nat} {gd : Option (List Code)} {cn : Str} {cs : Scope} {a : Addr} {ccd : Value} {cl : List (Str × Addr)} {outer : List Env} {A₀ : Around} {base h₀ : Heap} {L : Addr} {m : Str → Option Value} {s : Shared}
    {Q : Value → Shared → Prop} {l : Addr} {vs : List Value} {rs : List (List Int)} {zs : List Int} {all : List (Addr × Obj)}
    (B : Below A₀ base outer h₀) (F : Fr h₀ L s.heap m) (X : (mkK.heap_1 w.params).In h₀) (N : News h₀ L s.heap ((l, LCg.lst vs) :: all)) (T : Top p loose mean mg mb h₀) (hk : cs.kind = .function) (o : LCg.Off1 l all)
    (hv : BytesAre vs rs) (hl : ∀ r ∈ rs, r.length = 16) (hn : rs.length ≤ 10) (e : rs.flatten = zs) (hd' : dp + 1 < recursionLimit) (hu : un + 8 < cLine)
    (cont : ∀ b t h' tk, Fr h₀ L h' m → News h₀ L h' all → KBw.bInts b = zs → Q (.bytes b t) { s with heap := h', toks := tk }) :
    wpAny (model PySem.Challenge.rw_yv0001_01.row.prog w) (ktrTop dp un gd cn cs L a ccd cl outer) (call (.ref 484) [.ref l]) Q E s :=
  spec_last (joined_spec w (n := vs.length) hv hl hn) B F X N T hk (fun q hq => by rw [List.mem_singleton.mp hq]; show (l, LCg.lst vs) ∈ (l, LCg.lst vs) :: all; exact List.mem_cons_self) (fun _ _ => trivial) (fun q hq => ⟨List.mem_cons_of_mem _ hq, fun z hz => by rw [List.mem_singleton.mp hz]; exact Ne.symm (off1_mem _ o q hq)⟩) hd' hu fun v h' tk F' N' r => by
    obtain ⟨b, t, rfl, hb⟩ := r
    exact cont b t h' tk F' N' (hb.trans e)
inductive NouJ (w : World) (K first : List Int) (kb fb : Array UInt8) (tq tf tn : Tok) (L1 : Addr) (oc1 : Obj) (n i : Nat) (m : Str → Option Value) (nw : List (Addr × Obj)) : Prop
  | mk0 (lr lb : Addr) (us ub : List Value) (n1 n2 : Nat) (z1 : nw = [(lb, listOf (List.toArray ub) n2), (lr, listOf (List.toArray us) n1), (L1 + 1, oc1)]) (z2 : IntsAre us (ofbRow w.params (expand w.params K) first i)) (z3 : IntsAre ub (ecbIt w.params (expand w.params K) first i)) (z4 : ((@Ne Nat lr (L1 + 1)) ∧ (@Ne Nat lb (L1 + 1)))) (z5 : Keeps [(Str.ofString "row", .ref lr), (Str.ofString "block", .ref lb), (Str.ofString "key", .bytes kb tq), (Str.ofString "first", .bytes fb tf), (Str.ofString "count", .int (n : Int) tn)] m) : NouJ w K first kb fb tq tf tn L1 oc1 n i m nw
inductive NouS (w : World) (g : Heap) (K first : List Int) (x' dx' lr : Addr) (t1' ta' : Tok) (a' : Addr) (us : List Value) (n1 : Nat) (L1 : Addr) (oc2 : Obj) (tl' : List (Addr × Obj)) (i : Nat) (nw : List (Addr × Obj)) : Prop
  | mk0 (lv : Value) (lt : List (Addr × Obj)) (z1 : nw = (x', instObj 337 dx') :: (dx', dictOf (cbcEs w.params t1' lv ta' a') 2) :: (lr, listOf (List.toArray us) n1) :: (L1 + 1, oc2) :: (lt ++ tl')) (z2 : PVl g lt lv (ecbIt w.params (expand w.params K) first i)) (z3 : AllNe x' lt) (z4 : AllNe dx' lt) : NouS w g K first x' dx' lr t1' ta' a' us n1 L1 oc2 tl' i nw
theorem noughts_spec (w : World) {kb fb : Array UInt8} {tq tf tn : Tok} {K first : List Int} {n : Nat} (hb : KBw.bInts kb = K) (hkey : KeyOk K) (hf : KBw.bInts fb = first) (hf16 : first.length = 16) (hfo : ∀ y ∈ first, OctOk y) (hn : n ≤ 10) :
    Spec w (.ref 489) [.bytes kb tq, .bytes fb tf, .int (n : Int) tn] (fun _ => True) [] 8 64 (NewL (ofbRow w.params (expand w.params K) first n)) := by
  with_unfolding_all refine' spec_defC ?ho ?hcd ?hbind ?hkind ?hnd ?c2 ?c3 ?c4 ?_
  (case ho => k_is)
  (case hcd => k_is)
  (case hbind => first | exact bind_plain rfl | exact bind_dflt rfl (by k_is) rfl rfl rfl)
  (case hkind => exact rfl)
  (case hnd => decide +kernel)
  (case c2 => exact rfl)
  (case c3 => exact rfl)
  (case c4 => exact rfl)
  intro p loose mean mg mb dp un gd cn cs ca ccd cl outer base L g L1 h1 s tk cells B F X N Y T hdp hun hyp l1
  (try k_lt l1)
  refine letA ?_
  intro A0
  obtain ⟨oc1, hE, dc1⟩ := CellsAre.one Y
  subst hE
  clear Y
  (try simp only [List.nil_append, List.cons_append] at N)
  (try dsimp only)
  (try k_fold)
  have hf200 : first.length ≤ 200 := by omega
  (repeat' (first | (k_unfold; (try dsimp only)) | ((with_reducible show wpAny _ _ (exec _ _) _ _ _); (fail_if_success (fail_if_success k_fold)); refine foldQ ?_; intro q9) | ((with_reducible show wpAny _ _ (eval (Expr.Call _ _ _ _) _) _ _ _); (fail_if_success (fail_if_success k_fold)); refine foldQ ?_; intro q9) | ((with_reducible show wpAny _ _ (eval (Expr.Subscript _ _ _) _) _ _ _); (fail_if_success (fail_if_success k_fold)); refine foldQ ?_; intro q9)  | (k_here; (with_reducible show wpAny _ _ (pyIter (Value.ref _)) _ _ _); (refine Hold.mk ?_)) | (k_here; (with_reducible show wpAny _ _ (call (Value.type "list") [Value.bytes _ _]) _ _ _); k_dflt (refine call_list_bytes (by rfl) (by k_asm) (by k_asm) (by tb_start) (by tb_start) (fun D' us' nn' h' k' F' N' l1 hi' => ?_)); (try k_fold)) | (k_end; wrow_close) | walk1 | (dsimp only; walk1) | (leave1; walk_say "STEP leave1"; try dsimp only) | fail "no step"))
  unfold Hold
  rename Fr _ _ _ _ => F1
  rename News _ _ _ _ => N1
  rename IsRange _ _ _ _ _ _ _ _ => hr
  refine krs_go (n := n) (fun i m nw => NouJ w K first kb fb tq tf tn L1 oc1 n i m nw)
    rfl hr (small_one (by omega) (by omega) (by omega) (by omega)) ((rangeSize_nat _ _).trans (by omega)) F1 N1 ⟨_, D', [], us', _, _, rfl, .nil, hi', ⟨by omega, l1.2.1.symm⟩, rfl, rfl, rfl, rfl, rfl, trivial⟩ (by lcg_sub) ?_ ?_
  · rintro i m nw I t h tk2 hi ⟨lr, lb, us, ub, n1, n2, rfl, hus, hub, ⟨o1, o2⟩, hk⟩ hoI F2 N2
    first | replace F2 := hk.fr F2 | replace F2 := hk.frI F2
    clear hk hr
    have hI1 : (@Ne Nat lb I) := hoI _ List.mem_cons_self
    have hI2 : (@Ne Nat lr I) := hoI _ (List.mem_cons_of_mem _ List.mem_cons_self)
    have hI3 : (@Ne Nat (L1 + 1) I) := hoI _ (List.mem_cons_of_mem _ (List.mem_cons_of_mem _ List.mem_cons_self))
    have hO := ecbIt_ok w.params (expand w.params K) hf16 hfo i
    have hOl := hO.1
    have hOo := hO.2
    have hR := (ofbRow_len w.params (expand w.params K) first i).1
    have hR1 : LenLe (ofbRow w.params (expand w.params K) first i) 200 := by unfold LenLe; omega
    have hE1 : LenLe (enc w.params (expand w.params K) (ecbIt w.params (expand w.params K) first i)) 16 := by unfold LenLe; rw [enc_len]; decide
    have hS := ofbRow_succ w.params (expand w.params K) first i
    (try k_unmd)
    (try k_fold)
    (repeat' (first | (k_unfold; (try dsimp only)) | ((with_reducible show wpAny _ _ (exec _ _) _ _ _); (fail_if_success (fail_if_success k_fold)); refine foldQ ?_; intro q9) | ((with_reducible show wpAny _ _ (eval (Expr.Call _ _ _ _) _) _ _ _); (fail_if_success (fail_if_success k_fold)); refine foldQ ?_; intro q9) | ((with_reducible show wpAny _ _ (eval (Expr.Subscript _ _ _) _) _ _ _); (fail_if_success (fail_if_success k_fold)); refine foldQ ?_; intro q9)  | (k_here; (with_reducible show wpAny _ _ (binaryOp Operator.Add (Value.ref _) (Value.ref _)) _ _ _); k_dflt (refine' addl_use ?k1 ?k2 ?k3 ?k4 ?k5 ?k6 ?k7 ?k8 (fun D' us' h' F' N' l1 hi' => ?_); (case k1 | k2 => k_asm); (case k3 => first | exact PVl.list (by k_mem) (by tb_start) | tb_start); (case k4 => first | exact PVl.list (by k_mem) (by tb_start) | exact PVl.sub (by tb_start) (by lcg_sub)); (case k5 | k6 => tb_start); (case k7 => decide); (case k8 => decide)); (try k_fold)) | (k_here; (with_reducible show UnrEnd _ _ _ _ _ _ _); (refine Hold.mk ?_)) | (k_here; (with_reducible show wpAny _ _ (call (Value.ref 116) [_]) _ _ _); k_dflt ( refine' aes_use ?k1 ?k2 ?k3 ?k4 ?k5 ?k6 ?k7 ?k8 ?k9 ?k10 ?_; (case k1 | k2 | k3 | k4 | k5 => k_asm); (case k6 => first | exact rfl | assumption); (case k7 | k8 => tb_start); (case k9 => ktr_room); (case k10 => ktr_units); intro x' tl' h' tk' F' N' l1 hA'; (obtain ⟨dxa, kea, kda, ta1, ta2, nda, hm1, hm2⟩ := AesL.inst hA'); (unfold kePair at hm2); (simp only [List.cons_append, List.nil_append] at N'); (simp only [AllNeT, and_true] at l1); (repeat (first | (refine an8 l1 ?_; clear l1; intro hne' hne' hne' hne' hne' hne' hne' l1) | (refine an4 l1 ?_; clear l1; intro hne' hne' hne' l1) | (refine an2 l1 ?_; clear l1; intro hne' l1))); (try k_fold))) | (k_here; (with_reducible show wpAny _ _ (call (Value.ref 108) [_, _]) _ _ _); k_dflt ( refine' enc_use ?k1 ?k2 ?k3 ?k4 ?k5 ?k6 ?k7 ?k8 ?k9 ?k10 ?k11 ?k12 ?_; (case k1 | k2 | k3 | k4 | k5 => k_asm); (case k6 => first | exact rfl | assumption); (case k7 => first | exact AesAt.mono (by tb_start) (Fr.keep (by k_asm)) | exact AesL.at (by tb_start) (News.sub (by k_asm) (by lcg_sub))); (case k8 => first | exact PVl.bytes (by tb_start) | exact PVl.list (by k_mem) (by tb_start) | exact PVl.base (by tb_start) (by tb_start) | exact PVl.sub (by tb_start) (by lcg_sub)); (case k9 | k10 => tb_start); (case k11 => ktr_room); (case k12 => ktr_units); intro l' us' nn' h' tk' F' N' l1 hi' hl' ho'; (have h8 := l1); (simp only [AllNe, and_true] at l1); (try k_fold))) | (k_end; wrow_close) | walk1 | (dsimp only; walk1) | (leave1; walk_say "STEP leave1"; try dsimp only) | fail "no step"))
    unfold Hold
    exact unr_end (by k_asm) (by k_asm) ⟨D', l', _, _, _, _, rfl, by rw [hS]; assumption, by assumption, ⟨by k_ne, by k_ne⟩, rfl, rfl, rfl, rfl, rfl, trivial⟩ (by k_mem) (by lcg_sub) (AllNe.out (by exact ⟨by k_ne, by k_ne, hI3, trivial⟩))
  · rintro m nw h3 tk3 ⟨lr, lb, us, ub, n1, n2, rfl, hus, hub, ⟨o1, o2⟩, hk⟩ F5 N5
    first | replace F5 := hk.fr F5 | replace F5 := hk.frI F5
    clear hk hr
    have hR := ofbRow_len w.params (expand w.params K) first n
    have hRl : (ofbRow w.params (expand w.params K) first n).length ≤ 200 := by omega
    have hRo : ∀ y ∈ ofbRow w.params (expand w.params K) first n, 0 ≤ y ∧ y < 256 := hR.2
    (try k_unmd)
    (try k_fold)
    (repeat' (first | (k_unfold; (try dsimp only)) | ((with_reducible show wpAny _ _ (exec _ _) _ _ _); (fail_if_success (fail_if_success k_fold)); refine foldQ ?_; intro q9) | ((with_reducible show wpAny _ _ (eval (Expr.Call _ _ _ _) _) _ _ _); (fail_if_success (fail_if_success k_fold)); refine foldQ ?_; intro q9) | ((with_reducible show wpAny _ _ (eval (Expr.Subscript _ _ _) _) _ _ _); (fail_if_success (fail_if_success k_fold)); refine foldQ ?_; intro q9)  | (k_here; (with_reducible show wpAny _ _ (call (Value.ref 337) [Value.bytes _ _, Value.bytes _ _]) _ _ _); k_dflt ( refine' new_use (fun x dx hne => cbc_init w hne (by tb_start) (by tb_start) (by tb_start) (by tb_start)) (fun _ _ _ _ h => h.1) ?c1 ?c2 ?c3 ?k1 ?k2 ?k3 ?k4 ?k5 ?k6 ?k7 ?k8 ?_; (case c1 | c2 | c3 => k_is); (case k1 | k2 | k3 | k4 | k5 => k_asm); (case k6 => first | exact rfl | assumption); (case k7 => ktr_room); (case k8 => ktr_units); rintro x' dx' nw' h' tk' hxd' F' N' hsep' ⟨_, tl', ta', a', ds', hnw', ⟨t1', hds'⟩, hA', o1', o2'⟩; subst hds'; subst hnw'; (have h7 := hsep'); (replace N' := Mine.News.last2 N'); (try simp only [List.cons_append, List.nil_append] at N'); (try simp only [AllNeT, and_true] at h7); (repeat (first | (refine an8 h7 ?_; clear h7; intro h8 h8 h8 h8 h8 h8 h8 h7) | (refine an4 h7 ?_; clear h7; intro h8 h8 h8 h7) | (refine an2 h7 ?_; clear h7; intro h8 h7))); (have h6 := hsep'); (unfold cbcEs at N'); (try k_fold))) | ((with_reducible show SrcG _ _ _ _ _ _ _ _ _ _ _ _ _ _ _); (refine Hold.mk ?_)) | (k_here; (with_reducible show wpAny _ _ (eval (Expr.ListComp _ [⟨Expr.Name _ _, _, _, _⟩] _ _) _) _ _ _); k_dflt (refine ListComp_G (by k_asm) (by with_unfolding_all rfl) (by decide) (by rfl) (by decide) (by rfl) ?_)) | (k_here; (with_reducible show wpAny _ _ (call (Value.type _) [Value.ref _]) _ _ _); k_dflt (refine call_bytes_list (by k_asm) (by k_asm) (by k_mem) (by tb_start) (by tb_start) (by tb_start) (by rfl) (fun b' t' h' k' F' N' hb' => ?_)); (try k_fold)) | (k_end; wrow_close) | walk1 | (dsimp only; walk1) | (leave1; walk_say "STEP leave1"; try dsimp only) | fail "no step"))
    unfold Hold
    rename Obj => oc2
    rename _ = Data.cell _ => dc2
    rename IsRange _ _ _ _ _ _ _ _ => hr2
    rename News _ _ _ _ => N7
    rename Fr _ _ _ _ => F7
    refine SrcG.range (n := n) (news := (x', instObj 337 dx') :: (dx', dictOf (cbcEs w.params t1' (.bytes fb tf) ta' a') 2) :: (lr, listOf (List.toArray us) n1) :: (L1 + 1, oc2) :: ([] ++ tl')) rfl F7 N7 hr2 (small_one (by omega) (by omega) (by omega) (by omega)) ((rangeSize_nat _ _).trans (by omega)) (by rw [PySem.sizeLine_eq]; omega) (by unfold cbcEs; lcg_sub)
      (fun g2 => comp_bytes (fun i nw => NouS w g K first x' dx' lr t1' ta' a' us n1 L1 oc2 tl' i nw)
        (fun i => ecbIt w.params (expand w.params K) first (i + 1)) ?_ ?_ ⟨_, [], rfl, .bytes hf, trivial, trivial⟩)
    · rintro i nw ys v I oI C oC D m₂ h tk E' hi ⟨lv, lt, rfl, hP, o3, o4⟩ hP' hC hx F2 N2 off ne
      obtain ⟨t9, rfl⟩ := hP'
      have hO := ecbIt_ok w.params (expand w.params K) hf16 hfo i
      have hOl := hO.1
      have hOo := hO.2
      have hz1 : (List.replicate 16 (0 : Int)).length = 16 := rfl
      have hz2 : ∀ y ∈ List.replicate 16 (0 : Int), OctOk y := fun y hy => by rw [List.eq_of_mem_replicate hy]; exact ⟨by decide, by decide⟩
      unfold cbcEs at N2
      clear hr2
      (try k_unmd)
      (try k_fold)
      (repeat' (first | (k_unfold; (try dsimp only)) | ((with_reducible show wpAny _ _ (exec _ _) _ _ _); (fail_if_success (fail_if_success k_fold)); refine foldQ ?_; intro q9) | ((with_reducible show wpAny _ _ (eval (Expr.Call _ _ _ _) _) _ _ _); (fail_if_success (fail_if_success k_fold)); refine foldQ ?_; intro q9) | ((with_reducible show wpAny _ _ (eval (Expr.Subscript _ _ _) _) _ _ _); (fail_if_success (fail_if_success k_fold)); refine foldQ ?_; intro q9)  | (k_here; (with_reducible show wpAny _ _ (call (Value.type "bytes") [Value.int _ _]) _ _ _); k_dflt (refine call_bytes_zf (by first | tb_start | rfl) (by first | tb_start | rfl) (by first | decide | omega) (fun b' t' k' hb' => ?_)); (try k_fold)) | (k_here; (with_reducible show wpAny _ _ (call (Value.ref 329) [Value.ref _, Value.bytes _ _]) _ _ _); k_dflt ( refine' cbce_use ?k1 ?k2 ?k3 ?k4 ?k5 ?k6 ?k7 ?k8 ?k9 ?k10 ?k11 ?k12 ?k13 ?k14 ?k15 ?k16 ?k17 ?k18 ?k19 ?k20 ?k21 ?k22 ?k23 ?k24 ?_; (case k1 | k2 | k3 | k4 | k5 => k_asm); (case k6 => first | exact rfl | assumption); (case k7 => k_mem); (case k8 => (unfold cbcEs; k_updF)); (case k9 | k10 => tb_start); (case k11 => lcg_sub); (case k12 | k13 => tb_start); (case k14 => first | tb_start | exact PVl.bytes (nw := []) (by tb_start)); (case k15 => lcg_sub); (case k16 | k17 => first | exact trivial | tb_start); (case k18 | k19 | k20 | k21 | k22 => tb_start); (case k23 => ktr_room); (case k24 => ktr_units); intro l' us' kk' b' t' h' tk' F' N' l1 hi' hb'; (try dsimp only at N'); (unfold cbcEs at N'); (try k_fold))) | (k_here; (with_reducible show LCg.CompEnd _ _ _ _ _ _ _ _ _ _ _ _ _ _); (refine Hold.mk ?_)) | (k_end; wrow_close) | walk1 | (dsimp only; walk1) | (leave1; walk_say "STEP leave1"; try dsimp only) | fail "no step"))
      unfold Hold
      rename News _ _ _ _ => N9
      rename Fr _ _ _ _ => F9
      rename AllNe _ _ => l9
      rename IntsAre _ (enc _ _ _) => hi9
      rename KBw.bInts _ = enc _ _ _ => hb9
      have hE : enc w.params (expand w.params K) (List.zipWith Builtin.bitXor (List.replicate 16 0) (ecbIt w.params (expand w.params K) first i)) = ecbIt w.params (expand w.params K) first (i + 1) := by rw [zero_row16 hOl hOo]; rfl
      rw [hE] at hi9 hb9
      refine LCg.CompEnd.intro F9 N9 _ ?_ ?_ trivial ⟨⟨.ref l', [(l', listOf (List.toArray us') kk')], rfl, .list List.mem_cons_self hi9, ⟨by k_ne, trivial⟩, ⟨by k_ne, trivial⟩⟩, _, _, rfl, hb9⟩
      · unfold cbcEs; lcg_sub
      · exact ⟨⟨by k_ne, by k_ne, by k_ne⟩, ⟨by k_ne, by k_ne, by k_ne⟩, ⟨by k_ne, by k_ne, by k_ne⟩, ⟨by k_ne, by k_ne, by k_ne⟩, ⟨by k_ne, by k_ne, by k_ne⟩, LCg.Off3.of fun p hp => off.mem p ((by lcg_sub : ∀ p ∈ tl', p ∈ _) p hp)⟩
    · rintro ys nw hBA ⟨lv, lt, rfl, hP, o3, o4⟩
      unfold LCg.FinE
      intro D7 h7 tk7 F8 N8 o7
      have hL16 : ∀ r ∈ (List.range n).map fun i => ecbIt w.params (expand w.params K) first (i + 1), r.length = 16 := fun r hr => by
        obtain ⟨i, _, rfl⟩ := List.mem_map.mp hr
        exact enc_len _ _ _
      have hL10 : ((List.range n).map fun i => ecbIt w.params (expand w.params K) first (i + 1)).length ≤ 10 := by rw [List.length_map, List.length_range]; exact hn
      have hJ : ((List.range n).map fun i => ecbIt w.params (expand w.params K) first (i + 1)).flatten = ofbRow w.params (expand w.params K) first n := rfl
      have hz16 : 16 * (n : Int) = ((16 * n : Nat) : Int) := by omega
      have hz17 := noughts_flat n
      have hNok := noughts_ok n
      have hN10 : (noughts n).length ≤ 10 := by unfold noughts; rw [List.length_replicate]; exact hn
      have hNf := flat_oct hNok
      have hNl : (noughts n).flatten.length ≤ 160 := by rw [← noughts_flat, List.length_replicate]; omega
      have hC := cfb_noughts w.params (expand w.params K) (first := first) n
      have hD := ofb_noughts w.params (expand w.params K) (first := first) n
      (repeat' (first | (k_unfold; (try dsimp only)) | ((with_reducible show wpAny _ _ (exec _ _) _ _ _); (fail_if_success (fail_if_success k_fold)); refine foldQ ?_; intro q9) | ((with_reducible show wpAny _ _ (eval (Expr.Call _ _ _ _) _) _ _ _); (fail_if_success (fail_if_success k_fold)); refine foldQ ?_; intro q9) | ((with_reducible show wpAny _ _ (eval (Expr.Subscript _ _ _) _) _ _ _); (fail_if_success (fail_if_success k_fold)); refine foldQ ?_; intro q9)  | (k_here; (with_reducible show wpAny _ _ (call (Value.ref 399) [Value.ref _, Value.bytes _ _]) _ _ _); k_dflt ( refine' meth_last (ofbe_spec w ?h1 ?h2 ?h3 ?h4 ?h5 ?h6 ?h7 ?h8 ?h9) ?k1 ?k2 ?k3 ?k4 ?k5 ?k6 ?k7 ?k8 ?k9 ?k10 ?k11 ?k12 ?k13 ?k14 ?_; (case k1 | k2 | k3 | k4 | k5 => k_asm); (case k6 => first | exact rfl | assumption); (case k7 => (unfold ofbEs; lcg_sub)); (case h1 | h2 | h3 | h4 | h5 | h6 | h7 | h8 | h9 => first | tb_start | omega); (case k8 => tb_start); (case k9 => exact (off_cons (by tb_start) (off_cons (by tb_start) (off_cons (by tb_start) off_nil)))); (case k10 => lcg_sub); (case k11 => exact sepT (by tb_start) (by lcg_sub)); (case k12 => lcg_sub); (case k13 => ktr_room); (case k14 => ktr_units); intro b' t' h' tk' F' N' hb'; (try k_fold))) | (k_here; (with_reducible show wpAny _ _ (call (Value.ref 367) [Value.ref _, Value.bytes _ _]) _ _ _); k_dflt ( refine' meth_last (cfbe_spec w ?h1 ?h2 ?h3 ?h4 ?h5 ?h6 ?h7) ?k1 ?k2 ?k3 ?k4 ?k5 ?k6 ?k7 ?k8 ?k9 ?k10 ?k11 ?k12 ?k13 ?k14 ?_; (case k1 | k2 | k3 | k4 | k5 => k_asm); (case k6 => first | exact rfl | assumption); (case k7 => (unfold cfbEs; lcg_sub)); (case h1 | h2 | h3 | h4 | h5 | h6 | h7 => first | tb_start | omega); (case k8 => tb_start); (case k9 => exact (off_cons (by tb_start) (off_cons (by tb_start) off_nil))); (case k10 => lcg_sub); (case k11 => exact sepT (by tb_start) (by lcg_sub)); (case k12 => lcg_sub); (case k13 => ktr_room); (case k14 => ktr_units); intro b' t' h' tk' F' N' hb'; (try k_fold))) | (k_here; (with_reducible show wpAny _ _ (call (Value.ref 409) [Value.bytes _ _, Value.bytes _ _]) _ _ _); k_dflt ( refine' new_use (fun x dx hne => ofb_init w hne (by tb_start) (by tb_start) (by tb_start) (by tb_start)) (fun _ _ _ _ h => h.1) ?c1 ?c2 ?c3 ?k1 ?k2 ?k3 ?k4 ?k5 ?k6 ?k7 ?k8 ?_; (case c1 | c2 | c3 => k_is); (case k1 | k2 | k3 | k4 | k5 => k_asm); (case k6 => first | exact rfl | assumption); (case k7 => ktr_room); (case k8 => ktr_units); rintro x' dx' nw' h' tk' hxd' F' N' hsep' ⟨_, tl', t1', t2', ta', a', lR', n', hnw', hA', o1', o2', o3', n1', n2'⟩; subst hnw'; (have h7 := hsep'); (replace N' := Mine.News.last3 N'); (try simp only [List.cons_append, List.nil_append] at N'); (try simp only [AllNeT, and_true] at h7); (repeat (first | (refine an8 h7 ?_; clear h7; intro h8 h8 h8 h8 h8 h8 h8 h7) | (refine an4 h7 ?_; clear h7; intro h8 h8 h8 h7) | (refine an2 h7 ?_; clear h7; intro h8 h7))); (have h6 := hsep'); (unfold ofbEs at N'); (try k_fold))) | (k_here; (with_reducible show wpAny _ _ (call (Value.ref 375) [Value.bytes _ _, Value.bytes _ _, Value.int _ _]) _ _ _); k_dflt ( refine' new_use (fun x dx hne => cfb_init w hne (by tb_start) (by tb_start) (by tb_start) (by tb_start)) (fun _ _ _ _ h => h.1) ?c1 ?c2 ?c3 ?k1 ?k2 ?k3 ?k4 ?k5 ?k6 ?k7 ?k8 ?_; (case c1 | c2 | c3 => k_is); (case k1 | k2 | k3 | k4 | k5 => k_asm); (case k6 => first | exact rfl | assumption); (case k7 => ktr_room); (case k8 => ktr_units); rintro x' dx' nw' h' tk' hxd' F' N' hsep' ⟨_, tl', ta', a', ds', hnw', ⟨t1', t2', t3', hds'⟩, hA', o1', o2'⟩; subst hds'; subst hnw'; (have h7 := hsep'); (replace N' := Mine.News.last2 N'); (try simp only [List.cons_append, List.nil_append] at N'); (try simp only [AllNeT, and_true] at h7); (repeat (first | (refine an8 h7 ?_; clear h7; intro h8 h8 h8 h8 h8 h8 h8 h7) | (refine an4 h7 ?_; clear h7; intro h8 h8 h8 h7) | (refine an2 h7 ?_; clear h7; intro h8 h7))); (have h6 := hsep'); (unfold cfbEs at N'); (try k_fold))) | (k_here; (with_reducible show wpAny _ _ (call (Value.ref 484) [Value.ref _]) _ _ _); k_dflt ( refine' joined_use ?k1 ?k2 ?k3 ?k4 ?k5 ?k6 ?k7 ?k8 ?k9 ?k10 ?k11 ?k12 ?k13 ?_; (case k1 | k2 | k3 | k4 | k5 => k_asm); (case k6 => first | exact rfl | assumption); (case k7 | k8 | k9 | k10 | k11 => tb_start); (case k12 => ktr_room); (case k13 => ktr_units); intro b' t' h' tk' F' N' hb'; (try k_fold))) | (k_here; (with_reducible show wpAny _ _ (call (Value.type "bytes") [Value.int _ _]) _ _ _); k_dflt (refine call_bytes_zf (by first | tb_start | rfl) (by first | tb_start | rfl) (by first | decide | omega) (fun b' t' k' hb' => ?_)); (try k_fold)) | (k_here; (with_reducible show wpAny _ _ (compareOp CmpOp.NotEq (Value.bytes _ _) (Value.bytes _ _)) _ _ _); k_dflt (refine cmp_ne (by tb_start) (by tb_start) (by first | with_reducible rfl | tb_start | exact Eq.symm (by tb_start)) ?_); (try k_fold)) | (k_end; wrow_close) | walk1 | (dsimp only; walk1) | (leave1; walk_say "STEP leave1"; try dsimp only) | fail "no step"))
      ((try k_unmd); (try k_unfold); (try dsimp only))
      exact Ends.mk2 (by k_asm) (by k_asm) ⟨_, _, _, rfl, rfl, hus⟩ (by lcg_sub)
end
section
/-- the rows of a list of blocks, in the ledger -/
def Blks : List (Addr × Obj) → List Addr → List (List Int) → Prop
  | [], [], [] => True
  | p :: tl, a :: as, r :: M => (∃ us n, p = (a, listOf (List.toArray us) n) ∧ IntsAre us r ∧ r.length = 16 ∧ ∀ y ∈ r, OctOk y) ∧ Blks tl as M
  | _, _, _ => False
theorem Blks.snoc : ∀ {tl : List (Addr × Obj)} {as : List Addr} {M : List (List Int)} {a : Addr} {us : List Value} {n : Nat} {r : List Int}, Blks tl as M → IntsAre us r → r.length = 16 → (∀ y ∈ r, OctOk y) → Blks (tl ++ [(a, listOf (List.toArray us) n)]) (as ++ [a]) (M ++ [r])
  | [], [], [], _, us, n, _, _, h1, h2, h3 => ⟨⟨us, n, rfl, h1, h2, h3⟩, trivial⟩
  | _ :: _, _ :: _, _ :: _, _, _, _, _, ⟨h, k⟩, h1, h2, h3 => ⟨h, k.snoc h1 h2 h3⟩
  | [], [], _ :: _, _, _, _, _, x, _, _, _ => x.elim
  | [], _ :: _, _, _, _, _, _, x, _, _, _ => x.elim
  | _ :: _, [], _, _, _, _, _, x, _, _, _ => x.elim
  | _ :: _, _ :: _, [], _, _, _, _, x, _, _, _ => x.elim
theorem Blks.len : ∀ {tl : List (Addr × Obj)} {as : List Addr} {M : List (List Int)}, Blks tl as M → as.length = M.length
  | [], [], [], _ => rfl
  | _ :: _, _ :: _, _ :: _, ⟨_, k⟩ => congrArg (· + 1) k.len
  | [], [], _ :: _, x => x.elim
  | [], _ :: _, _, x => x.elim
  | _ :: _, [], _, x => x.elim
  | _ :: _, _ :: _, [], x => x.elim
theorem Blks.get : ∀ {tl : List (Addr × Obj)} {as : List Addr} {M : List (List Int)} {i : Nat} {a : Addr}, Blks tl as M → as[i]? = some a → ∃ us n, (a, listOf (List.toArray us) n) ∈ tl ∧ IntsAre us (M.getD i [])
  | _ :: _, _ :: _, _ :: _, 0, _, ⟨⟨us, n, e, h, _⟩, _⟩, hi => by
    cases Option.some.inj hi
    exact ⟨us, n, e ▸ List.mem_cons_self, h⟩
  | _ :: _, _ :: _, _ :: _, i + 1, _, ⟨_, k⟩, hi => by
    obtain ⟨us, n, hm, h⟩ := k.get (i := i) hi
    exact ⟨us, n, List.mem_cons_of_mem _ hm, h⟩
  | [], [], [], _, _, _, hi => by simp at hi
  | [], [], _ :: _, _, _, x, _ => x.elim
  | [], _ :: _, _, _, _, x, _ => x.elim
  | _ :: _, [], _, _, _, x, _ => x.elim
  | _ :: _, _ :: _, [], _, _, x, _ => x.elim
theorem Blks.ok : ∀ {tl : List (Addr × Obj)} {as : List Addr} {M : List (List Int)}, Blks tl as M → ∀ r ∈ M, r.length = 16 ∧ ∀ y ∈ r, OctOk y
  | [], [], [], _, _, h => by simp at h
  | _ :: _, _ :: _, _ :: _, ⟨⟨_, _, _, _, h1, h2⟩, k⟩, r, hr => by
    rcases List.mem_cons.mp hr with rfl | hr
    · exact ⟨h1, h2⟩
    · exact k.ok r hr
  | [], [], _ :: _, x, _, _ => x.elim
  | [], _ :: _, _, x, _, _ => x.elim
  | _ :: _, [], _, x, _, _ => x.elim
  | _ :: _, _ :: _, [], x, _, _ => x.elim
section
variable {w : World} {A : Around} {h₀ : Heap} {L : Addr} {m : Str → Option Value} {env : Env} {elt : Expr} {x : Str} {scope : Scope} {cl : List (Str × Addr)} {s : Shared} {S : List (Addr × Obj) → Prop} {P : Nat → Value → Prop} {Fin : List Value → List (Addr × Obj) → Prop}
inductive BlkEl (e0 : Addr × Obj) (st c : Addr) (k : Int) (tl : List (Addr × Obj)) (y : Value) (news' : List (Addr × Obj)) : Prop
  | mk0 (l : Addr) (us : List Value) (nn : Nat) (r : List Int) (k'' : Int) (tk'' : Tok) (vs'' : List Value) (cells'' : List Int) (n1 n2 : Nat) (z1 : y = .ref l) (z2 : IntsAre us r) (z3 : r.length = 16) (z4 : (∀ y ∈ r, OctOk y)) (z5 : news' = e0 :: (st, listOf #[.int k'' tk'', .ref c] n1) :: (c, listOf (List.toArray vs'') n2) :: (tl ++ [(l, listOf (List.toArray us) nn)])) (z6 : StOk k'' vs'' cells'') (z7 : k'' ≤ k + 18) (z8 : (@Ne Nat e0.1 l)) (z9 : (@Ne Nat st l)) (z10 : (@Ne Nat c l)) : BlkEl e0 st c k tl y news'
/-- the comprehension of _law_blocks -/
theorem comp_blks {e0 : Addr × Obj} {st c : Addr} {k : Int} {tk0 : Tok} {vs : List Value} {cells : List Int} {n1 n2 n : Nat} (ok : StOk k vs cells)
    (turn : ∀ (i : Nat) k' tk' vs' cells' n1 n2 tl as M ys v I oI C oC D m₂ h tk (E' : Value → Shared → Prop), i < n → StOk k' vs' cells' → k' ≤ k + 18 * i → Blks tl as M → AllNe e0.1 tl → AllNe st tl → AllNe c tl → P i v → LCg.NsObj oC m₂ → m₂ x = some v → Fr h₀ L h m →
      News h₀ L h ((I, oI) :: (C, oC) :: (D, LCg.lst ys) :: e0 :: (st, listOf #[.int k' tk', .ref c] n1) :: (c, listOf (List.toArray vs') n2) :: tl) → LCg.Off3 I C D (e0 :: (st, listOf #[.int k' tk', .ref c] n1) :: (c, listOf (List.toArray vs') n2) :: tl) → ((@Ne Nat I C) ∧ (@Ne Nat I D) ∧ (@Ne Nat C D)) →
      wpAny (model PySem.Challenge.rw_yv0001_01.row.prog w) A (eval elt (compEnvC scope cl C env)) (LCg.CompEnd h₀ L m { s with heap := h, toks := tk } I oI C oC D (LCg.lst ys) S (BlkEl e0 st c k' tl)) E' { s with heap := h, toks := tk })
    (fin : ∀ as M tl k' tk' vs' cells' n1 n2, Blks tl as M → M.length = n → StOk k' vs' cells' → k' ≤ k + 18 * n → AllNe e0.1 tl → AllNe st tl → AllNe c tl → Fin (as.map Value.ref) (e0 :: (st, listOf #[.int k' tk', .ref c] n1) :: (c, listOf (List.toArray vs') n2) :: tl)) :
    LCg.CompRest PySem.Challenge.rw_yv0001_01.row.prog w A h₀ L m env elt x scope cl s S P Fin n 0 [] [e0, (st, listOf #[.int k tk0, .ref c] n1), (c, listOf (List.toArray vs) n2)] := by
  have key : ∀ (j i : Nat) as M tl (k' : Int) (tk' : Tok) (vs' : List Value) (cells' : List Int) (n1 n2 : Nat), i + j = n → Blks tl as M → M.length = i → StOk k' vs' cells' → k' ≤ k + 18 * i → AllNe e0.1 tl → AllNe st tl → AllNe c tl →
      LCg.CompRest PySem.Challenge.rw_yv0001_01.row.prog w A h₀ L m env elt x scope cl s S P Fin j i (as.map Value.ref) (e0 :: (st, listOf #[.int k' tk', .ref c] n1) :: (c, listOf (List.toArray vs') n2) :: tl) := by
    intro j
    induction j with
    | zero =>
      intro i as M tl k' tk' vs' cells' n1 n2 hi hB hM ok' hk o1 o2 o3
      have e : i = n := by omega
      subst e
      exact LCg.CompRest.zero (fin as M tl k' tk' vs' cells' n1 n2 hB hM ok' hk o1 o2 o3)
    | succ j ih =>
      intro i as M tl k' tk' vs' cells' n1 n2 hi hB hM ok' hk o1 o2 o3
      refine LCg.CompRest.succ ?_
      intro v I oI C oC D m₂ h tk E' hv hC hx F N off ne
      refine wpAny_mono (turn i k' tk' vs' cells' n1 n2 tl as M _ v I oI C oC D m₂ h tk E' (by omega) ok' hk hB o1 o2 o3 hv hC hx F N off ne) (fun y s₂ hq => ?_) fun _ _ e => e
      obtain ⟨h', tk2, nw, e, F', N', off', hS, l, us, nn, r, k2, tk2', vs2, cells2, a1, a2, rfl, hi', hr, ho, rfl, ok2, hk2, d1, d2, d3⟩ := hq
      refine ⟨h', tk2, _, e, F', N', off', hS, ?_⟩
      have app : ∀ {d : Addr}, AllNe d tl → (@Ne Nat d l) → AllNe d (tl ++ [(l, listOf (List.toArray us) nn)]) := fun a b => allNe_of fun p hp => by
        rcases List.mem_append.mp hp with hp | hp
        · exact a.out p hp
        · rw [List.mem_singleton.mp hp]; exact Ne.symm b
      have := ih (i + 1) (as ++ [l]) (M ++ [r]) (tl ++ [(l, listOf (List.toArray us) nn)]) k2 tk2' vs2 cells2 a1 a2 (by omega) (hB.snoc hi' hr ho) (by rw [List.length_append, hM]; rfl) ok2 (by omega) (app o1 d1) (app o2 d2) (app o3 d3)
      rw [List.map_append] at this
      exact this
  exact key n 0 [] [] [] k tk0 vs cells n1 n2 (by omega) trivial rfl ok (by omega) trivial trivial trivial
end
inductive BlksEnd (c st : Addr) (k : Int) (v : Value) (news' : List (Addr × Obj)) : Prop
  | mk0 (l : Addr) (as : List Addr) (M : List (List Int)) (n : Nat) (tl : List (Addr × Obj)) (k' : Int) (tk' : Tok) (vs' : List Value) (cells' : List Int) (n1 n2 : Nat) (z1 : v = .ref l) (z2 : news' = (l, listOf (as.map Value.ref).toArray n) :: (st, listOf #[.int k' tk', .ref c] n1) :: (c, listOf (List.toArray vs') n2) :: tl) (z3 : Blks tl as M) (z4 : 1 ≤ M.length) (z5 : M.length ≤ 4) (z6 : StOk k' vs' cells') (z7 : k' ≤ k + 80) (z8 : (@Ne Nat l st)) (z9 : (@Ne Nat l c)) (z10 : AllNe l tl) (z11 : AllNe st tl) (z12 : AllNe c tl) : BlksEnd c st k v news'
theorem blocks_spec (w : World) {st c : Addr} {k : Int} {tk0 tm : Tok} {vs : List Value} {cells : List Int} {n1 n2 : Nat} (ok : StOk k vs cells) (hk1 : k < 80000) (hne : (@Ne Nat st c)) :
    Spec w (.ref 477) [.ref st, .int 4 tm] (fun _ => True) [(st, listOf #[.int k tk0, .ref c] n1), (c, listOf vs.toArray n2)] 3 24 (BlksEnd c st k) := by
  with_unfolding_all refine' spec_defC ?ho ?hcd ?hbind ?hkind ?hnd ?c2 ?c3 ?c4 ?_
  (case ho => k_is)
  (case hcd => k_is)
  (case hbind => first | exact bind_plain rfl | exact bind_dflt rfl (by k_is) rfl rfl rfl)
  (case hkind => exact rfl)
  (case hnd => decide +kernel)
  (case c2 => exact rfl)
  (case c3 => exact rfl)
  (case c4 => exact rfl)
  intro p loose mean mg mb dp un gd cn cs ca ccd cl outer base L g L1 h1 s tk cells B F X N Y T hdp hun hyp l1
  (try k_lt l1)
  refine letA ?_
  intro A0
  obtain ⟨oc1, hE, dc1⟩ := CellsAre.one Y
  subst hE
  clear Y
  (try simp only [List.nil_append, List.cons_append] at N)
  (try dsimp only)
  (try k_fold)
  have q1 : (@Ne Nat (L1 + 1) st) := by omega
  have q2 : (@Ne Nat (L1 + 1) c) := by omega
  (repeat' (first | (k_unfold; (try dsimp only)) | ((with_reducible show wpAny _ _ (exec _ _) _ _ _); (fail_if_success (fail_if_success k_fold)); refine foldQ ?_; intro q9) | ((with_reducible show wpAny _ _ (eval (Expr.Call _ _ _ _) _) _ _ _); (fail_if_success (fail_if_success k_fold)); refine foldQ ?_; intro q9) | ((with_reducible show wpAny _ _ (eval (Expr.Subscript _ _ _) _) _ _ _); (fail_if_success (fail_if_success k_fold)); refine foldQ ?_; intro q9)  | ((with_reducible show SrcG _ _ _ _ _ _ _ _ _ _ _ _ _ _ _); (refine Hold.mk ?_)) | (k_here; (with_reducible show wpAny _ _ (eval (Expr.ListComp _ [⟨Expr.Name _ _, _, _, _⟩] _ _) _) _ _ _); k_dflt (refine ListComp_G (by k_asm) (by with_unfolding_all rfl) (by decide) (by rfl) (by decide) (by rfl) ?_)) | (k_here; (with_reducible show wpAny _ _ (call (Value.ref 455) [Value.ref _, Value.int _ _]) _ _ _); k_dflt ( refine' take_use ?k1 ?k2 ?k3 ?k4 ?k5 ?k6 ?k7 ?k8 ?k9 ?k10 ?k11 ?k12 ?k13 ?k14 ?k15 ?k16 ?_; (case k1 | k2 | k3 | k4 | k5 => k_asm); (case k6 => first | exact rfl | assumption); (case k7 | k8 => k_mem); (case k9 => assumption); (case k10 => (intro o1; k_upd)); (case k11 => (intro o1 o2; k_upd)); (case k12 | k13 | k14 => omega); (case k15 => ktr_room); (case k16 => ktr_units); intro x' k' t' tk' vs' cells' n1' n2' h' tks' F' N' hx0' hx1' ok' hk'; (try dsimp only at N'); (try k_fold))) | (k_end; wrow_close) | walk1 | (dsimp only; walk1) | (leave1; walk_say "STEP leave1"; try dsimp only) | fail "no step"))
  unfold Hold
  rename IsRange _ _ _ _ _ _ _ _ => hr
  rename News _ _ _ _ => N1
  rename Fr _ _ _ _ => F1
  obtain ⟨xn, rfl⟩ : ∃ n : Nat, x' = n := ⟨x'.toNat, by omega⟩
  refine SrcG.range (n := 1 + xn) (news := [(L1 + 1, oc1), (st, listOf #[.int k' tk', .ref c] n1'), (c, listOf (List.toArray vs') n2')]) rfl F1 N1 hr (small_one (by omega) (by omega) (by omega) (by omega)) ((rangeSize_nat _ _).trans (by omega)) (by rw [PySem.sizeLine_eq]; omega) (by lcg_sub)
    (fun g2 => comp_blks ok' (fun i ka ta va ca m1 m2 tl as M ys v I oI C oC D m₂ h tk2 E' hi oka hka hB o1 o2 o3 hP hC hx F2 N2 off ne => ?_) (fun as M tl ka ta va ca m1 m2 hB hM oka hka o1 o2 o3 => ?_))
  · obtain ⟨t9, rfl⟩ := hP
    clear hr
    (try k_unmd)
    (try k_fold)
    (repeat' (first | (k_unfold; (try dsimp only)) | ((with_reducible show wpAny _ _ (exec _ _) _ _ _); (fail_if_success (fail_if_success k_fold)); refine foldQ ?_; intro q9) | ((with_reducible show wpAny _ _ (eval (Expr.Call _ _ _ _) _) _ _ _); (fail_if_success (fail_if_success k_fold)); refine foldQ ?_; intro q9) | ((with_reducible show wpAny _ _ (eval (Expr.Subscript _ _ _) _) _ _ _); (fail_if_success (fail_if_success k_fold)); refine foldQ ?_; intro q9)  | (k_here; (with_reducible show LCg.CompEnd _ _ _ _ _ _ _ _ _ _ _ _ _ _); (refine Hold.mk ?_)) | (k_here; (with_reducible show wpAny _ _ (call (Value.ref 460) [Value.ref _, Value.int _ _]) _ _ _); k_dflt ( refine' oct_use ?k1 ?k2 ?k3 ?k4 ?k5 ?k6 ?k7 ?k8 ?k9 ?k10 ?k11 ?k12 ?k13 ?k14 ?k15 ?k16 ?_; (case k1 | k2 | k3 | k4 | k5 => k_asm); (case k6 => first | exact rfl | assumption); (case k7 | k8 => k_mem); (case k9 => assumption); (case k10 => (intro o1; k_upd)); (case k11 => (intro o1 o2; k_upd)); (case k12 => omega); (case k13 => first | omega | exact (menu3 (by tb_start) (by tb_start)).1); (case k14 => first | omega | exact (menu3 (by tb_start) (by tb_start)).2.1); (case k15 => ktr_room); (case k16 => ktr_units); intro l' ns' us' nn' k' tk' vs' cells' n1' n2' h' tks' F' N' l1 hi' hl' ho' ok' hk'; (have h8 := l1); (simp only [AllNe, and_true] at l1); (try dsimp only at N'); (try k_fold))) | (k_end; wrow_close) | walk1 | (dsimp only; walk1) | (leave1; walk_say "STEP leave1"; try dsimp only) | fail "no step"))
    unfold Hold
    rename News _ _ _ _ => N9
    rename Fr _ _ _ _ => F9
    refine LCg.CompEnd.intro F9 N9 _ (by exact sub_rows (rest := [_, _, _]) (ext := [])) ?_ trivial ⟨l', us', nn', ns', k', tk', vs', cells', n1', n2', rfl, hi', hl', ho', rfl, by assumption, by omega, by k_ne, by k_ne, by k_ne⟩
    exact ⟨⟨by k_ne, by k_ne, by k_ne⟩, ⟨by k_ne, by k_ne, by k_ne⟩, ⟨by k_ne, by k_ne, by k_ne⟩, LCg.Off3.of fun p hp => by
      rcases List.mem_append.mp hp with hp | hp
      · exact off.mem p ((by lcg_sub : ∀ p ∈ tl, p ∈ _) p hp)
      · rw [List.mem_singleton.mp hp]; exact ⟨by k_ne, by k_ne, by k_ne⟩⟩
  · clear hr
    unfold LCg.FinE
    intro D7 h7 tk7 F7 N7 o7
    (repeat' (first | (k_unfold; (try dsimp only)) | ((with_reducible show wpAny _ _ (exec _ _) _ _ _); (fail_if_success (fail_if_success k_fold)); refine foldQ ?_; intro q9) | ((with_reducible show wpAny _ _ (eval (Expr.Call _ _ _ _) _) _ _ _); (fail_if_success (fail_if_success k_fold)); refine foldQ ?_; intro q9) | ((with_reducible show wpAny _ _ (eval (Expr.Subscript _ _ _) _) _ _ _); (fail_if_success (fail_if_success k_fold)); refine foldQ ?_; intro q9)  | (k_end; wrow_close) | walk1 | (dsimp only; walk1) | (leave1; walk_say "STEP leave1"; try dsimp only) | fail "no step"))
    ((try k_unmd); (try k_unfold); (try dsimp only))
    exact Ends.mk2 (by k_asm) (by k_asm) ⟨D7, as, M, _, tl, ka, ta, va, ca, m1, m2, rfl, rfl, hB, by omega, by omega, oka, by omega, o7.2.1.symm, o7.2.2.1.symm, allNe_of fun p hp => off1_mem _ o7 p ((by lcg_sub : ∀ p ∈ tl, p ∈ _) p hp), o2, o3⟩ (by lcg_sub)
end
section
theorem cnt_init2 (w : World) {x dx : Addr} {z : Int} {tv : Tok} (hne : (@Ne Nat x dx)) (h0 : 0 ≤ z) (h1 : z < 60000) :
    Spec w (.ref 133) [.ref x, .int z tv] (fun _ => True) [(x, instObj 151 dx), (dx, dictOf [] 0)] 1 8
      (fun r nw => r = .none ∧ ∃ lc us n t1, nw = [(x, instObj 151 dx), (dx, dictOf (ctEs w.params t1 lc) 1), (lc, listOf (List.toArray us) n)] ∧ IntsAre us (oct16 z.toNat) ∧ (@Ne Nat lc x) ∧ (@Ne Nat lc dx)) := by
  obtain ⟨v, rfl⟩ : ∃ v : Nat, z = v := ⟨z.toNat, by omega⟩
  exact cnt_init w hne (by omega)
theorem sep_two {nw fr all : List (Addr × Obj)} {a b c : Addr × Obj} (h1 : AllNeT nw (a :: b :: c :: all)) (h2 : AllNeT [a, b, c] all) (s : ∀ q ∈ fr, q ∈ nw ++ [a, b, c]) : ∀ p ∈ all, ∀ q ∈ fr, q.1 ≠ p.1 := fun p hp q hq => by
  rcases List.mem_append.mp (s q hq) with h | h
  · exact h1.out p (List.mem_cons_of_mem _ (List.mem_cons_of_mem _ (List.mem_cons_of_mem _ hp))) q h
  · exact h2.out p hp q h
theorem mem_sub {α : Type} {x : α} {tl all : List α} (h : x ∈ tl) (s : ∀ p ∈ tl, p ∈ all) : x ∈ all := s _ h
section
variable {w : World} {E : Value → Shared → Prop} {p : Program} {loose : List Str} {mean : ExcName → Option Value} {mg mb : Str → Option Value} {dp un : Nat} {gd : Option (List Code)} {cn : Str} {cs : Scope} {a : Addr} {ccd : Value} {cl : List (Str × Addr)} {outer : List Env} {A₀ : Around} {base h₀ : Heap} {L : Addr} {m : Str → Option Value} {s : Shared}
/-- a call after which only what it gives back is needed -/
theorem spec_all {Q : Value → Shared → Prop} {f : Value} {args : List Value} {hyp : Heap → Prop} {news whole : List (Addr × Obj)} {D U : Nat} {R : Value → List (Addr × Obj) → Prop} (S : Spec w f args hyp news D U R)
    (B : Below A₀ base outer h₀) (F : Fr h₀ L s.heap m) (X : (mkK.heap_1 w.params).In h₀) (N : News h₀ L s.heap whole) (T : Top p loose mean mg mb h₀) (hk : cs.kind = .function) (sub : ∀ p ∈ news, p ∈ whole)
    (hyp' : ∀ g, KeepBut s.heap g (news.map (·.1)) → hyp g) (hd' : dp + D < recursionLimit) (hu : un + U < cLine)
    (cont : ∀ v nw h' tk, Fr h₀ L h' m → News h₀ L h' nw → R v nw → Q v { s with heap := h', toks := tk }) :
    wpAny (model PySem.Challenge.rw_yv0001_01.row.prog w) (ktrTop dp un gd cn cs L a ccd cl outer) (call f args) Q E s :=
  wpAny_call (S p loose mean mg mb dp un gd cn cs a ccd cl outer A₀ base h₀ L m s Q E B F X (fun q hq => N q (sub q hq)) T hk hd' hu hyp' fun v nw h' tk' F' N' _ _ r => cont v nw h' tk' F' N' r)
/-- a call that keeps its rows and gives a new list -/
theorem spec_new {Q : Value → Shared → Prop} {f : Value} {args : List Value} {hyp : Heap → Prop} {all : List (Addr × Obj)} {D U : Nat} {zs : List Int} (S : Spec w f args hyp [] D U (NewL zs))
    (B : Below A₀ base outer h₀) (F : Fr h₀ L s.heap m) (X : (mkK.heap_1 w.params).In h₀) (N : News h₀ L s.heap all) (T : Top p loose mean mg mb h₀) (hk : cs.kind = .function)
    (hyp' : ∀ g, (∀ b o, s.heap.get? b = some o → g.get? b = some o) → hyp g) (hd' : dp + D < recursionLimit) (hu : un + U < cLine)
    (cont : ∀ l us k h' tk, Fr h₀ L h' m → News h₀ L h' ((l, listOf (List.toArray us) k) :: all) → AllNe l all → IntsAre us zs → Q (.ref l) { s with heap := h', toks := tk }) :
    wpAny (model PySem.Challenge.rw_yv0001_01.row.prog w) (ktrTop dp un gd cn cs L a ccd cl outer) (call f args) Q E s :=
  wpAny_call (S p loose mean mg mb dp un gd cn cs a ccd cl outer A₀ base h₀ L m s Q E B F X News.nil T hk hd' hu (fun g K => hyp' g fun b o e => K b o e (by simp)) fun v nw h' tk' F' N' K' fr r => by
    obtain ⟨l, us, k, rfl, rfl, hi⟩ := r
    have hf : s.heap.get? l = none := (fr (l, _) List.mem_cons_self).elim (fun h => by simp at h) id
    refine cont l us k h' tk' F' (fun q hq => ?_) (allNe_of (lt_of_fresh N hf)) hi
    rcases List.mem_cons.mp hq with rfl | hq
    · exact N' _ List.mem_cons_self
    · exact all_keep N K' q hq)
theorem added_use {Q : Value → Shared → Prop} {l1 l2 : Addr} {us1 us2 : List Value} {ns1 ns2 : List Int} {n1 n2 : Nat} {all : List (Addr × Obj)}
    (B : Below A₀ base outer h₀) (F : Fr h₀ L s.heap m) (X : (mkK.heap_1 w.params).In h₀) (N : News h₀ L s.heap all) (T : Top p loose mean mg mb h₀) (hk : cs.kind = .function)
    (h1 : (l1, listOf (List.toArray us1) n1) ∈ all) (h2 : (l2, listOf (List.toArray us2) n2) ∈ all) (i1 : IntsAre us1 ns1) (i2 : IntsAre us2 ns2) (hl : ns1.length = ns2.length) (hl2 : ns2.length ≤ 80) (hd' : dp + 1 < recursionLimit) (hu : un + 8 < cLine)
    (cont : ∀ l us n h' tk, Fr h₀ L h' m → News h₀ L h' ((l, listOf (List.toArray us) n) :: all) → AllNe l all → IntsAre us (List.zipWith Builtin.bitXor ns1 ns2) → Q (.ref l) { s with heap := h', toks := tk }) :
    wpAny (model PySem.Challenge.rw_yv0001_01.row.prog w) (ktrTop dp un gd cn cs L a ccd cl outer) (call (.ref 472) [.ref l1, .ref l2]) Q E s :=
  wpAny_call (added_spec w (n1 := n1) (n2 := n2) i1 i2 hl hl2 p loose mean mg mb dp un gd cn cs a ccd cl outer A₀ base h₀ L m s Q E B F X (fun q hq => by
    rcases List.mem_cons.mp hq with rfl | hq
    · exact N _ h1
    · rw [List.mem_singleton.mp hq]; exact N _ h2) T hk hd' hu (fun _ _ => trivial) fun v nw h' tk' F' N' K' fr r => by
    obtain ⟨l, us, n, rfl, rfl, hi, d1, d2⟩ := r
    have hf : s.heap.get? l = none := (fr (l, _) List.mem_cons_self).elim (fun h => by
      simp only [List.map_cons, List.map_nil, List.mem_cons, List.not_mem_nil, or_false] at h
      exact (h.elim d1 d2).elim) id
    refine cont l us n h' tk' F' (fun q hq => ?_) (allNe_of (lt_of_fresh N hf)) hi
    rcases List.mem_cons.mp hq with rfl | hq
    · exact N' _ List.mem_cons_self
    · by_cases e1 : q.1 = l1
      · rw [same_obj N h1 hq e1]; exact N' _ (List.mem_cons_of_mem _ List.mem_cons_self)
      · by_cases e2 : q.1 = l2
        · rw [same_obj N h2 hq e2]; exact N' _ (List.mem_cons_of_mem _ (List.mem_cons_of_mem _ List.mem_cons_self))
        · exact ⟨K' _ _ (N q hq).1 (by simp [e1, e2]), (N q hq).2⟩)
theorem ecbe_use {Q : Value → Shared → Prop} {x dx ax : Addr} {t tb : Tok} {n : Nat} {ks : List (List Int)} {b : Array UInt8} {ns : List Int} {all tl : List (Addr × Obj)}
    (B : Below A₀ base outer h₀) (F : Fr h₀ L s.heap m) (X : (mkK.heap_1 w.params).In h₀) (N : News h₀ L s.heap all) (T : Top p loose mean mg mb h₀) (hk : cs.kind = .function)
    (hx : (x, instObj 307 dx) ∈ all) (hdx : (dx, dictOf (aesEs w.params t ax) n) ∈ all) (hA : AesL w.params tl ax ks) (subt : ∀ p ∈ tl, p ∈ all) (hb : KBw.bInts b = ns) (hl : ns.length = 16) (ho : ∀ y ∈ ns, OctOk y) (hd' : dp + 3 < recursionLimit) (hu : un + 24 < cLine)
    (cont : ∀ b' t' h' tk, Fr h₀ L h' m → News h₀ L h' all → KBw.bInts b' = enc w.params ks ns → Q (.bytes b' t') { s with heap := h', toks := tk }) :
    wpAny (model PySem.Challenge.rw_yv0001_01.row.prog w) (ktrTop dp un gd cn cs L a ccd cl outer) (call (.ref 297) [.ref x, .bytes b tb]) Q E s :=
  (ecb_spec w (x := x) (dx := dx) (ax := ax) (t := t) (n := n) (ks := ks) hb hl ho).read B F X N T hk hd' hu (fun g K => ⟨K _ _ (N _ hx).1, K _ _ (N _ hdx).1, (AesL.at hA (News.sub N subt)).mono K⟩) fun v h' k F' N' _ r => by
    obtain ⟨b', t', rfl, hb'⟩ := r
    exact cont b' t' h' k F' N' hb'
theorem subr_use {Q : Value → Shared → Prop} {A : Around} {l r : Addr} {as : List Addr} {n j : Nat} {i : Int} {u : Tok} {value slice : Expr} {all : List (Addr × Obj)} (N : News h₀ L s.heap all) (hm : (l, listOf (List.toArray (as.map Value.ref)) n) ∈ all) (hj : as[j]? = some r) (hi : i = (j : Int)) (hf : i < 2 ^ 63)
    (h : Q (.ref r) s) (hs : subscripted slice false (.ref l) (.int i u) = operate [.ref l, .int i u] (getItem (.ref l) (.int i u))) :
    wpAny (model PySem.Challenge.rw_yv0001_01.row.prog w) A (subscriptTail value slice (.ref l) (.int i u)) Q E s := by
  have hlt : j < as.length := (List.getElem?_eq_some_iff.mp hj).1
  exact sub_refs N hm (by omega) (by omega) hf (fun a' ha' => by
    rw [hi, Int.toNat_natCast, hj] at ha'
    cases ha'; exact h) hs
theorem blocks_use {Q : Value → Shared → Prop} {st c : Addr} {k : Int} {tk0 tm : Tok} {vs : List Value} {cells : List Int} {n1 n2 : Nat} {all : List (Addr × Obj)} {f1 : Obj → List (Addr × Obj)} {f2 : Obj → Obj → List (Addr × Obj)}
    (B : Below A₀ base outer h₀) (F : Fr h₀ L s.heap m) (X : (mkK.heap_1 w.params).In h₀) (N : News h₀ L s.heap all) (T : Top p loose mean mg mb h₀) (hk : cs.kind = .function)
    (hst : (st, listOf #[.int k tk0, .ref c] n1) ∈ all) (hc : (c, listOf vs.toArray n2) ∈ all) (ok : StOk k vs cells) (U1 : ∀ o, Upd st (listOf #[.int k tk0, .ref c] n1) o all (f1 o)) (U2 : ∀ o o2, Upd c (listOf vs.toArray n2) o2 (f1 o) (f2 o o2))
    (hk1 : k < 80000) (hd' : dp + 3 < recursionLimit) (hu : un + 24 < cLine)
    (cont : ∀ l as M n tl k' tk' vs' cells' n1 n2 h' tks, Fr h₀ L h' m → News h₀ L h' ((l, listOf (as.map Value.ref).toArray n) :: (f2 (listOf #[.int k' tk', .ref c] n1) (listOf (List.toArray vs') n2) ++ tl)) → AllNe l all → AllNeT tl all → AllNe l tl → Blks tl as M → 1 ≤ M.length → M.length ≤ 4 → StOk k' vs' cells' → k' ≤ k + 80 → Q (.ref l) { s with heap := h', toks := tks }) :
    wpAny (model PySem.Challenge.rw_yv0001_01.row.prog w) (ktrTop dp un gd cn cs L a ccd cl outer) (call (.ref 477) [.ref st, .int 4 tm]) Q E s := by
  have hne := ne_of_lists N ok.are hst hc
  refine wpAny_call (blocks_spec w (tk0 := tk0) (n1 := n1) (n2 := n2) ok hk1 hne p loose mean mg mb dp un gd cn cs a ccd cl outer A₀ base h₀ L m s Q E B F X (fun q hq => ?_) T hk hd' hu (fun _ _ => trivial) ?_)
  · rcases List.mem_cons.mp hq with rfl | hq
    · exact N _ hst
    · rw [List.mem_singleton.mp hq]; exact N _ hc
  · rintro v news' h' tk' F' N' K' fr ⟨l, as, M, n, tl, k', tk1, vs', cells', m1, m2, rfl, rfl, hB, hM1, hM4, ok', hk', d1, d2, d3, d4, d5⟩
    have out : ∀ q : Addr × Obj, q.1 ≠ st → q.1 ≠ c → (q.1 ∈ ([(st, listOf #[.int k tk0, .ref c] n1), (c, listOf vs.toArray n2)].map (·.1)) ∨ s.heap.get? q.1 = none) → s.heap.get? q.1 = none := fun q h1 h2 h => h.elim (fun h => by
      simp only [List.map_cons, List.map_nil, List.mem_cons, List.not_mem_nil, or_false] at h
      exact (h.elim h1 h2).elim) id
    have hf : s.heap.get? l = none := out (l, listOf (as.map Value.ref).toArray n) d1 d2 (fr _ List.mem_cons_self)
    have htl : ∀ q ∈ tl, s.heap.get? q.1 = none := fun q hq => out q (d4.out q hq) (d5.out q hq) (fr q (List.mem_cons_of_mem _ (List.mem_cons_of_mem _ (List.mem_cons_of_mem _ hq))))
    refine cont l as M n tl k' tk1 vs' cells' m1 m2 h' tk' F' (fun q hq => ?_) (allNe_of (lt_of_fresh N hf)) (allNeT_of fun p hp q hq e => ?_) d3 hB hM1 hM4 ok' hk'
    · rcases List.mem_cons.mp hq with rfl | hq
      · exact N' _ List.mem_cons_self
      · rcases List.mem_append.mp hq with hq | hq
        · exact upd2_keep N (U1 _) (U2 _ _) K' (fun q hq => N' q (List.mem_cons_of_mem _ (by
            rcases List.mem_cons.mp hq with rfl | hq
            · exact List.mem_cons_self
            · rw [List.mem_singleton.mp hq]; exact List.mem_cons_of_mem _ List.mem_cons_self))) q hq
        · exact N' q (List.mem_cons_of_mem _ (List.mem_cons_of_mem _ (List.mem_cons_of_mem _ hq)))
    · have := htl q hq
      rw [e, (N p hp).1] at this; cases this
theorem addv_use {x y : Addr} {us vs : List Value} {n1 n2 : Nat} {news : List (Addr × Obj)} {A : Around} {Q : Value → Shared → Prop} (F : Fr h₀ L s.heap m) (N : News h₀ L s.heap news) (h1 : (x, listOf (List.toArray us) n1) ∈ news) (h2 : (y, listOf (List.toArray vs) n2) ∈ news) (hz : us.length + vs.length ≤ 100)
    (h : ∀ D h', Fr h₀ L h' m → News h₀ L h' ((D, listOf (List.toArray (us ++ vs)) 0) :: news) → AllNe D news → Q (.ref D) { s with heap := h' }) :
    wpAny (model PySem.Challenge.rw_yv0001_01.row.prog w) A (binaryOp .Add (.ref x) (.ref y)) Q E s :=
  kmk_add_lit F N ⟨_, (N _ h1).1, rfl, _, rfl⟩ ⟨_, (N _ h2).1, rfl, _, rfl⟩ (by simp) (fun D h' F' N' l1 => h D h' F' N' (allNe_of fun p hp => Nat.ne_of_lt (l1 p hp))) (by simp; rw [PySem.sizeLine_eq]; omega)
end
theorem len_vals {w : World} {A : Around} {E : Value → Shared → Prop} {s : Shared} {h₀ : Heap} {L : Addr} {news : List (Addr × Obj)} {l : Addr} {us : List Value} {n z : Nat} {Q : Value → Shared → Prop} (N : News h₀ L s.heap news) (hm : (l, listOf (List.toArray us) n) ∈ news) (hl : us.length = z) (hz : z ≤ 100000) (h : ∀ t' k, Q (.int (z : Int) t') { s with toks := k }) : wpAny (model PySem.Challenge.rw_yv0001_01.row.prog w) A (call (.builtin "len") [.ref l]) Q E s :=
  len_list ⟨_, (N _ hm).1, rfl, _, rfl⟩ (by rw [List.size_toArray, hl]; omega) (by rw [List.size_toArray, hl]; exact h _ _)
end
section
/-- what the law's ledger holds behind the loop of CTR -/
inductive LawM (w : World) (g : Heap) (K first : List Int) (bl : List (List Int)) (lb : Addr) (m : Str → Option Value) (nw : List (Addr × Obj)) : Prop
  | mk0 (lt : Addr) (nt : Nat) (ut : List Value) (as : List Addr) (tl : List (Addr × Obj)) (kb fb ad : Array UInt8) (tq tf tad tz : Tok) (x dx : Addr) (ta : Tok) (a : Addr) (tlx : List (Addr × Obj)) (z : Int) (z1 : nw = (x, instObj 307 dx) :: (dx, dictOf (aesEs w.params ta a) 1) :: (lt, listOf (List.toArray ut) nt) :: (lb, listOf (List.toArray (as.map Value.ref)) 0) :: (tl ++ tlx)) (z2 : Blks tl as bl) (z3 : IntsAre ut bl.flatten) (z4 : KBw.bInts kb = K) (z5 : KBw.bInts fb = first) (z6 : AesL w.params tlx a (expand w.params K)) (z7 : 0 ≤ z) (z8 : z < 999) (z9 : KBw.bInts ad = List.zipWith Builtin.bitXor bl.flatten (ctrRow w.params (expand w.params K) z.toNat bl.length)) (z10 : Keeps [(Str.ofString "ahead", .bytes ad tad), (Str.ofString "number", .int z tz), (Str.ofString "codebook", .ref x), (Str.ofString "text", .ref lt), (Str.ofString "blocks", .ref lb), (Str.ofString "first", .bytes fb tf), (Str.ofString "key", .bytes kb tq)] m) : LawM w g K first bl lb m nw
theorem law_d (w : World) {oc dV kV doc pm cdv ct : Value} {od an : Option Addr} {osl : Array (Option Value)} {name qual : Str} {params : Arguments} {body : List Stmt} {scope : Scope} (ho : (mkK.heap_1 w.params).lookup 496 = some ⟨oc, od, .func (fnOf name qual params body scope dV kV doc pm an cdv ct), osl⟩)
    {p : Program} {loose : List Str} {mean : ExcName → Option Value} {mg mb : Str → Option Value} {base g h : Heap} {cde : Value} {L1 fa : Addr} {s : Shared} {tk : Nat} {m : Str → Option Value} {nw : List (Addr × Obj)}
    (B : Below callerA base [] g) (F : Fr g L1 h m) (X : (mkK.heap_1 w.params).In g) (N : News g L1 h nw) (T : Top p loose mean mg mb g) {K first : List Int} {bl : List (List Int)} {lb : Addr} (hkey : KeyOk K) (hf16 : first.length = 16) (hfo : ∀ y ∈ first, OctOk y) (hb2 : 2 ≤ bl.length) (hb5 : bl.length ≤ 5) (hok : ∀ r ∈ bl, r.length = 16 ∧ ∀ y ∈ r, OctOk y)
    (J : LawM w g K first bl lb m nw) :
    wpAny (model PySem.Challenge.rw_yv0001_01.row.prog w) (callerA.deeper (envOf qual scope L1 fa cde)) (execs (body.drop 16) (envOf qual scope L1 fa cde))
      (fun fl s' => Ends g L1 s (fun v nw => v = .bool true ∧ nw = []) (match fl with | .ret v => v | _ => .none) s') (fun _ _ => False) { s with heap := h, toks := tk } := by
  with_unfolding_all (refine' fn_go ho ?hk9 ?_; (case hk9 => k_is))
  rintro rfl rfl rfl rfl
  clear ho
  dsimp only [List.drop]
  (try dsimp only)
  (try k_fold)
  obtain ⟨lt, nt, ut, as, tl, kb, fb, ad, tq, tf, tad, tz, x, dx, ta, a, tlx, z, rfl, hB, hut, hkb, hfb, hA, hz0, hz1, had, hk⟩ := J
  first | replace F := hk.fr F | replace F := hk.frI F
  clear hk
  have hfl := flat_len hok
  have hfo2 : ∀ y ∈ bl.flatten, 0 ≤ y ∧ y < 256 := flat_oct hok
  have hfo3 := flat_oct hok
  have hf200 : bl.flatten.length ≤ 200 := by omega
  obtain ⟨a0, ha0⟩ : ∃ a, as[0]? = some a := ⟨_, List.getElem?_eq_getElem (by rw [hB.len]; omega)⟩
  obtain ⟨u0, n0, hm0, hu0⟩ := hB.get ha0
  have hr0 := row_ok hok (i := 0) (by omega)
  have hr0l := hr0.1
  have hr0o := hr0.2
  have hr0o2 : ∀ y ∈ bl.getD 0 [], 0 ≤ y ∧ y < 256 := hr0.2
  have hr02 : (bl.getD 0 []).length ≤ 200 := by omega
  have hr80 : (bl.getD 0 []).length ≤ 80 := by omega
  have hfr : first.length = (bl.getD 0 []).length := by omega
  have hf2 : first.length ≤ 200 := by omega
  have h00 : (0 : Int) = ((0 : Nat) : Int) := rfl
  have h01 : (0 : Int) < 2 ^ 63 := by decide
  have hMl : (List.zipWith Builtin.bitXor first (bl.getD 0 [])).length = 16 := by rw [List.length_zipWith]; omega
  have hMl2 : (List.zipWith Builtin.bitXor first (bl.getD 0 [])).length ≤ 200 := by omega
  have hMo := xor_oct hfo hr0.2
  have hMo2 : ∀ y ∈ List.zipWith Builtin.bitXor first (bl.getD 0 []), 0 ≤ y ∧ y < 256 := hMo
  have hE : enc w.params (expand w.params K) (List.zipWith Builtin.bitXor (bl.getD 0 []) first) = enc w.params (expand w.params K) (List.zipWith Builtin.bitXor first (bl.getD 0 [])) := by rw [xor_swap hr0.2 hfo]
  have hcw := ctrRow_len w.params (expand w.params K) z.toNat bl.length
  have hAl : (List.zipWith Builtin.bitXor bl.flatten (ctrRow w.params (expand w.params K) z.toNat bl.length)).length = 16 * bl.length := by rw [List.length_zipWith]; omega
  have hAo := xor_oct hfo3 hcw.2
  have hBk : List.zipWith Builtin.bitXor (List.zipWith Builtin.bitXor bl.flatten (ctrRow w.params (expand w.params K) z.toNat bl.length)) (ctrRow w.params (expand w.params K) z.toNat bl.length) = bl.flatten := by
    rw [ctr_rows w.params (expand w.params K) z.toNat hok]; exact ctr_back w.params (expand w.params K) z.toNat hok
  unfold aesEs at N
  (repeat' (first | (k_unfold; (try dsimp only)) | ((with_reducible show wpAny _ _ (exec _ _) _ _ _); (fail_if_success (fail_if_success k_fold)); refine foldQ ?_; intro q9) | ((with_reducible show wpAny _ _ (eval (Expr.Call _ _ _ _) _) _ _ _); (fail_if_success (fail_if_success k_fold)); refine foldQ ?_; intro q9) | ((with_reducible show wpAny _ _ (eval (Expr.Subscript _ _ _) _) _ _ _); (fail_if_success (fail_if_success k_fold)); refine foldQ ?_; intro q9)  | (k_here; (with_reducible show wpAny _ _ (call (Value.type "bytes") [Value.ref _]) _ _ _); k_dflt (refine call_bytes_list (by k_asm) (by k_asm) (by first | k_mem | exact mem_sub (by tb_start) (by lcg_sub)) (by tb_start) (by tb_start) (by tb_start) (by rfl) (fun b' t' h' k' F' N' hb' => ?_)); (try k_fold)) | (k_here; (with_reducible show wpAny _ _ (subscriptTail _ _ (Value.ref _) (Value.int _ _)) _ _ _); k_dflt (refine' subr_use ?k1 ?k2 ?k3 ?k4 ?k5 ?_ ?k6; (case k1 => k_asm); (case k2 => k_mem); (case k3 | k4 | k5 => tb_start); (case k6 => with_unfolding_all rfl)); (try k_fold)) | (k_here; (with_reducible show wpAny _ _ (call (Value.ref 297) [Value.ref _, Value.bytes _ _]) _ _ _); k_dflt ( refine' ecbe_use ?k1 ?k2 ?k3 ?k4 ?k5 ?k6 ?k7 ?k8 ?k9 ?k10 ?k11 ?k12 ?k13 ?k14 ?k15 ?_; (case k1 | k2 | k3 | k4 | k5 => k_asm); (case k6 => first | exact rfl | assumption); (case k7 => k_mem); (case k8 => (unfold aesEs; k_mem)); (case k9 => tb_start); (case k10 => lcg_sub); (case k11 | k12 | k13 => tb_start); (case k14 => ktr_room); (case k15 => ktr_units); intro b' t' h' tk' F' N' hb'; (try k_fold))) | (k_here; (with_reducible show wpAny _ _ (call (Value.ref 329) [Value.ref _, Value.bytes _ _]) _ _ _); k_dflt ( refine' cbce_use ?k1 ?k2 ?k3 ?k4 ?k5 ?k6 ?k7 ?k8 ?k9 ?k10 ?k11 ?k12 ?k13 ?k14 ?k15 ?k16 ?k17 ?k18 ?k19 ?k20 ?k21 ?k22 ?k23 ?k24 ?_; (case k1 | k2 | k3 | k4 | k5 => k_asm); (case k6 => first | exact rfl | assumption); (case k7 => k_mem); (case k8 => (unfold cbcEs; k_updF)); (case k9 | k10 => tb_start); (case k11 => lcg_sub); (case k12 | k13 => tb_start); (case k14 => first | tb_start | exact PVl.bytes (nw := []) (by tb_start)); (case k15 => lcg_sub); (case k16 | k17 => first | exact trivial | tb_start); (case k18 | k19 | k20 | k21 | k22 => tb_start); (case k23 => ktr_room); (case k24 => ktr_units); intro l' us' kk' b' t' h' tk' F' N' l1 hi' hb'; (try dsimp only at N'); (unfold cbcEs at N'); (try k_fold))) | (k_here; (with_reducible show wpAny _ _ (call (Value.ref 337) [Value.bytes _ _, Value.bytes _ _]) _ _ _); k_dflt ( refine' new_use (fun x dx hne => cbc_init w hne (by tb_start) (by tb_start) (by tb_start) (by tb_start)) (fun _ _ _ _ h => h.1) ?c1 ?c2 ?c3 ?k1 ?k2 ?k3 ?k4 ?k5 ?k6 ?k7 ?k8 ?_; (case c1 | c2 | c3 => k_is); (case k1 | k2 | k3 | k4 | k5 => k_asm); (case k6 => first | exact rfl | assumption); (case k7 => ktr_room); (case k8 => ktr_units); rintro x' dx' nw' h' tk' hxd' F' N' hsep' ⟨_, tl', ta', a', ds', hnw', ⟨t1', hds'⟩, hA', o1', o2'⟩; subst hds'; subst hnw'; (have h7 := hsep'); (replace N' := Mine.News.last2 N'); (try simp only [List.cons_append, List.nil_append] at N'); (try simp only [AllNeT, and_true] at h7); (repeat (first | (refine an8 h7 ?_; clear h7; intro h8 h8 h8 h8 h8 h8 h8 h7) | (refine an4 h7 ?_; clear h7; intro h8 h8 h8 h7) | (refine an2 h7 ?_; clear h7; intro h8 h7))); (have h6 := hsep'); (unfold cbcEs at N'); (try k_fold))) | (k_here; (with_reducible show wpAny _ _ (call (Value.ref 438) [Value.ref _, Value.bytes _ _]) _ _ _); k_dflt ( refine' meth_last (ctrd_spec w ?h1 ?h2 ?h3 ?h4 ?h5 ?h6 ?h7) ?k1 ?k2 ?k3 ?k4 ?k5 ?k6 ?k7 ?k8 ?k9 ?k10 ?k11 ?k12 ?k13 ?k14 ?_; (case k1 | k2 | k3 | k4 | k5 => k_asm); (case k6 => first | exact rfl | assumption); (case k7 => (unfold ctrEs ctEs; lcg_sub)); (case h1 => exact ⟨by k_ne, by k_ne, by k_ne, by k_ne, by k_ne, by k_ne, by k_ne, by k_ne, by k_ne, by k_ne, by k_ne, by k_ne, by k_ne, by k_ne, by k_ne⟩); (case h2 | h3 | h4 => tb_start); (case h5 => omega); (case h6 => tb_start); (case h7 => omega); (case k8 => tb_start); (case k9 => exact (off_cons (by first | tb_start | exact allNe_of (allNe_sub (by tb_start) (by lcg_sub))) (off_cons (by first | tb_start | exact allNe_of (allNe_sub (by tb_start) (by lcg_sub))) (off_cons (by first | tb_start | exact allNe_of (allNe_sub (by tb_start) (by lcg_sub))) (off_cons (by first | tb_start | exact allNe_of (allNe_sub (by tb_start) (by lcg_sub))) (off_cons (by first | tb_start | exact allNe_of (allNe_sub (by tb_start) (by lcg_sub))) (off_cons (by first | tb_start | exact allNe_of (allNe_sub (by tb_start) (by lcg_sub))) off_nil))))))); (case k10 => lcg_sub); (case k11 => exact sep_two (by assumption) (by assumption) (by lcg_sub)); (case k12 => lcg_sub); (case k13 => ktr_room); (case k14 => ktr_units); intro b' t' h' tk' F' N' hb'; (try k_fold))) | (k_here; (with_reducible show wpAny _ _ (call (Value.ref 441) [Value.bytes _ _, Value.ref _]) _ _ _); k_dflt ( refine' new_use (fun x dx hne => ctr_init w hne (by tb_start) (by tb_start)) (fun _ _ _ _ h => h.1) ?c1 ?c2 ?c3 ?k1 ?k2 ?k3 ?k4 ?k5 ?k6 ?k7 ?k8 ?_; (case c1 | c2 | c3 => k_is); (case k1 | k2 | k3 | k4 | k5 => k_asm); (case k6 => first | exact rfl | assumption); (case k7 => ktr_room); (case k8 => ktr_units); rintro x' dx' nw' h' tk' hxd' F' N' hsep' ⟨_, tl', ta', a', t1', t2', lR', n', hnw', hA', o1', o2', o3', n1', n2'⟩; subst hnw'; (have h7 := hsep'); (replace N' := Mine.News.last3 N'); (try simp only [List.cons_append, List.nil_append] at N'); (try simp only [AllNeT, and_true] at h7); (repeat (first | (refine an8 h7 ?_; clear h7; intro h8 h8 h8 h8 h8 h8 h8 h7) | (refine an4 h7 ?_; clear h7; intro h8 h8 h8 h7) | (refine an2 h7 ?_; clear h7; intro h8 h7))); (have h6 := hsep'); (unfold ctrEs at N'); (try k_fold))) | (k_here; (with_reducible show wpAny _ _ (call (Value.ref 151) [Value.int _ _]) _ _ _); k_dflt ( refine' new_use (fun x dx hne => cnt_init2 w hne (by omega) (by omega)) (fun _ _ _ _ h => h.1) ?c1 ?c2 ?c3 ?k1 ?k2 ?k3 ?k4 ?k5 ?k6 ?k7 ?k8 ?_; (case c1 | c2 | c3 => k_is); (case k1 | k2 | k3 | k4 | k5 => k_asm); (case k6 => first | exact rfl | assumption); (case k7 => ktr_room); (case k8 => ktr_units); rintro x' dx' nw' h' tk' hxd' F' N' hsep' ⟨_, lc', us', n', t1', hnw', hi', n1', n2'⟩; subst hnw'; (have h7 := hsep'); (try simp only [List.cons_append, List.nil_append] at N'); (try simp only [AllNeT, and_true] at h7); (repeat (first | (refine an8 h7 ?_; clear h7; intro h8 h8 h8 h8 h8 h8 h8 h7) | (refine an4 h7 ?_; clear h7; intro h8 h8 h8 h7) | (refine an2 h7 ?_; clear h7; intro h8 h7))); (have h6 := hsep'); (unfold ctEs at N'); (try k_fold))) | (k_here; (with_reducible show wpAny _ _ (call (Value.ref 472) [Value.ref _, Value.ref _]) _ _ _); k_dflt ( refine' added_use ?k1 ?k2 ?k3 ?k4 ?k5 ?k6 ?k7 ?k8 ?k9 ?k10 ?k11 ?k12 ?k13 ?k14 ?_; (case k1 | k2 | k3 | k4 | k5 => k_asm); (case k6 => first | exact rfl | assumption); (case k7 => k_mem); (case k8 => first | k_mem | exact mem_sub (by tb_start) (by lcg_sub)); (case k9 | k10 | k11 | k12 => tb_start); (case k13 => ktr_room); (case k14 => ktr_units); intro l' us' nn' h' tk' F' N' l1 hi'; (try k_fold))) | (k_here; (with_reducible show wpAny _ _ (compareOp CmpOp.Eq (Value.bytes _ _) (Value.bytes _ _)) _ _ _); k_dflt (refine cmp_eq (by tb_start) (by tb_start) (by first | with_reducible rfl | tb_start | exact Eq.symm (by tb_start)) ?_); (try k_fold)) | (k_here; (with_reducible show wpAny _ _ (compareOp CmpOp.NotEq (Value.bytes _ _) (Value.bytes _ _)) _ _ _); k_dflt (refine cmp_ne (by tb_start) (by tb_start) (by first | with_reducible rfl | tb_start | exact Eq.symm (by tb_start)) ?_); (try k_fold)) | (k_here; (with_reducible show wpAny _ _ (call (Value.type "list") [Value.bytes _ _]) _ _ _); k_dflt (refine call_list_bytes (by rfl) (by k_asm) (by k_asm) (by tb_start) (by tb_start) (fun D' us' nn' h' k' F' N' l1 hi' => ?_)); (try k_fold)) | (k_end; wrow_close) | walk1 | (dsimp only; walk1) | (leave1; walk_say "STEP leave1"; try dsimp only) | fail "no step"))
  exact Ends.mk2 (by k_asm) (by k_asm) ⟨rfl, rfl⟩ (fun _ h => nomatch h)
end
section
/-- what the law's ledger holds once the code book stands -/
inductive LawK (w : World) (g : Heap) (K first : List Int) (bl : List (List Int)) (lb : Addr) (m : Str → Option Value) (nw : List (Addr × Obj)) : Prop
  | mk0 (st c lt : Addr) (k : Int) (tk0 : Tok) (vs : List Value) (cells : List Int) (n1 n2 nt : Nat) (ut : List Value) (as : List Addr) (tl : List (Addr × Obj)) (kb fb md : Array UInt8) (tq tf tmd : Tok) (x dx : Addr) (ta : Tok) (a : Addr) (tlx : List (Addr × Obj)) (z1 : nw = (x, instObj 307 dx) :: (dx, dictOf (aesEs w.params ta a) 1) :: (lt, listOf (List.toArray ut) nt) :: (st, listOf #[.int k tk0, .ref c] n1) :: (c, listOf (List.toArray vs) n2) :: (lb, listOf (List.toArray (as.map Value.ref)) 0) :: (tl ++ tlx)) (z2 : StOk k vs cells) (z3 : k < 80000) (z4 : Blks tl as bl) (z5 : IntsAre ut bl.flatten) (z6 : KBw.bInts kb = K) (z7 : KBw.bInts fb = first) (z8 : KBw.bInts md = (cfbRows w.params (expand w.params K) first bl).flatten) (z9 : AesL w.params tlx a (expand w.params K)) (z10 : ((@Ne Nat lt st) ∧ (@Ne Nat lt c) ∧ (@Ne Nat lb st) ∧ (@Ne Nat lb c) ∧ (@Ne Nat st c) ∧ (@Ne Nat x st) ∧ (@Ne Nat x c) ∧ (@Ne Nat dx st) ∧ (@Ne Nat dx c))) (z11 : AllNe st tl) (z12 : AllNe c tl) (z13 : AllNe st tlx) (z14 : AllNe c tlx) (z15 : Keeps [(Str.ofString "codebook", .ref x), (Str.ofString "made", .bytes md tmd), (Str.ofString "text", .ref lt), (Str.ofString "blocks", .ref lb), (Str.ofString "first", .bytes fb tf), (Str.ofString "key", .bytes kb tq), (Str.ofString "state", .ref st)] m) : LawK w g K first bl lb m nw
inductive LawC (w : World) (K first : List Int) (bl : List (List Int)) (x dx lt lb : Addr) (ta : Tok) (a : Addr) (ut : List Value) (nt : Nat) (as : List Addr) (tl tlx : List (Addr × Obj)) (b' kb fb : Array UInt8) (tq tf : Tok) (m : Str → Option Value) (nw : List (Addr × Obj)) : Prop
  | mk0 (z : Int) (tz tad : Tok) (z1 : nw = (x, instObj 307 dx) :: (dx, dictOf (aesEs w.params ta a) 1) :: (lt, listOf (List.toArray ut) nt) :: (lb, listOf (List.toArray (as.map Value.ref)) 0) :: (tl ++ tlx)) (z2 : 0 ≤ z) (z3 : z < 999) (z4 : KBw.bInts b' = List.zipWith Builtin.bitXor bl.flatten (ctrRow w.params (expand w.params K) z.toNat bl.length)) (z5 : Keeps [(Str.ofString "ahead", .bytes b' tad), (Str.ofString "number", .int z tz), (Str.ofString "codebook", .ref x), (Str.ofString "text", .ref lt), (Str.ofString "blocks", .ref lb), (Str.ofString "first", .bytes fb tf), (Str.ofString "key", .bytes kb tq)] m) : LawC w K first bl x dx lt lb ta a ut nt as tl tlx b' kb fb tq tf m nw
theorem law_c (w : World) {oc dV kV doc pm cdv ct : Value} {od an : Option Addr} {osl : Array (Option Value)} {name qual : Str} {params : Arguments} {body : List Stmt} {scope : Scope} (ho : (mkK.heap_1 w.params).lookup 496 = some ⟨oc, od, .func (fnOf name qual params body scope dV kV doc pm an cdv ct), osl⟩)
    {p : Program} {loose : List Str} {mean : ExcName → Option Value} {mg mb : Str → Option Value} {base g h : Heap} {cde : Value} {L1 fa : Addr} {s : Shared} {tk : Nat} {m : Str → Option Value} {nw : List (Addr × Obj)}
    (B : Below callerA base [] g) (F : Fr g L1 h m) (X : (mkK.heap_1 w.params).In g) (N : News g L1 h nw) (T : Top p loose mean mg mb g) {K first : List Int} {bl : List (List Int)} {lb : Addr} (hkey : KeyOk K) (hf16 : first.length = 16) (hfo : ∀ y ∈ first, OctOk y) (hb2 : 2 ≤ bl.length) (hb5 : bl.length ≤ 5) (hok : ∀ r ∈ bl, r.length = 16 ∧ ∀ y ∈ r, OctOk y)
    (J : LawK w g K first bl lb m nw) :
    wpAny (model PySem.Challenge.rw_yv0001_01.row.prog w) (callerA.deeper (envOf qual scope L1 fa cde)) (execs (body.drop 12) (envOf qual scope L1 fa cde))
      (fun fl s' => Ends g L1 s (fun v nw => v = .bool true ∧ nw = []) (match fl with | .ret v => v | _ => .none) s') (fun _ _ => False) { s with heap := h, toks := tk } := by
  have ho9 := ho
  with_unfolding_all (refine' fn_go ho ?hk9 ?_; (case hk9 => k_is))
  rintro rfl rfl rfl rfl
  clear ho
  dsimp only [List.drop]
  (try dsimp only)
  (try k_fold)
  obtain ⟨st, c, lt, k, tk0, vs, cells, n1, n2, nt, ut, as, tl, kb, fb, md, tq, tf, tmd, x, dx, ta, a, tlx, rfl, ok, hk0, hB, hut, hkb, hfb, hmd, hA, ⟨e1, e2, e3, e4, e5, e6, e7, e8, e9⟩, f1, f2, f3, f4, hk⟩ := J
  first | replace F := hk.fr F | replace F := hk.frI F
  clear hk
  unfold aesEs at N
  have hfl := flat_len hok
  have hfo2 : ∀ y ∈ bl.flatten, 0 ≤ y ∧ y < 256 := flat_oct hok
  have hfo3 := flat_oct hok
  have hf200 : bl.flatten.length ≤ 200 := by omega
  have hrows := cfbRows_ok w.params (expand w.params K) hok hf16 hfo
  have hrl : (cfbRows w.params (expand w.params K) first bl).length = bl.length := by unfold cfbRows; rw [List.length_map, List.length_range]
  have hr10 : (cfbRows w.params (expand w.params K) first bl).length ≤ 10 := by omega
  have hback := cfb_back w.params (expand w.params K) hok hf16 hfo
  have hvl : (List.map Value.ref as).length = bl.length := by rw [List.length_map]; exact hB.len
  have hfln : bl.flatten.length = 16 * bl.length := hfl
  (repeat' (first | (k_unfold; (try dsimp only)) | ((with_reducible show wpAny _ _ (exec _ _) _ _ _); (fail_if_success (fail_if_success k_fold)); refine foldQ ?_; intro q9) | ((with_reducible show wpAny _ _ (eval (Expr.Call _ _ _ _) _) _ _ _); (fail_if_success (fail_if_success k_fold)); refine foldQ ?_; intro q9) | ((with_reducible show wpAny _ _ (eval (Expr.Subscript _ _ _) _) _ _ _); (fail_if_success (fail_if_success k_fold)); refine foldQ ?_; intro q9)  | (k_here; (with_reducible show wpAny _ _ (call (Value.type "bytes") [Value.ref _]) _ _ _); k_dflt (refine call_bytes_list (by k_asm) (by k_asm) (by first | k_mem | exact mem_sub (by tb_start) (by lcg_sub)) (by tb_start) (by tb_start) (by tb_start) (by rfl) (fun b' t' h' k' F' N' hb' => ?_)); (try k_fold)) | (k_here; (with_reducible show wpAny _ _ (call (Value.ref 431) [Value.ref _, Value.bytes _ _]) _ _ _); k_dflt ( refine' meth_last (ctre_spec w ?h1 ?h2 ?h3 ?h4 ?h5 ?h6 ?h7) ?k1 ?k2 ?k3 ?k4 ?k5 ?k6 ?k7 ?k8 ?k9 ?k10 ?k11 ?k12 ?k13 ?k14 ?_; (case k1 | k2 | k3 | k4 | k5 => k_asm); (case k6 => first | exact rfl | assumption); (case k7 => (unfold ctrEs ctEs; lcg_sub)); (case h1 => exact ⟨by k_ne, by k_ne, by k_ne, by k_ne, by k_ne, by k_ne, by k_ne, by k_ne, by k_ne, by k_ne, by k_ne, by k_ne, by k_ne, by k_ne, by k_ne⟩); (case h2 | h3 | h4 => tb_start); (case h5 => omega); (case h6 => tb_start); (case h7 => omega); (case k8 => tb_start); (case k9 => exact (off_cons (by first | tb_start | exact allNe_of (allNe_sub (by tb_start) (by lcg_sub))) (off_cons (by first | tb_start | exact allNe_of (allNe_sub (by tb_start) (by lcg_sub))) (off_cons (by first | tb_start | exact allNe_of (allNe_sub (by tb_start) (by lcg_sub))) (off_cons (by first | tb_start | exact allNe_of (allNe_sub (by tb_start) (by lcg_sub))) (off_cons (by first | tb_start | exact allNe_of (allNe_sub (by tb_start) (by lcg_sub))) (off_cons (by first | tb_start | exact allNe_of (allNe_sub (by tb_start) (by lcg_sub))) off_nil))))))); (case k10 => lcg_sub); (case k11 => exact sep_two (by assumption) (by assumption) (by lcg_sub)); (case k12 => lcg_sub); (case k13 => ktr_room); (case k14 => ktr_units); intro b' t' h' tk' F' N' hb'; (try k_fold))) | (k_here; (with_reducible show wpAny _ _ (call (Value.ref 441) [Value.bytes _ _, Value.ref _]) _ _ _); k_dflt ( refine' new_use (fun x dx hne => ctr_init w hne (by tb_start) (by tb_start)) (fun _ _ _ _ h => h.1) ?c1 ?c2 ?c3 ?k1 ?k2 ?k3 ?k4 ?k5 ?k6 ?k7 ?k8 ?_; (case c1 | c2 | c3 => k_is); (case k1 | k2 | k3 | k4 | k5 => k_asm); (case k6 => first | exact rfl | assumption); (case k7 => ktr_room); (case k8 => ktr_units); rintro x' dx' nw' h' tk' hxd' F' N' hsep' ⟨_, tl', ta', a', t1', t2', lR', n', hnw', hA', o1', o2', o3', n1', n2'⟩; subst hnw'; (have h7 := hsep'); (replace N' := Mine.News.last3 N'); (try simp only [List.cons_append, List.nil_append] at N'); (try simp only [AllNeT, and_true] at h7); (repeat (first | (refine an8 h7 ?_; clear h7; intro h8 h8 h8 h8 h8 h8 h8 h7) | (refine an4 h7 ?_; clear h7; intro h8 h8 h8 h7) | (refine an2 h7 ?_; clear h7; intro h8 h7))); (have h6 := hsep'); (unfold ctrEs at N'); (try k_fold))) | (k_here; (with_reducible show wpAny _ _ (call (Value.ref 151) [Value.int _ _]) _ _ _); k_dflt ( refine' new_use (fun x dx hne => cnt_init2 w hne (by omega) (by omega)) (fun _ _ _ _ h => h.1) ?c1 ?c2 ?c3 ?k1 ?k2 ?k3 ?k4 ?k5 ?k6 ?k7 ?k8 ?_; (case c1 | c2 | c3 => k_is); (case k1 | k2 | k3 | k4 | k5 => k_asm); (case k6 => first | exact rfl | assumption); (case k7 => ktr_room); (case k8 => ktr_units); rintro x' dx' nw' h' tk' hxd' F' N' hsep' ⟨_, lc', us', n', t1', hnw', hi', n1', n2'⟩; subst hnw'; (have h7 := hsep'); (try simp only [List.cons_append, List.nil_append] at N'); (try simp only [AllNeT, and_true] at h7); (repeat (first | (refine an8 h7 ?_; clear h7; intro h8 h8 h8 h8 h8 h8 h8 h7) | (refine an4 h7 ?_; clear h7; intro h8 h8 h8 h7) | (refine an2 h7 ?_; clear h7; intro h8 h7))); (have h6 := hsep'); (unfold ctEs at N'); (try k_fold))) | (k_here; (with_reducible show wpAny _ _ (call (Value.ref 372) [Value.ref _, Value.bytes _ _]) _ _ _); k_dflt ( refine' meth_last (cfbd_spec w ?h1 ?h2 ?h3 ?h4 ?h5 ?h6 ?h7) ?k1 ?k2 ?k3 ?k4 ?k5 ?k6 ?k7 ?k8 ?k9 ?k10 ?k11 ?k12 ?k13 ?k14 ?_; (case k1 | k2 | k3 | k4 | k5 => k_asm); (case k6 => first | exact rfl | assumption); (case k7 => (unfold cfbEs; lcg_sub)); (case h1 | h2 | h3 | h4 | h5 | h6 | h7 => first | tb_start | omega); (case k8 => tb_start); (case k9 => exact (off_cons (by tb_start) (off_cons (by tb_start) off_nil))); (case k10 => lcg_sub); (case k11 => exact sepT (by tb_start) (by lcg_sub)); (case k12 => lcg_sub); (case k13 => ktr_room); (case k14 => ktr_units); intro b' t' h' tk' F' N' hb'; (try k_fold))) | (k_here; (with_reducible show wpAny _ _ (call (Value.ref 375) [Value.bytes _ _, Value.bytes _ _, Value.int _ _]) _ _ _); k_dflt ( refine' new_use (fun x dx hne => cfb_init w hne (by tb_start) (by tb_start) (by tb_start) (by tb_start)) (fun _ _ _ _ h => h.1) ?c1 ?c2 ?c3 ?k1 ?k2 ?k3 ?k4 ?k5 ?k6 ?k7 ?k8 ?_; (case c1 | c2 | c3 => k_is); (case k1 | k2 | k3 | k4 | k5 => k_asm); (case k6 => first | exact rfl | assumption); (case k7 => ktr_room); (case k8 => ktr_units); rintro x' dx' nw' h' tk' hxd' F' N' hsep' ⟨_, tl', ta', a', ds', hnw', ⟨t1', t2', t3', hds'⟩, hA', o1', o2'⟩; subst hds'; subst hnw'; (have h7 := hsep'); (replace N' := Mine.News.last2 N'); (try simp only [List.cons_append, List.nil_append] at N'); (try simp only [AllNeT, and_true] at h7); (repeat (first | (refine an8 h7 ?_; clear h7; intro h8 h8 h8 h8 h8 h8 h8 h7) | (refine an4 h7 ?_; clear h7; intro h8 h8 h8 h7) | (refine an2 h7 ?_; clear h7; intro h8 h7))); (have h6 := hsep'); (unfold cfbEs at N'); (try k_fold))) | (k_here; (with_reducible show wpAny _ _ (call (Value.builtin "len") [Value.ref _]) _ _ _); k_dflt (refine len_vals (by k_asm) (by k_mem) (by tb_start) (by omega) (fun t' k' => ?_)); (try k_fold)) | (k_here; (with_reducible show wpAny _ _ (compareOp CmpOp.NotEq (Value.bytes _ _) (Value.bytes _ _)) _ _ _); k_dflt (refine cmp_ne (by tb_start) (by tb_start) (by first | with_reducible rfl | tb_start | exact Eq.symm (by tb_start)) ?_); (try k_fold)) | (k_here; (with_reducible show wpAny _ _ (pyIter (Value.ref _)) _ _ _); (refine Hold.mk ?_)) | (k_here; (with_reducible show wpAny _ _ (call (Value.ref 455) [Value.ref _, Value.int _ _]) _ _ _); k_dflt ( refine' take_use ?k1 ?k2 ?k3 ?k4 ?k5 ?k6 ?k7 ?k8 ?k9 ?k10 ?k11 ?k12 ?k13 ?k14 ?k15 ?k16 ?_; (case k1 | k2 | k3 | k4 | k5 => k_asm); (case k6 => first | exact rfl | assumption); (case k7 | k8 => k_mem); (case k9 => assumption); (case k10 => (intro o1; k_upd)); (case k11 => (intro o1 o2; k_upd)); (case k12 | k13 | k14 => omega); (case k15 => ktr_room); (case k16 => ktr_units); intro x' k' t' tk' vs' cells' n1' n2' h' tks' F' N' hx0' hx1' ok' hk'; (try dsimp only at N'); (try k_fold))) | (k_end; wrow_close) | walk1 | (dsimp only; walk1) | (leave1; walk_say "STEP leave1"; try dsimp only) | fail "no step"))
  unfold Hold
  rename IsRange _ _ _ _ _ _ _ _ => hr
  rename News _ _ _ _ => N1
  rename Fr _ _ _ _ => F1
  refine krs_go (n := bl.length) (fun i m nw => LawC w K first bl x dx lt lb ta a ut nt as tl tlx b' kb fb tq tf m nw)
    rfl hr (small_one (by omega) (by omega) (by omega) (by omega)) ((rangeSize_nat _ _).trans (by omega)) F1 N1 ⟨_, _, _, rfl, hx0', hx1', hb', rfl, rfl, rfl, rfl, rfl, rfl, rfl, trivial⟩ (by unfold aesEs; lcg_sub) ?_ ?_
  · rintro i m nw I t9 h tk9 hi ⟨z, tz, tad, rfl, hz0, hz1, had, hk⟩ hoI F2 N2
    first | replace F2 := hk.fr F2 | replace F2 := hk.frI F2
    clear hk hr F1 N1
    obtain ⟨ai, hai⟩ : ∃ a, as[i]? = some a := ⟨_, List.getElem?_eq_getElem (by rw [hB.len]; exact hi)⟩
    obtain ⟨ui, ni, hmi, hui⟩ := hB.get hai
    have hri := row_ok hok hi
    have hv : (z + (0 + (i : Int) * 1)).toNat = z.toNat + i := by omega
    have hCl : (oct16 (z + (0 + (i : Int) * 1)).toNat).length = 16 := oct16_len _
    have hCl2 : (oct16 (z + (0 + (i : Int) * 1)).toNat).length ≤ 200 := by omega
    have hCo := oct16_oct (v := (z + (0 + (i : Int) * 1)).toNat) (by omega)
    have hCo2 : ∀ y ∈ oct16 (z + (0 + (i : Int) * 1)).toNat, 0 ≤ y ∧ y < 256 := hCo
    have hZl : (enc w.params (expand w.params K) (oct16 (z + (0 + (i : Int) * 1)).toNat)).length = 16 := enc_len _ _ _
    have hZo := enc_oct w.params (expand w.params K) (oct16 (z + (0 + (i : Int) * 1)).toNat)
    have hZl2 : (enc w.params (expand w.params K) (oct16 (z + (0 + (i : Int) * 1)).toNat)).length ≤ 200 := by omega
    have hZr : (enc w.params (expand w.params K) (oct16 (z + (0 + (i : Int) * 1)).toNat)).length = (bl.getD i []).length := by rw [hri.1]; exact hZl
    have hr80 : (bl.getD i []).length ≤ 80 := by rw [hri.1]; decide
    have hXl : (List.zipWith Builtin.bitXor (enc w.params (expand w.params K) (oct16 (z + (0 + (i : Int) * 1)).toNat)) (bl.getD i [])).length ≤ 200 := by rw [List.length_zipWith]; omega
    have hXo : ∀ y ∈ List.zipWith Builtin.bitXor (enc w.params (expand w.params K) (oct16 (z + (0 + (i : Int) * 1)).toNat)) (bl.getD i []), 0 ≤ y ∧ y < 256 := xor_oct hZo hri.2
    have k0 : 0 + (i : Int) * 1 = ((i : Nat) : Int) := by omega
    have k1 : 0 + (i : Int) * 1 < 2 ^ 63 := by omega
    have k2 : (0 : Int) ≤ 16 * (0 + (i : Int) * 1) := by omega
    have k3 : (0 : Int) ≤ 16 * (0 + (i : Int) * 1) + 16 := by omega
    have hcr := ctrRows_ok w.params (expand w.params K) z.toNat hok
    have k4 : (List.zipWith Builtin.bitXor bl.flatten (ctrRow w.params (expand w.params K) z.toNat bl.length)).length ≤ 100000 := by rw [List.length_zipWith]; omega
    have k5 : ((List.zipWith Builtin.bitXor bl.flatten (ctrRow w.params (expand w.params K) z.toNat bl.length)).drop (16 * (0 + (i : Int) * 1)).toNat).take (min (16 * (0 + (i : Int) * 1) + 16).toNat (List.zipWith Builtin.bitXor bl.flatten (ctrRow w.params (expand w.params K) z.toNat bl.length)).length - (16 * (0 + (i : Int) * 1)).toNat) = List.zipWith Builtin.bitXor (enc w.params (expand w.params K) (oct16 (z + (0 + (i : Int) * 1)).toNat)) (bl.getD i []) := by
      rw [ctr_rows w.params (expand w.params K) z.toNat hok, flat_len hcr.2, hcr.1, show (16 * (0 + (i : Int) * 1)).toNat = 16 * i by omega, show min (16 * (0 + (i : Int) * 1) + 16).toNat (16 * bl.length) - 16 * i = 16 by omega, flat_cut hcr.2 (by omega), ctrRows_get w.params (expand w.params K) z.toNat hi, hv]
      exact xor_swap hri.2 (enc_oct _ _ _)
    unfold aesEs at N2
    (try k_unmd)
    (try k_fold)
    (repeat' (first | (k_unfold; (try dsimp only)) | ((with_reducible show wpAny _ _ (exec _ _) _ _ _); (fail_if_success (fail_if_success k_fold)); refine foldQ ?_; intro q9) | ((with_reducible show wpAny _ _ (eval (Expr.Call _ _ _ _) _) _ _ _); (fail_if_success (fail_if_success k_fold)); refine foldQ ?_; intro q9) | ((with_reducible show wpAny _ _ (eval (Expr.Subscript _ _ _) _) _ _ _); (fail_if_success (fail_if_success k_fold)); refine foldQ ?_; intro q9)  | (k_here; (with_reducible show UnrEnd _ _ _ _ _ _ _); (refine Hold.mk ?_)) | (k_here; (with_reducible show wpAny _ _ (getAttr (Value.ref _) (Str.ofString "value") _) _ _ _); k_dflt (refine' get_prop ?k1 ?k2 ?k3 ?k4 ?k5 ?k6 ?k7 ?k8 ?k9 ?_; (case k1 | k2 => k_asm); (case k3 => k_inst); (case k4 | k5 | k6 | k7 | k8 | k9 => k_is); k_whole; (refine' ktl_code ?k1 ?k2 ?k3 ?k4 ?k5 ?kA ?kF ?kK ?k6 ?k7 ?k8 ?k9 ?kB ?_ ?c2 ?c3 ?c4 ?c5; (case kA | kF | kK => exact rfl); (case k1 | k2 | k3 | k4 | k5 => k_asm); (case k6 | k7 => k_is); (case k8 => first | ktr_room | (show dp + 1 < recursionLimit; omega)); (case k9 => exact rfl); (case c5 => decide); (case kB => exact locs rfl); (case c2 | c3 | c4 => exact rfl); k_whole; intro g' L' h' FG' F' N' B' X' T'; (try dsimp only); (try k_lift B'); (try k_fold)))) | (k_here; (with_reducible show wpAny _ _ (subscriptTail _ _ (Value.bytes _ _) (Value.ref _)) _ _ _); k_dflt (first | (refine' cut_bytes ?k1 ?k2 ?k3 ?k4 ?k5 ?k6 ?k7 (fun b' t' h' k' F' N' hb' => ?_) ?k8 ?k9; (case k1 | k2 => k_asm); (case k3 | k4 | k5 | k6 | k7 => tb_start); (case k8 => intro _ _; with_unfolding_all rfl); (case k9 => intro _ _ _; with_unfolding_all rfl)); | (refine' cut_from ?k1 ?k2 ?k3 ?k4 ?k5 ?k6 (fun b' t' h' k' F' N' hb' => ?_) ?k8 ?k9; (case k1 | k2 => k_asm); (case k3 => tb_start); (case k4 => first | tb_start | decide); (case k5 | k6 => tb_start); (case k8 => intro _ _; with_unfolding_all rfl); (case k9 => intro _ _ _; with_unfolding_all rfl))); (try k_fold)) | (k_here; (with_reducible show wpAny _ _ (call (Value.type "bytes") [Value.ref _]) _ _ _); k_dflt (refine call_bytes_list (by k_asm) (by k_asm) (by first | k_mem | exact mem_sub (by tb_start) (by lcg_sub)) (by tb_start) (by tb_start) (by tb_start) (by rfl) (fun b' t' h' k' F' N' hb' => ?_)); (try k_fold)) | (k_here; (with_reducible show wpAny _ _ (subscriptTail _ _ (Value.ref _) (Value.int _ _)) _ _ _); k_dflt (refine' subr_use ?k1 ?k2 ?k3 ?k4 ?k5 ?_ ?k6; (case k1 => k_asm); (case k2 => k_mem); (case k3 | k4 | k5 => tb_start); (case k6 => with_unfolding_all rfl)); (try k_fold)) | (k_here; (with_reducible show wpAny _ _ (call (Value.ref 297) [Value.ref _, Value.bytes _ _]) _ _ _); k_dflt ( refine' ecbe_use ?k1 ?k2 ?k3 ?k4 ?k5 ?k6 ?k7 ?k8 ?k9 ?k10 ?k11 ?k12 ?k13 ?k14 ?k15 ?_; (case k1 | k2 | k3 | k4 | k5 => k_asm); (case k6 => first | exact rfl | assumption); (case k7 => k_mem); (case k8 => (unfold aesEs; k_mem)); (case k9 => tb_start); (case k10 => lcg_sub); (case k11 | k12 | k13 => tb_start); (case k14 => ktr_room); (case k15 => ktr_units); intro b' t' h' tk' F' N' hb'; (try k_fold))) | (k_here; (with_reducible show wpAny _ _ (call (Value.ref 151) [Value.int _ _]) _ _ _); k_dflt ( refine' new_use (fun x dx hne => cnt_init2 w hne (by omega) (by omega)) (fun _ _ _ _ h => h.1) ?c1 ?c2 ?c3 ?k1 ?k2 ?k3 ?k4 ?k5 ?k6 ?k7 ?k8 ?_; (case c1 | c2 | c3 => k_is); (case k1 | k2 | k3 | k4 | k5 => k_asm); (case k6 => first | exact rfl | assumption); (case k7 => ktr_room); (case k8 => ktr_units); rintro x' dx' nw' h' tk' hxd' F' N' hsep' ⟨_, lc', us', n', t1', hnw', hi', n1', n2'⟩; subst hnw'; (have h7 := hsep'); (try simp only [List.cons_append, List.nil_append] at N'); (try simp only [AllNeT, and_true] at h7); (repeat (first | (refine an8 h7 ?_; clear h7; intro h8 h8 h8 h8 h8 h8 h8 h7) | (refine an4 h7 ?_; clear h7; intro h8 h8 h8 h7) | (refine an2 h7 ?_; clear h7; intro h8 h7))); (have h6 := hsep'); (unfold ctEs at N'); (try k_fold))) | (k_here; (with_reducible show wpAny _ _ (call (Value.ref 472) [Value.ref _, Value.ref _]) _ _ _); k_dflt ( refine' added_use ?k1 ?k2 ?k3 ?k4 ?k5 ?k6 ?k7 ?k8 ?k9 ?k10 ?k11 ?k12 ?k13 ?k14 ?_; (case k1 | k2 | k3 | k4 | k5 => k_asm); (case k6 => first | exact rfl | assumption); (case k7 => k_mem); (case k8 => first | k_mem | exact mem_sub (by tb_start) (by lcg_sub)); (case k9 | k10 | k11 | k12 => tb_start); (case k13 => ktr_room); (case k14 => ktr_units); intro l' us' nn' h' tk' F' N' l1 hi'; (try k_fold))) | (k_here; (with_reducible show wpAny _ _ (compareOp CmpOp.NotEq (Value.bytes _ _) (Value.bytes _ _)) _ _ _); k_dflt (refine cmp_ne (by tb_start) (by tb_start) (by first | with_reducible rfl | tb_start | exact Eq.symm (by tb_start)) ?_); (try k_fold)) | (k_here; (with_reducible show wpAny _ _ (call (Value.type "list") [Value.bytes _ _]) _ _ _); k_dflt (refine call_list_bytes (by rfl) (by k_asm) (by k_asm) (by tb_start) (by tb_start) (fun D' us' nn' h' k' F' N' l1 hi' => ?_)); (try k_fold)) | (k_end; wrow_close) | walk1 | (dsimp only; walk1) | (leave1; walk_say "STEP leave1"; try dsimp only) | fail "no step"))
    unfold Hold
    rename Fr _ _ _ _ => F9
    rename News _ _ _ _ => N9
    exact unr_end F9 N9 ⟨z, tz, tad, rfl, hz0, hz1, had, rfl, rfl, rfl, rfl, rfl, rfl, rfl, trivial⟩ (by k_mem) (by unfold aesEs; lcg_sub) (fun p hp => hoI p hp)
  · rintro m nw h3 tk3 ⟨z, tz, tad, rfl, hz0, hz1, had, hk⟩ F5 N5
    ((try k_unmd); (try k_unfold); (try dsimp only))
    exact law_d w ho9 B F5 X N5 T hkey hf16 hfo hb2 hb5 hok ⟨lt, nt, ut, as, tl, kb, fb, b', tq, tf, tad, tz, x, dx, ta, a, tlx, z, rfl, hB, hut, hkb, hfb, hA, hz0, hz1, had, hk⟩
end
section
/-- what the law's ledger holds while the text is joined -/
inductive LawJ (g : Heap) (K first : List Int) (bl : List (List Int)) (i : Nat) (lb : Addr) (vb : List Value) (m : Str → Option Value) (nw : List (Addr × Obj)) : Prop
  | mk0 (st c lt : Addr) (k : Int) (tk0 : Tok) (vs : List Value) (cells : List Int) (n1 n2 nt : Nat) (ut : List Value) (as : List Addr) (tl : List (Addr × Obj)) (kb fb : Array UInt8) (tq tf : Tok) (z1 : nw = (lt, listOf (List.toArray ut) nt) :: (st, listOf #[.int k tk0, .ref c] n1) :: (c, listOf (List.toArray vs) n2) :: (lb, listOf (List.toArray vb) 0) :: tl) (z2 : vb = as.map Value.ref) (z3 : StOk k vs cells) (z4 : k < 80000) (z5 : Blks tl as bl) (z6 : IntsAre ut (bl.take i).flatten) (z7 : KBw.bInts kb = K) (z8 : KBw.bInts fb = first) (z9 : ((@Ne Nat lt st) ∧ (@Ne Nat lt c) ∧ (@Ne Nat lb st) ∧ (@Ne Nat lb c) ∧ (@Ne Nat st c))) (z10 : AllNe st tl) (z11 : AllNe c tl) (z12 : Keeps [(Str.ofString "text", .ref lt), (Str.ofString "blocks", .ref lb), (Str.ofString "first", .bytes fb tf), (Str.ofString "key", .bytes kb tq), (Str.ofString "state", .ref st)] m) : LawJ g K first bl i lb vb m nw
inductive LawB (w : World) (K first : List Int) (bl : List (List Int)) (x' dx' lt st c lb : Addr) (ta' : Tok) (a' : Addr) (ut : List Value) (nt : Nat) (k : Int) (tk0 : Tok) (vs : List Value) (n1 n2 : Nat) (as : List Addr) (tl tl' : List (Addr × Obj)) (b' kb fb : Array UInt8) (tq tf : Tok) (i : Nat) (m : Str → Option Value) (nw : List (Addr × Obj)) : Prop
  | mk0 (la : Addr) (ua : List Value) (na : Nat) (tmd : Tok) (z1 : nw = (la, listOf (List.toArray ua) na) :: (x', instObj 307 dx') :: (dx', dictOf (aesEs w.params ta' a') 1) :: (lt, listOf (List.toArray ut) nt) :: (st, listOf #[.int k tk0, .ref c] n1) :: (c, listOf (List.toArray vs) n2) :: (lb, listOf (List.toArray (as.map Value.ref)) 0) :: (tl ++ tl')) (z2 : IntsAre ua (cfbAt w.params (expand w.params K) first bl i)) (z3 : Keeps [(Str.ofString "last", .ref la), (Str.ofString "codebook", .ref x'), (Str.ofString "made", .bytes b' tmd), (Str.ofString "text", .ref lt), (Str.ofString "blocks", .ref lb), (Str.ofString "first", .bytes fb tf), (Str.ofString "key", .bytes kb tq), (Str.ofString "state", .ref st)] m) : LawB w K first bl x' dx' lt st c lb ta' a' ut nt k tk0 vs n1 n2 as tl tl' b' kb fb tq tf i m nw
theorem law_b (w : World) {oc dV kV doc pm cdv ct : Value} {od an : Option Addr} {osl : Array (Option Value)} {name qual : Str} {params : Arguments} {body : List Stmt} {scope : Scope} (ho : (mkK.heap_1 w.params).lookup 496 = some ⟨oc, od, .func (fnOf name qual params body scope dV kV doc pm an cdv ct), osl⟩)
    {p : Program} {loose : List Str} {mean : ExcName → Option Value} {mg mb : Str → Option Value} {base g h : Heap} {cde : Value} {L1 fa : Addr} {s : Shared} {tk : Nat} {m : Str → Option Value} {nw : List (Addr × Obj)}
    (B : Below callerA base [] g) (F : Fr g L1 h m) (X : (mkK.heap_1 w.params).In g) (N : News g L1 h nw) (T : Top p loose mean mg mb g) {K first : List Int} {bl : List (List Int)} {lb : Addr} {vb : List Value} (hkey : KeyOk K) (hf16 : first.length = 16) (hfo : ∀ y ∈ first, OctOk y) (hb2 : 2 ≤ bl.length) (hb5 : bl.length ≤ 5)
    (J : LawJ g K first bl bl.length lb vb m nw) :
    wpAny (model PySem.Challenge.rw_yv0001_01.row.prog w) (callerA.deeper (envOf qual scope L1 fa cde)) (execs (body.drop 6) (envOf qual scope L1 fa cde))
      (fun fl s' => Ends g L1 s (fun v nw => v = .bool true ∧ nw = []) (match fl with | .ret v => v | _ => .none) s') (fun _ _ => False) { s with heap := h, toks := tk } := by
  have ho9 := ho
  with_unfolding_all (refine' fn_go ho ?hk9 ?_; (case hk9 => k_is))
  rintro rfl rfl rfl rfl
  clear ho
  dsimp only [List.drop]
  (try dsimp only)
  (try k_fold)
  obtain ⟨st, c, lt, k, tk0, vs, cells, n1, n2, nt, ut, as, tl, kb, fb, tq, tf, rfl, rfl, ok, hk0, hB, hut, hkb, hfb, ⟨e1, e2, e3, e4, e5⟩, e6, e7, hk⟩ := J
  first | replace F := hk.fr F | replace F := hk.frI F
  clear hk
  rw [List.take_length] at hut
  have hvl : (List.map Value.ref as).length = bl.length := by rw [List.length_map]; exact hB.len
  have hok := hB.ok
  have hfl := flat_len hok
  have hfo2 : ∀ y ∈ bl.flatten, 0 ≤ y ∧ y < 256 := flat_oct hok
  have hfo3 := flat_oct hok
  have hf200 : bl.flatten.length ≤ 200 := by omega
  have hf160 : bl.flatten.length ≤ 160 := by omega
  have hf80 : bl.flatten.length ≤ 80 := by omega
  have hfirst : first.length ≤ 200 := by omega
  have hb10 : bl.length ≤ 10 := by omega
  have hR := ofbRow_len w.params (expand w.params K) first bl.length
  have hRl : (ofbRow w.params (expand w.params K) first bl.length).length = bl.flatten.length := by rw [hR.1, hfl]
  have hXl : (List.zipWith Builtin.bitXor (ofbRow w.params (expand w.params K) first bl.length) bl.flatten).length ≤ 200 := by rw [List.length_zipWith]; omega
  have hXo : ∀ y ∈ List.zipWith Builtin.bitXor (ofbRow w.params (expand w.params K) first bl.length) bl.flatten, 0 ≤ y ∧ y < 256 := xor_oct hR.2 hfo3
  have hO : ofbOut w.params (expand w.params K) first bl.flatten bl.flatten.length = List.zipWith Builtin.bitXor (ofbRow w.params (expand w.params K) first bl.length) bl.flatten := by
    rw [ofb_zip w.params (expand w.params K) hfl]; exact xor_swap hfo3 hR.2
  (repeat' (first | (k_unfold; (try dsimp only)) | ((with_reducible show wpAny _ _ (exec _ _) _ _ _); (fail_if_success (fail_if_success k_fold)); refine foldQ ?_; intro q9) | ((with_reducible show wpAny _ _ (eval (Expr.BinOp _ _ _ _) _) _ _ _); (fail_if_success (fail_if_success k_fold)); refine foldQ ?_; intro q9) | ((with_reducible show wpAny _ _ (eval (Expr.Call _ _ _ _) _) _ _ _); (fail_if_success (fail_if_success k_fold)); refine foldQ ?_; intro q9) | ((with_reducible show wpAny _ _ (eval (Expr.Subscript _ _ _) _) _ _ _); (fail_if_success (fail_if_success k_fold)); refine foldQ ?_; intro q9)  | (k_here; (with_reducible show UnrEnd _ _ _ _ _ _ _); (refine Hold.mk ?_)) | (k_here; (with_reducible show wpAny _ _ (subscriptTail _ _ (Value.ref _) (Value.ref _)) _ _ _); k_dflt (refine' cut_upto ?k1 ?k2 ?k3 ?k4 ?k5 ?k6 ?k7 (fun D' us' h' k' F' N' lt' hi' => ?_) ?k8 ?k9; (case k1 | k2 => k_asm); (case k3 => k_mem); (case k4 => tb_start); (case k5 => first | tb_start | decide); (case k6 | k7 => tb_start); (case k8 => intro _ _; with_unfolding_all rfl); (case k9 => intro _ _; with_unfolding_all rfl)); (have h8 := lt'); (simp only [AllNe, and_true] at lt'); (try k_fold)) | (k_here; (with_reducible show wpAny _ _ (subscriptTail _ _ (Value.bytes _ _) (Value.ref _)) _ _ _); k_dflt (first | (refine' cut_bytes ?k1 ?k2 ?k3 ?k4 ?k5 ?k6 ?k7 (fun b' t' h' k' F' N' hb' => ?_) ?k8 ?k9; (case k1 | k2 => k_asm); (case k3 | k4 | k5 | k6 | k7 => tb_start); (case k8 => intro _ _; with_unfolding_all rfl); (case k9 => intro _ _ _; with_unfolding_all rfl)); | (refine' cut_from ?k1 ?k2 ?k3 ?k4 ?k5 ?k6 (fun b' t' h' k' F' N' hb' => ?_) ?k8 ?k9; (case k1 | k2 => k_asm); (case k3 => tb_start); (case k4 => first | tb_start | decide); (case k5 | k6 => tb_start); (case k8 => intro _ _; with_unfolding_all rfl); (case k9 => intro _ _ _; with_unfolding_all rfl))); (try k_fold)) | (k_here; (with_reducible show wpAny _ _ (subscriptTail _ _ (Value.ref _) (Value.int _ _)) _ _ _); k_dflt (refine' subr_use ?k1 ?k2 ?k3 ?k4 ?k5 ?_ ?k6; (case k1 => k_asm); (case k2 => k_mem); (case k3 | k4 | k5 => tb_start); (case k6 => with_unfolding_all rfl)); (try k_fold)) | (k_here; (with_reducible show wpAny _ _ (call (Value.ref 297) [Value.ref _, Value.bytes _ _]) _ _ _); k_dflt ( refine' ecbe_use ?k1 ?k2 ?k3 ?k4 ?k5 ?k6 ?k7 ?k8 ?k9 ?k10 ?k11 ?k12 ?k13 ?k14 ?k15 ?_; (case k1 | k2 | k3 | k4 | k5 => k_asm); (case k6 => first | exact rfl | assumption); (case k7 => k_mem); (case k8 => (unfold aesEs; k_mem)); (case k9 => tb_start); (case k10 => lcg_sub); (case k11 | k12 | k13 => tb_start); (case k14 => ktr_room); (case k15 => ktr_units); intro b' t' h' tk' F' N' hb'; (try k_fold))) | (k_here; (with_reducible show wpAny _ _ (call (Value.ref 307) [Value.bytes _ _]) _ _ _); k_dflt ( refine' new_use (fun x dx hne => ecb_init w hne (by tb_start) (by tb_start)) (fun _ _ _ _ h => h.1) ?c1 ?c2 ?c3 ?k1 ?k2 ?k3 ?k4 ?k5 ?k6 ?k7 ?k8 ?_; (case c1 | c2 | c3 => k_is); (case k1 | k2 | k3 | k4 | k5 => k_asm); (case k6 => first | exact rfl | assumption); (case k7 => ktr_room); (case k8 => ktr_units); rintro x' dx' nw' h' tk' hxd' F' N' hsep' ⟨_, tl', ta', a', ds', hnw', hds', hA', o1', o2'⟩; subst hds'; subst hnw'; (have h7 := hsep'); (replace N' := Mine.News.last2 N'); (try simp only [List.cons_append, List.nil_append] at N'); (try simp only [AllNeT, and_true] at h7); (repeat (first | (refine an8 h7 ?_; clear h7; intro h8 h8 h8 h8 h8 h8 h8 h7) | (refine an4 h7 ?_; clear h7; intro h8 h8 h8 h7) | (refine an2 h7 ?_; clear h7; intro h8 h7))); (have h6 := hsep'); (unfold aesEs at N'); (try k_fold))) | (k_here; (with_reducible show wpAny _ _ (call (Value.ref 367) [Value.ref _, Value.bytes _ _]) _ _ _); k_dflt ( refine' meth_last (cfbe_spec w ?h1 ?h2 ?h3 ?h4 ?h5 ?h6 ?h7) ?k1 ?k2 ?k3 ?k4 ?k5 ?k6 ?k7 ?k8 ?k9 ?k10 ?k11 ?k12 ?k13 ?k14 ?_; (case k1 | k2 | k3 | k4 | k5 => k_asm); (case k6 => first | exact rfl | assumption); (case k7 => (unfold cfbEs; lcg_sub)); (case h1 | h2 | h3 | h4 | h5 | h6 | h7 => first | tb_start | omega); (case k8 => tb_start); (case k9 => exact (off_cons (by tb_start) (off_cons (by tb_start) off_nil))); (case k10 => lcg_sub); (case k11 => exact sepT (by tb_start) (by lcg_sub)); (case k12 => lcg_sub); (case k13 => ktr_room); (case k14 => ktr_units); intro b' t' h' tk' F' N' hb'; (try k_fold))) | (k_here; (with_reducible show wpAny _ _ (call (Value.ref 375) [Value.bytes _ _, Value.bytes _ _, Value.int _ _]) _ _ _); k_dflt ( refine' new_use (fun x dx hne => cfb_init w hne (by tb_start) (by tb_start) (by tb_start) (by tb_start)) (fun _ _ _ _ h => h.1) ?c1 ?c2 ?c3 ?k1 ?k2 ?k3 ?k4 ?k5 ?k6 ?k7 ?k8 ?_; (case c1 | c2 | c3 => k_is); (case k1 | k2 | k3 | k4 | k5 => k_asm); (case k6 => first | exact rfl | assumption); (case k7 => ktr_room); (case k8 => ktr_units); rintro x' dx' nw' h' tk' hxd' F' N' hsep' ⟨_, tl', ta', a', ds', hnw', ⟨t1', t2', t3', hds'⟩, hA', o1', o2'⟩; subst hds'; subst hnw'; (have h7 := hsep'); (replace N' := Mine.News.last2 N'); (try simp only [List.cons_append, List.nil_append] at N'); (try simp only [AllNeT, and_true] at h7); (repeat (first | (refine an8 h7 ?_; clear h7; intro h8 h8 h8 h8 h8 h8 h8 h7) | (refine an4 h7 ?_; clear h7; intro h8 h8 h8 h7) | (refine an2 h7 ?_; clear h7; intro h8 h7))); (have h6 := hsep'); (unfold cfbEs at N'); (try k_fold))) | (k_here; (with_reducible show wpAny _ _ (call (Value.ref 406) [Value.ref _, Value.bytes _ _]) _ _ _); k_dflt ( refine' meth_last (ofbd_spec w ?h1 ?h2 ?h3 ?h4 ?h5 ?h6 ?h7 ?h8 ?h9) ?k1 ?k2 ?k3 ?k4 ?k5 ?k6 ?k7 ?k8 ?k9 ?k10 ?k11 ?k12 ?k13 ?k14 ?_; (case k1 | k2 | k3 | k4 | k5 => k_asm); (case k6 => first | exact rfl | assumption); (case k7 => (unfold ofbEs; lcg_sub)); (case h1 | h2 | h3 | h4 | h5 | h6 | h7 | h8 | h9 => first | tb_start | omega); (case k8 => tb_start); (case k9 => exact (off_cons (by tb_start) (off_cons (by tb_start) (off_cons (by tb_start) off_nil)))); (case k10 => lcg_sub); (case k11 => exact sepT (by tb_start) (by lcg_sub)); (case k12 => lcg_sub); (case k13 => ktr_room); (case k14 => ktr_units); intro b' t' h' tk' F' N' hb'; (try k_fold))) | (k_here; (with_reducible show wpAny _ _ (call (Value.ref 409) [Value.bytes _ _, Value.bytes _ _]) _ _ _); k_dflt ( refine' new_use (fun x dx hne => ofb_init w hne (by tb_start) (by tb_start) (by tb_start) (by tb_start)) (fun _ _ _ _ h => h.1) ?c1 ?c2 ?c3 ?k1 ?k2 ?k3 ?k4 ?k5 ?k6 ?k7 ?k8 ?_; (case c1 | c2 | c3 => k_is); (case k1 | k2 | k3 | k4 | k5 => k_asm); (case k6 => first | exact rfl | assumption); (case k7 => ktr_room); (case k8 => ktr_units); rintro x' dx' nw' h' tk' hxd' F' N' hsep' ⟨_, tl', t1', t2', ta', a', lR', n', hnw', hA', o1', o2', o3', n1', n2'⟩; subst hnw'; (have h7 := hsep'); (replace N' := Mine.News.last3 N'); (try simp only [List.cons_append, List.nil_append] at N'); (try simp only [AllNeT, and_true] at h7); (repeat (first | (refine an8 h7 ?_; clear h7; intro h8 h8 h8 h8 h8 h8 h8 h7) | (refine an4 h7 ?_; clear h7; intro h8 h8 h8 h7) | (refine an2 h7 ?_; clear h7; intro h8 h7))); (have h6 := hsep'); (unfold ofbEs at N'); (try k_fold))) | (k_here; (with_reducible show wpAny _ _ (call (Value.ref 472) [Value.ref _, Value.ref _]) _ _ _); k_dflt ( refine' added_use ?k1 ?k2 ?k3 ?k4 ?k5 ?k6 ?k7 ?k8 ?k9 ?k10 ?k11 ?k12 ?k13 ?k14 ?_; (case k1 | k2 | k3 | k4 | k5 => k_asm); (case k6 => first | exact rfl | assumption); (case k7 => k_mem); (case k8 => first | k_mem | exact mem_sub (by tb_start) (by lcg_sub)); (case k9 | k10 | k11 | k12 => tb_start); (case k13 => ktr_room); (case k14 => ktr_units); intro l' us' nn' h' tk' F' N' l1 hi'; (try k_fold))) | (k_here; (with_reducible show wpAny _ _ (call (Value.ref 489) [Value.bytes _ _, Value.bytes _ _, Value.int _ _]) _ _ _); k_dflt ( refine' spec_new (noughts_spec w (by tb_start) (by tb_start) (by tb_start) (by tb_start) (by tb_start) (by omega)) ?k1 ?k2 ?k3 ?k4 ?k5 ?k6 ?k8 ?k10 ?k11 ?_; (case k1 | k2 | k3 | k4 | k5 => k_asm); (case k6 => first | exact rfl | assumption); (case k8 => exact fun _ _ => trivial); (case k10 => ktr_room); (case k11 => ktr_units); intro l' us' kk' h' tk' F' N' l1 hi'; (try k_fold))) | (k_here; (with_reducible show wpAny _ _ (call (Value.builtin "len") [Value.ref _]) _ _ _); k_dflt (refine len_vals (by k_asm) (by k_mem) (by tb_start) (by omega) (fun t' k' => ?_)); (try k_fold)) | (k_here; (with_reducible show wpAny _ _ (binaryOp Operator.Add (Value.ref _) (Value.ref _)) _ _ _); k_dflt (refine' addl_use ?k1 ?k2 ?k3 ?k4 ?k5 ?k6 ?k7 ?k8 (fun D' us' h' F' N' l1 hi' => ?_); (case k1 | k2 => k_asm); (case k3 => first | exact PVl.list (by k_mem) (by tb_start) | tb_start); (case k4 => first | exact PVl.list (by k_mem) (by tb_start) | exact PVl.sub (by tb_start) (by lcg_sub)); (case k5 | k6 => tb_start); (case k7 => decide); (case k8 => decide)); (try k_fold)) | (k_here; (with_reducible show wpAny _ _ (compareOp CmpOp.Eq (Value.bytes _ _) (Value.bytes _ _)) _ _ _); k_dflt (refine cmp_eq (by tb_start) (by tb_start) (by first | with_reducible rfl | tb_start | exact Eq.symm (by tb_start)) ?_); (try k_fold)) | (k_here; (with_reducible show wpAny _ _ (compareOp CmpOp.NotEq (Value.bytes _ _) (Value.bytes _ _)) _ _ _); k_dflt (refine cmp_ne (by tb_start) (by tb_start) (by first | with_reducible rfl | tb_start | exact Eq.symm (by tb_start)) ?_); (try k_fold)) | (k_here; (with_reducible show wpAny _ _ (call (Value.type "list") [Value.bytes _ _]) _ _ _); k_dflt (refine call_list_bytes (by rfl) (by k_asm) (by k_asm) (by tb_start) (by tb_start) (fun D' us' nn' h' k' F' N' l1 hi' => ?_)); (try k_fold)) | (k_here; (with_reducible show wpAny _ _ (pyIter (Value.ref _)) _ _ _); (refine Hold.mk ?_)) | (k_here; (with_reducible show wpAny _ _ (call (Value.type _) [Value.ref _]) _ _ _); k_dflt (refine call_bytes_base (by k_asm) (by k_asm) (by tb_start) (by tb_start) (by tb_start) (by tb_start) (by rfl) (fun b' t' h' k' F' N' hb' => ?_)); (try k_fold)) | (k_here; (with_reducible show wpAny _ _ (binaryOp Operator.Add (Value.bytes _ _) (Value.bytes _ _)) _ _ _); k_dflt (refine add_bytesK (by tb_start) (by tb_start) (by first | tb_start | omega) (fun b' t' k' hb' => ?_)); (try k_fold)) | (k_here; (with_reducible show wpAny _ _ (call (Value.type _) [Value.ref _]) _ _ _); k_dflt (refine call_bytes_list (by k_asm) (by k_asm) (by k_mem) (by tb_start) (by tb_start) (by tb_start) (by rfl) (fun b' t' h' k' F' N' hb' => ?_)); (try k_fold)) | (k_here; (with_reducible show wpAny _ _ (call (Value.type _) [Value.int _ _]) _ _ _); k_dflt (refine call_bytes_zeros (by first | rfl | assumption) (by first | decide | omega) (fun b' t' k' hb' => ?_)); (try k_fold)) | (k_here; (with_reducible show wpAny _ _ (call (Value.type _) [Value.bytes _ _]) _ _ _); refine call_bytes_bytes ?_; (try k_fold)) | (k_here; (with_reducible show wpAny _ _ (call (Value.ref 40) [Value.ref _]) _ _ _); k_dflt ( refine' b2str_use ?k1 ?k2 ?k3 ?k4 ?k5 ?k6 ?k7 ?k8 ?k9 ?k15 ?k16 ?_; (case k1 | k2 | k3 | k4 | k5 => k_asm); (case k6 => first | exact rfl | assumption); (case k7 => first | exact PVl.list (by k_mem) (by tb_start) | exact PVl.base (by tb_start) (by tb_start)); (case k8 => tb_start); (case k9 => first | tb_start | omega); (case k15 => ktr_room); (case k16 => ktr_units); intro b' t' h' k' F' N' hb'; (try k_fold))) | (k_here; (with_reducible show wpAny _ _ (call (Value.ref 33) [Value.bytes _ _]) _ _ _); k_dflt ( refine' (str2b_spec _).read ?k1 ?k2 ?k3 ?k4 ?k5 ?k6 ?k15 ?k16 ?ky ?_; (case ky => exact fun _ _ => trivial); (case k1 | k2 | k3 | k4 | k5 => k_asm); (case k6 => first | exact rfl | assumption); (case k15 => ktr_room); (case k16 => ktr_units); intro v' h' k' F' N' hs' hv'; subst hv'; (clear hs'); (try k_fold))) | (k_here; (with_reducible show wpAny _ _ (call (Value.ref 108) [_, _]) _ _ _); k_dflt ( refine' enc_use ?k1 ?k2 ?k3 ?k4 ?k5 ?k6 ?k7 ?k8 ?k9 ?k10 ?k11 ?k12 ?_; (case k1 | k2 | k3 | k4 | k5 => k_asm); (case k6 => first | exact rfl | assumption); (case k7 => first | exact AesAt.mono (by tb_start) (Fr.keep (by k_asm)) | exact AesL.at (by tb_start) (News.sub (by k_asm) (by lcg_sub))); (case k8 => first | exact PVl.bytes (by tb_start) | exact PVl.list (by k_mem) (by tb_start) | exact PVl.base (by tb_start) (by tb_start) | exact PVl.sub (by tb_start) (by lcg_sub)); (case k9 | k10 => tb_start); (case k11 => ktr_room); (case k12 => ktr_units); intro l' us' nn' h' tk' F' N' l1 hi' hl' ho'; (have h8 := l1); (simp only [AllNe, and_true] at l1); (try k_fold))) | (k_here; (with_reducible show wpAny _ _ (call (Value.builtin _) [Value.ref _]) _ _ _); k_dflt (refine len_listN (by k_asm) (by k_mem) (by tb_start) (by tb_start) (fun t' k' => ?_)); (try k_fold)) | (k_here; (with_reducible show wpAny _ _ (call (Value.builtin _) [Value.bytes _ _]) _ _ _); k_dflt (refine len_bytesN (by tb_start) (by tb_start) (fun t' k' => ?_)); (try k_fold)) | (k_here; (with_reducible show wpAny _ _ (call (Value.ref 455) [Value.ref _, Value.int _ _]) _ _ _); k_dflt ( refine' take_use ?k1 ?k2 ?k3 ?k4 ?k5 ?k6 ?k7 ?k8 ?k9 ?k10 ?k11 ?k12 ?k13 ?k14 ?k15 ?k16 ?_; (case k1 | k2 | k3 | k4 | k5 => k_asm); (case k6 => first | exact rfl | assumption); (case k7 | k8 => k_mem); (case k9 => assumption); (case k10 => (intro o1; k_upd)); (case k11 => (intro o1 o2; k_upd)); (case k12 | k13 | k14 => omega); (case k15 => ktr_room); (case k16 => ktr_units); intro x' k' t' tk' vs' cells' n1' n2' h' tks' F' N' hx0' hx1' ok' hk'; (try dsimp only at N'); (try k_fold))) | (k_end; wrow_close) | walk1 | (dsimp only; walk1) | (leave1; walk_say "STEP leave1"; try dsimp only) | fail "no step"))
  unfold Hold
  rename IsRange _ _ _ _ _ _ _ _ => hr
  rename News _ _ _ _ => N1
  rename Fr _ _ _ _ => F1
  have hmd := hb'
  refine krs_go (n := bl.length) (fun i m nw => LawB w K first bl x' dx' lt st c lb ta' a' ut nt k tk0 vs n1 n2 as tl tl' b' kb fb tq tf i m nw)
    rfl hr (small_one (by omega) (by omega) (by omega) (by omega)) ((rangeSize_nat _ _).trans (by omega)) F1 N1 ⟨D', us', nn', _, rfl, hi', rfl, rfl, rfl, rfl, rfl, rfl, rfl, rfl, trivial⟩ (by unfold aesEs; lcg_sub) ?_ ?_
  · rintro i m nw I t9 h tk9 hi ⟨la, ua, na, tmd, rfl, hua, hk⟩ hoI F2 N2
    first | replace F2 := hk.fr F2 | replace F2 := hk.frI F2
    clear hk hr F1 N1
    obtain ⟨ai, hai⟩ : ∃ a, as[i]? = some a := ⟨_, List.getElem?_eq_getElem (by rw [hB.len]; exact hi)⟩
    obtain ⟨ui, ni, hmi, hui⟩ := hB.get hai
    have hri := row_ok hok hi
    have hAt := cfbAt_ok w.params (expand w.params K) hok hf16 hfo i (Nat.le_of_lt hi)
    have hAl := hAt.1
    have hAo := hAt.2
    have hAo2 : ∀ y ∈ cfbAt w.params (expand w.params K) first bl i, 0 ≤ y ∧ y < 256 := hAt.2
    have hAl2 : (cfbAt w.params (expand w.params K) first bl i).length ≤ 200 := by omega
    generalize hZ : enc w.params (expand w.params K) (cfbAt w.params (expand w.params K) first bl i) = Z
    have hZl : Z.length = 16 := hZ ▸ enc_len _ _ _
    have hZo : ∀ y ∈ Z, OctOk y := hZ ▸ enc_oct _ _ _
    have hZl2 : Z.length ≤ 200 := by omega
    have hZr : Z.length = (bl.getD i []).length := by rw [hri.1]; exact hZl
    have hr80 : (bl.getD i []).length ≤ 80 := by rw [hri.1]; decide
    have hXl : (List.zipWith Builtin.bitXor Z (bl.getD i [])).length ≤ 200 := by rw [List.length_zipWith]; omega
    have hXo : ∀ y ∈ List.zipWith Builtin.bitXor Z (bl.getD i []), 0 ≤ y ∧ y < 256 := xor_oct hZo hri.2
    have hS : cfbAt w.params (expand w.params K) first bl (i + 1) = List.zipWith Builtin.bitXor Z (bl.getD i []) := by rw [cfbAt, hZ]; exact xor_swap hri.2 hZo
    have k0 : 0 + (i : Int) * 1 = ((i : Nat) : Int) := by omega
    have k1 : 0 + (i : Int) * 1 < 2 ^ 63 := by omega
    have k2 : (0 : Int) ≤ 16 * (0 + (i : Int) * 1) := by omega
    have k3 : (0 : Int) ≤ 16 * (0 + (i : Int) * 1) + 16 := by omega
    have k4 : (cfbOut w.params (expand w.params K) first bl bl.length).length ≤ 100000 := by rw [(cfbOut_len w.params (expand w.params K) hok hf16 hfo bl.length (Nat.le_refl _)).1]; omega
    have hrows := cfbRows_ok w.params (expand w.params K) hok hf16 hfo
    have hrl : (cfbRows w.params (expand w.params K) first bl).length = bl.length := by unfold cfbRows; rw [List.length_map, List.length_range]
    have k5 : ((cfbOut w.params (expand w.params K) first bl bl.length).drop (16 * (0 + (i : Int) * 1)).toNat).take (min (16 * (0 + (i : Int) * 1) + 16).toNat (cfbOut w.params (expand w.params K) first bl bl.length).length - (16 * (0 + (i : Int) * 1)).toNat) = List.zipWith Builtin.bitXor Z (bl.getD i []) := by
      rw [← hS, cfb_rows, flat_len hrows, hrl, show (16 * (0 + (i : Int) * 1)).toNat = 16 * i by omega, show min (16 * (0 + (i : Int) * 1) + 16).toNat (16 * bl.length) - 16 * i = 16 by omega, flat_cut hrows (by omega)]
      exact getD_map hi
    rw [← hZ] at hZo hZl hZl2 hZr hXl hXo hS k5
    unfold aesEs at N2
    (try k_unmd)
    (try k_fold)
    (repeat' (first | (k_unfold; (try dsimp only)) | ((with_reducible show wpAny _ _ (exec _ _) _ _ _); (fail_if_success (fail_if_success k_fold)); refine foldQ ?_; intro q9) | ((with_reducible show wpAny _ _ (eval (Expr.BinOp _ _ _ _) _) _ _ _); (fail_if_success (fail_if_success k_fold)); refine foldQ ?_; intro q9) | ((with_reducible show wpAny _ _ (eval (Expr.Call _ _ _ _) _) _ _ _); (fail_if_success (fail_if_success k_fold)); refine foldQ ?_; intro q9) | ((with_reducible show wpAny _ _ (eval (Expr.Subscript _ _ _) _) _ _ _); (fail_if_success (fail_if_success k_fold)); refine foldQ ?_; intro q9)  | (k_here; (with_reducible show UnrEnd _ _ _ _ _ _ _); (refine Hold.mk ?_)) | (k_here; (with_reducible show wpAny _ _ (subscriptTail _ _ (Value.ref _) (Value.ref _)) _ _ _); k_dflt (refine' cut_upto ?k1 ?k2 ?k3 ?k4 ?k5 ?k6 ?k7 (fun D' us' h' k' F' N' lt' hi' => ?_) ?k8 ?k9; (case k1 | k2 => k_asm); (case k3 => k_mem); (case k4 => tb_start); (case k5 => first | tb_start | decide); (case k6 | k7 => tb_start); (case k8 => intro _ _; with_unfolding_all rfl); (case k9 => intro _ _; with_unfolding_all rfl)); (have h8 := lt'); (simp only [AllNe, and_true] at lt'); (try k_fold)) | (k_here; (with_reducible show wpAny _ _ (subscriptTail _ _ (Value.bytes _ _) (Value.ref _)) _ _ _); k_dflt (first | (refine' cut_bytes ?k1 ?k2 ?k3 ?k4 ?k5 ?k6 ?k7 (fun b' t' h' k' F' N' hb' => ?_) ?k8 ?k9; (case k1 | k2 => k_asm); (case k3 | k4 | k5 | k6 | k7 => tb_start); (case k8 => intro _ _; with_unfolding_all rfl); (case k9 => intro _ _ _; with_unfolding_all rfl)); | (refine' cut_from ?k1 ?k2 ?k3 ?k4 ?k5 ?k6 (fun b' t' h' k' F' N' hb' => ?_) ?k8 ?k9; (case k1 | k2 => k_asm); (case k3 => tb_start); (case k4 => first | tb_start | decide); (case k5 | k6 => tb_start); (case k8 => intro _ _; with_unfolding_all rfl); (case k9 => intro _ _ _; with_unfolding_all rfl))); (try k_fold)) | (k_here; (with_reducible show wpAny _ _ (subscriptTail _ _ (Value.ref _) (Value.int _ _)) _ _ _); k_dflt (refine' subr_use ?k1 ?k2 ?k3 ?k4 ?k5 ?_ ?k6; (case k1 => k_asm); (case k2 => k_mem); (case k3 | k4 | k5 => tb_start); (case k6 => with_unfolding_all rfl)); (try k_fold)) | (k_here; (with_reducible show wpAny _ _ (call (Value.ref 297) [Value.ref _, Value.bytes _ _]) _ _ _); k_dflt ( refine' ecbe_use ?k1 ?k2 ?k3 ?k4 ?k5 ?k6 ?k7 ?k8 ?k9 ?k10 ?k11 ?k12 ?k13 ?k14 ?k15 ?_; (case k1 | k2 | k3 | k4 | k5 => k_asm); (case k6 => first | exact rfl | assumption); (case k7 => k_mem); (case k8 => (unfold aesEs; k_mem)); (case k9 => tb_start); (case k10 => lcg_sub); (case k11 | k12 | k13 => tb_start); (case k14 => ktr_room); (case k15 => ktr_units); intro b' t' h' tk' F' N' hb'; (try k_fold))) | (k_here; (with_reducible show wpAny _ _ (call (Value.ref 307) [Value.bytes _ _]) _ _ _); k_dflt ( refine' new_use (fun x dx hne => ecb_init w hne (by tb_start) (by tb_start)) (fun _ _ _ _ h => h.1) ?c1 ?c2 ?c3 ?k1 ?k2 ?k3 ?k4 ?k5 ?k6 ?k7 ?k8 ?_; (case c1 | c2 | c3 => k_is); (case k1 | k2 | k3 | k4 | k5 => k_asm); (case k6 => first | exact rfl | assumption); (case k7 => ktr_room); (case k8 => ktr_units); rintro x' dx' nw' h' tk' hxd' F' N' hsep' ⟨_, tl', ta', a', ds', hnw', hds', hA', o1', o2'⟩; subst hds'; subst hnw'; (have h7 := hsep'); (replace N' := Mine.News.last2 N'); (try simp only [List.cons_append, List.nil_append] at N'); (try simp only [AllNeT, and_true] at h7); (repeat (first | (refine an8 h7 ?_; clear h7; intro h8 h8 h8 h8 h8 h8 h8 h7) | (refine an4 h7 ?_; clear h7; intro h8 h8 h8 h7) | (refine an2 h7 ?_; clear h7; intro h8 h7))); (have h6 := hsep'); (unfold aesEs at N'); (try k_fold))) | (k_here; (with_reducible show wpAny _ _ (call (Value.ref 367) [Value.ref _, Value.bytes _ _]) _ _ _); k_dflt ( refine' meth_last (cfbe_spec w ?h1 ?h2 ?h3 ?h4 ?h5 ?h6 ?h7) ?k1 ?k2 ?k3 ?k4 ?k5 ?k6 ?k7 ?k8 ?k9 ?k10 ?k11 ?k12 ?k13 ?k14 ?_; (case k1 | k2 | k3 | k4 | k5 => k_asm); (case k6 => first | exact rfl | assumption); (case k7 => (unfold cfbEs; lcg_sub)); (case h1 | h2 | h3 | h4 | h5 | h6 | h7 => first | tb_start | omega); (case k8 => tb_start); (case k9 => exact (off_cons (by tb_start) (off_cons (by tb_start) off_nil))); (case k10 => lcg_sub); (case k11 => exact sepT (by tb_start) (by lcg_sub)); (case k12 => lcg_sub); (case k13 => ktr_room); (case k14 => ktr_units); intro b' t' h' tk' F' N' hb'; (try k_fold))) | (k_here; (with_reducible show wpAny _ _ (call (Value.ref 375) [Value.bytes _ _, Value.bytes _ _, Value.int _ _]) _ _ _); k_dflt ( refine' new_use (fun x dx hne => cfb_init w hne (by tb_start) (by tb_start) (by tb_start) (by tb_start)) (fun _ _ _ _ h => h.1) ?c1 ?c2 ?c3 ?k1 ?k2 ?k3 ?k4 ?k5 ?k6 ?k7 ?k8 ?_; (case c1 | c2 | c3 => k_is); (case k1 | k2 | k3 | k4 | k5 => k_asm); (case k6 => first | exact rfl | assumption); (case k7 => ktr_room); (case k8 => ktr_units); rintro x' dx' nw' h' tk' hxd' F' N' hsep' ⟨_, tl', ta', a', ds', hnw', ⟨t1', t2', t3', hds'⟩, hA', o1', o2'⟩; subst hds'; subst hnw'; (have h7 := hsep'); (replace N' := Mine.News.last2 N'); (try simp only [List.cons_append, List.nil_append] at N'); (try simp only [AllNeT, and_true] at h7); (repeat (first | (refine an8 h7 ?_; clear h7; intro h8 h8 h8 h8 h8 h8 h8 h7) | (refine an4 h7 ?_; clear h7; intro h8 h8 h8 h7) | (refine an2 h7 ?_; clear h7; intro h8 h7))); (have h6 := hsep'); (unfold cfbEs at N'); (try k_fold))) | (k_here; (with_reducible show wpAny _ _ (call (Value.ref 406) [Value.ref _, Value.bytes _ _]) _ _ _); k_dflt ( refine' meth_last (ofbd_spec w ?h1 ?h2 ?h3 ?h4 ?h5 ?h6 ?h7 ?h8 ?h9) ?k1 ?k2 ?k3 ?k4 ?k5 ?k6 ?k7 ?k8 ?k9 ?k10 ?k11 ?k12 ?k13 ?k14 ?_; (case k1 | k2 | k3 | k4 | k5 => k_asm); (case k6 => first | exact rfl | assumption); (case k7 => (unfold ofbEs; lcg_sub)); (case h1 | h2 | h3 | h4 | h5 | h6 | h7 | h8 | h9 => first | tb_start | omega); (case k8 => tb_start); (case k9 => exact (off_cons (by tb_start) (off_cons (by tb_start) (off_cons (by tb_start) off_nil)))); (case k10 => lcg_sub); (case k11 => exact sepT (by tb_start) (by lcg_sub)); (case k12 => lcg_sub); (case k13 => ktr_room); (case k14 => ktr_units); intro b' t' h' tk' F' N' hb'; (try k_fold))) | (k_here; (with_reducible show wpAny _ _ (call (Value.ref 409) [Value.bytes _ _, Value.bytes _ _]) _ _ _); k_dflt ( refine' new_use (fun x dx hne => ofb_init w hne (by tb_start) (by tb_start) (by tb_start) (by tb_start)) (fun _ _ _ _ h => h.1) ?c1 ?c2 ?c3 ?k1 ?k2 ?k3 ?k4 ?k5 ?k6 ?k7 ?k8 ?_; (case c1 | c2 | c3 => k_is); (case k1 | k2 | k3 | k4 | k5 => k_asm); (case k6 => first | exact rfl | assumption); (case k7 => ktr_room); (case k8 => ktr_units); rintro x' dx' nw' h' tk' hxd' F' N' hsep' ⟨_, tl', t1', t2', ta', a', lR', n', hnw', hA', o1', o2', o3', n1', n2'⟩; subst hnw'; (have h7 := hsep'); (replace N' := Mine.News.last3 N'); (try simp only [List.cons_append, List.nil_append] at N'); (try simp only [AllNeT, and_true] at h7); (repeat (first | (refine an8 h7 ?_; clear h7; intro h8 h8 h8 h8 h8 h8 h8 h7) | (refine an4 h7 ?_; clear h7; intro h8 h8 h8 h7) | (refine an2 h7 ?_; clear h7; intro h8 h7))); (have h6 := hsep'); (unfold ofbEs at N'); (try k_fold))) | (k_here; (with_reducible show wpAny _ _ (call (Value.ref 472) [Value.ref _, Value.ref _]) _ _ _); k_dflt ( refine' added_use ?k1 ?k2 ?k3 ?k4 ?k5 ?k6 ?k7 ?k8 ?k9 ?k10 ?k11 ?k12 ?k13 ?k14 ?_; (case k1 | k2 | k3 | k4 | k5 => k_asm); (case k6 => first | exact rfl | assumption); (case k7 => k_mem); (case k8 => first | k_mem | exact mem_sub (by tb_start) (by lcg_sub)); (case k9 | k10 | k11 | k12 => tb_start); (case k13 => ktr_room); (case k14 => ktr_units); intro l' us' nn' h' tk' F' N' l1 hi'; (try k_fold))) | (k_here; (with_reducible show wpAny _ _ (call (Value.ref 489) [Value.bytes _ _, Value.bytes _ _, Value.int _ _]) _ _ _); k_dflt ( refine' spec_new (noughts_spec w (by tb_start) (by tb_start) (by tb_start) (by tb_start) (by tb_start) (by omega)) ?k1 ?k2 ?k3 ?k4 ?k5 ?k6 ?k8 ?k10 ?k11 ?_; (case k1 | k2 | k3 | k4 | k5 => k_asm); (case k6 => first | exact rfl | assumption); (case k8 => exact fun _ _ => trivial); (case k10 => ktr_room); (case k11 => ktr_units); intro l' us' kk' h' tk' F' N' l1 hi'; (try k_fold))) | (k_here; (with_reducible show wpAny _ _ (call (Value.builtin "len") [Value.ref _]) _ _ _); k_dflt (refine len_vals (by k_asm) (by k_mem) (by tb_start) (by omega) (fun t' k' => ?_)); (try k_fold)) | (k_here; (with_reducible show wpAny _ _ (binaryOp Operator.Add (Value.ref _) (Value.ref _)) _ _ _); k_dflt (refine' addl_use ?k1 ?k2 ?k3 ?k4 ?k5 ?k6 ?k7 ?k8 (fun D' us' h' F' N' l1 hi' => ?_); (case k1 | k2 => k_asm); (case k3 => first | exact PVl.list (by k_mem) (by tb_start) | tb_start); (case k4 => first | exact PVl.list (by k_mem) (by tb_start) | exact PVl.sub (by tb_start) (by lcg_sub)); (case k5 | k6 => tb_start); (case k7 => decide); (case k8 => decide)); (try k_fold)) | (k_here; (with_reducible show wpAny _ _ (compareOp CmpOp.Eq (Value.bytes _ _) (Value.bytes _ _)) _ _ _); k_dflt (refine cmp_eq (by tb_start) (by tb_start) (by first | with_reducible rfl | tb_start | exact Eq.symm (by tb_start)) ?_); (try k_fold)) | (k_here; (with_reducible show wpAny _ _ (compareOp CmpOp.NotEq (Value.bytes _ _) (Value.bytes _ _)) _ _ _); k_dflt (refine cmp_ne (by tb_start) (by tb_start) (by first | with_reducible rfl | tb_start | exact Eq.symm (by tb_start)) ?_); (try k_fold)) | (k_here; (with_reducible show wpAny _ _ (call (Value.type "list") [Value.bytes _ _]) _ _ _); k_dflt (refine call_list_bytes (by rfl) (by k_asm) (by k_asm) (by tb_start) (by tb_start) (fun D' us' nn' h' k' F' N' l1 hi' => ?_)); (try k_fold)) | (k_here; (with_reducible show wpAny _ _ (pyIter (Value.ref _)) _ _ _); (refine Hold.mk ?_)) | (k_here; (with_reducible show wpAny _ _ (call (Value.type _) [Value.ref _]) _ _ _); k_dflt (refine call_bytes_base (by k_asm) (by k_asm) (by tb_start) (by tb_start) (by tb_start) (by tb_start) (by rfl) (fun b' t' h' k' F' N' hb' => ?_)); (try k_fold)) | (k_here; (with_reducible show wpAny _ _ (binaryOp Operator.Add (Value.bytes _ _) (Value.bytes _ _)) _ _ _); k_dflt (refine add_bytesK (by tb_start) (by tb_start) (by first | tb_start | omega) (fun b' t' k' hb' => ?_)); (try k_fold)) | (k_here; (with_reducible show wpAny _ _ (call (Value.type _) [Value.ref _]) _ _ _); k_dflt (refine call_bytes_list (by k_asm) (by k_asm) (by k_mem) (by tb_start) (by tb_start) (by tb_start) (by rfl) (fun b' t' h' k' F' N' hb' => ?_)); (try k_fold)) | (k_here; (with_reducible show wpAny _ _ (call (Value.type _) [Value.int _ _]) _ _ _); k_dflt (refine call_bytes_zeros (by first | rfl | assumption) (by first | decide | omega) (fun b' t' k' hb' => ?_)); (try k_fold)) | (k_here; (with_reducible show wpAny _ _ (call (Value.type _) [Value.bytes _ _]) _ _ _); refine call_bytes_bytes ?_; (try k_fold)) | (k_here; (with_reducible show wpAny _ _ (call (Value.ref 40) [Value.ref _]) _ _ _); k_dflt ( refine' b2str_use ?k1 ?k2 ?k3 ?k4 ?k5 ?k6 ?k7 ?k8 ?k9 ?k15 ?k16 ?_; (case k1 | k2 | k3 | k4 | k5 => k_asm); (case k6 => first | exact rfl | assumption); (case k7 => first | exact PVl.list (by k_mem) (by tb_start) | exact PVl.base (by tb_start) (by tb_start)); (case k8 => tb_start); (case k9 => first | tb_start | omega); (case k15 => ktr_room); (case k16 => ktr_units); intro b' t' h' k' F' N' hb'; (try k_fold))) | (k_here; (with_reducible show wpAny _ _ (call (Value.ref 33) [Value.bytes _ _]) _ _ _); k_dflt ( refine' (str2b_spec _).read ?k1 ?k2 ?k3 ?k4 ?k5 ?k6 ?k15 ?k16 ?ky ?_; (case ky => exact fun _ _ => trivial); (case k1 | k2 | k3 | k4 | k5 => k_asm); (case k6 => first | exact rfl | assumption); (case k15 => ktr_room); (case k16 => ktr_units); intro v' h' k' F' N' hs' hv'; subst hv'; (clear hs'); (try k_fold))) | (k_here; (with_reducible show wpAny _ _ (call (Value.ref 108) [_, _]) _ _ _); k_dflt ( refine' enc_use ?k1 ?k2 ?k3 ?k4 ?k5 ?k6 ?k7 ?k8 ?k9 ?k10 ?k11 ?k12 ?_; (case k1 | k2 | k3 | k4 | k5 => k_asm); (case k6 => first | exact rfl | assumption); (case k7 => first | exact AesAt.mono (by tb_start) (Fr.keep (by k_asm)) | exact AesL.at (by tb_start) (News.sub (by k_asm) (by lcg_sub))); (case k8 => first | exact PVl.bytes (by tb_start) | exact PVl.list (by k_mem) (by tb_start) | exact PVl.base (by tb_start) (by tb_start) | exact PVl.sub (by tb_start) (by lcg_sub)); (case k9 | k10 => tb_start); (case k11 => ktr_room); (case k12 => ktr_units); intro l' us' nn' h' tk' F' N' l1 hi' hl' ho'; (have h8 := l1); (simp only [AllNe, and_true] at l1); (try k_fold))) | (k_here; (with_reducible show wpAny _ _ (call (Value.builtin _) [Value.ref _]) _ _ _); k_dflt (refine len_listN (by k_asm) (by k_mem) (by tb_start) (by tb_start) (fun t' k' => ?_)); (try k_fold)) | (k_here; (with_reducible show wpAny _ _ (call (Value.builtin _) [Value.bytes _ _]) _ _ _); k_dflt (refine len_bytesN (by tb_start) (by tb_start) (fun t' k' => ?_)); (try k_fold)) | (k_here; (with_reducible show wpAny _ _ (call (Value.ref 455) [Value.ref _, Value.int _ _]) _ _ _); k_dflt ( refine' take_use ?k1 ?k2 ?k3 ?k4 ?k5 ?k6 ?k7 ?k8 ?k9 ?k10 ?k11 ?k12 ?k13 ?k14 ?k15 ?k16 ?_; (case k1 | k2 | k3 | k4 | k5 => k_asm); (case k6 => first | exact rfl | assumption); (case k7 | k8 => k_mem); (case k9 => assumption); (case k10 => (intro o1; k_upd)); (case k11 => (intro o1 o2; k_upd)); (case k12 | k13 | k14 => omega); (case k15 => ktr_room); (case k16 => ktr_units); intro x' k' t' tk' vs' cells' n1' n2' h' tks' F' N' hx0' hx1' ok' hk'; (try dsimp only at N'); (try k_fold))) | (k_end; wrow_close) | walk1 | (dsimp only; walk1) | (leave1; walk_say "STEP leave1"; try dsimp only) | fail "no step"))
    unfold Hold
    rename Fr _ _ _ _ => F9
    rename News _ _ _ _ => N9
    exact unr_end F9 N9 ⟨l', us', nn', tmd, rfl, by rw [hS]; exact hi', rfl, rfl, rfl, rfl, rfl, rfl, rfl, rfl, trivial⟩ (by k_mem) (by unfold aesEs; lcg_sub) (fun p hp => by
      rcases List.mem_cons.mp hp with rfl | hp
      · show (@Ne Nat l' I)
        k_ne
      · exact hoI p (List.mem_cons_of_mem _ hp))
  · rintro m nw h3 tk3 ⟨la, ua, na, tmd, rfl, hua, hk⟩ F5 N5
    ((try k_unmd); (try k_unfold); (try dsimp only))
    have g1 := AllNeT.out hsep' (st, _) (by k_mem)
    have g2 := AllNeT.out hsep' (c, _) (by k_mem)
    exact law_c w ho9 B F5 X (News.sub N5 (by lcg_sub)) T hkey hf16 hfo hb2 hb5 hok ⟨st, c, lt, k, tk0, vs, cells, n1, n2, nt, ut, as, tl, kb, fb, b', tq, tf, tmd, x', dx', ta', a', tl', rfl, ok, hk0, hB, hut, hkb, hfb, hmd, hA', ⟨e1, e2, e3, e4, e5, g1 (x', _) List.mem_cons_self, g2 (x', _) List.mem_cons_self, g1 (dx', _) (List.mem_cons_of_mem _ List.mem_cons_self), g2 (dx', _) (List.mem_cons_of_mem _ List.mem_cons_self)⟩, e6, e7,
      allNe_of fun q hq => g1 q (List.mem_cons_of_mem _ (List.mem_cons_of_mem _ hq)), allNe_of fun q hq => g2 q (List.mem_cons_of_mem _ (List.mem_cons_of_mem _ hq)), hk.2.1, hk.2.2.1, hk.2.2.2.1, hk.2.2.2.2.1, hk.2.2.2.2.2.1, hk.2.2.2.2.2.2.1, hk.2.2.2.2.2.2.2.1, trivial⟩
end
section
theorem law_a (w : World) {oc dV kV doc pm cdv ct : Value} {od an : Option Addr} {osl : Array (Option Value)} {name qual : Str} {params : Arguments} {body : List Stmt} {scope : Scope} (ho : (mkK.heap_1 w.params).lookup 496 = some ⟨oc, od, .func (fnOf name qual params body scope dV kV doc pm an cdv ct), osl⟩)
    {p : Program} {loose : List Str} {mean : ExcName → Option Value} {mg mb : Str → Option Value} {base g h : Heap} {cde : Value} {L1 fa : Addr} {s : Shared} {tk : Nat} {scr : Addr} {us : List Value} {ns : List Int} {m : Str → Option Value}
    (B : Below callerA base [] g) (F : Fr g L1 h m) (X : (mkK.heap_1 w.params).In g) (N : News g L1 h []) (T : Top p loose mean mg mb g) (hscr : g.IsList scr us.toArray) (hi : IntsAre us ns) (hl : ns.length ≤ 63) (hm : m = fun x => List.lookup x [(Str.ofString "script", Value.ref scr)]) :
    wpAny (model PySem.Challenge.rw_yv0001_01.row.prog w) (callerA.deeper (envOf qual scope L1 fa cde)) (execs body (envOf qual scope L1 fa cde))
      (fun fl s' => Ends g L1 s (fun v nw => v = .bool true ∧ nw = []) (match fl with | .ret v => v | _ => .none) s') (fun _ _ => False) { s with heap := h, toks := tk } := by
  subst hm
  have hscr2 : ∀ g' : Heap, (∀ b o, g.get? b = some o → g'.get? b = some o) → g'.IsList scr us.toArray := fun g' k => by
    obtain ⟨o, h1, h2, n, h3⟩ := hscr
    exact ⟨o, k _ _ h1, h2, n, h3⟩
  have ho9 := ho
  with_unfolding_all (refine' fn_go ho ?hk9 ?_; (case hk9 => k_is))
  rintro rfl rfl rfl rfl
  clear ho
  (try dsimp only)
  (try k_fold)
  (repeat' (first | (k_unfold; (try dsimp only)) | ((with_reducible show wpAny _ _ (exec _ _) _ _ _); (fail_if_success (fail_if_success k_fold)); refine foldQ ?_; intro q9) | ((with_reducible show wpAny _ _ (eval (Expr.BinOp _ _ _ _) _) _ _ _); (fail_if_success (fail_if_success k_fold)); refine foldQ ?_; intro q9) | ((with_reducible show wpAny _ _ (eval (Expr.Call _ _ _ _) _) _ _ _); (fail_if_success (fail_if_success k_fold)); refine foldQ ?_; intro q9) | ((with_reducible show wpAny _ _ (eval (Expr.Subscript _ _ _) _) _ _ _); (fail_if_success (fail_if_success k_fold)); refine foldQ ?_; intro q9)  | (k_here; (with_reducible show wpAny _ _ (exec (Stmt.For (Expr.Name _ _) _ _ _ _) _) _ _ _); (with_unfolding_all refine' For_invVF ?k0 ?k1 ?k2 ?_; (case k0 => k_asm); (case k1 => exact rfl); (case k2 => exact rfl)); (try k_fold)) | (k_here; (with_reducible show wpAny _ _ (binaryOp Operator.Add (Value.ref _) (Value.ref _)) _ _ _); k_dflt (refine' addv_use ?k1 ?k2 ?k3 ?k4 ?k5 (fun D' h' F' N' l1 => ?_); (case k1 | k2 => k_asm); (case k3 | k4 => k_mem); (case k5 => (simp only [List.length_cons, List.length_nil, List.length_map]; omega))); (try k_fold)) | (k_here; (with_reducible show wpAny _ _ (call (Value.ref 477) [Value.ref _, Value.int _ _]) _ _ _); k_dflt ( refine' blocks_use ?k1 ?k2 ?k3 ?k4 ?k5 ?k6 ?k7 ?k8 ?k9 ?k10 ?k11 ?k12 ?k15 ?k16 ?_; (case k1 | k2 | k3 | k4 | k5 => k_asm); (case k6 => first | exact rfl | assumption); (case k7 | k8 => k_mem); (case k9 => assumption); (case k10 => (intro o1; k_upd)); (case k11 => (intro o1 o2; k_upd)); (case k12 => omega); (case k15 => ktr_room); (case k16 => ktr_units); intro l' as' M' nn' tl' k' tk' vs' cells' n1' n2' h' tks' F' N' hla' hta' hlt' hB' hM1' hM4' ok' hk'; (have hBl' := Blks.len hB'); (try simp only [List.cons_append, List.nil_append] at N'); (try k_fold))) | (k_here; (with_reducible show wpAny _ _ (call (Value.ref 467) [Value.ref _]) _ _ _); k_dflt ( refine' spec_all (key_spec w ?h1 ?h2 ?h3) ?k1 ?k2 ?k3 ?k4 ?k5 ?k6 ?k7 ?k8 ?k10 ?k11 ?_; (case k1 | k2 | k3 | k4 | k5 => k_asm); (case k6 => first | exact rfl | assumption); (case k7 => lcg_sub); (case h1 => tb_start); (case h2 => omega); (case h3 => exact ne_of_lists (by k_asm) (StOk.are (by tb_start)) (by k_mem) (by k_mem)); (case k8 => exact fun _ _ => trivial); (case k10 => ktr_room); (case k11 => ktr_units); rintro v' nw' h' tk' F' N' ⟨l', nsK, us', nn', k', t', vs', cells', n1', n2', hv', hnw', hi', hlK, hoK, ok', hk', d1', d2'⟩; subst hv'; subst hnw'; (try k_fold))) | (k_here; (with_reducible show wpAny _ _ (call (Value.ref 448) [Value.ref _]) _ _ _); k_dflt ( refine' spec_all (state_spec w (by tb_start) (by tb_start)) ?k1 ?k2 ?k3 ?k4 ?k5 ?k6 ?k7 ?k8 ?k10 ?k11 ?_; (case k1 | k2 | k3 | k4 | k5 => k_asm); (case k6 => first | exact rfl | assumption); (case k7 => exact fun _ h => nomatch h); (case k8 => exact fun g' K' => hscr2 _ (base_keep (by k_asm) News.nil K')); (case k10 => ktr_room); (case k11 => ktr_units); rintro v' nw' h' tk' F' N' ⟨st', c', t', vs', cells', n1', n2', hv', hnw', ok'⟩; subst hv'; subst hnw'; (have hsc' : (@Ne Nat st' c') := ne_of_lists N' ok'.are List.mem_cons_self (List.mem_cons_of_mem _ List.mem_cons_self)); (try k_fold))) | (k_here; (with_reducible show wpAny _ _ (pyIter (Value.ref _)) _ _ _); (refine Hold.mk ?_)) | (k_here; (with_reducible show wpAny _ _ (call (Value.ref 460) [Value.ref _, Value.int _ _]) _ _ _); k_dflt ( refine' oct_use ?k1 ?k2 ?k3 ?k4 ?k5 ?k6 ?k7 ?k8 ?k9 ?k10 ?k11 ?k12 ?k13 ?k14 ?k15 ?k16 ?_; (case k1 | k2 | k3 | k4 | k5 => k_asm); (case k6 => first | exact rfl | assumption); (case k7 | k8 => k_mem); (case k9 => assumption); (case k10 => (intro o1; k_upd)); (case k11 => (intro o1 o2; k_upd)); (case k12 => omega); (case k13 => first | omega | exact (menu3 (by tb_start) (by tb_start)).1); (case k14 => first | omega | exact (menu3 (by tb_start) (by tb_start)).2.1); (case k15 => ktr_room); (case k16 => ktr_units); intro l' ns' us' nn' k' tk' vs' cells' n1' n2' h' tks' F' N' l1 hi' hl' ho' ok' hk'; (have h8 := l1); (simp only [AllNe, and_true] at l1); (try dsimp only at N'); (try k_fold))) | (k_end; wrow_close) | walk1 | (dsimp only; walk1) | (leave1; walk_say "STEP leave1"; try dsimp only) | fail "no step"))
  unfold Hold
  rename_i r6 _ i6 _ _ _ _ _ _ _ _ _ _ _ _ _ _ _ lt0 _ _ _ _ _ _
  rename Fr _ _ _ _ => F1
  rename News _ _ _ _ => N1
  have hr6 : (List.replicate (Int.toNat 16) [(6 : Int)]).flatten.length = 16 := rfl
  have ho6 : ∀ y ∈ (List.replicate (Int.toNat 16) [(6 : Int)]).flatten, OctOk y := fun y hy => by
    have e : y = 6 := by simpa using hy
    rw [e]; exact ⟨by decide, by decide⟩
  have hBk : Blks ((r6, _) :: tl') (r6 :: as') ((List.replicate (Int.toNat 16) [(6 : Int)]).flatten :: M') := ⟨⟨_, 0, rfl, i6, hr6, ho6⟩, hB'⟩
  have a1 : AllNe st' tl' := allNe_of fun q hq => AllNeT.out hta' (st', _) (by k_mem) q hq
  have a2 : AllNe c' tl' := allNe_of fun q hq => AllNeT.out hta' (c', _) (by k_mem) q hq
  generalize hbl : (List.replicate (Int.toNat 16) [(6 : Int)]).flatten :: M' = bl at hBk
  have hbn : bl.length = M'.length + 1 := by rw [← hbl]; rfl
  have hok := hBk.ok
  have hvn : ([Value.ref r6] ++ List.map Value.ref as').length = bl.length := by rw [hbn, List.length_append, List.length_map, hBl']; exact Nat.add_comm _ _
  have hkey : KeyOk nsK := hlK
  refine' kls_go (vs := [Value.ref r6] ++ List.map Value.ref as') (n := 0) (fun i m nw => LawJ g nsK ns' bl i D' ([Value.ref r6] ++ List.map Value.ref as') m nw) rfl ?hm F1 N1 ?hj ?hs ?turn ?fin
  (case hj => exact ⟨st', c', lt0, k', tk', vs', cells', n1', n2', 0, [], r6 :: as', _, _, _, _, _, rfl, rfl, ok', by omega, hBk, .nil, byteArr_ints hoK, byteArr_ints ho', ⟨by k_ne, by k_ne, by k_ne, by k_ne, hsc'⟩, ⟨by k_ne, a1⟩, ⟨by k_ne, a2⟩, rfl, rfl, rfl, rfl, rfl, trivial⟩)
  (case hs => lcg_sub)
  case hm =>
    rintro i m nw h
    obtain ⟨st, c, lt, k, tk0, vs, cells, n1, n2, nt, ut, as, tl, kb, fb, tq, tf, rfl, _⟩ := h
    exact List.mem_cons_of_mem _ (List.mem_cons_of_mem _ (List.mem_cons_of_mem _ List.mem_cons_self))
  case turn =>
    rintro i m nw I it v h tk9 hvi hi ⟨st, c, lt, k, tk0, vs, cells, n1, n2, nt, ut, as, tl, kb, fb, tq, tf, rfl, hvb, ok, hk0, hB, hut, hkb, hfb, ⟨e1, e2, e3, e4, e5⟩, e6, e7, hk⟩ hoI F2 N2
    first | replace F2 := hk.fr F2 | replace F2 := hk.frI F2
    clear hk F1 N1
    rw [hvn] at hi
    rw [hvb] at hvi
    obtain ⟨ai, rfl, hai⟩ : ∃ a, v = .ref a ∧ as[i]? = some a := by
      rw [List.getElem?_map] at hvi
      cases e : as[i]? with
      | none => rw [e] at hvi; cases hvi
      | some a => rw [e] at hvi; exact ⟨a, (Option.some.inj hvi).symm, rfl⟩
    obtain ⟨ui, ni, hmi, hui⟩ := hB.get hai
    have hPi : PVl g tl (.ref ai) (bl.getD i []) := .list hmi hui
    have hri := row_ok hok hi
    have hT1 : LenLe (bl.take i).flatten 200 := by
      have := flat_le (fun r hr => (hok r hr).1) i
      unfold LenLe; omega
    have hT2 : LenLe (bl.getD i []) 16 := by unfold LenLe; rw [hri.1]; decide
    have hS := take_flat hi
    (try k_unmd)
    (try k_fold)
    (repeat' (first | (k_unfold; (try dsimp only)) | ((with_reducible show wpAny _ _ (exec _ _) _ _ _); (fail_if_success (fail_if_success k_fold)); refine foldQ ?_; intro q9) | ((with_reducible show wpAny _ _ (eval (Expr.BinOp _ _ _ _) _) _ _ _); (fail_if_success (fail_if_success k_fold)); refine foldQ ?_; intro q9) | ((with_reducible show wpAny _ _ (eval (Expr.Call _ _ _ _) _) _ _ _); (fail_if_success (fail_if_success k_fold)); refine foldQ ?_; intro q9) | ((with_reducible show wpAny _ _ (eval (Expr.Subscript _ _ _) _) _ _ _); (fail_if_success (fail_if_success k_fold)); refine foldQ ?_; intro q9)  | (k_here; (with_reducible show wpAny _ _ (binaryOp Operator.Add (Value.ref _) (Value.ref _)) _ _ _); k_dflt (refine' addl_use ?k1 ?k2 ?k3 ?k4 ?k5 ?k6 ?k7 ?k8 (fun D' us' h' F' N' l1 hi' => ?_); (case k1 | k2 => k_asm); (case k3 => first | exact PVl.list (by k_mem) (by tb_start) | tb_start); (case k4 => first | exact PVl.list (by k_mem) (by tb_start) | exact PVl.sub (by tb_start) (by lcg_sub)); (case k5 | k6 => tb_start); (case k7 => decide); (case k8 => decide)); (try k_fold)) | (k_here; (with_reducible show UnrEnd _ _ _ _ _ _ _); (refine Hold.mk ?_)) | (k_end; wrow_close) | walk1 | (dsimp only; walk1) | (leave1; walk_say "STEP leave1"; try dsimp only) | fail "no step"))
    unfold Hold
    rename Fr _ _ _ _ => F9
    rename News _ _ _ _ => N9
    exact unr_end F9 N9 ⟨st, c, D', k, tk0, vs, cells, n1, n2, 0, us', as, tl, kb, fb, tq, tf, rfl, hvb, ok, hk0, hB, by rw [hS]; exact hi', hkb, hfb, ⟨by k_ne, by k_ne, e3, e4, e5⟩, e6, e7, rfl, rfl, rfl, rfl, rfl, trivial⟩ (by k_mem) (by lcg_sub) (fun p hp => by
      rcases List.mem_cons.mp hp with rfl | hp
      · show (@Ne Nat D' I)
        k_ne
      · exact hoI p (List.mem_cons_of_mem _ hp))
  case fin =>
    rintro m nw h3 tk3 J F5 N5
    rw [hvn] at J
    ((try k_unmd); (try k_unfold); (try dsimp only))
    exact law_b w ho9 B F5 X N5 T hkey hl' ho' (by omega) (by omega) J
end
end Mine
local macro_rules | `(tactic| k_qdec) => `(tactic| decide +kernel)
theorem PySem.Challenge.cw_yv0001_01_holds : PySem.Challenge.rw_yv0001_01.Holds := by
  refine Mine.hd ?_
  k_go0
  rename Fr _ _ _ _ => F1
  rename News _ _ _ _ => N1
  rename (Mine.mkK.heap_1 _).In _ => X1
  rename Top _ _ _ _ _ _ => T1
  rename Heap.IsList _ _ _ => hL1
  rename IntsAre _ _ => hI1
  rename ¬ _ < _ => hc1
  rename Below _ _ _ _ => B1
  refine wpAny_mono (Mine.law_a _ (by k_is) B1 F1 X1 N1 T1 hL1 hI1 (by omega) ?_) (fun fl s' e => ?_) (fun _ _ e => e.elim)
  · rfl
  · obtain ⟨h', tk', m', news', rfl, F2, N2, e, rfl⟩ := e
    cases fl with
    | ret v =>
      dsimp only at e
      subst e
      (try k_unfold)
      (try dsimp only)
      first | wrow_close | (k_end; wrow_close)
    | next => cases e
    | brk => cases e
    | cont => cases e
