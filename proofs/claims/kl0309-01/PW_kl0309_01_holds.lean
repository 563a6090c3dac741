import PyProof.Rows.All
import Wide.All
import OpenK.AllK
import Wide.FinOn
import PySem.Challenge.RW_kl0309_01
open PySem PySem.W PySem.Calls PyProof.Rows
set_option Elab.async false
set_option maxRecDepth 100000
set_option maxHeartbeats 8000000
set_option linter.unusedVariables false
set_option genSizeOf false
set_option genInjectivity false
namespace Mine
theorem pass {P : Prop} (_ : True) (h : P) : P := h
theorem said : (PySem.Challenge.rw_kl0309_01).wellSaid = true := by kernel_rfl
section
local macro_rules | `(tactic| o_law) => `(tactic| refine holds_law said fun _ => ?_)
local macro_rules | `(tactic| o_head $_) => `(tactic| (refine pass ?hw ?hc))
local macro_rules | `(tactic| w_witness2) => `(tactic| trivial)
open_top hd for PySem.Challenge.rw_kl0309_01
end
noncomputable abbrev HK : Hook := kmHook hd.heap_1 [2, 3, 32, 34, 35, 37, 38, 39, 41, 42, 44, 45, 46, 48, 49, 51, 52, 53, 55, 56, 58, 59, 60, 61, 63, 64, 66, 67, 75, 77, 78, 80, 81, 82, 83, 84, 85, 86, 89, 90, 91, 93, 94, 96, 97, 108, 110, 111, 113, 114, 115, 117, 118, 120, 121, 122, 124, 125, 127, 128, 129, 131, 132, 134, 135, 136, 138, 139, 141, 142, 143, 145, 146, 148, 149, 150, 152, 153, 155, 156, 157, 158, 159, 160, 161, 167, 168, 172, 173, 177, 178, 179, 180, 182, 183, 185, 186, 194, 195, 197, 198, 200, 201, 202, 204, 205, 207, 208, 209, 211, 212, 214, 215, 216, 218, 219, 221, 222, 223, 226, 227, 228, 230, 231, 233, 234, 235, 237, 238, 240, 241, 242, 244, 245, 247, 248, 249, 250, 252, 253, 255, 256, 257, 260, 261, 262, 265, 266, 267, 269, 270, 272, 273, 274, 276, 277, 279, 280, 281, 284, 285, 286, 288, 289, 291, 292, 293, 295, 296, 298, 299, 300, 302, 303, 305, 306, 307, 308, 309, 310, 311, 314, 316, 317, 319, 320, 321, 323, 324, 326, 327, 328, 330, 331, 333, 334, 335, 337, 338, 340, 341, 342, 344, 345, 347, 348, 349, 352, 353] (fun _ => by kernel_rfl) [336, 350]
noncomputable abbrev PG : Program := PySem.Challenge.rw_kl0309_01.row.prog
noncomputable def qv : Program := view PG [26]
noncomputable def ls : List PySem.Str := ["_sre", "_wall", "_iter_escaped_chars", "_strip_quoted_realnames", "_check_parenthesis", "COMPILER_FLAG_NAMES", "pretty_flags", "_Unknown", "UNKNOWN", "_get_name_info", "Whitespace", "tspecials", "_name_disallowed_re", "_value_disallowed_re", "_formatparam", "Headers", "_law_digits", "_law_column", "_law_lack", "_law_asked", "_law_way"].map PySem.Str.ofString
noncomputable def xt (s : Shared) : Bool := xlAt qv [] s && recOk (RowW.records (PySem.Challenge.rw_kl0309_01).row.toRowW) s
/-- what is seen of the state behind the top -/
noncomputable def seenBy (w : World) := (openEnds treeTable PG w 4762).map (fun s => (openSeen qv ls (importedModules PG.main.body) xt true s, HK.obs s))
noncomputable def goodBy (w : World) := some (openGood qv ls, HK.val w)
noncomputable def topBy (run : (String → Option Builtin) → Program → World → Nat → Option Value → Nat → Shared → Thread → Option Shared) (nsm : Heap → Addr → PySem.Str → Option Value) (tb : String → Option Builtin) (p : Program) (w : World) (N : Nat) (s₀ : Shared) : Option Shared :=
  match s₀.heap.isNs mainGlobals && s₀.gens.size == 0 with
  | true => (run tb p w s₀.heap.objs.size (nsm s₀.heap mainGlobals "__annotations__") N s₀ (topStub p)).bind fun s₁ => match staticsOk (importedModules p.main.body) s₀.heap s₁.heap && namesBound p s₁.heap && gensDone s₁ && laidKept s₀.heap s₁.heap with
      | true => some s₁
      | false => none
  | false => none
theorem topFrom_by : topFrom = topBy topRun Heap.nsMap := rfl
noncomputable def seenQ (w : World) :=
  (Option.bind (Option.bind (PySem.W.Fast.tw10274390034422433532 PySem.W.Fast.tw14364793385576792824 (opening PG) w 4762 (PySem.W.Fast.tw1435165496053646825 (opening PG)).1 (PySem.W.Fast.tw1435165496053646825 (opening PG)).2) (PySem.W.Fast.tw14289696077712309145 PG))
    (topBy PySem.W.Fast.tw14082659384304107361 PySem.W.Fast.tw8920871248978507458 PySem.W.Fast.tw14364793385576792824 PG w 4762)).map (fun s => (PySem.W.Fast.tw4187177175401517315 qv ls (importedModules PG.main.body) xt true s, HK.obs s))
theorem seen_q : seenBy = seenQ := by
  funext w
  unfold seenBy seenQ openEnds fencedOpening
  rw [topFrom_by, ← PySem.W.Fast.te10274390034422433532, ← PySem.W.Fast.te14364793385576792824, ← PySem.W.Fast.te1435165496053646825, ← PySem.W.Fast.te14289696077712309145, ← PySem.W.Fast.te14082659384304107361, ← PySem.W.Fast.te8920871248978507458, ← PySem.W.Fast.te4187177175401517315]
theorem left_f2 (w : World) : seenQ (w.withFollow "special-get-raises" false) = goodBy (w.withFollow "special-get-raises" false) := by kernel_rfl
theorem left_t2 (w : World) : seenQ (w.withFollow "special-get-raises" true) = goodBy (w.withFollow "special-get-raises" true) := by kernel_rfl
theorem left : LeftO PG qv ls xt HK.obs HK.val 4762 := byRow2 "special-get-raises" (P := fun w => seenBy w = goodBy w) (fun w => by rw [seen_q]; exact left_f2 w) (fun w => by rw [seen_q]; exact left_t2 w)
noncomputable abbrev PR : Program := PySem.Challenge.rw_kl0309_01.row.prog
noncomputable abbrev MM (w : World) : Model := model PR w
noncomputable abbrev KK (w : World) : Frag := hd.heap_1 w.params

/-- what stands when the law is called -/
structure BaseOk (w : World) (B : Heap) : Prop where
  K : (KK w).In B
  nl : B.NoLimit
  seer : B.NoSeer
  b : ∃ mb, B.Ns builtinsNs mb ∧ ∀ x : Str, x ≠ "__name__" → mb x = bootBuiltins x
  t1 : B.get? 336 = some (tabObj #[])
  t2 : B.get? 350 = some (tabObj #[])
  bm : ∃ mg bm ob, B.Ns mainGlobals mg ∧ mg "__builtins__" = some (.ref bm) ∧ bm ≠ builtinsNs ∧ B.get? bm = some ob ∧ ob.cls = .type "module" ∧ ob.dict = some builtinsNs ∧ ob.data = .plain
structure Cx where
  w : World
  B : Heap
  ok : BaseOk w B

/-- an address that may change -/
noncomputable def Dyn (C : Cx) (a : Addr) : Prop := C.B.get? a = none ∨ a = 336 ∨ a = 350

/-- what stood stands still -/
noncomputable def Gd (C : Cx) (h : Heap) : Prop := ∀ b o, C.B.get? b = some o → b ≠ 336 → b ≠ 350 → h.get? b = some o

theorem ns_at {h h' : Heap} {a : Addr} {m} (n : h.Ns a m) (k : ∀ o, h.get? a = some o → h'.get? a = some o) : h'.Ns a m :=
  let ⟨o, es, ep, e, r⟩ := n; ⟨o, es, ep, k _ e, r⟩
theorem Gd.keeps {C : Cx} {h h' : Heap} (g : Gd C h) (k : ∀ b o, ¬ Dyn C b → h.get? b = some o → h'.get? b = some o) : Gd C h' := fun b o e h1 h2 =>
  k b o (fun d => by rcases d with d | d | d; · rw [d] at e; cases e
                     · exact h1 d
                     · exact h2 d) (g b o e h1 h2)
theorem kk_336 (w : World) : (KK w).lookup 336 = none := by kernel_rfl
theorem kk_350 (w : World) : (KK w).lookup 350 = none := by kernel_rfl
theorem Gd.K {C : Cx} {h : Heap} (g : Gd C h) : (KK C.w).In h := fun b o e =>
  g b o (C.ok.K b o e) (by rintro rfl; rw [kk_336] at e; cases e) (by rintro rfl; rw [kk_350] at e; cases e)
theorem Gd.ns {C : Cx} {h : Heap} (g : Gd C h) {a : Addr} {m} (n : C.B.Ns a m) (h1 : a ≠ 336) (h2 : a ≠ 350) : h.Ns a m := ns_at n fun o e => g _ _ e h1 h2
theorem Gd.nl {C : Cx} {h : Heap} (g : Gd C h) : h.NoLimit := by
  obtain ⟨mc, n, hn⟩ := C.ok.nl
  exact ⟨mc, g.ns n (by decide) (by decide), hn⟩
theorem Gd.b {C : Cx} {h : Heap} (g : Gd C h) : ∃ mb, h.Ns builtinsNs mb ∧ ∀ x : Str, x ≠ "__name__" → mb x = bootBuiltins x := by
  obtain ⟨mb, n, hn⟩ := C.ok.b
  exact ⟨mb, g.ns n (by decide) (by decide), hn⟩
theorem Gd.seer {C : Cx} {h : Heap} (g : Gd C h) : h.NoSeer where
  statics := let ⟨mc, a, b⟩ := C.ok.seer.statics; ⟨mc, g.ns a (by decide) (by decide), b⟩
  mods := let ⟨mc, a, b⟩ := C.ok.seer.mods; ⟨mc, g.ns a (by decide) (by decide), b⟩
  imp := g.b
  main := by
    obtain ⟨mg, bm, ob, a, b, c, d, e⟩ := C.ok.seer.main
    refine ⟨mg, bm, ob, g.ns a (by decide) (by decide), b, g _ _ c ?_ ?_, d, e⟩
    · rintro rfl; rw [C.ok.t1] at c; cases c; cases d
    · rintro rfl; rw [C.ok.t2] at c; cases c; cases d
theorem Gd.bm {C : Cx} {h : Heap} (g : Gd C h) : ∃ mg bm ob, h.Ns mainGlobals mg ∧ mg "__builtins__" = some (.ref bm) ∧ bm ≠ builtinsNs ∧ h.get? bm = some ob ∧ ob.cls = .type "module" ∧ ob.dict = some builtinsNs ∧ ob.data = .plain := by
  obtain ⟨mg, bm, ob, a, b, b', c, d, e, f⟩ := C.ok.bm
  refine ⟨mg, bm, ob, g.ns a (by decide) (by decide), b, b', g _ _ c ?_ ?_, d, e, f⟩
  · rintro rfl; rw [C.ok.t1] at c; cases c; cases d
  · rintro rfl; rw [C.ok.t2] at c; cases c; cases d
theorem Gd.dyn {C : Cx} {h : Heap} (g : Gd C h) {a : Addr} (ha : h.get? a = none) : Dyn C a := by
  cases e : C.B.get? a with
  | none => exact .inl e
  | some o =>
    by_cases h1 : a = 336
    · exact .inr (.inl h1)
    · by_cases h2 : a = 350
      · exact .inr (.inr h2)
      · rw [g a o e h1 h2] at ha; cases ha
theorem in3 {i : Nat} (h : i < 3) : i = 0 ∨ i = 1 ∨ i = 2 := (by decide : ∀ i, i < 3 → i = 0 ∨ i = 1 ∨ i = 2) i h
theorem in4 {i : Nat} (h : i < 4) : i = 0 ∨ i = 1 ∨ i = 2 ∨ i = 3 := (by decide : ∀ i, i < 4 → i = 0 ∨ i = 1 ∨ i = 2 ∨ i = 3) i h
theorem in5 {i : Nat} (h : i < 5) : i = 0 ∨ i = 1 ∨ i = 2 ∨ i = 3 ∨ i = 4 := (by decide : ∀ i, i < 5 → i = 0 ∨ i = 1 ∨ i = 2 ∨ i = 3 ∨ i = 4) i h
theorem in6 {i : Nat} (h : i < 6) : i = 0 ∨ i = 1 ∨ i = 2 ∨ i = 3 ∨ i = 4 ∨ i = 5 := (by decide : ∀ i, i < 6 → i = 0 ∨ i = 1 ∨ i = 2 ∨ i = 3 ∨ i = 4 ∨ i = 5) i h
theorem in8 {i : Nat} (h : i < 8) : i = 0 ∨ i = 1 ∨ i = 2 ∨ i = 3 ∨ i = 4 ∨ i = 5 ∨ i = 6 ∨ i = 7 := (by decide : ∀ i, i < 8 → i = 0 ∨ i = 1 ∨ i = 2 ∨ i = 3 ∨ i = 4 ∨ i = 5 ∨ i = 6 ∨ i = 7) i h
theorem on7 {i : Nat} (h : 1 ≤ i) (h' : i ≤ 7) : i = 1 ∨ i = 2 ∨ i = 3 ∨ i = 4 ∨ i = 5 ∨ i = 6 ∨ i = 7 := (in8 (Nat.lt_succ_of_le h')).resolve_left (fun e => absurd h (by rw [e]; decide))
theorem on6 {i : Int} (h : 1 ≤ i) (h' : i ≤ 6) : i = 1 ∨ i = 2 ∨ i = 3 ∨ i = 4 ∨ i = 5 ∨ i = 6 := by
  obtain ⟨k, rfl⟩ := Int.eq_ofNat_of_zero_le (Int.le_trans (by decide) h)
  exact (by decide : ∀ k : Nat, k < 7 → 1 ≤ k → (k : Int) = 1 ∨ (k : Int) = 2 ∨ (k : Int) = 3 ∨ (k : Int) = 4 ∨ (k : Int) = 5 ∨ (k : Int) = 6) k (Nat.lt_succ_of_le (Int.ofNat_le.mp h')) (Int.ofNat_le.mp h)
theorem sum_le {c : Nat} : ∀ (res : List (List Nat)), (∀ r ∈ res, r.length ≤ c) → (res.map (·.length)).sum ≤ res.length * c
  | [], _ => Nat.zero_le _
  | a :: r, h => by
    rw [List.map_cons, List.sum_cons, List.length_cons, Nat.succ_mul, Nat.add_comm]
    exact Nat.add_le_add (sum_le r fun y hy => h y (.tail _ hy)) (h a (.head _))
structure Ext (W : List Addr) (s s' : Shared) : Prop where
  keep : ∀ b o, b ∉ W → s.heap.get? b = some o → s'.heap.get? b = some o
  gens : ∀ (g : Nat) gs, s.gens[g]? = some gs → s'.gens[g]? = some gs
  bare : AllBare s.gens → AllBare s'.gens
  os : s'.os = s.os
theorem Ext.refl (W : List Addr) (s : Shared) : Ext W s s := ⟨fun _ _ _ e => e, fun _ _ e => e, fun h => h, rfl⟩
theorem Ext.mono {W W' : List Addr} {s s' : Shared} (x : Ext W s s') (h : ∀ a ∈ W, a ∈ W') : Ext W' s s' :=
  ⟨fun b o hb e => x.keep b o (fun q => hb (h b q)) e, x.gens, x.bare, x.os⟩
theorem Ext.trans {W : List Addr} {s₁ s₂ s₃ : Shared} (x : Ext W s₁ s₂) (y : Ext W s₂ s₃) : Ext W s₁ s₃ :=
  ⟨fun b o hb e => y.keep b o hb (x.keep b o hb e), fun g gs e => y.gens g gs (x.gens g gs e), fun h => y.bare (x.bare h), y.os.trans x.os⟩

inductive Bnd where
  | loc (v : Option Value)
  | glo (v : Value)
  | cel (a : Addr)
  | unk

noncomputable def GloIs (w : World) (x : Str) (v : Value) : Prop :=
  nsIn (KK w) mainGlobals x = some (some v) ∨ (nsIn (KK w) mainGlobals x = some none ∧ bootBuiltins x = some v ∧ x ≠ "__name__")

noncomputable def Bnd.Ok (C : Cx) (env : Env) (mm : Str → Option Value) (x : Str) : Bnd → Prop
  | .loc v => env.kindOf x = some .local ∧ mm x = v
  | .glo v => env.kindOf x = some .globalImplicit ∧ GloIs C.w x v
  | .cel c => (env.kindOf x = some .cell ∨ env.kindOf x = some .free) ∧ env.cells.lookup x = some c
  | .unk => True

structure St (C : Cx) (s₀ : Shared) (W : List Addr) (env : Env) (G : List (Nat × GenState)) (s : Shared) (m : List (Str × Bnd)) (n : List (Addr × Obj)) : Prop where
  g0 : Gd C s₀.heap
  x : Ext W s₀ s
  dyn : ∀ a ∈ W, Dyn C a
  fn : env.scope.kind = .function
  glob : env.globals = mainGlobals
  bui : env.builtins = builtinsNs
  ns : ∃ mm, s.heap.Ns env.locals mm ∧ ∀ p ∈ m, p.2.Ok C env mm p.1
  hL : env.locals ∈ W ∨ s₀.heap.get? env.locals = none
  nd : (m.map (·.1)).Nodup
  nw : ∀ p ∈ n, s.heap.get? p.1 = some p.2 ∧ p.1 ≠ env.locals ∧ (p.1 ∈ W ∨ s₀.heap.get? p.1 = none)
  na : (n.map (·.1)).Nodup
  gn : ∀ p ∈ G, s.gens[p.1]? = some p.2 ∧ s₀.gens[p.1]? = none

inductive Upd {α β : Type} (k : α) (v : β) : List (α × β) → List (α × β) → Prop
  | head {u : β} {r} : Upd k v ((k, u) :: r) ((k, v) :: r)
  | tail {p : α × β} {r r'} : Upd k v r r' → Upd k v (p :: r) (p :: r')
theorem at1 {α : Type} {a x : α} {l : List α} : x ∈ a :: x :: l := by simp
theorem at2 {α : Type} {a b x : α} {l : List α} : x ∈ a :: b :: x :: l := by simp
theorem at3 {α : Type} {a b c x : α} {l : List α} : x ∈ a :: b :: c :: x :: l := by simp
theorem at4 {α : Type} {a b c d x : α} {l : List α} : x ∈ a :: b :: c :: d :: x :: l := by simp
theorem at5 {α : Type} {a b c d e x : α} {l : List α} : x ∈ a :: b :: c :: d :: e :: x :: l := by simp
theorem at6 {α : Type} {a b c d e f x : α} {l : List α} : x ∈ a :: b :: c :: d :: e :: f :: x :: l := by simp
theorem at7 {α : Type} {a b c d e f g x : α} {l : List α} : x ∈ a :: b :: c :: d :: e :: f :: g :: x :: l := by simp
theorem mem8 {α : Type} {a b c d e f g h x : α} {l : List α} (hx : x ∈ l) : x ∈ a :: b :: c :: d :: e :: f :: g :: h :: l := by simp only [List.mem_cons, hx, or_true]
theorem upd1 {α β : Type} {x : α} {v u : β} {a : α × β} {l : List (α × β)} : Upd x v (a :: (x, u) :: l) (a :: (x, v) :: l) := .tail .head
theorem upd2 {α β : Type} {x : α} {v u : β} {a b : α × β} {l : List (α × β)} : Upd x v (a :: b :: (x, u) :: l) (a :: b :: (x, v) :: l) := .tail (.tail .head)
theorem upd3 {α β : Type} {x : α} {v u : β} {a b c : α × β} {l : List (α × β)} : Upd x v (a :: b :: c :: (x, u) :: l) (a :: b :: c :: (x, v) :: l) := .tail (.tail (.tail .head))
theorem upd4 {α β : Type} {x : α} {v u : β} {a b c d : α × β} {l : List (α × β)} : Upd x v (a :: b :: c :: d :: (x, u) :: l) (a :: b :: c :: d :: (x, v) :: l) := .tail (.tail (.tail (.tail .head)))
theorem upd5 {α β : Type} {x : α} {v u : β} {a b c d e : α × β} {l : List (α × β)} : Upd x v (a :: b :: c :: d :: e :: (x, u) :: l) (a :: b :: c :: d :: e :: (x, v) :: l) := .tail (.tail (.tail (.tail (.tail .head))))
theorem upd6 {α β : Type} {x : α} {v u : β} {a b c d e f : α × β} {l : List (α × β)} : Upd x v (a :: b :: c :: d :: e :: f :: (x, u) :: l) (a :: b :: c :: d :: e :: f :: (x, v) :: l) := .tail (.tail (.tail (.tail (.tail (.tail .head)))))
theorem upd7 {α β : Type} {x : α} {v u : β} {a b c d e f g : α × β} {l : List (α × β)} : Upd x v (a :: b :: c :: d :: e :: f :: g :: (x, u) :: l) (a :: b :: c :: d :: e :: f :: g :: (x, v) :: l) := .tail (.tail (.tail (.tail (.tail (.tail (.tail .head))))))
theorem upd8 {α β : Type} {x : α} {v : β} {a b c d e f g h : α × β} {l l' : List (α × β)} (U : Upd x v l l') : Upd x v (a :: b :: c :: d :: e :: f :: g :: h :: l) (a :: b :: c :: d :: e :: f :: g :: h :: l') := .tail (.tail (.tail (.tail (.tail (.tail (.tail (.tail U)))))))
theorem Upd.app {α β : Type} {k : α} {v : β} {l r r' : List (α × β)} (h : Upd k v r r') : Upd k v (l ++ r) (l ++ r') := by
  induction l with
  | nil => exact h
  | cons p l ih => exact .tail ih
theorem Upd.keys {α β : Type} {k : α} {v : β} {l l' : List (α × β)} (h : Upd k v l l') : l'.map (·.1) = l.map (·.1) := by
  induction h with
  | head => rfl
  | tail _ ih => simp only [List.map_cons, ih]
theorem Upd.key_mem {α β : Type} {k : α} {v : β} {l l' : List (α × β)} (h : Upd k v l l') : k ∈ l.map (·.1) := by
  induction h with
  | head => exact List.mem_cons_self
  | tail _ ih => exact List.mem_cons_of_mem _ ih
theorem Upd.old {α β : Type} {k : α} {v : β} {l l' : List (α × β)} (h : Upd k v l l') (nd : (l.map (·.1)).Nodup) : ∀ p ∈ l', (p.1 = k ∧ p.2 = v) ∨ (p.1 ≠ k ∧ p ∈ l) := by
  induction h with
  | @head u r =>
    intro p hp
    rw [List.map_cons, List.nodup_cons] at nd
    rcases List.mem_cons.mp hp with rfl | hp
    · exact .inl ⟨rfl, rfl⟩
    · exact .inr ⟨fun e => nd.1 (e ▸ List.mem_map_of_mem (f := (·.1)) hp), List.mem_cons_of_mem _ hp⟩
  | @tail q r r' hr ih =>
    intro p hp
    rw [List.map_cons, List.nodup_cons] at nd
    rcases List.mem_cons.mp hp with rfl | hp
    · exact .inr ⟨fun e => nd.1 (e ▸ hr.key_mem), List.mem_cons_self⟩
    · rcases ih nd.2 p hp with h | h
      · exact .inl h
      · exact .inr ⟨h.1, List.mem_cons_of_mem _ h.2⟩

section
variable {C : Cx} {s₀ s : Shared} {W : List Addr} {env : Env} {G : List (Nat × GenState)} {m m' : List (Str × Bnd)} {n n' : List (Addr × Obj)}

theorem St.get (D : St C s₀ W env G s m n) {a : Addr} {o : Obj} (h : (a, o) ∈ n) : s.heap.get? a = some o := (D.nw _ h).1
theorem St.g (D : St C s₀ W env G s m n) : Gd C s.heap := D.g0.keeps fun b o nd e => D.x.keep b o (fun q => nd (D.dyn b q)) e
theorem St.nolim (D : St C s₀ W env G s m n) : s.heap.NoLimit := D.g.nl

theorem St.tok (D : St C s₀ W env G s m n) (d : Drawn) (t : Nat) : St C s₀ W env G ⟨s.heap, s.gens, d, t, s.os⟩ m n :=
  ⟨D.g0, ⟨D.x.keep, D.x.gens, D.x.bare, D.x.os⟩, D.dyn, D.fn, D.glob, D.bui, D.ns, D.hL, D.nd, D.nw, D.na, D.gn⟩

/-- one object of the ledger turned -/
theorem St.upd (D : St C s₀ W env G s m n) {a : Addr} {o' : Obj} {h' : Heap} (d : Drawn) (t : Nat) (U : Upd a o' n n') (hs : Heap.SameBut a s.heap h') (ho : h'.get? a = some o') :
    St C s₀ W env G ⟨h', s.gens, d, t, s.os⟩ m n' := by
  obtain ⟨p, hp, hpa⟩ := List.mem_map.mp U.key_mem
  subst hpa
  have A := D.nw p hp
  refine ⟨D.g0, ⟨fun b o hb e => ?_, D.x.gens, D.x.bare, D.x.os⟩,
    D.dyn, D.fn, D.glob, D.bui, ?_, D.hL, D.nd, fun q hq => ?_, by rw [U.keys]; exact D.na, D.gn⟩
  · refine (hs.2 b fun q => ?_).trans (D.x.keep b o hb e)
    rcases A.2.2 with h | h
    · exact hb (q ▸ h)
    · rw [q, h] at e; cases e
  · obtain ⟨mm, hm, hok⟩ := D.ns
    exact ⟨mm, hm.sameBut hs (Ne.symm A.2.1), hok⟩
  · rcases U.old D.na q hq with ⟨e1, e2⟩ | ⟨e1, e2⟩
    · rw [e1, e2]; exact ⟨ho, A.2⟩
    · exact ⟨(hs.2 _ e1).trans (D.nw q e2).1, (D.nw q e2).2⟩

theorem St.locLt (D : St C s₀ W env G s m n) : env.locals < s.heap.objs.size := by obtain ⟨mm, hm, _⟩ := D.ns; exact hm.lt
theorem St.newAt (D : St C s₀ W env G s m n) {a : Addr} (ha : s.heap.get? a = none) : a ∈ W ∨ s₀.heap.get? a = none := by
  by_cases hW : a ∈ W
  · exact .inl hW
  · refine .inr ?_
    cases e : s₀.heap.get? a with
    | none => rfl
    | some o => rw [D.x.keep a o hW e] at ha; cases ha
theorem get_size (h : Heap) : h.get? h.objs.size = none := by
  cases e : h.get? h.objs.size with
  | none => rfl
  | some o => exact absurd (Heap.lt_size e) (Nat.lt_irrefl _)

/-- all stands, and one object more -/
theorem St.more (D : St C s₀ W env G s m n) {a : Addr} {o : Obj} {h' : Heap} (d : Drawn) (t : Nat) (hk : ∀ b o, s.heap.get? b = some o → h'.get? b = some o) (ha : s.heap.get? a = none) (ho : h'.get? a = some o) :
    St C s₀ W env G ⟨h', s.gens, d, t, s.os⟩ m ((a, o) :: n) := by
  refine ⟨D.g0, ⟨fun b o hb e => hk _ _ (D.x.keep b o hb e), D.x.gens, D.x.bare, D.x.os⟩,
    D.dyn, D.fn, D.glob, D.bui, ?_, D.hL, D.nd, fun q hq => ?_, ?_, D.gn⟩
  · obtain ⟨mm, hm, hok⟩ := D.ns
    exact ⟨mm, hm.keeps hk, hok⟩
  · rcases List.mem_cons.mp hq with rfl | hq
    · refine ⟨ho, ?_, D.newAt ha⟩
      rintro rfl
      obtain ⟨mm, ⟨o, es, ep, e, r⟩, _⟩ := D.ns
      rw [e] at ha; cases ha
    · exact ⟨hk _ _ (D.nw q hq).1, (D.nw q hq).2⟩
  · rw [List.map_cons, List.nodup_cons]
    refine ⟨fun hm => ?_, D.na⟩
    obtain ⟨p, hp, e⟩ := List.mem_map.mp hm
    have := (D.nw p hp).1
    rw [e, ha] at this; cases this
theorem St.keeps (D : St C s₀ W env G s m n) {h' : Heap} (d : Drawn) (t : Nat) (hk : ∀ b o, s.heap.get? b = some o → h'.get? b = some o) :
    St C s₀ W env G ⟨h', s.gens, d, t, s.os⟩ m n := by
  refine ⟨D.g0, ⟨fun b o hb e => hk _ _ (D.x.keep b o hb e), D.x.gens, D.x.bare, D.x.os⟩,
    D.dyn, D.fn, D.glob, D.bui, ?_, D.hL, D.nd, fun q hq => ⟨hk _ _ (D.nw q hq).1, (D.nw q hq).2⟩, D.na, D.gn⟩
  obtain ⟨mm, hm, hok⟩ := D.ns
  exact ⟨mm, hm.keeps hk, hok⟩
/-- a new object -/
theorem St.push (D : St C s₀ W env G s m n) (o : Obj) (d : Drawn) (t : Nat) (hf : o.isFreed = false) :
    St C s₀ W env G ⟨s.heap.push o, s.gens, d, t, s.os⟩ m ((s.heap.objs.size, o) :: n) :=
  D.more d t (fun b o' e => Heap.get?_push_of_some _ e) (get_size _) (Heap.get?_push_size _ hf)

/-- a local stored -/
theorem St.store (D : St C s₀ W env G s m n) {x : Str} {v : Option Value} {h' : Heap} {mm : Str → Option Value} (d : Drawn) (t : Nat) (U : Upd x (Bnd.loc v) m m') (hk : env.kindOf x = some .local)
    (hm : ∀ p ∈ m, p.2.Ok C env mm p.1) (hn : h'.Ns env.locals (fun y => if y = x then v else mm y)) (hs : Heap.SameBut env.locals s.heap h') :
    St C s₀ W env G ⟨h', s.gens, d, t, s.os⟩ m' n := by
  refine ⟨D.g0, ⟨fun b o hb e => ?_, D.x.gens, D.x.bare, D.x.os⟩,
    D.dyn, D.fn, D.glob, D.bui, ⟨_, hn, fun p hp => ?_⟩, D.hL, by rw [U.keys]; exact D.nd, fun q hq => ?_, D.na, D.gn⟩
  · refine (hs.2 b fun q => ?_).trans (D.x.keep b o hb e)
    rcases D.hL with h | h
    · exact hb (q ▸ h)
    · rw [q, h] at e; cases e
  · rcases U.old D.nd p hp with ⟨e1, e2⟩ | ⟨e1, e2⟩
    · rw [e1, e2]; exact ⟨hk, by simp⟩
    · have := hm p e2
      cases hb : p.2 with
      | loc u => rw [hb] at this; exact ⟨this.1, (if_neg e1).trans this.2⟩
      | glo u => rw [hb] at this; exact this
      | cel c => rw [hb] at this; exact this
      | unk => trivial
  · exact ⟨(hs.2 _ (D.nw q hq).2.1).trans (D.nw q hq).1, (D.nw q hq).2⟩

/-- objects forgotten -/
theorem St.sub (D : St C s₀ W env G s m n) (h : n'.Sublist n) : St C s₀ W env G s m n' :=
  ⟨D.g0, D.x, D.dyn, D.fn, D.glob, D.bui, D.ns, D.hL, D.nd, fun p hp => D.nw p (h.subset hp), D.na.sublist (h.map _), D.gn⟩
theorem St.perm (D : St C s₀ W env G s m n) (h : n'.Perm n) : St C s₀ W env G s m n' :=
  ⟨D.g0, D.x, D.dyn, D.fn, D.glob, D.bui, D.ns, D.hL, D.nd, fun p hp => D.nw p (h.mem_iff.mp hp), (h.map _).nodup_iff.mpr D.na, D.gn⟩

/-- behind a call that turns nothing of ours -/
theorem St.ext (D : St C s₀ W env G s m n) {s' : Shared} (x : Ext [] s s') : St C s₀ W env G s' m n := by
  refine ⟨D.g0, D.x.trans (x.mono fun _ h => (nomatch h)), D.dyn, D.fn, D.glob, D.bui, ?_, D.hL, D.nd, fun p hp => ⟨x.keep _ _ (fun h => nomatch h) (D.nw p hp).1, (D.nw p hp).2⟩, D.na, fun p hp => ⟨x.gens _ _ (D.gn p hp).1, (D.gn p hp).2⟩⟩
  obtain ⟨mm, hm, hok⟩ := D.ns
  exact ⟨mm, hm.keeps fun b o e => x.keep b o (fun h => nomatch h) e, hok⟩
end
section
variable {C : Cx} {s₀ : Shared} {W : List Addr} {env : Env} {G : List (Nat × GenState)} {A : Around} {E : Value → Shared → Prop} {m m' : List (Str × Bnd)} {n n' : List (Addr × Obj)}

/-! names, constants -/
theorem t_int {i k pos} {Q : Value → Shared → Prop} (h : ∀ (t : Tok), ∀ s, St C s₀ W env G s m n → Q (.int i t) s) :
    ∀ s, St C s₀ W env G s m n → wpAny (MM C.w) A (eval (.Constant (.int i) k pos) env) Q E s := fun s D => wpAny_Constant_int (h _ _ (D.tok _ _))
theorem t_str {x : Str} {k pos} {Q : Value → Shared → Prop} (h : ∀ (t : Tok), ∀ s, St C s₀ W env G s m n → Q (.str x t) s) :
    ∀ s, St C s₀ W env G s m n → wpAny (MM C.w) A (eval (.Constant (.str x) k pos) env) Q E s := fun s D => wpAny_Constant_str (h _ _ (D.tok _ _))
theorem t_none {k pos} {Q : Value → Shared → Prop} (h : ∀ s, St C s₀ W env G s m n → Q .none s) :
    ∀ s, St C s₀ W env G s m n → wpAny (MM C.w) A (eval (.Constant .none k pos) env) Q E s := fun s D => wpAny_Constant_none (h _ D)
theorem t_bool {b : Bool} {k pos} {Q : Value → Shared → Prop} (h : ∀ s, St C s₀ W env G s m n → Q (.bool b) s) :
    ∀ s, St C s₀ W env G s m n → wpAny (MM C.w) A (eval (.Constant (.bool b) k pos) env) Q E s := fun s D => wpAny_Constant_bool (h _ D)
theorem t_loc {x : Str} {pos : Pos} {v : Value} {Q : Value → Shared → Prop} (hx : (x, Bnd.loc (some v)) ∈ m) (h : ∀ s, St C s₀ W env G s m n → Q v s) (hd : (x == ("__debug__" : Str)) = false := by with_unfolding_all decide) :
    ∀ s, St C s₀ W env G s m n → wpAny (MM C.w) A (eval (.Name x pos) env) Q E s := fun s D => by
  obtain ⟨mm, hm, hok⟩ := D.ns
  have := hok _ hx
  exact wpAny_Name (wpAny_loadName_local D.fn this.1 hm this.2 (h s D)) hd
theorem t_ldl {x : Str} {v : Value} {Q : Value → Shared → Prop} (hx : (x, Bnd.loc (some v)) ∈ m) (h : ∀ s, St C s₀ W env G s m n → Q v s) :
    ∀ s, St C s₀ W env G s m n → wpAny (MM C.w) A (loadName env x) Q E s := fun s D => by
  obtain ⟨mm, hm, hok⟩ := D.ns
  have := hok _ hx
  exact wpAny_loadName_local D.fn this.1 hm this.2 (h s D)
theorem nsIn_ns {w : World} {h : Heap} (X : (KK w).In h) {x : Str} {r : Option Value} (e : nsIn (KK w) mainGlobals x = some r) : ∃ mg, h.Ns mainGlobals mg ∧ mg x = r := by
  unfold nsIn at e
  split at e
  · rename_i c d es ep sl q
    have ho := X _ _ q
    refine ⟨nsFind es, ⟨_, es, ep, ho, rfl, ?_, fun _ => rfl⟩, ?_⟩
    · have hk : ((KK w).lookup mainGlobals).any (fun o => match o.data with | .dict es _ => es.all (fun e => match e.key with | .str _ _ => true | _ => false) | _ => false) = true := by kernel_rfl
      rw [q] at hk
      intro e' he'
      have := Array.all_eq_true.mp hk
      obtain ⟨i, hi, rfl⟩ := Array.mem_iff_getElem.mp he'
      have := this i hi
      cases hkey : es[i].key <;> rw [hkey] at this <;> first | exact ⟨_, _, rfl⟩ | simp at this
    · unfold nsFind findBy
      split at e
      · rename_i en he
        cases e
        rw [← Array.find?_toList, he]; rfl
      · rename_i he
        split at e
        · cases e
        · cases e
          rw [← Array.find?_toList, he]; rfl
  · cases e
theorem t_glo {x : Str} {pos : Pos} {v : Value} {Q : Value → Shared → Prop} (hx : (x, Bnd.glo v) ∈ m) (h : ∀ s, St C s₀ W env G s m n → Q v s) (hd : (x == ("__debug__" : Str)) = false := by with_unfolding_all decide) :
    ∀ s, St C s₀ W env G s m n → wpAny (MM C.w) A (eval (.Name x pos) env) Q E s := fun s D => by
  obtain ⟨mm, hm, hok⟩ := D.ns
  obtain ⟨hk, hg⟩ := hok _ hx
  rcases hg with e | ⟨e, hb, hn⟩
  · obtain ⟨mg, hmg, hv⟩ := nsIn_ns D.g.K e
    exact Name_function_global D.fn hk (loadGlobal_global (by rw [D.glob]; exact hmg) hv (h s D)) hd
  · obtain ⟨mg, hmg, hv⟩ := nsIn_ns D.g.K e
    obtain ⟨mb, hmb, hb'⟩ := D.g.b
    exact Name_function_global D.fn hk (loadGlobal_builtin (by rw [D.glob]; exact hmg) hv (by rw [D.bui]; exact hmb) ((hb' x hn).trans hb) (h s D)) hd
/-- what a cell holds -/
noncomputable def cellObj (v : Option Value) : Obj := { cls := .type "cell", data := .cell v }
theorem t_cel {x : Str} {pos : Pos} {c : Addr} {v : Value} {Q : Value → Shared → Prop} (hx : (x, Bnd.cel c) ∈ m) (hc : (c, cellObj (some v)) ∈ n) (h : ∀ s, St C s₀ W env G s m n → Q v s)
    (hd : (x == ("__debug__" : Str)) = false := by with_unfolding_all decide) (hcd : (x == ("__classdict__" : Str)) = false := by with_unfolding_all decide) :
    ∀ s, St C s₀ W env G s m n → wpAny (MM C.w) A (eval (.Name x pos) env) Q E s := fun s D => by
  obtain ⟨mm, hm, hok⟩ := D.ns
  obtain ⟨hk | hk, hl⟩ := hok _ hx
  · exact wpAny_Name (wpAny_loadName_cell D.fn hk hl ⟨_, D.get hc, rfl⟩ (h s D)) hd
  · exact wpAny_Name (wpAny_loadName_free D.fn hk hl ⟨_, D.get hc, rfl⟩ (h s D) hcd) hd
theorem t_stl {x : Str} {v : Value} {Q : Unit → Shared → Prop} (U : Upd x (Bnd.loc (some v)) m m') (h : ∀ s, St C s₀ W env G s m' n → Q () s) (hk : ∃ u, (x, Bnd.loc u) ∈ m) :
    ∀ s, St C s₀ W env G s m n → wpAny (MM C.w) A (storeName env x v) Q E s := fun s D => by
  obtain ⟨mm, hm, hok⟩ := D.ns
  obtain ⟨u, hu⟩ := hk
  have hkl := (hok _ hu).1
  exact wpAny_storeName_local hkl hm (fun h' hn hs => h _ (D.store _ _ U hkl hok hn hs)) (by rw [D.fn]; rfl)
theorem wpAny_storeName_cell' {M : Model} {s : Shared} {env : Env} {name : Str} {c : Addr} {v₀ : Option Value} {v : Value} {Q : Unit → Shared → Prop} (hk : env.scope.kind = .function) (hl : env.kindOf name = some .cell)
    (hc : env.cells.lookup name = some c) (hv : s.heap.get? c = some (cellObj v₀))
    (h : ∀ h', h'.get? c = some (cellObj (some v)) → Heap.SameBut c s.heap h' → Q () { s with heap := h' }) : wpAny M A (storeName env name v) Q E s := by
  unfold storeName
  simp only [hl, hk]
  refine wpAny_bind (wpAny_cellOf hc ?_)
  unfold cellSet
  refine wpAny_bind (wpAny_load hv ?_)
  exact wpAny_update hv (h _ (Heap.get?_update_self _ hv rfl) (Heap.SameBut.update ..))
theorem t_stc {x : Str} {c : Addr} {v : Value} {Q : Unit → Shared → Prop} (hx : (x, Bnd.cel c) ∈ m) (U : Upd c (cellObj (some v)) n n') (hc : ∃ u, (c, cellObj u) ∈ n) (hk : env.kindOf x = some .cell) (h : ∀ s, St C s₀ W env G s m n' → Q () s) :
    ∀ s, St C s₀ W env G s m n → wpAny (MM C.w) A (storeName env x v) Q E s := fun s D => by
  obtain ⟨mm, hm, hok⟩ := D.ns
  obtain ⟨_, hl⟩ := hok _ hx
  obtain ⟨u, hu⟩ := hc
  refine wpAny_storeName_cell' D.fn hk hl (D.get hu) fun h' ho hs => h _ (D.upd s.drawn s.toks U hs ho)
end
/-! what is asked behind a part of an expression or a statement, without binders of its own -/
noncomputable abbrev KN (Q : Flow → Shared → Prop) : Unit → Shared → Prop := fun _ => Q .next
noncomputable abbrev KR (Q : Flow → Shared → Prop) : Value → Shared → Prop := fun v => Q (.ret v)
noncomputable abbrev KX (Q : Flow → Shared → Prop) : Value → Shared → Prop := fun v s => match v with | .ref _ => False | _ => Q .next s
noncomputable abbrev KE (C : Cx) (A : Around) (env : Env) (E : Value → Shared → Prop) (r : Expr) (K : Value → Value → Shared → Prop) : Value → Shared → Prop := fun a s => wpAny (MM C.w) A (eval r env) (K a) E s
noncomputable abbrev KBin (C : Cx) (A : Around) (E : Value → Shared → Prop) (op : Operator) (Q : Value → Shared → Prop) : Value → Value → Shared → Prop := fun a b s => wpAny (MM C.w) A (binaryOp op a b) Q E s
noncomputable abbrev KCmp (C : Cx) (A : Around) (E : Value → Shared → Prop) (op : CmpOp) (Q : Value → Shared → Prop) : Value → Value → Shared → Prop := fun a b s => wpAny (MM C.w) A (compareOp op a b) Q E s
noncomputable abbrev KItem (C : Cx) (A : Around) (E : Value → Shared → Prop) (Q : Value → Shared → Prop) : Value → Value → Shared → Prop := fun o i s => ItemOn (MM C.w) A E o i Q s
noncomputable abbrev KTr (C : Cx) (A : Around) (E : Value → Shared → Prop) (Q : Bool → Shared → Prop) : Value → Shared → Prop := fun c s => wpAny (MM C.w) A (truthy c) Q E s
noncomputable abbrev KUn (C : Cx) (A : Around) (E : Value → Shared → Prop) (op : UnaryOp) (Q : Value → Shared → Prop) : Value → Shared → Prop := fun v s => wpAny (MM C.w) A (unaryOp op v) Q E s
noncomputable abbrev KS (C : Cx) (A : Around) (env : Env) (E : Value → Shared → Prop) (x : Str) (Q : Flow → Shared → Prop) : Value → Shared → Prop := fun v s => wpAny (MM C.w) A (storeName env x v) (KN Q) E s
noncomputable abbrev KAs (C : Cx) (A : Around) (env : Env) (E : Value → Shared → Prop) (t : Expr) (Q : Flow → Shared → Prop) : Value → Shared → Prop := fun v s => wpAny (MM C.w) A (assign t env v) (KN Q) E s
noncomputable abbrev KInp (C : Cx) (A : Around) (env : Env) (E : Value → Shared → Prop) (op : Operator) (x : Str) (Q : Flow → Shared → Prop) : Value → Value → Shared → Prop := fun old v s => wpAny (MM C.w) A (inplaceOp op old v) (KS C A env E x Q) E s
noncomputable abbrev KSetA (C : Cx) (A : Around) (E : Value → Shared → Prop) (attr : Str) (Q : Flow → Shared → Prop) : Value → Value → Shared → Prop := fun v ov s => wpAny (MM C.w) A (setAttr ov attr v) (KN Q) E s
noncomputable abbrev KSetJ (C : Cx) (A : Around) (E : Value → Shared → Prop) (Q : Flow → Shared → Prop) : Value → Value → Value → Shared → Prop := fun v ov iv s => wpAny (MM C.w) A (setItem ov iv v) (KN Q) E s
noncomputable abbrev KSetI (C : Cx) (A : Around) (env : Env) (E : Value → Shared → Prop) (i : Expr) (Q : Flow → Shared → Prop) : Value → Value → Shared → Prop := fun v ov s => wpAny (MM C.w) A (eval i env) (KSetJ C A E Q v ov) E s
noncomputable abbrev KIf (C : Cx) (A : Around) (env : Env) (E : Value → Shared → Prop) (body orelse : List Stmt) (Q : Flow → Shared → Prop) : Bool → Shared → Prop := fun b s => if b then wpAny (MM C.w) A (execs body env) Q E s else wpAny (MM C.w) A (execs orelse env) Q E s
noncomputable abbrev KIe (C : Cx) (A : Around) (env : Env) (E : Value → Shared → Prop) (body orelse : Expr) (Q : Value → Shared → Prop) : Bool → Shared → Prop := fun b s => if b then wpAny (MM C.w) A (eval body env) Q E s else wpAny (MM C.w) A (eval orelse env) Q E s
noncomputable abbrev KAnd (C : Cx) (A : Around) (env : Env) (E : Value → Shared → Prop) (y : Expr) (Q : Bool → Shared → Prop) : Bool → Shared → Prop := fun b s => if b then wpAny (MM C.w) A (isTrue y env (eval y env)) Q E s else Q false s
noncomputable abbrev KOr (C : Cx) (A : Around) (env : Env) (E : Value → Shared → Prop) (y : Expr) (Q : Bool → Shared → Prop) : Bool → Shared → Prop := fun b s => if b then Q true s else wpAny (MM C.w) A (isTrue y env (eval y env)) Q E s
noncomputable abbrev KLp (C : Cx) (A : Around) (env : Env) (E : Value → Shared → Prop) (Q : Flow → Shared → Prop) : Result → Shared → Prop := fun r s => match r with | .ok f => Q f s | .error e => cameBackBy (MM C.w) A env E e s
noncomputable abbrev KF2 (C : Cx) (A : Around) (env : Env) (E : Value → Shared → Prop) (target : Expr) (body orelse : List Stmt) (Q : Flow → Shared → Prop) : Value → Shared → Prop := fun it s => codeAny (MM C.w) A (.forLoop target it body orelse env) (KLp C A env E Q) s
noncomputable abbrev KF1 (C : Cx) (A : Around) (env : Env) (E : Value → Shared → Prop) (target : Expr) (body orelse : List Stmt) (Q : Flow → Shared → Prop) : Value → Shared → Prop := fun x s => wpAny (MM C.w) A (pyIter x) (KF2 C A env E target body orelse Q) E s
noncomputable abbrev KI2 (Q : List Value → Shared → Prop) : Value → List Value → Shared → Prop := fun v vs => Q (v :: vs)
noncomputable abbrev KI1 (C : Cx) (A : Around) (env : Env) (E : Value → Shared → Prop) (pos : Pos) (rest : List Expr) (Q : List Value → Shared → Prop) : Value → Shared → Prop := fun v s => wpAny (MM C.w) A (spliced (backTo pos (starEach rest env))) (KI2 Q v) E s
noncomputable abbrev KTp (C : Cx) (A : Around) (E : Value → Shared → Prop) (Q : Value → Shared → Prop) : List Value → Shared → Prop := fun vs s => wpAny (MM C.w) A (newTuple vs) Q E s
noncomputable abbrev KLs (C : Cx) (A : Around) (E : Value → Shared → Prop) (Q : Value → Shared → Prop) : List Value → Shared → Prop := fun vs s => wpAny (MM C.w) A (newList vs) Q E s
noncomputable def KpOk (C : Cx) (f : Value) (h : Heap) : Prop := ∃ k, (k = Keeper.frame ∨ k = Keeper.machine ∨ k = Keeper.boundFrame) ∧ Looks (MM C.w) h (keeperOf f) k
noncomputable abbrev KCn (C : Cx) (A : Around) (env : Env) (E : Value → Shared → Prop) (pos : Pos) (args : List Expr) (Q : Value → Shared → Prop) : Value → Shared → Prop := fun f s => wpAny (MM C.w) A (callWith pos f [] (backTo pos (starEach args env)) []) Q E s
noncomputable abbrev KCk (C : Cx) (A : Around) (env : Env) (E : Value → Shared → Prop) (pos : Pos) (args : List Expr) (kws : List Keyword) (Q : Value → Shared → Prop) : Value → Shared → Prop := fun f s => wpAny (MM C.w) A (callWith pos f [] (backTo pos (starEach args env)) (backToKw pos (keywordEach kws env))) Q E s
noncomputable abbrev KCw (C : Cx) (A : Around) (E : Value → Shared → Prop) (f : Value) (first : List Value) (Q : Value → Shared → Prop) : List Value → Shared → Prop := fun vs s => KpOk C f s.heap ∧ wpAny (MM C.w) A (call f (first ++ vs)) Q E s
noncomputable abbrev KKw2 (C : Cx) (A : Around) (E : Value → Shared → Prop) (f : Value) (first : List Value) (kn : Str) (Q : Value → Shared → Prop) : List Value → Value → Shared → Prop := fun vs v s => KpOk C f s.heap ∧ wpAny (MM C.w) A (call f (first ++ vs) [(kn, v)]) Q E s
noncomputable abbrev KKw (C : Cx) (A : Around) (env : Env) (E : Value → Shared → Prop) (f : Value) (first : List Value) (kn : Str) (kv : Expr) (Q : Value → Shared → Prop) : List Value → Shared → Prop := fun vs s => wpAny (MM C.w) A (eval kv env) (KKw2 C A E f first kn Q vs) E s
noncomputable abbrev KM2 (C : Cx) (A : Around) (env : Env) (E : Value → Shared → Prop) (pos : Pos) (args : List Expr) (Q : Value → Shared → Prop) : Value × List Value → Shared → Prop := fun fx s => wpAny (MM C.w) A (callWith pos fx.1 fx.2 (backTo pos (starEach args env)) []) Q E s
noncomputable abbrev KM2k (C : Cx) (A : Around) (env : Env) (E : Value → Shared → Prop) (pos : Pos) (args : List Expr) (kws : List Keyword) (Q : Value → Shared → Prop) : Value × List Value → Shared → Prop := fun fx s => wpAny (MM C.w) A (callWith pos fx.1 fx.2 (backTo pos (starEach args env)) (backToKw pos (keywordEach kws env))) Q E s
noncomputable abbrev KM1 (C : Cx) (A : Around) (E : Value → Shared → Prop) (name : Str) (pl : Sem Bool) (K : Value × List Value → Shared → Prop) : Value → Shared → Prop := fun ov s => wpAny (MM C.w) A (getMethod ov name pl) K E s
noncomputable abbrev KGa (C : Cx) (A : Around) (E : Value → Shared → Prop) (attr : Str) (Q : Value → Shared → Prop) : Value → Shared → Prop := fun o s => wpAny (MM C.w) A (getAttr o attr true) Q E s
noncomputable abbrev KOd (C : Cx) (A : Around) (E : Value → Shared → Prop) (fs : List (Value → Sem Unit)) (vs : List Value) (Q : Unit → Shared → Prop) : Unit → Shared → Prop := fun _ s => wpAny (MM C.w) A (assignInOrder fs vs) Q E s
noncomputable abbrev KOe (C : Cx) (A : Around) (env : Env) (E : Value → Shared → Prop) (es : List Expr) (vs : List Value) (Q : Unit → Shared → Prop) : Unit → Shared → Prop := fun _ s => wpAny (MM C.w) A (assignInOrder ((assignEach es env).map (·.2)) vs) Q E s
noncomputable abbrev KSv (C : Cx) (A : Around) (env : Env) (E : Value → Shared → Prop) (x : Str) (v : Value) (K : Unit → Shared → Prop) : Unit → Shared → Prop := fun _ s => wpAny (MM C.w) A (storeName env x v) K E s
noncomputable abbrev KS3 (C : Cx) (A : Around) (env : Env) (E : Value → Shared → Prop) (x y z : Str) (Q : Flow → Shared → Prop) : Value → Shared → Prop := fun v s => wpAny (MM C.w) A (storeName env x v) (KSv C A env E y v (KSv C A env E z v (KN Q))) E s
noncomputable abbrev KP1 (C : Cx) (A : Around) (env : Env) (E : Value → Shared → Prop) (x : Option Expr) (K : Value → Value → Shared → Prop) : Value → Shared → Prop := fun o s => wpAny (MM C.w) A (evalPart x env) (K o) E s
noncomputable abbrev KP2 (C : Cx) (A : Around) (env : Env) (E : Value → Shared → Prop) (x : Option Expr) (K : Value → Value → Value → Shared → Prop) : Value → Value → Shared → Prop := fun o l s => wpAny (MM C.w) A (evalPart x env) (K o l) E s
noncomputable abbrev KP3 (C : Cx) (A : Around) (env : Env) (E : Value → Shared → Prop) (x : Option Expr) (K : Value → Value → Value → Value → Shared → Prop) : Value → Value → Value → Shared → Prop := fun o l u s => wpAny (MM C.w) A (evalPart x env) (K o l u) E s
noncomputable def SliceOn (C : Cx) (A : Around) (E : Value → Shared → Prop) (o l u : Value) (Q : Value → Shared → Prop) (s : Shared) : Prop :=
  ItemOn (MM C.w) A E o (.ref s.heap.objs.size) Q { s with heap := s.heap.push { cls := .type "slice", data := .fields #[l, u, .none] } }
noncomputable abbrev KSl (C : Cx) (A : Around) (E : Value → Shared → Prop) (Q : Value → Shared → Prop) : Value → Value → Value → Shared → Prop := fun o l u s => SliceOn C A E o l u Q s
noncomputable abbrev KSt (C : Cx) (A : Around) (E : Value → Shared → Prop) (Q : Value → Shared → Prop) : Value → Value → Value → Value → Shared → Prop := fun o l u k s => ItemOn (MM C.w) A E o (.ref s.heap.objs.size) Q { s with heap := s.heap.push { cls := .type "slice", data := .fields #[l, u, k] } }
noncomputable abbrev KUp2 (C : Cx) (A : Around) (env : Env) (E : Value → Shared → Prop) (names : List Str) (Q : Flow → Shared → Prop) : List Value → Shared → Prop := fun items s => wpAny (MM C.w) A (assignInOrder (names.reverse.map fun n => bindName env n) items.reverse) (KN Q) E s
noncomputable abbrev KUp (C : Cx) (A : Around) (env : Env) (E : Value → Shared → Prop) (names : List Str) (Q : Flow → Shared → Prop) : Value → Shared → Prop := fun v s => wpAny (MM C.w) A (unpackItems v names.length none) (KUp2 C A env E names Q) E s
noncomputable abbrev KNot (Q : Bool → Shared → Prop) : Bool → Shared → Prop := fun b s => Q (!b) s
section
variable {C : Cx} {s₀ : Shared} {W : List Addr} {env : Env} {G : List (Nat × GenState)} {A : Around} {E : Value → Shared → Prop} {m m' : List (Str × Bnd)} {n n' : List (Addr × Obj)}

/-! statements -/
theorem t_nil {Q : Flow → Shared → Prop} (h : ∀ s, St C s₀ W env G s m n → Q .next s) :
    ∀ s, St C s₀ W env G s m n → wpAny (MM C.w) A (execs [] env) Q E s := fun s D => wpAny_execs_nil (h s D)
theorem t_cons {st : Stmt} {rest : List Stmt} {Q : Flow → Shared → Prop}
    (h : ∀ s, St C s₀ W env G s m n → wpAny (MM C.w) A (exec st env) (fun f s' => match f with | .next => wpAny (MM C.w) A (execs rest env) Q E s' | f => Q f s') E s) :
    ∀ s, St C s₀ W env G s m n → wpAny (MM C.w) A (execs (st :: rest) env) Q E s := fun s D => wpAny_execs_cons (h s D)
/-- what is asked behind a statement: the rest of its block, or, where it leaves, what is asked of the block -/
noncomputable def SQ (C : Cx) (A : Around) (env : Env) (E : Value → Shared → Prop) (rest : List Stmt) (Q : Flow → Shared → Prop) : Flow → Shared → Prop := fun f s => match f with
  | .next => wpAny (MM C.w) A (execs rest env) Q E s
  | f => Q f s
theorem t_nextS {rest : List Stmt} {Q : Flow → Shared → Prop} (h : ∀ s, St C s₀ W env G s m n → wpAny (MM C.w) A (execs rest env) Q E s) : ∀ s, St C s₀ W env G s m n → SQ C A env E rest Q .next s := h
theorem t_retS {C' : Cx} {A' : Around} {env' : Env} {E' : Value → Shared → Prop} {rest : List Stmt} {v : Value} {Q : Flow → Shared → Prop} (h : ∀ s, St C s₀ W env G s m n → Q (.ret v) s) : ∀ s, St C s₀ W env G s m n → SQ C' A' env' E' rest Q (.ret v) s := h
theorem t_openR {st : Stmt} {rest : List Stmt} {Q : Flow → Shared → Prop} (h : ∀ R, R = SQ C A env E → ∀ s, St C s₀ W env G s m n → wpAny (MM C.w) A (execs (st :: rest) env) Q E s) :
    ∀ s, St C s₀ W env G s m n → wpAny (MM C.w) A (execs (st :: rest) env) Q E s := h _ rfl
theorem t_consR {R : List Stmt → (Flow → Shared → Prop) → Flow → Shared → Prop} (hR : R = SQ C A env E) {st : Stmt} {rest : List Stmt} {Q : Flow → Shared → Prop}
    (h : ∀ s, St C s₀ W env G s m n → wpAny (MM C.w) A (exec st env) (R rest Q) E s) : ∀ s, St C s₀ W env G s m n → wpAny (MM C.w) A (execs (st :: rest) env) Q E s := by subst hR; exact t_cons h
section
variable {R : List Stmt → (Flow → Shared → Prop) → Flow → Shared → Prop} {C' : Cx} {A' : Around} {env' : Env} {E' : Value → Shared → Prop}
theorem t_nextR (hR : R = SQ C A env E) {rest : List Stmt} {Q : Flow → Shared → Prop} (h : ∀ s, St C s₀ W env G s m n → wpAny (MM C.w) A (execs rest env) Q E s) : ∀ s, St C s₀ W env G s m n → R rest Q .next s := by subst hR; exact h
theorem t_retR (hR : R = SQ C' A' env' E') {rest : List Stmt} {v : Value} {Q : Flow → Shared → Prop} (h : ∀ s, St C s₀ W env G s m n → Q (.ret v) s) : ∀ s, St C s₀ W env G s m n → R rest Q (.ret v) s := by subst hR; exact h
theorem t_brkR (hR : R = SQ C' A' env' E') {rest : List Stmt} {Q : Flow → Shared → Prop} (h : ∀ s, St C s₀ W env G s m n → Q .brk s) : ∀ s, St C s₀ W env G s m n → R rest Q .brk s := by subst hR; exact h
theorem t_contR (hR : R = SQ C' A' env' E') {rest : List Stmt} {Q : Flow → Shared → Prop} (h : ∀ s, St C s₀ W env G s m n → Q .cont s) : ∀ s, St C s₀ W env G s m n → R rest Q .cont s := by subst hR; exact h
end
theorem t_return {e : Expr} {pos : Pos} {Q : Flow → Shared → Prop} (h : ∀ s, St C s₀ W env G s m n → wpAny (MM C.w) A (eval e env) (KR Q) E s) :
    ∀ s, St C s₀ W env G s m n → wpAny (MM C.w) A (exec (.Return (some e) pos) env) Q E s := fun s D => wpAny_Return_some (h s D)
theorem t_if {test : Expr} {body orelse : List Stmt} {pos : Pos} {Q : Flow → Shared → Prop}
    (h : ∀ s, St C s₀ W env G s m n → wpAny (MM C.w) A (isTrue test env (eval test env)) (KIf C A env E body orelse Q) E s) :
    ∀ s, St C s₀ W env G s m n → wpAny (MM C.w) A (exec (.If test body orelse pos) env) Q E s := fun s D => wpAny_If (h s D)
theorem t_ite {P : Prop} [Decidable P] {X Y : Shared → Prop} (h1 : P → ∀ s, St C s₀ W env G s m n → X s) (h2 : ¬ P → ∀ s, St C s₀ W env G s m n → Y s) :
    ∀ s, St C s₀ W env G s m n → (if P then X s else Y s) := fun s D => by
  by_cases hp : P
  · rw [if_pos hp]; exact h1 hp s D
  · rw [if_neg hp]; exact h2 hp s D
theorem t_ife {P : Prop} [Decidable P] {test : Expr} {body orelse : List Stmt} {pos : Pos} {Q : Flow → Shared → Prop} {b : Bool} (hb : b = decide P)
    (h1 : P → ∀ s, St C s₀ W env G s m n → wpAny (MM C.w) A (execs body env) Q E s) (h2 : ¬ P → ∀ s, St C s₀ W env G s m n → wpAny (MM C.w) A (execs orelse env) Q E s) :
    ∀ s, St C s₀ W env G s m n → (if b = true then wpAny (MM C.w) A (execs body env) Q E s else wpAny (MM C.w) A (execs orelse env) Q E s) := fun s D => by
  subst hb
  by_cases hp : P
  · simp only [hp, decide_true, if_true]; exact h1 hp s D
  · simp only [hp, decide_false, Bool.false_eq_true, if_false]; exact h2 hp s D
theorem t_assign {x : Str} {p pos : Pos} {value : Expr} {Q : Flow → Shared → Prop}
    (h : ∀ s, St C s₀ W env G s m n → wpAny (MM C.w) A (eval value env) (KS C A env E x Q) E s)
    (hs : swapsWith value (some (.Name x p)) pos.line env = pure false := by with_unfolding_all rfl) :
    ∀ s, St C s₀ W env G s m n → wpAny (MM C.w) A (exec (.Assign [.Name x p] value pos) env) Q E s := fun s D => wpAny_Assign_Name (h s D) hs
theorem t_assignT {elts : List Expr} {k tpos value pos} {Q : Flow → Shared → Prop}
    (h : ∀ s, St C s₀ W env G s m n → wpAny (MM C.w) A (eval value env) (KAs C A env E (.Tuple elts k tpos) Q) E s)
    (hs : swapsWithSole [.Tuple elts k tpos] value pos.line env = pure false := by with_unfolding_all rfl)
    (hw : swappedStores [.Tuple elts k tpos] value env = pure none := by with_unfolding_all rfl) :
    ∀ s, St C s₀ W env G s m n → wpAny (MM C.w) A (exec (.Assign [.Tuple elts k tpos] value pos) env) Q E s := fun s D => Assign_Tuple (h s D) hs hw
theorem t_aug {x : Str} {p pos : Pos} {op : Operator} {value : Expr} {Q : Flow → Shared → Prop}
    (h : ∀ s, St C s₀ W env G s m n → wpAny (MM C.w) A (loadName env x) (KE C A env E value (KInp C A env E op x Q)) E s) :
    ∀ s, St C s₀ W env G s m n → wpAny (MM C.w) A (exec (.AugAssign (.Name x p) op value pos) env) Q E s := fun s D => wpAny_AugAssign_Name (h s D)
theorem t_expr {e : Expr} {pos : Pos} {Q : Flow → Shared → Prop} (h : ∀ s, St C s₀ W env G s m n → wpAny (MM C.w) A (eval e env) (KX Q) E s)
    (hi : interactive env = false := by with_unfolding_all rfl) (hs : swapsWith e none pos.line env = pure false := by with_unfolding_all rfl) :
    ∀ s, St C s₀ W env G s m n → wpAny (MM C.w) A (exec (.Expr e pos) env) Q E s := fun s D => wpAny_Expr (h s D) hi hs
theorem t_for {target iter : Expr} {body orelse : List Stmt} {pos : Pos} {Q : Flow → Shared → Prop}
    (h : ∀ s, St C s₀ W env G s m n → wpAny (MM C.w) A (eval iter env) (KF1 C A env E target body orelse Q) E s)
    (hs : ∀ x, foldedSetIterable iter env x = pure x := by intro _; with_unfolding_all rfl) :
    ∀ s, St C s₀ W env G s m n → wpAny (MM C.w) A (exec (.For target iter body orelse pos) env) Q E s := fun s D => wpAny_For (h s D) hs
theorem t_while {test : Expr} {body orelse : List Stmt} {pos : Pos} {Q : Flow → Shared → Prop}
    (h : ∀ s, St C s₀ W env G s m n → codeAny (MM C.w) A (.whileLoop test body orelse env) (KLp C A env E Q) s) :
    ∀ s, St C s₀ W env G s m n → wpAny (MM C.w) A (exec (.While test body orelse pos) env) Q E s := fun s D => wpAny_While (h s D)
theorem t_break {pos : Pos} {Q : Flow → Shared → Prop} (h : ∀ s, St C s₀ W env G s m n → Q .brk s) :
    ∀ s, St C s₀ W env G s m n → wpAny (MM C.w) A (exec (.Break pos) env) Q E s := fun s D => wpAny_Break (h s D)

/-! expressions -/
theorem t_binop {l r : Expr} {op : Operator} {pos : Pos} {Q : Value → Shared → Prop}
    (h : ∀ s, St C s₀ W env G s m n → wpAny (MM C.w) A (eval l env) (KE C A env E r (KBin C A E op Q)) E s) :
    ∀ s, St C s₀ W env G s m n → wpAny (MM C.w) A (eval (.BinOp l op r pos) env) Q E s := fun s D => wpAny_BinOp (h s D)
theorem t_cmp {l r : Expr} {op : CmpOp} {pos : Pos} {Q : Value → Shared → Prop}
    (h : ∀ s, St C s₀ W env G s m n → wpAny (MM C.w) A (eval l env) (KE C A env E r (KCmp C A E op Q)) E s)
    (hm : behindInMarks op r = false := by with_unfolding_all rfl) :
    ∀ s, St C s₀ W env G s m n → wpAny (MM C.w) A (eval (.Compare l [op] [r] pos) env) Q E s := fun s D => wpAny_Compare1 (h s D) hm
theorem t_tcmp {l r : Expr} {op : CmpOp} {pos : Pos} {whole : Sem Value} {Q : Bool → Shared → Prop}
    (h : ∀ s, St C s₀ W env G s m n → wpAny (MM C.w) A (eval l env) (KE C A env E r (KCmp C A E op (KTr C A E Q))) E s)
    (hm : behindInMarks op r = false := by with_unfolding_all rfl) :
    ∀ s, St C s₀ W env G s m n → wpAny (MM C.w) A (isTrue (.Compare l [op] [r] pos) env whole) Q E s := fun s D => wpAny_isTrue_Compare1 (h s D) hm
theorem t_unary {x : Expr} {op : UnaryOp} {pos : Pos} {Q : Value → Shared → Prop}
    (h : ∀ s, St C s₀ W env G s m n → wpAny (MM C.w) A (eval x env) (KUn C A E op Q) E s) :
    ∀ s, St C s₀ W env G s m n → wpAny (MM C.w) A (eval (.UnaryOp op x pos) env) Q E s := fun s D => UnaryOp_ (h s D)
theorem t_tval {e : Expr} {whole : Sem Value} {Q : Bool → Shared → Prop} (h : ∀ s, St C s₀ W env G s m n → wpAny (MM C.w) A whole (KTr C A E Q) E s)
    (hp : ∀ M A E Q s, wpAny M A whole (fun v s₁ => wpAny M A (truthy v) Q E s₁) E s → wpAny M A (isTrue e env whole) Q E s) :
    ∀ s, St C s₀ W env G s m n → wpAny (MM C.w) A (isTrue e env whole) Q E s := fun s D => hp _ _ _ _ _ (h s D)
theorem t_and2 {x y : Expr} {pos : Pos} {whole : Sem Value} {Q : Bool → Shared → Prop}
    (h : ∀ s, St C s₀ W env G s m n → wpAny (MM C.w) A (isTrue x env (eval x env)) (KAnd C A env E y Q) E s) :
    ∀ s, St C s₀ W env G s m n → wpAny (MM C.w) A (isTrue (.BoolOp .And [x, y] pos) env whole) Q E s := fun s D => by
  refine isTrue_and (wpAny_mono (h s D) (fun b s₁ h₁ => ?_) fun _ _ e => e)
  cases b with
  | false => simpa [KAnd] using h₁
  | true =>
    simp only [KAnd, if_true] at h₁ ⊢
    exact isTrue_and (wpAny_mono h₁ (fun b s₂ h₂ => by cases b <;> first | simpa using h₂ | (simp only [if_true]; exact isTrue_and_nil h₂)) fun _ _ e => e)
theorem t_or2 {x y : Expr} {pos : Pos} {whole : Sem Value} {Q : Bool → Shared → Prop}
    (h : ∀ s, St C s₀ W env G s m n → wpAny (MM C.w) A (isTrue x env (eval x env)) (KOr C A env E y Q) E s) :
    ∀ s, St C s₀ W env G s m n → wpAny (MM C.w) A (isTrue (.BoolOp .Or [x, y] pos) env whole) Q E s := fun s D => by
  refine isTrue_or (wpAny_mono (h s D) (fun b s₁ h₁ => ?_) fun _ _ e => e)
  cases b with
  | true => simpa [KOr] using h₁
  | false =>
    simp only [KOr, Bool.false_eq_true, if_false] at h₁ ⊢
    exact isTrue_or (wpAny_mono h₁ (fun b s₂ h₂ => by cases b <;> first | simpa using h₂ | (simp only [Bool.false_eq_true, if_false]; exact isTrue_or_nil h₂)) fun _ _ e => e)
theorem t_ifexp {test body orelse : Expr} {pos : Pos} {Q : Value → Shared → Prop}
    (h : ∀ s, St C s₀ W env G s m n → wpAny (MM C.w) A (isTrue test env (eval test env)) (KIe C A env E body orelse Q) E s) :
    ∀ s, St C s₀ W env G s m n → wpAny (MM C.w) A (eval (.IfExp test body orelse pos) env) Q E s := fun s D => wpAny_IfExp (h s D)
theorem t_items_nil {pos : Pos} {Q : List Value → Shared → Prop} (h : ∀ s, St C s₀ W env G s m n → Q [] s) :
    ∀ s, St C s₀ W env G s m n → wpAny (MM C.w) A (spliced (backTo pos (starEach [] env))) Q E s := fun s D => wpAny_items_nil (h s D)
theorem t_items {pos : Pos} {e : Expr} {rest : List Expr} {Q : List Value → Shared → Prop}
    (h : ∀ s, St C s₀ W env G s m n → wpAny (MM C.w) A (eval e env) (KI1 C A env E pos rest Q) E s)
    (he : starEach (e :: rest) env = (false, eval e env) :: starEach rest env := by with_unfolding_all rfl) :
    ∀ s, St C s₀ W env G s m n → wpAny (MM C.w) A (spliced (backTo pos (starEach (e :: rest) env))) Q E s := fun s D => wpAny_items_cons (h s D) he
theorem t_tuple {elts : List Expr} {k : Nat} {pos : Pos} {Q : Value → Shared → Prop}
    (h : ∀ s, St C s₀ W env G s m n → wpAny (MM C.w) A (spliced (backTo pos (starEach elts env))) (KTp C A E Q) E s) :
    ∀ s, St C s₀ W env G s m n → wpAny (MM C.w) A (eval (.Tuple elts k pos) env) Q E s := fun s D => Tuple_ (h s D)
theorem t_list {elts : List Expr} {pos : Pos} {Q : Value → Shared → Prop}
    (h : ∀ s, St C s₀ W env G s m n → wpAny (MM C.w) A (spliced (backTo pos (starEach elts env))) (KLs C A E Q) E s) :
    ∀ s, St C s₀ W env G s m n → wpAny (MM C.w) A (eval (.List elts pos) env) Q E s := fun s D => List_ (h s D)
noncomputable def listObj (vs : List Value) (e : Nat) : Obj := { cls := .type "list", data := .seq vs.toArray e }
noncomputable def tupObj (vs : List Value) : Obj := { cls := .type "tuple", data := .seq vs.toArray }
theorem t_newTuple {vs : List Value} {Q : Value → Shared → Prop} (hsz : vs.length ≤ sizeLine) (h : ∀ a, ∀ s, St C s₀ W env G s m ((a, tupObj vs) :: n) → Q (.ref a) s) :
    ∀ s, St C s₀ W env G s m n → wpAny (MM C.w) A (newTuple vs) Q E s := fun s D =>
  wpAny_newObj_type (h _ _ (D.push _ _ _ rfl)) (by show vs.toArray.size ≤ sizeLine; rw [List.size_toArray]; exact hsz)
theorem t_newList {vs : List Value} {Q : Value → Shared → Prop} (hsz : vs.length ≤ sizeLine) (h : ∀ a, ∀ s, St C s₀ W env G s m ((a, listObj vs 0) :: n) → Q (.ref a) s) :
    ∀ s, St C s₀ W env G s m n → wpAny (MM C.w) A (newList vs) Q E s := fun s D =>
  wpAny_newObj_type (h _ _ (D.push _ _ _ rfl)) (by show vs.toArray.size ≤ sizeLine; rw [List.size_toArray]; exact hsz)

/-! calls -/
theorem t_callN {func : Expr} {pos : Pos} {args : List Expr} {Q : Value → Shared → Prop}
    (h : ∀ s, St C s₀ W env G s m n → wpAny (MM C.w) A (eval func env) (KCn C A env E pos args Q) E s)
    (hf : eval (.Call func args [] pos) env = (do callWith pos (← eval func env) [] (backTo pos (starEach args env)) (backToKw pos (keywordEach [] env))) := by with_unfolding_all rfl) :
    ∀ s, St C s₀ W env G s m n → wpAny (MM C.w) A (eval (.Call func args [] pos) env) Q E s := fun s D => by
  rw [hf]; exact wpAny_bind (h s D)
theorem t_callWith {pos : Pos} {f : Value} {first : List Value} {e : Expr} {rest : List Expr} {Q : Value → Shared → Prop}
    (h : ∀ s, St C s₀ W env G s m n → wpAny (MM C.w) A (spliced (backTo pos (starEach (e :: rest) env))) (KCw C A E f first Q) E s)
    (he : starEach (e :: rest) env = (false, eval e env) :: starEach rest env := by with_unfolding_all rfl) (hplain : (backTo pos (starEach rest env)).any (·.1) = false := by with_unfolding_all rfl) :
    ∀ s, St C s₀ W env G s m n → wpAny (MM C.w) A (callWith pos f first (backTo pos (starEach (e :: rest) env)) []) Q E s := fun s D => by
  have h' := h s D
  rw [he] at h' ⊢
  exact callWith_of (P := KpOk C f) (by show ((false || (backTo pos (starEach rest env)).any (·.1)) || false) = false; rw [hplain]; rfl) (fun _ x => x) (evalArgs_plain h')
theorem t_callWith0 {pos : Pos} {f : Value} {first : List Value} {Q : Value → Shared → Prop}
    (h : ∀ s, St C s₀ W env G s m n → KpOk C f s.heap ∧ wpAny (MM C.w) A (call f (first ++ [])) Q E s) :
    ∀ s, St C s₀ W env G s m n → wpAny (MM C.w) A (callWith pos f first (backTo pos (starEach [] env)) []) Q E s := fun s D =>
  callWith_of (P := KpOk C f) rfl (fun _ x => x) (evalArgs_nil3 (h s D))
noncomputable def isRefV : Value → Bool
  | .ref _ => true
  | _ => false
theorem t_kv {f : Value} {X : Shared → Prop} (hf : isRefV f = false) (h : ∀ s, St C s₀ W env G s m n → X s) : ∀ s, St C s₀ W env G s m n → KpOk C f s.heap ∧ X s := fun s D =>
  ⟨⟨.machine, .inr (.inl rfl), by unfold keeperOf; cases f <;> first | exact Looks.now | cases hf⟩, h s D⟩
theorem t_kK {f : Value} {X : Shared → Prop} (hf : keepIn (KK C.w) f = true) (h : ∀ s, St C s₀ W env G s m n → X s) : ∀ s, St C s₀ W env G s m n → KpOk C f s.heap ∧ X s := fun s D =>
  ⟨keeps_K hf _ D.g.K, h s D⟩
theorem t_kf {a : Addr} {o : Obj} {fd : FuncData} {X : Shared → Prop} (ha : (a, o) ∈ n) (hd : o.data = .func fd) (h : ∀ s, St C s₀ W env G s m n → X s) : ∀ s, St C s₀ W env G s m n → KpOk C (.ref a) s.heap ∧ X s := fun s D => by
  refine ⟨⟨.frame, .inl rfl, ?_⟩, h s D⟩
  refine (Looks.ld (part := none) (D.get ha)).andThen ?_
  rw [hd]; exact Looks.now
end
structure Ok (A : Around) (k : Nat) : Prop where
  hh : A.handled = none
  d : A.depth + k < recursionLimit
  u : A.units + 10 * k < cLine
  fr : A.frames.isSome = true
theorem Ok.deeper {A : Around} {k : Nat} {env : Env} (h : Ok A (k + 1)) : Ok (A.deeper env) k :=
  ⟨h.hh, by have := h.d; show A.depth + 1 + k < _; omega, by have := h.u; show A.units + 3 + 10 * k < _; omega, by show (A.frames.map _).isSome = true; rw [Option.isSome_map]; exact h.fr⟩
theorem Ok.le {A : Around} {k j : Nat} (h : Ok A k) (hj : j ≤ k) : Ok A j := ⟨h.hh, by have := h.d; omega, by have := h.u; omega, h.fr⟩

section
variable {C : Cx} {s₀ s s' : Shared} {W W' : List Addr} {env env' : Env} {G G' : List (Nat × GenState)} {m m' : List (Str × Bnd)} {n n' n'' : List (Addr × Obj)}

/-- the caller's side behind a call -/
theorem St.ret (D : St C s₀ W env G s m n) (D' : St C s W' env' G' s' m' n') (hW' : ∀ a ∈ W', a ∈ n.map (·.1)) (hn : ∀ p ∈ n'', (p ∈ n ∧ p.1 ∉ W') ∨ p ∈ n') (hnd : (n''.map (·.1)).Nodup) :
    St C s₀ W env G s' m n'' := by
  have hin : ∀ a ∈ W', a ≠ env.locals ∧ (a ∈ W ∨ s₀.heap.get? a = none) := fun a ha => by
    obtain ⟨p, hp, rfl⟩ := List.mem_map.mp (hW' a ha)
    exact (D.nw p hp).2
  have hLt : ∃ o, s.heap.get? env.locals = some o := by obtain ⟨mm, ⟨o, es, ep, e, r⟩, _⟩ := D.ns; exact ⟨o, e⟩
  refine ⟨D.g0, ⟨fun b o hb e => ?_, fun g gs e => D'.x.gens g gs (D.x.gens g gs e), fun h => D'.x.bare (D.x.bare h), D'.x.os.trans D.x.os⟩, D.dyn, D.fn, D.glob, D.bui, ?_, D.hL, D.nd, fun p hp => ?_, hnd, fun p hp => ⟨D'.x.gens _ _ (D.gn p hp).1, (D.gn p hp).2⟩⟩
  · refine D'.x.keep b o (fun q => ?_) (D.x.keep b o hb e)
    rcases (hin b q).2 with h | h
    · exact hb h
    · rw [h] at e; cases e
  · obtain ⟨mm, hm, hok⟩ := D.ns
    exact ⟨mm, ns_at hm fun o e => D'.x.keep _ o (fun q => (hin _ q).1 rfl) e, hok⟩
  · rcases hn p hp with ⟨h1, h2⟩ | h
    · exact ⟨D'.x.keep _ _ h2 (D.nw p h1).1, (D.nw p h1).2⟩
    · refine ⟨(D'.nw p h).1, ?_⟩
      rcases (D'.nw p h).2.2 with h' | h'
      · exact hin _ h'
      · refine ⟨?_, D.newAt h'⟩
        intro q
        obtain ⟨o, ho⟩ := hLt
        rw [q, ho] at h'; cases h'
theorem St.ret0 (D : St C s₀ W env G s m n) (D' : St C s [] env' G' s' m' n') : St C s₀ W env G s' m n := D.ext D'.x
theorem St.ret1 (D : St C s₀ W env G s m n) (D' : St C s [] env' G' s' m' n') {n₁ : List (Addr × Obj)} (h : n₁.Sublist n') : St C s₀ W env G s' m (n₁ ++ n) := by
  refine D.ret D' (fun _ h => nomatch h) (fun p hp => ?_) ?_
  · rcases List.mem_append.mp hp with hp | hp
    · exact .inr (h.subset hp)
    · exact .inl ⟨hp, fun h => nomatch h⟩
  · rw [List.map_append, List.nodup_append]
    refine ⟨D'.na.sublist (h.map _), D.na, fun a ha b hb hab => ?_⟩
    subst hab
    obtain ⟨p, hp, rfl⟩ := List.mem_map.mp ha
    obtain ⟨q, hq, e⟩ := List.mem_map.mp hb
    rcases (D'.nw p (h.subset hp)).2.2 with h' | h'
    · cases h'
    · rw [← e, (D.nw q hq).1] at h'; cases h'

theorem mem_unique {α β : Type} : ∀ {l : List (α × β)}, (l.map (·.1)).Nodup → ∀ {a : α} {b b' : β}, (a, b) ∈ l → (a, b') ∈ l → b = b'
  | p :: r, nd, a, b, b', h, h' => by
    rw [List.map_cons, List.nodup_cons] at nd
    rcases List.mem_cons.mp h with e | h <;> rcases List.mem_cons.mp h' with e' | h'
    · rw [← e'] at e; exact (Prod.mk.inj e).2
    · exact absurd (by rw [← e]; exact List.mem_map_of_mem (f := (·.1)) h') nd.1
    · exact absurd (by rw [← e']; exact List.mem_map_of_mem (f := (·.1)) h) nd.1
    · exact mem_unique nd.2 h h'
/-- behind a call that only read what it was lent (R), and made n₁ -/
theorem St.retN (D : St C s₀ W env G s m n) {R n₁ : List (Addr × Obj)} (D' : St C s (R.map (·.1)) env' G' s' m' n') (hR : ∀ p ∈ R, p ∈ n) (hR' : ∀ p ∈ R, p ∈ n') (h₁ : n₁.Sublist n') (hf : ∀ p ∈ n₁, p.1 ∉ R.map (·.1)) :
    St C s₀ W env G s' m (n₁ ++ n) := by
  refine D.ret D' (fun a ha => ?_) (fun p hp => ?_) ?_
  · obtain ⟨p, hp, rfl⟩ := List.mem_map.mp ha
    exact List.mem_map_of_mem (hR p hp)
  · rcases List.mem_append.mp hp with hp | hp
    · exact .inr (h₁.subset hp)
    · by_cases h : p.1 ∈ R.map (·.1)
      · obtain ⟨q, hq, e⟩ := List.mem_map.mp h
        have : q = p := by
          obtain ⟨a, o⟩ := q; obtain ⟨a', o'⟩ := p
          cases e
          rw [mem_unique D.na (hR _ hq) hp]
        exact .inr (this ▸ hR' q hq)
      · exact .inl ⟨hp, h⟩
  · rw [List.map_append, List.nodup_append]
    refine ⟨D'.na.sublist (h₁.map _), D.na, fun a ha b hb hab => ?_⟩
    subst hab
    obtain ⟨p, hp, rfl⟩ := List.mem_map.mp ha
    obtain ⟨q, hq, e⟩ := List.mem_map.mp hb
    rcases (D'.nw p (h₁.subset hp)).2.2 with h' | h'
    · exact hf p hp h'
    · rw [← e, (D.nw q hq).1] at h'; cases h'

theorem St.back (D : St C s₀ W env G s m n) {R n₁ : List (Addr × Obj)} (D' : St C s (R.map (·.1)) env' G' s' m' n') (hR : ∀ p ∈ R, p ∈ n) (h : (n₁ ++ R).Sublist n') : St C s₀ W env G s' m (n₁ ++ n) := by
  have nd := D'.na.sublist (h.map _)
  rw [List.map_append, List.nodup_append] at nd
  exact D.retN D' hR (fun p hp => h.subset (List.mem_append_right _ hp)) ((List.sublist_append_left _ _).trans h) fun p hp hq => nd.2.2 _ (List.mem_map_of_mem hp) _ hq rfl

noncomputable def MiOk (w : World) (binds : List (Str × Value)) : List (Str × NameKind) → List (Str × Bnd) → Prop
  | [], [] => True
  | (x, k) :: ns, (y, b) :: ms => y = x ∧ (match b with
    | .loc v => k = .local ∧ binds.reverse.lookup x = v
    | .glo v => k = .globalImplicit ∧ GloIs w x v
    | .cel _ => False
    | .unk => True) ∧ MiOk w binds ns ms
  | _, _ => False
theorem MiOk.keys {w : World} {binds : List (Str × Value)} : ∀ {ns ms}, MiOk w binds ns ms → ms.map (·.1) = ns.map (·.1)
  | [], [], _ => rfl
  | (x, k) :: ns, (y, b) :: ms, h => by
    obtain ⟨rfl, _, h⟩ := h
    simp only [List.map_cons, MiOk.keys h]
theorem lookup_of_mem {α : Type} : ∀ {l : List (Str × α)}, (l.map (·.1)).Nodup → ∀ {x : Str} {a : α}, (x, a) ∈ l → l.lookup x = some a
  | (y, b) :: r, nd, x, a, h => by
    rw [List.map_cons, List.nodup_cons] at nd
    rw [List.lookup_cons]
    rcases List.mem_cons.mp h with e | h
    · cases e; simp
    · have hne : (x == y) = false := beq_eq_false_iff_ne.mpr fun e => nd.1 (e ▸ List.mem_map_of_mem (f := (·.1)) h)
      rw [hne]; exact lookup_of_mem nd.2 h
theorem MiOk.get {w : World} {binds : List (Str × Value)} : ∀ {ns ms}, MiOk w binds ns ms → ∀ p ∈ ms, match p.2 with
    | .loc v => (p.1, NameKind.local) ∈ ns ∧ binds.reverse.lookup p.1 = v
    | .glo v => (p.1, NameKind.globalImplicit) ∈ ns ∧ GloIs w p.1 v
    | .cel _ => False
    | .unk => True
  | _, [], _, _, hp => nomatch hp
  | [], _ :: _, h, _, _ => h.elim
  | (x, k) :: ns, (y, b) :: ms, h, p, hp => by
    obtain ⟨rfl, h1, h2⟩ := h
    rcases List.mem_cons.mp hp with rfl | hp
    · cases b with
      | loc v => exact ⟨by rw [h1.1]; exact List.mem_cons_self, h1.2⟩
      | glo v => exact ⟨by rw [h1.1]; exact List.mem_cons_self, h1.2⟩
      | cel c => exact h1
      | unk => trivial
    · have := MiOk.get h2 p hp
      cases hb : p.2 with
      | loc v => rw [hb] at this; exact ⟨List.mem_cons_of_mem _ this.1, this.2⟩
      | glo v => rw [hb] at this; exact ⟨List.mem_cons_of_mem _ this.1, this.2⟩
      | cel c => rw [hb] at this; exact this
      | unk => trivial

structure FnAt (w : World) (f : Addr) (fd : FuncData) (body : List Stmt) : Prop where
  ho : ∃ oc od osl, (KK w).lookup f = some ⟨oc, od, .func fd, osl⟩
  hbody : fd.body = .stmts body
  hcode : codeIn (KK w) fd.code fd.qualname = true
  hco : fd.scope.isCoroutine = false
  hk : fd.scope.kind = .function
  hcl : fd.closure = []
  hg : fd.globals = mainGlobals
  hb : fd.builtins = builtinsNs

noncomputable def fnEnv (fd : FuncData) (f L : Addr) : Env := newEnv fd.scope L fd.globals fd.closure (fd.qualname ++ ".<locals>.") (some f) fd.code none fd.builtins

/-- a def of the text entered -/
theorem t_enter {A : Around} {E : Value → Shared → Prop} {f : Addr} {fd : FuncData} {body : List Stmt} {args : List Value} {kw : List (Str × Value)} {binds : List (Str × Value)} {mi : List (Str × Bnd)} {k : Nat} {Q : Value → Shared → Prop}
    (D : St C s₀ W env G s m n) (hA : Ok A (k + 1)) (F : FnAt C.w f fd body) (hgen : fd.scope.isGenerator = false) (hbind : BindsTo s fd ⟨args, kw⟩ binds)
    (hcell : ∀ x ∈ fd.scope.names, x.2 ≠ .cell) (hloc : ∀ x ∈ binds, fd.scope.names.lookup x.1 = some .local)
    (hm : MiOk C.w binds fd.scope.names mi) (hnd : (fd.scope.names.map (·.1)).Nodup)
    (R : List (Addr × Obj)) (hn' : ∀ p ∈ R, p ∈ n) (hRn : (R.map (·.1)).Nodup)
    (h : ∀ L E', ∀ s₁, St C s (R.map (·.1)) (fnEnv fd f L) [] s₁ mi R → wpAny (MM C.w) (A.deeper (fnEnv fd f L)) (execs body (fnEnv fd f L)) (fun fl s' => Q (match fl with | .ret v => v | _ => .none) s') E' s₁) :
    wpAny (MM C.w) A (call (.ref f) args kw) Q E s := by
  obtain ⟨oc, od, osl, ho⟩ := F.ho
  refine wpAny_call (codeAny_call_function (fd := fd) (body := body) (by have := hA.d; omega) (D.g.K _ _ ho) rfl F.hco hgen F.hbody (codeRec_of D.g.K F.hcode) ?_)
  refine hbind _ _ _ _ (wpAny_newFunctionEnv hcell hloc (fun h' hns hs => ?_) F.hk)
  have hk : ∀ b o, s.heap.get? b = some o → h'.get? b = some o := fun b o e => hs.extBut b o (Nat.ne_of_lt (Heap.lt_size e)) (Heap.get?_push_of_some _ e)
  have hW : ∀ a ∈ R.map (·.1), a ∈ n.map (·.1) := fun a ha => by
    obtain ⟨p, hp, rfl⟩ := List.mem_map.mp ha
    exact List.mem_map_of_mem (hn' p hp)
  have hwi : ∀ a ∈ R.map (·.1), a ≠ env.locals ∧ (a ∈ W ∨ s₀.heap.get? a = none) := fun a ha => by
    obtain ⟨p, hp, rfl⟩ := List.mem_map.mp (hW a ha)
    exact (D.nw p hp).2
  have D₁ : St C s (R.map (·.1)) (fnEnv fd f s.heap.objs.size) [] ⟨h', s.gens, s.drawn, s.toks + binds.length, s.os⟩ mi R := by
    refine ⟨D.g, ⟨fun b o _ e => hk b o e, fun _ _ e => e, fun x => x, rfl⟩, fun a ha => ?_, F.hk, F.hg, F.hb, ⟨_, hns, fun p hp => ?_⟩, (.inr (get_size _)), by rw [hm.keys]; exact hnd, fun p hp => ⟨hk _ _ (D.nw p (hn' p hp)).1, ?_, .inl (List.mem_map_of_mem hp)⟩, hRn, fun _ h => nomatch h⟩
    · rcases (hwi a ha).2 with h | h
      · exact D.dyn a h
      · exact D.g0.dyn h
    · have := hm.get p hp
      cases hb : p.2 with
      | loc v => rw [hb] at this; exact ⟨lookup_of_mem hnd this.1, this.2⟩
      | glo v => rw [hb] at this; exact ⟨lookup_of_mem hnd this.1, this.2⟩
      | cel c => rw [hb] at this; exact this.elim
      | unk => trivial
    · show p.1 ≠ s.heap.objs.size
      exact Nat.ne_of_lt (Heap.lt_size (D.nw p (hn' p hp)).1)
  refine ⟨(D₁.nolim), codeAny_func (h _ _ _ D₁)⟩
end
section
variable {C : Cx} {s₀ : Shared} {W : List Addr} {env : Env} {G : List (Nat × GenState)} {A : Around} {E : Value → Shared → Prop} {m m' : List (Str × Bnd)} {n n' : List (Addr × Obj)}
  {a b : Int} {t u : Tok} {x y : Str} {Q : Value → Shared → Prop}

theorem gd_eval {e : Expr} (h : ∀ s, St C s₀ W env G s m n → wpAny (MM C.w) A (eval e env) Q E s) : ∀ s, St C s₀ W env G s m n → wpAny (MM C.w) A (eval e env) Q E s := h
theorem gd_exec {st : Stmt} {Q : Flow → Shared → Prop} (h : ∀ s, St C s₀ W env G s m n → wpAny (MM C.w) A (exec st env) Q E s) : ∀ s, St C s₀ W env G s m n → wpAny (MM C.w) A (exec st env) Q E s := h
/-! ints -/
theorem o_add (h : ∀ t, ∀ s, St C s₀ W env G s m n → Q (.int (a + b) t) s) : ∀ s, St C s₀ W env G s m n → wpAny (MM C.w) A (binaryOp .Add (.int a t) (.int b u)) Q E s := fun s D => P.add_int (h _ _ (D.tok _ _))
theorem o_sub (h : ∀ t, ∀ s, St C s₀ W env G s m n → Q (.int (a - b) t) s) : ∀ s, St C s₀ W env G s m n → wpAny (MM C.w) A (binaryOp .Sub (.int a t) (.int b u)) Q E s := fun s D => P.sub_int (h _ _ (D.tok _ _))
theorem o_mul (hm : IntMulOk a b) (h : ∀ t, ∀ s, St C s₀ W env G s m n → Q (.int (a * b) t) s) : ∀ s, St C s₀ W env G s m n → wpAny (MM C.w) A (binaryOp .Mult (.int a t) (.int b u)) Q E s := fun s D => P.mul_int (h _ _ (D.tok _ _)) hm
theorem o_iadd (h : ∀ t, ∀ s, St C s₀ W env G s m n → Q (.int (a + b) t) s) : ∀ s, St C s₀ W env G s m n → wpAny (MM C.w) A (inplaceOp .Add (.int a t) (.int b u)) Q E s := fun s D => P.iadd_int (h _ _ (D.tok _ _))
theorem o_isub (h : ∀ t, ∀ s, St C s₀ W env G s m n → Q (.int (a - b) t) s) : ∀ s, St C s₀ W env G s m n → wpAny (MM C.w) A (inplaceOp .Sub (.int a t) (.int b u)) Q E s := fun s D => P.isub_int (h _ _ (D.tok _ _))
theorem o_neg (h : ∀ t, ∀ s, St C s₀ W env G s m n → Q (.int (-a) t) s) : ∀ s, St C s₀ W env G s m n → wpAny (MM C.w) A (unaryOp .USub (.int a t)) Q E s := fun s D => P.neg_int (h _ _ (D.tok _ _))
theorem o_mod (hb : b ≠ 0) (h : ∀ t, ∀ s, St C s₀ W env G s m n → Q (.int (a.fmod b) t) s) : ∀ s, St C s₀ W env G s m n → wpAny (MM C.w) A (binaryOp .Mod (.int a t) (.int b u)) Q E s := fun s D => mod_int' hb (h _ _ (D.tok _ _))
theorem o_eq (h : ∀ s, St C s₀ W env G s m n → Q (.bool (a == b)) s) : ∀ s, St C s₀ W env G s m n → wpAny (MM C.w) A (compareOp .Eq (.int a t) (.int b u)) Q E s := fun s D => P.eq_int (h _ D)
theorem o_ne (h : ∀ s, St C s₀ W env G s m n → Q (.bool (a != b)) s) : ∀ s, St C s₀ W env G s m n → wpAny (MM C.w) A (compareOp .NotEq (.int a t) (.int b u)) Q E s := fun s D => P.ne_int (h _ D)
theorem o_lt (h : ∀ s, St C s₀ W env G s m n → Q (.bool (decide (a < b))) s) : ∀ s, St C s₀ W env G s m n → wpAny (MM C.w) A (compareOp .Lt (.int a t) (.int b u)) Q E s := fun s D => P.lt_int (h _ D)
theorem o_le (h : ∀ s, St C s₀ W env G s m n → Q (.bool (decide (a ≤ b))) s) : ∀ s, St C s₀ W env G s m n → wpAny (MM C.w) A (compareOp .LtE (.int a t) (.int b u)) Q E s := fun s D => P.le_int (h _ D)
theorem o_gt (h : ∀ s, St C s₀ W env G s m n → Q (.bool (decide (a > b))) s) : ∀ s, St C s₀ W env G s m n → wpAny (MM C.w) A (compareOp .Gt (.int a t) (.int b u)) Q E s := fun s D => P.gt_int (h _ D)
theorem o_ge (h : ∀ s, St C s₀ W env G s m n → Q (.bool (decide (a ≥ b))) s) : ∀ s, St C s₀ W env G s m n → wpAny (MM C.w) A (compareOp .GtE (.int a t) (.int b u)) Q E s := fun s D => P.ge_int (h _ D)
theorem o_floordiv (hb : b ≠ 0) (hp : Builtin.divisionGoesByPylong a b = false) (h : ∀ t, ∀ s, St C s₀ W env G s m n → Q (.int (a.fdiv b) t) s) :
    ∀ s, St C s₀ W env G s m n → wpAny (MM C.w) A (binaryOp .FloorDiv (.int a t) (.int b u)) Q E s := fun s D => floordiv_int hb (h _ _ (D.tok _ _)) (.inl hp)
theorem o_divmod (hA : Ok A 110) (hg : env.scope.isGenerator = false) (hc : env.scope.isCoroutine = false) (hb : b ≠ 0) (h : ∀ T t t', ∀ s, St C s₀ W env G s m ((T, tupObj [.int (a.fdiv b) t, .int (a.fmod b) t']) :: n) → Q (.ref T) s) :
    ∀ s, St C s₀ W env G s m n → wpAny (MM C.w) (A.deeper env) (call (.builtin "divmod") [.int a t, .int b u]) Q E s := fun s D => by
  obtain ⟨l, hl⟩ := Option.isSome_iff_exists.mp hA.fr
  have hfr : (A.deeper env).frames = some (env :: l) := by show A.frames.map (env :: ·) = _; rw [hl]; rfl
  refine divmod_int hb (h _ _ _ _ ((D.push _ _ _ rfl))) (.inr (PylongRoom.of D.g.nl ?_ (SeerAt.of D.g.seer (by kernel_rfl) hfr hg hc D.bui D.glob)))
  have := hA.d
  show A.depth + 1 + Builtin.pylongFrames < recursionLimit
  have hp : Builtin.pylongFrames ≤ 100 := by decide
  omega

/-! truth -/
theorem o_tb {c : Bool} {Q : Bool → Shared → Prop} (h : ∀ s, St C s₀ W env G s m n → Q c s) : ∀ s, St C s₀ W env G s m n → wpAny (MM C.w) A (truthy (.bool c)) Q E s := fun s D => wpAny_truthy_bool (h s D)
theorem o_ti {Q : Bool → Shared → Prop} (h : ∀ s, St C s₀ W env G s m n → Q (a != 0) s) : ∀ s, St C s₀ W env G s m n → wpAny (MM C.w) A (truthy (.int a t)) Q E s := fun s D => P.truthy_int (h s D)

/-! methods -/
theorem t_meth {o : Expr} {name : Str} {apos pos : Pos} {args : List Expr} {pl : Sem Bool}
    (h : ∀ s, St C s₀ W env G s m n → wpAny (MM C.w) A (eval o env) (KM1 C A E name pl (KM2 C A env E pos args Q)) E s)
    (he : eval (.Call (.Attribute o name apos) args [] pos) env = (do
      let ov ← eval o env
      standAt apos.atName
      let (f, first) ← holding [ov] (getMethod ov name pl)
      callWith pos f first (backTo pos (starEach args env)) []) := by with_unfolding_all rfl) :
    ∀ s, St C s₀ W env G s m n → wpAny (MM C.w) A (eval (.Call (.Attribute o name apos) args [] pos) env) Q E s := fun s D => MethodCall_ (h s D) he
theorem g_append {l : Addr} {vs : List Value} {e : Nat} {pl : Sem Bool} {Q : Value × List Value → Shared → Prop} (hl : (l, listObj vs e) ∈ n) (h : ∀ s, St C s₀ W env G s m n → Q (.builtin "list.append", [.ref l]) s) :
    ∀ s, St C s₀ W env G s m n → wpAny (MM C.w) A (getMethod (.ref l) "append" pl) Q E s := fun s D => getMethod_list_append (D.get hl) rfl rfl (h s D)
theorem c_append {l : Addr} {vs : List Value} {e : Nat} {v : Value} (hl : (l, listObj vs e) ∈ n) (U : Upd l (listObj (vs ++ [v]) (e + 1)) n n') (hsz : vs.length ≤ sizeLine) (h : ∀ s, St C s₀ W env G s m n' → Q .none s) :
    ∀ s, St C s₀ W env G s m n → wpAny (MM C.w) A (call (.builtin "list.append") [.ref l, v]) Q E s := fun s D =>
  append_at (D.get hl) (fun h' hs ho => h _ (D.upd _ _ U hs (by rw [ho]; unfold listObj; simp))) (by rw [List.size_toArray]; exact hsz)

/-! unpacking -/
theorem t_asgName {x : Str} {p : Pos} {v : Value} {Q : Unit → Shared → Prop} (h : ∀ s, St C s₀ W env G s m n → wpAny (MM C.w) A (storeName env x v) Q E s) :
    ∀ s, St C s₀ W env G s m n → wpAny (MM C.w) A (assign (.Name x p) env v) Q E s := fun s D => by
  rw [PySem.assign_Name]; exact wpAny_bind (wpAny_standAt (wpAny_bindName (h s D)))
theorem t_asgTup {elts : List Expr} {k : Nat} {pos : Pos} {T : Addr} {vs : List Value} {Q : Unit → Shared → Prop} (hA : Ok A 0) (ht : (T, tupObj vs) ∈ n) (hn : (assignEach elts env).length = vs.length) (hstar : (assignEach elts env).findIdx? (·.1) = none)
    (h : ∀ s, St C s₀ W env G s m n → wpAny (MM C.w) A (assignInOrder ((assignEach elts env).map (·.2)) vs) Q E s) :
    ∀ s, St C s₀ W env G s m n → wpAny (MM C.w) A (assign (.Tuple elts k pos) env (.ref T)) Q E s := fun s D =>
  assign_Tuple_tuple hA.hh ⟨_, D.get ht, rfl, _, rfl⟩ (by rw [hn]; simp) hstar fun h' hx => by
    have := h _ (D.keeps (h' := h') s.drawn s.toks fun b o e => hx b o (Nat.ne_of_lt (Heap.lt_size e)) e)
    simpa using this
theorem t_ord {f : Value → Sem Unit} {fs : List (Value → Sem Unit)} {v : Value} {vs : List Value} {Q : Unit → Shared → Prop} (h : ∀ s, St C s₀ W env G s m n → wpAny (MM C.w) A (f v) (KOd C A E fs vs Q) E s) :
    ∀ s, St C s₀ W env G s m n → wpAny (MM C.w) A (assignInOrder (f :: fs) (v :: vs)) Q E s := fun s D => by
  show wpAny _ A (do holding vs (f v); assignInOrder fs vs) Q E s
  exact wpAny_bind (wpAny_holding (h s D))
theorem t_ordE {e : Expr} {es : List Expr} {v : Value} {vs : List Value} {Q : Unit → Shared → Prop} (h : ∀ s, St C s₀ W env G s m n → wpAny (MM C.w) A (assign e env v) (KOe C A env E es vs Q) E s)
    (he : assignEach (e :: es) env = (false, assign e env) :: assignEach es env := by with_unfolding_all rfl) :
    ∀ s, St C s₀ W env G s m n → wpAny (MM C.w) A (assignInOrder ((assignEach (e :: es) env).map (·.2)) (v :: vs)) Q E s := by
  rw [he]; exact t_ord h
theorem t_ordENil {Q : Unit → Shared → Prop} (h : ∀ s, St C s₀ W env G s m n → Q () s) :
    ∀ s, St C s₀ W env G s m n → wpAny (MM C.w) A (assignInOrder ((assignEach [] env).map (·.2)) []) Q E s := fun s D => wpAny_pure (h s D)
theorem t_ordNil {Q : Unit → Shared → Prop} (h : ∀ s, St C s₀ W env G s m n → Q () s) :
    ∀ s, St C s₀ W env G s m n → wpAny (MM C.w) A (assignInOrder [] []) Q E s := fun s D => wpAny_pure (h s D)

/-! loops -/
theorem letOwned_other {M : Model} {A : Around} {E : Value → Shared → Prop} {s : Shared} {target : Expr} {r : Addr} {v : Value} {o : Obj} {nm : String} {Q : Unit → Shared → Prop} (ho : s.heap.get? r = some o) (hc : o.cls = .type nm)
    (hn : (["enumerate", "zip", "dict_itemiterator", "dict_reverseitemiterator", "odict_iterator", "itertools.zip_longest", "itertools.pairwise"] : List String).contains nm = false) (h : Q () s) :
    wpAny M A (letOwnedTupleGo target (.ref r) v) Q E s := by
  have key : wpAny M A (do
      let (.ref r, .ref a) := ((Value.ref r, v) : Value × Value) | return
      let o ← load r
      match o.cls, o.data with
      | .type n, .fields vs =>
        if ["enumerate", "zip", "dict_itemiterator", "dict_reverseitemiterator", "odict_iterator", "itertools.zip_longest", "itertools.pairwise"].contains n && vs[0]? == some (rawInt a) then
          rule "for.unpacks-the-owned-tuple"
          updateField r 0 .none
      | _, _ => pure () : Sem Unit) Q E s := by
    cases v <;> try exact wpAny_pure h
    refine wpAny_bind (wpAny_load ho ?_)
    rw [hc]
    try dsimp only
    split
    · rename_i e1 e2
      cases e1
      rw [hn]
      exact wpAny_pure h
    · exact wpAny_pure h
  cases target <;> first | exact wpAny_pure h | exact key
/-- an invariant stands again, what is kept aside ahead of it -/
inductive CT (C : Cx) (s₀ : Shared) (W : List Addr) (env : Env) (G : List (Nat × GenState)) (J : List (Str × Bnd) → List (Addr × Obj) → Prop) (I : List (Addr × Obj)) (s : Shared) : Prop
  | mk (m : List (Str × Bnd)) (n : List (Addr × Obj)) (_ : J m n) (_ : St C s₀ W env G s m (I ++ n))
noncomputable abbrev KBd (C : Cx) (A : Around) (env : Env) (E : Value → Shared → Prop) (body : List Stmt) (K : Flow → Shared → Prop) : Unit → Shared → Prop := fun _ s => wpAny (MM C.w) A (execs body env) K E s
noncomputable def TurnP (C : Cx) (s₀ : Shared) (W : List Addr) (env : Env) (G : List (Nat × GenState)) (J : List (Str × Bnd) → List (Addr × Obj) → Prop) (I : List (Addr × Obj)) (Q : Flow → Shared → Prop) : Flow → Shared → Prop := fun f s => match f with
  | .next | .cont => CT C s₀ W env G J I s
  | .brk => Q .next s
  | .ret v => Q (.ret v) s
theorem t_absP {C₁ : Cx} {s₁ : Shared} {W₁ : List Addr} {env₁ : Env} {G₁ : List (Nat × GenState)} {J : List (Str × Bnd) → List (Addr × Obj) → Prop} {I : List (Addr × Obj)} {Q : Flow → Shared → Prop} {b : List Stmt}
    (h : ∀ QB : Flow → Shared → Prop, (∀ f s, TurnP C₁ s₁ W₁ env₁ G₁ J I Q f s → QB f s) → ∀ s, St C s₀ W env G s m n → wpAny (MM C.w) A (execs b env) QB E s) : ∀ s, St C s₀ W env G s m n → wpAny (MM C.w) A (execs b env) (TurnP C₁ s₁ W₁ env₁ G₁ J I Q) E s := h _ (fun _ _ x => x)
theorem t_absE {Q QB : Flow → Shared → Prop} {f : Flow} (ha : ∀ f s, Q f s → QB f s) (h : ∀ s, St C s₀ W env G s m n → Q f s) : ∀ s, St C s₀ W env G s m n → QB f s := fun s D => ha _ _ (h s D)
theorem t_turnPR {C₁ : Cx} {s₁ : Shared} {W₁ : List Addr} {env₁ : Env} {G₁ : List (Nat × GenState)} {J : List (Str × Bnd) → List (Addr × Obj) → Prop} {I : List (Addr × Obj)} {v : Value} {Q : Flow → Shared → Prop} (h : ∀ s, St C s₀ W env G s m n → Q (.ret v) s) : ∀ s, St C s₀ W env G s m n → TurnP C₁ s₁ W₁ env₁ G₁ J I Q (.ret v) s := h
theorem t_turnPB {C₁ : Cx} {s₁ : Shared} {W₁ : List Addr} {env₁ : Env} {G₁ : List (Nat × GenState)} {J : List (Str × Bnd) → List (Addr × Obj) → Prop} {I : List (Addr × Obj)} {Q : Flow → Shared → Prop} (h : ∀ s, St C s₀ W env G s m n → Q .next s) : ∀ s, St C s₀ W env G s m n → TurnP C₁ s₁ W₁ env₁ G₁ J I Q .brk s := h
/-- an object dropped, whatever became of it -/
theorem St.drop {s : Shared} {I : Addr} {o : Obj} {h' : Heap} (D : St C s₀ W env G s m ((I, o) :: n)) (d : Drawn) (t : Nat) (hs : Heap.ExtBut I s.heap h') : St C s₀ W env G ⟨h', s.gens, d, t, s.os⟩ m n := by
  have D0 := D.sub (List.sublist_cons_self _ _)
  have hIn : I ∉ n.map (·.1) := (List.nodup_cons.mp D.na).1
  have hne : I ≠ env.locals := (D.nw _ (.head _)).2.1
  have hIW := (D.nw _ (.head _)).2.2
  refine ⟨D.g0, ⟨fun b o hb e => hs b o ?_ (D.x.keep b o hb e), D.x.gens, D.x.bare, D.x.os⟩, D.dyn, D.fn, D.glob, D.bui, ?_, D.hL, D.nd, fun p hp => ⟨hs _ _ ?_ (D0.nw p hp).1, (D0.nw p hp).2⟩, D0.na, D.gn⟩
  · rintro rfl
    rcases hIW with h | h
    · exact hb h
    · have e' := h.symm.trans e; cases e'
  · obtain ⟨mm, hm, hok⟩ := D.ns
    exact ⟨mm, hm.extBut hs (Ne.symm hne), hok⟩
  · rintro q
    exact hIn (q ▸ List.mem_map_of_mem hp)
end
/-- a def of the text, by its address -/
structure FnOf (f : Addr) where
  fd : FuncData
  body : List Stmt
  ho : ∀ w, (KK w).lookup f = some ⟨.type "function", none, .func fd, #[]⟩
  hbody : fd.body = .stmts body
  hcode : ∀ w, codeIn (KK w) fd.code fd.qualname = true
  hco : fd.scope.isCoroutine = false
  hk : fd.scope.kind = .function
  hcl : fd.closure = []
  hg : fd.globals = mainGlobals
  hb : fd.builtins = builtinsNs
  hn : (fd.scope.names.map (·.1)).Nodup
theorem FnOf.at {f : Addr} (F : FnOf f) {w : World} : FnAt w f F.fd F.body := ⟨⟨_, _, _, F.ho w⟩, F.hbody, F.hcode w, F.hco, F.hk, F.hcl, F.hg, F.hb⟩
/-- a def entered: R is what it is lent -/
theorem enter {C : Cx} {s₀ : Shared} {W : List Addr} {env : Env} {G : List (Nat × GenState)} {A : Around} {E : Value → Shared → Prop} {m : List (Str × Bnd)} {n : List (Addr × Obj)} {s : Shared}
    {f : Addr} (F : FnOf f) {args : List Value} {kw : List (Str × Value)} {k : Nat} {Q : Value → Shared → Prop} (binds : List (Str × Value)) (mi : List (Str × Bnd)) (R : List (Addr × Obj))
    (D : St C s₀ W env G s m n) (hA : Ok A (k + 1)) (hgen : F.fd.scope.isGenerator = false) (hcell : F.fd.scope.names.all (fun x => x.2 != .cell) = true) (hbind : BindsTo s F.fd ⟨args, kw⟩ binds)
    (hloc : ∀ x ∈ binds, F.fd.scope.names.lookup x.1 = some .local) (hm : MiOk C.w binds F.fd.scope.names mi)
    (hn' : ∀ p ∈ R, p ∈ n) (hRn : (R.map (·.1)).Nodup)
    (h : ∀ L E', ∀ s₁, St C s (R.map (·.1)) (fnEnv F.fd f L) [] s₁ mi R → wpAny (MM C.w) (A.deeper (fnEnv F.fd f L)) (execs F.body (fnEnv F.fd f L)) (fun fl s' => Q (match fl with | .ret v => v | _ => .none) s') E' s₁) :
    wpAny (MM C.w) A (call (.ref f) args kw) Q E s :=
  t_enter D hA F.at hgen hbind (fun x hx => by simpa using List.all_eq_true.mp hcell x hx) hloc hm F.hn R hn' hRn h
theorem gl_enumerate (w : World) : GloIs w "enumerate" (.type "enumerate") := .inr ⟨by kernel_rfl, by kernel_rfl, by decide⟩
theorem gl_iter_escaped_chars (w : World) : GloIs w "_iter_escaped_chars" (.ref 45) := .inl (by kernel_rfl)
theorem gl_len (w : World) : GloIs w "len" (.builtin "len") := .inr ⟨by kernel_rfl, by kernel_rfl, by decide⟩
theorem gl_strip_quoted_realnames (w : World) : GloIs w "_strip_quoted_realnames" (.ref 52) := .inl (by kernel_rfl)
theorem gl_range (w : World) : GloIs w "range" (.type "range") := .inr ⟨by kernel_rfl, by kernel_rfl, by decide⟩
theorem gl_COMPILER_FLAG_NAMES (w : World) : GloIs w "COMPILER_FLAG_NAMES" (.ref 60) := .inl (by kernel_rfl)
theorem gl_hex (w : World) : GloIs w "hex" (.builtin "hex") := .inr ⟨by kernel_rfl, by kernel_rfl, by decide⟩
theorem gl_UNKNOWN (w : World) : GloIs w "UNKNOWN" (.ref 90) := .inl (by kernel_rfl)
theorem gl_Whitespace (w : World) : GloIs w "Whitespace" (.ref 159) := .inl (by kernel_rfl)
theorem gl_tuple (w : World) : GloIs w "tuple" (.type "tuple") := .inr ⟨by kernel_rfl, by kernel_rfl, by decide⟩
theorem gl_max (w : World) : GloIs w "max" (.builtin "max") := .inr ⟨by kernel_rfl, by kernel_rfl, by decide⟩
theorem gl_tspecials (w : World) : GloIs w "tspecials" (.ref 168) := .inl (by kernel_rfl)
theorem gl_type (w : World) : GloIs w "type" (.type "type") := .inr ⟨by kernel_rfl, by kernel_rfl, by decide⟩
theorem gl_list (w : World) : GloIs w "list" (.type "list") := .inr ⟨by kernel_rfl, by kernel_rfl, by decide⟩
theorem gl_str (w : World) : GloIs w "str" (.type "str") := .inr ⟨by kernel_rfl, by kernel_rfl, by decide⟩
theorem gl_name_disallowed_re (w : World) : GloIs w "_name_disallowed_re" (.ref 173) := .inl (by kernel_rfl)
theorem gl_value_disallowed_re (w : World) : GloIs w "_value_disallowed_re" (.ref 178) := .inl (by kernel_rfl)
theorem gl_formatparam (w : World) : GloIs w "_formatparam" (.ref 186) := .inl (by kernel_rfl)
theorem gl_divmod (w : World) : GloIs w "divmod" (.builtin "divmod") := .inr ⟨by kernel_rfl, by kernel_rfl, by decide⟩
theorem gl_check_parenthesis (w : World) : GloIs w "_check_parenthesis" (.ref 59) := .inl (by kernel_rfl)
theorem gl_get_name_info (w : World) : GloIs w "_get_name_info" (.ref 97) := .inl (by kernel_rfl)
theorem gl_law_asked (w : World) : GloIs w "_law_asked" (.ref 341) := .inl (by kernel_rfl)
theorem gl_law_digits (w : World) : GloIs w "_law_digits" (.ref 320) := .inl (by kernel_rfl)
theorem gl_Headers (w : World) : GloIs w "Headers" (.ref 309) := .inl (by kernel_rfl)
theorem gl_sum (w : World) : GloIs w "sum" (.builtin "sum") := .inr ⟨by kernel_rfl, by kernel_rfl, by decide⟩
theorem gl_law_lack (w : World) : GloIs w "_law_lack" (.ref 334) := .inl (by kernel_rfl)
theorem gl_law_way (w : World) : GloIs w "_law_way" (.ref 348) := .inl (by kernel_rfl)
theorem gl_pretty_flags (w : World) : GloIs w "pretty_flags" (.ref 67) := .inl (by kernel_rfl)
theorem gl_min (w : World) : GloIs w "min" (.builtin "min") := .inr ⟨by kernel_rfl, by kernel_rfl, by decide⟩
theorem gl_sorted (w : World) : GloIs w "sorted" (.builtin "sorted") := .inr ⟨by kernel_rfl, by kernel_rfl, by decide⟩
/-- _iter_escaped_chars -/
@[reducible] noncomputable def f45 : FnOf 45 := by
  refine ⟨?fd, ?body, fun w => ?h, ?hb, fun w => ?hc, ?h1, ?h2, ?h3, ?h4, ?h5, ?hn⟩
  case h => exact rfl
  case hb => exact rfl
  case hc => kernel_rfl
  case h1 => rfl
  case h2 => rfl
  case h3 => rfl
  case h4 => rfl
  case h5 => rfl
  case hn => decide +kernel
noncomputable abbrev M45 (vaddr vpos vescape vch : Option Value) : List (Str × Bnd) := [("addr", .loc vaddr), ("pos", .loc vpos), ("escape", .loc vescape), ("ch", .loc vch), ("enumerate", .glo (.type "enumerate"))]
theorem mi45 (w : World) {a0 : Value} : MiOk w [("addr", a0)] f45.fd.scope.names (M45 (some a0) none none none) := ⟨rfl, ⟨rfl, rfl⟩, ⟨rfl, ⟨rfl, rfl⟩, ⟨rfl, ⟨rfl, rfl⟩, ⟨rfl, ⟨rfl, rfl⟩, ⟨rfl, ⟨rfl, gl_enumerate w⟩, trivial⟩⟩⟩⟩⟩
theorem hl45 {a0 : Value} : ∀ x ∈ ([("addr", a0)] : List (Str × Value)), f45.fd.scope.names.lookup x.1 = some .local := by
  intro x hx
  simp only [List.mem_cons, List.not_mem_nil, or_false] at hx
  rcases hx with rfl <;> rfl
/-- _strip_quoted_realnames -/
@[reducible] noncomputable def f52 : FnOf 52 := by
  refine ⟨?fd, ?body, fun w => ?h, ?hb, fun w => ?hc, ?h1, ?h2, ?h3, ?h4, ?h5, ?hn⟩
  case h => exact rfl
  case hb => exact rfl
  case hc => kernel_rfl
  case h1 => rfl
  case h2 => rfl
  case h3 => rfl
  case h4 => rfl
  case h5 => rfl
  case hn => decide +kernel
noncomputable abbrev M52 (vaddr vstart vopen_pos vresult vpos vch : Option Value) : List (Str × Bnd) := [("addr", .loc vaddr), ("start", .loc vstart), ("open_pos", .loc vopen_pos), ("result", .loc vresult), ("pos", .loc vpos), ("ch", .loc vch), ("_iter_escaped_chars", .glo (.ref 45)), ("len", .glo (.builtin "len"))]
theorem mi52 (w : World) {a0 : Value} : MiOk w [("addr", a0)] f52.fd.scope.names (M52 (some a0) none none none none none) := ⟨rfl, ⟨rfl, rfl⟩, ⟨rfl, ⟨rfl, rfl⟩, ⟨rfl, ⟨rfl, rfl⟩, ⟨rfl, ⟨rfl, rfl⟩, ⟨rfl, ⟨rfl, rfl⟩, ⟨rfl, ⟨rfl, rfl⟩, ⟨rfl, ⟨rfl, gl_iter_escaped_chars w⟩, ⟨rfl, ⟨rfl, gl_len w⟩, trivial⟩⟩⟩⟩⟩⟩⟩⟩
theorem hl52 {a0 : Value} : ∀ x ∈ ([("addr", a0)] : List (Str × Value)), f52.fd.scope.names.lookup x.1 = some .local := by
  intro x hx
  simp only [List.mem_cons, List.not_mem_nil, or_false] at hx
  rcases hx with rfl <;> rfl
theorem e52 {C : Cx} {s₀ s : Shared} {W : List Addr} {env : Env} {G : List (Nat × GenState)} {A : Around} {E : Value → Shared → Prop} {m : List (Str × Bnd)} {n : List (Addr × Obj)} {a0 : Value} {k : Nat} {Q : Value → Shared → Prop}
    (R : List (Addr × Obj)) (D : St C s₀ W env G s m n) (hA : Ok A (k + 1)) (hn' : ∀ p ∈ R, p ∈ n) (hRn : (R.map (·.1)).Nodup)
    (h : ∀ L E', ∀ s₁, St C s (R.map (·.1)) (fnEnv f52.fd 52 L) [] s₁ (M52 (some a0) none none none none none) R → wpAny (MM C.w) (A.deeper (fnEnv f52.fd 52 L)) (execs f52.body (fnEnv f52.fd 52 L)) (fun fl s' => Q (match fl with | .ret v => v | _ => .none) s') E' s₁) :
    wpAny (MM C.w) A (call (.ref 52) [a0] []) Q E s :=
  enter f52 [("addr", a0)] _ R D hA rfl (by decide +kernel) (.of_eq (by kernel_rfl)) hl52 (mi52 C.w) hn' hRn h
/-- _check_parenthesis -/
@[reducible] noncomputable def f59 : FnOf 59 := by
  refine ⟨?fd, ?body, fun w => ?h, ?hb, fun w => ?hc, ?h1, ?h2, ?h3, ?h4, ?h5, ?hn⟩
  case h => exact rfl
  case hb => exact rfl
  case hc => kernel_rfl
  case h1 => rfl
  case h2 => rfl
  case h3 => rfl
  case h4 => rfl
  case h5 => rfl
  case hn => decide +kernel
noncomputable abbrev M59 (vaddr vopens vpos vch : Option Value) : List (Str × Bnd) := [("addr", .loc vaddr), ("opens", .loc vopens), ("pos", .loc vpos), ("ch", .loc vch), ("_strip_quoted_realnames", .glo (.ref 52)), ("_iter_escaped_chars", .glo (.ref 45))]
theorem mi59 (w : World) {a0 : Value} : MiOk w [("addr", a0)] f59.fd.scope.names (M59 (some a0) none none none) := ⟨rfl, ⟨rfl, rfl⟩, ⟨rfl, ⟨rfl, rfl⟩, ⟨rfl, ⟨rfl, rfl⟩, ⟨rfl, ⟨rfl, rfl⟩, ⟨rfl, ⟨rfl, gl_strip_quoted_realnames w⟩, ⟨rfl, ⟨rfl, gl_iter_escaped_chars w⟩, trivial⟩⟩⟩⟩⟩⟩
theorem hl59 {a0 : Value} : ∀ x ∈ ([("addr", a0)] : List (Str × Value)), f59.fd.scope.names.lookup x.1 = some .local := by
  intro x hx
  simp only [List.mem_cons, List.not_mem_nil, or_false] at hx
  rcases hx with rfl <;> rfl
theorem e59 {C : Cx} {s₀ s : Shared} {W : List Addr} {env : Env} {G : List (Nat × GenState)} {A : Around} {E : Value → Shared → Prop} {m : List (Str × Bnd)} {n : List (Addr × Obj)} {a0 : Value} {k : Nat} {Q : Value → Shared → Prop}
    (R : List (Addr × Obj)) (D : St C s₀ W env G s m n) (hA : Ok A (k + 1)) (hn' : ∀ p ∈ R, p ∈ n) (hRn : (R.map (·.1)).Nodup)
    (h : ∀ L E', ∀ s₁, St C s (R.map (·.1)) (fnEnv f59.fd 59 L) [] s₁ (M59 (some a0) none none none) R → wpAny (MM C.w) (A.deeper (fnEnv f59.fd 59 L)) (execs f59.body (fnEnv f59.fd 59 L)) (fun fl s' => Q (match fl with | .ret v => v | _ => .none) s') E' s₁) :
    wpAny (MM C.w) A (call (.ref 59) [a0] []) Q E s :=
  enter f59 [("addr", a0)] _ R D hA rfl (by decide +kernel) (.of_eq (by kernel_rfl)) hl59 (mi59 C.w) hn' hRn h
/-- pretty_flags -/
@[reducible] noncomputable def f67 : FnOf 67 := by
  refine ⟨?fd, ?body, fun w => ?h, ?hb, fun w => ?hc, ?h1, ?h2, ?h3, ?h4, ?h5, ?hn⟩
  case h => exact rfl
  case hb => exact rfl
  case hc => kernel_rfl
  case h1 => rfl
  case h2 => rfl
  case h3 => rfl
  case h4 => rfl
  case h5 => rfl
  case hn => decide +kernel
noncomputable abbrev M67 (vflags vnames vi vflag : Option Value) : List (Str × Bnd) := [("flags", .loc vflags), ("names", .loc vnames), ("i", .loc vi), ("flag", .loc vflag), ("range", .glo (.type "range")), ("COMPILER_FLAG_NAMES", .glo (.ref 60)), ("hex", .glo (.builtin "hex"))]
theorem mi67 (w : World) {a0 : Value} : MiOk w [("flags", a0)] f67.fd.scope.names (M67 (some a0) none none none) := ⟨rfl, ⟨rfl, rfl⟩, ⟨rfl, ⟨rfl, rfl⟩, ⟨rfl, ⟨rfl, rfl⟩, ⟨rfl, ⟨rfl, rfl⟩, ⟨rfl, ⟨rfl, gl_range w⟩, ⟨rfl, ⟨rfl, gl_COMPILER_FLAG_NAMES w⟩, ⟨rfl, ⟨rfl, gl_hex w⟩, trivial⟩⟩⟩⟩⟩⟩⟩
theorem hl67 {a0 : Value} : ∀ x ∈ ([("flags", a0)] : List (Str × Value)), f67.fd.scope.names.lookup x.1 = some .local := by
  intro x hx
  simp only [List.mem_cons, List.not_mem_nil, or_false] at hx
  rcases hx with rfl <;> rfl
theorem e67 {C : Cx} {s₀ s : Shared} {W : List Addr} {env : Env} {G : List (Nat × GenState)} {A : Around} {E : Value → Shared → Prop} {m : List (Str × Bnd)} {n : List (Addr × Obj)} {a0 : Value} {k : Nat} {Q : Value → Shared → Prop}
    (R : List (Addr × Obj)) (D : St C s₀ W env G s m n) (hA : Ok A (k + 1)) (hn' : ∀ p ∈ R, p ∈ n) (hRn : (R.map (·.1)).Nodup)
    (h : ∀ L E', ∀ s₁, St C s (R.map (·.1)) (fnEnv f67.fd 67 L) [] s₁ (M67 (some a0) none none none) R → wpAny (MM C.w) (A.deeper (fnEnv f67.fd 67 L)) (execs f67.body (fnEnv f67.fd 67 L)) (fun fl s' => Q (match fl with | .ret v => v | _ => .none) s') E' s₁) :
    wpAny (MM C.w) A (call (.ref 67) [a0] []) Q E s :=
  enter f67 [("flags", a0)] _ R D hA rfl (by decide +kernel) (.of_eq (by kernel_rfl)) hl67 (mi67 C.w) hn' hRn h
/-- _get_name_info -/
@[reducible] noncomputable def f97 : FnOf 97 := by
  refine ⟨?fd, ?body, fun w => ?h, ?hb, fun w => ?hc, ?h1, ?h2, ?h3, ?h4, ?h5, ?hn⟩
  case h => exact rfl
  case hb => exact rfl
  case hc => kernel_rfl
  case h1 => rfl
  case h2 => rfl
  case h3 => rfl
  case h4 => rfl
  case h5 => rfl
  case hn => decide +kernel
noncomputable abbrev M97 (vname_index vget_name vextrainfo vargval : Option Value) : List (Str × Bnd) := [("name_index", .loc vname_index), ("get_name", .loc vget_name), ("extrainfo", .loc vextrainfo), ("argval", .loc vargval), ("UNKNOWN", .glo (.ref 90))]
theorem mi97 (w : World) {a0 a1 a2 : Value} : MiOk w [("name_index", a0), ("get_name", a1), ("extrainfo", a2)] f97.fd.scope.names (M97 (some a0) (some a1) (some a2) none) := ⟨rfl, ⟨rfl, rfl⟩, ⟨rfl, ⟨rfl, rfl⟩, ⟨rfl, ⟨rfl, rfl⟩, ⟨rfl, ⟨rfl, rfl⟩, ⟨rfl, ⟨rfl, gl_UNKNOWN w⟩, trivial⟩⟩⟩⟩⟩
theorem hl97 {a0 a1 a2 : Value} : ∀ x ∈ ([("name_index", a0), ("get_name", a1), ("extrainfo", a2)] : List (Str × Value)), f97.fd.scope.names.lookup x.1 = some .local := by
  intro x hx
  simp only [List.mem_cons, List.not_mem_nil, or_false] at hx
  rcases hx with rfl | rfl | rfl <;> rfl
/-- Whitespace.__init__ -/
@[reducible] noncomputable def f114 : FnOf 114 := by
  refine ⟨?fd, ?body, fun w => ?h, ?hb, fun w => ?hc, ?h1, ?h2, ?h3, ?h4, ?h5, ?hn⟩
  case h => exact rfl
  case hb => exact rfl
  case hc => kernel_rfl
  case h1 => rfl
  case h2 => rfl
  case h3 => rfl
  case h4 => rfl
  case h5 => rfl
  case hn => decide +kernel
noncomputable abbrev M114 (vself vws vS vT vcount vb vn vnt vch : Option Value) : List (Str × Bnd) := [("self", .loc vself), ("ws", .loc vws), ("S", .loc vS), ("T", .loc vT), ("count", .loc vcount), ("b", .loc vb), ("n", .loc vn), ("nt", .loc vnt), ("ch", .loc vch), ("Whitespace", .glo (.ref 159)), ("len", .glo (.builtin "len")), ("tuple", .glo (.type "tuple"))]
theorem mi114 (w : World) {a0 a1 : Value} : MiOk w [("self", a0), ("ws", a1)] f114.fd.scope.names (M114 (some a0) (some a1) none none none none none none none) := ⟨rfl, ⟨rfl, rfl⟩, ⟨rfl, ⟨rfl, rfl⟩, ⟨rfl, ⟨rfl, rfl⟩, ⟨rfl, ⟨rfl, rfl⟩, ⟨rfl, ⟨rfl, rfl⟩, ⟨rfl, ⟨rfl, rfl⟩, ⟨rfl, ⟨rfl, rfl⟩, ⟨rfl, ⟨rfl, rfl⟩, ⟨rfl, ⟨rfl, rfl⟩, ⟨rfl, ⟨rfl, gl_Whitespace w⟩, ⟨rfl, ⟨rfl, gl_len w⟩, ⟨rfl, ⟨rfl, gl_tuple w⟩, trivial⟩⟩⟩⟩⟩⟩⟩⟩⟩⟩⟩⟩
theorem hl114 {a0 a1 : Value} : ∀ x ∈ ([("self", a0), ("ws", a1)] : List (Str × Value)), f114.fd.scope.names.lookup x.1 = some .local := by
  intro x hx
  simp only [List.mem_cons, List.not_mem_nil, or_false] at hx
  rcases hx with rfl | rfl <;> rfl
theorem e114 {C : Cx} {s₀ s : Shared} {W : List Addr} {env : Env} {G : List (Nat × GenState)} {A : Around} {E : Value → Shared → Prop} {m : List (Str × Bnd)} {n : List (Addr × Obj)} {a0 a1 : Value} {k : Nat} {Q : Value → Shared → Prop}
    (R : List (Addr × Obj)) (D : St C s₀ W env G s m n) (hA : Ok A (k + 1)) (hn' : ∀ p ∈ R, p ∈ n) (hRn : (R.map (·.1)).Nodup)
    (h : ∀ L E', ∀ s₁, St C s (R.map (·.1)) (fnEnv f114.fd 114 L) [] s₁ (M114 (some a0) (some a1) none none none none none none none) R → wpAny (MM C.w) (A.deeper (fnEnv f114.fd 114 L)) (execs f114.body (fnEnv f114.fd 114 L)) (fun fl s' => Q (match fl with | .ret v => v | _ => .none) s') E' s₁) :
    wpAny (MM C.w) A (call (.ref 114) [a0, a1] []) Q E s :=
  enter f114 [("self", a0), ("ws", a1)] _ R D hA rfl (by decide +kernel) (.of_eq (by kernel_rfl)) hl114 (mi114 C.w) hn' hRn h
/-- Whitespace.longest_run_of_spaces -/
@[reducible] noncomputable def f121 : FnOf 121 := by
  refine ⟨?fd, ?body, fun w => ?h, ?hb, fun w => ?hc, ?h1, ?h2, ?h3, ?h4, ?h5, ?hn⟩
  case h => exact rfl
  case hb => exact rfl
  case hc => kernel_rfl
  case h1 => rfl
  case h2 => rfl
  case h3 => rfl
  case h4 => rfl
  case h5 => rfl
  case hn => decide +kernel
noncomputable abbrev M121 (vself vcount vtrailing : Option Value) : List (Str × Bnd) := [("self", .loc vself), ("count", .loc vcount), ("trailing", .loc vtrailing), ("max", .glo (.builtin "max")), ("len", .glo (.builtin "len"))]
theorem mi121 (w : World) {a0 : Value} : MiOk w [("self", a0)] f121.fd.scope.names (M121 (some a0) none none) := ⟨rfl, ⟨rfl, rfl⟩, ⟨rfl, ⟨rfl, rfl⟩, ⟨rfl, ⟨rfl, rfl⟩, ⟨rfl, ⟨rfl, gl_max w⟩, ⟨rfl, ⟨rfl, gl_len w⟩, trivial⟩⟩⟩⟩⟩
theorem hl121 {a0 : Value} : ∀ x ∈ ([("self", a0)] : List (Str × Value)), f121.fd.scope.names.lookup x.1 = some .local := by
  intro x hx
  simp only [List.mem_cons, List.not_mem_nil, or_false] at hx
  rcases hx with rfl <;> rfl
theorem e121 {C : Cx} {s₀ s : Shared} {W : List Addr} {env : Env} {G : List (Nat × GenState)} {A : Around} {E : Value → Shared → Prop} {m : List (Str × Bnd)} {n : List (Addr × Obj)} {a0 : Value} {k : Nat} {Q : Value → Shared → Prop}
    (R : List (Addr × Obj)) (D : St C s₀ W env G s m n) (hA : Ok A (k + 1)) (hn' : ∀ p ∈ R, p ∈ n) (hRn : (R.map (·.1)).Nodup)
    (h : ∀ L E', ∀ s₁, St C s (R.map (·.1)) (fnEnv f121.fd 121 L) [] s₁ (M121 (some a0) none none) R → wpAny (MM C.w) (A.deeper (fnEnv f121.fd 121 L)) (execs f121.body (fnEnv f121.fd 121 L)) (fun fl s' => Q (match fl with | .ret v => v | _ => .none) s') E' s₁) :
    wpAny (MM C.w) A (call (.ref 121) [a0] []) Q E s :=
  enter f121 [("self", a0)] _ R D hA rfl (by decide +kernel) (.of_eq (by kernel_rfl)) hl121 (mi121 C.w) hn' hRn h
/-- Whitespace.indent_level -/
@[reducible] noncomputable def f128 : FnOf 128 := by
  refine ⟨?fd, ?body, fun w => ?h, ?hb, fun w => ?hc, ?h1, ?h2, ?h3, ?h4, ?h5, ?hn⟩
  case h => exact rfl
  case hb => exact rfl
  case hc => kernel_rfl
  case h1 => rfl
  case h2 => rfl
  case h3 => rfl
  case h4 => rfl
  case h5 => rfl
  case hn => decide +kernel
noncomputable abbrev M128 (vself vtabsize vcount vtrailing vil vi : Option Value) : List (Str × Bnd) := [("self", .loc vself), ("tabsize", .loc vtabsize), ("count", .loc vcount), ("trailing", .loc vtrailing), ("il", .loc vil), ("i", .loc vi), ("range", .glo (.type "range")), ("len", .glo (.builtin "len"))]
theorem mi128 (w : World) {a0 a1 : Value} : MiOk w [("self", a0), ("tabsize", a1)] f128.fd.scope.names (M128 (some a0) (some a1) none none none none) := ⟨rfl, ⟨rfl, rfl⟩, ⟨rfl, ⟨rfl, rfl⟩, ⟨rfl, ⟨rfl, rfl⟩, ⟨rfl, ⟨rfl, rfl⟩, ⟨rfl, ⟨rfl, rfl⟩, ⟨rfl, ⟨rfl, rfl⟩, ⟨rfl, ⟨rfl, gl_range w⟩, ⟨rfl, ⟨rfl, gl_len w⟩, trivial⟩⟩⟩⟩⟩⟩⟩⟩
theorem hl128 {a0 a1 : Value} : ∀ x ∈ ([("self", a0), ("tabsize", a1)] : List (Str × Value)), f128.fd.scope.names.lookup x.1 = some .local := by
  intro x hx
  simp only [List.mem_cons, List.not_mem_nil, or_false] at hx
  rcases hx with rfl | rfl <;> rfl
theorem e128 {C : Cx} {s₀ s : Shared} {W : List Addr} {env : Env} {G : List (Nat × GenState)} {A : Around} {E : Value → Shared → Prop} {m : List (Str × Bnd)} {n : List (Addr × Obj)} {a0 a1 : Value} {k : Nat} {Q : Value → Shared → Prop}
    (R : List (Addr × Obj)) (D : St C s₀ W env G s m n) (hA : Ok A (k + 1)) (hn' : ∀ p ∈ R, p ∈ n) (hRn : (R.map (·.1)).Nodup)
    (h : ∀ L E', ∀ s₁, St C s (R.map (·.1)) (fnEnv f128.fd 128 L) [] s₁ (M128 (some a0) (some a1) none none none none) R → wpAny (MM C.w) (A.deeper (fnEnv f128.fd 128 L)) (execs f128.body (fnEnv f128.fd 128 L)) (fun fl s' => Q (match fl with | .ret v => v | _ => .none) s') E' s₁) :
    wpAny (MM C.w) A (call (.ref 128) [a0, a1] []) Q E s :=
  enter f128 [("self", a0), ("tabsize", a1)] _ R D hA rfl (by decide +kernel) (.of_eq (by kernel_rfl)) hl128 (mi128 C.w) hn' hRn h
/-- Whitespace.not_equal_witness -/
@[reducible] noncomputable def f142 : FnOf 142 := by
  refine ⟨?fd, ?body, fun w => ?h, ?hb, fun w => ?hc, ?h1, ?h2, ?h3, ?h4, ?h5, ?hn⟩
  case h => exact rfl
  case hb => exact rfl
  case hc => kernel_rfl
  case h1 => rfl
  case h2 => rfl
  case h3 => rfl
  case h4 => rfl
  case h5 => rfl
  case hn => decide +kernel
noncomputable abbrev M142 (vself vother vn va vts : Option Value) : List (Str × Bnd) := [("self", .loc vself), ("other", .loc vother), ("n", .loc vn), ("a", .loc va), ("ts", .loc vts), ("max", .glo (.builtin "max")), ("range", .glo (.type "range"))]
theorem mi142 (w : World) {a0 a1 : Value} : MiOk w [("self", a0), ("other", a1)] f142.fd.scope.names (M142 (some a0) (some a1) none none none) := ⟨rfl, ⟨rfl, rfl⟩, ⟨rfl, ⟨rfl, rfl⟩, ⟨rfl, ⟨rfl, rfl⟩, ⟨rfl, ⟨rfl, rfl⟩, ⟨rfl, ⟨rfl, rfl⟩, ⟨rfl, ⟨rfl, gl_max w⟩, ⟨rfl, ⟨rfl, gl_range w⟩, trivial⟩⟩⟩⟩⟩⟩⟩
theorem hl142 {a0 a1 : Value} : ∀ x ∈ ([("self", a0), ("other", a1)] : List (Str × Value)), f142.fd.scope.names.lookup x.1 = some .local := by
  intro x hx
  simp only [List.mem_cons, List.not_mem_nil, or_false] at hx
  rcases hx with rfl | rfl <;> rfl
theorem e142 {C : Cx} {s₀ s : Shared} {W : List Addr} {env : Env} {G : List (Nat × GenState)} {A : Around} {E : Value → Shared → Prop} {m : List (Str × Bnd)} {n : List (Addr × Obj)} {a0 a1 : Value} {k : Nat} {Q : Value → Shared → Prop}
    (R : List (Addr × Obj)) (D : St C s₀ W env G s m n) (hA : Ok A (k + 1)) (hn' : ∀ p ∈ R, p ∈ n) (hRn : (R.map (·.1)).Nodup)
    (h : ∀ L E', ∀ s₁, St C s (R.map (·.1)) (fnEnv f142.fd 142 L) [] s₁ (M142 (some a0) (some a1) none none none) R → wpAny (MM C.w) (A.deeper (fnEnv f142.fd 142 L)) (execs f142.body (fnEnv f142.fd 142 L)) (fun fl s' => Q (match fl with | .ret v => v | _ => .none) s') E' s₁) :
    wpAny (MM C.w) A (call (.ref 142) [a0, a1] []) Q E s :=
  enter f142 [("self", a0), ("other", a1)] _ R D hA rfl (by decide +kernel) (.of_eq (by kernel_rfl)) hl142 (mi142 C.w) hn' hRn h
/-- _formatparam -/
@[reducible] noncomputable def f186 : FnOf 186 := by
  refine ⟨?fd, ?body, fun w => ?h, ?hb, fun w => ?hc, ?h1, ?h2, ?h3, ?h4, ?h5, ?hn⟩
  case h => exact rfl
  case hb => exact rfl
  case hc => kernel_rfl
  case h1 => rfl
  case h2 => rfl
  case h3 => rfl
  case h4 => rfl
  case h5 => rfl
  case hn => decide +kernel
noncomputable abbrev M186 (vparam vvalue vquote : Option Value) : List (Str × Bnd) := [("param", .loc vparam), ("value", .loc vvalue), ("quote", .loc vquote), ("len", .glo (.builtin "len")), ("tspecials", .glo (.ref 168))]
theorem mi186 (w : World) {a0 a1 a2 : Value} : MiOk w [("param", a0), ("value", a1), ("quote", a2)] f186.fd.scope.names (M186 (some a0) (some a1) (some a2)) := ⟨rfl, ⟨rfl, rfl⟩, ⟨rfl, ⟨rfl, rfl⟩, ⟨rfl, ⟨rfl, rfl⟩, ⟨rfl, ⟨rfl, gl_len w⟩, ⟨rfl, ⟨rfl, gl_tspecials w⟩, trivial⟩⟩⟩⟩⟩
theorem hl186 {a0 a1 a2 : Value} : ∀ x ∈ ([("param", a0), ("value", a1), ("quote", a2)] : List (Str × Value)), f186.fd.scope.names.lookup x.1 = some .local := by
  intro x hx
  simp only [List.mem_cons, List.not_mem_nil, or_false] at hx
  rcases hx with rfl | rfl | rfl <;> rfl
theorem e186 {C : Cx} {s₀ s : Shared} {W : List Addr} {env : Env} {G : List (Nat × GenState)} {A : Around} {E : Value → Shared → Prop} {m : List (Str × Bnd)} {n : List (Addr × Obj)} {a0 a1 a2 : Value} {k : Nat} {Q : Value → Shared → Prop}
    (R : List (Addr × Obj)) (D : St C s₀ W env G s m n) (hA : Ok A (k + 1)) (hn' : ∀ p ∈ R, p ∈ n) (hRn : (R.map (·.1)).Nodup)
    (h : ∀ L E', ∀ s₁, St C s (R.map (·.1)) (fnEnv f186.fd 186 L) [] s₁ (M186 (some a0) (some a1) (some a2)) R → wpAny (MM C.w) (A.deeper (fnEnv f186.fd 186 L)) (execs f186.body (fnEnv f186.fd 186 L)) (fun fl s' => Q (match fl with | .ret v => v | _ => .none) s') E' s₁) :
    wpAny (MM C.w) A (call (.ref 186) [a0, a1, a2] []) Q E s :=
  enter f186 [("param", a0), ("value", a1), ("quote", a2)] _ R D hA rfl (by decide +kernel) (.of_defaults rfl (D.g.K 179 _ rfl) rfl rfl (by kernel_rfl)) hl186 (mi186 C.w) hn' hRn h
/-- Headers.__init__ -/
@[reducible] noncomputable def f201 : FnOf 201 := by
  refine ⟨?fd, ?body, fun w => ?h, ?hb, fun w => ?hc, ?h1, ?h2, ?h3, ?h4, ?h5, ?hn⟩
  case h => exact rfl
  case hb => exact rfl
  case hc => kernel_rfl
  case h1 => rfl
  case h2 => rfl
  case h3 => rfl
  case h4 => rfl
  case h5 => rfl
  case hn => decide +kernel
noncomputable abbrev M201 (vself vheaders vk vv : Option Value) : List (Str × Bnd) := [("self", .loc vself), ("headers", .loc vheaders), ("k", .loc vk), ("v", .loc vv), ("type", .glo (.type "type")), ("list", .glo (.type "list")), ("TypeError", .unk), ("__debug__", .unk)]
theorem mi201 (w : World) {a0 a1 : Value} : MiOk w [("self", a0), ("headers", a1)] f201.fd.scope.names (M201 (some a0) (some a1) none none) := ⟨rfl, ⟨rfl, rfl⟩, ⟨rfl, ⟨rfl, rfl⟩, ⟨rfl, ⟨rfl, rfl⟩, ⟨rfl, ⟨rfl, rfl⟩, ⟨rfl, ⟨rfl, gl_type w⟩, ⟨rfl, ⟨rfl, gl_list w⟩, ⟨rfl, trivial, ⟨rfl, trivial, trivial⟩⟩⟩⟩⟩⟩⟩⟩
theorem hl201 {a0 a1 : Value} : ∀ x ∈ ([("self", a0), ("headers", a1)] : List (Str × Value)), f201.fd.scope.names.lookup x.1 = some .local := by
  intro x hx
  simp only [List.mem_cons, List.not_mem_nil, or_false] at hx
  rcases hx with rfl | rfl <;> rfl
theorem e201 {C : Cx} {s₀ s : Shared} {W : List Addr} {env : Env} {G : List (Nat × GenState)} {A : Around} {E : Value → Shared → Prop} {m : List (Str × Bnd)} {n : List (Addr × Obj)} {a0 a1 : Value} {k : Nat} {Q : Value → Shared → Prop}
    (R : List (Addr × Obj)) (D : St C s₀ W env G s m n) (hA : Ok A (k + 1)) (hn' : ∀ p ∈ R, p ∈ n) (hRn : (R.map (·.1)).Nodup)
    (h : ∀ L E', ∀ s₁, St C s (R.map (·.1)) (fnEnv f201.fd 201 L) [] s₁ (M201 (some a0) (some a1) none none) R → wpAny (MM C.w) (A.deeper (fnEnv f201.fd 201 L)) (execs f201.body (fnEnv f201.fd 201 L)) (fun fl s' => Q (match fl with | .ret v => v | _ => .none) s') E' s₁) :
    wpAny (MM C.w) A (call (.ref 201) [a0, a1] []) Q E s :=
  enter f201 [("self", a0), ("headers", a1)] _ R D hA rfl (by decide +kernel) (.of_defaults rfl (D.g.K 194 _ rfl) rfl rfl (by kernel_rfl)) hl201 (mi201 C.w) hn' hRn h
/-- Headers._convert_string_type -/
@[reducible] noncomputable def f208 : FnOf 208 := by
  refine ⟨?fd, ?body, fun w => ?h, ?hb, fun w => ?hc, ?h1, ?h2, ?h3, ?h4, ?h5, ?hn⟩
  case h => exact rfl
  case hb => exact rfl
  case hc => kernel_rfl
  case h1 => rfl
  case h2 => rfl
  case h3 => rfl
  case h4 => rfl
  case h5 => rfl
  case hn => decide +kernel
noncomputable abbrev M208 (vself vvalue vname vregex : Option Value) : List (Str × Bnd) := [("self", .loc vself), ("value", .loc vvalue), ("name", .loc vname), ("regex", .loc vregex), ("type", .glo (.type "type")), ("str", .glo (.type "str")), ("_name_disallowed_re", .glo (.ref 173)), ("_value_disallowed_re", .glo (.ref 178)), ("ValueError", .unk), ("AssertionError", .unk), ("repr", .unk)]
theorem mi208 (w : World) {a0 a1 a2 : Value} : MiOk w [("self", a0), ("value", a1), ("name", a2)] f208.fd.scope.names (M208 (some a0) (some a1) (some a2) none) := ⟨rfl, ⟨rfl, rfl⟩, ⟨rfl, ⟨rfl, rfl⟩, ⟨rfl, ⟨rfl, rfl⟩, ⟨rfl, ⟨rfl, rfl⟩, ⟨rfl, ⟨rfl, gl_type w⟩, ⟨rfl, ⟨rfl, gl_str w⟩, ⟨rfl, ⟨rfl, gl_name_disallowed_re w⟩, ⟨rfl, ⟨rfl, gl_value_disallowed_re w⟩, ⟨rfl, trivial, ⟨rfl, trivial, ⟨rfl, trivial, trivial⟩⟩⟩⟩⟩⟩⟩⟩⟩⟩⟩
theorem hl208 {a0 a1 a2 : Value} : ∀ x ∈ ([("self", a0), ("value", a1), ("name", a2)] : List (Str × Value)), f208.fd.scope.names.lookup x.1 = some .local := by
  intro x hx
  simp only [List.mem_cons, List.not_mem_nil, or_false] at hx
  rcases hx with rfl | rfl | rfl <;> rfl
/-- Headers.__contains__ -/
@[reducible] noncomputable def f241 : FnOf 241 := by
  refine ⟨?fd, ?body, fun w => ?h, ?hb, fun w => ?hc, ?h1, ?h2, ?h3, ?h4, ?h5, ?hn⟩
  case h => exact rfl
  case hb => exact rfl
  case hc => kernel_rfl
  case h1 => rfl
  case h2 => rfl
  case h3 => rfl
  case h4 => rfl
  case h5 => rfl
  case hn => decide +kernel
noncomputable abbrev M241 (vself vname : Option Value) : List (Str × Bnd) := [("self", .loc vself), ("name", .loc vname)]
theorem mi241 (w : World) {a0 a1 : Value} : MiOk w [("self", a0), ("name", a1)] f241.fd.scope.names (M241 (some a0) (some a1)) := ⟨rfl, ⟨rfl, rfl⟩, ⟨rfl, ⟨rfl, rfl⟩, trivial⟩⟩
theorem hl241 {a0 a1 : Value} : ∀ x ∈ ([("self", a0), ("name", a1)] : List (Str × Value)), f241.fd.scope.names.lookup x.1 = some .local := by
  intro x hx
  simp only [List.mem_cons, List.not_mem_nil, or_false] at hx
  rcases hx with rfl | rfl <;> rfl
theorem e241 {C : Cx} {s₀ s : Shared} {W : List Addr} {env : Env} {G : List (Nat × GenState)} {A : Around} {E : Value → Shared → Prop} {m : List (Str × Bnd)} {n : List (Addr × Obj)} {a0 a1 : Value} {k : Nat} {Q : Value → Shared → Prop}
    (R : List (Addr × Obj)) (D : St C s₀ W env G s m n) (hA : Ok A (k + 1)) (hn' : ∀ p ∈ R, p ∈ n) (hRn : (R.map (·.1)).Nodup)
    (h : ∀ L E', ∀ s₁, St C s (R.map (·.1)) (fnEnv f241.fd 241 L) [] s₁ (M241 (some a0) (some a1)) R → wpAny (MM C.w) (A.deeper (fnEnv f241.fd 241 L)) (execs f241.body (fnEnv f241.fd 241 L)) (fun fl s' => Q (match fl with | .ret v => v | _ => .none) s') E' s₁) :
    wpAny (MM C.w) A (call (.ref 241) [a0, a1] []) Q E s :=
  enter f241 [("self", a0), ("name", a1)] _ R D hA rfl (by decide +kernel) (.of_eq (by kernel_rfl)) hl241 (mi241 C.w) hn' hRn h
/-- Headers.get -/
@[reducible] noncomputable def f256 : FnOf 256 := by
  refine ⟨?fd, ?body, fun w => ?h, ?hb, fun w => ?hc, ?h1, ?h2, ?h3, ?h4, ?h5, ?hn⟩
  case h => exact rfl
  case hb => exact rfl
  case hc => kernel_rfl
  case h1 => rfl
  case h2 => rfl
  case h3 => rfl
  case h4 => rfl
  case h5 => rfl
  case hn => decide +kernel
noncomputable abbrev M256 (vself vname vdefault vk vv : Option Value) : List (Str × Bnd) := [("self", .loc vself), ("name", .loc vname), ("default", .loc vdefault), ("k", .loc vk), ("v", .loc vv)]
theorem mi256 (w : World) {a0 a1 a2 : Value} : MiOk w [("self", a0), ("name", a1), ("default", a2)] f256.fd.scope.names (M256 (some a0) (some a1) (some a2) none none) := ⟨rfl, ⟨rfl, rfl⟩, ⟨rfl, ⟨rfl, rfl⟩, ⟨rfl, ⟨rfl, rfl⟩, ⟨rfl, ⟨rfl, rfl⟩, ⟨rfl, ⟨rfl, rfl⟩, trivial⟩⟩⟩⟩⟩
theorem hl256 {a0 a1 a2 : Value} : ∀ x ∈ ([("self", a0), ("name", a1), ("default", a2)] : List (Str × Value)), f256.fd.scope.names.lookup x.1 = some .local := by
  intro x hx
  simp only [List.mem_cons, List.not_mem_nil, or_false] at hx
  rcases hx with rfl | rfl | rfl <;> rfl
theorem e256 {C : Cx} {s₀ s : Shared} {W : List Addr} {env : Env} {G : List (Nat × GenState)} {A : Around} {E : Value → Shared → Prop} {m : List (Str × Bnd)} {n : List (Addr × Obj)} {a0 a1 a2 : Value} {k : Nat} {Q : Value → Shared → Prop}
    (R : List (Addr × Obj)) (D : St C s₀ W env G s m n) (hA : Ok A (k + 1)) (hn' : ∀ p ∈ R, p ∈ n) (hRn : (R.map (·.1)).Nodup)
    (h : ∀ L E', ∀ s₁, St C s (R.map (·.1)) (fnEnv f256.fd 256 L) [] s₁ (M256 (some a0) (some a1) (some a2) none none) R → wpAny (MM C.w) (A.deeper (fnEnv f256.fd 256 L)) (execs f256.body (fnEnv f256.fd 256 L)) (fun fl s' => Q (match fl with | .ret v => v | _ => .none) s') E' s₁) :
    wpAny (MM C.w) A (call (.ref 256) [a0, a1, a2] []) Q E s :=
  enter f256 [("self", a0), ("name", a1), ("default", a2)] _ R D hA rfl (by decide +kernel) (.of_defaults rfl (D.g.K 249 _ rfl) rfl rfl (by kernel_rfl)) hl256 (mi256 C.w) hn' hRn h
/-- Headers.keys -/
@[reducible] noncomputable def f261 : FnOf 261 := by
  refine ⟨?fd, ?body, fun w => ?h, ?hb, fun w => ?hc, ?h1, ?h2, ?h3, ?h4, ?h5, ?hn⟩
  case h => exact rfl
  case hb => exact rfl
  case hc => kernel_rfl
  case h1 => rfl
  case h2 => rfl
  case h3 => rfl
  case h4 => rfl
  case h5 => rfl
  case hn => decide +kernel
noncomputable abbrev M261 (vself : Option Value) : List (Str × Bnd) := [("self", .loc vself)]
theorem mi261 (w : World) {a0 : Value} : MiOk w [("self", a0)] f261.fd.scope.names (M261 (some a0)) := ⟨rfl, ⟨rfl, rfl⟩, trivial⟩
theorem hl261 {a0 : Value} : ∀ x ∈ ([("self", a0)] : List (Str × Value)), f261.fd.scope.names.lookup x.1 = some .local := by
  intro x hx
  simp only [List.mem_cons, List.not_mem_nil, or_false] at hx
  rcases hx with rfl <;> rfl
theorem e261 {C : Cx} {s₀ s : Shared} {W : List Addr} {env : Env} {G : List (Nat × GenState)} {A : Around} {E : Value → Shared → Prop} {m : List (Str × Bnd)} {n : List (Addr × Obj)} {a0 : Value} {k : Nat} {Q : Value → Shared → Prop}
    (R : List (Addr × Obj)) (D : St C s₀ W env G s m n) (hA : Ok A (k + 1)) (hn' : ∀ p ∈ R, p ∈ n) (hRn : (R.map (·.1)).Nodup)
    (h : ∀ L E', ∀ s₁, St C s (R.map (·.1)) (fnEnv f261.fd 261 L) [] s₁ (M261 (some a0)) R → wpAny (MM C.w) (A.deeper (fnEnv f261.fd 261 L)) (execs f261.body (fnEnv f261.fd 261 L)) (fun fl s' => Q (match fl with | .ret v => v | _ => .none) s') E' s₁) :
    wpAny (MM C.w) A (call (.ref 261) [a0] []) Q E s :=
  enter f261 [("self", a0)] _ R D hA rfl (by decide +kernel) (.of_eq (by kernel_rfl)) hl261 (mi261 C.w) hn' hRn h
/-- Headers.values -/
@[reducible] noncomputable def f266 : FnOf 266 := by
  refine ⟨?fd, ?body, fun w => ?h, ?hb, fun w => ?hc, ?h1, ?h2, ?h3, ?h4, ?h5, ?hn⟩
  case h => exact rfl
  case hb => exact rfl
  case hc => kernel_rfl
  case h1 => rfl
  case h2 => rfl
  case h3 => rfl
  case h4 => rfl
  case h5 => rfl
  case hn => decide +kernel
noncomputable abbrev M266 (vself : Option Value) : List (Str × Bnd) := [("self", .loc vself)]
theorem mi266 (w : World) {a0 : Value} : MiOk w [("self", a0)] f266.fd.scope.names (M266 (some a0)) := ⟨rfl, ⟨rfl, rfl⟩, trivial⟩
theorem hl266 {a0 : Value} : ∀ x ∈ ([("self", a0)] : List (Str × Value)), f266.fd.scope.names.lookup x.1 = some .local := by
  intro x hx
  simp only [List.mem_cons, List.not_mem_nil, or_false] at hx
  rcases hx with rfl <;> rfl
theorem e266 {C : Cx} {s₀ s : Shared} {W : List Addr} {env : Env} {G : List (Nat × GenState)} {A : Around} {E : Value → Shared → Prop} {m : List (Str × Bnd)} {n : List (Addr × Obj)} {a0 : Value} {k : Nat} {Q : Value → Shared → Prop}
    (R : List (Addr × Obj)) (D : St C s₀ W env G s m n) (hA : Ok A (k + 1)) (hn' : ∀ p ∈ R, p ∈ n) (hRn : (R.map (·.1)).Nodup)
    (h : ∀ L E', ∀ s₁, St C s (R.map (·.1)) (fnEnv f266.fd 266 L) [] s₁ (M266 (some a0)) R → wpAny (MM C.w) (A.deeper (fnEnv f266.fd 266 L)) (execs f266.body (fnEnv f266.fd 266 L)) (fun fl s' => Q (match fl with | .ret v => v | _ => .none) s') E' s₁) :
    wpAny (MM C.w) A (call (.ref 266) [a0] []) Q E s :=
  enter f266 [("self", a0)] _ R D hA rfl (by decide +kernel) (.of_eq (by kernel_rfl)) hl266 (mi266 C.w) hn' hRn h
/-- Headers.setdefault -/
@[reducible] noncomputable def f299 : FnOf 299 := by
  refine ⟨?fd, ?body, fun w => ?h, ?hb, fun w => ?hc, ?h1, ?h2, ?h3, ?h4, ?h5, ?hn⟩
  case h => exact rfl
  case hb => exact rfl
  case hc => kernel_rfl
  case h1 => rfl
  case h2 => rfl
  case h3 => rfl
  case h4 => rfl
  case h5 => rfl
  case hn => decide +kernel
noncomputable abbrev M299 (vself vname vvalue vresult : Option Value) : List (Str × Bnd) := [("self", .loc vself), ("name", .loc vname), ("value", .loc vvalue), ("result", .loc vresult)]
theorem mi299 (w : World) {a0 a1 a2 : Value} : MiOk w [("self", a0), ("name", a1), ("value", a2)] f299.fd.scope.names (M299 (some a0) (some a1) (some a2) none) := ⟨rfl, ⟨rfl, rfl⟩, ⟨rfl, ⟨rfl, rfl⟩, ⟨rfl, ⟨rfl, rfl⟩, ⟨rfl, ⟨rfl, rfl⟩, trivial⟩⟩⟩⟩
theorem hl299 {a0 a1 a2 : Value} : ∀ x ∈ ([("self", a0), ("name", a1), ("value", a2)] : List (Str × Value)), f299.fd.scope.names.lookup x.1 = some .local := by
  intro x hx
  simp only [List.mem_cons, List.not_mem_nil, or_false] at hx
  rcases hx with rfl | rfl | rfl <;> rfl
theorem e299 {C : Cx} {s₀ s : Shared} {W : List Addr} {env : Env} {G : List (Nat × GenState)} {A : Around} {E : Value → Shared → Prop} {m : List (Str × Bnd)} {n : List (Addr × Obj)} {a0 a1 a2 : Value} {k : Nat} {Q : Value → Shared → Prop}
    (R : List (Addr × Obj)) (D : St C s₀ W env G s m n) (hA : Ok A (k + 1)) (hn' : ∀ p ∈ R, p ∈ n) (hRn : (R.map (·.1)).Nodup)
    (h : ∀ L E', ∀ s₁, St C s (R.map (·.1)) (fnEnv f299.fd 299 L) [] s₁ (M299 (some a0) (some a1) (some a2) none) R → wpAny (MM C.w) (A.deeper (fnEnv f299.fd 299 L)) (execs f299.body (fnEnv f299.fd 299 L)) (fun fl s' => Q (match fl with | .ret v => v | _ => .none) s') E' s₁) :
    wpAny (MM C.w) A (call (.ref 299) [a0, a1, a2] []) Q E s :=
  enter f299 [("self", a0), ("name", a1), ("value", a2)] _ R D hA rfl (by decide +kernel) (.of_eq (by kernel_rfl)) hl299 (mi299 C.w) hn' hRn h
/-- Headers.add_header -/
@[reducible] noncomputable def f306 : FnOf 306 := by
  refine ⟨?fd, ?body, fun w => ?h, ?hb, fun w => ?hc, ?h1, ?h2, ?h3, ?h4, ?h5, ?hn⟩
  case h => exact rfl
  case hb => exact rfl
  case hc => kernel_rfl
  case h1 => rfl
  case h2 => rfl
  case h3 => rfl
  case h4 => rfl
  case h5 => rfl
  case hn => decide +kernel
noncomputable abbrev M306 (vself vname vvalue vparams vparts vk vv : Option Value) : List (Str × Bnd) := [("self", .loc vself), ("_name", .loc vname), ("_value", .loc vvalue), ("_params", .loc vparams), ("parts", .loc vparts), ("k", .loc vk), ("v", .loc vv), ("_formatparam", .glo (.ref 186))]
theorem mi306 (w : World) {a0 a1 a2 a3 : Value} : MiOk w [("self", a0), ("_name", a1), ("_value", a2), ("_params", a3)] f306.fd.scope.names (M306 (some a0) (some a1) (some a2) (some a3) none none none) := ⟨rfl, ⟨rfl, rfl⟩, ⟨rfl, ⟨rfl, rfl⟩, ⟨rfl, ⟨rfl, rfl⟩, ⟨rfl, ⟨rfl, rfl⟩, ⟨rfl, ⟨rfl, rfl⟩, ⟨rfl, ⟨rfl, rfl⟩, ⟨rfl, ⟨rfl, rfl⟩, ⟨rfl, ⟨rfl, gl_formatparam w⟩, trivial⟩⟩⟩⟩⟩⟩⟩⟩
theorem hl306 {a0 a1 a2 a3 : Value} : ∀ x ∈ ([("self", a0), ("_name", a1), ("_value", a2), ("_params", a3)] : List (Str × Value)), f306.fd.scope.names.lookup x.1 = some .local := by
  intro x hx
  simp only [List.mem_cons, List.not_mem_nil, or_false] at hx
  rcases hx with rfl | rfl | rfl | rfl <;> rfl
/-- _law_digits -/
@[reducible] noncomputable def f320 : FnOf 320 := by
  refine ⟨?fd, ?body, fun w => ?h, ?hb, fun w => ?hc, ?h1, ?h2, ?h3, ?h4, ?h5, ?hn⟩
  case h => exact rfl
  case hb => exact rfl
  case hc => kernel_rfl
  case h1 => rfl
  case h2 => rfl
  case h3 => rfl
  case h4 => rfl
  case h5 => rfl
  case hn => decide +kernel
noncomputable abbrev M320 (vnumber vbases vdigits vbase vdigit : Option Value) : List (Str × Bnd) := [("number", .loc vnumber), ("bases", .loc vbases), ("digits", .loc vdigits), ("base", .loc vbase), ("digit", .loc vdigit), ("divmod", .glo (.builtin "divmod"))]
theorem mi320 (w : World) {a0 a1 : Value} : MiOk w [("number", a0), ("bases", a1)] f320.fd.scope.names (M320 (some a0) (some a1) none none none) := ⟨rfl, ⟨rfl, rfl⟩, ⟨rfl, ⟨rfl, rfl⟩, ⟨rfl, ⟨rfl, rfl⟩, ⟨rfl, ⟨rfl, rfl⟩, ⟨rfl, ⟨rfl, rfl⟩, ⟨rfl, ⟨rfl, gl_divmod w⟩, trivial⟩⟩⟩⟩⟩⟩
theorem hl320 {a0 a1 : Value} : ∀ x ∈ ([("number", a0), ("bases", a1)] : List (Str × Value)), f320.fd.scope.names.lookup x.1 = some .local := by
  intro x hx
  simp only [List.mem_cons, List.not_mem_nil, or_false] at hx
  rcases hx with rfl | rfl <;> rfl
theorem e320 {C : Cx} {s₀ s : Shared} {W : List Addr} {env : Env} {G : List (Nat × GenState)} {A : Around} {E : Value → Shared → Prop} {m : List (Str × Bnd)} {n : List (Addr × Obj)} {a0 a1 : Value} {k : Nat} {Q : Value → Shared → Prop}
    (R : List (Addr × Obj)) (D : St C s₀ W env G s m n) (hA : Ok A (k + 1)) (hn' : ∀ p ∈ R, p ∈ n) (hRn : (R.map (·.1)).Nodup)
    (h : ∀ L E', ∀ s₁, St C s (R.map (·.1)) (fnEnv f320.fd 320 L) [] s₁ (M320 (some a0) (some a1) none none none) R → wpAny (MM C.w) (A.deeper (fnEnv f320.fd 320 L)) (execs f320.body (fnEnv f320.fd 320 L)) (fun fl s' => Q (match fl with | .ret v => v | _ => .none) s') E' s₁) :
    wpAny (MM C.w) A (call (.ref 320) [a0, a1] []) Q E s :=
  enter f320 [("number", a0), ("bases", a1)] _ R D hA rfl (by decide +kernel) (.of_eq (by kernel_rfl)) hl320 (mi320 C.w) hn' hRn h
/-- _law_column -/
@[reducible] noncomputable def f327 : FnOf 327 := by
  refine ⟨?fd, ?body, fun w => ?h, ?hb, fun w => ?hc, ?h1, ?h2, ?h3, ?h4, ?h5, ?hn⟩
  case h => exact rfl
  case hb => exact rfl
  case hc => kernel_rfl
  case h1 => rfl
  case h2 => rfl
  case h3 => rfl
  case h4 => rfl
  case h5 => rfl
  case hn => decide +kernel
noncomputable abbrev M327 (vlead vsize vcolumn vsign : Option Value) : List (Str × Bnd) := [("lead", .loc vlead), ("size", .loc vsize), ("column", .loc vcolumn), ("sign", .loc vsign)]
theorem mi327 (w : World) {a0 a1 : Value} : MiOk w [("lead", a0), ("size", a1)] f327.fd.scope.names (M327 (some a0) (some a1) none none) := ⟨rfl, ⟨rfl, rfl⟩, ⟨rfl, ⟨rfl, rfl⟩, ⟨rfl, ⟨rfl, rfl⟩, ⟨rfl, ⟨rfl, rfl⟩, trivial⟩⟩⟩⟩
theorem hl327 {a0 a1 : Value} : ∀ x ∈ ([("lead", a0), ("size", a1)] : List (Str × Value)), f327.fd.scope.names.lookup x.1 = some .local := by
  intro x hx
  simp only [List.mem_cons, List.not_mem_nil, or_false] at hx
  rcases hx with rfl | rfl <;> rfl
theorem e327 {C : Cx} {s₀ s : Shared} {W : List Addr} {env : Env} {G : List (Nat × GenState)} {A : Around} {E : Value → Shared → Prop} {m : List (Str × Bnd)} {n : List (Addr × Obj)} {a0 a1 : Value} {k : Nat} {Q : Value → Shared → Prop}
    (R : List (Addr × Obj)) (D : St C s₀ W env G s m n) (hA : Ok A (k + 1)) (hn' : ∀ p ∈ R, p ∈ n) (hRn : (R.map (·.1)).Nodup)
    (h : ∀ L E', ∀ s₁, St C s (R.map (·.1)) (fnEnv f327.fd 327 L) [] s₁ (M327 (some a0) (some a1) none none) R → wpAny (MM C.w) (A.deeper (fnEnv f327.fd 327 L)) (execs f327.body (fnEnv f327.fd 327 L)) (fun fl s' => Q (match fl with | .ret v => v | _ => .none) s') E' s₁) :
    wpAny (MM C.w) A (call (.ref 327) [a0, a1] []) Q E s :=
  enter f327 [("lead", a0), ("size", a1)] _ R D hA rfl (by decide +kernel) (.of_eq (by kernel_rfl)) hl327 (mi327 C.w) hn' hRn h
/-- _law_lack -/
@[reducible] noncomputable def f334 : FnOf 334 := by
  refine ⟨?fd, ?body, fun w => ?h, ?hb, fun w => ?hc, ?h1, ?h2, ?h3, ?h4, ?h5, ?hn⟩
  case h => exact rfl
  case hb => exact rfl
  case hc => kernel_rfl
  case h1 => rfl
  case h2 => rfl
  case h3 => rfl
  case h4 => rfl
  case h5 => rfl
  case hn => decide +kernel
noncomputable abbrev M334 (vrow vmore vahead : Option Value) : List (Str × Bnd) := [("row", .loc vrow), ("more", .loc vmore), ("ahead", .loc vahead), ("max", .glo (.builtin "max")), ("len", .glo (.builtin "len")), ("_check_parenthesis", .glo (.ref 59))]
theorem mi334 (w : World) {a0 : Value} : MiOk w [("row", a0)] f334.fd.scope.names (M334 (some a0) none none) := ⟨rfl, ⟨rfl, rfl⟩, ⟨rfl, ⟨rfl, rfl⟩, ⟨rfl, ⟨rfl, rfl⟩, ⟨rfl, ⟨rfl, gl_max w⟩, ⟨rfl, ⟨rfl, gl_len w⟩, ⟨rfl, ⟨rfl, gl_check_parenthesis w⟩, trivial⟩⟩⟩⟩⟩⟩
theorem hl334 {a0 : Value} : ∀ x ∈ ([("row", a0)] : List (Str × Value)), f334.fd.scope.names.lookup x.1 = some .local := by
  intro x hx
  simp only [List.mem_cons, List.not_mem_nil, or_false] at hx
  rcases hx with rfl <;> rfl
theorem e334 {C : Cx} {s₀ s : Shared} {W : List Addr} {env : Env} {G : List (Nat × GenState)} {A : Around} {E : Value → Shared → Prop} {m : List (Str × Bnd)} {n : List (Addr × Obj)} {a0 : Value} {k : Nat} {Q : Value → Shared → Prop}
    (R : List (Addr × Obj)) (D : St C s₀ W env G s m n) (hA : Ok A (k + 1)) (hn' : ∀ p ∈ R, p ∈ n) (hRn : (R.map (·.1)).Nodup)
    (h : ∀ L E', ∀ s₁, St C s (R.map (·.1)) (fnEnv f334.fd 334 L) [] s₁ (M334 (some a0) none none) R → wpAny (MM C.w) (A.deeper (fnEnv f334.fd 334 L)) (execs f334.body (fnEnv f334.fd 334 L)) (fun fl s' => Q (match fl with | .ret v => v | _ => .none) s') E' s₁) :
    wpAny (MM C.w) A (call (.ref 334) [a0] []) Q E s :=
  enter f334 [("row", a0)] _ R D hA rfl (by decide +kernel) (.of_eq (by kernel_rfl)) hl334 (mi334 C.w) hn' hRn h
/-- _law_asked -/
@[reducible] noncomputable def f341 : FnOf 341 := by
  refine ⟨?fd, ?body, fun w => ?h, ?hb, fun w => ?hc, ?h1, ?h2, ?h3, ?h4, ?h5, ?hn⟩
  case h => exact rfl
  case hb => exact rfl
  case hc => kernel_rfl
  case h1 => rfl
  case h2 => rfl
  case h3 => rfl
  case h4 => rfl
  case h5 => rfl
  case hn => decide +kernel
noncomputable abbrev M341 (vname vvalue vtext : Option Value) (vtable : Addr) : List (Str × Bnd) := [("table", .cel vtable), ("name", .loc vname), ("value", .loc vvalue), ("text", .loc vtext), ("_get_name_info", .glo (.ref 97))]
/-- _law_way -/
@[reducible] noncomputable def f348 : FnOf 348 := by
  refine ⟨?fd, ?body, fun w => ?h, ?hb, fun w => ?hc, ?h1, ?h2, ?h3, ?h4, ?h5, ?hn⟩
  case h => exact rfl
  case hb => exact rfl
  case hc => kernel_rfl
  case h1 => rfl
  case h2 => rfl
  case h3 => rfl
  case h4 => rfl
  case h5 => rfl
  case hn => decide +kernel
noncomputable abbrev M348 (vseats vseat vring vother : Option Value) : List (Str × Bnd) := [("seats", .loc vseats), ("seat", .loc vseat), ("ring", .loc vring), ("other", .loc vother), ("_law_asked", .glo (.ref 341)), ("len", .glo (.builtin "len"))]
theorem mi348 (w : World) {a0 a1 : Value} : MiOk w [("seats", a0), ("seat", a1)] f348.fd.scope.names (M348 (some a0) (some a1) none none) := ⟨rfl, ⟨rfl, rfl⟩, ⟨rfl, ⟨rfl, rfl⟩, ⟨rfl, ⟨rfl, rfl⟩, ⟨rfl, ⟨rfl, rfl⟩, ⟨rfl, ⟨rfl, gl_law_asked w⟩, ⟨rfl, ⟨rfl, gl_len w⟩, trivial⟩⟩⟩⟩⟩⟩
theorem hl348 {a0 a1 : Value} : ∀ x ∈ ([("seats", a0), ("seat", a1)] : List (Str × Value)), f348.fd.scope.names.lookup x.1 = some .local := by
  intro x hx
  simp only [List.mem_cons, List.not_mem_nil, or_false] at hx
  rcases hx with rfl | rfl <;> rfl
theorem e348 {C : Cx} {s₀ s : Shared} {W : List Addr} {env : Env} {G : List (Nat × GenState)} {A : Around} {E : Value → Shared → Prop} {m : List (Str × Bnd)} {n : List (Addr × Obj)} {a0 a1 : Value} {k : Nat} {Q : Value → Shared → Prop}
    (R : List (Addr × Obj)) (D : St C s₀ W env G s m n) (hA : Ok A (k + 1)) (hn' : ∀ p ∈ R, p ∈ n) (hRn : (R.map (·.1)).Nodup)
    (h : ∀ L E', ∀ s₁, St C s (R.map (·.1)) (fnEnv f348.fd 348 L) [] s₁ (M348 (some a0) (some a1) none none) R → wpAny (MM C.w) (A.deeper (fnEnv f348.fd 348 L)) (execs f348.body (fnEnv f348.fd 348 L)) (fun fl s' => Q (match fl with | .ret v => v | _ => .none) s') E' s₁) :
    wpAny (MM C.w) A (call (.ref 348) [a0, a1] []) Q E s :=
  enter f348 [("seats", a0), ("seat", a1)] _ R D hA rfl (by decide +kernel) (.of_eq (by kernel_rfl)) hl348 (mi348 C.w) hn' hRn h
/-- a text by its signs -/
noncomputable def strOf (l : List Nat) : Str := ⟨l.toArray⟩
theorem strOf_append (a b : List Nat) : strOf a ++ strOf b = strOf (a ++ b) := Str.ext' (by simp [Str.cps_append, strOf])
theorem strOf_len (l : List Nat) : (strOf l).length = l.length := by simp [strOf, Str.length]
theorem strOf_toList (l : List Nat) : (strOf l).cps.toList = l := by simp [strOf]
theorem strOf_inj {a b : List Nat} : strOf a = strOf b ↔ a = b := ⟨fun h => by have := congrArg (fun x => x.cps.toList) h; simpa [strOf] using this, fun h => h ▸ rfl⟩
theorem lit_bs : Str.ofString "\\" = strOf [92] := by decide +kernel
theorem lit_q : Str.ofString "\"" = strOf [34] := by decide +kernel
theorem lit_op : Str.ofString "(" = strOf [40] := by decide +kernel
theorem lit_cl : Str.ofString ")" = strOf [41] := by decide +kernel
theorem lit_sp : Str.ofString " " = strOf [32] := by decide +kernel
theorem lit_tab : Str.ofString "\t" = strOf [9] := by decide +kernel
theorem lit_e : Str.ofString "" = strOf [] := by decide +kernel
theorem lit_lim : Str.ofString "  \t" = strOf [32, 32, 9] := by decide +kernel
theorem lit_x : Str.ofString "x" = strOf [120] := by decide +kernel
theorem lit_xt : Str.ofString "x\t" = strOf [120, 9] := by decide +kernel
theorem lit_abc : Str.ofString "abc" = strOf [97, 98, 99] := by decide +kernel
theorem lit_ABC : Str.ofString "ABC" = strOf [65, 66, 67] := by decide +kernel
theorem lit_k : Str.ofString "; k-" = strOf [59, 32, 107, 45] := by decide +kernel
theorem lit_eq : Str.ofString "=" = strOf [61] := by decide +kernel
theorem lit_D : Str.ofString "D" = strOf [68] := by decide +kernel
theorem lit_p1 : Str.ofString "\\(" = strOf [92, 40] := by decide +kernel
theorem lit_p2 : Str.ofString "\\)" = strOf [92, 41] := by decide +kernel
theorem lit_p3 : Str.ofString "\\\\" = strOf [92, 92] := by decide +kernel
theorem lit_p4 : Str.ofString "\\\"" = strOf [92, 34] := by decide +kernel
theorem lit_h3 : Str.ofString "\"(" = strOf [34, 40] := by decide +kernel
theorem lit_h5 : Str.ofString "\\\")" = strOf [92, 34, 41] := by decide +kernel
theorem lit_co : Str.ofString ", " = strOf [44, 32] := by decide +kernel
theorem lit_empty : Str.empty = strOf [] := rfl
section
variable {C : Cx} {s₀ : Shared} {W : List Addr} {env : Env} {G : List (Nat × GenState)} {A : Around} {E : Value → Shared → Prop} {m m' : List (Str × Bnd)} {n n' : List (Addr × Obj)}
  {a b : List Nat} {t u : Tok} {Q : Value → Shared → Prop}
theorem t_strL {x : Str} {k pos} {l : List Nat} (hx : x = strOf l) (h : ∀ (t : Tok), ∀ s, St C s₀ W env G s m n → Q (.str (strOf l) t) s) :
    ∀ s, St C s₀ W env G s m n → wpAny (MM C.w) A (eval (.Constant (.str x) k pos) env) Q E s := by subst hx; exact t_str h
theorem t_tplain {e : Expr} {whole : Sem Value} {Q : Bool → Shared → Prop} (h : ∀ s, St C s₀ W env G s m n → wpAny (MM C.w) A whole (KTr C A E Q) E s)
    (he : isTrue e env whole = (do let v ← whole; standAt e.pos; holding [v] (truthy v)) := by with_unfolding_all rfl) :
    ∀ s, St C s₀ W env G s m n → wpAny (MM C.w) A (isTrue e env whole) Q E s := fun s D => isTrue_plain (h s D) he
theorem o_adds (hl : (a ++ b).length ≤ sizeLine) (h : ∀ t, ∀ s, St C s₀ W env G s m n → Q (.str (strOf (a ++ b)) t) s) :
    ∀ s, St C s₀ W env G s m n → wpAny (MM C.w) A (binaryOp .Add (.str (strOf a) t) (.str (strOf b) u)) Q E s := fun s D => by
  refine P.add_str ?_
  by_cases h1 : a = []
  · subst h1
    rw [if_pos (by rw [strOf_len]; rfl)]
    exact h _ _ D
  · rw [if_neg (by rw [strOf_len]; simpa using h1)]
    by_cases h2 : b = []
    · subst h2
      rw [if_pos (by rw [strOf_len]; rfl)]
      have := h t _ D
      rw [List.append_nil] at this; exact this
    · rw [if_neg (by rw [strOf_len]; simpa using h2)]
      rw [strOf_append]
      exact ⟨by rw [strOf_len]; exact hl, h _ _ (D.tok _ _)⟩
theorem o_eqs (h : ∀ s, St C s₀ W env G s m n → Q (.bool (decide (a = b))) s) :
    ∀ s, St C s₀ W env G s m n → wpAny (MM C.w) A (compareOp .Eq (.str (strOf a) t) (.str (strOf b) u)) Q E s := fun s D => by
  refine P.eq_str ?_
  rw [strOf_toList, strOf_toList]
  have : (a == b) = decide (a = b) := by by_cases e : a = b <;> simp [e]
  rw [this]; exact h s D
theorem o_nes (h : ∀ s, St C s₀ W env G s m n → Q (.bool (!decide (a = b))) s) :
    ∀ s, St C s₀ W env G s m n → wpAny (MM C.w) A (compareOp .NotEq (.str (strOf a) t) (.str (strOf b) u)) Q E s := fun s D => by
  refine P.ne_str ?_
  rw [strOf_toList, strOf_toList]
  have : (a != b) = !decide (a = b) := by by_cases e : a = b <;> simp [e]
  rw [this]; exact h s D
end
noncomputable def slc (x : List Nat) (i j : Option Int) : List Nat := (Txt.slice (strOf x) i j).cps.toList
theorem slc_str (x : List Nat) (i j : Option Int) : Txt.slice (strOf x) i j = strOf (slc x i j) := Str.ext' (by simp [slc, strOf])
theorem slc_len (x : List Nat) (i j : Option Int) : (slc x i j).length ≤ x.length := by
  have := Txt.slice_le (strOf x) i j
  simpa [slc, strOf, Str.length] using this
theorem slc_ss {x : List Nat} {i j : Int} (h : 0 ≤ i ∧ i ≤ j ∧ j ≤ x.length) : slc x (some i) (some j) = (x.drop i.toNat).take (j - i).toNat := by
  have := slice_closes (x := strOf x) (i := i) (j := j) (by simpa [strOf] using h)
  have := eq_of_beq this
  rw [slc, this]; simp [strOf]
theorem slc_sn {x : List Nat} {i : Int} (h0 : 0 ≤ i) (h1 : i ≤ x.length) : slc x (some i) none = x.drop i.toNat := by
  have := slice_from_eq (x := strOf x) (i := i) (b := x.length) h0 (by simpa [strOf, Str.length] using h1) (by simp [strOf, Str.length])
  rw [slc, this]
  simp only [strOf]
  obtain ⟨j, rfl⟩ := Int.eq_ofNat_of_zero_le h0
  exact List.take_of_length_le (Nat.le_of_eq (by rw [List.length_drop]; exact (Int.toNat_sub _ _).symm))
/-- texts in a row -/
inductive SL : List Value → List (List Nat) → Prop
  | nil : SL [] []
  | cons (y : List Nat) (t : Tok) {vs ys} : SL vs ys → SL (.str (strOf y) t :: vs) (y :: ys)
theorem SL.strs {vs : List Value} {ls : List (List Nat)} (h : SL vs ls) : StrsAre vs (ls.map strOf) := by
  induction h with
  | nil => exact .nil
  | cons y t _ ih => exact .cons _ _ ih
theorem SL.snoc {vs : List Value} {ls : List (List Nat)} (h : SL vs ls) (y : List Nat) (t : Tok) : SL (vs ++ [.str (strOf y) t]) (ls ++ [y]) := by
  induction h with
  | nil => exact .cons _ _ .nil
  | cons _ _ _ ih => exact .cons _ _ ih
theorem SL.length {vs : List Value} {ls : List (List Nat)} (h : SL vs ls) : vs.length = ls.length := by
  induction h with
  | nil => rfl
  | cons _ _ _ ih => simp [ih]
noncomputable def joinL (sep : List Nat) : List (List Nat) → List Nat
  | [] => []
  | [x] => x
  | x :: y :: r => x ++ sep ++ joinL sep (y :: r)
theorem joinL_nil : ∀ ls : List (List Nat), joinL [] ls = ls.flatten
  | [] => rfl
  | [x] => by simp [joinL]
  | x :: y :: r => by simp [joinL, joinL_nil (y :: r)]
theorem glued_eq_join_l (sep : Str) (l : List Str) : Builtin.Str.glued sep l = Str.join sep l := StrLaws.glued_eq_join sep l
theorem joinL_str (sep : List Nat) : ∀ ls : List (List Nat), Txt.join (strOf sep) (ls.map strOf) = strOf (joinL sep ls)
  | [] => by rfl
  | [x] => by rfl
  | x :: y :: r => by
    have := joinL_str sep (y :: r)
    simp only [Txt.join, List.map_cons, glued_eq_join_l, joinL] at this ⊢
    rw [Str.join, this, strOf_append, strOf_append]
    simp
section
variable {C : Cx} {s₀ : Shared} {W : List Addr} {env : Env} {G : List (Nat × GenState)} {A : Around} {E : Value → Shared → Prop} {m m' : List (Str × Bnd)} {n n' : List (Addr × Obj)}
  {a b : List Nat} {t u : Tok} {Q : Value → Shared → Prop}
theorem St.kept : KeptByPush (fun s => St C s₀ W env G s m n) := fun s ob k D => D.keeps s.drawn k fun b o e => Heap.get?_push_of_some _ e
theorem o_in1 {c : Nat} (h : ∀ s, St C s₀ W env G s m n → Q (.bool (decide (c ∈ a))) s) :
    ∀ s, St C s₀ W env G s m n → wpAny (MM C.w) A (compareOp .In (.str (strOf [c]) u) (.str (strOf a) t)) Q E s := fun s D => by
  refine PySem.P.in_str ?_
  rw [show strOf [c] = ⟨#[c]⟩ from rfl, StrLaws.found_one, strOf_toList]
  exact h s D
theorem o_notin1 {c : Nat} (h : ∀ s, St C s₀ W env G s m n → Q (.bool (!decide (c ∈ a))) s) :
    ∀ s, St C s₀ W env G s m n → wpAny (MM C.w) A (compareOp .NotIn (.str (strOf [c]) u) (.str (strOf a) t)) Q E s := fun s D => by
  refine PySem.P.notIn_str ?_
  rw [show strOf [c] = ⟨#[c]⟩ from rfl, StrLaws.found_one, strOf_toList]
  exact h s D
theorem c_len (hl : a.length ≤ 1000000) (h : ∀ t, ∀ s, St C s₀ W env G s m n → Q (.int a.length t) s) :
    ∀ s, St C s₀ W env G s m n → wpAny (MM C.w) A (call (.builtin "len") ([] ++ [.str (strOf a) t])) Q E s := fun s D => by
  show wpAny _ _ (call (.builtin "len") [.str (strOf a) t]) Q E s
  refine PySem.P.len_str (by rw [strOf_len]; omega) ?_
  rw [strOf_len]
  exact h _ _ (D.tok _ _)
theorem t_subSl {value : Expr} {lower upper : Option Expr} {p pos : Pos}
    (h : ∀ s, St C s₀ W env G s m n → wpAny (MM C.w) A (eval value env) (KP1 C A env E lower (KP2 C A env E upper (KSl C A E Q))) E s)
    (ht : ∀ o r, letTemporaryGo value o r = pure () := by intro _ _; with_unfolding_all rfl) :
    ∀ s, St C s₀ W env G s m n → wpAny (MM C.w) A (eval (.Subscript value (.Slice lower upper none p) pos) env) Q E s := fun s D =>
  Subscript_Slice (wpAny_mono (h s D) (fun o s₁ h₁ => wpAny_Slice (wpAny_mono h₁ (fun l s₂ h₂ => wpAny_mono h₂ (fun u s₃ h₃ => wpAny_pure h₃) fun _ _ e => e) fun _ _ e => e)) fun _ _ e => e) ht
theorem t_partN {Q : Value → Shared → Prop} (h : ∀ s, St C s₀ W env G s m n → Q .none s) : ∀ s, St C s₀ W env G s m n → wpAny (MM C.w) A (evalPart none env) Q E s := fun s D => evalPart_none_step (h s D)
theorem t_partS {e : Expr} {Q : Value → Shared → Prop} (h : ∀ s, St C s₀ W env G s m n → wpAny (MM C.w) A (eval e env) Q E s) : ∀ s, St C s₀ W env G s m n → wpAny (MM C.w) A (evalPart (some e) env) Q E s := fun s D => evalPart_some_step (h s D)
theorem o_slss {i j : Int} {ui uj : Tok} (hl : a.length ≤ sizeLine) (h : ∀ t, ∀ s, St C s₀ W env G s m n → Q (.str (strOf (slc a (some i) (some j))) t) s) :
    ∀ s, St C s₀ W env G s m n → SliceOn C A E (.str (strOf a) t) (.int i ui) (.int j uj) Q s := fun s D =>
  SBG.sliceItem_ss St.kept D (fun s' t' D' => by rw [slc_str]; exact h t' s' D') (by rw [strOf_len]; exact hl)
theorem o_slsn {i : Int} {ui : Tok} (hl : a.length ≤ sizeLine) (h : ∀ t, ∀ s, St C s₀ W env G s m n → Q (.str (strOf (slc a (some i) none)) t) s) :
    ∀ s, St C s₀ W env G s m n → SliceOn C A E (.str (strOf a) t) (.int i ui) .none Q s := fun s D =>
  SBG.sliceItem_sn St.kept D (fun s' t' D' => by rw [slc_str]; exact h t' s' D') (by rw [strOf_len]; exact hl)
theorem o_slns {j : Int} {uj : Tok} (hl : a.length ≤ sizeLine) (h : ∀ t, ∀ s, St C s₀ W env G s m n → Q (.str (strOf (slc a none (some j))) t) s) :
    ∀ s, St C s₀ W env G s m n → SliceOn C A E (.str (strOf a) t) .none (.int j uj) Q s := fun s D =>
  SBG.sliceItem_ns St.kept D (fun s' t' D' => by rw [slc_str]; exact h t' s' D') (by rw [strOf_len]; exact hl)
theorem g_join {pl : Sem Bool} {x : Str} {Q : Value × List Value → Shared → Prop} (h : ∀ s, St C s₀ W env G s m n → Q (.builtin "str.join", [.str x t]) s) :
    ∀ s, St C s₀ W env G s m n → wpAny (MM C.w) A (getMethod (.str x t) "join" pl) Q E s := fun s D => GM.join (h s D)
theorem c_join {D : Addr} {ws : List Value} {ls : List (List Nat)} {e : Nat} (hD : (D, listObj ws e) ∈ n) (hs : SL ws ls) (ha : a.length ≤ 16) (hw : (ls.map (·.length)).sum + ls.length ≤ 1048576)
    (h : ∀ t, ∀ s, St C s₀ W env G s m n → Q (.str (strOf (joinL a ls)) t) s) :
    ∀ s, St C s₀ W env G s m n → wpAny (MM C.w) A (call (.builtin "str.join") ([.str (strOf a) t] ++ [.ref D])) Q E s := fun s DD => by
  show wpAny _ _ (call (.builtin "str.join") [.str (strOf a) t, .ref D]) Q E s
  refine join_listW (items := ws.toArray) ⟨_, DD.get hD, rfl, _, rfl⟩ (by simpa using hs.strs) (by rw [strOf_len]; exact ha) ?_ fun t' k => ?_
  · simpa [Function.comp_def, strOf_len] using hw
  · rw [joinL_str]; exact h t' _ (DD.tok s.drawn k)
theorem o_isNN (h : ∀ s, St C s₀ W env G s m n → Q (.bool true) s) : ∀ s, St C s₀ W env G s m n → wpAny (MM C.w) A (compareOp .Is .none .none) Q E s := fun s D => wpAny_is_self rfl (h s D)
theorem o_isN {v : Value} (hv : v ≠ .none) (hp : plainIs v .none = true) (h : ∀ s, St C s₀ W env G s m n → Q (.bool false) s) : ∀ s, St C s₀ W env G s m n → wpAny (MM C.w) A (compareOp .Is v .none) Q E s := fun s D => wpAny_is_other hp hv (h s D)
theorem o_isNotNN (h : ∀ s, St C s₀ W env G s m n → Q (.bool false) s) : ∀ s, St C s₀ W env G s m n → wpAny (MM C.w) A (compareOp .IsNot .none .none) Q E s := fun s D => wpAny_isNot_self rfl (h s D)
theorem o_isNotN {v : Value} (hv : v ≠ .none) (hp : plainIs v .none = true) (h : ∀ s, St C s₀ W env G s m n → Q (.bool true) s) : ∀ s, St C s₀ W env G s m n → wpAny (MM C.w) A (compareOp .IsNot v .none) Q E s := fun s D => wpAny_isNot_other hp hv (h s D)
theorem o_isB {b c : Bool} (h : ∀ s, St C s₀ W env G s m n → Q (.bool (b == c)) s) : ∀ s, St C s₀ W env G s m n → wpAny (MM C.w) A (compareOp .Is (.bool b) (.bool c)) Q E s := fun s D => wpAny_is_plain rfl (by
  rw [show (Value.bool b == Value.bool c) = (b == c) by cases b <;> cases c <;> rfl]; exact h s D)
theorem o_isNotB {b c : Bool} (h : ∀ s, St C s₀ W env G s m n → Q (.bool (!(b == c))) s) : ∀ s, St C s₀ W env G s m n → wpAny (MM C.w) A (compareOp .IsNot (.bool b) (.bool c)) Q E s := fun s D => wpAny_isNot_plain rfl (by
  rw [show (Value.bool b == Value.bool c) = (b == c) by cases b <;> cases c <;> rfl]; exact h s D)
theorem o_tstr {Q : Bool → Shared → Prop} (hl : a.length ≤ 1000000) (h : ∀ s, St C s₀ W env G s m n → Q (!decide (a = [])) s) : ∀ s, St C s₀ W env G s m n → wpAny (MM C.w) A (truthy (.str (strOf a) t)) Q E s := fun s D => by
  refine PySem.P.truthy_str (by rw [strOf_len]; omega) ?_
  rw [strOf_len]
  have := h _ (D.tok s.drawn (s.toks + 1 + 1))
  cases a with
  | nil => simpa using this
  | cons x r =>
    have e : ((((x :: r : List Nat).length : Nat) : Int) != 0) = true := by simp only [List.length_cons, bne_iff_ne]; omega
    rw [e]; simpa using this
theorem t_ift {X Y : Shared → Prop} (h : ∀ s, St C s₀ W env G s m n → X s) : ∀ s, St C s₀ W env G s m n → (if true = true then X s else Y s) := fun s D => by rw [if_pos rfl]; exact h s D
theorem t_iff {X Y : Shared → Prop} (h : ∀ s, St C s₀ W env G s m n → Y s) : ∀ s, St C s₀ W env G s m n → (if false = true then X s else Y s) := fun s D => by rw [if_neg Bool.false_ne_true]; exact h s D
theorem o_isI {i : Int} (h : ∀ s, St C s₀ W env G s m n → Q (.bool false) s) : ∀ s, St C s₀ W env G s m n → wpAny (MM C.w) A (compareOp .Is (.int i t) .none) Q E s := o_isN (by intro h; cases h) rfl h
theorem o_isS {x : Str} (h : ∀ s, St C s₀ W env G s m n → Q (.bool false) s) : ∀ s, St C s₀ W env G s m n → wpAny (MM C.w) A (compareOp .Is (.str x t) .none) Q E s := o_isN (by intro h; cases h) rfl h
theorem o_isR {x : Addr} (h : ∀ s, St C s₀ W env G s m n → Q (.bool false) s) : ∀ s, St C s₀ W env G s m n → wpAny (MM C.w) A (compareOp .Is (.ref x) .none) Q E s := o_isN (by intro h; cases h) rfl h
theorem o_isNotI {i : Int} (h : ∀ s, St C s₀ W env G s m n → Q (.bool true) s) : ∀ s, St C s₀ W env G s m n → wpAny (MM C.w) A (compareOp .IsNot (.int i t) .none) Q E s := o_isNotN (by intro h; cases h) rfl h
theorem o_isNotS {x : Str} (h : ∀ s, St C s₀ W env G s m n → Q (.bool true) s) : ∀ s, St C s₀ W env G s m n → wpAny (MM C.w) A (compareOp .IsNot (.str x t) .none) Q E s := o_isNotN (by intro h; cases h) rfl h
theorem o_isNotR {x : Addr} (h : ∀ s, St C s₀ W env G s m n → Q (.bool true) s) : ∀ s, St C s₀ W env G s m n → wpAny (MM C.w) A (compareOp .IsNot (.ref x) .none) Q E s := o_isNotN (by intro h; cases h) rfl h
end
theorem cnt_count (c : Nat) : ∀ l : List Nat, PyProof.Rows.cnt c l = (l.count c : Nat)
  | [] => rfl
  | x :: r => by
    rw [PyProof.Rows.cnt_cons, cnt_count c r, List.count_cons]
    by_cases h : x = c <;> simp [h] <;> omega
theorem mul_rep (c : Nat) (k : Int) : Txt.mul (strOf [c]) k = strOf (List.replicate k.toNat c) := by
  have key : ∀ (k : Nat) (acc : Array Nat), List.foldl (· ++ ·) acc (List.replicate k (strOf [c]).cps) = (acc.toList ++ List.replicate k c).toArray := by
    intro k
    induction k with
    | zero => intro acc; simp
    | succ k ih => intro acc; rw [List.replicate_succ, List.foldl_cons, ih]; simp [strOf, List.replicate_succ]
  unfold Txt.mul
  split
  · rw [Int.toNat_eq_zero.mpr (by omega)]; rfl
  · split
    · rename_i h
      simp only [strOf_len, List.length_cons, List.length_nil, Bool.or_eq_true, beq_iff_eq] at h
      rcases h with h | h
      · subst h; rfl
      · omega
    · rw [key]; simp [strOf]
section
variable {C : Cx} {s₀ : Shared} {W : List Addr} {env : Env} {G : List (Nat × GenState)} {A : Around} {E : Value → Shared → Prop} {m m' : List (Str × Bnd)} {n n' : List (Addr × Obj)}
  {a b : List Nat} {t u : Tok} {Q : Value → Shared → Prop}
theorem c_max2 {i j : Int} (hh : A.handled = none) (h : ∀ t, ∀ s, St C s₀ W env G s m n → Q (.int (max i j) t) s) :
    ∀ s, St C s₀ W env G s m n → wpAny (MM C.w) A (call (.builtin "max") ([] ++ [.int i t, .int j u])) Q E s := fun s D => by
  refine max_two_ints hh fun h' tk hk => ?_
  by_cases hc : j > i
  · rw [if_pos hc]; have := h u _ (D.keeps s.drawn tk hk); rw [Int.max_eq_right (by omega)] at this; exact this
  · rw [if_neg hc]; have := h t _ (D.keeps s.drawn tk hk); rw [Int.max_eq_left (by omega)] at this; exact this
theorem c_count {c : Nat} (h : ∀ t, ∀ s, St C s₀ W env G s m n → Q (.int (a.count c : Nat) t) s) :
    ∀ s, St C s₀ W env G s m n → wpAny (MM C.w) A (call (.builtin "str.count") ([.str (strOf a) t] ++ [.str (strOf [c]) u])) Q E s := fun s D => by
  refine SC.count ?_
  have e : Txt.count (strOf a) (strOf [c]) = ((a.count c : Nat) : Int) := by
    rw [show strOf [c] = ⟨#[c]⟩ from rfl, PyProof.Rows.count_cnt, strOf_toList, cnt_count]
  rw [e]; exact h _ _ (D.tok _ _)
theorem o_mulS {c : Nat} {k : Int} (h1 : k ≤ 100000) (h2 : -100000 ≤ k) (h : ∀ t, ∀ s, St C s₀ W env G s m n → Q (.str (strOf (List.replicate k.toNat c)) t) s) :
    ∀ s, St C s₀ W env G s m n → wpAny (MM C.w) A (binaryOp .Mult (.str (strOf [c]) t) (.int k u)) Q E s := fun s D => by
  refine SB.mul ?_ fun t' k' => by rw [mul_rep]; exact h t' _ (D.tok s.drawn k')
  refine ⟨?_, fun h3 _ => ?_, fun h3 _ => ?_⟩
  · rw [decide_eq_false (by omega), decide_eq_false (by omega)]; rfl
  · rw [strOf_len]
    have := Int.le_ediv_of_mul_le (a := 1) (b := (2 ^ 63 - 1 : Int)) (c := k) (by omega) (by omega)
    exact Int.not_lt.mpr this
  · rw [strOf_len]
    unfold Builtin.Str.tooLong
    have : k.toNat ≤ 100000 := by omega
    simp only [List.length_cons, List.length_nil, Nat.zero_add, Nat.one_mul]
    simp [sizeLine_eq]
    omega
theorem g_count {pl : Sem Bool} {x : Str} {Q : Value × List Value → Shared → Prop} (h : ∀ s, St C s₀ W env G s m n → Q (.builtin "str.count", [.str x t]) s) :
    ∀ s, St C s₀ W env G s m n → wpAny (MM C.w) A (getMethod (.str x t) "count" pl) Q E s := fun s D => GM.count (h s D)
theorem g_lower {pl : Sem Bool} {x : Str} {Q : Value × List Value → Shared → Prop} (h : ∀ s, St C s₀ W env G s m n → Q (.builtin "str.lower", [.str x t]) s) :
    ∀ s, St C s₀ W env G s m n → wpAny (MM C.w) A (getMethod (.str x t) "lower" pl) Q E s := fun s D => GM.lower (h s D)
theorem g_upper {pl : Sem Bool} {x : Str} {Q : Value × List Value → Shared → Prop} (h : ∀ s, St C s₀ W env G s m n → Q (.builtin "str.upper", [.str x t]) s) :
    ∀ s, St C s₀ W env G s m n → wpAny (MM C.w) A (getMethod (.str x t) "upper" pl) Q E s := fun s D => GM.upper (h s D)
theorem g_replace {pl : Sem Bool} {x : Str} {Q : Value × List Value → Shared → Prop} (h : ∀ s, St C s₀ W env G s m n → Q (.builtin "str.replace", [.str x t]) s) :
    ∀ s, St C s₀ W env G s m n → wpAny (MM C.w) A (getMethod (.str x t) "replace" pl) Q E s := fun s D => GM.replace (h s D)
theorem g_index {pl : Sem Bool} {x : Str} {Q : Value × List Value → Shared → Prop} (h : ∀ s, St C s₀ W env G s m n → Q (.builtin "str.index", [.str x t]) s) :
    ∀ s, St C s₀ W env G s m n → wpAny (MM C.w) A (getMethod (.str x t) "index" pl) Q E s := fun s D => GM.index (h s D)
theorem c_lenL {l : Addr} {vs : List Value} {e : Nat} (hl : (l, listObj vs e) ∈ n) (hsz : vs.length ≤ 1000000) (h : ∀ t, ∀ s, St C s₀ W env G s m n → Q (.int vs.length t) s) :
    ∀ s, St C s₀ W env G s m n → wpAny (MM C.w) A (call (.builtin "len") ([] ++ [.ref l])) Q E s := fun s D => by
  refine call_len_list (items := vs.toArray) ⟨_, D.get hl, rfl, _, rfl⟩ (by rw [List.size_toArray]; omega) ?_
  rw [List.size_toArray]; exact h _ _ (D.tok _ _)
/-- while, by an invariant -/
inductive CW (C : Cx) (s₀ : Shared) (W : List Addr) (env : Env) (G : List (Nat × GenState)) (J : Nat → List (Str × Bnd) → List (Addr × Obj) → Prop) (k : Nat) (s : Shared) : Prop
  | mk (k' : Nat) (m : List (Str × Bnd)) (n : List (Addr × Obj)) (_ : k' < k) (_ : J k' m n) (_ : St C s₀ W env G s m n)
noncomputable def TurnW (C : Cx) (s₀ : Shared) (W : List Addr) (env : Env) (G : List (Nat × GenState)) (J : Nat → List (Str × Bnd) → List (Addr × Obj) → Prop) (k : Nat) (Q : Flow → Shared → Prop) : Flow → Shared → Prop := fun f s₃ => match f with
  | .next | .cont => CW C s₀ W env G J k s₃
  | .brk => Q .next s₃
  | .ret v => Q (.ret v) s₃
theorem t_absW {C₁ : Cx} {s₁ : Shared} {W₁ : List Addr} {env₁ : Env} {G₁ : List (Nat × GenState)} {J : Nat → List (Str × Bnd) → List (Addr × Obj) → Prop} {k : Nat} {Q : Flow → Shared → Prop} {b : List Stmt}
    (h : ∀ QB : Flow → Shared → Prop, (∀ f s, TurnW C₁ s₁ W₁ env₁ G₁ J k Q f s → QB f s) → ∀ s, St C s₀ W env G s m n → wpAny (MM C.w) A (execs b env) QB E s) : ∀ s, St C s₀ W env G s m n → wpAny (MM C.w) A (execs b env) (TurnW C₁ s₁ W₁ env₁ G₁ J k Q) E s := h _ (fun _ _ x => x)
theorem t_turnWR {C₁ : Cx} {s₁ : Shared} {W₁ : List Addr} {env₁ : Env} {G₁ : List (Nat × GenState)} {J : Nat → List (Str × Bnd) → List (Addr × Obj) → Prop} {k : Nat} {v : Value} {Q : Flow → Shared → Prop} (h : ∀ s, St C s₀ W env G s m n → Q (.ret v) s) : ∀ s, St C s₀ W env G s m n → TurnW C₁ s₁ W₁ env₁ G₁ J k Q (.ret v) s := h
noncomputable abbrev KWh (C : Cx) (A : Around) (env : Env) (E : Value → Shared → Prop) (body orelse : List Stmt) (K Q : Flow → Shared → Prop) : Bool → Shared → Prop := fun b s => if b = true then wpAny (MM C.w) A (execs body env) K E s else wpAny (MM C.w) A (execs orelse env) Q E s
theorem t_whileJ {test : Expr} {body orelse : List Stmt} {Q : Flow → Shared → Prop} (J : Nat → List (Str × Bnd) → List (Addr × Obj) → Prop) (k : Nat) (h0 : J k m n)
    (turn : ∀ k m₁ n₁ E', J k m₁ n₁ → ∀ s, St C s₀ W env G s m₁ n₁ → wpAny (MM C.w) A (isTrue test env (eval test env)) (KWh C A env E' body orelse (TurnW C s₀ W env G J k Q) Q) E' s) :
    ∀ s, St C s₀ W env G s m n → codeAny (MM C.w) A (.whileLoop test body orelse env) (KLp C A env E Q) s := fun s D => by
  refine codeAny_whileLoop (fun k s => CT C s₀ W env G (J k) [] s) ?_ k ⟨m, n, h0, D⟩
  rintro k s ⟨m₁, n₁, hJ, D⟩
  refine wpAny_mono (turn k m₁ n₁ _ hJ s D) (fun b s₂ h₂ => ?_) fun _ _ e => e
  cases b with
  | true =>
    simp only [KWh, if_true] at h₂ ⊢
    refine wpAny_mono h₂ (fun f s₃ h₃ => ?_) fun _ _ e => e
    cases f with
    | next => obtain ⟨k', m₂, n₂, hk, hJ, D⟩ := h₃; exact ⟨k', hk, m₂, n₂, hJ, D⟩
    | cont => obtain ⟨k', m₂, n₂, hk, hJ, D⟩ := h₃; exact ⟨k', hk, m₂, n₂, hJ, D⟩
    | brk => exact h₃
    | ret v => exact h₃
  | false =>
    simp only [KWh, Bool.false_eq_true, if_false] at h₂ ⊢
    exact h₂
end
/-- an iterator of one object -/
structure Itr (C : Cx) (src : List (Addr × Obj)) (I : Addr) (len : Nat) (V : Nat → Value → Prop) (OK : Nat → Obj → Prop) : Prop where
  item : ∀ {A : Around} {E : Value → Shared → Prop} {s₀ : Shared} {W : List Addr} {env : Env} {G : List (Nat × GenState)} {m : List (Str × Bnd)} {n : List (Addr × Obj)} {i : Nat} {o : Obj} {s : Shared} {Q : Option Value → Shared → Prop},
    A.handled = none → i < len → OK i o → (∀ p ∈ src, p ∈ n) → St C s₀ W env G s m ((I, o) :: n) → (∀ v o' s', V i v → OK (i + 1) o' → St C s₀ W env G s' m ((I, o') :: n) → Q (some v) s') → wpAny (MM C.w) A (pyNext (.ref I)) Q E s
  done : ∀ {A : Around} {E : Value → Shared → Prop} {s₀ : Shared} {W : List Addr} {env : Env} {G : List (Nat × GenState)} {m : List (Str × Bnd)} {n : List (Addr × Obj)} {o : Obj} {s : Shared} {Q : Option Value → Shared → Prop},
    A.handled = none → OK len o → (∀ p ∈ src, p ∈ n) → St C s₀ W env G s m ((I, o) :: n) → (∀ s', St C s₀ W env G s' m n → Q none s') → wpAny (MM C.w) A (pyNext (.ref I)) Q E s
  self : ∀ {A : Around} {E : Value → Shared → Prop} {s₀ : Shared} {W : List Addr} {env : Env} {G : List (Nat × GenState)} {m : List (Str × Bnd)} {n : List (Addr × Obj)} {i : Nat} {o : Obj} {s : Shared} {Q : Value → Shared → Prop},
    OK i o → St C s₀ W env G s m ((I, o) :: n) → Q (.ref I) s → wpAny (MM C.w) A (pyIter (.ref I)) Q E s
  cls : ∀ i o, OK i o → ∃ nm, o.cls = .type nm ∧ (["enumerate", "zip", "dict_itemiterator", "dict_reverseitemiterator", "odict_iterator", "itertools.zip_longest", "itertools.pairwise"] : List String).contains nm = false
noncomputable def Iter (C : Cx) (v : Value) (n src : List (Addr × Obj)) (len : Nat) (V : Nat → Value → Prop) : Prop :=
  ∀ {A : Around} {E : Value → Shared → Prop} {s₀ : Shared} {W : List Addr} {env : Env} {G : List (Nat × GenState)} {m : List (Str × Bnd)} {s : Shared} {Q : Value → Shared → Prop}, St C s₀ W env G s m n →
    (∀ I o OK, Itr C src I len V OK → OK 0 o → ∀ s, St C s₀ W env G s m ((I, o) :: n) → Q (.ref I) s) → wpAny (MM C.w) A (pyIter v) Q E s
theorem iter_list {C : Cx} {l : Addr} {vs : List Value} {e : Nat} {n : List (Addr × Obj)} (hl : (l, listObj vs e) ∈ n) : Iter C (.ref l) n [(l, listObj vs e)] vs.length (fun i v => vs[i]? = some v) := by
  intro A E s₀ W env G m s Q D h
  have hls : ∀ {s : Shared}, s.heap.get? l = some (listObj vs e) → s.heap.IsList l vs.toArray := fun hg => ⟨_, hg, rfl, _, rfl⟩
  refine wpAny_pyIter_list (hls (D.get hl)) ?_
  refine h _ _ (fun i o => o.cls = .type "list_iterator" ∧ o.data = .fields #[.ref l, .int i 0]) ⟨?_, ?_, ?_, ?_⟩ ⟨rfl, rfl⟩ _ (D.push _ _ _ rfl)
  · intro A E s₀ W env G m n i o s' Q hh hi hok hsrc D' hq
    have hL := hls (D'.nw _ (.tail _ (hsrc _ (.head _)))).1
    refine wpAny_pyNext_list_item (i := i) ⟨o, (D'.nw _ (.head _)).1, hok⟩ hL (x := vs[i]) (by simp [hi]) fun h' hit' hs => ?_
    obtain ⟨o', ho', hc', hd'⟩ := id hit'
    exact hq _ o' _ (by simp [hi]) ⟨hc', hd'⟩ (D'.upd _ _ .head hs ho')
  · intro A E s₀ W env G m n o s' Q hh hok hsrc D' hq
    have hL := hls (D'.nw _ (.tail _ (hsrc _ (.head _)))).1
    exact wpAny_pyNext_list_end (i := vs.length) hh ⟨o, (D'.nw _ (.head _)).1, hok⟩ hL (by simp) fun h' hs => hq _ (D'.drop _ _ hs)
  · exact fun hok D' hq => wpAny_pyIter_listiter ⟨_, (D'.nw _ (.head _)).1, hok⟩ hq
  · exact fun i o hok => ⟨_, hok.1, by decide⟩
theorem iter_tup {C : Cx} {l : Addr} {vs : List Value} {n : List (Addr × Obj)} (hl : (l, tupObj vs) ∈ n) : Iter C (.ref l) n [(l, tupObj vs)] vs.length (fun i v => vs[i]? = some v) := by
  intro A E s₀ W env G m s Q D h
  have hls : ∀ {s : Shared}, s.heap.get? l = some (tupObj vs) → s.heap.IsTuple l vs.toArray := fun hg => ⟨_, hg, rfl, _, rfl⟩
  refine wpAny_pyIter_tuple (hls (D.get hl)) ?_
  refine h _ _ (fun i o => o.cls = .type "tuple_iterator" ∧ o.data = .fields #[.ref l, .int i 0]) ⟨?_, ?_, ?_, ?_⟩ ⟨rfl, rfl⟩ _ (D.push _ _ _ rfl)
  · intro A E s₀ W env G m n i o s' Q hh hi hok hsrc D' hq
    have hL := hls (D'.nw _ (.tail _ (hsrc _ (.head _)))).1
    refine wpAny_pyNext_tuple_item (i := i) ⟨o, (D'.nw _ (.head _)).1, hok⟩ hL (x := vs[i]) (by simp [hi]) fun h' hit' hs => ?_
    obtain ⟨o', ho', hc', hd'⟩ := id hit'
    exact hq _ o' _ (by simp [hi]) ⟨hc', hd'⟩ (D'.upd _ _ .head hs ho')
  · intro A E s₀ W env G m n o s' Q hh hok hsrc D' hq
    have hL := hls (D'.nw _ (.tail _ (hsrc _ (.head _)))).1
    exact wpAny_pyNext_tuple_end (i := vs.length) hh ⟨o, (D'.nw _ (.head _)).1, hok⟩ hL (by simp) fun h' hs => hq _ (D'.drop _ _ hs)
  · exact fun hok D' hq => wpAny_pyIter_tupleiter ⟨_, (D'.nw _ (.head _)).1, hok⟩ hq
  · exact fun i o hok => ⟨_, hok.1, by decide⟩
theorem iter_str {C : Cx} {x : List Nat} {t : Tok} {n : List (Addr × Obj)} (hx : ∀ c ∈ x, c < 128) : Iter C (.str (strOf x) t) n [] x.length (fun i v => ∃ c u, x[i]? = some c ∧ v = .str (strOf [c]) u) := by
  intro A E s₀ W env G m s Q D h
  have ha : (strOf x).cps.all (· < 128) = true := by
    simp only [strOf, List.all_toArray, List.all_eq_true, decide_eq_true_eq]
    exact hx
  refine wpAny_pyIter_ascii ha ?_
  refine h _ _ (fun i o => o.cls = .type "str_ascii_iterator" ∧ o.data = .fields #[.str (strOf x) t, .int i 0]) ⟨?_, ?_, ?_, ?_⟩ ⟨rfl, rfl⟩ _ (D.push _ _ _ rfl)
  · intro A E s₀ W env G m n i o s' Q hh hi hok hsrc D' hq
    refine wpAny_pyNext_ascii_item (i := i) ⟨o, (D'.nw _ (.head _)).1, hok⟩ (c := x[i]) (by simp [strOf, hi]) fun h' hit' hs => ?_
    obtain ⟨o', ho', hc', hd'⟩ := id hit'
    exact hq _ o' _ ⟨_, _, by simp [hi], rfl⟩ ⟨hc', hd'⟩ (D'.upd _ _ .head hs ho')
  · intro A E s₀ W env G m n o s' Q hh hok hsrc D' hq
    exact wpAny_pyNext_ascii_end (i := x.length) hh ⟨o, (D'.nw _ (.head _)).1, hok⟩ (by simp [strOf]) fun h' hs => hq _ (D'.drop _ _ hs)
  · exact fun hok D' hq => wpAny_pyIter_striter_ascii ⟨_, (D'.nw _ (.head _)).1, hok⟩ hq
  · exact fun i o hok => ⟨_, hok.1, by decide⟩
noncomputable def rangeObj (a b : Int) (t u v : Tok) : Obj := { cls := .type "range", data := .fields #[.int a t, .int b u, .int 1 v] }
theorem iter_range {C : Cx} {r : Addr} {a b : Int} {t u v : Tok} {n : List (Addr × Obj)} (hr : (r, rangeObj a b t u v) ∈ n) (ha : -1000000 ≤ a ∧ a ≤ 1000000) (hb : -1000000 ≤ b ∧ b ≤ 1000000) :
    Iter C (.ref r) n [] (b - a).toNat (fun i v => ∃ t, v = .int (a + i) t) := by
  intro A E s₀ W env G m s Q D h
  refine wpAny_pyIter_range (D.get hr) (small_one (by omega) (by omega) (by omega) (by omega)) ?_
  refine h _ _ (fun i o => o = { cls := .type "range_iterator", dict := none, data := .fields #[rawInt (a + i), rawInt (((b - a).toNat : Int) - i), rawInt 1], slots := #[] }) ⟨?_, ?_, ?_, ?_⟩ ?_ _ (D.push _ _ _ rfl)
  · rintro A E s₀ W env G m n i o s' Q hh hi rfl hsrc D' hq
    refine wpAny_pyNext_range_item (D'.nw _ (.head _)).1 (by omega) fun h' hit' hs => ?_
    refine hq _ _ _ ⟨_, rfl⟩ ?_ (D'.upd _ _ .head hs hit')
    rw [show a + (i : Int) + 1 = a + ((i + 1 : Nat) : Int) by omega, show ((b - a).toNat : Int) - i - 1 = ((b - a).toNat : Int) - ((i + 1 : Nat) : Int) by omega]
  · rintro A E s₀ W env G m n o s' Q hh rfl hsrc D' hq
    exact wpAny_pyNext_range_end hh (D'.nw _ (.head _)).1 (by omega) fun h' hs => hq _ (D'.drop _ _ hs)
  · rintro A E s₀ W env G m n i o s' Q rfl D' hq
    exact wpAny_pyIter_rangeiter (D'.nw _ (.head _)).1 hq
  · rintro i o rfl
    exact ⟨_, rfl, by decide⟩
  · rw [rangeSize_one]
    split
    · rw [show a + ((0 : Nat) : Int) = a by omega, show (((b - a).toNat : Nat) : Int) - ((0 : Nat) : Int) = b - a by omega]
    · rw [show a + ((0 : Nat) : Int) = a by omega, show (((b - a).toNat : Nat) : Int) - ((0 : Nat) : Int) = 0 by omega]
inductive FInv (C : Cx) (s₀ : Shared) (W : List Addr) (env : Env) (G : List (Nat × GenState)) (J : Nat → List (Str × Bnd) → List (Addr × Obj) → Prop) (OK : Nat → Obj → Prop) (I : Addr) (len k : Nat) (s' : Shared) : Prop
  | mk (i : Nat) (m₁ : List (Str × Bnd)) (n₁ : List (Addr × Obj)) (o : Obj) (_ : k + i = len) (_ : J i m₁ n₁) (_ : OK i o) (_ : St C s₀ W env G s' m₁ ((I, o) :: n₁))
theorem pred_turn {k i len : Nat} (hil : i < len) (hk : k + i = len) : k - 1 < k ∧ k - 1 + (i + 1) = len := by
  subst hk
  cases k with
  | zero => rw [Nat.zero_add] at hil; exact absurd hil (Nat.lt_irrefl _)
  | succ k => exact ⟨Nat.lt_succ_self _, (Nat.add_right_comm k 1 i).symm⟩
theorem end_turn {k i len : Nat} (hil : ¬ i < len) (hk : k + i = len) : i = len := Nat.le_antisymm (hk ▸ Nat.le_add_left _ _) (Nat.le_of_not_lt hil)
section
variable {C : Cx} {s₀ : Shared} {W : List Addr} {env : Env} {G : List (Nat × GenState)} {A : Around} {E : Value → Shared → Prop} {m m' : List (Str × Bnd)} {n n' : List (Addr × Obj)}
theorem c_range1 {b : Int} {t : Tok} {Q : Value → Shared → Prop} (h : ∀ r u v, ∀ s, St C s₀ W env G s m ((r, rangeObj 0 b u t v) :: n) → Q (.ref r) s) :
    ∀ s, St C s₀ W env G s m n → wpAny (MM C.w) A (call (.type "range") ([] ++ [.int b t])) Q E s := fun s D => call_range_1 (h _ _ _ _ (D.push _ _ _ rfl))
theorem c_range2 {a b : Int} {t u : Tok} {Q : Value → Shared → Prop} (h : ∀ r v, ∀ s, St C s₀ W env G s m ((r, rangeObj a b t u v) :: n) → Q (.ref r) s) :
    ∀ s, St C s₀ W env G s m n → wpAny (MM C.w) A (call (.type "range") ([] ++ [.int a t, .int b u])) Q E s := fun s D => call_range_2 (h _ _ _ (D.push _ _ _ rfl))
theorem t_forI {target : Expr} {body orelse : List Stmt} {v : Value} {src : List (Addr × Obj)} {len : Nat} {V : Nat → Value → Prop} {Q : Flow → Shared → Prop} (J : Nat → List (Str × Bnd) → List (Addr × Obj) → Prop)
    (hh : A.handled = none) (hi : Iter C v n src len V) (hsrc : ∀ i m₁ n₁, J i m₁ n₁ → ∀ p ∈ src, p ∈ n₁) (h0 : J 0 m n)
    (turn : ∀ i v m₁ n₁ I o E', i < len → V i v → J i m₁ n₁ → ∀ s, St C s₀ W env G s m₁ ((I, o) :: n₁) →
      wpAny (MM C.w) A (assign target env v) (KBd C A env E' body (TurnP C s₀ W env G (J (i + 1)) [(I, o)] Q)) E' s)
    (done : ∀ m₁ n₁ E', J len m₁ n₁ → ∀ s, St C s₀ W env G s m₁ n₁ → wpAny (MM C.w) A (execs orelse env) Q E' s) :
    ∀ s, St C s₀ W env G s m n → wpAny (MM C.w) A (pyIter v) (KF2 C A env E target body orelse Q) E s := fun s D => by
  refine hi D ?_
  intro I o OK hI hok s D
  refine codeAny_forLoop_any (FInv C s₀ W env G J OK I len) ?_ len ⟨0, m, n, o, rfl, h0, hok, D⟩
  rintro k s' ⟨i, m₁, n₁, o, hk, hJ, hok, D'⟩
  by_cases hil : i < len
  · refine hI.item hh hil hok (hsrc i m₁ n₁ hJ) D' ?_
    intro v o' s'' hv hok' D''
    obtain ⟨nm, hc, hn⟩ := hI.cls _ _ hok'
    refine letOwned_other (D''.nw _ (.head _)).1 hc hn ?_
    refine wpAny_mono (turn i v m₁ n₁ I o' _ hil hv hJ _ D'') (fun _ s₂ h₂ => wpAny_mono h₂ (fun f s₃ h₃ => ?_) fun _ _ e => e) fun _ _ e => e
    have fin : CT C s₀ W env G (J (i + 1)) [(I, o')] s₃ → ∃ k', k' < k ∧ FInv C s₀ W env G J OK I len k' s₃ := fun ⟨m₂, n₂, hJ2, D3⟩ =>
      ⟨k - 1, (pred_turn hil hk).1, i + 1, m₂, n₂, o', (pred_turn hil hk).2, hJ2, hok', D3⟩
    cases f with
    | next => exact fin h₃
    | cont => exact fin h₃
    | brk => exact h₃
    | ret v => exact h₃
  · obtain rfl : i = len := end_turn hil hk
    exact hI.done hh hok (hsrc i m₁ n₁ hJ) D' fun s'' D'' => done m₁ n₁ _ hJ _ D''
end
theorem compLoop_own {w : World} {A : Around} {R : Result → Shared → Prop} {s : Shared} {elt target iter : Expr} {ifs : List Expr} {scope : Scope} {pos : Pos} {it acc : Value} {env : Env} (I : Nat → Shared → Prop)
    (turn : ∀ n s, I n s → wpAny (MM w) A (pyNext it) (fun r s₁ => match r with
      | none => R (.ok .next) s₁
      | some v => wpAny (MM w) A (letOwnedTupleGo target it v) (fun _ s₁ => wpAny (MM w) A (assign target env v) (fun _ s₂ =>
          wpAny (MM w) A (forIn ifs true fun c r => if r = true then do let ok ← isTrue c env (eval c env); pure (ForInStep.yield ok) else pure (ForInStep.yield r)) (fun ok s₃ =>
            if ok = true then wpAny (MM w) A (eval elt env) (fun x s₄ =>
              wpAny (MM w) A (call (.builtin "list.append") [acc, x]) (fun _ s₅ => ∃ m, m < n ∧ I m s₅) (notedBy (MM w) A env fun e s' => R (.error e) s') s₄) (notedBy (MM w) A env fun e s' => R (.error e) s') s₃
            else ∃ m, m < n ∧ I m s₃) (notedBy (MM w) A env fun e s' => R (.error e) s') s₂) (notedBy (MM w) A env fun e s' => R (.error e) s') s₁) (notedBy (MM w) A env fun e s' => R (.error e) s') s₁) (notedBy (MM w) A env fun e s' => R (.error e) s') s)
    (n : Nat) (h : I n s) :
    codeAny (MM w) A (.compLoop (.ListComp elt [⟨target, iter, ifs, 0⟩] scope pos) 0 it acc env) R s := by
  refine codeAny_loop rfl I (fun n s hI => ?_) n h
  show wpAny _ A ((compTurn (.ListComp elt [⟨target, iter, ifs, 0⟩] scope pos) 0 it acc env).onRaise (fun x => do noteFrame x env; theTreesLotGoes x)) _ _ s
  refine wpAny_noted ?_
  rw [compTurn_list]
  refine wpAny_bind (wpAny_standAt (wpAny_bind (wpAny_mono (turn n s hI) (fun r s₁ h₁ => ?_) fun _ _ h' => h')))
  cases r with
  | none => exact wpAny_pure h₁
  | some v =>
    refine wpAny_bind (wpAny_mono h₁ (fun _ s₁ h₁ => ?_) fun _ _ h' => h')
    refine wpAny_bind (wpAny_mono h₁ (fun _ s₂ h₂ => wpAny_bind (wpAny_mono h₂ (fun ok s₃ h₃ => ?_) fun _ _ h' => h')) fun _ _ h' => h')
    cases ok with
    | false => exact wpAny_pure ⟨rfl, h₃⟩
    | true =>
      exact wpAny_bind (wpAny_bind (wpAny_mono h₃ (fun x s₄ h₄ => wpAny_bind (wpAny_mono h₄ (fun _ s₅ h₅ => wpAny_pure (wpAny_pure ⟨rfl, h₅⟩)) fun _ _ h' => h')) fun _ _ h' => h'))
/-- names of a comprehension's own frame -/
noncomputable def McOk (w : World) (cenv : Env) : List (Str × Bnd) → Prop
  | [] => True
  | (x, b) :: ms => (match b with
    | .loc v => cenv.kindOf x = some .local ∧ v = none
    | .glo v => cenv.kindOf x = some .globalImplicit ∧ GloIs w x v
    | .cel c => (cenv.kindOf x = some .cell ∨ cenv.kindOf x = some .free) ∧ cenv.cells.lookup x = some c
    | .unk => True) ∧ McOk w cenv ms
theorem McOk.get {C : Cx} {cenv : Env} : ∀ {ms : List (Str × Bnd)}, McOk C.w cenv ms → ∀ p ∈ ms, p.2.Ok C cenv (fun x => List.lookup x ([] : List (Str × Value)).reverse) p.1
  | (x, b) :: ms, h, p, hp => by
    rcases List.mem_cons.mp hp with rfl | hp
    · cases b with
      | loc v => exact ⟨h.1.1, by rw [h.1.2]; rfl⟩
      | glo v => exact h.1
      | cel c => exact h.1
      | unk => trivial
    · exact McOk.get h.2 p hp
section
variable {C : Cx} {s₀ s : Shared} {W : List Addr} {env : Env} {G : List (Nat × GenState)} {A : Around} {E : Value → Shared → Prop} {m m' mc : List (Str × Bnd)} {n n' n₁ : List (Addr × Obj)}
theorem St.locAt (D : St C s₀ W env G s m n) : ∃ oL, s.heap.get? env.locals = some oL := by obtain ⟨mm, ⟨o, es, ep, e, r⟩, _⟩ := D.ns; exact ⟨o, e⟩
theorem turn4 {α : Type} (a b c d : α) (l : List α) : (c :: d :: b :: a :: l).Perm (a :: b :: c :: d :: l) := by
  have h1 : (a :: b :: c :: d :: l).Perm (c :: a :: b :: d :: l) := List.perm_middle (l₁ := [a, b])
  have h2 : (a :: b :: d :: l).Perm (d :: a :: b :: l) := List.perm_middle (l₁ := [a, b])
  exact (h1.trans (.cons _ (h2.trans (.cons _ (.swap _ _ _))))).symm
theorem turn3 {α : Type} (a b c : α) (l : List α) : (c :: b :: a :: l).Perm (a :: b :: c :: l) := ((List.Perm.swap _ _ _).trans ((List.Perm.swap _ _ _).cons _)).trans (List.Perm.swap _ _ _)
/-- the comprehension's frame laid -/
theorem St.comp (D : St C s₀ W env G s m n) {scope : Scope} {cl : List (Str × Addr)} {oL : Obj} {h' : Heap} (hoL : s.heap.get? env.locals = some oL) (hk : scope.kind = .function) (hm : McOk C.w (compEnvC scope cl s.heap.objs.size env) mc) (hnd : (mc.map (·.1)).Nodup)
    (hns : h'.Ns s.heap.objs.size (fun x => List.lookup x ([] : List (Str × Value)).reverse)) {ob : Obj} (hs : Heap.SameBut s.heap.objs.size (s.heap.push ob) h') (t : Nat) :
    St C s₀ W (compEnvC scope cl s.heap.objs.size env) G ⟨h', s.gens, s.drawn, t, s.os⟩ mc ((env.locals, oL) :: n) := by
  have keep : ∀ b o, s.heap.get? b = some o → h'.get? b = some o := fun b o e => hs.extBut b o (Nat.ne_of_lt (Heap.lt_size e)) (Heap.get?_push_of_some _ e)
  refine ⟨D.g0, ⟨fun b o hb e => keep b o (D.x.keep b o hb e), D.x.gens, D.x.bare, D.x.os⟩, D.dyn, hk, D.glob, D.bui, ⟨_, hns, hm.get⟩, ?_, hnd, fun p hp => ?_, ?_, D.gn⟩
  · exact D.newAt (get_size _)
  · rcases List.mem_cons.mp hp with rfl | hp
    · exact ⟨keep _ _ hoL, Nat.ne_of_lt (Heap.lt_size hoL), D.hL⟩
    · exact ⟨keep _ _ (D.nw p hp).1, Nat.ne_of_lt (Heap.lt_size (D.nw p hp).1), (D.nw p hp).2.2⟩
  · rw [List.map_cons, List.nodup_cons]
    refine ⟨fun hm => ?_, D.na⟩
    obtain ⟨p, hp, e⟩ := List.mem_map.mp hm
    exact (D.nw p hp).2.1 e
/-- and left -/
theorem St.compBack (D : St C s₀ W env G s m n) {oL : Obj} {cenv : Env} {s' : Shared} (hoL : s.heap.get? env.locals = some oL) (D' : St C s₀ W cenv G s' mc ((env.locals, oL) :: n₁)) :
    ∃ oC, St C s₀ W env G s' m ((cenv.locals, oC) :: n₁) ∧ ∀ s'' : Shared, s''.heap.get? cenv.locals = some oC → ∃ mC, s''.heap.Ns cenv.locals mC := by
  obtain ⟨mC, ⟨oC, es, ep, eC, r⟩, _⟩ := D'.ns
  have hna := D'.na
  rw [List.map_cons, List.nodup_cons] at hna
  have hLC : env.locals ≠ cenv.locals := (D'.nw _ (.head _)).2.1
  refine ⟨oC, ⟨D.g0, D'.x, D.dyn, D.fn, D.glob, D.bui, ?_, D.hL, D.nd, fun p hp => ?_, ?_, D'.gn⟩, fun s'' e => ⟨mC, oC, es, ep, e, r⟩⟩
  · obtain ⟨mm, ⟨o, es, ep, e, r⟩, hok⟩ := D.ns
    rw [hoL] at e; cases e
    exact ⟨mm, ⟨oL, es, ep, (D'.nw _ (.head _)).1, r⟩, hok⟩
  · rcases List.mem_cons.mp hp with rfl | hp
    · exact ⟨eC, Ne.symm hLC, D'.hL⟩
    · have := D'.nw p (.tail _ hp)
      exact ⟨this.1, fun e => hna.1 (by show env.locals ∈ _; rw [← e]; exact List.mem_map_of_mem hp), this.2.2⟩
  · rw [List.map_cons, List.nodup_cons]
    refine ⟨fun hm => ?_, hna.2⟩
    obtain ⟨p, hp, e⟩ := List.mem_map.mp hm
    exact (D'.nw p (.tail _ hp)).2.1 e
noncomputable def CompGo (C : Cx) (A : Around) (E : Value → Shared → Prop) (e : Expr) (scope : Scope) (cl : List (Str × Addr)) (env : Env) (use : Option (Value → Sem Unit)) (Q : Value → Shared → Prop) (x : Value) (s : Shared) : Prop :=
  wpAny (MM C.w) A (pyIter x) (fun it s₂ => wpAny (MM C.w) A (newList []) (fun acc s₃ =>
    wpAny (MM C.w) A (newFunctionEnv scope env.globals cl [] env.qual none .none (some env)) (fun cenv s₄ =>
      codeAny (MM C.w) A (.compStart e 0 it acc { cenv with scope := relabel scope env }) (compPost (MM C.w) A E use Q acc cenv.locals) s₄) E s₃) E s₂) E s
theorem t_comp {elt target iter : Expr} {ifs : List Expr} {scope : Scope} {pos : Pos} {Q : Value → Shared → Prop} (cl : List (Str × Addr)) (hclos : closureFor scope env = pure cl) (hkind : scope.kind = .function) (hnames : ∀ y ∈ scope.names, y.2 = .local → scope.names.lookup y.1 = some .local)
    (h : ∀ s, St C s₀ W env G s m n → wpAny (MM C.w) A (eval iter env) (CompGo C A E (.ListComp elt [⟨target, iter, ifs, 0⟩] scope pos) scope cl env none Q) E s)
    (hs : ∀ x, foldedSetIterable iter env x = pure x := by intro _; with_unfolding_all rfl) :
    ∀ s, St C s₀ W env G s m n → wpAny (MM C.w) A (eval (.ListComp elt [⟨target, iter, ifs, 0⟩] scope pos) env) Q E s := fun s D => by
  rw [eval_ListComp]
  exact wpAny_comprehension_free (use := none) rfl hs hclos hkind hnames (h s D)
theorem t_compA {elt target iter : Expr} {ifs : List Expr} {scope : Scope} {pos spos py : Pos} {y : Str} {Q : Flow → Shared → Prop} (cl : List (Str × Addr)) (hclos : closureFor scope env = pure cl) (hkind : scope.kind = .function) (hnames : ∀ y ∈ scope.names, y.2 = .local → scope.names.lookup y.1 = some .local)
    (hsw : swapsWith (.ListComp elt [⟨target, iter, ifs, 0⟩] scope pos) (some (.Name y py)) spos.line env = pure true)
    (h : ∀ s, St C s₀ W env G s m n → wpAny (MM C.w) A (eval iter env) (CompGo C A E (.ListComp elt [⟨target, iter, ifs, 0⟩] scope pos) scope cl env (some (assign (.Name y py) env)) (fun _ => Q .next)) E s)
    (hs : ∀ x, foldedSetIterable iter env x = pure x := by intro _; with_unfolding_all rfl) :
    ∀ s, St C s₀ W env G s m n → wpAny (MM C.w) A (exec (.Assign [.Name y py] (.ListComp elt [⟨target, iter, ifs, 0⟩] scope pos) spos) env) Q E s := fun s D => by
  rw [exec_Assign_Name_used _ _ _ _ hsw]
  refine wpAny_bind (wpAny_standAt (wpAny_bind ?_))
  show wpAny _ A (do let _ ← comprehension (.ListComp elt [⟨target, iter, ifs, 0⟩] scope pos) scope env _ (newList []) false (eval iter env) (some (assign (.Name y py) env))) _ _ s
  exact wpAny_bind (wpAny_mono (wpAny_comprehension_free (use := some (assign (.Name y py) env)) (Q := fun _ s' => Q .next s') rfl hs hclos hkind hnames (h s D)) (fun _ s' hq => wpAny_pure (wpAny_pure hq)) fun _ _ e => e)
/-- what is done for one item -/
noncomputable def TestsGo (C : Cx) (A : Around) (E : Value → Shared → Prop) (ifs : List Expr) (env : Env) (Q : Bool → Shared → Prop) (s : Shared) : Prop :=
  wpAny (MM C.w) A (forIn ifs true fun c r => if r = true then do let ok ← isTrue c env (eval c env); pure (ForInStep.yield ok) else pure (ForInStep.yield r)) Q E s
theorem t_tests0 {Q : Bool → Shared → Prop} (h : ∀ s, St C s₀ W env G s m n → Q true s) : ∀ s, St C s₀ W env G s m n → TestsGo C A E [] env Q s := fun s D => wpAny_tests_nil (h s D)
theorem t_tests1 {c : Expr} {Q : Bool → Shared → Prop} (h : ∀ s, St C s₀ W env G s m n → wpAny (MM C.w) A (isTrue c env (eval c env)) Q E s) : ∀ s, St C s₀ W env G s m n → TestsGo C A E [c] env Q s := fun s D => wpAny_tests_one (h s D)
noncomputable abbrev KTe (C : Cx) (A : Around) (env : Env) (E : Value → Shared → Prop) (elt : Expr) (K : Value → Shared → Prop) (K' : Shared → Prop) : Bool → Shared → Prop := fun ok s => if ok = true then wpAny (MM C.w) A (eval elt env) K E s else K' s
noncomputable abbrev KTg (C : Cx) (A : Around) (env : Env) (E : Value → Shared → Prop) (ifs : List Expr) (K : Bool → Shared → Prop) : Unit → Shared → Prop := fun _ s => TestsGo C A E ifs env K s
noncomputable abbrev KYe (C : Cx) (s₀ : Shared) (W : List Addr) (env : Env) (G : List (Nat × GenState)) (J : List Value → List (Str × Bnd) → List (Addr × Obj) → Prop) (I : List (Addr × Obj)) (ys : List Value) : Value → Shared → Prop := fun y s => ys.length ≤ sizeLine ∧ CT C s₀ W env G (J (ys ++ [y])) I s
/-- what is asked behind the target's store, in a comprehension -/
noncomputable abbrev KCT (C : Cx) (A : Around) (s₀ : Shared) (W : List Addr) (env : Env) (G : List (Nat × GenState)) (E : Value → Shared → Prop) (elt : Expr) (ifs : List Expr) (J : List Value → List (Str × Bnd) → List (Addr × Obj) → Prop) (I : List (Addr × Obj)) (ys : List Value) : Unit → Shared → Prop :=
  KTg C A env E ifs (KTe C A env E elt (KYe C s₀ W env G J I ys) (CT C s₀ W env G (J ys) I))
inductive CInv (C : Cx) (s₀ : Shared) (W : List Addr) (env : Env) (G : List (Nat × GenState)) (J : Nat → List Value → List (Str × Bnd) → List (Addr × Obj) → Prop) (OK : Nat → Obj → Prop) (I Da eL : Addr) (oL : Obj) (len k : Nat) (s' : Shared) : Prop
  | mk (i : Nat) (ys : List Value) (m₁ : List (Str × Bnd)) (n₁ : List (Addr × Obj)) (o : Obj) (e : Nat) (_ : k + i = len) (_ : J i ys m₁ n₁) (_ : OK i o) (_ : St C s₀ W env G s' m₁ ((I, o) :: (Da, listObj ys e) :: (eL, oL) :: n₁))
/-- the turn's end: what was evaluated is appended, or nothing is -/
theorem comp_end {cenv : Env} {J : List Value → List (Str × Bnd) → List (Addr × Obj) → Prop} {I : List (Addr × Obj)} {Da : Addr} {ys : List Value} {e : Nat} {r : List (Addr × Obj)} {E' : Value → Shared → Prop} {elt : Expr} {P : Shared → Prop} {ok : Bool} {s : Shared}
    (hI : I = r ++ (Da, listObj ys e) :: n') (h : KTe C A cenv E' elt (KYe C s₀ W cenv G J I ys) (CT C s₀ W cenv G (J ys) I) ok s)
    (hP : ∀ zs e', CT C s₀ W cenv G (J zs) (r ++ (Da, listObj zs e') :: n') s → P s) (hP' : ∀ zs e' s, CT C s₀ W cenv G (J zs) (r ++ (Da, listObj zs e') :: n') s → P s) :
    if ok = true then wpAny (MM C.w) A (eval elt cenv) (fun x s₄ => wpAny (MM C.w) A (call (.builtin "list.append") [.ref Da, x]) (fun _ s₅ => P s₅) E' s₄) E' s else P s := by
  subst hI
  cases ok with
  | true =>
    simp only [KTe, if_true] at h ⊢
    refine wpAny_mono h (fun y s₄ h₄ => ?_) fun _ _ e => e
    obtain ⟨hsz, m₂, n₂, hJ2, D4⟩ := h₄
    rw [List.append_assoc] at D4
    exact c_append (List.mem_append_right _ (.head _)) (.app .head) hsz (fun s₅ D5 => hP' _ (e + 1) s₅ ⟨m₂, n₂, hJ2, by rw [List.append_assoc]; exact D5⟩) _ D4
  | false =>
    simp only [KTe, Bool.false_eq_true, if_false] at h ⊢
    exact hP _ e h
/-- the loop of a comprehension over an iterator of one object -/
theorem comp_loop {elt target iter : Expr} {ifs : List Expr} {scope : Scope} {pos : Pos} {cenv : Env} {R : Result → Shared → Prop} {src : List (Addr × Obj)} {len : Nat} {V : Nat → Value → Prop} {I Da eL : Addr} {oL o : Obj} {OK : Nat → Obj → Prop}
    (J : Nat → List Value → List (Str × Bnd) → List (Addr × Obj) → Prop) (hh : A.handled = none) (hI : Itr C src I len V OK) (hsrc : ∀ i ys m₁ n₁, J i ys m₁ n₁ → ∀ p ∈ src, p ∈ n₁)
    (h0 : J 0 [] m n) (hok : OK 0 o) (D : St C s₀ W cenv G s m ((I, o) :: (Da, listObj [] 0) :: (eL, oL) :: n))
    (turn : ∀ i v ys m₁ n₁ o e E', i < len → V i v → J i ys m₁ n₁ → ∀ s, St C s₀ W cenv G s m₁ ((I, o) :: (Da, listObj ys e) :: (eL, oL) :: n₁) →
      wpAny (MM C.w) A (assign target cenv v) (KCT C A s₀ W cenv G E' elt ifs (J (i + 1)) [(I, o), (Da, listObj ys e), (eL, oL)] ys) E' s)
    (done : ∀ ys m₁ n₁ e s, J len ys m₁ n₁ → St C s₀ W cenv G s m₁ ((Da, listObj ys e) :: (eL, oL) :: n₁) → R (.ok .next) s) :
    codeAny (MM C.w) A (.compLoop (.ListComp elt [⟨target, iter, ifs, 0⟩] scope pos) 0 (.ref I) (.ref Da) cenv) R s := by
  refine compLoop_own (CInv C s₀ W cenv G J OK I Da eL oL len) ?_ len ⟨0, [], m, n, o, 0, rfl, h0, hok, D⟩
  rintro k s' ⟨i, ys, m₁, n₁, o, e, hki, hJ, hok, D'⟩
  have hs' : ∀ p ∈ src, p ∈ (Da, listObj ys e) :: (eL, oL) :: n₁ := fun p hp => .tail _ (.tail _ (hsrc _ _ _ _ hJ p hp))
  by_cases hil : i < len
  · refine hI.item hh hil hok hs' D' ?_
    intro v o' s'' hv hok' D''
    obtain ⟨nm, hc, hn⟩ := hI.cls _ _ hok'
    refine letOwned_other (D''.nw _ (.head _)).1 hc hn ?_
    have fin : ∀ zs e' s, CT C s₀ W cenv G (J (i + 1) zs) ([(I, o')] ++ (Da, listObj zs e') :: [(eL, oL)]) s → ∃ m, m < k ∧ CInv C s₀ W cenv G J OK I Da eL oL len m s := fun zs e' s ⟨m₂, n₂, hJ2, D3⟩ =>
      ⟨k - 1, (pred_turn hil hki).1, i + 1, zs, m₂, n₂, o', e', (pred_turn hil hki).2, hJ2, hok', D3⟩
    exact wpAny_mono (turn i v ys m₁ n₁ o' e _ hil hv hJ _ D'') (fun _ s₂ h₂ => wpAny_mono h₂ (fun ok s₃ h₃ => comp_end (r := [(I, o')]) rfl h₃ (fun zs e' hc => fin zs e' s₃ hc) fin) fun _ _ e => e) fun _ _ e => e
  · obtain rfl : i = len := end_turn hil hki
    exact hI.done hh hok hs' D' fun s'' D'' => done ys m₁ n₁ e s'' hJ D''
/-- a comprehension over an iterator of one object: the loop, its frame laid and left -/
theorem comp_core {elt target iter : Expr} {ifs : List Expr} {scope : Scope} {pos : Pos} {cl : List (Str × Addr)} {use : Option (Value → Sem Unit)} {Q : Value → Shared → Prop} {v : Value} {src : List (Addr × Obj)} {len : Nat} {V : Nat → Value → Prop}
    (J : Nat → List Value → List (Str × Bnd) → List (Addr × Obj) → Prop) (hh : A.handled = none) (hi : Iter C v n src len V) (hsrc : ∀ i ys m₁ n₁, J i ys m₁ n₁ → ∀ p ∈ src, p ∈ n₁)
    (hcell : ∀ y ∈ scope.names, y.2 ≠ .cell) (hk : scope.kind = .function) (hm : ∀ a, McOk C.w (compEnvC scope cl a env) mc) (hnd : (mc.map (·.1)).Nodup) (h0 : J 0 [] mc n)
    (turn : ∀ i v ys m₁ n₁ I o D e L oL c E', i < len → V i v → J i ys m₁ n₁ → ∀ s, St C s₀ W (compEnvC scope cl c env) G s m₁ ((I, o) :: (D, listObj ys e) :: (L, oL) :: n₁) →
      wpAny (MM C.w) A (assign target (compEnvC scope cl c env) v) (KCT C A s₀ W (compEnvC scope cl c env) G E' elt ifs (J (i + 1)) [(I, o), (D, listObj ys e), (L, oL)] ys) E' s)
    (done : ∀ ys m₁ n₁ D e c oC s, J len ys m₁ n₁ → (∀ s'' : Shared, s''.heap.get? c = some oC → ∃ mC, s''.heap.Ns c mC) → St C s₀ W env G s m ((c, oC) :: (D, listObj ys e) :: n₁) → compPost (MM C.w) A E use Q (.ref D) c (.ok .next) s) :
    ∀ s, St C s₀ W env G s m n → CompGo C A E (.ListComp elt [⟨target, iter, ifs, 0⟩] scope pos) scope cl env use Q v s := fun s D => by
  refine hi D ?_
  intro I o OK hI hok s D
  refine t_newList (by decide) ?_ s D
  intro Da s D
  obtain ⟨oL, hoL⟩ := D.locAt
  refine wpAny_newFunctionEnv hcell (by intro y hy; simp at hy) (fun h' hns hs => ?_) hk
  have D2 := (D.comp hoL hk (hm _) hnd hns hs (s.toks + ([] : List (Str × Value)).length)).perm (turn3 (env.locals, oL) (Da, listObj [] 0) (I, o) n)
  have loop := comp_loop (elt := elt) (target := target) (iter := iter) (ifs := ifs) (scope := scope) (pos := pos) (R := compPost (MM C.w) A E use Q (.ref Da) s.heap.objs.size) J hh hI hsrc h0 hok D2 (fun i v ys m₁ n₁ o e E' => turn i v ys m₁ n₁ I o Da e _ oL _ E') (fun ys m₁ n₁ e s' hJ D'' => by
    obtain ⟨oC, D3, hC⟩ := D.compBack hoL (D''.perm (List.Perm.swap _ _ _))
    exact done ys m₁ n₁ Da e _ oC s' hJ hC D3)
  exact codeAny_compStart_list loop (hI.self hok D2 loop)
/-- the value of a comprehension -/
theorem compPost_val {Q : Value → Shared → Prop} {D c : Addr} {oC : Obj} {s : Shared} (hC : ∀ s'' : Shared, s''.heap.get? c = some oC → ∃ mC, s''.heap.Ns c mC) (DD : St C s₀ W env G s m ((c, oC) :: n)) (h : ∀ s, St C s₀ W env G s m n → Q (.ref D) s) :
    compPost (MM C.w) A E none Q (.ref D) c (.ok .next) s := by
  obtain ⟨mC, hmC⟩ := hC s (DD.nw _ (.head _)).1
  exact ⟨mC, hmC, fun h' hs => h _ (DD.drop s.drawn s.toks hs.extBut)⟩
/-- a comprehension stored under a name -/
theorem compPost_loc {y : Str} {py : Pos} {Q : Flow → Shared → Prop} {D c : Addr} {oC : Obj} {s : Shared} (hC : ∀ s'' : Shared, s''.heap.get? c = some oC → ∃ mC, s''.heap.Ns c mC) (DD : St C s₀ W env G s m ((c, oC) :: n))
    (U : Upd y (Bnd.loc (some (.ref D))) m m') (hk : ∃ u, (y, Bnd.loc u) ∈ m) (h : ∀ s, St C s₀ W env G s m' n → Q .next s) :
    compPost (MM C.w) A E (some (assign (.Name y py) env)) (fun _ => Q .next) (.ref D) c (.ok .next) s := by
  refine t_asgName (t_stl U (fun s'' D'' => ?_) hk) s DD
  obtain ⟨mC, hmC⟩ := hC s'' (D''.nw _ (.head _)).1
  exact ⟨mC, hmC, fun h' hs => h _ (D''.drop s''.drawn s''.toks hs.extBut)⟩
theorem compPost_cel {y : Str} {py : Pos} {Q : Flow → Shared → Prop} {D c a : Addr} {oC : Obj} {s : Shared} (hC : ∀ s'' : Shared, s''.heap.get? c = some oC → ∃ mC, s''.heap.Ns c mC) (DD : St C s₀ W env G s m ((c, oC) :: n))
    (hx : (y, Bnd.cel a) ∈ m) (U : Upd a (cellObj (some (.ref D))) n n') (hc : ∃ u, (a, cellObj u) ∈ n) (hk : env.kindOf y = some .cell) (h : ∀ s, St C s₀ W env G s m n' → Q .next s) :
    compPost (MM C.w) A E (some (assign (.Name y py) env)) (fun _ => Q .next) (.ref D) c (.ok .next) s := by
  refine t_asgName (t_stc hx (.tail U) (hc.imp fun u hu => .tail _ hu) hk fun s'' D'' => ?_) s DD
  obtain ⟨mC, hmC⟩ := hC s'' (D''.nw _ (.head _)).1
  exact ⟨mC, hmC, fun h' hs => h _ (D''.drop s''.drawn s''.toks hs.extBut)⟩
end
theorem Ok.underTC {A : Around} {k : Nat} (h : Ok A (k + 1)) (c : Addr) (r : List Value) (kw : List (Str × Value)) : Ok (A.under (.builtin "type.__call__" ⟨.ref c :: r, kw⟩)) k :=
  ⟨h.hh, by have := h.d; show A.depth + 1 + k < _; omega, by have := h.u; show A.units + 1 + 10 * k < _; omega,
    by simp only [Around.under, pushEnvs_eq, Option.isSome_map]; exact h.fr⟩
section
variable {C : Cx} {s₀ s s' : Shared} {W W' : List Addr} {env env' : Env} {G G' : List (Nat × GenState)} {m m' : List (Str × Bnd)} {n n' n'' : List (Addr × Obj)}
/-- a def of the text entered, as code -/
theorem t_enterC {A : Around} {f : Addr} {fd : FuncData} {body : List Stmt} {args : List Value} {kw : List (Str × Value)} {binds : List (Str × Value)} {mi : List (Str × Bnd)} {k : Nat} {R' : Result → Shared → Prop}
    (D : St C s₀ W env G s m n) (hA : Ok A (k + 1)) (F : FnAt C.w f fd body) (hgen : fd.scope.isGenerator = false) (hbind : BindsTo s fd ⟨args, kw⟩ binds)
    (hcell : ∀ x ∈ fd.scope.names, x.2 ≠ .cell) (hloc : ∀ x ∈ binds, fd.scope.names.lookup x.1 = some .local)
    (hm : MiOk C.w binds fd.scope.names mi) (hnd : (fd.scope.names.map (·.1)).Nodup)
    (R : List (Addr × Obj)) (hn' : ∀ p ∈ R, p ∈ n) (hRn : (R.map (·.1)).Nodup)
    (h : ∀ L E', ∀ s₁, St C s (R.map (·.1)) (fnEnv fd f L) [] s₁ mi R → wpAny (MM C.w) (A.deeper (fnEnv fd f L)) (execs body (fnEnv fd f L)) (fun fl s' => R' (.ok (.ret (match fl with | .ret v => v | _ => .none))) s') E' s₁) :
    codeAny (MM C.w) A (.call (.ref f) ⟨args, kw⟩) R' s := by
  obtain ⟨oc, od, osl, ho⟩ := F.ho
  refine codeAny_call_function (fd := fd) (body := body) (by have := hA.d; omega) (D.g.K _ _ ho) rfl F.hco hgen F.hbody (codeRec_of D.g.K F.hcode) ?_
  refine hbind _ _ _ _ (wpAny_newFunctionEnv hcell hloc (fun h' hns hs => ?_) F.hk)
  have hk : ∀ b o, s.heap.get? b = some o → h'.get? b = some o := fun b o e => hs.extBut b o (Nat.ne_of_lt (Heap.lt_size e)) (Heap.get?_push_of_some _ e)
  have hW : ∀ a ∈ R.map (·.1), a ∈ n.map (·.1) := fun a ha => by
    obtain ⟨p, hp, rfl⟩ := List.mem_map.mp ha
    exact List.mem_map_of_mem (hn' p hp)
  have hwi : ∀ a ∈ R.map (·.1), a ≠ env.locals ∧ (a ∈ W ∨ s₀.heap.get? a = none) := fun a ha => by
    obtain ⟨p, hp, rfl⟩ := List.mem_map.mp (hW a ha)
    exact (D.nw p hp).2
  have D₁ : St C s (R.map (·.1)) (fnEnv fd f s.heap.objs.size) [] ⟨h', s.gens, s.drawn, s.toks + binds.length, s.os⟩ mi R := by
    refine ⟨D.g, ⟨fun b o _ e => hk b o e, fun _ _ e => e, fun x => x, rfl⟩, fun a ha => ?_, F.hk, F.hg, F.hb, ⟨_, hns, fun p hp => ?_⟩, (.inr (get_size _)), by rw [hm.keys]; exact hnd, fun p hp => ⟨hk _ _ (D.nw p (hn' p hp)).1, ?_, .inl (List.mem_map_of_mem hp)⟩, hRn, fun _ h => nomatch h⟩
    · rcases (hwi a ha).2 with h | h
      · exact D.dyn a h
      · exact D.g0.dyn h
    · have := hm.get p hp
      cases hb : p.2 with
      | loc v => rw [hb] at this; exact ⟨lookup_of_mem hnd this.1, this.2⟩
      | glo v => rw [hb] at this; exact ⟨lookup_of_mem hnd this.1, this.2⟩
      | cel c => rw [hb] at this; exact this.elim
      | unk => trivial
    · show p.1 ≠ s.heap.objs.size
      exact Nat.ne_of_lt (Heap.lt_size (D.nw p (hn' p hp)).1)
  refine ⟨(D₁.nolim), codeAny_func (h _ _ _ D₁)⟩
theorem enterC {A : Around} {f : Addr} (F : FnOf f) {args : List Value} {kw : List (Str × Value)} {k : Nat} {R' : Result → Shared → Prop} (binds : List (Str × Value)) (mi : List (Str × Bnd)) (R : List (Addr × Obj))
    (D : St C s₀ W env G s m n) (hA : Ok A (k + 1)) (hgen : F.fd.scope.isGenerator = false) (hcell : F.fd.scope.names.all (fun x => x.2 != .cell) = true) (hbind : BindsTo s F.fd ⟨args, kw⟩ binds)
    (hloc : ∀ x ∈ binds, F.fd.scope.names.lookup x.1 = some .local) (hm : MiOk C.w binds F.fd.scope.names mi)
    (hn' : ∀ p ∈ R, p ∈ n) (hRn : (R.map (·.1)).Nodup)
    (h : ∀ L E', ∀ s₁, St C s (R.map (·.1)) (fnEnv F.fd f L) [] s₁ mi R → wpAny (MM C.w) (A.deeper (fnEnv F.fd f L)) (execs F.body (fnEnv F.fd f L)) (fun fl s' => R' (.ok (.ret (match fl with | .ret v => v | _ => .none))) s') E' s₁) :
    codeAny (MM C.w) A (.call (.ref f) ⟨args, kw⟩) R' s :=
  t_enterC D hA F.at hgen hbind (fun x hx => by simpa using List.all_eq_true.mp hcell x hx) hloc hm F.hn R hn' hRn h
/-- a class of the text called -/
theorem t_make {A : Around} {E : Value → Shared → Prop} {c fI : Addr} {args : List Value} {Q : Value → Shared → Prop} (hm : makesIn (KK C.w) c = true) (hi : findIn (KK C.w) (.ref c) "__init__" = some (some (.ref fI))) (hf : typeIn (KK C.w) (.ref fI) = some (.type "function"))
    (h : ∀ x dx, ∀ s, St C s₀ W env G s m ((x, instObj c dx) :: (dx, emptyDict) :: n) → codeAny (MM C.w) (A.under (.builtin "type.__call__" ⟨.ref c :: args, []⟩)) (.call (.ref fI) ⟨.ref x :: args, []⟩) (fun r s' => r = .ok (.ret .none) ∧ Q (.ref x) s') s) :
    ∀ s, St C s₀ W env G s m n → wpAny (MM C.w) A (call (.ref c) args []) Q E s := fun s D => by
  refine wpAny_call ?_
  have D' : St C s₀ W env G ⟨(s.heap.push emptyDict).push (instObj c s.heap.objs.size), s.gens, s.drawn, s.toks, s.os⟩ m ((s.heap.objs.size + 1, instObj c s.heap.objs.size) :: (s.heap.objs.size, emptyDict) :: n) := by
    have := (D.push emptyDict s.drawn s.toks rfl).push (instObj c s.heap.objs.size) s.drawn s.toks rfl
    rw [show (⟨s.heap.push emptyDict, s.gens, s.drawn, s.toks, s.os⟩ : Shared).heap.objs.size = s.heap.objs.size + 1 from Heap.size_push ..] at this
    exact this
  refine make_core (init := .ref fI) (makes_of D.g.K hm) (looks_findIn D.g.K hi) (fun self => bind_fn D.g.K self hf) (.inl rfl) (codeAny_mono (h _ _ _ D') fun r s' hr => ?_)
  obtain ⟨rfl, hq⟩ := hr
  exact ⟨rfl, hq⟩

/-! the library's frames -/
noncomputable def exOf (h : Heap) (L : Addr) (n : List (Addr × Obj)) : List (Addr × Obj) := (List.range' (L + 1) (h.objs.size - (L + 1))).filterMap fun a => if a ∈ n.map (·.1) then none else (h.get? a).map fun o => (a, o)
theorem mem_ex {h : Heap} {L : Addr} {n : List (Addr × Obj)} {p : Addr × Obj} : p ∈ exOf h L n ↔ L < p.1 ∧ p.1 ∉ n.map (·.1) ∧ h.get? p.1 = some p.2 := by
  unfold exOf
  rw [List.mem_filterMap]
  constructor
  · rintro ⟨a, ha, e⟩
    split at e
    · cases e
    · rename_i hn
      obtain ⟨o, ho, rfl⟩ := Option.map_eq_some_iff.mp e
      rw [List.mem_range'_1] at ha
      exact ⟨Nat.lt_of_succ_le ha.1, hn, ho⟩
  · obtain ⟨a, o⟩ := p
    rintro ⟨h1, h2, h3⟩
    dsimp only at h1 h2 h3
    refine ⟨a, ?_, ?_⟩
    · rw [List.mem_range'_1]
      have h5 := Heap.lt_size h3
      have h4 : L + 1 ≤ a := Nat.succ_le_of_lt h1
      exact ⟨h4, by rw [Nat.add_sub_cancel' (Nat.le_trans h4 (Nat.le_of_lt h5))]; exact h5⟩
    · rw [if_neg h2, h3]; rfl
/-- the heap's part that is not ours to write: what lies below the frame, our own objects away -/
noncomputable def under0 (h : Heap) (L : Addr) (ks : List Addr) : Heap :=
  ⟨((List.range L).map fun a => if a ∈ ks then ({ cls := .none, data := .freed } : Obj) else ((h.objs[a]?).getD { cls := .none, data := .freed })).toArray, h.life⟩
theorem under0_get {h : Heap} {L : Addr} {ks : List Addr} {a : Addr} {o : Obj} (e : (under0 h L ks).get? a = some o) : a < L ∧ a ∉ ks ∧ h.get? a = some o := by
  unfold Heap.get? under0 at e
  simp only [List.getElem?_toArray, List.getElem?_map] at e
  have hl : a < L := by
    rcases Nat.lt_or_ge a L with h | h
    · exact h
    · rw [List.getElem?_eq_none (by simpa using h)] at e; cases e
  rw [List.getElem?_range hl] at e
  simp only [Option.map_some] at e
  by_cases hk : a ∈ ks
  · rw [if_pos hk] at e; cases e
  · rw [if_neg hk] at e
    refine ⟨hl, hk, ?_⟩
    unfold Heap.get?
    cases hq : h.objs[a]? with
    | none => rw [hq] at e; cases e
    | some q => rw [hq] at e; exact e
theorem under0_none {h : Heap} {L : Addr} {ks : List Addr} {a : Addr} (hk : a ∈ ks ∨ L ≤ a) : (under0 h L ks).get? a = none := by
  cases e : (under0 h L ks).get? a with
  | none => rfl
  | some o =>
    obtain ⟨h1, h2, _⟩ := under0_get e
    rcases hk with h | h
    · exact absurd h h2
    · exact absurd h1 (Nat.not_lt.mpr h)
theorem under0_some {h : Heap} {L : Addr} {ks : List Addr} {a : Addr} {o : Obj} (hl : a < L) (hk : a ∉ ks) (e : h.get? a = some o) : (under0 h L ks).get? a = some o := by
  unfold Heap.get? under0
  simp only [List.getElem?_toArray, List.getElem?_map]
  rw [List.getElem?_range hl]
  simp only [Option.map_some, if_neg hk]
  unfold Heap.get? at e
  cases hq : h.objs[a]? with
  | none => rw [hq] at e; cases e
  | some q => rw [hq] at e; exact e
theorem St.fr (D : St C s₀ W env G s m n) : ∃ (h₀ : Heap) (mm : Str → Option Value) (ex : List (Addr × Obj)), Fr h₀ env.locals s.heap mm ∧ News h₀ env.locals s.heap (n ++ ex) ∧ (∀ p ∈ ex, p.1 ∉ n.map (·.1)) ∧
    ∀ (h' : Heap) (n' : List (Addr × Obj)) (d : Drawn) (t : Nat), Fr h₀ env.locals h' mm → News h₀ env.locals h' (n' ++ ex) → (∀ p ∈ n', p.1 ∈ n.map (·.1) ∨ s.heap.get? p.1 = none) → (n'.map (·.1)).Nodup → St C s₀ W env G ⟨h', s.gens, d, t, s.os⟩ m n' := by
  obtain ⟨mm, hm, hok⟩ := D.ns
  refine ⟨under0 s.heap env.locals (n.map (·.1)), mm, exOf s.heap env.locals n, ⟨hm, fun b o e => (under0_get e).2.2, ?_⟩, ?_, fun p hp => (mem_ex.mp hp).2.1, ?_⟩
  · simp [under0]
  · intro p hp
    rcases List.mem_append.mp hp with hp | hp
    · exact ⟨(D.nw p hp).1, (D.nw p hp).2.1, under0_none (.inl (List.mem_map_of_mem hp))⟩
    · obtain ⟨h1, h2, h3⟩ := mem_ex.mp hp
      exact ⟨h3, Nat.ne_of_gt h1, under0_none (.inr (Nat.le_of_lt h1))⟩
  · intro h' n' d t F N hn' hnd
    have hin : ∀ a ∈ n.map (·.1), a ≠ env.locals ∧ (a ∈ W ∨ s₀.heap.get? a = none) := fun a ha => by
      obtain ⟨p, hp, rfl⟩ := List.mem_map.mp ha
      exact (D.nw p hp).2
    have keep : ∀ b o, b ≠ env.locals → b ∉ n.map (·.1) → s.heap.get? b = some o → h'.get? b = some o := fun b o h1 h2 e => by
      rcases Nat.lt_trichotomy b env.locals with h | h | h
      · exact F.keep b o (under0_some h h2 e)
      · exact absurd h h1
      · exact (N (b, o) (List.mem_append_right _ (mem_ex.mpr ⟨h, h2, e⟩))).1
    refine ⟨D.g0, ⟨fun b o hb e => ?_, D.x.gens, D.x.bare, D.x.os⟩, D.dyn, D.fn, D.glob, D.bui, ⟨mm, F.ns, hok⟩, D.hL, D.nd, fun p hp => ⟨(N p (List.mem_append_left _ hp)).1, (N p (List.mem_append_left _ hp)).2.1, ?_⟩, hnd, D.gn⟩
    · refine keep b o ?_ ?_ (D.x.keep b o hb e)
      · rintro rfl
        rcases D.hL with h | h
        · exact hb h
        · rw [h] at e; cases e
      · intro hm
        rcases (hin b hm).2 with h | h
        · exact hb h
        · rw [h] at e; cases e
    · rcases hn' p hp with h | h
      · exact (hin _ h).2
      · exact D.newAt h
end
inductive IsD : List DictEntry → List (Str × Value) → Prop
  | nil : IsD [] []
  | cons (h : Int) (x : Str) (t : Tok) (v : Value) {es fs} : IsD es fs → IsD (⟨h, .str x t, v⟩ :: es) ((x, v) :: fs)
noncomputable def DictIs (o : Obj) (fs : List (Str × Value)) : Prop := ∃ es k, o = dictOf es k ∧ IsD es fs
theorem DictIs.empty : DictIs emptyDict [] := ⟨[], 0, rfl, .nil⟩
noncomputable def setF (name : Str) (v : Value) : List (Str × Value) → List (Str × Value)
  | [] => [(name, v)]
  | (x, u) :: r => if x = name then (x, v) :: r else (x, u) :: setF name v r
theorem isStr_eq (x name : Str) (t : Tok) : (Value.str x t).isStr name = (x == name) := rfl
theorem IsD.refKey {es : List DictEntry} {fs : List (Str × Value)} (h : IsD es fs) : es.any (·.refKey) = false := by
  induction h with
  | nil => rfl
  | cons h x t v _ ih => rw [List.any_cons, ih]; rfl
theorem IsD.get {es : List DictEntry} {fs : List (Str × Value)} (h : IsD es fs) (name : Str) : getL name es = some (fs.lookup name) := by
  have hr := h.refKey
  unfold getL
  induction h with
  | nil => rfl
  | @cons h x t v es fs hd ih =>
    rw [List.any_cons] at hr
    have hr' : es.any (·.refKey) = false := (Bool.or_eq_false_iff.mp hr).2
    have ih := ih hr'
    rw [List.find?_cons, List.lookup_cons]
    simp only [isStr_eq]
    by_cases e : x = name
    · subst e; simp
    · rw [beq_eq_false_iff_ne.mpr e, beq_eq_false_iff_ne.mpr (Ne.symm e)]
      dsimp only
      rw [List.any_cons]
      simp only [hr', Bool.or_false] at ih ⊢
      exact ih
theorem IsD.put {es : List DictEntry} {fs : List (Str × Value)} (h : IsD es fs) (name : Str) (hsh : Int) (t : Tok) (v : Value) : IsD (putL name hsh (.str name t) v es) (setF name v fs) := by
  induction h with
  | nil => exact .cons _ _ _ _ .nil
  | cons h x t' u hd ih =>
    unfold putL setF
    by_cases e : x = name
    · subst e
      rw [if_pos rfl, if_pos (by rw [isStr_eq]; simp)]
      exact .cons _ _ _ _ hd
    · rw [if_neg e, if_neg (by rw [isStr_eq]; simpa using e)]
      exact .cons _ _ _ _ ih
theorem IsD.len {es : List DictEntry} {fs : List (Str × Value)} (h : IsD es fs) : es.length = fs.length := by
  induction h with
  | nil => rfl
  | cons _ _ _ _ _ ih => simp [ih]
section
variable {C : Cx} {s₀ s s' : Shared} {W W' : List Addr} {env env' : Env} {G G' : List (Nat × GenState)} {A : Around} {E : Value → Shared → Prop} {m m' : List (Str × Bnd)} {n : List (Addr × Obj)}
theorem St.inst (D : St C s₀ W env G s m n) {x dx c : Addr} {o : Obj} (hx : (x, instObj c dx) ∈ n) (hd : (dx, o) ∈ n) : InstAt s.heap x (instObj c dx) c (some o) := ⟨D.get hx, rfl, rfl, D.get hd⟩
structure ClsOk (C : Cx) (c : Addr) : Prop where
  ga : findIn (KK C.w) (.ref c) "__getattribute__" = some (some (.builtin "object.__getattribute__"))
  gt : findIn (KK C.w) (.ref c) "__getattr__" = some none
  sa : findIn (KK C.w) (.ref c) "__setattr__" = some (some (.builtin "object.__setattr__"))
  po : plainOver (KK C.w) c = true
  hh : (clsIn (KK C.w) c).any (·.hasDict) = true
theorem t_getA {x dx c : Addr} {o : Obj} {fs : List (Str × Value)} {name : Str} {v : Value} {b : Bool} {Q : Value → Shared → Prop} (K : ClsOk C c) (hx : (x, instObj c dx) ∈ n) (hd : (dx, o) ∈ n) (ho : DictIs o fs) (hl : fs.lookup name = some v)
    (ha : findIn (KK C.w) (.ref c) name = some none) (hv : handedIn v = true) (h : ∀ s, St C s₀ W env G s m n → Q v s) :
    ∀ s, St C s₀ W env G s m n → wpAny (MM C.w) A (getAttr (.ref x) name b) Q E s := fun s D => by
  obtain ⟨es, k, rfl, hD⟩ := ho
  exact get_value D.g.K (D.inst hx hd) K.ga (findObj_own K.hh ha rfl (by rw [lookIn_dict, hD.get, hl])) hv (h _ (D.tok s.drawn (s.toks + 1)))
theorem t_methI {x dx c f : Addr} {o : Obj} {fs : List (Str × Value)} {name : Str} {pl : Sem Bool} {Q : Value × List Value → Shared → Prop} (K : ClsOk C c) (hx : (x, instObj c dx) ∈ n) (hd : (dx, o) ∈ n) (ho : DictIs o fs) (hl : fs.lookup name = none)
    (hf : findIn (KK C.w) (.ref c) name = some (some (.ref f))) (ht : typeIn (KK C.w) (.ref f) = some (.type "function")) (h : ∀ s, St C s₀ W env G s m n → Q (.ref f, [.ref x]) s) :
    ∀ s, St C s₀ W env G s m n → wpAny (MM C.w) A (getMethod (.ref x) name pl) Q E s := fun s D => by
  obtain ⟨es, k, rfl, hD⟩ := ho
  refine method_fn D.g.K (D.inst hx hd) K.ga K.gt hf ht ?_ (h _ D)
  show (lookIn name (dictOf es k)).map _ = _
  rw [lookIn_dict, hD.get, hl]; rfl
theorem t_clsA {c : Addr} {mc v : Value} {name : Str} {b : Bool} {Q : Value → Shared → Prop} (hr : readsIn (KK C.w) c mc = true) (e : findCls (KK C.w) (.ref c) mc name = some (.val v)) (hh : handedIn v = true) (h : ∀ s, St C s₀ W env G s m n → Q v s) :
    ∀ s, St C s₀ W env G s m n → wpAny (MM C.w) A (getAttr (.ref c) name b) Q E s := fun s D => cls_value D.g.K hr e hh (h _ (D.tok s.drawn (s.toks + 1)))
theorem upd_split {d : Addr} {o' : Obj} {n n' : List (Addr × Obj)} (U : Upd d o' n n') : ∃ o pre post, n = pre ++ (d, o) :: post ∧ n' = pre ++ (d, o') :: post := by
  induction U with
  | @head u r => exact ⟨u, [], r, rfl, rfl⟩
  | @tail p r r' _ ih =>
    obtain ⟨o, pre, post, rfl, rfl⟩ := ih
    exact ⟨o, p :: pre, post, rfl, rfl⟩
theorem t_setA {x dx c : Addr} {o : Obj} {fs : List (Str × Value)} {name : Str} {v : Value} {n' : Obj → List (Addr × Obj)} {Q : Unit → Shared → Prop} (K : ClsOk C c) (hx : (x, instObj c dx) ∈ n) (hd : (dx, o) ∈ n) (ho : DictIs o fs) (hlen : fs.length ≤ 900)
    (ht : takerIn (KK C.w) c name = some none) (U : ∀ o', Upd dx o' n (n' o')) (h : ∀ o', DictIs o' (setF name v fs) → ∀ s, St C s₀ W env G s m (n' o') → Q () s) :
    ∀ s, St C s₀ W env G s m n → wpAny (MM C.w) A (setAttr (.ref x) name v) Q E s := fun s D => by
  obtain ⟨es, k, rfl, hD⟩ := ho
  have I := D.inst hx hd
  obtain ⟨h₀, mm, ex, F, N, hex, back⟩ := D.fr
  obtain ⟨o2, pre, post, e1, e2⟩ := upd_split (U (Obj.putName name (PyData.keyHash C.w.params name) (.str name (s.toks + 1)) v (dictOf es k)))
  have hna := D.na
  have ho2 : o2 = dictOf es k := mem_unique hna (e1 ▸ List.mem_append_right _ (.head _)) hd
  subst ho2
  have hpre : ∀ p ∈ pre, p.1 ≠ dx := fun p hp e => by
    rw [e1, List.map_append, List.nodup_append] at hna
    exact hna.2.2 _ (List.mem_map_of_mem hp) _ (.head _) e
  have hpost : ∀ p ∈ post ++ ex, p.1 ≠ dx := fun p hp e => by
    rcases List.mem_append.mp hp with hp | hp
    · rw [e1, List.map_append, List.nodup_append, List.map_cons, List.nodup_cons] at hna
      exact hna.2.1.1 (e ▸ List.mem_map_of_mem (f := (·.1)) hp)
    · exact hex p hp (e ▸ List.mem_map_of_mem (f := (·.1)) hd)
  have N' : News h₀ env.locals s.heap (pre ++ (dx, dictOf es k) :: (post ++ ex)) := by rw [e1] at N; simpa using N
  have hput : Obj.putName name (PyData.keyHash C.w.params name) (.str name (s.toks + 1)) v (dictOf es k) = dictOf (putL name (PyData.keyHash C.w.params name) (.str name (s.toks + 1)) v es) (putN name es k) := putName_dict ..
  refine set_plain D.g.K I K.sa (osa_dict (s := { s with toks := s.toks + 1 }) F N' D.g.K I rfl K.po ht K.hh (by rw [lookIn_dict, hD.get]; rfl) hpre hpost hput rfl ?_ fun h' F' N'' => ?_)
  · have := (hD.put name (PyData.keyHash C.w.params name) (s.toks + 1) v).len
    rw [this]
    have : ∀ fs : List (Str × Value), (setF name v fs).length ≤ fs.length + 1 := fun fs => by
      induction fs with
      | nil => exact Nat.le_refl _
      | cons p r ih =>
        obtain ⟨a, b⟩ := p
        unfold setF
        split
        · simp
        · simp only [List.length_cons]; omega
    have := this fs
    omega
  · rw [hput] at e2
    have hk2 : (n' (dictOf (putL name (PyData.keyHash C.w.params name) (.str name (s.toks + 1)) v es) (putN name es k))).map (·.1) = n.map (·.1) := (U _).keys
    refine h _ ⟨_, _, rfl, hD.put name _ _ v⟩ _ (back h' _ s.drawn (s.toks + 1 + 1) F' ?_ (fun p hp => .inl (hk2 ▸ List.mem_map_of_mem (f := (·.1)) hp)) (by rw [hk2]; exact hna))
    rw [e2]
    simpa using N''
end
section
variable {C : Cx} {s₀ s s' : Shared} {W W' : List Addr} {env env' : Env} {G G' : List (Nat × GenState)} {A : Around} {E : Value → Shared → Prop} {m m' : List (Str × Bnd)} {n n' : List (Addr × Obj)}
/-- the caller's side behind a call that was lent R and may have turned it -/
theorem St.backC {R n₂ : List (Addr × Obj)} (D : St C s₀ W env G s m (R ++ n)) (D' : St C s (R.map (·.1)) env' G' s' m' n') (h : n₂.Sublist n') : St C s₀ W env G s' m (n₂ ++ n) := by
  have hna := D.na
  rw [List.map_append, List.nodup_append] at hna
  refine D.ret D' (fun a ha => by rw [List.map_append]; exact List.mem_append_left _ ha) (fun p hp => ?_) ?_
  · rcases List.mem_append.mp hp with hp | hp
    · exact .inr (h.subset hp)
    · exact .inl ⟨List.mem_append_right _ hp, fun hq => hna.2.2 _ hq _ (List.mem_map_of_mem hp) rfl⟩
  · rw [List.map_append, List.nodup_append]
    refine ⟨D'.na.sublist (h.map _), hna.2.1, fun a ha b hb hab => ?_⟩
    subst hab
    obtain ⟨p, hp, rfl⟩ := List.mem_map.mp ha
    rcases (D'.nw p (h.subset hp)).2.2 with h' | h'
    · exact hna.2.2 _ h' _ hb rfl
    · obtain ⟨q, hq, e⟩ := List.mem_map.mp hb
      rw [← e, (D.nw q (List.mem_append_right _ hq)).1] at h'; cases h'

theorem o_mulL {l : Addr} {vs : List Value} {e : Nat} {k : Int} {u : Tok} {Q : Value → Shared → Prop} (hl : (l, listObj vs e) ∈ n) (h1 : -100000 ≤ k) (h2 : k ≤ 100000) (h3 : vs.length ≤ 100)
    (h : ∀ D, ∀ s, St C s₀ W env G s m ((D, listObj (List.replicate k.toNat vs).flatten 0) :: n) → Q (.ref D) s) :
    ∀ s, St C s₀ W env G s m n → wpAny (MM C.w) A (binaryOp .Mult (.ref l) (.int k u)) Q E s := fun s D => by
  obtain ⟨h₀, mm, ex, F, N, hex, back⟩ := D.fr
  refine mul_list F N (k := e) (items := vs.toArray) (D.get hl) (by omega) (by omega) ?_ fun h' F' N' => ?_
  · rw [List.size_toArray]
    have : k.toNat ≤ 100000 := by omega
    calc vs.length * k.toNat ≤ 100 * 100000 := Nat.mul_le_mul h3 this
      _ ≤ 2 ^ 24 := by decide
  · have hz : s.heap.get? s.heap.objs.size = none := get_size _
    refine h _ _ (back h' ((s.heap.objs.size, _) :: n) s.drawn s.toks F' ?_ (fun p hp => ?_) ?_)
    · have hobj : ({ cls := .type "list", data := .seq (List.foldl (fun x1 x2 => x1 ++ x2) #[] (List.replicate (if vs.toArray.isEmpty = true then 0 else k.toNat) vs.toArray)) } : Obj) = listObj (List.replicate k.toNat vs).flatten 0 := by
        unfold listObj
        rw [listMul_foldl]
        cases vs with
        | nil => simp
        | cons v r => simp
      rw [hobj] at N'
      exact N'
    · rcases List.mem_cons.mp hp with rfl | hp
      · exact .inr hz
      · exact .inl (List.mem_map_of_mem hp)
    · rw [List.map_cons, List.nodup_cons]
      refine ⟨fun hm => ?_, D.na⟩
      obtain ⟨p, hp, e⟩ := List.mem_map.mp hm
      have := (D.nw p hp).1
      rw [e] at this
      dsimp only at this
      rw [hz] at this; cases this
theorem o_addL {l b : Addr} {vs ws : List Value} {e e2 : Nat} {Q : Value → Shared → Prop} (hl : (l, listObj vs e) ∈ n) (hb : (b, listObj ws e2) ∈ n) (hsz : vs.length + ws.length ≤ sizeLine)
    (h : ∀ D, ∀ s, St C s₀ W env G s m ((D, listObj (vs ++ ws) 0) :: n) → Q (.ref D) s) :
    ∀ s, St C s₀ W env G s m n → wpAny (MM C.w) A (binaryOp .Add (.ref l) (.ref b)) Q E s := fun s D => by
  refine PySem.P.add_list (items := vs.toArray) (items2 := ws.toArray) (n := e) (n2 := e2) (D.get hl) (D.get hb) ?_ (by simpa using hsz)
  have := h _ _ (D.push (listObj (vs ++ ws) 0) s.drawn s.toks rfl)
  simpa [listObj] using this
theorem c_tupL {l : Addr} {vs : List Value} {e : Nat} {Q : Value → Shared → Prop} (hl : (l, listObj vs e) ∈ n) (hsz : vs.length ≤ 1000) (h : ∀ D, ∀ s, St C s₀ W env G s m ((D, tupObj vs) :: n) → Q (.ref D) s) :
    ∀ s, St C s₀ W env G s m n → wpAny (MM C.w) A (call (.type "tuple") ([] ++ [.ref l])) Q E s := fun s D => by
  refine call_tuple_list (items := vs.toArray) ⟨_, D.get hl, rfl, _, rfl⟩ (fun h' hk => ?_) (by rw [sizeLine_eq]; simp; omega)
  exact h _ _ ((D.keeps (h' := h') s.drawn s.toks hk).push _ s.drawn s.toks rfl)
/-! subscripts -/
theorem t_subN {value : Expr} {x : Str} {p pos : Pos} {Q : Value → Shared → Prop}
    (h : ∀ s, St C s₀ W env G s m n → wpAny (MM C.w) A (eval value env) (KE C A env E (.Name x p) (KItem C A E Q)) E s)
    (ht : ∀ o r, letTemporaryGo value o r = pure () := by intro _ _; with_unfolding_all rfl) :
    ∀ s, St C s₀ W env G s m n → wpAny (MM C.w) A (eval (.Subscript value (.Name x p) pos) env) Q E s := fun s D => Subscript_Name (h s D) ht
theorem t_subC {value : Expr} {c : Const} {k : Nat} {p pos : Pos} {Q : Value → Shared → Prop}
    (h : ∀ s, St C s₀ W env G s m n → wpAny (MM C.w) A (eval value env) (KE C A env E (.Constant c k p) (KItem C A E Q)) E s)
    (ht : ∀ o r, letTemporaryGo value o r = pure () := by intro _ _; with_unfolding_all rfl) :
    ∀ s, St C s₀ W env G s m n → wpAny (MM C.w) A (eval (.Subscript value (.Constant c k p) pos) env) Q E s := fun s D => Subscript_Constant (h s D) ht
theorem i_list {l : Addr} {vs : List Value} {e : Nat} {i : Int} {u : Tok} {v : Value} {Q : Value → Shared → Prop} (hl : (l, listObj vs e) ∈ n) (h0 : 0 ≤ i) (hv : vs[i.toNat]? = some v) (hsz : i ≤ 1000000) (h : ∀ s, St C s₀ W env G s m n → Q v s) :
    ∀ s, St C s₀ W env G s m n → ItemOn (MM C.w) A E (.ref l) (.int i u) Q s := fun s D => by
  have hL : s.heap.IsList l vs.toArray := ⟨_, D.get hl, rfl, _, rfl⟩
  exact ⟨"list", _, slot_list_getitem.lookup, hL.typeIs, wpAny_getItem_list hL h0 (by omega) (by simpa using hv) (h s D)⟩
theorem t_asgSub {o i : Expr} {pos' pos : Pos} {value : Expr} {Q : Flow → Shared → Prop}
    (h : ∀ s, St C s₀ W env G s m n → wpAny (MM C.w) A (eval value env) (KE C A env E o (KSetI C A env E i Q)) E s)
    (hs : swapsWith value (some (.Subscript o i pos')) pos.line env = pure false := by with_unfolding_all rfl) :
    ∀ s, St C s₀ W env G s m n → wpAny (MM C.w) A (exec (.Assign [.Subscript o i pos'] value pos) env) Q E s := fun s D => wpAny_Assign_Subscript (h s D) hs
theorem si_list {l : Addr} {vs : List Value} {e : Nat} {i : Int} {u : Tok} {v : Value} {n' : List (Addr × Obj)} {Q : Unit → Shared → Prop} (hl : (l, listObj vs e) ∈ n) (h0 : 0 ≤ i) (hi : i < vs.length) (hsz : vs.length ≤ 1000000)
    (U : Upd l (listObj (vs.set i.toNat v) e) n n') (h : ∀ s, St C s₀ W env G s m n' → Q () s) :
    ∀ s, St C s₀ W env G s m n → wpAny (MM C.w) A (setItem (.ref l) (.int i u) v) Q E s := fun s D => by
  have hL : s.heap.IsList l vs.toArray := ⟨_, D.get hl, rfl, _, rfl⟩
  have ho := D.get hl
  unfold setItem
  try with_reducible refine wpAny_holding ?_
  first | refine wpAny_bind (wpAny_pure ?_) | skip
  refine wpAny_bind (wpAny_sequenceKey hL.typeIs (by decide) ?_)
  refine wpAny_bind (wpAny_callSpecial?_slot (name := Str.ofString "__setitem__") hL.typeIs slot_list_setitem
    (wpAny_call_entry slot_list_setitem hL.typeIs entry_list_setitem ?_ (args_list_setitem _ _ _)))
  show wpAny _ _ (Builtin.List.listSubscript? (.int i u) >>= _) _ _ s
  refine wpAny_bind (wpAny_listSubscript_int (fitsIndex_of h0 (by omega)) ?_)
  obtain ⟨j, rfl⟩ := Int.eq_ofNat_of_zero_le h0
  have hj : j < vs.length := by omega
  have hx' : vs.toArray[j]? = some vs[j] := by simp [hj]
  show wpAny _ _ ((seqItemAt l j >>= fun r => pure (r.map (j, ·))) >>= _) _ _ s
  refine wpAny_bind (wpAny_bind (wpAny_seqItemAt ho rfl (wpAny_pure ?_)))
  rw [hx']
  show wpAny _ _ (setSeqItemAt l j v >>= _) _ _ s
  have hfin : (s.heap.update l (Obj.mapSeq (·.setIfInBounds j v))).get? l = some (listObj (vs.set j v) e) := by
    have hd' : (Obj.mapSeq (·.setIfInBounds j v) (listObj vs e)) = listObj (vs.set j v) e := by
      simp [Obj.mapSeq, listObj]
    rw [← hd']
    exact Heap.get?_update_self _ ho (by rw [hd']; rfl)
  refine wpAny_bind (wpAny_setSeqItemAt ho rfl ?_)
  first
    | exact wpAny_bind (wpAny_pure (wpAny_pure ⟨.none, rfl, wpAny_pure (h _ (D.upd s.drawn s.toks U (Heap.SameBut.update ..) hfin))⟩))
    | exact wpAny_pure ⟨.none, rfl, wpAny_pure (h _ (D.upd s.drawn s.toks U (Heap.SameBut.update ..) hfin))⟩
/-! attributes -/
theorem t_attr {value : Expr} {attr : Str} {pos : Pos} {Q : Value → Shared → Prop}
    (h : ∀ s, St C s₀ W env G s m n → wpAny (MM C.w) A (eval value env) (KGa C A E attr Q) E s)
    (he : eval (.Attribute value attr pos) env = (do
      let o ← eval value env
      standAt pos.atName
      let r ← holding [o] (getAttr o attr true)
      letTemporaryGo value o r
      pure r) := by with_unfolding_all rfl) :
    ∀ s, St C s₀ W env G s m n → wpAny (MM C.w) A (eval (.Attribute value attr pos) env) Q E s := fun s D => Attribute_any_ (h s D) he
theorem t_asgAttr {o : Expr} {attr : Str} {pos' pos : Pos} {value : Expr} {Q : Flow → Shared → Prop}
    (h : ∀ s, St C s₀ W env G s m n → wpAny (MM C.w) A (eval value env) (KE C A env E o (KSetA C A E attr Q)) E s)
    (hs : swapsWith value (some (.Attribute o attr pos')) pos.line env = pure false := by with_unfolding_all rfl) :
    ∀ s, St C s₀ W env G s m n → wpAny (MM C.w) A (exec (.Assign [.Attribute o attr pos'] value pos) env) Q E s := fun s D => plainObj_wpAny_Assign_Attribute (h s D) hs
theorem t_asg3 {x y z : Str} {px py pz pos : Pos} {value : Expr} {Q : Flow → Shared → Prop}
    (h : ∀ s, St C s₀ W env G s m n → wpAny (MM C.w) A (eval value env) (KS3 C A env E x y z Q) E s)
    (hs : swapsWithSole [.Name x px, .Name y py, .Name z pz] value pos.line env = pure false := by with_unfolding_all rfl)
    (hw : swappedStores [.Name x px, .Name y py, .Name z pz] value env = pure none := by with_unfolding_all rfl) :
    ∀ s, St C s₀ W env G s m n → wpAny (MM C.w) A (exec (.Assign [.Name x px, .Name y py, .Name z pz] value pos) env) Q E s := fun s D => by
  rw [exec_Assign]
  refine wpAny_bind (wpAny_standAt ?_)
  rw [hs]
  refine wpAny_bind (wpAny_pure ?_)
  rw [if_neg (by decide)]
  refine wpAny_bind (wpAny_mono (h s D) (fun v s₁ h₁ => ?_) fun _ _ x => x)
  rw [hw]
  refine wpAny_bind (wpAny_pure ?_)
  show wpAny _ A (do (do holding [v] (assign (.Name x px) env v); (do holding [v] (assign (.Name y py) env v); assign (.Name z pz) env v)); pure .next) Q E s₁
  refine wpAny_bind (wpAny_bind (wpAny_holding (assign_Name (wpAny_mono h₁ (fun _ s₂ h₂ => ?_) fun _ _ x => x))))
  exact wpAny_bind (wpAny_holding (assign_Name (wpAny_mono h₂ (fun _ s₃ h₃ => assign_Name (wpAny_mono h₃ (fun _ _ x => wpAny_pure x) fun _ _ x => x)) fun _ _ x => x)))
theorem t_asgSw {elts : List Expr} {k : Nat} {tpos pos : Pos} {value : Expr} (names : List Str) {Q : Flow → Shared → Prop}
    (h : ∀ s, St C s₀ W env G s m n → wpAny (MM C.w) A (eval value env) (KUp C A env E names Q) E s)
    (hw : swappedStores [.Tuple elts k tpos] value env = pure (some names) := by with_unfolding_all rfl)
    (hs : swapsWithSole [.Tuple elts k tpos] value pos.line env = pure false := by with_unfolding_all rfl) :
    ∀ s, St C s₀ W env G s m n → wpAny (MM C.w) A (exec (.Assign [.Tuple elts k tpos] value pos) env) Q E s := fun s D => Assign_Tuple_swapped (h s D) hs hw
theorem o_unpack {T : Addr} {vs : List Value} {k : Nat} {Q : List Value → Shared → Prop} (hh : A.handled = none) (hT : (T, tupObj vs) ∈ n) (hk : k = vs.length) (h : ∀ s, St C s₀ W env G s m n → Q vs s) :
    ∀ s, St C s₀ W env G s m n → wpAny (MM C.w) A (unpackItems (.ref T) k none) Q E s := fun s D => by
  subst hk
  have := unpackItems_tuple (prog := PR) (w := C.w) (items := vs.toArray) (A := A) (E := E) (s := s) (t := T) (Q := Q) hh ⟨_, D.get hT, rfl, _, rfl⟩ (fun h' he => by
    have := h _ (D.keeps (h' := h') s.drawn s.toks fun b o e => he b o (Nat.ne_of_lt (Heap.lt_size e)) e)
    simpa using this)
  simpa using this
theorem t_ordB {x : Str} {fs : List (Value → Sem Unit)} {v : Value} {vs : List Value} {Q : Unit → Shared → Prop} (h : ∀ s, St C s₀ W env G s m n → wpAny (MM C.w) A (storeName env x v) (KOd C A E fs vs Q) E s) :
    ∀ s, St C s₀ W env G s m n → wpAny (MM C.w) A (assignInOrder ((fun v => bindName env x v) :: fs) (v :: vs)) Q E s := t_ord fun s D => wpAny_bindName (h s D)
noncomputable def TurnB (C : Cx) (s₀ : Shared) (W : List Addr) (env : Env) (G : List (Nat × GenState)) (J B : List (Str × Bnd) → List (Addr × Obj) → Prop) (I : List (Addr × Obj)) (Q : Flow → Shared → Prop) : Flow → Shared → Prop := fun f s => match f with
  | .next | .cont => CT C s₀ W env G J I s
  | .brk => CT C s₀ W env G B I s
  | .ret v => Q (.ret v) s
noncomputable def NextB (C : Cx) (s₀ : Shared) (W : List Addr) (env : Env) (G : List (Nat × GenState)) (B : List (Str × Bnd) → List (Addr × Obj) → Prop) (Q : Flow → Shared → Prop) : Flow → Shared → Prop := fun f s => match f with
  | .next => CT C s₀ W env G B [] s
  | f => Q f s
theorem t_absB {C₁ : Cx} {s₁ : Shared} {W₁ : List Addr} {env₁ : Env} {G₁ : List (Nat × GenState)} {J B : List (Str × Bnd) → List (Addr × Obj) → Prop} {I : List (Addr × Obj)} {Q : Flow → Shared → Prop} {b : List Stmt}
    (h : ∀ QB : Flow → Shared → Prop, (∀ f s, TurnB C₁ s₁ W₁ env₁ G₁ J B I Q f s → QB f s) → ∀ s, St C s₀ W env G s m n → wpAny (MM C.w) A (execs b env) QB E s) : ∀ s, St C s₀ W env G s m n → wpAny (MM C.w) A (execs b env) (TurnB C₁ s₁ W₁ env₁ G₁ J B I Q) E s := h _ (fun _ _ x => x)
theorem t_turnBR {C₁ : Cx} {s₁ : Shared} {W₁ : List Addr} {env₁ : Env} {G₁ : List (Nat × GenState)} {J B : List (Str × Bnd) → List (Addr × Obj) → Prop} {I : List (Addr × Obj)} {v : Value} {Q : Flow → Shared → Prop} (h : ∀ s, St C s₀ W env G s m n → Q (.ret v) s) : ∀ s, St C s₀ W env G s m n → TurnB C₁ s₁ W₁ env₁ G₁ J B I Q (.ret v) s := h
theorem t_nextBR {C₁ : Cx} {s₁ : Shared} {W₁ : List Addr} {env₁ : Env} {G₁ : List (Nat × GenState)} {B : List (Str × Bnd) → List (Addr × Obj) → Prop} {v : Value} {Q : Flow → Shared → Prop} (h : ∀ s, St C s₀ W env G s m n → Q (.ret v) s) : ∀ s, St C s₀ W env G s m n → NextB C₁ s₁ W₁ env₁ G₁ B Q (.ret v) s := h
theorem t_forIB {target : Expr} {body orelse : List Stmt} {v : Value} {src : List (Addr × Obj)} {len : Nat} {V : Nat → Value → Prop} {Q : Flow → Shared → Prop} (J : Nat → List (Str × Bnd) → List (Addr × Obj) → Prop) (B : List (Str × Bnd) → List (Addr × Obj) → Prop)
    (hh : A.handled = none) (hi : Iter C v n src len V) (hsrc : ∀ i m₁ n₁, J i m₁ n₁ → ∀ p ∈ src, p ∈ n₁) (h0 : J 0 m n)
    (turn : ∀ i v m₁ n₁ I o E', i < len → V i v → J i m₁ n₁ → ∀ s, St C s₀ W env G s m₁ ((I, o) :: n₁) →
      wpAny (MM C.w) A (assign target env v) (KBd C A env E' body (TurnB C s₀ W env G (J (i + 1)) B [(I, o)] Q)) E' s)
    (done : ∀ m₁ n₁ E', J len m₁ n₁ → ∀ s, St C s₀ W env G s m₁ n₁ → wpAny (MM C.w) A (execs orelse env) (NextB C s₀ W env G B Q) E' s)
    (after : ∀ m₁ n₁, B m₁ n₁ → ∀ s, St C s₀ W env G s m₁ n₁ → Q .next s) :
    ∀ s, St C s₀ W env G s m n → wpAny (MM C.w) A (pyIter v) (KF2 C A env E target body orelse Q) E s := fun s D => by
  refine wpAny_mono (t_forI (Q := NextB C s₀ W env G B Q) J hh hi hsrc h0 (fun i v m₁ n₁ I o E' hi hv hJ s D => ?_) done s D) (fun it s₂ h₂ => codeAny_mono h₂ fun r s' hr => ?_) fun _ _ e => e
  · refine wpAny_mono (turn i v m₁ n₁ I o E' hi hv hJ s D) (fun _ s₂ h₂ => wpAny_mono h₂ (fun f s₃ h₃ => ?_) fun _ _ e => e) fun _ _ e => e
    cases f with
    | next => exact h₃
    | cont => exact h₃
    | brk => obtain ⟨m, n, hB, D⟩ := h₃; exact ⟨m, n, hB, D.sub (List.sublist_append_right _ _)⟩
    | ret v => exact h₃
  · cases r with
    | error e => exact hr
    | ok f =>
      cases f with
      | next => obtain ⟨m, n, hB, D⟩ := hr; exact after m n hB s' D
      | cont => exact hr
      | brk => exact hr
      | ret v => exact hr
end
section
variable {C : Cx} {s₀ : Shared} {W : List Addr} {env : Env} {G : List (Nat × GenState)} {A : Around} {E : Value → Shared → Prop} {m m' : List (Str × Bnd)} {n n' : List (Addr × Obj)}
theorem t_itb {b : Bool} {X Y : Shared → Prop} (h1 : b = true → ∀ s, St C s₀ W env G s m n → X s) (h2 : b = false → ∀ s, St C s₀ W env G s m n → Y s) :
    ∀ s, St C s₀ W env G s m n → (if b = true then X s else Y s) := fun s D => by
  cases b with
  | true => rw [if_pos rfl]; exact h1 rfl s D
  | false => rw [if_neg Bool.false_ne_true]; exact h2 rfl s D

/-! a generator's own walk -/
variable {R : GenEnd} {Y : Protocol} {k : Nat} {z : Shared} {c : Code} {fs : List Frame} {K : Flow → Sem Fin} {H : Value → Sem Fin} {gd : Bool → Bool} {lv : List Value → List Value}
theorem g_nil (h : ∀ s, St C s₀ W env G s m n → Seg (MM C.w) A R Y k z c (K .next) fs s) :
    ∀ s, St C s₀ W env G s m n → Seg (MM C.w) A R Y k z c ((execs [] env).wrap K H gd lv) fs s := fun s D => seg_execs_nil (h s D)
theorem g_cons {st : Stmt} {rest : List Stmt}
    (h : ∀ s, St C s₀ W env G s m n → Seg (MM C.w) A R Y k z c ((exec st env).wrap (fun f => match f with | .next => (execs rest env).wrap K H gd lv | f => K f) H gd lv) fs s) :
    ∀ s, St C s₀ W env G s m n → Seg (MM C.w) A R Y k z c ((execs (st :: rest) env).wrap K H gd lv) fs s := fun s D => seg_execs_cons (h s D)
theorem g_stmt {st : Stmt}
    (h : ∀ s, St C s₀ W env G s m n → wpAny (MM C.w) (A.over c fs) (exec st env) (fun f s' => Seg (MM C.w) A R Y k z c (K f) fs s') (fun x s' => Seg (MM C.w) A R Y k z c (H x) fs s') s) :
    ∀ s, St C s₀ W env G s m n → Seg (MM C.w) A R Y k z c ((exec st env).wrap K H gd lv) fs s := fun s D => seg_wrap (h s D)
theorem g_if {test : Expr} {body orelse : List Stmt} {pos : Pos}
    (h : ∀ s, St C s₀ W env G s m n → wpAny (MM C.w) (A.over c fs) (isTrue test env (eval test env)) (fun b s' => if b = true then Seg (MM C.w) A R Y k z c ((execs body env).wrap K H gd lv) fs s' else Seg (MM C.w) A R Y k z c ((execs orelse env).wrap K H gd lv) fs s') (fun x s' => Seg (MM C.w) A R Y k z c (H x) fs s') s) :
    ∀ s, St C s₀ W env G s m n → Seg (MM C.w) A R Y k z c ((exec (.If test body orelse pos) env).wrap K H gd lv) fs s := fun s D => by
  rw [exec_If]
  show Seg _ A R Y k z c (.at pos fun _ => (isTrue test env (eval test env) >>= fun b => if b = true then execs body env else execs orelse env).wrap K H gd lv) fs s
  refine seg_at ?_
  rw [Sem.bind_eq_wrap', Sem.wrap_wrap]
  refine seg_wrap (wpAny_mono (h s D) (fun b s' hb => ?_) fun _ _ e => e)
  cases b with
  | true => rw [if_pos rfl] at hb ⊢; exact hb
  | false => rw [if_neg Bool.false_ne_true] at hb ⊢; exact hb
theorem g_yield {e : Expr} {ypos pos : Pos} (hfs : splitAtGen fs = none) (hgd : gd false = false) (hfg : fs.any Frame.guarded = false)
    (h : ∀ s, St C s₀ W env G s m n → wpAny (MM C.w) (A.over c fs) (eval e env) (fun v s' => ∀ kap : Resume → Shared → Prop,
        (∀ x s'', (match x with | .ref _ => False | _ => Seg (MM C.w) A R Y k s'' c (K .next) fs s'') → kap (.send x) s'') → Y k z v s' kap)
      (fun x s' => Seg (MM C.w) A R Y (k + 1) z c (H x) fs s') s) (hco : env.scope.isCoroutine = false := by with_unfolding_all rfl) (hi : interactive env = false := by with_unfolding_all rfl) :
    ∀ s, St C s₀ W env G s m n → Seg (MM C.w) A R Y (k + 1) z c ((exec (.Expr (.Yield (some e) ypos) pos) env).wrap K H gd lv) fs s := fun s D => seg_Expr_Yield hfs hgd hfg (h s D) hco hi
noncomputable def forKont (K : Flow → Sem Fin) (H : Value → Sem Fin) (gd : Bool → Bool) (lv : List Value → List Value) (env : Env) : Result → Sem Fin := fun r => ((match r with | .ok f => (.pure f : Sem Flow) | .error e => .raise e).onRaise fun (x : Value) => do
        if (← field x 1) == Value.none then unsupported "frame.own-activation:exception-without-traceback"
        setFlight x env.frame).wrap K H gd lv
theorem g_for1 {s : Shared} {target iter : Expr} {body orelse : List Stmt} {pos : Pos}
    (h : wpAny (MM C.w) (A.over c fs) (eval iter env) (fun x s₁ => wpAny (MM C.w) (A.over c fs) (pyIter x) (fun it s₂ =>
      ∀ p, Seg (MM C.w) A R Y k z (.forLoop target it body orelse env) ((MM C.w).den (.forLoop target it body orelse env)) (.ret (forKont K H gd lv env) none (gd false) (lv []) c p [] :: fs) s₂) (fun x s' => Seg (MM C.w) A R Y k z c (H x) fs s') s₁) (fun x s' => Seg (MM C.w) A R Y k z c (H x) fs s') s)
    (hs : ∀ x, foldedSetIterable iter env x = pure x := by intro _; with_unfolding_all rfl) :
    Seg (MM C.w) A R Y k z c ((exec (.For target iter body orelse pos) env).wrap K H gd lv) fs s := by
  rw [exec_For]
  show Seg _ A R Y k z c (.at pos fun _ => (eval iter env >>= fun v => foldedSetIterable iter env v >>= fun x => standAt iter.pos >>= fun _ => holding [x] (pyIter x) >>= fun it => runOwn (.forLoop target it body orelse env) env).wrap K H gd lv) fs s
  refine seg_at ?_
  rw [Sem.bind_eq_wrap', Sem.wrap_wrap]
  refine seg_wrap (wpAny_mono h (fun v s' hv => ?_) fun _ _ e => e)
  try dsimp only
  rw [hs v]
  show Seg _ A R Y k z c (.at iter.pos fun _ => (holding [v] (pyIter v) >>= fun it => runOwn (.forLoop target it body orelse env) env).wrap K H gd lv) fs s'
  refine seg_at ?_
  rw [Sem.bind_eq_wrap', Sem.wrap_wrap]
  refine seg_wrap (wpAny_holding (wpAny_mono hv (fun it s'' hi => ?_) fun _ _ e => e))
  exact seg_call hi
theorem g_for {target iter : Expr} {body orelse : List Stmt} {pos : Pos}
    (h : ∀ s, St C s₀ W env G s m n → wpAny (MM C.w) (A.over c fs) (eval iter env) (fun x s₁ => wpAny (MM C.w) (A.over c fs) (pyIter x) (fun it s₂ =>
      ∀ p, Seg (MM C.w) A R Y k z (.forLoop target it body orelse env) ((MM C.w).den (.forLoop target it body orelse env)) (.ret (forKont K H gd lv env) none (gd false) (lv []) c p [] :: fs) s₂) (fun x s' => Seg (MM C.w) A R Y k z c (H x) fs s') s₁) (fun x s' => Seg (MM C.w) A R Y k z c (H x) fs s') s)
    (hs : ∀ x, foldedSetIterable iter env x = pure x := by intro _; with_unfolding_all rfl) :
    ∀ s, St C s₀ W env G s m n → Seg (MM C.w) A R Y k z c ((exec (.For target iter body orelse pos) env).wrap K H gd lv) fs s := fun s D => g_for1 (h s D) hs
noncomputable def turnK (c : Code) : Flow → Sem Fin := fun f => match f with
  | .next | .cont => .pure (.again c)
  | .brk => .pure (.done .next)
  | .ret v => .pure (.done (.ret v))
noncomputable def turnH (env : Env) : Value → Sem Fin := fun e => (do noteFrame e env; theTreesLotGoes e : Sem Unit).wrap (fun _ => .raise e) .raise id id
theorem g_turn {target : Expr} {it : Value} {body orelse : List Stmt} {s : Shared}
    (h : wpAny (MM C.w) (A.over (.forLoop target it body orelse env) fs) (pyNext it) (fun r s₁ => match r with
      | none => Seg (MM C.w) A R Y k z (.block orelse env) ((MM C.w).den (.block orelse env)) fs s₁
      | some v => wpAny (MM C.w) (A.over (.forLoop target it body orelse env) fs) (letOwnedTupleGo target it v) (fun _ s₂ => wpAny (MM C.w) (A.over (.forLoop target it body orelse env) fs) (assign target env v) (fun _ s₃ =>
          Seg (MM C.w) A R Y k z (.forLoop target it body orelse env) ((execs body env).wrap (turnK (.forLoop target it body orelse env)) (turnH env) id id) fs s₃)
          (fun x s' => Seg (MM C.w) A R Y k z (.forLoop target it body orelse env) (turnH env x) fs s') s₂) (fun x s' => Seg (MM C.w) A R Y k z (.forLoop target it body orelse env) (turnH env x) fs s') s₁)
      (fun x s' => Seg (MM C.w) A R Y k z (.forLoop target it body orelse env) (turnH env x) fs s') s) :
    Seg (MM C.w) A R Y k z (.forLoop target it body orelse env) ((MM C.w).den (.forLoop target it body orelse env)) fs s := by
  show Seg _ A R Y k z _ ((forTurn target it body orelse env).onRaise (fun x => do noteFrame x env; theTreesLotGoes x)) fs s
  have hH : ∀ e, ((do noteFrame e env; theTreesLotGoes e : Sem Unit).bind fun _ => (.raise e : Sem Fin)) = turnH env e := fun e => by
    unfold turnH; rw [Sem.bind_eq_wrap]
  have e1 : forTurn target it body orelse env = (.at target.pos fun _ => (pyNext it).onRaise (fun _ => standAt { target.pos with line := 0 }) >>= fun r => match r with
      | none => again (.block orelse env)
      | some v => letOwnedTupleGo target it v >>= fun _ => assign target env v >>= fun _ => execs body env >>= fun f => match f with
        | .next | .cont => again (.forLoop target it body orelse env)
        | .brk => pure (.done .next)
        | .ret v => pure (.done (.ret v))) := rfl
  rw [e1, Sem.onRaise_eq_wrap]
  show Seg _ A R Y k z _ (.at target.pos fun _ => ((pyNext it).onRaise (fun _ => standAt { target.pos with line := 0 }) >>= _).wrap _ _ _ _) fs s
  refine seg_at ?_
  rw [Sem.bind_eq_wrap', Sem.wrap_wrap]
  refine seg_wrap (wpAny_onRaise (wpAny_mono h (fun r s₁ h₁ => ?_) fun x s' hx => wpAny_standAt (by
    show Seg _ A R Y k z _ ((do noteFrame x env; theTreesLotGoes x : Sem Unit).bind fun _ => (.raise x : Sem Fin)) fs s'
    rw [hH]; exact hx)))
  cases r with
  | none => exact seg_again rfl h₁
  | some v =>
    show Seg _ A R Y k z _ ((letOwnedTupleGo target it v >>= fun _ => assign target env v >>= fun _ => execs body env >>= _).wrap _ _ _ _) fs s₁
    rw [Sem.bind_eq_wrap', Sem.wrap_wrap]
    refine seg_wrap (wpAny_mono h₁ (fun _ s₂ h₂ => ?_) fun x s' hx => by
      show Seg _ A R Y k z _ ((do noteFrame x env; theTreesLotGoes x : Sem Unit).bind fun _ => (.raise x : Sem Fin)) fs s'
      rw [hH]; exact hx)
    try dsimp only
    rw [Sem.bind_eq_wrap', Sem.wrap_wrap]
    refine seg_wrap (wpAny_mono h₂ (fun _ s₃ h₃ => ?_) fun x s' hx => by
      show Seg _ A R Y k z _ ((do noteFrame x env; theTreesLotGoes x : Sem Unit).bind fun _ => (.raise x : Sem Fin)) fs s'
      rw [hH]; exact hx)
    try dsimp only
    rw [Sem.bind_eq_wrap', Sem.wrap_wrap]
    refine Eq.mpr (congrArg (fun t => Seg _ A R Y k z _ t fs s₃) (Sem.wrap_congr (execs body env) (fun g => id (id g)) (fun l => id (id l)) (fun f => ?_) (fun e => ?_))) h₃
    · cases f <;> rfl
    · exact hH e
end
set_option compiler.extract_closed false
local macro_rules | `(tactic| lcg_off) => `(tactic| first | assumption | (rw [sizeLine_eq]; omega) | omega | (simp only [sizeLine_eq, List.length_append, List.length_cons, List.length_nil, List.length_replicate] at *; omega))
set_option hygiene false
local macro_rules | `(tactic| kcf_m) => `(tactic| first | exact lit_bs | exact lit_q | exact lit_op | exact lit_cl | exact lit_sp | exact lit_tab | exact lit_e | exact lit_lim | exact lit_x | exact lit_xt | exact lit_abc | exact lit_ABC | exact lit_k | exact lit_eq | exact lit_D | exact lit_co | exact lit_p1 | exact lit_p2 | exact lit_p3 | exact lit_p4 | exact lit_h3 | exact lit_h5)
local macro_rules | `(tactic| news_at) => `(tactic| first | exact List.mem_cons_self | exact at1 | exact at2 | exact at3 | exact at4 | exact at5 | exact at6 | exact at7 | (apply mem8; news_at) | (repeat first | exact List.mem_cons_self | apply List.mem_cons_of_mem | apply List.mem_append_right | assumption); done)
local macro_rules | `(tactic| tb_rel) => `(tactic| first | exact Upd.head | exact upd1 | exact upd2 | exact upd3 | exact upd4 | exact upd5 | exact upd6 | exact upd7 | (apply upd8; tb_rel) | (repeat first | exact Upd.head | apply Upd.tail | apply Upd.app); done)
local macro_rules | `(tactic| kwd_inv) => `(tactic| first | exact trivial | (refine ⟨rfl, ⟨rfl, rfl⟩, ?_⟩; kwd_inv) | (refine ⟨rfl, ⟨rfl, .inr ⟨by kernel_rfl, by kernel_rfl, by decide⟩⟩, ?_⟩; kwd_inv) | (refine ⟨rfl, ⟨rfl, .inl (by kernel_rfl)⟩, ?_⟩; kwd_inv) | (refine ⟨rfl, trivial, ?_⟩; kwd_inv))
local macro_rules | `(tactic| kwd_rel) => `(tactic| first | (refine List.forall_mem_cons.mpr ⟨by rfl, ?_⟩; kwd_rel) | (intro p h; cases h; done))
local macro_rules | `(tactic| kqd_all) => `(tactic| first | (refine List.forall_mem_cons.mpr ⟨by first | assumption | news_at, ?_⟩; kqd_all) | (intro p h; cases h; done))
local macro_rules | `(tactic| lcg_sub) => `(tactic| first | exact List.nil_sublist _ | exact List.Sublist.refl _ | (apply List.Sublist.cons_cons; lcg_sub) | (apply List.Sublist.cons; lcg_sub))
local macro_rules | `(tactic| tb_start) => `(tactic| with_reducible first
  | ((fail_if_success fail_if_success refine gd_eval ?_); first
    | (refine' t_gloE ?zkk ?zgg ?_; (case zgg => first | exact gl_enumerate _ | exact gl_law_digits _ | exact gl_Whitespace _ | exact gl_range _ | exact gl_Headers _ | exact gl_max _ | exact gl_sum _ | exact gl_strip_quoted_realnames _ | exact gl_iter_escaped_chars _ | exact gl_get_name_info _ | exact gl_law_lack _ | exact gl_law_way _ | exact gl_pretty_flags _ | exact gl_len _ | exact gl_min _ | exact gl_law_asked _ | exact gl_sorted _ | exact gl_check_parenthesis _ | exact gl_law_column _ | exact gl_hex _); (case zkk => with_unfolding_all rfl))
    | (refine' t_loc ?kx ?_; (case kx => news_at))
    | (refine' t_cel ?kx ?kc ?_; (case kx => news_at); (case kc => news_at))
    | (refine t_int ?_; intro _)
    | (refine' t_strL ?kx ?_; (case kx => kcf_m); intro _)
    | (refine t_str ?_; intro _)
    | (refine' t_glo ?kx ?_; (case kx => news_at))
    | refine t_meth ?_
    | refine t_callN ?_
    | refine t_binop ?_
    | refine t_cmp ?_
    | refine t_none ?_
    | refine t_bool ?_
    | refine t_tuple ?_
    | refine t_list ?_
    | refine t_unary ?_
    | refine t_ifexp ?_)
  | ((fail_if_success fail_if_success refine gd_exec ?_); first
    | refine t_assign ?_
    | refine t_expr ?_
    | refine t_if ?_
    | refine t_return ?_
    | refine t_assignT ?_
    | refine t_aug ?_
    | refine t_for ?_
    | refine t_while ?_
    | refine t_break ?_)
  | (refine t_absB ?_; intro zzB zzA)
  | (refine t_absP ?_; intro zzB zzA)
  | (refine t_absW ?_; intro zzB zzA)
  | (refine' t_consR ?zh ?_; (case zh => assumption))
  | (refine t_openR ?_; intro zzR zzH)
  | refine t_nil ?_
  | (refine' t_stn ?kx ?kk ?_; (case kx => with_unfolding_all rfl); (case kk => with_unfolding_all rfl))
  | (refine' t_stl ?ku ?_ ?kk; (case ku => tb_rel); (case kk => exact ⟨_, by news_at⟩))
  | refine t_items ?_
  | refine t_items_nil ?_
  | refine t_callWith ?_
  | refine t_callWith0 ?_
  | refine t_kv (by with_unfolding_all rfl) ?_
  | refine t_kK (by kernel_rfl) ?_
  | (refine o_add ?_; intro _)
  | (refine o_sub ?_; intro _)
  | refine t_tcmp ?_
  | refine o_tb ?_
  | refine o_eqs ?_
  | refine o_eq ?_
  | (refine' t_ldl ?kx ?_; (case kx => news_at))
  | refine t_asgName ?_
  | refine t_ordE ?_
  | refine t_ordENil ?_
  | (refine' t_asgTup (Ok.le ‹Ok _ _› (Nat.zero_le _)) ?kx ?k1 ?k2 ?_; (case kx => news_at); (case k1 => with_unfolding_all rfl); (case k2 => with_unfolding_all rfl))
  | (refine' g_append ?kx ?_; (case kx => news_at))
  | (refine t_newTuple (by rw [sizeLine_eq]; exact Nat.le_of_ble_eq_true (by with_unfolding_all rfl)) ?_; intro _)
  | (refine t_newList (by rw [sizeLine_eq]; exact Nat.le_of_ble_eq_true (by with_unfolding_all rfl)) ?_; intro _)
  | refine g_cons ?_
  | refine g_nil ?_
  | refine g_if ?_
  | refine t_tplain ?_
  | (refine' t_nextR ?zh ?_; (case zh => assumption))
  | (refine' t_retR ?zh ?_; (case zh => assumption))
  | refine t_nextS ?_
  | refine t_retS ?_
  | (refine' t_brkR ?zh ?_; (case zh => assumption))
  | (refine' t_contR ?zh ?_; (case zh => assumption))
  | (refine' t_absE ?zh ?_; (case zh => assumption); try clear zzA zzB)
  | refine t_turnPR ?_
  | refine t_turnWR ?_
  | refine t_turnPB ?_
  | refine t_turnBR ?_
  | refine t_nextBR ?_
  | refine g_stmt ?_
  | refine t_partS ?_
  | refine t_partN ?_
  | refine o_in1 ?_
  | refine o_notin1 ?_
  | refine o_isNN ?_
  | refine o_isNotNN ?_
  | refine o_isI ?_
  | refine o_isS ?_
  | refine o_isR ?_
  | refine o_isNotI ?_
  | refine o_isNotS ?_
  | refine o_isNotR ?_
  | refine o_lt ?_
  | refine o_nes ?_
  | refine o_ne ?_
  | refine o_le ?_
  | refine o_gt ?_
  | refine o_ge ?_
  | refine g_join ?_
  | (refine o_slss (by with_unfolding_all lcg_off) ?_; intro _)
  | (refine o_slsn (by with_unfolding_all lcg_off) ?_; intro _)
  | (refine o_slns (by with_unfolding_all lcg_off) ?_; intro _)
  | (refine c_len (by with_unfolding_all lcg_off) ?_; intro _)
  | (refine o_iadd ?_; intro _)
  | (refine o_isub ?_; intro _)
  | (refine o_neg ?_; intro _)
  | refine t_subSl ?_
  | refine t_ift ?_
  | refine t_iff ?_
  | (refine c_count ?_; intro _)
  | refine g_count ?_
  | refine g_lower ?_
  | refine g_upper ?_
  | refine g_replace ?_
  | refine g_index ?_
  | refine o_isNotB ?_
  | refine o_isB ?_
  | refine t_and2 ?_
  | refine t_or2 ?_
  | refine t_attr ?_
  | refine t_asgAttr ?_
  | refine t_asgSub ?_
  | refine t_asg3 ?_
  | refine t_subN ?_
  | refine t_subC ?_
  | (refine' c_lenL ?kx ?ks ?_; (case kx => news_at); (case ks => with_unfolding_all lcg_off); intro _)
  | refine t_methKw ?_
  | refine t_callKw1 ?_
  | refine o_isT ?_
  | refine o_isNotT ?_
  | refine o_tnone ?_
  | refine c_typeS ?_
  | (refine' t_cel ?kx ?kc ?_; (case kx => news_at); (case kc => news_at))
  | (refine' t_stc ?kx ?ku ?kc ?kk ?_; (case kx => news_at); (case ku => tb_rel); (case kc => exact ⟨_, by news_at⟩); (case kk => with_unfolding_all rfl))
  | refine t_subSt ?_
  | refine t_subX ?_
  | fail)
section
variable {C : Cx} {s₀ : Shared} {W : List Addr} {env : Env} {G : List (Nat × GenState)} {A : Around} {E : Value → Shared → Prop} {m m' : List (Str × Bnd)} {n n' : List (Addr × Obj)}
noncomputable def digs : Int → List Int → List Int
  | _, [] => []
  | x, b :: bs => x.fmod b :: digs (x.fdiv b) bs
theorem ints_at {vs : List Value} {ns : List Int} (h : IntsAre vs ns) {i : Nat} {v : Value} (hv : vs[i]? = some v) : ∃ b tb, v = .int b tb ∧ ns[i]? = some b := by
  have hlen := h.length
  have hlt : i < ns.length := by have := (List.getElem?_eq_some_iff.mp hv).1; omega
  obtain ⟨tb, e⟩ := h.get i ns[i] (by simp [hlt])
  rw [hv] at e
  exact ⟨ns[i], tb, Option.some.inj e, by simp [hlt]⟩
theorem ints_snoc {vs : List Value} {ns : List Int} (h : IntsAre vs ns) (a : Int) (t : Tok) : IntsAre (vs ++ [.int a t]) (ns ++ [a]) := by
  induction h with
  | nil => exact .cons _ _ .nil
  | cons _ _ _ ih => exact .cons _ _ ih
theorem nodup1 {α β : Type} {p : α × β} : ([p].map (·.1)).Nodup := by simp

set_option profiler true in
set_option profiler.threshold 400 in
inductive I7 (x : Int) (l a : Addr) (bs : List Int) (vs : List Value) (e : Nat) (i : Nat) (m₁ : List (Str × Bnd)) (n₁ : List (Addr × Obj)) : Prop
  | mk (x' : Int) (t' : Tok) (bb dd : Option Value) (ws : List Value) (ds : List Int) (e' : Nat) (_ : m₁ = M320 (some (.int x' t')) (some (.ref l)) (some (.ref a)) bb dd) (_ : n₁ = [(a, listObj ws e'), (l, listObj vs e)]) (_ : IntsAre ws ds) (_ : ds ++ digs x' (bs.drop i) = digs x bs) (_ : ds.length = i)
theorem s_digits {x : Int} {t : Tok} {l : Addr} {bs : List Int} {vs : List Value} {e : Nat} {Q : Value → Shared → Prop} (hA : Ok A 120) (hl : (l, listObj vs e) ∈ n) (hvs : IntsAre vs bs) (hb : ∀ b ∈ bs, b ≠ 0) (hbl : bs.length ≤ 10)
    (h : ∀ D ws e, IntsAre ws (digs x bs) → ∀ s, St C s₀ W env G s m ((D, listObj ws e) :: n) → Q (.ref D) s) :
    ∀ s, St C s₀ W env G s m n → wpAny (MM C.w) A (call (.ref 320) [.int x t, .ref l] []) Q E s := by
  intro s D
  refine e320 [(l, listObj vs e)] D (hA.le (by decide) : Ok A (119 + 1)) (by kqd_all) nodup1 ?_
  intro L E'
  repeat' tb_start
  rename_i a
  refine t_forI (I7 x l a bs vs e) (hA.le (by decide) : Ok A (0 + 1)).deeper.hh (iter_list (by news_at)) ?_ ?_ ?_ ?_
  · rintro i m₁ n₁ ⟨x', t', bb, dd, ws, ds, e', rfl, rfl, _⟩
    kqd_all
  · exact ⟨x, t, none, none, [], [], 0, rfl, rfl, .nil, rfl, rfl⟩
  · rintro i v m₁ n₁ I o E' hlt hv ⟨x', t', bb, dd, ws, ds, e', rfl, rfl, hws, hds, hi⟩
    obtain ⟨b, tb, rfl, hb'⟩ := ints_at hvs hv
    have hb0 : b ≠ 0 := hb b (List.mem_of_getElem? hb')
    repeat' tb_start
    refine o_divmod (hA.le (by decide)) rfl rfl hb0 ?_
    intro T t1 t2
    have hA0 : Ok (A.deeper (fnEnv f320.fd 320 L)) 0 := (hA.le (by decide) : Ok A (0 + 1)).deeper
    repeat' tb_start
    refine c_append (by news_at) (by tb_rel) ?_ ?_
    · have := hws.length; have := (List.getElem?_eq_some_iff.mp hb').1; rw [sizeLine_eq]; omega
    repeat' tb_start
    intro s₂ D₂
    refine ⟨_, _, ⟨_, _, _, _, _, _, _, rfl, rfl, ints_snoc hws _ _, ?_, ?_⟩, D₂.sub (by lcg_sub)⟩
    · obtain ⟨hlt, hbe⟩ := List.getElem?_eq_some_iff.mp hb'
      rw [List.drop_eq_getElem_cons hlt, hbe] at hds
      rw [← hds]
      simp [digs]
    · simp [hi]
  · rintro m₁ n₁ E' ⟨x', t', bb, dd, ws, ds, e', rfl, rfl, hws, hds, hi⟩
    repeat' tb_start
    intro s₂ D₂
    refine h a ws e' ?_ s₂ (D.back (n₁ := [(a, listObj ws e')]) D₂ (by kqd_all) (by lcg_sub))
    rw [← hds, hvs.length, List.drop_length]
    simpa [digs] using hws
end
/-- what _iter_escaped_chars gives: places and units -/
noncomputable def esc : Nat → Bool → List Nat → List (Int × List Nat)
  | i, e, [] => if e then [((i : Int) - 1, [92])] else []
  | i, true, c :: cs => ((i : Int), [92, c]) :: esc (i + 1) false cs
  | i, false, c :: cs => if c = 92 then esc (i + 1) true cs else ((i : Int), [c]) :: esc (i + 1) false cs


noncomputable def YP (C : Cx) (own : List Addr) (its : List (Int × List Nat)) : Protocol := fun n z v s' kap =>
  ∃ (i : Int) (l : List Nat) (rest : List (Int × List Nat)) (T : Addr) (t u : Tok) (pr : List (Addr × Obj)), its.drop (its.length - (n + 1)) = (i, l) :: rest ∧ v = .ref T ∧ pr.map (·.1) = own ∧ (∀ p ∈ pr, s'.heap.get? p.1 = some p.2) ∧
    s'.heap.get? T = some (tupObj [.int i t, .str (strOf l) u]) ∧ z.heap.get? T = none ∧ T ∉ own ∧ Ext own z s' ∧
    ∀ s'', (∀ p ∈ pr, s''.heap.get? p.1 = some p.2) → Gd C s''.heap → kap (.send .none) s''
noncomputable def RP (own : List Addr) : GenEnd := fun n z r s₁ => r = .ok (.ret .none) ∧ (n = 0 ∧ Ext own z s₁)

theorem over_ok {A : Around} {j : Nat} {c₁ c₂ : Code} {k : Result → Sem Fin} {l : List Value} {p : Pos} {q : List Value} {g : Bool} (hA : Ok A (j + 2)) (h1 : c₁.weight = 1) (h2 : c₂.weight = 0) (h3 : c₁.cUnits = 3) (h4 : c₂.cUnits = 0) :
    Ok (A.over c₂ [.ret k none g l c₁ p q]) j := by
  refine ⟨?_, ?_, ?_, ?_⟩
  · show (marksOver [.ret k none g l c₁ p q] (A.handled, A.handled)).1 = none
    rw [hA.hh]; rfl
  · have := hA.d
    show A.depth + frameCount ([Frame.ret k none g l c₁ p q].map Frame.where_) + c₂.weight + j < _
    simp only [List.map_cons, List.map_nil, Frame.where_, frameCount_cons, h1, h2]
    show A.depth + (1 + 0) + 0 + j < _
    omega
  · have := hA.u
    show A.units + PySem.unitsOf ([Frame.ret k none g l c₁ p q].map Frame.where_) + c₂.cUnits + 10 * j < _
    rw [h4]
    have : PySem.unitsOf ([Frame.ret k none g l c₁ p q].map Frame.where_) = 3 := by
      simp [PySem.unitsOf, Frame.where_, h3]
    omega
  · show (pushEnvs _ (pushEnvs _ A.frames)).isSome = true
    rw [pushEnvs_eq, pushEnvs_eq, Option.isSome_map, Option.isSome_map]; exact hA.fr
theorem over_ok0 {A : Around} {j : Nat} {c₁ : Code} (hA : Ok A (j + 2)) (h1 : c₁.weight = 1) (h3 : c₁.cUnits = 3) : Ok (A.over c₁ []) j := by
  refine ⟨hA.hh, ?_, ?_, ?_⟩
  · have := hA.d
    show A.depth + 0 + c₁.weight + j < _
    omega
  · have := hA.u
    show A.units + 0 + c₁.cUnits + 10 * j < _
    omega
  · show (pushEnvs _ (pushEnvs _ A.frames)).isSome = true
    rw [pushEnvs_eq, pushEnvs_eq, Option.isSome_map, Option.isSome_map]; exact hA.fr
theorem lk_env {C : Cx} {s₀ s : Shared} {W : List Addr} {env : Env} {G : List (Nat × GenState)} {m : List (Str × Bnd)} {n : List (Addr × Obj)} (D : St C s₀ W env G s m n) : ∃ o, s.heap.get? env.locals = some o ∧
    ∀ s' : Shared, s'.heap.get? env.locals = some o → ∃ mm, s'.heap.Ns env.locals mm ∧ ∀ p ∈ m, p.2.Ok C env mm p.1 := by
  obtain ⟨mm, ⟨o, es, ep, e, r⟩, hok⟩ := D.ns
  exact ⟨o, e, fun s' e' => ⟨mm, ⟨o, es, ep, e', r⟩, hok⟩⟩

theorem St.chg {C : Cx} {s₀ s : Shared} {W : List Addr} {env : Env} {G : List (Nat × GenState)} {m : List (Str × Bnd)} {n n' : List (Addr × Obj)} (D : St C s₀ W env G s m n) {h' : Heap} (d : Drawn) (t : Nat) (chg : List Addr) (hc : ∀ a ∈ chg, a ∈ n.map (·.1))
    (hk : ∀ b o, b ∉ chg → s.heap.get? b = some o → h'.get? b = some o) (hn : ∀ p ∈ n', h'.get? p.1 = some p.2 ∧ (p.1 ∈ n.map (·.1) ∨ s.heap.get? p.1 = none)) (nd : (n'.map (·.1)).Nodup) : St C s₀ W env G ⟨h', s.gens, d, t, s.os⟩ m n' := by
  have hin : ∀ a ∈ n.map (·.1), a ≠ env.locals ∧ (a ∈ W ∨ s₀.heap.get? a = none) := fun a ha => by
    obtain ⟨p, hp, rfl⟩ := List.mem_map.mp ha
    exact (D.nw p hp).2
  have hLt : ∃ o, s.heap.get? env.locals = some o := by obtain ⟨mm, ⟨o, es, ep, e, r⟩, _⟩ := D.ns; exact ⟨o, e⟩
  refine ⟨D.g0, ⟨fun b o hb e => ?_, D.x.gens, D.x.bare, D.x.os⟩, D.dyn, D.fn, D.glob, D.bui, ?_, D.hL, D.nd, fun p hp => ⟨(hn p hp).1, ?_⟩, nd, D.gn⟩
  · refine hk b o (fun q => ?_) (D.x.keep b o hb e)
    rcases (hin b (hc b q)).2 with h | h
    · exact hb h
    · rw [h] at e; cases e
  · obtain ⟨mm, hm, hok⟩ := D.ns
    exact ⟨mm, ns_at hm fun o e => hk _ o (fun q => (hin _ (hc _ q)).1 rfl) e, hok⟩
  · rcases (hn p hp).2 with h | h
    · exact hin _ h
    · refine ⟨?_, D.newAt h⟩
      intro q
      obtain ⟨o, ho⟩ := hLt
      rw [q, ho] at h; cases h

/-- the generator's own state, awake again -/
theorem gen_back {C : Cx} {z s s'' : Shared} {own : List Addr} {env : Env} {G : List (Nat × GenState)} {m : List (Str × Bnd)} {n n' : List (Addr × Obj)} (D : St C z own env G s m n) (hL : env.locals ∈ own) (g : Gd C s''.heap)
    (hl : ∀ o, s.heap.get? env.locals = some o → s''.heap.get? env.locals = some o) (hn : ∀ p ∈ n', p ∈ n ∧ p.1 ∈ own ∧ s''.heap.get? p.1 = some p.2) (nd : (n'.map (·.1)).Nodup) : St C s'' own env [] s'' m n' := by
  refine ⟨g, Ext.refl _ _, D.dyn, D.fn, D.glob, D.bui, ?_, .inl hL, D.nd, fun p hp => ⟨(hn p hp).2.2, (D.nw p (hn p hp).1).2.1, .inl (hn p hp).2.1⟩, nd, fun _ h => nomatch h⟩
  obtain ⟨mm, hm, hok⟩ := D.ns
  exact ⟨mm, ns_at hm hl, hok⟩

section
variable {C : Cx} {A : Around} {E : Value → Shared → Prop}
noncomputable def enumObj (it : Addr) (i : Int) (a old : Value) : Obj := { cls := .type "enumerate", dict := none, data := .fields #[a, .bool false, .ref it, rawInt i, .none, old], slots := #[] }
noncomputable def SI (x : Str) (t : Tok) (i : Nat) (o : Obj) : Prop := o.cls = .type "str_ascii_iterator" ∧ o.data = .fields #[.str x t, .int i 0]

theorem enum_next {z s : Shared} {W : List Addr} {env : Env} {G : List (Nat × GenState)} {m : List (Str × Bnd)} {n : List (Addr × Obj)} {en it : Addr} {i : Nat} {old : Value} {oi : Obj} {x : Str} {t : Tok} {c : Nat} {Q : Option Value → Shared → Prop} (hh : A.handled = none)
    (D : St C z W env G s m ((en, enumObj it i .none old) :: (it, oi) :: n)) (hS : SI x t i oi) (hc : x.cps[i]? = some c)
    (h : ∀ T tk u oi' s', SI x t (i + 1) oi' → St C z W env G s' m ((T, tupObj [.int i tk, .str (strOf [c]) u]) :: (en, enumObj it ((i : Int) + 1) (rawInt T) (.str (strOf [c]) u)) :: (it, oi') :: n) → Q (some (.ref T)) s') :
    wpAny (MM C.w) A (pyNext (.ref en)) Q E s := by
  have hne : en ≠ it := by
    have := D.na
    simp only [List.map_cons, List.nodup_cons, List.mem_cons, not_or] at this
    exact this.1.1
  have hlt : i < x.cps.size := by
    rcases Nat.lt_or_ge i x.cps.size with h | h
    · exact h
    · rw [Array.getElem?_eq_none h] at hc; cases hc
  refine wpAny_pyNext_enum_itemD (Draws.strAscii (A := A.in1) hh it x t) (D.nw _ (.head _)).1 ⟨oi, (D.nw _ (.tail _ (.head _))).1, hS.1, hS.2⟩ hlt hne (by simpa using hne) ?_
  rintro v h' tk ⟨c', u, hc', rfl⟩ hE ⟨oi', hoi, hS'⟩ hT _ hk
  rw [hc] at hc'; cases hc'
  refine h _ tk u oi' _ hS' (D.chg _ _ [en, it] ?_ ?_ ?_ ?_)
  · intro a ha
    simp only [List.mem_cons, List.not_mem_nil, or_false] at ha
    rcases ha with rfl | rfl <;> simp
  · intro b o hb e
    simp only [List.mem_cons, List.not_mem_nil, or_false, not_or] at hb
    exact hk b o hb.1 hb.2 e
  · intro p hp
    rcases List.mem_cons.mp hp with rfl | hp
    · exact ⟨hT, .inr (get_size _)⟩
    rcases List.mem_cons.mp hp with rfl | hp
    · exact ⟨hE, .inl (by simp)⟩
    rcases List.mem_cons.mp hp with rfl | hp
    · exact ⟨hoi, .inl (by simp)⟩
    · have hnd := D.na
      simp only [List.map_cons, List.nodup_cons, List.mem_cons, not_or] at hnd
      refine ⟨hk _ _ ?_ ?_ (D.nw p (.tail _ (.tail _ hp))).1, .inl (List.mem_map_of_mem (.tail _ (.tail _ hp)))⟩
      · intro e; exact hnd.1.2 (e ▸ List.mem_map_of_mem hp)
      · intro e; exact hnd.2.1 (e ▸ List.mem_map_of_mem hp)
  · have hnd := D.na
    rw [List.map_cons, List.nodup_cons]
    refine ⟨fun hm => ?_, hnd⟩
    have : ∃ p ∈ ((en, enumObj it i .none old) :: (it, oi) :: n), p.1 = s.heap.objs.size := by
      obtain ⟨p, hp, e⟩ := List.mem_map.mp hm
      rcases List.mem_cons.mp hp with rfl | hp
      · exact ⟨_, .head _, e⟩
      rcases List.mem_cons.mp hp with rfl | hp
      · exact ⟨_, .tail _ (.head _), e⟩
      · exact ⟨p, .tail _ (.tail _ hp), e⟩
    obtain ⟨p, hp, e⟩ := this
    exact absurd (Heap.lt_size (D.nw p hp).1) (by rw [e]; exact Nat.lt_irrefl _)
theorem enum_let {z s : Shared} {W : List Addr} {env : Env} {G : List (Nat × GenState)} {m : List (Str × Bnd)} {n n' : List (Addr × Obj)} {en it T : Addr} {i : Int} {item : Value} {elts : List Expr} {k : Nat} {pos : Pos} {Q : Unit → Shared → Prop}
    (D : St C z W env G s m n) (he : (en, enumObj it i (rawInt T) item) ∈ n) (U : Upd en (enumObj it i .none item) n n') (h : ∀ s, St C z W env G s m n' → Q () s) :
    wpAny (MM C.w) A (letOwnedTupleGo (.Tuple elts k pos) (.ref en) (.ref T)) Q E s :=
  wpAny_letOwnedTupleGo_enum (D.get he) fun h' hE hs => h _ (D.upd _ _ U hs hE)
theorem ascii_end {it : Addr} {x : Str} {t : Tok} {i : Nat} {s : Shared} {w : World} {E : Value → Shared → Prop} {Q : Value → Shared → Prop} (hh : A.handled = none)
    (hit : s.heap.IsStrIter it "str_ascii_iterator" x t i) (hx : x.cps[i]? = none)
    (hE : ∀ h' e, Heap.ExtBut it s.heap h' → (∃ o, h'.get? e = some o ∧ o.cls = .type "StopIteration") → (∃ o, h'.get? it = some o) → E (.ref e) { s with heap := h' }) :
    wpAny (MM w) A (Builtin.SmallTypes.nextOf (.ref it)) Q E s := by
  obtain ⟨o, ho, hc, hd⟩ := id hit
  unfold Builtin.SmallTypes.nextOf
  refine wpAny_bind (wpAny_callSpecial?_slot (name := Str.ofString "__next__") hit.typeIs F.slot_str_ascii_iterator_next
    (wpAny_call_entry F.slot_str_ascii_iterator_next hit.typeIs F.entry_str_ascii_iterator_next ?_ (F.args_str_ascii_iterator_next_1 _)))
  show wpAny _ _ (field (.ref it) 0 >>= _) _ _ s
  refine wpAny_bind (wpAny_field ho hd (x := .str x t) rfl ?_)
  show wpAny _ _ (field (.ref it) 1 >>= _) _ _ s
  refine wpAny_bind (wpAny_field ho hd (x := .int i 0) rfl ?_)
  simp only [Int.toNat_natCast, hx]
  refine wpAny_bind (wpAny_rule (wpAny_bind (wpAny_setField ho hd (by simp) (wpAny_bind (wpAny_letGo ?_)))))
  show wpAny _ _ (newExc (.type "StopIteration") [] >>= _) _ _ _
  refine wpAny_bind ?_
  simp only [newExc, newTuple]
  refine wpAny_bind (wpAny_newObj_type ?_ (by size_fits))
  refine wpAny_bind (m := firstArgMember _ _) (wpAny_of_eq (a := Value.none) (by first | rfl | (simp only [firstArgMember]; rfl)) ?_)
  refine wpAny_newObj_type ?_ (by size_fits)
  simp only [raiseNew]
  refine wpAny_bind (wpAny_handled ?_)
  first | rw [show A.in1.handled = none from hh] | rw [hh]
  refine wpAny_bind (wpAny_pure (wpAny_throw ?_))
  exact hE _ _ (((Heap.SameBut.update ..).extBut.push _).push _) ⟨_, Heap.get?_push_size _ rfl, rfl⟩ ⟨_, Heap.get?_push_of_some _ (Heap.get?_push_of_some _ (Heap.get?_update_self _ ho (by obtain ⟨c, d, da, sl⟩ := o; cases hd; rfl)))⟩
theorem enum_end {z s : Shared} {W : List Addr} {env : Env} {G : List (Nat × GenState)} {m : List (Str × Bnd)} {n : List (Addr × Obj)} {en it : Addr} {i : Int} {old : Value} {oi : Obj} {x : Str} {t : Tok} {Q : Option Value → Shared → Prop} (hh : A.handled = none)
    (D : St C z W env G s m ((en, enumObj it i .none old) :: (it, oi) :: n)) (hS : SI x t x.cps.size oi) (h : ∀ s' oi', St C z W env G s' m ((en, enumObj it i .none old) :: (it, oi') :: n) → Q none s') :
    wpAny (MM C.w) A (pyNext (.ref en)) Q E s := by
  have he : IsEnum s.heap en it i old := (D.nw _ (.head _)).1
  have hst : s.heap.IsStrIter it "str_ascii_iterator" x t x.cps.size := ⟨oi, (D.nw _ (.tail _ (.head _))).1, hS.1, hS.2⟩
  have hT : s.TypeIs (.ref en) "enumerate" := ⟨_, he, rfl⟩
  unfold pyNext
  refine wpAny_bind (wpAny_attempt (wpAny_callSpecial?_slot (name := Str.ofString "__next__") hT F.slot_enumerate_next
    (wpAny_call_entry F.slot_enumerate_next hT F.entry_enumerate_next ?_ (F.args_enumerate_next_1 _))))
  show wpAny _ _ (field (.ref en) 2 >>= _) _ _ _
  refine wpAny_bind (wpAny_field he rfl (x := .ref it) rfl ?_)
  refine wpAny_bind (ascii_end (A := A.in1) hh hst (by simp) fun h' x he' hx' hit => ?_)
  obtain ⟨o, ho, hc⟩ := hx'
  refine wpAny_bind (wpAny_isInstance (T := "StopIteration") (b := true) ⟨o, ho, hc⟩ isSubtype_stop ?_)
  obtain ⟨oi', hoi'⟩ := hit
  have hna := D.na
  simp only [List.map_cons, List.nodup_cons, List.mem_cons, not_or] at hna
  refine wpAny_pure (h _ oi' (D.chg _ _ [it] ?_ ?_ ?_ ?_))
  · intro a ha
    simp only [List.mem_cons, List.not_mem_nil, or_false] at ha
    subst ha; simp
  · intro b o hb e
    simp only [List.mem_cons, List.not_mem_nil, or_false] at hb
    exact he' b o hb e
  · intro p hp
    rcases List.mem_cons.mp hp with rfl | hp
    · exact ⟨he' _ _ hna.1.1 he, .inl (by simp)⟩
    rcases List.mem_cons.mp hp with rfl | hp
    · exact ⟨hoi', .inl (by simp)⟩
    · refine ⟨he' _ _ (fun e => hna.2.1 (e ▸ List.mem_map_of_mem hp)) (D.nw p (.tail _ (.tail _ hp))).1, .inl (List.mem_map_of_mem (.tail _ (.tail _ hp)))⟩
  · exact D.na
theorem y_done {z s : Shared} {L en it T : Addr} {env : Env} {m : List (Str × Bnd)} {nn : List (Addr × Obj)} {its rest : List (Int × List Nat)} {k : Nat} {i : Int} {l : List Nat} {t u : Tok} {oe oi : Obj} {X : Shared → Prop}
    (hL : env.locals = L) (hd : its.drop (its.length - (k + 1)) = (i, l) :: rest) (hs : [(T, tupObj [.int i t, .str (strOf l) u]), (en, oe), (it, oi)].Sublist nn) (D : St C z [L, en, it] env [] s m nn)
    (h : ∀ s'', St C s'' [L, en, it] env [] s'' m [(en, oe), (it, oi)] → X s'') :
    ∀ kap : Resume → Shared → Prop, (∀ x s'', (match x with | Value.ref _ => False | _ => X s'') → kap (.send x) s'') → YP C [L, en, it] its k z (.ref T) s kap := by
  intro kap hk
  have D1 := D.sub hs
  have hn := D1.na
  simp only [List.map_cons, List.map_nil, List.nodup_cons, List.mem_cons, List.not_mem_nil, or_false, not_or] at hn
  obtain ⟨⟨h1, h2⟩, h3, -⟩ := hn
  have hTL : T ≠ L := hL ▸ (D1.nw _ (.head _)).2.1
  have hT : T ∉ [L, en, it] := by simp [hTL, h1, h2]
  have hTz : z.heap.get? T = none := by
    rcases (D1.nw _ (.head _)).2.2 with h | h
    · exact absurd h hT
    · exact h
  obtain ⟨o, ho⟩ : ∃ o, s.heap.get? L = some o := by obtain ⟨mm, ⟨o, es, ep, e, r⟩, _⟩ := D.ns; exact ⟨o, hL ▸ e⟩
  refine ⟨i, l, rest, T, t, u, [(L, o), (en, oe), (it, oi)], hd, rfl, rfl, ?_, (D1.nw _ (.head _)).1, hTz, hT, D.x, fun s'' hp g => hk .none s'' (h s'' ?_)⟩
  · intro p hp
    rcases List.mem_cons.mp hp with rfl | hp
    · exact ho
    · exact (D1.nw p (.tail _ hp)).1
  · refine gen_back D1 (by rw [hL]; exact .head _) g (fun o' e => ?_) (fun p hp' => ⟨.tail _ hp', ?_, hp p (.tail _ hp')⟩) ?_
    · rw [hL] at e ⊢
      rw [ho] at e; cases e
      exact hp _ (.head _)
    · simp only [List.mem_cons, List.not_mem_nil, or_false] at hp'
      rcases hp' with rfl | rfl <;> simp
    · simp [h3]
end
structure GParts where
  st : Stmt
  st2 : Stmt
  tg : Expr
  itr : Expr
  bd : List Stmt
  ps : Pos
  rest : List Stmt
  h : f45.body = st :: st2 :: .For tg itr bd [] ps :: rest
@[reducible] noncomputable def gp : GParts := by
  refine ⟨?a, ?a2, ?b, ?c, ?d, ?e, ?f, ?h⟩
  case h => exact rfl
noncomputable abbrev genEnv (L : Addr) : Env := fnEnv f45.fd 45 L
section
variable {C : Cx} {A : Around}
theorem drop_more {α : Type} {its : List α} {x : α} {rest : List α} {k : Nat} (h : its.drop (its.length - (k + 1)) = x :: rest) (hk : k + 1 ≤ its.length) : its.drop (its.length - k) = rest := by
  have e : its.length - k = (its.length - (k + 1)) + 1 := (Nat.succ_sub hk).symm.trans (by rw [Nat.succ_sub_succ]) |>.symm
  rw [e, ← List.drop_drop, h]; rfl
/-- the generator's loop -/
theorem gen_loop {x : List Nat} {t : Tok} {L en it : Addr} {c : Code} {kk : Result → Sem Fin} {p : Pos} {its : List (Int × List Nat)} (hA : Ok A 12) (hc1 : c.weight = 1) (hc3 : c.cUnits = 3)
    (fin : ∀ z s k e vp vch oe oi, k = (esc x.length e []).length → its.drop (its.length - k) = esc x.length e [] → k ≤ its.length → (e = true → ∃ tp, vp = .int ((x.length : Int) - 1) tp) →
      St C z [L, en, it] (genEnv L) [] s (M45 (some (.str (strOf x) t)) (some vp) (some (.bool e)) vch) [(en, oe), (it, oi)] → Seg (MM C.w) A (RP [L, en, it]) (YP C [L, en, it] its) k z c (kk (.ok .next)) [] s) :
    ∀ (cs : List Nat) (i : Nat) (e : Bool) (z s : Shared) (k : Nat) (vp : Value) (vch : Option Value) (old : Value) (oi : Obj), i ≤ x.length → x.drop i = cs → k = (esc i e cs).length → its.drop (its.length - k) = esc i e cs → k ≤ its.length →
      (e = true → ∃ tp, vp = .int ((i : Int) - 1) tp) → SI (strOf x) t i oi →
      St C z [L, en, it] (genEnv L) [] s (M45 (some (.str (strOf x) t)) (some vp) (some (.bool e)) vch) [(en, enumObj it i .none old), (it, oi)] →
      Seg (MM C.w) A (RP [L, en, it]) (YP C [L, en, it] its) k z (.forLoop gp.tg (.ref en) gp.bd [] (genEnv L)) ((MM C.w).den (.forLoop gp.tg (.ref en) gp.bd [] (genEnv L))) [.ret kk none false [] c p []] s := by
  intro cs
  induction cs with
  | nil =>
    intro i e z s k vp vch old oi hix hcs hk hd hkl hvp hS D
    have hi : x.length ≤ i := List.drop_eq_nil_iff.mp hcs
    have hOk : Ok (A.over (.forLoop gp.tg (.ref en) gp.bd [] (genEnv L)) [.ret kk none false [] c p []]) 10 := over_ok hA hc1 rfl hc3 rfl
    refine g_turn ?_
    refine enum_end hOk.hh D (by rw [show (strOf x).cps.size = i by simp [strOf]; omega]; exact hS) ?_
    intro s' oi' D'
    show Seg _ A _ _ k z _ (((execs [] (genEnv L)).onRaise (fun x => do noteFrame x (genEnv L); theTreesLotGoes x)) >>= fun f => (pure (PySem.Fin.done f) : Sem PySem.Fin)) _ s'
    refine seg_bind (wpAny_onRaise (wpAny_execs_nil ?_))
    refine seg_leaf (.ok .next) ?_
    obtain rfl : i = x.length := Nat.le_antisymm hix hi
    exact fin z s' k e vp vch _ _ hk hd hkl hvp D'
  | cons ch cs ih =>
    intro i e z s k vp vch old oi hix hcs hk hd hkl hvp hS D
    have hOk : Ok (A.over (.forLoop gp.tg (.ref en) gp.bd [] (genEnv L)) [.ret kk none false [] c p []]) 10 := over_ok hA hc1 rfl hc3 rfl
    have hlt : i < x.length := by
      rcases Nat.lt_or_ge i x.length with h | h
      · exact h
      · rw [List.drop_eq_nil_iff.mpr h] at hcs; cases hcs
    have hch : x[i]? = some ch := by
      rw [List.drop_eq_getElem_cons hlt] at hcs
      rw [List.getElem?_eq_getElem hlt, (List.cons.inj hcs).1]
    have hcs' : x.drop (i + 1) = cs := by
      rw [List.drop_eq_getElem_cons hlt] at hcs
      exact (List.cons.inj hcs).2
    refine g_turn ?_
    refine enum_next hOk.hh D hS (c := ch) (by simpa [strOf] using hch) ?_
    intro T tk u oi' s' hS' D'
    show wpAny (MM C.w) _ (letOwnedTupleGo (.Tuple _ _ _) (.ref en) (.ref T)) _ _ _
    refine enum_let D' (.tail _ (.head _)) (.tail .head) ?_
    show ∀ s, _ → wpAny (MM C.w) _ (assign (.Tuple _ _ _) _ _) _ _ _
    refine t_asgTup (hOk.le (by decide)) (.head _) rfl rfl ?_
    repeat' tb_start
    have hpos : (i : Int) = ((i + 1 : Nat) : Int) - 1 := by omega
    refine t_itb (fun he => ?_) (fun he => ?_)
    · subst he
      have hk' : k = (esc (i + 1) false cs).length + 1 := by rw [hk]; simp [esc]
      subst hk'
      refine g_cons (g_yield rfl rfl rfl ?_)
      repeat' tb_start
      refine o_adds (by rw [sizeLine_eq]; simp) ?_
      intro t2
      repeat' tb_start
      intro s₂ D₂
      refine y_done (env := genEnv L) (L := L) rfl (hd.trans rfl) (by lcg_sub) D₂ ?_
      intro z₃ D₃
      refine (show ∀ s, St C z₃ [L, en, it] (genEnv L) [] s _ _ → Seg (MM C.w) A _ _ _ z₃ _ _ _ s from ?_) z₃ D₃
      clear D₃
      dsimp only
      repeat' tb_start
      intro s₃ D₃
      refine seg_again rfl (ih (i + 1) false _ s₃ _ _ _ _ _ hlt hcs' rfl ?_ (by omega) (by intro h; cases h) hS' D₃)
      exact drop_more (hd.trans rfl) hkl
    · subst he
      repeat' tb_start
      refine t_itb (fun hc => ?_) (fun hc => ?_)
      · have hc : ch = 92 := by simpa using hc
        subst hc
        repeat' tb_start
        intro s₃ D₃
        refine seg_again rfl (ih (i + 1) true z s₃ k _ _ _ _ hlt hcs' (by rw [hk]; simp [esc]) (by rw [hd]; simp [esc]) hkl (fun _ => ⟨_, by rw [hpos]⟩) hS' (D₃.sub (by lcg_sub)))
      · have hc : ch ≠ 92 := by simpa using hc
        have hk' : k = (esc (i + 1) false cs).length + 1 := by rw [hk]; simp [esc, hc]
        subst hk'
        refine g_cons (g_yield rfl rfl rfl ?_)
        repeat' tb_start
        intro s₂ D₂
        refine y_done (env := genEnv L) (L := L) rfl (hd.trans (by simp only [esc, hc, if_false]; rfl)) (by lcg_sub) D₂ ?_
        repeat' tb_start
        intro s₃ D₃
        refine seg_again rfl (ih (i + 1) false _ s₃ _ _ _ _ _ hlt hcs' rfl ?_ (by omega) (by intro h; cases h) hS' D₃)
        exact drop_more (hd.trans (by simp only [esc, hc, if_false]; rfl)) hkl
end
section
variable {C : Cx} {A : Around} {E : Value → Shared → Prop} {s : Shared}
theorem next_gen {w : World} {a : Addr} {g n : Nat} {gs : GenState} {P : Nat → Shared → Shared → Prop} {Y : Protocol} {Q : Option Value → Shared → Prop} (hh : A.handled = none)
    (hl : s.heap.NoLimit) (hroom : A.depth < recursionLimit)
    (hg : s.heap.IsGen a g) (hgs : s.gens[g]? = some gs)
    (hgo : gs.Goes (MM w) A.in1 (fun n s₀ r s₁ => r = .ok (.ret .none) ∧ P n s₀ s₁) Y n (.send .none) (s.setGen g .running))
    (hY : ∀ v s₁ gs', gs'.bare = true → Y (n - 1) (s.setGen g .running) v s₁ (fun r' s'' => match n with
        | 0 => False
        | m + 1 => gs'.Goes (MM w) A.in1 (fun n s₀ r s₁ => r = .ok (.ret .none) ∧ P n s₀ s₁) Y m r' s'') → Q (some v) (s₁.setGen g gs'))
    (hP : ∀ s₁, P n (s.setGen g .running) s₁ → ∀ h', (∀ b o, s₁.heap.get? b = some o → h'.get? b = some o) → Q none { s₁.setGen g .finished with heap := h' }) :
    wpAny (MM w) A (pyNext (.ref a)) Q E s := by
  unfold pyNext
  refine wpAny_bind (wpAny_attempt (wpAny_callSpecial?_slot (name := Str.ofString "__next__") hg.typeIs slot_gen_next
    (wpAny_call_entry slot_gen_next hg.typeIs entry_gen_next ?_ (args_gen_next _))))
  show wpAny _ A.in1 (Builtin.Generator.genWake (.ref a) (.send .none)) _ _ s
  unfold Builtin.Generator.genWake
  refine wpAny_bind (wpAny_holding (wpAny_genNumber hg (wpAny_bind (wpAny_genState hgs ?_))))
  cases gs with
  | running => exact hgo.elim
  | finished => exact hgo.elim
  | _ =>
    refine wpAny_bind (wpAny_roomToWake hl hroom ?_)
    show wpAny _ A.in1 (.resume g (.send .none) [] _) _ _ s
    refine wpAny_resumeQ hgs hgo (fun x s₁ hx => ?_) (fun v s₁ gs' hb hv => ?_)
    · obtain ⟨rfl, hp⟩ := hx
      show wpAny _ A.in1 (newExc (.type "StopIteration") [] >>= _) _ _ _
      refine wpAny_bind ?_
      simp only [newExc, newTuple]
      refine wpAny_bind (wpAny_newObj_type ?_ (by size_fits))
      refine wpAny_bind (m := firstArgMember _ _) (wpAny_of_eq (a := Value.none) (by first | rfl | (simp only [firstArgMember]; rfl)) ?_)
      refine wpAny_newObj_type ?_ (by size_fits)
      simp only [raiseNew]
      refine wpAny_bind (wpAny_bind (wpAny_handled ?_))
      first | rw [show A.in1.handled = none from hh] | rw [hh]
      refine wpAny_throw ?_
      refine wpAny_bind (wpAny_isInstance (T := "StopIteration") (b := true) ⟨_, Heap.get?_push_size _ rfl, rfl⟩ isSubtype_stop ?_)
      exact wpAny_pure (hP s₁ hp _ fun b o hb => Heap.get?_push_of_some _ (Heap.get?_push_of_some _ hb))
    · exact wpAny_pure ⟨v, rfl, wpAny_pure (hY v s₁ gs' hb hv)⟩

/-- one argument, pointwise -/
theorem p_call1 {f a : Expr} {env : Env} {pos : Pos} {Q : Value → Shared → Prop} (h : wpAny (MM C.w) A (eval f env) (fun fv s₁ => wpAny (MM C.w) A (eval a env) (fun av s₂ => KpOk C fv s₂.heap ∧ wpAny (MM C.w) A (call fv [av]) Q E s₂) E s₁) E s)
    (hf : eval (.Call f [a] [] pos) env = (do callWith pos (← eval f env) [] (backTo pos (starEach [a] env)) (backToKw pos (keywordEach [] env))) := by with_unfolding_all rfl)
    (he : starEach (a :: []) env = (false, eval a env) :: starEach [] env := by with_unfolding_all rfl) :
    wpAny (MM C.w) A (eval (.Call f [a] [] pos) env) Q E s := by
  rw [hf]
  refine wpAny_bind (wpAny_mono h (fun fv s₁ h₁ => ?_) fun _ _ e => e)
  show wpAny (MM C.w) A (callWith pos fv [] (backTo pos (starEach [a] env)) []) Q E s₁
  have h' : wpAny (MM C.w) A (spliced (backTo pos (starEach (a :: []) env))) (fun vs s₁ => KpOk C fv s₁.heap ∧ wpAny (MM C.w) A (call fv ([] ++ vs)) Q E s₁) E s₁ :=
    wpAny_items_cons (wpAny_mono h₁ (fun av s₂ h₂ => wpAny_items_nil h₂) fun _ _ e => e) he
  rw [he] at h' ⊢
  exact callWith_of (P := KpOk C fv) rfl (fun _ x => x) (evalArgs_plain h')
theorem p_stl {s₀ : Shared} {W : List Addr} {env : Env} {G : List (Nat × GenState)} {m m' : List (Str × Bnd)} {n : List (Addr × Obj)} {x : Str} {v : Value} {Q : Unit → Shared → Prop} (D : St C s₀ W env G s m n) (U : Upd x (Bnd.loc (some v)) m m') (hk : ∃ u, (x, Bnd.loc u) ∈ m)
    (h : ∀ s', s'.heap.objs.size = s.heap.objs.size → St C s₀ W env G s' m' n → Q () s') : wpAny (MM C.w) A (storeName env x v) Q E s := by
  obtain ⟨mm, hm, hok⟩ := D.ns
  obtain ⟨u, hu⟩ := hk
  have hkl := (hok _ hu).1
  exact wpAny_storeName_local hkl hm (fun h' hn hs => h _ hs.1 (D.store _ _ U hkl hok hn hs)) (by rw [D.fn]; rfl)
theorem p_asgI {s₀ : Shared} {W : List Addr} {env : Env} {G : List (Nat × GenState)} {m : List (Str × Bnd)} {m' : Tok → List (Str × Bnd)} {n : List (Addr × Obj)} {x : Str} {i : Int} {p p' pos : Pos} {k : Nat} {Q : Flow → Shared → Prop} (D : St C s₀ W env G s m n) (U : ∀ t, Upd x (Bnd.loc (some (.int i t))) m (m' t)) (hk : ∃ u, (x, Bnd.loc u) ∈ m)
    (h : ∀ t s', s'.heap.objs.size = s.heap.objs.size → St C s₀ W env G s' (m' t) n → Q .next s') : wpAny (MM C.w) A (exec (.Assign [.Name x p] (.Constant (.int i) k p') pos) env) Q E s :=
  wpAny_Assign_Name (wpAny_Constant_int (p_stl (D.tok _ _) (U _) hk fun s' e D' => h _ s' e D')) (by with_unfolding_all rfl)
theorem p_asgB {s₀ : Shared} {W : List Addr} {env : Env} {G : List (Nat × GenState)} {m m' : List (Str × Bnd)} {n : List (Addr × Obj)} {x : Str} {b : Bool} {p p' pos : Pos} {k : Nat} {Q : Flow → Shared → Prop} (D : St C s₀ W env G s m n) (U : Upd x (Bnd.loc (some (.bool b))) m m') (hk : ∃ u, (x, Bnd.loc u) ∈ m)
    (h : ∀ s', s'.heap.objs.size = s.heap.objs.size → St C s₀ W env G s' m' n → Q .next s') : wpAny (MM C.w) A (exec (.Assign [.Name x p] (.Constant (.bool b) k p') pos) env) Q E s :=
  wpAny_Assign_Name (wpAny_Constant_bool (p_stl D U hk h)) (by with_unfolding_all rfl)
theorem p_loc {s₀ : Shared} {W : List Addr} {env : Env} {G : List (Nat × GenState)} {m : List (Str × Bnd)} {n : List (Addr × Obj)} {x : Str} {pos : Pos} {v : Value} {Q : Value → Shared → Prop} (D : St C s₀ W env G s m n) (hx : (x, Bnd.loc (some v)) ∈ m) (h : Q v s) (hd : (x == ("__debug__" : Str)) = false := by with_unfolding_all decide) :
    wpAny (MM C.w) A (eval (.Name x pos) env) Q E s := by
  obtain ⟨mm, hm, hok⟩ := D.ns
  have := hok _ hx
  exact wpAny_Name (wpAny_loadName_local D.fn this.1 hm this.2 h) hd
theorem p_glo {s₀ : Shared} {W : List Addr} {env : Env} {G : List (Nat × GenState)} {m : List (Str × Bnd)} {n : List (Addr × Obj)} {x : Str} {pos : Pos} {v : Value} {Q : Value → Shared → Prop} (D : St C s₀ W env G s m n) (hx : (x, Bnd.glo v) ∈ m) (h : Q v s) (hd : (x == ("__debug__" : Str)) = false := by with_unfolding_all decide) :
    wpAny (MM C.w) A (eval (.Name x pos) env) Q E s := by
  obtain ⟨mm, hm, hok⟩ := D.ns
  obtain ⟨hk, hg⟩ := hok _ hx
  rcases hg with e | ⟨e, hb, hn⟩
  · obtain ⟨mg, hmg, hv⟩ := nsIn_ns D.g.K e
    exact Name_function_global D.fn hk (loadGlobal_global (by rw [D.glob]; exact hmg) hv h) hd
  · obtain ⟨mg, hmg, hv⟩ := nsIn_ns D.g.K e
    obtain ⟨mb, hmb, hb'⟩ := D.g.b
    exact Name_function_global D.fn hk (loadGlobal_builtin (by rw [D.glob]; exact hmg) hv (by rw [D.bui]; exact hmb) ((hb' x hn).trans hb) h) hd
theorem ascii_ty {x : List Nat} (hx : ∀ c ∈ x, c < 128) : strIterType (strOf x) = "str_ascii_iterator" := by
  have h : (strOf x).cps.all (· < 128) = true := by
    simp only [strOf, List.all_toArray, List.all_eq_true, decide_eq_true_eq]
    exact hx
  unfold strIterType
  rw [if_pos h]
/-- enumerate of a plain text, pointwise -/
theorem p_enum {s₀ : Shared} {W : List Addr} {env : Env} {G : List (Nat × GenState)} {m : List (Str × Bnd)} {n : List (Addr × Obj)} {x : List Nat} {t : Tok} {Q : Value → Shared → Prop} (D : St C s₀ W env G s m n) (hx : ∀ c ∈ x, c < 128)
    (h : ∀ s' oi, SI (strOf x) t 0 oi → St C s₀ W env G s' m ((s.heap.objs.size + 1, enumObj s.heap.objs.size 0 .none .none) :: (s.heap.objs.size, oi) :: n) → Q (.ref (s.heap.objs.size + 1)) s') :
    wpAny (MM C.w) A (call (.type "enumerate") [.str (strOf x) t]) Q E s := by
  refine call_enumerate_str fun h' he hi hz hk => ?_
  obtain ⟨oi, ho, hc, hd⟩ := hi
  have hnone : ∀ a, s.heap.objs.size ≤ a → s.heap.get? a = none := fun a ha => by
    cases e : s.heap.get? a with
    | none => rfl
    | some o => exact absurd (Heap.lt_size e) (Nat.not_lt.mpr ha)
  have hnm : ∀ a, s.heap.objs.size ≤ a → a ∉ n.map (·.1) := fun a ha hm => by
    obtain ⟨p, hp, rfl⟩ := List.mem_map.mp hm
    have := (D.nw p hp).1
    rw [hnone _ ha] at this; cases this
  refine h _ oi ⟨by rw [hc, ascii_ty hx], hd⟩ (D.chg s.drawn s.toks [] (fun _ h => nomatch h) (fun b o _ e => hk b o e) (fun p hp => ?_) ?_)
  · rcases List.mem_cons.mp hp with rfl | hp
    · exact ⟨he, .inr (hnone _ (Nat.le_succ _))⟩
    rcases List.mem_cons.mp hp with rfl | hp
    · exact ⟨ho, .inr (hnone _ (Nat.le_refl _))⟩
    · exact ⟨hk _ _ (D.nw p hp).1, .inl (List.mem_map_of_mem hp)⟩
  · simp only [List.map_cons, List.nodup_cons, List.mem_cons, not_or]
    exact ⟨⟨Nat.succ_ne_self _, hnm _ (Nat.le_succ _)⟩, hnm _ (Nat.le_refl _), D.na⟩
theorem gen_fresh {x : List Nat} {t : Tok} {L : Addr} {its : List (Int × List Nat)} {z : Shared} (hA : Ok A 20) (hits : its = esc 0 false x) (hx : ∀ c ∈ x, c < 128)
    (D : St C z [L, z.heap.objs.size + 1, z.heap.objs.size] (genEnv L) [] z (M45 (some (.str (strOf x) t)) none none none) []) :
    Seg (MM C.w) A (RP [L, z.heap.objs.size + 1, z.heap.objs.size]) (YP C [L, z.heap.objs.size + 1, z.heap.objs.size] its) its.length z (.func f45.body (genEnv L)) ((MM C.w).den (.func f45.body (genEnv L))) [] z := by
  have hOk : Ok (A.over (.func f45.body (genEnv L)) []) 18 := over_ok0 hA rfl rfl
  refine seg_func ?_
  show Seg _ A _ _ _ z _ ((execs (gp.st :: gp.st2 :: .For gp.tg gp.itr gp.bd [] gp.ps :: gp.rest) (genEnv L)).wrap _ _ _ _) [] z
  refine seg_execs_cons (seg_wrap ?_)
  refine p_asgI (m' := fun t' => M45 (some (.str (strOf x) t)) (some (.int 0 t')) none none) D (fun _ => .tail .head) ⟨_, .tail _ (.head _)⟩ fun tp s₁ h₁ D₁ => ?_
  refine seg_execs_cons (seg_wrap ?_)
  refine p_asgB (m' := M45 (some (.str (strOf x) t)) (some (.int 0 tp)) (some (.bool false)) none) D₁ (.tail (.tail .head)) ⟨_, .tail _ (.tail _ (.head _))⟩ fun s₂ h₂ D₂ => ?_
  refine seg_execs_cons ?_
  refine g_for1 ?_ (by intro _; with_unfolding_all rfl)
  refine p_call1 ?_
  refine p_glo D₂ (.tail _ (.tail _ (.tail _ (.tail _ (.head _))))) ?_
  refine p_loc D₂ (.head _) ?_
  refine ⟨⟨.machine, .inr (.inl rfl), Looks.now⟩, ?_⟩
  refine p_enum D₂ hx fun s₃ oi hS D₃ => ?_
  rw [h₂, h₁] at D₃ ⊢
  refine wpAny_pyIter_enum (D₃.nw _ (.head _)).1 ?_
  intro p
  refine gen_loop (x := x) (t := t) (hA.le (by decide)) rfl rfl ?_ x 0 false z s₃ its.length _ _ _ oi (Nat.zero_le _) rfl (by rw [hits]) (by simp [hits]) (Nat.le_refl _) (by intro h; cases h) hS D₃
  intro z s k e vp vch oe oi hk hd hkl hvp D
  refine (show ∀ s, St C z _ (genEnv L) [] s _ _ → Seg _ A _ _ k z _ ((execs gp.rest (genEnv L)).wrap _ _ _ _) [] s from ?_) s D
  repeat' tb_start
  refine t_itb (fun he => ?_) (fun he => ?_)
  · subst he
    obtain ⟨tp', rfl⟩ := hvp rfl
    obtain rfl : k = 0 + 1 := by rw [hk]; rfl
    refine g_cons (g_yield rfl rfl rfl ?_)
    repeat' tb_start
    intro s₂ D₂
    refine y_done (env := genEnv L) (L := L) rfl (hd.trans rfl) (by lcg_sub) D₂ ?_
    intro z₃ D₃
    refine (show ∀ s, St C z₃ [L, _, _] (genEnv L) [] s _ _ → Seg (MM C.w) A _ _ _ z₃ _ _ _ s from ?_) z₃ D₃
    clear D₃
    dsimp only
    repeat' tb_start
    intro s₃ D₃
    exact seg_end (.ok (.ret .none)) ⟨rfl, rfl, D₃.x⟩
  · subst he
    obtain rfl : k = 0 := by rw [hk]; rfl
    repeat' tb_start
    intro s₃ D₃
    exact seg_end (.ok (.ret .none)) ⟨rfl, rfl, D₃.x⟩
end
section
variable {C : Cx} {A : Around} {E : Value → Shared → Prop} {s s₀ : Shared} {W : List Addr} {env : Env} {m : List (Str × Bnd)} {n n₁ : List (Addr × Obj)}
noncomputable def NsL (C : Cx) (L : Addr) (oL : Obj) (x : List Nat) (t : Tok) : Prop := ∀ s : Shared, s.heap.get? L = some oL → ∃ mm, s.heap.Ns L mm ∧ ∀ p ∈ M45 (some (.str (strOf x) t)) none none none, p.2.Ok C (genEnv L) mm p.1
noncomputable def GI (C : Cx) (A : Around) (x : List Nat) (t : Tok) (L : Addr) (k : Nat) (gs : GenState) (I : List (Addr × Obj)) : Prop :=
  (gs = .fresh (.func f45.body (genEnv L)) ∧ k = (esc 0 false x).length ∧ ∃ oL, I = [(L, oL)] ∧ NsL C L oL x t) ∨
  ((∃ en it o1 o2 o3, I = [(L, o1), (en, o2), (it, o3)]) ∧ gs.bare = true ∧ ∀ s'' : Shared, (∀ p ∈ I, s''.heap.get? p.1 = some p.2) → Gd C s''.heap →
    gs.Goes (MM C.w) A.in1 (RP (I.map (·.1))) (YP C (I.map (·.1)) (esc 0 false x)) k (.send .none) s'')

theorem gens_set {g : Nat} {gs : GenState} {s : Shared} {g' : Nat} : (s.setGen g gs).gens[g']? = if g' = g then (if g < s.gens.size then some gs else none) else s.gens[g']? := by
  show (s.gens.setIfInBounds g gs)[g']? = _
  rw [Array.getElem?_setIfInBounds]
  by_cases h : g' = g
  · subst h; simp
  · rw [if_neg (fun e => h e.symm), if_neg h]
theorem bare_set {g : Nat} {gs : GenState} {s : Shared} (h : AllBare s.gens) (hb : gs.bare = true) : AllBare (s.setGen g gs).gens := by
  intro y hy
  obtain ⟨i, hi, e⟩ := Array.mem_iff_getElem.mp hy
  have e' : (s.setGen g gs).gens[i]? = some y := by rw [Array.getElem?_eq_getElem hi, e]
  rw [gens_set] at e'
  split at e'
  · split at e'
    · cases e'; exact hb
    · cases e'
  · exact h y (Array.mem_of_getElem? e')

/-- the waker's side behind a turn of the generator -/
theorem gen_after {g : Nat} {gs gs' : GenState} {own : List Addr} {s₁ : Shared} {n' : List (Addr × Obj)} {G' : List (Nat × GenState)} (D : St C s₀ W env [(g, gs)] s m n) (hown : ∀ b ∈ own, b ∈ n.map (·.1) ∨ s.heap.get? b = none)
    (X : Ext own (s.setGen g .running) s₁) (hb : gs'.bare = true) (hn : ∀ p ∈ n', s₁.heap.get? p.1 = some p.2 ∧ (p.1 ∈ n.map (·.1) ∨ s.heap.get? p.1 = none)) (nd : (n'.map (·.1)).Nodup) (hG : G' = [(g, gs')] ∨ G' = [])
    {h' : Heap} (hk : ∀ b o, s₁.heap.get? b = some o → h'.get? b = some o) :
    St C s₀ W env G' { s₁.setGen g gs' with heap := h' } m n' := by
  have hg := (D.gn _ (.head _))
  have hLt : ∃ o, s.heap.get? env.locals = some o := by obtain ⟨mm, ⟨o, es, ep, e, r⟩, _⟩ := D.ns; exact ⟨o, e⟩
  have hlt : g < s.gens.size := (Array.getElem?_eq_some_iff.mp hg.1).1
  have hin : ∀ b, b ∈ n.map (·.1) ∨ s.heap.get? b = none → b ≠ env.locals ∧ (b ∈ W ∨ s₀.heap.get? b = none) := fun b hb => by
    rcases hb with h | h
    · obtain ⟨p, hp, rfl⟩ := List.mem_map.mp h
      exact (D.nw p hp).2
    · refine ⟨?_, D.newAt h⟩
      rintro rfl
      obtain ⟨o, ho⟩ := hLt
      rw [ho] at h; cases h
  have hrun : s₁.gens[g]? = some .running := X.gens g _ (by rw [gens_set, if_pos rfl, if_pos hlt])
  have hlt1 : g < s₁.gens.size := (Array.getElem?_eq_some_iff.mp hrun).1
  refine ⟨D.g0, ⟨fun b o hbW e => ?_, fun g' gs'' e => ?_, fun h => ?_, ?_⟩, D.dyn, D.fn, D.glob, D.bui, ?_, D.hL, D.nd, fun p hp => ⟨hk _ _ (hn p hp).1, hin _ (hn p hp).2⟩, nd, ?_⟩
  · refine hk _ _ (X.keep b o (fun q => ?_) (D.x.keep b o hbW e))
    rcases (hin b (hown b q)).2 with h | h
    · exact hbW h
    · rw [h] at e; cases e
  · have hne : g' ≠ g := by rintro rfl; rw [hg.2] at e; cases e
    show (s₁.setGen g gs').gens[g']? = _
    rw [gens_set, if_neg hne]
    refine X.gens g' _ ?_
    rw [gens_set, if_neg hne]
    exact D.x.gens g' _ e
  · exact bare_set (X.bare (bare_set (D.x.bare h) rfl)) hb
  · exact X.os.trans D.x.os
  · obtain ⟨mm, hm, hok⟩ := D.ns
    refine ⟨mm, ns_at hm fun o e => hk _ _ (X.keep _ o (fun q => (hin _ (hown _ q)).1 rfl) e), hok⟩
  · intro p hp
    rcases hG with rfl | rfl
    · obtain rfl := List.mem_singleton.mp hp
      refine ⟨?_, hg.2⟩
      show (s₁.setGen g gs').gens[g]? = _
      rw [gens_set, if_pos rfl, if_pos hlt1]
    · cases hp
noncomputable def GenO (g : Nat) (o : Obj) : Prop := ∃ nm qn, o.cls = .type "generator" ∧ o.data = .fields #[.int g 0, nm, qn] ∧ o.slots = #[]
theorem Ok.in1 {k : Nat} (h : Ok A (k + 1)) : Ok A.in1 k := ⟨h.hh, by have := h.d; show A.depth + k < _; omega, by have := h.u; show A.units + 1 + 10 * k < _; omega, h.fr⟩
theorem gi_goes {x : List Nat} {t : Tok} {L a : Addr} {k g : Nat} {gs : GenState} {I : List (Addr × Obj)} {ga : Obj} (hA : Ok A 21) (hx : ∀ c ∈ x, c < 128) (hI : GI C A x t L k gs I) (D : St C s₀ W env [(g, gs)] s m (I ++ (a, ga) :: n₁)) :
    ∃ L en it, [L, en, it].Nodup ∧ (∀ b ∈ [L, en, it], b ∈ I.map (·.1) ∨ s.heap.get? b = none) ∧ gs.Goes (MM C.w) A.in1 (RP [L, en, it]) (YP C [L, en, it] (esc 0 false x)) k (.send .none) (s.setGen g .running) := by
  rcases hI with ⟨rfl, rfl, oL, rfl, hL⟩ | ⟨⟨en, it, o1, o2, o3, rfl⟩, _, h⟩
  · have hLn := D.nw (L, oL) (.head _)
    have hne : L ≠ s.heap.objs.size := by
      intro e
      have := hLn.1
      rw [e, get_size] at this; cases this
    have hnone : s.heap.get? (s.heap.objs.size + 1) = none := by
      cases e : s.heap.get? (s.heap.objs.size + 1) with
      | none => rfl
      | some o => exact absurd (Heap.lt_size e) (Nat.not_lt.mpr (Nat.le_succ _))
    have hne2 : L ≠ s.heap.objs.size + 1 := by
      intro e
      have := hLn.1
      rw [e, hnone] at this; cases this
    refine ⟨L, s.heap.objs.size + 1, s.heap.objs.size, by simp [hne, hne2], ?_, rfl, ?_⟩
    · intro b hb
      simp only [List.mem_cons, List.not_mem_nil, or_false] at hb
      rcases hb with rfl | rfl | rfl
      · exact .inl (.head _)
      · exact .inr hnone
      · exact .inr (get_size _)
    · refine gen_fresh (A := A.in1) (z := s.setGen g .running) (t := t) hA.in1 rfl hx ⟨D.g, Ext.refl _ _, ?_, f45.hk, f45.hg, f45.hb, hL _ hLn.1, .inl (.head _), by rw [(mi45 C.w).keys]; exact f45.hn, fun _ h => (nomatch h), .nil, fun _ h => (nomatch h)⟩
      intro b hb
      simp only [List.mem_cons, List.not_mem_nil, or_false] at hb
      rcases hb with rfl | rfl | rfl
      · rcases hLn.2.2 with h | h
        · exact D.dyn _ h
        · exact D.g0.dyn h
      · exact D.g.dyn hnone
      · exact D.g.dyn (get_size _)
  · have hn := D.na
    have hs : ([(L, o1), (en, o2), (it, o3)] : List (Addr × Obj)).Sublist ([(L, o1), (en, o2), (it, o3)] ++ (a, ga) :: n₁) := List.sublist_append_left _ _
    refine ⟨L, en, it, (show ([(L, o1), (en, o2), (it, o3)].map (·.1)).Nodup from hn.sublist (hs.map _)), fun b hb => .inl hb, h _ (fun p hp => (D.nw p (hs.subset hp)).1) D.g⟩

theorem map3 {α β : Type} {a b c : α} : ∀ {l : List (α × β)}, l.map (·.1) = [a, b, c] → ∃ x y z, l = [(a, x), (b, y), (c, z)]
  | [(_, x), (_, y), (_, z)], h => by
    simp only [List.map_cons, List.map_nil, List.cons.injEq, and_true] at h
    obtain ⟨rfl, rfl, rfl⟩ := h
    exact ⟨x, y, z, rfl⟩
theorem gen_next {x : List Nat} {t : Tok} {L a : Addr} {k g : Nat} {gs : GenState} {I : List (Addr × Obj)} {ga : Obj} {Q : Option Value → Shared → Prop} (hA : Ok A 21) (hx : ∀ c ∈ x, c < 128) (hga : GenO g ga) (hI : GI C A x t L k gs I)
    (D : St C s₀ W env [(g, gs)] s m (I ++ (a, ga) :: n₁)) (hend : k = 0 → ∀ s', St C s₀ W env [] s' m n₁ → Q none s')
    (hitem : ∀ k' i l rest T t1 u gs' L en it o1 o2 o3 s', k = k' + 1 → (esc 0 false x).drop ((esc 0 false x).length - k) = (i, l) :: rest → GI C A x t L k' gs' [(L, o1), (en, o2), (it, o3)] →
      St C s₀ W env [(g, gs')] s' m ((T, tupObj [.int i t1, .str (strOf l) u]) :: (L, o1) :: (en, o2) :: (it, o3) :: (a, ga) :: n₁) → Q (some (.ref T)) s') :
    wpAny (MM C.w) A (pyNext (.ref a)) Q E s := by
  obtain ⟨L, en, it, hnd, hown, hgo⟩ := gi_goes hA hx hI D
  obtain ⟨nm, qn, hc, hd, hsl⟩ := hga
  have hga : GenO g ga := ⟨nm, qn, hc, hd, hsl⟩
  have hown' : ∀ b ∈ [L, en, it], b ∈ (I ++ (a, ga) :: n₁).map (·.1) ∨ s.heap.get? b = none := fun b hb => (hown b hb).imp_left fun h => by rw [List.map_append]; exact List.mem_append_left _ h
  have hout : ∀ p ∈ (a, ga) :: n₁, p.1 ∉ [L, en, it] := fun p hp hq => by
    have hp' : p ∈ I ++ (a, ga) :: n₁ := List.mem_append_right _ hp
    rcases hown _ hq with h | h
    · have := D.na
      rw [List.map_append, List.nodup_append] at this
      exact this.2.2 _ h _ (List.mem_map_of_mem hp) rfl
    · rw [(D.nw p hp').1] at h; cases h
  have hna : (((a, ga) :: n₁).map (·.1)).Nodup := D.na.sublist ((List.sublist_append_right _ _).map _)
  have hd' : A.depth < recursionLimit := by have := hA.d; omega
  refine next_gen (P := fun n z s₁ => n = 0 ∧ Ext [L, en, it] z s₁) hA.hh D.nolim hd' (g := g) (gs := gs) (n := k) ⟨ga, nm, qn, (D.nw (a, ga) (List.mem_append_right _ (.head _))).1, hc, hd, hsl⟩ (D.gn _ (.head _)).1 hgo ?_ ?_
  · intro v s₁ gs' hb hy
    obtain ⟨i, l, rest, T, t1, u, pr, hdr, rfl, hpr, hprs, hT, hTz, hTo, X, hk⟩ := hy
    cases k with
    | zero =>
      refine (hk s₁ hprs (D.g.keeps fun b o nd e => X.keep b o (fun q => nd ?_) e)).elim
      rcases hown' b q with h | h
      · obtain ⟨p, hp, rfl⟩ := List.mem_map.mp h
        rcases (D.nw p hp).2.2 with h | h
        · exact D.dyn _ h
        · exact D.g0.dyn h
      · exact D.g.dyn h
    | succ k' =>
      obtain ⟨o1, o2, o3, rfl⟩ := map3 hpr
      refine hitem k' i l rest T t1 u gs' _ _ _ o1 o2 o3 _ rfl hdr (.inr ⟨⟨_, _, _, _, _, rfl⟩, hb, fun s'' h1 h2 => hk s'' h1 h2⟩) ?_
      refine gen_after D hown' X hb ?_ ?_ (.inl rfl) (fun b o e => e)
      · intro p hp
        rcases List.mem_cons.mp hp with rfl | hp
        · exact ⟨hT, .inr hTz⟩
        by_cases hq : p ∈ [(L, o1), (en, o2), (it, o3)]
        · exact ⟨hprs p hq, hown' p.1 (List.mem_map_of_mem (f := (·.1)) hq)⟩
        · have hp' : p ∈ (a, ga) :: n₁ := by
            simp only [List.mem_cons, List.not_mem_nil, or_false, not_or] at hp hq ⊢
            rcases hp with h | h | h | h
            · exact absurd h hq.1
            · exact absurd h hq.2.1
            · exact absurd h hq.2.2
            · exact h
          have hp2 : p ∈ I ++ (a, ga) :: n₁ := List.mem_append_right _ hp'
          exact ⟨X.keep _ _ (hout p hp') (D.nw p hp2).1, .inl (List.mem_map_of_mem hp2)⟩
      · have hTn : T ∉ ((a, ga) :: n₁).map (·.1) := fun hm => by
          obtain ⟨p, hp, e⟩ := List.mem_map.mp hm
          have := (D.nw p (List.mem_append_right _ hp)).1
          rw [e] at this
          rw [show (s.setGen g .running).heap = s.heap from rfl, this] at hTz; cases hTz
        have hdis : ∀ b ∈ [L, en, it], b ∉ ((a, ga) :: n₁).map (·.1) := fun b hb hm => by
          obtain ⟨p, hp, e⟩ := List.mem_map.mp hm
          exact hout p hp (e ▸ hb)
        simp only [List.nodup_cons, List.mem_cons, List.not_mem_nil, or_false, not_or, not_false_eq_true, List.nodup_nil, and_true] at hnd hTo
        simp only [List.map_cons, List.mem_cons, List.not_mem_nil, or_false, not_or, forall_eq_or_imp, forall_eq] at hTn hdis
        simp only [List.map_cons, List.nodup_cons, List.mem_cons, not_or] at hna ⊢
        exact ⟨⟨hTo.1, hTo.2.1, hTo.2.2, hTn⟩, ⟨hnd.1.1, hnd.1.2, hdis.1⟩, ⟨hnd.2, hdis.2.1⟩, hdis.2.2, hna⟩
  · rintro s₁ ⟨rfl, X⟩ h' hk
    refine hend rfl _ (gen_after D hown' X rfl (fun p hp => ?_) (List.nodup_cons.mp hna).2 (.inr rfl) hk)
    have hp2 : p ∈ I ++ (a, ga) :: n₁ := List.mem_append_right _ (.tail _ hp)
    exact ⟨X.keep _ _ (hout p (.tail _ hp)) (D.nw p hp2).1, .inl (List.mem_map_of_mem hp2)⟩
end
inductive GInv (C : Cx) (A : Around) (x : List Nat) (t : Tok) (s₀ : Shared) (W : List Addr) (env : Env) (g : Nat) (a : Addr) (ga : Obj) (J : Nat → List (Str × Bnd) → List (Addr × Obj) → Prop) (k : Nat) (s' : Shared) : Prop
  | mk (L : Addr) (i : Nat) (m₁ : List (Str × Bnd)) (n₁ : List (Addr × Obj)) (gs : GenState) (I : List (Addr × Obj)) (_ : k + i = (esc 0 false x).length) (_ : J i m₁ n₁) (_ : GI C A x t L k gs I) (_ : St C s₀ W env [(g, gs)] s' m₁ (I ++ (a, ga) :: n₁))
section
variable {C : Cx} {A : Around} {E : Value → Shared → Prop} {s₀ : Shared} {W : List Addr} {env : Env} {m : List (Str × Bnd)} {n : List (Addr × Obj)}
theorem St.gpush {s : Shared} (D : St C s₀ W env [] s m n) {gs : GenState} (hb : gs.bare = true) : St C s₀ W env [(s.gens.size, gs)] { s with gens := s.gens.push gs } m n := by
  have hk : ∀ (g : Nat) (y : GenState), s.gens[g]? = some y → (s.gens.push gs)[g]? = some y := fun g y e => by
    have hlt := (Array.getElem?_eq_some_iff.mp e).1
    rw [Array.getElem?_push, if_neg (Nat.ne_of_lt hlt)]; exact e
  refine ⟨D.g0, ⟨D.x.keep, fun g y e => hk _ _ (D.x.gens g y e), fun h => ?_, D.x.os⟩, D.dyn, D.fn, D.glob, D.bui, D.ns, D.hL, D.nd, D.nw, D.na, fun p hp => ?_⟩
  · intro y hy
    rcases Array.mem_push.mp hy with h' | h'
    · exact D.x.bare h y h'
    · rw [h']; exact hb
  · obtain rfl := List.mem_singleton.mp hp
    refine ⟨Array.getElem?_push_size .., ?_⟩
    cases e : s₀.gens[s.gens.size]? with
    | none => rfl
    | some y => exact absurd (Array.getElem?_eq_some_iff.mp (D.x.gens _ _ e)).1 (Nat.lt_irrefl _)
theorem t_genCall {x : List Nat} {t : Tok} {Q : Value → Shared → Prop} (hA : Ok A 1)
    (h : ∀ a L g oL ga, GenO g ga → NsL C L oL x t → ∀ s, St C s₀ W env [(g, .fresh (.func f45.body (genEnv L)))] s m ((L, oL) :: (a, ga) :: n) → Q (.ref a) s) :
    ∀ s, St C s₀ W env [] s m n → wpAny (MM C.w) A (call (.ref 45) [.str (strOf x) t] []) Q E s := fun s D => by
  refine wpAny_call (codeAny_call_generator (fd := f45.fd) (body := f45.body) (by have := hA.d; omega) (D.g.K _ _ (f45.ho C.w)) rfl f45.hco (by rfl) f45.hbody (codeRec_of D.g.K (f45.hcode C.w)) ?_)
  have hcell : ∀ y ∈ f45.fd.scope.names, y.2 ≠ .cell := fun y hy => by
    have h : f45.fd.scope.names.all (fun x => x.2 != .cell) = true := by decide +kernel
    simpa using List.all_eq_true.mp h y hy
  have hbind : BindsTo s f45.fd ⟨[.str (strOf x) t], []⟩ [("addr", .str (strOf x) t)] := .of_eq (by kernel_rfl)
  refine hbind _ _ _ _ (wpAny_newFunctionEnv hcell hl45 (fun h' hns hs => ?_) f45.hk)
  have hk : ∀ b o, s.heap.get? b = some o → h'.get? b = some o := fun b o e => hs.extBut b o (Nat.ne_of_lt (Heap.lt_size e)) (Heap.get?_push_of_some _ e)
  obtain ⟨oL, es, ep, e, r⟩ := hns
  have D1 := D.more (h' := h') s.drawn (s.toks + 1) hk (get_size _) e
  have D2 := (D1.push { cls := .type "generator", data := .fields #[.int s.gens.size 0, .str f45.fd.name (s.toks + 1), .str f45.fd.qualname (s.toks + 1 + 1)] } s.drawn (s.toks + 1 + 1 + 1) rfl).gpush (gs := .fresh (.func f45.body (genEnv s.heap.objs.size))) rfl
  refine ⟨D1.nolim, h _ _ _ oL _ ⟨_, _, rfl, rfl, rfl⟩ (fun s' e' => ⟨_, ⟨oL, es, ep, e', r⟩, fun p hp => ?_⟩) _ (D2.perm (List.Perm.swap _ _ _))⟩
  have := (mi45 C.w).get p hp
  cases hb : p.2 with
  | loc v => rw [hb] at this; exact ⟨lookup_of_mem f45.hn this.1, this.2⟩
  | glo v => rw [hb] at this; exact ⟨lookup_of_mem f45.hn this.1, this.2⟩
  | cel c => rw [hb] at this; exact this.elim
  | unk => trivial

theorem t_forGen {target : Expr} {body orelse : List Stmt} {x : List Nat} {t : Tok} {Q : Flow → Shared → Prop} (J : Nat → List (Str × Bnd) → List (Addr × Obj) → Prop) (hA : Ok A 25) (hx : ∀ c ∈ x, c < 128) (h0 : J 0 m n)
    (turn : ∀ i p l m₁ n₁ T t1 u L en it o1 o2 o3 a ga g gs E', (esc 0 false x)[i]? = some (p, l) → J i m₁ n₁ → ∀ s, St C s₀ W env [(g, gs)] s m₁ ((T, tupObj [.int p t1, .str (strOf l) u]) :: (L, o1) :: (en, o2) :: (it, o3) :: (a, ga) :: n₁) →
      wpAny (MM C.w) A (assign target env (.ref T)) (KBd C A env E' body (TurnP C s₀ W env [(g, gs)] (J (i + 1)) [(L, o1), (en, o2), (it, o3), (a, ga)] Q)) E' s)
    (done : ∀ m₁ n₁ E', J (esc 0 false x).length m₁ n₁ → ∀ s, St C s₀ W env [] s m₁ n₁ → wpAny (MM C.w) A (execs orelse env) Q E' s) :
    ∀ s, St C s₀ W env [] s m n → wpAny (MM C.w) A (call (.ref 45) [.str (strOf x) t] []) (KF1 C A env E target body orelse Q) E s := by
  refine t_genCall (hA.le (by decide)) ?_
  intro a L g oL ga hga hL s D
  obtain ⟨nm, qn, hc, hd, hsl⟩ := hga
  have hga : GenO g ga := ⟨nm, qn, hc, hd, hsl⟩
  refine wpAny_pyIter_gen (g := g) ⟨ga, nm, qn, (D.nw (a, ga) (.tail _ (.head _))).1, hc, hd, hsl⟩ ?_
  refine codeAny_forLoop_any (GInv C A x t s₀ W env g a ga J) ?_ (esc 0 false x).length
    ⟨L, 0, m, n, _, _, rfl, h0, .inl ⟨rfl, rfl, oL, rfl, hL⟩, D⟩
  rintro k s' ⟨L, i, m₁, n₁, gs, I, hk, hJ, hI, D'⟩
  refine gen_next (hA.le (by decide)) hx hga hI D' ?_ ?_
  · rintro rfl s'' D''
    obtain rfl : i = (esc 0 false x).length := by omega
    exact done m₁ n₁ _ hJ _ D''
  · intro k' p l rest T t1 u gs' L' en it o1 o2 o3 s'' hk' hdr hI' D''
    refine letOwned_other (D''.nw (a, ga) (by simp)).1 hc (by decide) ?_
    have hx' : (esc 0 false x)[i]? = some (p, l) := by
      have e : (esc 0 false x).length - k = i := by omega
      rw [e] at hdr
      rw [← List.head?_drop, hdr]; rfl
    refine wpAny_mono (turn i p l m₁ n₁ T t1 u L' en it o1 o2 o3 a ga g gs' _ hx' hJ _ D'') (fun _ s₂ h₂ => wpAny_mono h₂ (fun f s₃ h₃ => ?_) fun _ _ e => e) fun _ _ e => e
    have fin : CT C s₀ W env [(g, gs')] (J (i + 1)) [(L', o1), (en, o2), (it, o3), (a, ga)] s₃ → ∃ k', k' < k ∧ GInv C A x t s₀ W env g a ga J k' s₃ := fun ⟨m₂, n₂, hJ2, D3⟩ =>
      ⟨k', by omega, L', i + 1, m₂, n₂, gs', _, by omega, hJ2, hI', D3⟩
    cases f with
    | next => exact fin h₃
    | cont => exact fin h₃
    | brk => exact h₃
    | ret v => exact h₃
end
noncomputable def sst (x : List Nat) : (Int × Option Int × List (List Nat)) → (Int × List Nat) → (Int × Option Int × List (List Nat))
  | (st, op, res), (p, l) => if l = [34] then (match op with
    | none => (st, some p, res)
    | some o => (p + 1, none, if st ≠ o then res ++ [slc x (some st) (some o)] else res)) else (st, op, res)
noncomputable def stripF (x : List Nat) : List Nat :=
  if 34 ∈ x then
    (if ((esc 0 false x).foldl (sst x) (0, none, [])).1 < x.length then ((esc 0 false x).foldl (sst x) (0, none, [])).2.2 ++ [slc x (some ((esc 0 false x).foldl (sst x) (0, none, [])).1) none]
      else ((esc 0 false x).foldl (sst x) (0, none, [])).2.2).flatten
  else x
noncomputable def VO : Option Int → Value → Prop
  | none, v => v = .none
  | some i, v => ∃ t, v = .int i t
theorem foldl_take {α β : Type} (f : β → α → β) (b : β) {l : List α} {i : Nat} {a : α} (h : l[i]? = some a) : (l.take (i + 1)).foldl f b = f ((l.take i).foldl f b) a := by
  rw [List.take_add_one, h, List.foldl_append]; rfl
theorem esc_len : ∀ (cs : List Nat) (i : Nat) (e : Bool), (esc i e cs).length ≤ cs.length + (if e then 1 else 0)
  | [], i, e => by cases e <;> simp [esc]
  | c :: cs, i, true => by have := esc_len cs (i + 1) false; simp only [esc, List.length_cons] at this ⊢; simp at this ⊢; omega
  | c :: cs, i, false => by
    simp only [esc]
    split
    · have := esc_len cs (i + 1) true; simp at this ⊢; omega
    · have := esc_len cs (i + 1) false; simp at this ⊢; omega
section
variable {C : Cx} {s₀ : Shared} {W : List Addr} {env : Env} {A : Around} {E : Value → Shared → Prop} {m m' : List (Str × Bnd)} {n n' : List (Addr × Obj)}
set_option profiler true in
set_option profiler.threshold 400 in
inductive I14 (x : List Nat) (t : Tok) (re : Addr) (i : Nat) (r : Int × Option Int × List (List Nat)) (m₁ : List (Str × Bnd)) (n₁ : List (Addr × Obj)) : Prop
  | mk (ts : Tok) (vo : Value) (vp vc : Option Value) (ws : List Value) (e' : Nat) (_ : m₁ = M52 (some (.str (strOf x) t)) (some (.int r.1 ts)) (some vo) (some (.ref re)) vp vc) (_ : n₁ = [(re, listObj ws e')]) (_ : VO r.2.1 vo) (_ : SL ws r.2.2) (_ : r.2.2.length ≤ i) (_ : ∀ y ∈ r.2.2, y.length ≤ x.length)
theorem s_strip {x : List Nat} {t : Tok} {Q : Value → Shared → Prop} {G : List (Nat × GenState)} (hA : Ok A 40) (hx : ∀ c ∈ x, c < 128) (hl : x.length ≤ 900)
    (h : ∀ t, ∀ s, St C s₀ W env G s m n → Q (.str (strOf (stripF x)) t) s) :
    ∀ s, St C s₀ W env G s m n → wpAny (MM C.w) A (call (.ref 52) [.str (strOf x) t] []) Q E s := by
  intro s D
  refine e52 [] D (hA.le (by decide) : Ok A (39 + 1)) (by kqd_all) .nil ?_
  intro L E'
  have hA' : Ok (A.deeper (fnEnv f52.fd 52 L)) 30 := (hA.le (by decide) : Ok A (30 + 1)).deeper
  generalize (A.deeper (fnEnv f52.fd 52 L)) = A' at hA' ⊢
  repeat' tb_start
  refine t_itb (fun hq => ?_) (fun hq => ?_)
  · have hq : 34 ∉ x := by simpa using hq
    repeat' tb_start
    intro s₂ D₂
    have := h t s₂ (D.back (R := []) (n₁ := []) D₂ (by kqd_all) (by lcg_sub))
    rw [stripF, if_neg hq] at this
    exact this
  · have hq : 34 ∈ x := by simpa using hq
    repeat' tb_start
    rename_i tz re
    refine t_forGen (fun i => I14 x t re i (((esc 0 false x).take i).foldl (sst x) (0, none, []))) (hA'.le (by decide)) hx ?_ ?_ ?_
    · exact ⟨_, _, _, _, [], 0, rfl, rfl, rfl, .nil, by simp, by simp⟩
    · rintro i p l m₁ n₁ T t1 u L2 en it o1 o2 o3 a ga g gs E' hi ⟨ts, vo, vp, vc, ws, e', rfl, rfl, hvo, hws, hwl, hwb⟩
      rw [foldl_take _ _ hi]
      revert hvo hws hwl hwb
      generalize ((esc 0 false x).take i).foldl (sst x) (0, none, []) = r
      obtain ⟨st, op, res⟩ := r
      intro hvo hws hwl hwb
      dsimp only at hvo hws hwl hwb ⊢
      repeat' tb_start
      refine t_itb (fun hq => ?_) (fun hq => ?_)
      · have hq : l = [34] := by simpa using hq
        subst hq
        cases op with
        | none =>
          obtain rfl := hvo
          repeat' tb_start
          intro s₂ D₂
          exact ⟨_, _, ⟨_, _, _, _, _, _, rfl, rfl, ⟨_, rfl⟩, hws, Nat.le_succ_of_le hwl, hwb⟩, D₂.sub (by lcg_sub)⟩
        | some o =>
          obtain ⟨to, rfl⟩ := hvo
          repeat' tb_start
          refine t_itb (fun hne => ?_) (fun hne => ?_)
          · have hne : st ≠ o := by simpa using hne
            repeat' tb_start
            refine c_append (by news_at) (by tb_rel) ?_ ?_
            · have := hws.length; have := (List.getElem?_eq_some_iff.mp hi).1; have := esc_len x 0 false; rw [sizeLine_eq]; simp at this; omega
            repeat' tb_start
            intro s₂ D₂
            have e : sst x (st, some o, res) (p, [34]) = (p + 1, none, res ++ [slc x (some st) (some o)]) := by simp [sst, hne]
            rw [e]
            exact ⟨_, _, ⟨_, _, _, _, _, _, rfl, rfl, rfl, hws.snoc _ _, by simp; omega, by
              intro r hr
              rcases List.mem_append.mp hr with hr | hr
              · exact hwb r hr
              · rw [List.mem_singleton.mp hr]; exact slc_len ..⟩, D₂.sub (by lcg_sub)⟩
          · have hne : st = o := by simpa using hne
            repeat' tb_start
            intro s₂ D₂
            have e : sst x (st, some o, res) (p, [34]) = (p + 1, none, res) := by simp [sst, hne]
            rw [e]
            exact ⟨_, _, ⟨_, _, _, _, _, _, rfl, rfl, rfl, hws, Nat.le_succ_of_le hwl, hwb⟩, D₂.sub (by lcg_sub)⟩
      · have hq : l ≠ [34] := by simpa using hq
        repeat' tb_start
        intro s₂ D₂
        have e : sst x (st, op, res) (p, l) = (st, op, res) := by simp [sst, hq]
        rw [e]
        exact ⟨_, _, ⟨_, _, _, _, _, _, rfl, rfl, hvo, hws, Nat.le_succ_of_le hwl, hwb⟩, D₂.sub (by lcg_sub)⟩
    · rintro m₁ n₁ E' ⟨ts, vo, vp, vc, ws, e', rfl, rfl, hvo, hws, hwl, hwb⟩
      rw [List.take_length] at hvo hws hwl hwb ⊢
      have hel := esc_len x 0 false
      simp only [Bool.false_eq_true, if_false, Nat.add_zero] at hel
      have hsum := sum_le (c := 900) _ (fun r hr => Nat.le_trans (hwb r hr) hl)
      repeat' tb_start
      refine t_itb (fun hlt => ?_) (fun hlt => ?_)
      · have hlt := of_decide_eq_true hlt
        repeat' tb_start
        refine c_append (by news_at) (by tb_rel) ?_ ?_
        · rw [hws.length, sizeLine_eq]; omega
        repeat' tb_start
        refine c_join (by news_at) (hws.snoc _ _) (by decide) ?_ ?_
        · have := slc_len x (some ((esc 0 false x).foldl (sst x) (0, none, [])).1) none
          simp only [List.map_append, List.sum_append, List.map_cons, List.map_nil, List.sum_cons, List.sum_nil, List.length_append, List.length_cons, List.length_nil]
          omega
        intro t'
        repeat' tb_start
        intro s₂ D₂
        have := h t' s₂ (D.back (R := []) (n₁ := []) (D₂.sub (List.nil_sublist _)) (by kqd_all) (by lcg_sub))
        rw [joinL_nil]
        rw [stripF, if_pos hq, if_pos hlt] at this
        exact this
      · have hlt := of_decide_eq_false hlt
        repeat' tb_start
        refine c_join (by news_at) hws (by decide) ?_ ?_
        · clear hwb hvo hws h D hx hlt; omega
        intro t'
        repeat' tb_start
        intro s₂ D₂
        have := h t' s₂ (D.back (R := []) (n₁ := []) (D₂.sub (List.nil_sublist _)) (by kqd_all) (by lcg_sub))
        rw [joinL_nil]
        rw [stripF, if_pos hq, if_neg hlt] at this
        exact this
end
theorem slc_mem {x : List Nat} {i j : Option Int} {c : Nat} (h : c ∈ slc x i j) : c ∈ x := by
  unfold slc Txt.slice at h
  split at h
  · simpa [strOf] using h
  · simp only [List.mem_filterMap] at h
    obtain ⟨k, _, hk⟩ := h
    have : (strOf x).cps[k]? = x[k]? := by simp [strOf]
    rw [this] at hk
    exact List.mem_of_getElem? hk
theorem sst_mem {x : List Nat} : ∀ (its : List (Int × List Nat)) (r : Int × Option Int × List (List Nat)), (∀ y ∈ r.2.2, ∀ c ∈ y, c ∈ x) → ∀ y ∈ (its.foldl (sst x) r).2.2, ∀ c ∈ y, c ∈ x
  | [], r, h => h
  | (p, l) :: its, (st, op, res), h => by
    refine sst_mem its _ ?_
    dsimp only at h
    unfold sst
    dsimp only
    split
    · cases op with
      | none => exact h
      | some o =>
        dsimp only
        split
        · intro y hy c hc
          rcases List.mem_append.mp hy with hy | hy
          · exact h y hy c hc
          · rw [List.mem_singleton.mp hy] at hc; exact slc_mem hc
        · exact h
    · exact h
theorem strip_mem {x : List Nat} {c : Nat} (h : c ∈ stripF x) : c ∈ x := by
  unfold stripF at h
  split at h
  · obtain ⟨y, hy, hc⟩ := List.mem_flatten.mp h
    have key := sst_mem (x := x) (esc 0 false x) (0, none, []) (by simp)
    split at hy
    · rcases List.mem_append.mp hy with hy | hy
      · exact key y hy c hc
      · rw [List.mem_singleton.mp hy] at hc; exact slc_mem hc
    · exact key y hy c hc
  · exact h
noncomputable def chk : Int → List (Int × List Nat) → Bool
  | o, [] => o == 0
  | o, (_, l) :: r => if l = [40] then chk (o + 1) r else if l = [41] then (if o - 1 < 0 then false else chk (o - 1) r) else chk o r
noncomputable def checkF (x : List Nat) : Bool := chk 0 (esc 0 false (stripF x))
section
variable {C : Cx} {s₀ : Shared} {W : List Addr} {env : Env} {A : Around} {E : Value → Shared → Prop} {m m' : List (Str × Bnd)} {n n' : List (Addr × Obj)}
inductive I15 (x : List Nat) (t' : Tok) (i : Nat) (m₁ : List (Str × Bnd)) (n₁ : List (Addr × Obj)) : Prop
  | mk (o : Int) (to : Tok) (vp vc : Option Value) (_ : m₁ = M59 (some (.str (strOf (stripF x)) t')) (some (.int o to)) vp vc) (_ : n₁ = []) (_ : chk o ((esc 0 false (stripF x)).drop i) = checkF x)
theorem s_check {x : List Nat} {t : Tok} {Q : Value → Shared → Prop} {G : List (Nat × GenState)} (hA : Ok A 50) (hx : ∀ c ∈ x, c < 128) (hl : x.length ≤ 900)
    (h : ∀ s, St C s₀ W env G s m n → Q (.bool (checkF x)) s) :
    ∀ s, St C s₀ W env G s m n → wpAny (MM C.w) A (call (.ref 59) [.str (strOf x) t] []) Q E s := by
  intro s D
  refine e59 [] D (hA.le (by decide) : Ok A (49 + 1)) (by kqd_all) .nil ?_
  intro L E'
  have hA' : Ok (A.deeper (fnEnv f59.fd 59 L)) 40 := (hA.le (by decide) : Ok A (40 + 1)).deeper
  generalize (A.deeper (fnEnv f59.fd 59 L)) = A' at hA' ⊢
  have hx' : ∀ c ∈ stripF x, c < 128 := fun c hc => hx c (strip_mem hc)
  repeat' tb_start
  refine s_strip hA' hx hl ?_
  intro t'
  repeat' tb_start
  refine t_forGen (I15 x t') (hA'.le (by decide)) hx' ?_ ?_ ?_
  · exact ⟨_, _, _, _, rfl, rfl, rfl⟩
  · rintro i p l m₁ n₁ T t1 u L2 en it o1 o2 o3 a ga g gs E' hi ⟨o, to, vp, vc, rfl, rfl, hc⟩
    obtain ⟨hlt, hie⟩ := List.getElem?_eq_some_iff.mp hi
    rw [List.drop_eq_getElem_cons hlt, hie] at hc
    repeat' tb_start
    refine t_itb (fun hq => ?_) (fun hq => ?_)
    · have hq : l = [40] := by simpa using hq
      subst hq
      repeat' tb_start
      intro s₂ D₂
      exact ⟨_, _, ⟨_, _, _, _, rfl, rfl, by rw [← hc]; simp [chk]⟩, D₂.sub (by lcg_sub)⟩
    · have hq : l ≠ [40] := by simpa using hq
      repeat' tb_start
      refine t_itb (fun hr => ?_) (fun hr => ?_)
      · have hr : l = [41] := by simpa using hr
        subst hr
        repeat' tb_start
        refine t_itb (fun hn => ?_) (fun hn => ?_)
        · have hn := of_decide_eq_true hn
          repeat' tb_start
          intro s₂ D₂
          have := h s₂ (D.back (R := []) (n₁ := []) (D₂.sub (List.nil_sublist _)) (by kqd_all) (by lcg_sub))
          rw [← hc] at this
          simp [chk, hn] at this
          exact this
        · have hn := of_decide_eq_false hn
          repeat' tb_start
          intro s₂ D₂
          exact ⟨_, _, ⟨_, _, _, _, rfl, rfl, by rw [← hc]; simp [chk, hn]⟩, D₂.sub (by lcg_sub)⟩
      · have hr : l ≠ [41] := by simpa using hr
        repeat' tb_start
        intro s₂ D₂
        exact ⟨_, _, ⟨_, _, _, _, rfl, rfl, by rw [← hc]; simp [chk, hq, hr]⟩, D₂.sub (by lcg_sub)⟩
  · rintro m₁ n₁ E' ⟨o, to, vp, vc, rfl, rfl, hc⟩
    repeat' tb_start
    intro s₂ D₂
    have := h s₂ (D.back (R := []) (n₁ := []) (D₂.sub (List.nil_sublist _)) (by kqd_all) (by lcg_sub))
    rw [← hc, List.drop_length] at this
    simpa [chk] using this
end
noncomputable def rp (c : Nat) (k : Int) : List Nat := List.replicate k.toNat c
noncomputable def lackGo (row : List Nat) (more : Int) : Nat → Int → Int
  | 0, a => a
  | f + 1, a => if a ≤ row.length ∧ checkF (rp 40 a ++ row ++ rp 41 (a + more)) = false then lackGo row more f (a + 1) else a
noncomputable def moreF (row : List Nat) : Int := (row.count 40 : Nat) - (row.count 41 : Nat)
noncomputable def lackF (row : List Nat) : Int := lackGo row (moreF row) (row.length + 2) (max 0 (-moreF row))
theorem wl1 {a : Int} {x : List Nat} (ha : a ≤ 101) (hx : x.length ≤ 600) : (List.replicate a.toNat 40 ++ x).length ≤ 701 := by
  rw [List.length_append, List.length_replicate]
  exact Nat.add_le_add (Int.toNat_le.mpr ha) hx
theorem wl2 {a b : Int} {x : List Nat} (ha : a ≤ 101) (hx : x.length ≤ 600) (hb : b ≤ 198) : (List.replicate a.toNat 40 ++ x ++ List.replicate b.toNat 41).length ≤ 899 := by
  rw [List.length_append, List.length_replicate]
  exact Nat.add_le_add (wl1 ha hx) (Int.toNat_le.mpr hb)
theorem wl3 {a b : Int} {x : List Nat} (ha : a ≤ 101) (hx : x.length ≤ 100) (hb : b ≤ 200) : (List.replicate a.toNat 40 ++ x ++ List.replicate b.toNat 41).length ≤ 401 := by
  rw [List.length_append, List.length_append, List.length_replicate, List.length_replicate]
  exact Nat.add_le_add (Nat.add_le_add (Int.toNat_le.mpr ha) hx) (Int.toNat_le.mpr hb)
section
variable {C : Cx} {s₀ : Shared} {W : List Addr} {env : Env} {A : Around} {E : Value → Shared → Prop} {m m' : List (Str × Bnd)} {n n' : List (Addr × Obj)}
inductive I16 (x : List Nat) (t : Tok) (k : Nat) (m₁ : List (Str × Bnd)) (n₁ : List (Addr × Obj)) : Prop
  | mk (a : Int) (ta tm : Tok) (_ : m₁ = M334 (some (.str (strOf x) t)) (some (.int (moreF x) tm)) (some (.int a ta))) (_ : n₁ = []) (_ : 0 ≤ a) (_ : 0 ≤ a + moreF x) (_ : a ≤ x.length + 1) (_ : x.length + 2 ≤ a + k) (_ : lackGo x (moreF x) k a = lackF x)
theorem s_lack {x : List Nat} {t : Tok} {Q : Value → Shared → Prop} {G : List (Nat × GenState)} (hA : Ok A 60) (hx : ∀ c ∈ x, c < 128) (hl : x.length ≤ 100)
    (h : ∀ t, ∀ s, St C s₀ W env G s m n → Q (.int (lackF x) t) s) :
    ∀ s, St C s₀ W env G s m n → wpAny (MM C.w) A (call (.ref 334) [.str (strOf x) t] []) Q E s := by
  intro s D
  refine e334 [] D (hA.le (by decide) : Ok A (59 + 1)) (by kqd_all) .nil ?_
  intro L E'
  have hA' : Ok (A.deeper (fnEnv f334.fd 334 L)) 50 := (hA.le (by decide) : Ok A (50 + 1)).deeper
  generalize (A.deeper (fnEnv f334.fd 334 L)) = A' at hA' ⊢
  repeat' tb_start
  refine c_max2 hA'.hh ?_
  intro t2
  have hc1 : x.count 40 ≤ x.length := List.count_le_length
  have hc2 : x.count 41 ≤ x.length := List.count_le_length
  repeat' tb_start
  refine t_whileJ (I16 x t) (x.length + 2) ?_ ?_
  · refine ⟨_, _, _, rfl, rfl, ?_, ?_, ?_, ?_, rfl⟩
    all_goals (try unfold moreF)
    all_goals omega
  · rintro k m₁ n₁ E' ⟨a, ta, tm, rfl, rfl, h0, h1, h2, h3, h4⟩
    repeat' tb_start
    refine t_itb (fun hle => ?_) (fun hle => ?_)
    · have hle := of_decide_eq_true hle
      have hm : moreF x ≤ 100 ∧ -100 ≤ moreF x := by unfold moreF; omega
      obtain ⟨k, rfl⟩ : ∃ k', k = k' + 1 := ⟨k - 1, by omega⟩
      repeat' tb_start
      refine o_mulS (by omega) (by omega) ?_
      intro t4
      repeat' tb_start
      refine o_adds (Nat.le_trans (wl1 (by omega) (by omega)) (by rw [sizeLine_eq]; decide)) ?_
      intro t5
      repeat' tb_start
      refine o_mulS (by omega) (by omega) ?_
      intro t6
      repeat' tb_start
      refine o_adds (Nat.le_trans (wl3 (by omega) (by omega) (by omega)) (by rw [sizeLine_eq]; decide)) ?_
      intro t7
      repeat' tb_start
      refine s_check (hA'.le (by decide)) ?_ ?_ ?_
      · intro c hc
        rcases List.mem_append.mp hc with hc | hc
        · rcases List.mem_append.mp hc with hc | hc
          · rw [List.eq_of_mem_replicate hc]; decide
          · exact hx c hc
        · rw [List.eq_of_mem_replicate hc]; decide
      · exact Nat.le_trans (wl3 (by omega) (by omega) (by omega)) (by decide)
      repeat' tb_start
      refine t_itb (fun hc => ?_) (fun hc => ?_)
      · have hc : checkF (rp 40 a ++ x ++ rp 41 (a + moreF x)) = false := by
          unfold rp
          revert hc
          cases checkF (List.replicate a.toNat 40 ++ x ++ List.replicate (a + moreF x).toNat 41) <;> simp
        repeat' tb_start
        intro s₂ D₂
        refine ⟨k, _, _, Nat.lt_succ_self _, ⟨_, _, _, rfl, rfl, by omega, by omega, by omega, by omega, ?_⟩, D₂⟩
        rw [← h4, lackGo, if_pos ⟨hle, hc⟩]
      · have hc : checkF (rp 40 a ++ x ++ rp 41 (a + moreF x)) = true := by
          unfold rp
          revert hc
          cases checkF (List.replicate a.toNat 40 ++ x ++ List.replicate (a + moreF x).toNat 41) <;> simp
        repeat' tb_start
        intro s₂ D₂
        have := h ta s₂ (D.back (R := []) (n₁ := []) (D₂.sub (List.nil_sublist _)) (by kqd_all) (by lcg_sub))
        rw [← h4, lackGo, if_neg (by rw [hc]; simp)] at this
        exact this
    · have hle := of_decide_eq_false hle
      repeat' tb_start
      intro s₂ D₂
      have := h ta s₂ (D.back (R := []) (n₁ := []) (D₂.sub (List.nil_sublist _)) (by kqd_all) (by lcg_sub))
      cases k with
      | zero => rw [← h4, lackGo] at this; exact this
      | succ k => rw [← h4, lackGo, if_neg (by omega)] at this; exact this
end
noncomputable def upT (size c : Int) : Int := c + (-c).emod size
noncomputable def colF (size : Int) : Int → List Nat → Int
  | c, [] => c
  | c, s :: r => colF size (if s = 9 then upT size (c + 1) else c + 1) r
theorem up_iff {s y c' : Int} {k : Nat} (h1 : 1 ≤ s) (h2 : s ≤ 6) (hk : (k : Int) < s) (h : c' + k = y + (-y) % s) : c' % s = 0 ↔ k = 0 := by
  have e : (c' + k) % s = 0 := by rw [h]; simp [Int.add_right_neg]
  refine ⟨fun hc => ?_, fun hk0 => ?_⟩
  · have e2 : (k : Int) % s = 0 := by
      have := Int.emod_emod_of_dvd (c' + k) (Int.dvd_refl s)
      rw [Int.add_emod, hc, Int.zero_add, Int.emod_emod_of_dvd _ (Int.dvd_refl s)] at e
      exact e
    rw [Int.emod_eq_of_lt (Int.natCast_nonneg k) hk] at e2
    exact Int.ofNat.inj e2
  · subst hk0
    simpa using e
section
variable {C : Cx} {s₀ : Shared} {W : List Addr} {env : Env} {G : List (Nat × GenState)} {A : Around} {E : Value → Shared → Prop} {m m' : List (Str × Bnd)} {n n' : List (Addr × Obj)}
inductive I17b (x : List Nat) (t u : Tok) (size c : Int) (tch : Tok) (I : Addr) (o : Obj) (k : Nat) (m₁ : List (Str × Bnd)) (n₁ : List (Addr × Obj)) : Prop
  | mk (c' : Int) (tc' : Tok) (_ : m₁ = M327 (some (.str (strOf x) t)) (some (.int size u)) (some (.int c' tc')) (some (.str (strOf [9]) tch))) (_ : n₁ = [(I, o)]) (_ : c' + k = upT size (c + 1)) (_ : k < size)
inductive I17 (x : List Nat) (t u : Tok) (size : Int) (i : Nat) (m₁ : List (Str × Bnd)) (n₁ : List (Addr × Obj)) : Prop
  | mk (c : Int) (tc : Tok) (vs : Option Value) (_ : m₁ = M327 (some (.str (strOf x) t)) (some (.int size u)) (some (.int c tc)) vs) (_ : n₁ = []) (_ : colF size c (x.drop i) = colF size 0 x)
theorem s_column {x : List Nat} {size : Int} {t u : Tok} {Q : Value → Shared → Prop} (hA : Ok A 20) (hx : ∀ c ∈ x, c < 128) (h1 : 1 ≤ size) (h2 : size ≤ 6)
    (h : ∀ t, ∀ s, St C s₀ W env G s m n → Q (.int (colF size 0 x) t) s) :
    ∀ s, St C s₀ W env G s m n → wpAny (MM C.w) A (call (.ref 327) [.str (strOf x) t, .int size u] []) Q E s := by
  intro s D
  refine e327 [] D (hA.le (by decide) : Ok A (19 + 1)) (by kqd_all) .nil ?_
  intro L E'
  have hA' : Ok (A.deeper (fnEnv f327.fd 327 L)) 10 := (hA.le (by decide) : Ok A (10 + 1)).deeper
  generalize (A.deeper (fnEnv f327.fd 327 L)) = A' at hA' ⊢
  repeat' tb_start
  refine t_forI (I17 x t u size) hA'.hh (iter_str hx) (by intro _ _ _ _ p hp; cases hp) ⟨_, _, _, rfl, rfl, rfl⟩ ?_ ?_
  · rintro i v m₁ n₁ I o E' hi ⟨ch, tch, hch, rfl⟩ ⟨c, tc, vs, rfl, rfl, hc⟩
    obtain ⟨hlt, hie⟩ := List.getElem?_eq_some_iff.mp hch
    rw [List.drop_eq_getElem_cons hlt, hie, colF] at hc
    repeat' tb_start
    by_cases h9 : ch = 9
    · subst h9
      rw [if_pos rfl] at hc
      refine t_whileJ (I17b x t u size c tch I o) ((-(c + 1)).emod size).toNat ?_ ?_
      · have := Int.emod_nonneg (-(c + 1)) (by omega : size ≠ 0)
        have := Int.emod_lt_of_pos (-(c + 1)) (by omega : 0 < size)
        refine ⟨_, _, rfl, rfl, ?_, ?_⟩
        · show c + 1 + (((-(c + 1)) % size).toNat : Int) = c + 1 + (-(c + 1)) % size
          omega
        · show (((-(c + 1)) % size).toNat : Int) < size
          omega
      · rintro k m₁ n₁ E' ⟨c', tc', rfl, rfl, hk, hks⟩
        have hz : (c'.fmod size = 0) ↔ k = 0 := by
          have hk' : c' + k = c + 1 + (-(c + 1)) % size := hk
          rw [Int.fmod_eq_emod_of_nonneg _ (by omega)]
          exact up_iff h1 h2 hks hk'
        repeat' tb_start
        refine t_itb (fun hb => ?_) (fun hb => absurd hb (by simp))
        repeat' tb_start
        refine o_mod (by omega) ?_
        intro t3
        repeat' tb_start
        refine t_itb (fun hb => ?_) (fun hb => ?_)
        · have hb : c'.fmod size ≠ 0 := by simpa using hb
          have hk0 : k ≠ 0 := fun e => hb (hz.mpr e)
          repeat' tb_start
          intro s₂ D₂
          exact ⟨k - 1, _, _, by omega, ⟨_, _, rfl, rfl, by omega, by omega⟩, D₂⟩
        · have hb : c'.fmod size = 0 := by simpa using hb
          have hk0 : k = 0 := hz.mp hb
          repeat' tb_start
          intro s₂ D₂
          exact ⟨_, _, ⟨_, _, _, rfl, rfl, by rw [← hc, ← hk, hk0]; simp⟩, D₂.sub (by lcg_sub)⟩
    · rw [if_neg h9] at hc
      refine t_whileJ (fun k m₁ n₁ => m₁ = M327 (some (.str (strOf x) t)) (some (.int size u)) (some (.int (c + 1) _)) (some (.str (strOf [ch]) tch)) ∧ n₁ = [(I, o)]) 0 ⟨rfl, rfl⟩ ?_
      rintro k m₁ n₁ E' ⟨rfl, rfl⟩
      repeat' tb_start
      refine t_itb (fun hb => absurd hb (by simp [h9])) (fun hb => ?_)
      repeat' tb_start
      intro s₂ D₂
      exact ⟨_, _, ⟨_, _, _, rfl, rfl, hc⟩, D₂.sub (by lcg_sub)⟩
  · rintro m₁ n₁ E' ⟨c, tc, vs, rfl, rfl, hc⟩
    rw [List.drop_length, colF] at hc
    subst hc
    repeat' tb_start
    intro s₂ D₂
    exact h tc s₂ (D.back (R := []) (n₁ := []) (D₂.sub (List.nil_sublist _)) (by kqd_all) (by lcg_sub))
end
noncomputable def bump (cnt : List Int) (b : Nat) : List Int := (cnt ++ List.replicate (b + 1 - cnt.length) 0).set b ((cnt ++ List.replicate (b + 1 - cnt.length) 0).getD b 0 + 1)
noncomputable def wsGo : List Int → Nat → Nat → Nat → List Nat → List Int × Nat × Nat × Nat
  | cnt, b, n, nt, [] => (cnt, b, n, nt)
  | cnt, b, n, nt, c :: r => if c = 32 then wsGo cnt (b + 1) (n + 1) nt r else if c = 9 then wsGo (bump cnt b) 0 (n + 1) (nt + 1) r else (cnt, b, n, nt)
theorem ints_set {vs : List Value} {ns : List Int} (h : IntsAre vs ns) (a : Int) (t : Tok) : ∀ i, IntsAre (vs.set i (.int a t)) (ns.set i a) := by
  induction h with
  | nil => intro i; exact .nil
  | cons b u _ ih => intro i; cases i with
    | zero => exact .cons _ _ ‹_›
    | succ i => exact .cons _ _ (ih i)
theorem ints_append {vs : List Value} {ns : List Int} (h : IntsAre vs ns) {ws : List Value} {ks : List Int} (h2 : IntsAre ws ks) : IntsAre (vs ++ ws) (ns ++ ks) := by
  induction h with
  | nil => exact h2
  | cons _ _ _ ih => exact .cons _ _ ih
theorem ints_rep (a : Int) (t : Tok) : ∀ k : Nat, IntsAre (List.replicate k [Value.int a t]).flatten (List.replicate k a)
  | 0 => .nil
  | k + 1 => .cons _ _ (ints_rep a t k)
theorem cls_S (w : World) : findCls (KK w) (.ref 159) (.type "type") "S" = some (.val (.str (strOf [32]) 419)) := by rw [← lit_sp]; rfl
theorem cls_T (w : World) : findCls (KK w) (.ref 159) (.type "type") "T" = some (.val (.str (strOf [9]) 420)) := by rw [← lit_tab]; rfl
theorem cls159 (C : Cx) : ClsOk C 159 := ⟨by kernel_rfl, by kernel_rfl, by kernel_rfl, by kernel_rfl, by kernel_rfl⟩
inductive I18 (X dx : Addr) (o1 : Obj) (x : List Nat) (t : Tok) (i : Nat) (m₁ : List (Str × Bnd)) (n₁ : List (Addr × Obj)) : Prop
  | mk (cnt : List Int) (b nn nt : Nat) (cl : Addr) (tb tn tnt : Tok) (vs : List Value) (e : Nat) (vc : Option Value) (_ : m₁ = M114 (some (.ref X)) (some (.str (strOf x) t)) (some (.str (strOf [32]) 419)) (some (.str (strOf [9]) 420)) (some (.ref cl)) (some (.int (b : Nat) tb)) (some (.int (nn : Nat) tn)) (some (.int (nt : Nat) tnt)) vc)
    (_ : n₁ = [(cl, listObj vs e), (X, instObj 159 dx), (dx, o1)]) (_ : IntsAre vs cnt) (_ : b ≤ i) (_ : nn ≤ i) (_ : nt ≤ i) (_ : cnt.length ≤ i + 1) (_ : wsGo cnt b nn nt (x.drop i) = wsGo [] 0 0 0 x)
inductive I18b (X dx : Addr) (o1 : Obj) (x : List Nat) (t : Tok) (m₁ : List (Str × Bnd)) (n₁ : List (Addr × Obj)) : Prop
  | mk (cnt : List Int) (b nn nt : Nat) (cl : Addr) (tb tn tnt : Tok) (vs : List Value) (e : Nat) (vc : Option Value) (_ : m₁ = M114 (some (.ref X)) (some (.str (strOf x) t)) (some (.str (strOf [32]) 419)) (some (.str (strOf [9]) 420)) (some (.ref cl)) (some (.int (b : Nat) tb)) (some (.int (nn : Nat) tn)) (some (.int (nt : Nat) tnt)) vc)
    (_ : n₁ = [(cl, listObj vs e), (X, instObj 159 dx), (dx, o1)]) (_ : IntsAre vs cnt) (_ : cnt.length ≤ 60) (_ : wsGo [] 0 0 0 x = (cnt, b, nn, nt))
section
variable {C : Cx} {s₀ : Shared} {W : List Addr} {env : Env} {G : List (Nat × GenState)} {A : Around} {E : Value → Shared → Prop} {m m' : List (Str × Bnd)} {n n' : List (Addr × Obj)}
theorem t_sub {X : Shared → Prop} (h' : n'.Sublist n) (h : ∀ s, St C s₀ W env G s m n' → X s) : ∀ s, St C s₀ W env G s m n → X s := fun s D => h s (D.sub h')
theorem s_ws {x : List Nat} {t : Tok} {Q : Value → Shared → Prop} (hA : Ok A 30) (hx : ∀ c ∈ x, c < 128) (hl : x.length ≤ 50)
    (h : ∀ X dx o T cT vs tb tn tnt, DictIs o [("raw", .str (strOf x) t), ("n", .int (wsGo [] 0 0 0 x).2.2.1 tn), ("nt", .int (wsGo [] 0 0 0 x).2.2.2 tnt), ("norm", .ref T), ("is_simple", .bool (decide (((wsGo [] 0 0 0 x).1.length : Int) ≤ 1)))] → IntsAre vs (wsGo [] 0 0 0 x).1 →
      ∀ s, St C s₀ W env G s m ([(T, tupObj [.ref cT, .int (wsGo [] 0 0 0 x).2.1 tb]), (cT, tupObj vs), (X, instObj 159 dx), (dx, o)] ++ n) → Q (.ref X) s) :
    ∀ s, St C s₀ W env G s m n → wpAny (MM C.w) A (call (.ref 159) [.str (strOf x) t] []) Q E s := by
  refine t_make (fI := 114) (by kernel_rfl) (by kernel_rfl) (by kernel_rfl) ?_
  intro X dx s D
  have D' : St C s₀ W env G s m ([(X, instObj 159 dx), (dx, emptyDict)] ++ n) := D
  refine enterC f114 [("self", .ref X), ("ws", .str (strOf x) t)] _ [(X, instObj 159 dx), (dx, emptyDict)] D' ((hA.le (by decide) : Ok A (28 + 1 + 1)).underTC _ _ _) rfl (by decide +kernel) (.of_eq (by kernel_rfl)) hl114 (mi114 C.w) (fun p hp => List.mem_append_left _ hp) ?_ ?_
  · exact (D.na.sublist ((List.sublist_append_left [(X, instObj 159 dx), (dx, emptyDict)] n).map _))
  intro L E'
  have hA' : Ok ((A.under (.builtin "type.__call__" ⟨.ref 159 :: [.str (strOf x) t], []⟩)).deeper (fnEnv f114.fd 114 L)) 20 := (((hA.le (by decide) : Ok A (20 + 1 + 1)).underTC _ _ _)).deeper
  generalize ((A.under (.builtin "type.__call__" ⟨.ref 159 :: [.str (strOf x) t], []⟩)).deeper (fnEnv f114.fd 114 L)) = A' at hA' ⊢
  have K := cls159 C
  repeat' tb_start
  refine t_setA K (by news_at) (by news_at) DictIs.empty (by decide) (by kernel_rfl) (by intro _; tb_rel) ?_
  intro o1 ho1
  (first | refine t_cons ?_ | (refine' t_nextR ?zh ?_; (case zh => assumption); refine t_cons ?_))
  refine t_asgSw ["S", "T"] ?_ (by kernel_rfl) (by kernel_rfl)
  repeat' tb_start
  refine t_clsA (mc := .type "type") (by kernel_rfl) (cls_S _) rfl ?_
  repeat' tb_start
  refine t_clsA (mc := .type "type") (by kernel_rfl) (cls_T _) rfl ?_
  repeat' tb_start
  refine o_unpack hA'.hh (by news_at) rfl ?_
  refine t_ordB ?_
  repeat' tb_start
  refine t_ordB ?_
  repeat' tb_start
  refine t_ordNil ?_
  repeat' tb_start
  refine t_getA (v := .str (strOf x) t) K (by news_at) (by news_at) ho1 rfl (by kernel_rfl) rfl ?_
  rename_i aT aC _
  refine t_sub (n' := [(aC, listObj [] 0), (X, instObj 159 dx), (dx, o1)]) (by lcg_sub) ?_
  refine t_forIB (I18 X dx o1 x t) (I18b X dx o1 x t) hA'.hh (iter_str hx) (by intro _ _ _ _ p hp; cases hp) ?_ ?_ ?_ ?_
  · exact ⟨[], 0, 0, 0, _, _, _, _, [], _, _, rfl, rfl, .nil, Nat.le_refl _, Nat.le_refl _, Nat.le_refl _, Nat.zero_le _, rfl⟩
  · rintro i v m₁ n₁ I o E' hi ⟨ch, tch, hch, rfl⟩ ⟨cnt, b, nn, nt, cl, tb, tn, tnt, vs, e, vc, rfl, rfl, hvs, h1, h2, h3, h4, h5⟩
    obtain ⟨hlt, hie⟩ := List.getElem?_eq_some_iff.mp hch
    rw [List.drop_eq_getElem_cons hlt, hie, wsGo] at h5
    have hvl := hvs.length
    repeat' tb_start
    refine t_itb (fun hq => ?_) (fun hq => ?_)
    · have hq : ch = 32 := by simpa using hq
      rw [if_pos hq] at h5
      repeat' tb_start
      intro s₂ D₂
      exact ⟨_, _, ⟨cnt, b + 1, nn + 1, nt, cl, _, _, tnt, vs, e, _, rfl, rfl, hvs, by omega, by omega, by omega, by omega, h5⟩, D₂⟩
    · have hq : ch ≠ 32 := by simpa using hq
      rw [if_neg hq] at h5
      repeat' tb_start
      refine t_itb (fun hr => ?_) (fun hr => ?_)
      · have hr : ch = 9 := by simpa using hr
        rw [if_pos hr] at h5
        repeat' tb_start
        refine t_itb (fun hb => ?_) (fun hb => ?_)
        · have hb := of_decide_eq_true hb
          have hk : ((b : Int) - (vs.length : Nat) + 1).toNat = b + 1 - cnt.length := by omega
          repeat' tb_start
          rename_i t0 aZ _ _ _ _
          refine o_mulL (by news_at) (by omega) (by omega) (by simp) ?_
          intro l2
          rw [hk]
          repeat' tb_start
          have hfl : (List.replicate (b + 1 - cnt.length) [Value.int 0 t0]).flatten.length = b + 1 - cnt.length := by rw [lm_len_rep_flat]; simp
          refine o_addL (by news_at) (by news_at) (by rw [hfl, sizeLine_eq]; omega) ?_
          intro l3
          have hvs2 := ints_append hvs (ints_rep 0 t0 (b + 1 - cnt.length))
          obtain ⟨tv, hv⟩ := hvs2.get b ((cnt ++ List.replicate (b + 1 - cnt.length) 0).getD b 0) (by
            rw [List.getD_eq_getElem?_getD, List.getElem?_eq_getElem (by simp; omega)]; rfl)
          repeat' tb_start
          refine i_list (by news_at) (by omega) (v := .int ((cnt ++ List.replicate (b + 1 - cnt.length) 0).getD b 0) tv) (by rw [Int.toNat_natCast]; exact hv) (by omega) ?_
          repeat' tb_start
          refine si_list (by news_at) (by omega) (by rw [List.length_append, hfl]; omega) (by rw [List.length_append, hfl]; omega) (by tb_rel) ?_
          repeat' tb_start
          intro s₂ D₂
          refine ⟨_, _, ⟨bump cnt b, 0, nn + 1, nt + 1, l3, _, _, _, _, _, _, rfl, rfl, ?_, by omega, by omega, by omega, ?_, h5⟩, (D₂.sub (n' := [(l3, _), (I, o), (X, _), (dx, _)]) (by lcg_sub)).perm (List.Perm.swap _ _ _)⟩
          · unfold bump; rw [Int.toNat_natCast]; exact ints_set hvs2 _ _ _
          · unfold bump; simp; omega
        · have hb := of_decide_eq_false hb
          have hz : b + 1 - cnt.length = 0 := by omega
          obtain ⟨tv, hv⟩ := hvs.get b (cnt.getD b 0) (by rw [List.getD_eq_getElem?_getD, List.getElem?_eq_getElem (by omega)]; rfl)
          have hbump : bump cnt b = cnt.set b (cnt.getD b 0 + 1) := by unfold bump; rw [hz]; simp
          repeat' tb_start
          refine i_list (by news_at) (by omega) (v := .int (cnt.getD b 0) tv) (by simpa using hv) (by omega) ?_
          repeat' tb_start
          refine si_list (by news_at) (by omega) (by omega) (by omega) (by tb_rel) ?_
          repeat' tb_start
          intro s₂ D₂
          refine ⟨_, _, ⟨bump cnt b, 0, nn + 1, nt + 1, cl, _, _, _, _, _, _, rfl, rfl, ?_, by omega, by omega, by omega, ?_, h5⟩, D₂⟩
          · rw [hbump]; exact ints_set hvs _ _ _
          · rw [hbump]; simp; omega
      · have hr : ch ≠ 9 := by simpa using hr
        rw [if_neg hr] at h5
        repeat' tb_start
        intro s₂ D₂
        exact ⟨_, _, ⟨cnt, b, nn, nt, cl, tb, tn, tnt, vs, e, _, rfl, rfl, hvs, by omega, h5.symm⟩, D₂⟩
  · rintro m₁ n₁ E' ⟨cnt, b, nn, nt, cl, tb, tn, tnt, vs, e, vc, rfl, rfl, hvs, h1, h2, h3, h4, h5⟩
    repeat' tb_start
    intro s₂ D₂
    rw [List.drop_length, wsGo] at h5
    exact ⟨_, _, ⟨cnt, b, nn, nt, cl, tb, tn, tnt, vs, e, vc, rfl, rfl, hvs, by omega, h5.symm⟩, D₂⟩
  · rintro m₁ n₁ ⟨cnt, b, nn, nt, cl, tb, tn, tnt, vs, e, vc, rfl, rfl, hvs, h1, h5⟩
    repeat' tb_start
    refine t_setA K (by news_at) (by news_at) ho1 (Nat.le_of_ble_eq_true (by kernel_rfl)) (by kernel_rfl) (by intro _; tb_rel) ?_
    intro o2 ho2
    repeat' tb_start
    refine t_setA K (by news_at) (by news_at) ho2 (Nat.le_of_ble_eq_true (by kernel_rfl)) (by kernel_rfl) (by intro _; tb_rel) ?_
    intro o3 ho3
    repeat' tb_start
    refine c_tupL (by news_at) (by rw [hvs.length]; omega) ?_
    intro cT
    repeat' tb_start
    rename_i aN
    refine t_setA K (by news_at) (by news_at) ho3 (Nat.le_of_ble_eq_true (by kernel_rfl)) (by kernel_rfl) (by intro _; tb_rel) ?_
    intro o4 ho4
    have hvl := hvs.length
    repeat' tb_start
    refine t_setA K (by news_at) (by news_at) ho4 (Nat.le_of_ble_eq_true (by kernel_rfl)) (by kernel_rfl) (by intro _; tb_rel) ?_
    intro o5 ho5
    repeat' tb_start
    intro s₂ D₂
    refine ⟨rfl, ?_⟩
    rw [h5] at h
    refine h X dx o5 aN cT vs tb tn tnt (cast (congrArg (DictIs o5) (by rw [hvl]; kernel_rfl)) ho5) hvs s₂ (D'.backC D₂ (by lcg_sub))
end
section
variable {C : Cx} {s₀ : Shared} {W : List Addr} {env : Env} {G : List (Nat × GenState)} {A : Around} {E : Value → Shared → Prop} {m m' : List (Str × Bnd)} {n n' : List (Addr × Obj)}
theorem c_lenT {T : Addr} {vs : List Value} {Q : Value → Shared → Prop} (hl : (T, tupObj vs) ∈ n) (hsz : vs.length ≤ 1000000) (h : ∀ t, ∀ s, St C s₀ W env G s m n → Q (.int vs.length t) s) :
    ∀ s, St C s₀ W env G s m n → wpAny (MM C.w) A (call (.builtin "len") ([] ++ [.ref T])) Q E s := fun s D => by
  refine PySem.P.len_tuple (items := vs.toArray) (n := 0) (D.get hl) (by rw [List.size_toArray]; omega) ?_
  rw [List.size_toArray]; exact h _ _ (D.tok _ _)
theorem i_tup {l : Addr} {vs : List Value} {i : Int} {u : Tok} {v : Value} {Q : Value → Shared → Prop} (hl : (l, tupObj vs) ∈ n) (h0 : 0 ≤ i) (hv : vs[i.toNat]? = some v) (hsz : i ≤ 1000000) (h : ∀ s, St C s₀ W env G s m n → Q v s) :
    ∀ s, St C s₀ W env G s m n → ItemOn (MM C.w) A E (.ref l) (.int i u) Q s := fun s D => by
  have hlt : i.toNat < vs.length := (List.getElem?_eq_some_iff.mp hv).1
  refine ⟨"tuple", _, PySem.F.slot_tuple_getitem.lookup, ⟨_, D.get hl, rfl⟩, PySem.P.getItem_tuple (items := vs.toArray) (n := 0) (k := i.toNat) (D.get hl) (by omega) (by omega) ?_ (by simpa using hv) (h s D)⟩
  unfold seqIndex?
  rw [List.size_toArray]
  simp only [show ¬ i < 0 by omega, if_false]
  rw [if_pos (by simp; omega)]
noncomputable def wsL (X dx : Addr) (o : Obj) (T cT : Addr) (vs : List Value) (b : Int) (tb : Tok) : List (Addr × Obj) := [(T, tupObj [.ref cT, .int b tb]), (cT, tupObj vs), (X, instObj 159 dx), (dx, o)]
structure WsP (o : Obj) (T : Addr) (vs : List Value) (cnt : List Int) (nt : Int) : Prop where
  d : ∃ raw nn tnt si, DictIs o [("raw", raw), ("n", nn), ("nt", .int nt tnt), ("norm", .ref T), ("is_simple", si)]
  v : IntsAre vs cnt
  l : cnt.length ≤ 60
theorem WsP.norm {o : Obj} {T : Addr} {vs : List Value} {cnt : List Int} {nt : Int} (P : WsP o T vs cnt nt) {C : Cx} {s₀ : Shared} {W : List Addr} {env : Env} {G : List (Nat × GenState)} {A : Around} {E : Value → Shared → Prop} {m : List (Str × Bnd)} {n : List (Addr × Obj)} {X dx : Addr} {b : Bool} {Q : Value → Shared → Prop}
    (hx : (X, instObj 159 dx) ∈ n) (hd : (dx, o) ∈ n) (h : ∀ s, St C s₀ W env G s m n → Q (.ref T) s) : ∀ s, St C s₀ W env G s m n → wpAny (MM C.w) A (getAttr (.ref X) "norm" b) Q E s := by
  obtain ⟨raw, nn, tnt, si, hD⟩ := P.d
  exact t_getA (cls159 C) hx hd hD rfl (by kernel_rfl) rfl h
theorem WsP.nt {o : Obj} {T : Addr} {vs : List Value} {cnt : List Int} {nt : Int} (P : WsP o T vs cnt nt) {C : Cx} {s₀ : Shared} {W : List Addr} {env : Env} {G : List (Nat × GenState)} {A : Around} {E : Value → Shared → Prop} {m : List (Str × Bnd)} {n : List (Addr × Obj)} {X dx : Addr} {b : Bool} {Q : Value → Shared → Prop}
    (hx : (X, instObj 159 dx) ∈ n) (hd : (dx, o) ∈ n) (h : ∀ t, ∀ s, St C s₀ W env G s m n → Q (.int nt t) s) : ∀ s, St C s₀ W env G s m n → wpAny (MM C.w) A (getAttr (.ref X) "nt" b) Q E s := by
  obtain ⟨raw, nn, tnt, si, hD⟩ := P.d
  exact t_getA (cls159 C) hx hd hD rfl (by kernel_rfl) rfl (h tnt)
theorem WsP.meth {o : Obj} {T : Addr} {vs : List Value} {cnt : List Int} {nt : Int} (P : WsP o T vs cnt nt) {C : Cx} {s₀ : Shared} {W : List Addr} {env : Env} {G : List (Nat × GenState)} {A : Around} {E : Value → Shared → Prop} {m : List (Str × Bnd)} {n : List (Addr × Obj)} {X dx f : Addr} {name : Str} {pl : Sem Bool} {Q : Value × List Value → Shared → Prop}
    (hx : (X, instObj 159 dx) ∈ n) (hd : (dx, o) ∈ n) (hne : (["raw", "n", "nt", "norm", "is_simple"] : List Str).contains name = false) (hf : findIn (KK C.w) (.ref 159) name = some (some (.ref f))) (ht : typeIn (KK C.w) (.ref f) = some (.type "function"))
    (h : ∀ s, St C s₀ W env G s m n → Q (.ref f, [.ref X]) s) : ∀ s, St C s₀ W env G s m n → wpAny (MM C.w) A (getMethod (.ref X) name pl) Q E s := by
  obtain ⟨raw, nn, tnt, si, hD⟩ := P.d
  refine t_methI (cls159 C) hx hd hD ?_ hf ht h
  simp only [List.contains_cons, List.contains_nil, Bool.or_false, Bool.or_eq_false_iff] at hne
  simp only [List.lookup_cons, hne.1, hne.2.1, hne.2.2.1, hne.2.2.2.1, hne.2.2.2.2]
  rfl
theorem s_longest {X dx T cT : Addr} {o : Obj} {vs : List Value} {cnt : List Int} {b nt : Int} {tb : Tok} {Q : Value → Shared → Prop} (hA : Ok A 10) (P : WsP o T vs cnt nt) (hin : ∀ p ∈ wsL X dx o T cT vs b tb, p ∈ n) (hnd : ((wsL X dx o T cT vs b tb).map (·.1)).Nodup)
    (h : ∀ t, ∀ s, St C s₀ W env G s m n → Q (.int (max ((cnt.length : Int) - 1) b) t) s) : ∀ s, St C s₀ W env G s m n → wpAny (MM C.w) A (call (.ref 121) [.ref X] []) Q E s := by
  intro s D
  refine e121 (wsL X dx o T cT vs b tb) D (hA.le (by decide) : Ok A (9 + 1)) hin hnd ?_
  intro L E'
  have hA' : Ok (A.deeper (fnEnv f121.fd 121 L)) 5 := (hA.le (by decide) : Ok A (5 + 1)).deeper
  generalize (A.deeper (fnEnv f121.fd 121 L)) = A' at hA' ⊢
  have hvl := P.v.length
  have hl := P.l
  unfold wsL
  repeat' tb_start
  refine P.norm (by news_at) (by news_at) ?_
  repeat' tb_start
  refine c_lenT (by news_at) (by omega) ?_
  intro t1
  repeat' tb_start
  refine c_max2 hA'.hh ?_
  intro t2
  repeat' tb_start
  intro s₂ D₂
  have := h t2 s₂ (D.back (R := wsL X dx o T cT vs b tb) (n₁ := []) D₂ hin (List.Sublist.refl _))
  rw [← hvl] at this
  exact this
noncomputable def ilF (ts : Int) (cnt : List Int) (b nt : Int) : Int := b + ts * (((List.range ((cnt.length : Int) - ts).toNat).foldl (fun a k => a + (ts + (k : Nat)).fdiv ts * cnt.getD (ts + (k : Nat)).toNat 0) 0) + nt)
theorem pyl_small {x y : Int} (h1 : 1 ≤ y) (h2 : y ≤ 6) : Builtin.divisionGoesByPylong x y = false := by
  have : y = 1 ∨ y = 2 ∨ y = 3 ∨ y = 4 ∨ y = 5 ∨ y = 6 := on6 (by first | assumption | omega) (by first | assumption | omega)
  rcases this with rfl | rfl | rfl | rfl | rfl | rfl <;> rfl
theorem fdiv_b {x y : Int} (h1 : 1 ≤ y) (h0 : 0 ≤ x) (hx : x ≤ 1000) : 0 ≤ x.fdiv y ∧ x.fdiv y ≤ 1000 := by
  have hy : 0 ≤ y := Int.le_trans (by decide) h1
  rw [Int.fdiv_eq_ediv_of_nonneg _ hy]
  exact ⟨Int.ediv_nonneg h0 hy, Int.le_trans (Int.ediv_le_self _ h0) hx⟩
inductive I19 (X dx T cT : Addr) (o : Obj) (vs : List Value) (cnt : List Int) (b ts : Int) (tb tts t1 : Tok) (r : Addr) (v : Tok) (i : Nat) (m₁ : List (Str × Bnd)) (n₁ : List (Addr × Obj)) : Prop
  | mk (il : Int) (til : Tok) (vi : Option Value) (_ : m₁ = M128 (some (.ref X)) (some (.int ts tts)) (some (.ref cT)) (some (.int b tb)) (some (.int il til)) vi) (_ : n₁ = (r, rangeObj ts vs.length tts t1 v) :: wsL X dx o T cT vs b tb) (_ : il = (List.range i).foldl (fun a k => a + (ts + (k : Nat)).fdiv ts * cnt.getD (ts + (k : Nat)).toNat 0) 0)
theorem s_indent {X dx T cT : Addr} {o : Obj} {vs : List Value} {cnt : List Int} {b nt ts : Int} {tb tts : Tok} {Q : Value → Shared → Prop} (hA : Ok A 10) (P : WsP o T vs cnt nt) (hin : ∀ p ∈ wsL X dx o T cT vs b tb, p ∈ n) (hnd : ((wsL X dx o T cT vs b tb).map (·.1)).Nodup)
    (h1 : 1 ≤ ts) (h2 : ts ≤ 6) (h : ∀ t, ∀ s, St C s₀ W env G s m n → Q (.int (ilF ts cnt b nt) t) s) : ∀ s, St C s₀ W env G s m n → wpAny (MM C.w) A (call (.ref 128) [.ref X, .int ts tts] []) Q E s := by
  intro s D
  refine e128 (wsL X dx o T cT vs b tb) D (hA.le (by decide) : Ok A (9 + 1)) hin hnd ?_
  intro L E'
  have hA' : Ok (A.deeper (fnEnv f128.fd 128 L)) 5 := (hA.le (by decide) : Ok A (5 + 1)).deeper
  generalize (A.deeper (fnEnv f128.fd 128 L)) = A' at hA' ⊢
  have hvl := P.v.length
  have hl := P.l
  unfold wsL
  repeat' tb_start
  refine P.norm (by news_at) (by news_at) ?_
  repeat' tb_start
  refine c_lenT (by news_at) (by omega) ?_
  intro t1
  repeat' tb_start
  refine c_range2 ?_
  intro r v
  repeat' tb_start
  refine t_forI (I19 X dx T cT o vs cnt b ts tb tts t1 r v) hA'.hh (iter_range (by news_at) (by omega) (by omega)) (by intro _ _ _ _ p hp; cases hp) ?_ ?_ ?_
  · exact ⟨_, _, _, rfl, rfl, rfl⟩
  · rintro i v m₁ n₁ I o' E' hi ⟨ti, rfl⟩ ⟨il, til, vi, rfl, rfl, hil⟩
    unfold wsL
    have hi1 : (ts + (i : Nat)).toNat < cnt.length := by omega
    obtain ⟨tv, hv⟩ := P.v.get (ts + (i : Nat)).toNat (cnt.getD (ts + (i : Nat)).toNat 0) (by rw [List.getD_eq_getElem?_getD, List.getElem?_eq_getElem hi1]; rfl)
    have hfd : 0 ≤ (ts + (i : Nat)).fdiv ts ∧ (ts + (i : Nat)).fdiv ts ≤ 1000 := by
      exact fdiv_b h1 (by omega) (by omega)
    repeat' tb_start
    refine o_floordiv (by omega) (pyl_small h1 h2) ?_
    intro t2
    repeat' tb_start
    refine i_tup (by news_at) (by omega) hv (by omega) ?_
    refine o_mul (IntMulOk.of_left (intBits_le_64 (by omega) (by omega))) ?_
    intro t3
    repeat' tb_start
    intro s₂ D₂
    exact ⟨_, _, ⟨_, _, _, rfl, rfl, by rw [List.range_succ, List.foldl_append, ← hil]; rfl⟩, D₂⟩
  · rintro m₁ n₁ E' ⟨il, til, vi, rfl, rfl, hil⟩
    unfold wsL
    repeat' tb_start
    refine P.nt (by news_at) (by news_at) ?_
    intro t2
    repeat' tb_start
    refine o_mul (IntMulOk.of_left (intBits_le_64 (by omega) (by omega))) ?_
    intro t3
    repeat' tb_start
    intro s₂ D₂
    have e : ilF ts cnt b nt = b + ts * (il + nt) := by rw [ilF, ← hvl, ← hil]
    rw [e] at h
    exact h _ s₂ (D.back (R := wsL X dx o T cT vs b tb) (n₁ := []) D₂ hin (by unfold wsL; lcg_sub))
end
inductive T3 : List Value → List (Addr × Obj) → List (Int × Int × Int) → Prop
  | nil : T3 [] [] []
  | snoc {vs ts l} (T : Addr) (i j k : Int) (ti tj tk : Tok) : T3 vs ts l → T3 (vs ++ [.ref T]) ((T, tupObj [.int i ti, .int j tj, .int k tk]) :: ts) (l ++ [(i, j, k)])
theorem T3.len {vs : List Value} {ts : List (Addr × Obj)} {l : List (Int × Int × Int)} (h : T3 vs ts l) : vs.length = l.length := by
  induction h with
  | nil => rfl
  | snoc _ _ _ _ _ _ _ _ ih => simp [ih]
noncomputable def neN (c1 : List Int) (b1 : Int) (c2 : List Int) (b2 : Int) : Int := max (max ((c1.length : Int) - 1) b1) (max ((c2.length : Int) - 1) b2) + 1
noncomputable def neG (c1 : List Int) (b1 n1 : Int) (c2 : List Int) (b2 n2 : Int) (i : Nat) : List (Int × Int × Int) :=
  (List.range i).filterMap fun k => if ilF (1 + (k : Nat)) c1 b1 n1 ≠ ilF (1 + (k : Nat)) c2 b2 n2 then some ((1 + (k : Nat) : Int), ilF (1 + (k : Nat)) c1 b1 n1, ilF (1 + (k : Nat)) c2 b2 n2) else none
theorem neG_len (c1 : List Int) (b1 n1 : Int) (c2 : List Int) (b2 n2 : Int) (i : Nat) : (neG c1 b1 n1 c2 b2 n2 i).length ≤ i := by
  unfold neG
  exact Nat.le_trans (List.length_filterMap_le _ _) (by simp)
section
variable {C : Cx} {s₀ : Shared} {W : List Addr} {env : Env} {G : List (Nat × GenState)} {A : Around} {E : Value → Shared → Prop} {m m' : List (Str × Bnd)} {n n' : List (Addr × Obj)}
inductive I20 (X dx T cT : Addr) (o : Obj) (vs : List Value) (cnt : List Int) (b nt : Int) (tb : Tok) (X' dx' T' cT' : Addr) (o' : Obj) (vs' : List Value) (cnt' : List Int) (b' nt' : Int) (tb' : Tok) (tn t4 t6 : Tok) (al r : Addr) (v : Tok) (i : Nat) (m₁ : List (Str × Bnd)) (n₁ : List (Addr × Obj)) : Prop
  | mk (ws : List Value) (tl : List (Addr × Obj)) (e : Nat) (vts : Option Value) (_ : m₁ = M142 (some (.ref X)) (some (.ref X')) (some (.int (neN cnt b cnt' b') tn)) (some (.ref al)) vts) (_ : T3 ws tl (neG cnt b nt cnt' b' nt' i)) (_ : n₁ = (r, rangeObj 1 (neN cnt b cnt' b' + 1) t4 t6 v) :: (al, listObj ws e) :: (wsL X dx o T cT vs b tb ++ wsL X' dx' o' T' cT' vs' b' tb' ++ tl))
theorem s_witness {X dx T cT : Addr} {o : Obj} {vs : List Value} {cnt : List Int} {b nt : Int} {tb : Tok} {X' dx' T' cT' : Addr} {o' : Obj} {vs' : List Value} {cnt' : List Int} {b' nt' : Int} {tb' : Tok} {Q : Value → Shared → Prop} (hA : Ok A 20)
    (P : WsP o T vs cnt nt) (P' : WsP o' T' vs' cnt' nt') (hin : ∀ p ∈ wsL X dx o T cT vs b tb ++ wsL X' dx' o' T' cT' vs' b' tb', p ∈ n) (hnd : ((wsL X dx o T cT vs b tb ++ wsL X' dx' o' T' cT' vs' b' tb').map (·.1)).Nodup) (hN : neN cnt b cnt' b' ≤ 6)
    (h : ∀ a e ws tl, T3 ws tl (neG cnt b nt cnt' b' nt' (neN cnt b cnt' b').toNat) → ∀ s, St C s₀ W env G s m (((a, listObj ws e) :: tl) ++ n) → Q (.ref a) s) :
    ∀ s, St C s₀ W env G s m n → wpAny (MM C.w) A (call (.ref 142) [.ref X, .ref X'] []) Q E s := by
  intro s D
  refine e142 (wsL X dx o T cT vs b tb ++ wsL X' dx' o' T' cT' vs' b' tb') D (hA.le (by decide) : Ok A (19 + 1)) hin hnd ?_
  intro L E'
  have hA' : Ok (A.deeper (fnEnv f142.fd 142 L)) 15 := (hA.le (by decide) : Ok A (15 + 1)).deeper
  generalize (A.deeper (fnEnv f142.fd 142 L)) = A' at hA' ⊢
  have hn1 : ((wsL X dx o T cT vs b tb).map (·.1)).Nodup := hnd.sublist ((List.sublist_append_left _ _).map _)
  have hn2 : ((wsL X' dx' o' T' cT' vs' b' tb').map (·.1)).Nodup := hnd.sublist ((List.sublist_append_right _ _).map _)
  unfold wsL at hin hnd ⊢
  simp only [List.cons_append, List.nil_append] at hin hnd ⊢
  repeat' tb_start
  refine P.meth (f := 121) (by news_at) (by news_at) (by kernel_rfl) (by kernel_rfl) (by kernel_rfl) ?_
  repeat' tb_start
  refine s_longest (X := X) (dx := dx) (cT := cT) (b := b) (tb := tb) (hA'.le (by decide)) P (by unfold wsL; kqd_all) hn1 ?_
  intro t1
  repeat' tb_start
  refine P'.meth (f := 121) (by news_at) (by news_at) (by kernel_rfl) (by kernel_rfl) (by kernel_rfl) ?_
  repeat' tb_start
  refine s_longest (X := X') (dx := dx') (cT := cT') (b := b') (tb := tb') (hA'.le (by decide)) P' (by unfold wsL; kqd_all) hn2 ?_
  intro t2
  repeat' tb_start
  refine c_max2 hA'.hh ?_
  intro t3
  repeat' tb_start
  rename_i _ tn al t4 _ t6
  refine c_range2 ?_
  intro r v
  repeat' tb_start
  have hNge : 0 ≤ neN cnt b cnt' b' := by unfold neN; omega
  refine t_forI (I20 X dx T cT o vs cnt b nt tb X' dx' T' cT' o' vs' cnt' b' nt' tb' tn t4 t6 al r v) hA'.hh (iter_range (t := t4) (u := t6) (v := v) (a := 1) (b := neN cnt b cnt' b' + 1) (r := r) ?_ (by omega) (by omega)) (by intro _ _ _ _ p hp; cases hp) ?_ ?_ ?_
  · exact .head _
  · exact ⟨[], [], 0, _, rfl, .nil, rfl⟩
  · rintro i v m₁ n₁ I oI E' hi ⟨ti, rfl⟩ ⟨ws, tl, e, vts, rfl, hT, rfl⟩
    unfold wsL
    simp only [List.cons_append, List.nil_append]
    have hi6 : i < 6 := by omega
    repeat' tb_start
    refine P.meth (f := 128) (by news_at) (by news_at) (by kernel_rfl) (by kernel_rfl) (by kernel_rfl) ?_
    repeat' tb_start
    refine s_indent (X := X) (dx := dx) (cT := cT) (b := b) (tb := tb) (hA'.le (by decide)) P (by unfold wsL; kqd_all) hn1 (by omega) (by omega) ?_
    intro t7
    repeat' tb_start
    refine P'.meth (f := 128) (by news_at) (by news_at) (by kernel_rfl) (by kernel_rfl) (by kernel_rfl) ?_
    repeat' tb_start
    refine s_indent (X := X') (dx := dx') (cT := cT') (b := b') (tb := tb') (hA'.le (by decide)) P' (by unfold wsL; kqd_all) hn2 (by omega) (by omega) ?_
    intro t8
    repeat' tb_start
    refine t_itb (fun hq => ?_) (fun hq => ?_)
    · have hq : ilF (1 + (i : Nat)) cnt b nt ≠ ilF (1 + (i : Nat)) cnt' b' nt' := by simpa using hq
      repeat' tb_start
      refine P.meth (f := 128) (by news_at) (by news_at) (by kernel_rfl) (by kernel_rfl) (by kernel_rfl) ?_
      repeat' tb_start
      refine s_indent (X := X) (dx := dx) (cT := cT) (b := b) (tb := tb) (hA'.le (by decide)) P (by unfold wsL; kqd_all) hn1 (by omega) (by omega) ?_
      intro t9
      repeat' tb_start
      refine P'.meth (f := 128) (by news_at) (by news_at) (by kernel_rfl) (by kernel_rfl) (by kernel_rfl) ?_
      repeat' tb_start
      refine s_indent (X := X') (dx := dx') (cT := cT') (b := b') (tb := tb') (hA'.le (by decide)) P' (by unfold wsL; kqd_all) hn2 (by omega) (by omega) ?_
      intro t10
      repeat' tb_start
      refine c_append (by news_at) (by tb_rel) (by rw [hT.len, sizeLine_eq]; have := neG_len cnt b nt cnt' b' nt' i; omega) ?_
      repeat' tb_start
      rename_i aT
      intro s₂ D₂
      have D₃ := D₂.perm (List.perm_middle (l₁ := [_, _, _, _, _, _, _, _, _, _, _]))
      have e3 : neG cnt b nt cnt' b' nt' (i + 1) = neG cnt b nt cnt' b' nt' i ++ [((1 + (i : Nat) : Int), ilF (1 + (i : Nat)) cnt b nt, ilF (1 + (i : Nat)) cnt' b' nt')] := by
        unfold neG; rw [List.range_succ, List.filterMap_append]; simp [hq]
      have hT3 := hT.snoc aT (1 + (i : Nat)) (ilF (1 + (i : Nat)) cnt b nt) (ilF (1 + (i : Nat)) cnt' b' nt') ti t9 t10
      rw [← e3] at hT3
      exact ⟨_, _, ⟨_, _, _, _, rfl, hT3, rfl⟩, D₃⟩
    · have hq : ilF (1 + (i : Nat)) cnt b nt = ilF (1 + (i : Nat)) cnt' b' nt' := by simpa using hq
      repeat' tb_start
      intro s₂ D₂
      refine ⟨_, _, ⟨_, _, _, _, rfl, ?_, rfl⟩, D₂⟩
      rw [show neG cnt b nt cnt' b' nt' (i + 1) = neG cnt b nt cnt' b' nt' i by unfold neG; rw [List.range_succ, List.filterMap_append]; simp [hq]]
      exact hT
  · rintro m₁ n₁ E' ⟨ws, tl, e, vts, rfl, hT, rfl⟩
    repeat' tb_start
    intro s₂ D₂
    rw [show (neN cnt b cnt' b' + 1 - 1) = neN cnt b cnt' b' by omega] at hT
    have D₃ := D₂.sub (n' := (al, listObj ws e) :: (wsL X dx o T cT vs b tb ++ wsL X' dx' o' T' cT' vs' b' tb' ++ tl)) (.cons _ (.refl _))
    have D₄ := D₃.perm (n' := (al, listObj ws e) :: (tl ++ (wsL X dx o T cT vs b tb ++ wsL X' dx' o' T' cT' vs' b' tb'))) (List.perm_append_comm.cons _)
    exact h al e ws tl hT s₂ (D.back (R := wsL X dx o T cT vs b tb ++ wsL X' dx' o' T' cT' vs' b' tb') (n₁ := (al, listObj ws e) :: tl) D₄ hin (.refl _))
end
theorem slot_search : Slot "re.Pattern" "search" "re.Pattern.search" :=
  .of (owner := "re.Pattern") (n := "search") (by rw [typeLookup_type, builtinLookup_eq_fast]; kernel_rfl) (by decide +kernel) (by decide +kernel) (by decide +kernel)
    (by first | exact .inl (by decide +kernel) | exact .inr (by decide +kernel)) (by rw [isSubtype_type]; kernel_rfl)
theorem type_search : typeOf (.builtin "re.Pattern.search") = pure (.type "method_descriptor") := by show builtinType _ = _; rw [builtinType_eq_fast]; kernel_rfl
theorem entry_search : entryFor table "re.Pattern.search" = some Builtin.«re.Pattern.search» := entryFor_of_tree (by kernel_rfl)
theorem args_search (a b : Value) : argsOk "re.Pattern.search" ⟨[a, b], []⟩ := by unfold argsOk; kernel_rfl
theorem plain_search : PlainAttrs "re.Pattern" :=
  ⟨⟨"object.__getattribute__", by rw [typeLookup_type, builtinLookup_eq_fast]; kernel_rfl, by decide +kernel⟩, by rw [typeLookup_type, builtinLookup_eq_fast]; kernel_rfl⟩
/-- a compiled pattern of the text, by its address -/
structure Rx (R : Addr) where
  fs : Array Value
  its : Array Value
  ne : Nat
  cT : Addr
  hR : ∀ w, (KK w).lookup R = some { cls := .type "re.Pattern", data := .fields fs }
  hT : ∀ w, (KK w).lookup cT = some { cls := .type "tuple", data := .seq its ne }
  h2 : fs.getD 2 .none = .int 0 0
  h5 : fs.getD 5 .none = .ref cT
  h6 : fs.getD 6 .none = .int 0 0
@[reducible] noncomputable def rxN : Rx 173 := by
  refine ⟨?fs, ?its, ?ne, ?cT, fun w => ?hR, fun w => ?hT, ?h2, ?h5, ?h6⟩
  case hR => exact rfl
  case h5 => exact rfl
  case hT => exact rfl
  case h2 => rfl
  case h6 => rfl
@[reducible] noncomputable def rxV : Rx 178 := by
  refine ⟨?fs, ?its, ?ne, ?cT, fun w => ?hR, fun w => ?hT, ?h2, ?h5, ?h6⟩
  case hR => exact rfl
  case h5 => exact rfl
  case hT => exact rfl
  case h2 => rfl
  case h6 => rfl
noncomputable abbrev codeN : Array Nat := (rxN.its.toList.map fun v => (Builtin.Re.reRawOf v).toNat).toArray
noncomputable abbrev codeV : Array Nat := (rxV.its.toList.map fun v => (Builtin.Re.reRawOf v).toNat).toArray
theorem hits_of (its : Array Value) : (its.map Builtin.Re.reRawOf).map (·.toNat) = (its.toList.map fun v => (Builtin.Re.reRawOf v).toNat).toArray := by
  apply Array.ext'
  simp
noncomputable def NoHit (code : Array Nat) : Prop := ∀ c, 32 ≤ c → c < 127 → ∀ seen, ∃ seen', Sre.inSet code c code.size 5 true seen = .ok (false, seen')
theorem noN : NoHit codeN := by
  intro c h1 h2 seen
  have e1 : Sre.inSet codeN c codeN.size 5 true seen = (if (0 ≤ c && c ≤ 31) = true then .ok (true, seen.add 22) else Sre.inSet codeN c 19 8 true (seen.add 22)) := rfl
  have e2 : ∀ s, Sre.inSet codeN c 19 8 true s = (if (c == 127) = true then .ok (true, s.add 16) else Sre.inSet codeN c 18 10 true (s.add 16)) := fun _ => rfl
  have e3 : ∀ s, Sre.inSet codeN c 18 10 true s = .ok (false, s.add 0) := fun _ => rfl
  rw [e1, if_neg (by simp; omega), e2, if_neg (by simp; omega), e3]
  exact ⟨_, rfl⟩
theorem noV : NoHit codeV := by
  intro c h1 h2 seen
  have e1 : Sre.inSet codeV c codeV.size 5 true seen = (if (c < 256 && (codeV.getD (5 + (1 + c / 32)) 0).testBit (c % 32)) = true then .ok (true, seen.add 9) else Sre.inSet codeV c 27 14 true (seen.add 9)) := rfl
  have e3 : ∀ s, Sre.inSet codeV c 27 14 true s = .ok (false, s.add 0) := fun _ => rfl
  have hb : ∀ c, c < 127 → 32 ≤ c → (c < 256 && (codeV.getD (5 + (1 + c / 32)) 0).testBit (c % 32)) = false := by decide +kernel
  rw [e1, if_neg (by rw [hb c h2 h1]; decide), e3]
  exact ⟨_, rfl⟩
theorem admitted_none {m : Sre.M} (hm : NoHit m.code) (ht : ∀ i, i < m.lim → 32 ≤ m.text.getD i 0 ∧ m.text.getD i 0 < 127) : ∀ (fuel s : Nat) (seen : Sre.Seen), ∃ seen', m.admitted fuel s seen = .ok (none, seen')
  | 0, s, seen => ⟨_, rfl⟩
  | fuel + 1, s, seen => by
    unfold Sre.M.admitted
    by_cases hs : s ≥ m.lim
    · rw [if_pos hs]; exact ⟨_, rfl⟩
    · rw [if_neg hs]
      obtain ⟨seen', h⟩ := hm _ (ht s (by omega)).1 (ht s (by omega)).2 seen
      rw [h]
      exact admitted_none hm ht fuel (s + 1) seen'
theorem search_none {code : Array Nat} {x : List Nat} (hc : NoHit code) (hf : ∀ m : Sre.M, m.code = code → m.hasFirstSet = true) (hx : ∀ c ∈ x, 32 ≤ c ∧ c < 127) :
    (Sre.forSearch code (strOf x).cps 0 0 (strOf x).cps.size false).answer = some false ∧ (Sre.forSearch code (strOf x).cps 0 0 (strOf x).cps.size false).frames = [] ∧ (Sre.forSearch code (strOf x).cps 0 0 (strOf x).cps.size false).outcome = none := by
  unfold Sre.forSearch
  dsimp only
  split
  · exact ⟨rfl, rfl, rfl⟩
  · have key : ∀ m : Sre.M, m.code = code → m.text = (strOf x).cps → m.lim = (strOf x).cps.size → ∀ fuel s seen, ∃ seen', m.admitted fuel s seen = .ok (none, seen') := fun m h1 h2 h3 fuel s seen =>
      admitted_none (by rw [h1]; exact hc) (fun i hi => by
        rw [h3] at hi
        rw [h2]
        have hi' : i < x.length := by simpa [strOf] using hi
        have e : (strOf x).cps.getD i 0 = x[i] := by simp [strOf, hi']
        rw [e]; exact hx _ (List.getElem_mem hi')) fuel s seen
    unfold Sre.M.attemptFrom
    rw [hf _ rfl]
    rw [if_neg (by simp)]
    split
    · rename_i heq
      obtain ⟨seen', h⟩ := (heq ▸ key _ rfl rfl rfl _ _ _ : ∃ seen', _ = Except.ok (none, seen'))
      cases h
    · exact ⟨rfl, rfl, rfl⟩
    · rename_i heq
      obtain ⟨seen', h⟩ := (heq ▸ key _ rfl rfl rfl _ _ _ : ∃ seen', _ = Except.ok (none, seen'))
      cases h
section
variable {C : Cx} {s₀ : Shared} {W : List Addr} {env : Env} {G : List (Nat × GenState)} {A : Around} {E : Value → Shared → Prop} {m m' : List (Str × Bnd)} {n n' : List (Addr × Obj)}
theorem wp_rules {M : Model} {s : Shared} {p : Nat → Bool} {tag : Nat → String} {Q : PUnit → Shared → Prop} : ∀ (l : List Nat), Q PUnit.unit s →
    wpAny M A (forIn l PUnit.unit fun i (_ : PUnit) => if p i = true then (do rule (tag i); pure (ForInStep.yield PUnit.unit)) else pure (ForInStep.yield PUnit.unit)) Q E s
  | [], h => wpAny_pure h
  | a :: l, h => by
    rw [List.forIn_cons]
    refine wpAny_bind ?_
    by_cases hp : p a = true
    · rw [if_pos hp]; exact wpAny_bind (wpAny_rule (wpAny_pure (wp_rules l h)))
    · rw [if_neg hp]; exact wpAny_pure (wp_rules l h)
theorem run_none {M : Model} {s : Shared} {m : Sre.M} (h1 : m.answer = some false) (h2 : m.frames = []) (h3 : m.outcome = none) {Q : Option Sre.M → Shared → Prop} (h : Q none s) : wpAny M A (Builtin.Re.reRunToEnd m) Q E s := by
  have hstep : m.step = { m with outcome := some .failed } := by
    unfold Sre.M.step
    rw [h3, h1, h2]; rfl
  have hrun : m.runFor Builtin.Re.reTurnSteps = { m with outcome := some .failed } := by
    show Sre.M.runFor (3 + 1) m = _
    unfold Sre.M.runFor
    rw [h3]
    simp only [Option.isSome_none, Bool.false_eq_true, if_false]
    rw [hstep]
    unfold Sre.M.runFor
    simp
  unfold Builtin.Re.reRunToEnd
  have hd : Builtin.Re.reDrive (2 ^ 64) m = pure { m with outcome := some .failed } := by
    show Builtin.Re.reDrive ((2 ^ 64 - 1) + 1) m = _
    unfold Builtin.Re.reDrive
    rw [hrun]
    simp
  rw [hd]
  refine wpAny_bind (wpAny_pure ?_)
  refine wpAny_bind (wp_rules (p := fun i => m.seen.has i) (tag := fun i => Sre.names.getD i "") _ ?_)
  exact wpAny_pure h
theorem c_search {R cT : Addr} {x : List Nat} {t : Tok} {code : Array Nat} {fs : Array Value} {its : Array Value} {ne : Nat} {Q : Value → Shared → Prop} (hR : (KK C.w).lookup R = some { cls := .type "re.Pattern", data := .fields fs }) (hT : (KK C.w).lookup cT = some { cls := .type "tuple", data := .seq its ne })
    (h2 : fs.getD 2 .none = .int 0 0) (h5 : fs.getD 5 .none = .ref cT) (h6 : fs.getD 6 .none = .int 0 0) (hits : (its.map Builtin.Re.reRawOf).map (·.toNat) = code)
    (hc : NoHit code) (hf : ∀ m : Sre.M, m.code = code → m.hasFirstSet = true) (hx : ∀ c ∈ x, 32 ≤ c ∧ c < 127) (hl : x.length ≤ 1000000) (h : ∀ s, St C s₀ W env G s m n → Q .none s) :
    ∀ s, St C s₀ W env G s m n → wpAny (MM C.w) A (call (.builtin "re.Pattern.search") ([.ref R] ++ [.str (strOf x) t])) Q E s := fun s D => by
  have hR' := D.g.K _ _ hR
  have hT' := D.g.K _ _ hT
  have hTy : s.TypeIs (.ref R) "re.Pattern" := ⟨_, hR', rfl⟩
  show wpAny _ _ (call (.builtin "re.Pattern.search") [.ref R, .str (strOf x) t]) Q E s
  refine wpAny_call_entry slot_search hTy entry_search ?_ (args_search _ _)
  unfold Builtin.«re.Pattern.search» Builtin.Re.reTarget
  refine wpAny_bind ?_
  dsimp only
  refine wpAny_bind (wpAny_of_eq (a := [some (.str (strOf x) t), none, none]) (by rfl) ?_)
  dsimp only
  refine wpAny_bind (wpAny_pure ?_)
  refine wpAny_bind (wpAny_pure ?_)
  refine wpAny_bind (wpAny_fieldsOf hR' rfl ?_)
  refine wpAny_bind (wpAny_of_eq (a := ((strOf x).cps, 0)) (by rfl) ?_)
  dsimp only
  rw [h6, h5, h2]
  refine wpAny_bind (wpAny_of_eq (a := ()) (by rfl) ?_)
  refine wpAny_bind (wpAny_bind (wpAny_seqItems hT' rfl (wpAny_pure ?_)))
  refine wpAny_pure ?_
  dsimp only
  rw [Option.getD_some, hits]
  have e1 : min (Int.toNat 0) (strOf x).cps.size = 0 := Nat.zero_min _
  have e2 : min (2 ^ 63 - 1 : Int).toNat (strOf x).cps.size = (strOf x).cps.size := by
    refine Nat.min_eq_right ?_
    have : (strOf x).cps.size = x.length := by simp [strOf]
    rw [this]
    have : ((2 ^ 63 - 1 : Int)).toNat = 9223372036854775807 := by decide
    omega
  rw [e1, e2]
  obtain ⟨g1, g2, g3⟩ := search_none hc hf hx
  unfold Builtin.Re.reAnswer
  refine wpAny_bind (run_none g1 g2 g3 ?_)
  exact wpAny_pure ⟨_, rfl, h s D⟩
theorem g_search {R : Addr} {fs : Array Value} {pl : Sem Bool} {Q : Value × List Value → Shared → Prop} (hR : (KK C.w).lookup R = some { cls := .type "re.Pattern", data := .fields fs }) (h : ∀ s, St C s₀ W env G s m n → Q (.builtin "re.Pattern.search", [.ref R]) s) :
    ∀ s, St C s₀ W env G s m n → wpAny (MM C.w) A (getMethod (.ref R) "search" pl) Q E s := fun s D => by
  have hR' := D.g.K _ _ hR
  exact getMethod_builtin ⟨_, hR', rfl⟩ plain_search slot_search type_search (fun a e => by cases e; exact ⟨_, hR', rfl⟩) (h s D)
end
section
variable {C : Cx} {s₀ : Shared} {W : List Addr} {env : Env} {G : List (Nat × GenState)} {A : Around} {E : Value → Shared → Prop} {m m' : List (Str × Bnd)} {n n' : List (Addr × Obj)}
theorem t_methKw {o : Expr} {name : Str} {apos pos : Pos} {args : List Expr} {kws : List Keyword} {pl : Sem Bool} {Q : Value → Shared → Prop}
    (h : ∀ s, St C s₀ W env G s m n → wpAny (MM C.w) A (eval o env) (KM1 C A E name pl (KM2k C A env E pos args kws Q)) E s)
    (he : eval (.Call (.Attribute o name apos) args kws pos) env = (do
      let ov ← eval o env
      standAt apos.atName
      let (f, first) ← holding [ov] (getMethod ov name pl)
      callWith pos f first (backTo pos (starEach args env)) (backToKw pos (keywordEach kws env))) := by with_unfolding_all rfl) :
    ∀ s, St C s₀ W env G s m n → wpAny (MM C.w) A (eval (.Call (.Attribute o name apos) args kws pos) env) Q E s := fun s D => by
  rw [he]
  refine wpAny_bind (wpAny_mono (h s D) (fun ov s₁ h₁ => ?_) fun _ _ e => e)
  refine wpAny_bind (wpAny_standAt (wpAny_bind (wpAny_holding (wpAny_mono h₁ (fun fx s₂ h₂ => ?_) fun _ _ e => e))))
  exact h₂
theorem t_callKw1 {pos kp : Pos} {f : Value} {first : List Value} {e kv : Expr} {kn : Str} {rest : List Expr} {Q : Value → Shared → Prop}
    (h : ∀ s, St C s₀ W env G s m n → wpAny (MM C.w) A (spliced (backTo pos (starEach (e :: rest) env))) (KKw C A env E f first kn kv Q) E s)
    (he : starEach (e :: rest) env = (false, eval e env) :: starEach rest env := by with_unfolding_all rfl) (hplain : ((backTo pos (starEach (e :: rest) env)).any (·.1) || (backToKw pos (keywordEach [⟨some kn, kv, kp⟩] env)).any (·.1.isNone)) = false := by with_unfolding_all rfl) :
    ∀ s, St C s₀ W env G s m n → wpAny (MM C.w) A (callWith pos f first (backTo pos (starEach (e :: rest) env)) (backToKw pos (keywordEach [⟨some kn, kv, kp⟩] env))) Q E s := fun s D => by
  refine callWith_of (P := KpOk C f) hplain (fun _ x => x) ?_
  refine evalArgs_kw2 (by with_unfolding_all rfl) (wpAny_mono (h s D) (fun vs s₁ h₁ => ?_) fun _ _ e => e) he
  refine kwAll_cons (wpAny_mono h₁ (fun v s₂ h₂ => ?_) fun _ _ e => e)
  exact kwAll_nil h₂
theorem c_typeS {x : Str} {t : Tok} {Q : Value → Shared → Prop} (h : ∀ s, St C s₀ W env G s m n → Q (.type "str") s) : ∀ s, St C s₀ W env G s m n → wpAny (MM C.w) A (call (.type "type") ([] ++ [.str x t])) Q E s := fun s D =>
  call_type_of (typeIs_str _ _ _) (by decide) (h s D)
theorem c_typeL {l : Addr} {vs : List Value} {e : Nat} {Q : Value → Shared → Prop} (hl : (l, listObj vs e) ∈ n) (h : ∀ s, St C s₀ W env G s m n → Q (.type "list") s) : ∀ s, St C s₀ W env G s m n → wpAny (MM C.w) A (call (.type "type") ([] ++ [.ref l])) Q E s := fun s D =>
  call_type_of ⟨_, D.get hl, rfl⟩ (by decide) (h s D)
theorem o_isT {X : String} {Q : Value → Shared → Prop} (h : ∀ s, St C s₀ W env G s m n → Q (.bool true) s) : ∀ s, St C s₀ W env G s m n → wpAny (MM C.w) A (compareOp .Is (.type X) (.type X)) Q E s := fun s D => wpAny_is_self rfl (h s D)
theorem o_isNotT {X : String} {Q : Value → Shared → Prop} (h : ∀ s, St C s₀ W env G s m n → Q (.bool false) s) : ∀ s, St C s₀ W env G s m n → wpAny (MM C.w) A (compareOp .IsNot (.type X) (.type X)) Q E s := fun s D => wpAny_isNot_self rfl (h s D)
theorem o_tnone {Q : Bool → Shared → Prop} (h : ∀ s, St C s₀ W env G s m n → Q false s) : ∀ s, St C s₀ W env G s m n → wpAny (MM C.w) A (truthy .none) Q E s := fun s D => fun _ _ _ => h s D
noncomputable def Plain (x : List Nat) : Prop := ∀ c ∈ x, 32 ≤ c ∧ c < 127
/-- _convert_string_type -/
theorem s_conv {X : Value} {x : List Nat} {t : Tok} {b : Bool} {Q : Value → Shared → Prop} (hA : Ok A 10) (hx : Plain x) (hl : x.length ≤ 1000000) (h : ∀ s, St C s₀ W env G s m n → Q (.str (strOf x) t) s) :
    ∀ s, St C s₀ W env G s m n → wpAny (MM C.w) A (call (.ref 208) [X, .str (strOf x) t] [("name", .bool b)]) Q E s := by
  intro s D
  refine enter f208 [("self", X), ("value", .str (strOf x) t), ("name", .bool b)] _ [] D (hA.le (by decide) : Ok A (9 + 1)) rfl (by decide +kernel) (.of_eq (by kernel_rfl)) hl208 (mi208 C.w) (by kqd_all) .nil ?_
  intro L E'
  have hA' : Ok (A.deeper (fnEnv f208.fd 208 L)) 5 := (hA.le (by decide) : Ok A (5 + 1)).deeper
  generalize (A.deeper (fnEnv f208.fd 208 L)) = A' at hA' ⊢
  repeat' tb_start
  (try refine c_typeS ?_)
  repeat' tb_start
  (try refine o_isT ?_)
  repeat' tb_start
  cases b with
  | true =>
    repeat' tb_start
    refine g_search (rxN.hR C.w) ?_
    repeat' tb_start
    refine c_search (rxN.hR C.w) (rxN.hT C.w) rxN.h2 rxN.h5 rxN.h6 (hits_of _) noN (fun m h => by unfold Sre.M.hasFirstSet; rw [h]; rfl) hx hl ?_
    repeat' tb_start
    (try refine o_tnone ?_)
    repeat' tb_start
    intro s₂ D₂
    exact h s₂ (D.back (R := []) (n₁ := []) (D₂.sub (List.nil_sublist _)) (by kqd_all) (by lcg_sub))
  | false =>
    repeat' tb_start
    refine g_search (rxV.hR C.w) ?_
    repeat' tb_start
    refine c_search (rxV.hR C.w) (rxV.hT C.w) rxV.h2 rxV.h5 rxV.h6 (hits_of _) noV (fun m h => by unfold Sre.M.hasFirstSet; rw [h]; rfl) hx hl ?_
    repeat' tb_start
    (try refine o_tnone ?_)
    repeat' tb_start
    intro s₂ D₂
    exact h s₂ (D.back (R := []) (n₁ := []) (D₂.sub (List.nil_sublist _)) (by kqd_all) (by lcg_sub))
end
noncomputable def lw (x : List Nat) : List Nat := (Txt.lower (strOf x)).cps.toList
theorem lw_str (x : List Nat) : Txt.lower (strOf x) = strOf (lw x) := Str.ext' (by simp [lw, strOf])
noncomputable def up (x : List Nat) : List Nat := (Txt.upper (strOf x)).cps.toList
theorem up_str (x : List Nat) : Txt.upper (strOf x) = strOf (up x) := Str.ext' (by simp [up, strOf])
structure Good (x : List Nat) : Prop where
  p : Plain x
  pl : Plain (lw x)
  l : x.length ≤ 1000
  ll : (lw x).length ≤ 1000
inductive TP : List Value → List (Addr × Obj) → List (List Nat × List Nat) → Prop
  | nil : TP [] [] []
  | snoc {vs ts l} (T : Addr) (k v : List Nat) (tk tv : Tok) : TP vs ts l → TP (vs ++ [.ref T]) ((T, tupObj [.str (strOf k) tk, .str (strOf v) tv]) :: ts) (l ++ [(k, v)])
theorem TP.len {vs : List Value} {ts : List (Addr × Obj)} {l : List (List Nat × List Nat)} (h : TP vs ts l) : vs.length = l.length := by
  induction h with
  | nil => rfl
  | snoc _ _ _ _ _ _ ih => simp [ih]
theorem TP.get {vs : List Value} {ts : List (Addr × Obj)} {l : List (List Nat × List Nat)} (h : TP vs ts l) {i : Nat} {x : Value} (hx : vs[i]? = some x) : ∃ T k v tk tv, x = .ref T ∧ (T, tupObj [.str (strOf k) tk, .str (strOf v) tv]) ∈ ts ∧ l[i]? = some (k, v) := by
  induction h with
  | nil => cases hx
  | @snoc vs ts l T k v tk tv hT ih =>
    rcases Nat.lt_trichotomy i vs.length with h | h | h
    · rw [List.getElem?_append_left h] at hx
      obtain ⟨T', k', v', tk', tv', e, hm, hl⟩ := ih hx
      exact ⟨T', k', v', tk', tv', e, .tail _ hm, by rw [List.getElem?_append_left (by rw [← hT.len]; exact h)]; exact hl⟩
    · subst h
      rw [List.getElem?_append_right (Nat.le_refl _), Nat.sub_self] at hx
      cases hx
      exact ⟨T, k, v, tk, tv, rfl, .head _, by rw [hT.len, List.getElem?_append_right (Nat.le_refl _), Nat.sub_self]; rfl⟩
    · rw [List.getElem?_eq_none (by simp; omega)] at hx; cases hx
theorem cls309 (C : Cx) : ClsOk C 309 := ⟨by kernel_rfl, by kernel_rfl, by kernel_rfl, by kernel_rfl, by kernel_rfl⟩
noncomputable def hdL (H dx : Addr) (o : Obj) (hl : Addr) (vs : List Value) (e : Nat) (ts : List (Addr × Obj)) : List (Addr × Obj) := (H, instObj 309 dx) :: (dx, o) :: (hl, listObj vs e) :: ts
structure HdP (o : Obj) (hl : Addr) (vs : List Value) (ts : List (Addr × Obj)) (l : List (List Nat × List Nat)) : Prop where
  d : DictIs o [("_headers", .ref hl)]
  t : TP vs ts l
  g : ∀ p ∈ l, Good p.1 ∧ Plain p.2 ∧ p.2.length ≤ 1000
  n : l.length ≤ 30
noncomputable def getF (l : List (List Nat × List Nat)) (x : List Nat) : Option (List Nat) := (l.find? fun p => decide (lw p.1 = x)).map (·.2)
section
variable {C : Cx} {s₀ : Shared} {W : List Addr} {env : Env} {G : List (Nat × GenState)} {A : Around} {E : Value → Shared → Prop} {m m' : List (Str × Bnd)} {n n' : List (Addr × Obj)}
theorem c_lower {x : List Nat} {t : Tok} {Q : Value → Shared → Prop} (hl : (lw x).length ≤ 1000) (h : ∀ t, ∀ s, St C s₀ W env G s m n → Q (.str (strOf (lw x)) t) s) :
    ∀ s, St C s₀ W env G s m n → wpAny (MM C.w) A (call (.builtin "str.lower") ([.str (strOf x) t] ++ [])) Q E s := fun s D => by
  refine SC.lower ?_ ?_
  · rw [lw_str, strOf_len]; unfold Builtin.Str.tooLong; simp [sizeLine_eq]; omega
  · rw [lw_str]; exact h _ _ (D.tok _ _)
theorem HdP.hs {o : Obj} {hl : Addr} {vs : List Value} {ts : List (Addr × Obj)} {l : List (List Nat × List Nat)} (P : HdP o hl vs ts l) {H dx : Addr} {b : Bool} {Q : Value → Shared → Prop}
    (hx : (H, instObj 309 dx) ∈ n) (hd : (dx, o) ∈ n) (h : ∀ s, St C s₀ W env G s m n → Q (.ref hl) s) : ∀ s, St C s₀ W env G s m n → wpAny (MM C.w) A (getAttr (.ref H) "_headers" b) Q E s :=
  t_getA (cls309 C) hx hd P.d rfl (by kernel_rfl) rfl h
theorem HdP.meth {o : Obj} {hl : Addr} {vs : List Value} {ts : List (Addr × Obj)} {l : List (List Nat × List Nat)} (P : HdP o hl vs ts l) {H dx f : Addr} {name : Str} {pl : Sem Bool} {Q : Value × List Value → Shared → Prop}
    (hx : (H, instObj 309 dx) ∈ n) (hd : (dx, o) ∈ n) (hne : (name == ("_headers" : Str)) = false) (hf : findIn (KK C.w) (.ref 309) name = some (some (.ref f))) (ht : typeIn (KK C.w) (.ref f) = some (.type "function"))
    (h : ∀ s, St C s₀ W env G s m n → Q (.ref f, [.ref H]) s) : ∀ s, St C s₀ W env G s m n → wpAny (MM C.w) A (getMethod (.ref H) name pl) Q E s := by
  refine t_methI (cls309 C) hx hd P.d ?_ hf ht h
  rw [List.lookup_cons, hne]; rfl
inductive I23 (H dx hl : Addr) (o : Obj) (vs : List Value) (e : Nat) (ts : List (Addr × Obj)) (l : List (List Nat × List Nat)) (x : List Nat) (t1 : Tok) (dv : Value) (i : Nat) (m₁ : List (Str × Bnd)) (n₁ : List (Addr × Obj)) : Prop
  | mk (vk vv : Option Value) (_ : m₁ = M256 (some (.ref H)) (some (.str (strOf (lw x)) t1)) (some dv) vk vv) (_ : n₁ = hdL H dx o hl vs e ts) (_ : getF (l.drop i) (lw x) = getF l (lw x))
theorem s_get {H dx hl : Addr} {o : Obj} {vs : List Value} {e : Nat} {ts : List (Addr × Obj)} {l : List (List Nat × List Nat)} {x : List Nat} {t : Tok} {dv : Value} {args : List Value} {Q : Value → Shared → Prop} (hA : Ok A 30) (P : HdP o hl vs ts l) (hin : ∀ p ∈ hdL H dx o hl vs e ts, p ∈ n) (hnd : ((hdL H dx o hl vs e ts).map (·.1)).Nodup)
    (hx : Good x) (ha : args = [.ref H, .str (strOf x) t, dv] ∨ (args = [.ref H, .str (strOf x) t] ∧ dv = .none))
    (h1 : ∀ v t, getF l (lw x) = some v → ∀ s, St C s₀ W env G s m n → Q (.str (strOf v) t) s) (h2 : getF l (lw x) = none → ∀ s, St C s₀ W env G s m n → Q dv s) :
    ∀ s, St C s₀ W env G s m n → wpAny (MM C.w) A (call (.ref 256) args []) Q E s := by
  intro s D
  have body : ∀ L E', ∀ s₁, St C s ((hdL H dx o hl vs e ts).map (·.1)) (fnEnv f256.fd 256 L) [] s₁ (M256 (some (.ref H)) (some (.str (strOf x) t)) (some dv) none none) (hdL H dx o hl vs e ts) →
      wpAny (MM C.w) (A.deeper (fnEnv f256.fd 256 L)) (execs f256.body (fnEnv f256.fd 256 L)) (fun fl s' => Q (match fl with | .ret v => v | _ => .none) s') E' s₁ := by
    intro L E'
    have hA' : Ok (A.deeper (fnEnv f256.fd 256 L)) 25 := (hA.le (by decide) : Ok A (25 + 1)).deeper
    generalize (A.deeper (fnEnv f256.fd 256 L)) = A' at hA' ⊢
    have hK := cls309 C
    unfold hdL
    repeat' tb_start
    refine P.meth (f := 208) (by news_at) (by news_at) (by kernel_rfl) (by kernel_rfl) (by kernel_rfl) ?_
    repeat' tb_start
    refine c_lower hx.ll ?_
    intro t1
    repeat' tb_start
    refine s_conv (hA'.le (by decide)) hx.pl (by have := hx.ll; omega) ?_
    repeat' tb_start
    refine P.hs (by news_at) (by news_at) ?_
    refine t_forI (I23 H dx hl o vs e ts l x t1 dv) hA'.hh (iter_list (by news_at)) ?_ ⟨_, _, rfl, rfl, rfl⟩ ?_ ?_
    · rintro i m₁ n₁ ⟨_, _, rfl, rfl, _⟩ p hp
      obtain rfl := List.mem_singleton.mp hp
      unfold hdL; news_at
    · rintro i v m₁ n₁ I oI E' hi hv ⟨vk, vv, rfl, rfl, hg⟩
      obtain ⟨T, k, w, tk, tw, rfl, hT, hl'⟩ := P.t.get hv
      obtain ⟨hlt, hie⟩ := List.getElem?_eq_some_iff.mp hl'
      have hgood := P.g (k, w) (List.mem_of_getElem? hl')
      rw [List.drop_eq_getElem_cons hlt, hie] at hg
      unfold hdL
      refine t_asgTup (T := T) (hA'.le (by decide)) (.tail _ (.tail _ (.tail _ (.tail _ hT)))) rfl rfl ?_
      repeat' tb_start
      refine c_lower hgood.1.ll ?_
      intro t2
      repeat' tb_start
      refine t_itb (fun hq => ?_) (fun hq => ?_)
      · have hq : lw k = lw x := by simpa using hq
        repeat' tb_start
        intro s₂ D₂
        refine h1 w tw ?_ s₂ (D.back (R := hdL H dx o hl vs e ts) (n₁ := []) D₂ hin (.cons _ (.refl _)))
        rw [← hg]; simp [getF, hq]
      · have hq : lw k ≠ lw x := by simpa using hq
        repeat' tb_start
        intro s₂ D₂
        exact ⟨_, _, ⟨_, _, rfl, rfl, by rw [← hg]; simp [getF, hq]⟩, D₂⟩
    · rintro m₁ n₁ E' ⟨vk, vv, rfl, rfl, hg⟩
      rw [P.t.len, List.drop_length] at hg
      repeat' tb_start
      intro s₂ D₂
      exact h2 (by rw [← hg]; rfl) s₂ (D.back (R := hdL H dx o hl vs e ts) (n₁ := []) D₂ hin (.refl _))
  rcases ha with rfl | ⟨rfl, rfl⟩
  · exact enter f256 [("self", .ref H), ("name", .str (strOf x) t), ("default", dv)] _ (hdL H dx o hl vs e ts) D (hA.le (by decide) : Ok A (29 + 1)) rfl (by decide +kernel) (.of_defaults rfl (D.g.K 249 _ rfl) rfl rfl (by kernel_rfl)) hl256 (mi256 C.w) hin hnd body
  · exact enter f256 [("self", .ref H), ("name", .str (strOf x) t), ("default", .none)] _ (hdL H dx o hl vs e ts) D (hA.le (by decide) : Ok A (29 + 1)) rfl (by decide +kernel) (.of_defaults rfl (D.g.K 249 _ rfl) rfl rfl (by kernel_rfl)) hl256 (mi256 C.w) hin hnd body
end
noncomputable abbrev Mkv (vk vv : Option Value) : List (Str × Bnd) := [("k", .loc vk), ("v", .loc vv)]
section
variable {C : Cx} {s₀ : Shared} {W : List Addr} {env : Env} {G : List (Nat × GenState)} {A : Around} {E : Value → Shared → Prop} {m m' : List (Str × Bnd)} {n n' : List (Addr × Obj)}
theorem s_contains {H dx hl : Addr} {o : Obj} {vs : List Value} {e : Nat} {ts : List (Addr × Obj)} {l : List (List Nat × List Nat)} {x : List Nat} {t : Tok} {Q : Value → Shared → Prop} (hA : Ok A 40) (P : HdP o hl vs ts l) (hin : ∀ p ∈ hdL H dx o hl vs e ts, p ∈ n) (hnd : ((hdL H dx o hl vs e ts).map (·.1)).Nodup)
    (hx : Good x) (h : ∀ s, St C s₀ W env G s m n → Q (.bool (getF l (lw x)).isSome) s) :
    ∀ s, St C s₀ W env G s m n → wpAny (MM C.w) A (call (.ref 241) [.ref H, .str (strOf x) t] []) Q E s := by
  intro s D
  refine e241 (hdL H dx o hl vs e ts) D (hA.le (by decide) : Ok A (39 + 1)) hin hnd ?_
  intro L E'
  have hA' : Ok (A.deeper (fnEnv f241.fd 241 L)) 35 := (hA.le (by decide) : Ok A (35 + 1)).deeper
  generalize (A.deeper (fnEnv f241.fd 241 L)) = A' at hA' ⊢
  have hb : ∀ s₂, St C s ((hdL H dx o hl vs e ts).map (·.1)) (fnEnv f241.fd 241 L) [] s₂ (M241 (some (.ref H)) (some (.str (strOf x) t))) (hdL H dx o hl vs e ts) → St C s₀ W env G s₂ m n := fun s₂ D₂ => D.back (R := hdL H dx o hl vs e ts) (n₁ := []) D₂ hin (.refl _)
  unfold hdL at hb ⊢
  repeat' tb_start
  refine P.meth (f := 256) (by news_at) (by news_at) (by kernel_rfl) (by kernel_rfl) (by kernel_rfl) ?_
  repeat' tb_start
  refine s_get (hA'.le (by decide)) P (e := e) (dx := dx) (by unfold hdL; exact fun p hp => hp) hnd hx (.inr ⟨rfl, rfl⟩) (fun v tv hg => ?_) (fun hg => ?_)
  · repeat' tb_start
    intro s₂ D₂
    have := h s₂ (hb s₂ D₂)
    rw [hg] at this
    exact this
  · repeat' tb_start
    intro s₂ D₂
    have := h s₂ (hb s₂ D₂)
    rw [hg] at this
    exact this
theorem s_keys {H dx hl : Addr} {o : Obj} {vs : List Value} {e : Nat} {ts : List (Addr × Obj)} {l : List (List Nat × List Nat)} {Q : Value → Shared → Prop} (hA : Ok A 40) (P : HdP o hl vs ts l) (hin : ∀ p ∈ hdL H dx o hl vs e ts, p ∈ n) (hnd : ((hdL H dx o hl vs e ts).map (·.1)).Nodup)
    (h : ∀ a ys e, SL ys (l.map (·.1)) → ∀ s, St C s₀ W env G s m ((a, listObj ys e) :: n) → Q (.ref a) s) :
    ∀ s, St C s₀ W env G s m n → wpAny (MM C.w) A (call (.ref 261) [.ref H] []) Q E s := by
  intro s D
  refine e261 (hdL H dx o hl vs e ts) D (hA.le (by decide) : Ok A (39 + 1)) hin hnd ?_
  intro L E'
  have hA' : Ok (A.deeper (fnEnv f261.fd 261 L)) 35 := (hA.le (by decide) : Ok A (35 + 1)).deeper
  generalize (A.deeper (fnEnv f261.fd 261 L)) = A' at hA' ⊢
  unfold hdL
  repeat' tb_start
  refine t_comp [] (by rfl) (by rfl) (by decide +kernel) ?_
  repeat' tb_start
  refine P.hs (by news_at) (by news_at) ?_
  refine comp_core (mc := Mkv none none) (fun i ys m₁ n₁ => ∃ vk vv, m₁ = Mkv vk vv ∧ n₁ = hdL H dx o hl vs e ts ∧ SL ys ((l.take i).map (·.1))) hA'.hh (iter_list (by news_at)) ?_ (by decide +kernel) (by rfl) ?_ (by decide +kernel) ⟨_, _, rfl, rfl, .nil⟩ ?_ ?_
  · rintro i ys m₁ n₁ ⟨_, _, rfl, rfl, _⟩ p hp
    obtain rfl := List.mem_singleton.mp hp
    unfold hdL; news_at
  · exact fun a => ⟨⟨by rfl, rfl⟩, ⟨by rfl, rfl⟩, trivial⟩
  · rintro i v ys m₁ n₁ I oI D' e' L' oL c E' hi hv ⟨vk, vv, rfl, rfl, hys⟩
    obtain ⟨T, k, w, tk, tw, rfl, hT, hl'⟩ := P.t.get hv
    unfold hdL
    refine t_asgTup (T := T) (hA'.le (by decide)) (.tail _ (.tail _ (.tail _ (.tail _ (.tail _ (.tail _ hT)))))) rfl rfl ?_
    repeat' tb_start
    refine t_tests0 ?_
    repeat' tb_start
    intro s₂ D₂
    refine ⟨?_, _, _, ⟨_, _, rfl, rfl, ?_⟩, D₂⟩
    · have := hys.length; rw [this, sizeLine_eq]; have := P.n; simp; omega
    · rw [List.take_add_one, hl']; simp only [Option.toList_some, List.map_append, List.map_cons, List.map_nil]; exact hys.snoc _ _
  · rintro ys m₁ n₁ D' e' c oC s' ⟨vk, vv, rfl, rfl, hys⟩ hC DD
    refine compPost_val hC DD ?_
    rw [P.t.len, List.take_length] at hys
    repeat' tb_start
    intro s₂ D₂
    exact h D' ys e' hys s₂ (D.back (R := hdL H dx o hl vs e ts) (n₁ := [(D', listObj ys e')]) D₂ hin (.refl _))
theorem s_values {H dx hl : Addr} {o : Obj} {vs : List Value} {e : Nat} {ts : List (Addr × Obj)} {l : List (List Nat × List Nat)} {Q : Value → Shared → Prop} (hA : Ok A 40) (P : HdP o hl vs ts l) (hin : ∀ p ∈ hdL H dx o hl vs e ts, p ∈ n) (hnd : ((hdL H dx o hl vs e ts).map (·.1)).Nodup)
    (h : ∀ a ys e, SL ys (l.map (·.2)) → ∀ s, St C s₀ W env G s m ((a, listObj ys e) :: n) → Q (.ref a) s) :
    ∀ s, St C s₀ W env G s m n → wpAny (MM C.w) A (call (.ref 266) [.ref H] []) Q E s := by
  intro s D
  refine e266 (hdL H dx o hl vs e ts) D (hA.le (by decide) : Ok A (39 + 1)) hin hnd ?_
  intro L E'
  have hA' : Ok (A.deeper (fnEnv f266.fd 266 L)) 35 := (hA.le (by decide) : Ok A (35 + 1)).deeper
  generalize (A.deeper (fnEnv f266.fd 266 L)) = A' at hA' ⊢
  unfold hdL
  repeat' tb_start
  refine t_comp [] (by rfl) (by rfl) (by decide +kernel) ?_
  repeat' tb_start
  refine P.hs (by news_at) (by news_at) ?_
  refine comp_core (mc := Mkv none none) (fun i ys m₁ n₁ => ∃ vk vv, m₁ = Mkv vk vv ∧ n₁ = hdL H dx o hl vs e ts ∧ SL ys ((l.take i).map (·.2))) hA'.hh (iter_list (by news_at)) ?_ (by decide +kernel) (by rfl) ?_ (by decide +kernel) ⟨_, _, rfl, rfl, .nil⟩ ?_ ?_
  · rintro i ys m₁ n₁ ⟨_, _, rfl, rfl, _⟩ p hp
    obtain rfl := List.mem_singleton.mp hp
    unfold hdL; news_at
  · exact fun a => ⟨⟨by rfl, rfl⟩, ⟨by rfl, rfl⟩, trivial⟩
  · rintro i v ys m₁ n₁ I oI D' e' L' oL c E' hi hv ⟨vk, vv, rfl, rfl, hys⟩
    obtain ⟨T, k, w, tk, tw, rfl, hT, hl'⟩ := P.t.get hv
    unfold hdL
    refine t_asgTup (T := T) (hA'.le (by decide)) (.tail _ (.tail _ (.tail _ (.tail _ (.tail _ (.tail _ hT)))))) rfl rfl ?_
    repeat' tb_start
    refine t_tests0 ?_
    repeat' tb_start
    intro s₂ D₂
    refine ⟨?_, _, _, ⟨_, _, rfl, rfl, ?_⟩, D₂⟩
    · have := hys.length; rw [this, sizeLine_eq]; have := P.n; simp; omega
    · rw [List.take_add_one, hl']; simp only [Option.toList_some, List.map_append, List.map_cons, List.map_nil]; exact hys.snoc _ _
  · rintro ys m₁ n₁ D' e' c oC s' ⟨vk, vv, rfl, rfl, hys⟩ hC DD
    refine compPost_val hC DD ?_
    rw [P.t.len, List.take_length] at hys
    repeat' tb_start
    intro s₂ D₂
    exact h D' ys e' hys s₂ (D.back (R := hdL H dx o hl vs e ts) (n₁ := [(D', listObj ys e')]) D₂ hin (.refl _))
theorem s_setdefault_old {H dx hl : Addr} {o : Obj} {vs : List Value} {e : Nat} {ts : List (Addr × Obj)} {l : List (List Nat × List Nat)} {x y : List Nat} {t u : Tok} {v0 : List Nat} {Q : Value → Shared → Prop} (hA : Ok A 40) (P : HdP o hl vs ts l) (hin : ∀ p ∈ hdL H dx o hl vs e ts, p ∈ n) (hnd : ((hdL H dx o hl vs e ts).map (·.1)).Nodup)
    (hx : Good x) (hg : getF l (lw x) = some v0) (h : ∀ t, ∀ s, St C s₀ W env G s m n → Q (.str (strOf v0) t) s) :
    ∀ s, St C s₀ W env G s m n → wpAny (MM C.w) A (call (.ref 299) [.ref H, .str (strOf x) t, .str (strOf y) u] []) Q E s := by
  intro s D
  refine e299 (hdL H dx o hl vs e ts) D (hA.le (by decide) : Ok A (39 + 1)) hin hnd ?_
  intro L E'
  have hA' : Ok (A.deeper (fnEnv f299.fd 299 L)) 35 := (hA.le (by decide) : Ok A (35 + 1)).deeper
  generalize (A.deeper (fnEnv f299.fd 299 L)) = A' at hA' ⊢
  have hb : ∀ s₂ mm, St C s ((hdL H dx o hl vs e ts).map (·.1)) (fnEnv f299.fd 299 L) [] s₂ mm (hdL H dx o hl vs e ts) → St C s₀ W env G s₂ m n := fun s₂ mm D₂ => D.back (R := hdL H dx o hl vs e ts) (n₁ := []) D₂ hin (.refl _)
  unfold hdL at hb ⊢
  repeat' tb_start
  refine P.meth (f := 256) (by news_at) (by news_at) (by kernel_rfl) (by kernel_rfl) (by kernel_rfl) ?_
  repeat' tb_start
  refine s_get (hA'.le (by decide)) P (e := e) (dx := dx) (by unfold hdL; exact fun p hp => hp) hnd hx (.inr ⟨rfl, rfl⟩) (fun v tv hg' => ?_) (fun hg' => absurd (hg.symm.trans hg') (by simp))
  obtain rfl : v0 = v := Option.some.inj (hg.symm.trans hg')
  repeat' tb_start
  intro s₂ D₂
  exact h tv s₂ (hb s₂ _ D₂)
/-- what is laid at the end -/
theorem HdP.add {o : Obj} {hl : Addr} {vs : List Value} {ts : List (Addr × Obj)} {l : List (List Nat × List Nat)} (P : HdP o hl vs ts l) {k v : List Nat} (hk : Good k) (hv : Plain v) (hvl : v.length ≤ 1000) (hn : l.length < 30) (T : Addr) (tk tv : Tok) :
    HdP o hl (vs ++ [.ref T]) ((T, tupObj [.str (strOf k) tk, .str (strOf v) tv]) :: ts) (l ++ [(k, v)]) := by
  refine ⟨P.d, P.t.snoc _ _ _ _ _, fun p hp => ?_, by simp; omega⟩
  rcases List.mem_append.mp hp with hp | hp
  · exact P.g p hp
  · rw [List.mem_singleton.mp hp]; exact ⟨hk, hv, hvl⟩
theorem s_setdefault_new {H dx hl : Addr} {o : Obj} {vs : List Value} {e : Nat} {ts : List (Addr × Obj)} {l : List (List Nat × List Nat)} {x y : List Nat} {t u : Tok} {Q : Value → Shared → Prop} (hA : Ok A 40) (P : HdP o hl vs ts l)
    (hx : Good x) (hy : Plain y) (hyl : y.length ≤ 1000) (hn : l.length < 30) (hg : getF l (lw x) = none)
    (h : ∀ vs' e' ts', HdP o hl vs' ts' (l ++ [(x, y)]) → ∀ s, St C s₀ W env G s m (hdL H dx o hl vs' e' ts' ++ n) → Q (.str (strOf y) u) s) :
    ∀ s, St C s₀ W env G s m (hdL H dx o hl vs e ts ++ n) → wpAny (MM C.w) A (call (.ref 299) [.ref H, .str (strOf x) t, .str (strOf y) u] []) Q E s := by
  intro s D
  have hnd : ((hdL H dx o hl vs e ts).map (·.1)).Nodup := D.na.sublist ((List.sublist_append_left _ _).map _)
  refine e299 (hdL H dx o hl vs e ts) D (hA.le (by decide) : Ok A (39 + 1)) (fun p hp => List.mem_append_left _ hp) hnd ?_
  intro L E'
  have hA' : Ok (A.deeper (fnEnv f299.fd 299 L)) 35 := (hA.le (by decide) : Ok A (35 + 1)).deeper
  generalize (A.deeper (fnEnv f299.fd 299 L)) = A' at hA' ⊢
  unfold hdL at hnd D ⊢
  repeat' tb_start
  refine P.meth (f := 256) (by news_at) (by news_at) (by kernel_rfl) (by kernel_rfl) (by kernel_rfl) ?_
  repeat' tb_start
  refine s_get (hA'.le (by decide)) P (e := e) (dx := dx) (by unfold hdL; exact fun p hp => hp) hnd hx (.inr ⟨rfl, rfl⟩) (fun v tv hg' => absurd (hg.symm.trans hg') (by simp)) (fun _ => ?_)
  repeat' tb_start
  refine P.hs (by news_at) (by news_at) ?_
  repeat' tb_start
  refine P.meth (f := 208) (by news_at) (by news_at) (by kernel_rfl) (by kernel_rfl) (by kernel_rfl) ?_
  repeat' tb_start
  refine s_conv (hA'.le (by decide)) hx.p (by have := hx.l; omega) ?_
  repeat' tb_start
  refine P.meth (f := 208) (by news_at) (by news_at) (by kernel_rfl) (by kernel_rfl) (by kernel_rfl) ?_
  repeat' tb_start
  refine s_conv (hA'.le (by decide)) hy (by omega) ?_
  repeat' tb_start
  rename_i aT
  refine c_append (by news_at) (by tb_rel) (by rw [P.t.len, sizeLine_eq]; omega) ?_
  repeat' tb_start
  intro s₂ D₂
  have D₃ := D₂.perm (List.perm_middle (l₁ := [_, _, _]))
  exact h _ _ _ (P.add hx hy hyl hn aT t u) s₂ (D.backC D₃ (.refl _))
end
section
variable {C : Cx} {s₀ : Shared} {W : List Addr} {env : Env} {G : List (Nat × GenState)} {A : Around} {E : Value → Shared → Prop} {m m' : List (Str × Bnd)} {n n' : List (Addr × Obj)}
theorem s_headersL {al : Addr} {vs : List Value} {e : Nat} {ts : List (Addr × Obj)} {l : List (List Nat × List Nat)} {Q : Value → Shared → Prop} (hA : Ok A 40) (hT : TP vs ts l) (hg : ∀ p ∈ l, Good p.1 ∧ Plain p.2 ∧ p.2.length ≤ 1000) (hn : l.length ≤ 30)
    (h : ∀ H dx o, HdP o al vs ts l → ∀ s, St C s₀ W env G s m (hdL H dx o al vs e ts ++ n) → Q (.ref H) s) :
    ∀ s, St C s₀ W env G s m ((al, listObj vs e) :: (ts ++ n)) → wpAny (MM C.w) A (call (.ref 309) [.ref al] []) Q E s := by
  refine t_make (fI := 201) (by kernel_rfl) (by kernel_rfl) (by kernel_rfl) ?_
  intro H dx s D
  have D' : St C s₀ W env G s m (((H, instObj 309 dx) :: (dx, emptyDict) :: (al, listObj vs e) :: ts) ++ n) := D
  refine enterC f201 [("self", .ref H), ("headers", .ref al)] _ ((H, instObj 309 dx) :: (dx, emptyDict) :: (al, listObj vs e) :: ts) D' ((hA.le (by decide) : Ok A (38 + 1 + 1)).underTC _ _ _) rfl (by decide +kernel) (.of_defaults rfl (D.g.K 194 _ rfl) rfl rfl (by kernel_rfl)) hl201 (mi201 C.w) (fun p hp => List.mem_append_left _ hp) (D'.na.sublist ((List.sublist_append_left _ _).map _)) ?_
  intro L E'
  have hA' : Ok ((A.under (.builtin "type.__call__" ⟨.ref 309 :: [.ref al], []⟩)).deeper (fnEnv f201.fd 201 L)) 30 := (((hA.le (by decide) : Ok A (30 + 1 + 1)).underTC _ _ _)).deeper
  generalize ((A.under (.builtin "type.__call__" ⟨.ref 309 :: [.ref al], []⟩)).deeper (fnEnv f201.fd 201 L)) = A' at hA' ⊢
  have K := cls309 C
  repeat' tb_start
  refine c_typeL (by news_at) ?_
  repeat' tb_start
  refine t_setA K (by news_at) (by news_at) DictIs.empty (by decide) (by kernel_rfl) (by intro _; tb_rel) ?_
  intro o1 ho1
  repeat' tb_start
  have P : HdP o1 al vs ts l := ⟨cast (congrArg (DictIs o1) (by kernel_rfl)) ho1, hT, hg, hn⟩
  refine t_forI (fun i m₁ n₁ => ∃ vk vv, m₁ = M201 (some (.ref H)) (some (.ref al)) vk vv ∧ n₁ = hdL H dx o1 al vs e ts) hA'.hh (iter_list (by news_at)) ?_ ⟨_, _, rfl, rfl⟩ ?_ ?_
  · rintro i m₁ n₁ ⟨_, _, rfl, rfl⟩ p hp
    obtain rfl := List.mem_singleton.mp hp
    unfold hdL; news_at
  · rintro i v m₁ n₁ I oI E' hi hv ⟨vk, vv, rfl, rfl⟩
    obtain ⟨T, k, w, tk, tw, rfl, hTm, hl'⟩ := P.t.get hv
    have hgood : Good k ∧ Plain w ∧ w.length ≤ 1000 := P.g (k, w) (List.mem_of_getElem? hl')
    unfold hdL
    refine t_asgTup (T := T) (hA'.le (by decide)) (.tail _ (.tail _ (.tail _ (.tail _ hTm)))) rfl rfl ?_
    repeat' tb_start
    refine P.meth (f := 208) (by news_at) (by news_at) (by kernel_rfl) (by kernel_rfl) (by kernel_rfl) ?_
    repeat' tb_start
    refine s_conv (hA'.le (by decide)) hgood.1.p (by have := hgood.1.l; omega) ?_
    repeat' tb_start
    refine P.meth (f := 208) (by news_at) (by news_at) (by kernel_rfl) (by kernel_rfl) (by kernel_rfl) ?_
    repeat' tb_start
    refine s_conv (hA'.le (by decide)) hgood.2.1 (by have := hgood.2.2; omega) ?_
    repeat' tb_start
    intro s₂ D₂
    exact ⟨_, _, ⟨_, _, rfl, rfl⟩, D₂⟩
  · rintro m₁ n₁ E' ⟨vk, vv, rfl, rfl⟩
    repeat' tb_start
    intro s₂ D₂
    exact ⟨rfl, h H dx o1 P s₂ (D'.backC D₂ (.refl _))⟩
theorem s_headers0 {Q : Value → Shared → Prop} (hA : Ok A 40)
    (h : ∀ H dx o al, HdP o al [] [] [] → ∀ s, St C s₀ W env G s m (hdL H dx o al [] 0 [] ++ n) → Q (.ref H) s) :
    ∀ s, St C s₀ W env G s m n → wpAny (MM C.w) A (call (.ref 309) [] []) Q E s := by
  refine t_make (fI := 201) (by kernel_rfl) (by kernel_rfl) (by kernel_rfl) ?_
  intro H dx s D
  have D' : St C s₀ W env G s m ([(H, instObj 309 dx), (dx, emptyDict)] ++ n) := D
  refine enterC f201 [("self", .ref H), ("headers", .none)] _ [(H, instObj 309 dx), (dx, emptyDict)] D' ((hA.le (by decide) : Ok A (38 + 1 + 1)).underTC _ _ _) rfl (by decide +kernel) (.of_defaults rfl (D.g.K 194 _ rfl) rfl rfl (by kernel_rfl)) hl201 (mi201 C.w) (fun p hp => List.mem_append_left _ hp) (D'.na.sublist ((List.sublist_append_left _ _).map _)) ?_
  intro L E'
  have hA' : Ok ((A.under (.builtin "type.__call__" ⟨.ref 309 :: [], []⟩)).deeper (fnEnv f201.fd 201 L)) 30 := (((hA.le (by decide) : Ok A (30 + 1 + 1)).underTC _ _ _)).deeper
  generalize ((A.under (.builtin "type.__call__" ⟨.ref 309 :: [], []⟩)).deeper (fnEnv f201.fd 201 L)) = A' at hA' ⊢
  have K := cls309 C
  repeat' tb_start
  rename_i al
  refine c_typeL (by news_at) ?_
  repeat' tb_start
  refine t_setA K (by news_at) (by news_at) DictIs.empty (by decide) (by kernel_rfl) (by intro _; tb_rel) ?_
  intro o1 ho1
  repeat' tb_start
  have P : HdP o1 al [] [] [] := ⟨cast (congrArg (DictIs o1) (by kernel_rfl)) ho1, .nil, (fun _ h => (nomatch h)), by simp⟩
  refine t_forI (fun i m₁ n₁ => ∃ vk vv, m₁ = M201 (some (.ref H)) (some (.ref al)) vk vv ∧ n₁ = [(al, listObj [] 0), (H, instObj 309 dx), (dx, o1)]) hA'.hh (iter_list (vs := []) (by news_at)) ?_ ⟨_, _, rfl, rfl⟩ ?_ ?_
  · rintro i m₁ n₁ ⟨_, _, rfl, rfl⟩ p hp
    obtain rfl := List.mem_singleton.mp hp
    news_at
  · rintro i v m₁ n₁ I oI E' hi hv
    cases hv
  · rintro m₁ n₁ E' ⟨vk, vv, rfl, rfl⟩
    repeat' tb_start
    intro s₂ D₂
    have D₃ := D₂.perm (n' := [(H, instObj 309 dx), (dx, o1), (al, listObj [] 0)]) (by
      refine List.Perm.trans ?_ (List.Perm.swap _ _ _)
      exact List.Perm.cons _ (List.Perm.swap _ _ _))
    exact ⟨rfl, h H dx o1 al P s₂ (D'.backC D₃ (.refl _))⟩
end
/-- a dict of the text, by its address -/
structure Tb (a : Addr) where
  es : Array DictEntry
  ep : Nat
  h : ∀ w, (KK w).lookup a = some { cls := .type "dict", data := .dict es ep }
@[reducible] noncomputable def tb60 : Tb 60 := by
  refine ⟨?es, ?ep, fun w => ?h⟩
  case h => exact rfl
theorem keys60 (w : World) : KeysOf (intKind PR w) tb60.es := by
  have h : tb60.es.toList.all (fun e => match e.key with | .int k _ => decide (e.hash = hashInt k) | _ => false) = true := by decide +kernel
  intro e he
  have := List.all_eq_true.mp h e (Array.mem_toList_iff.mpr he)
  cases hk : e.key <;> rw [hk] at this <;> first | (cases this; done) | skip
  rename_i k t
  exact ⟨k, intKind_is _ _ _ _, of_decide_eq_true this⟩
section
variable {C : Cx} {s₀ : Shared} {W : List Addr} {env : Env} {G : List (Nat × GenState)} {A : Around} {E : Value → Shared → Prop} {m m' : List (Str × Bnd)} {n n' : List (Addr × Obj)}
theorem g_dget {pl : Sem Bool} {Q : Value × List Value → Shared → Prop} (h : ∀ s, St C s₀ W env G s m n → Q (.builtin "dict.get", [.ref 60]) s) :
    ∀ s, St C s₀ W env G s m n → wpAny (MM C.w) A (getMethod (.ref 60) "get" pl) Q E s := fun s D => by
  have ho := D.g.K _ _ (tb60.h C.w)
  exact getMethod_builtin ⟨_, ho, rfl⟩ PySem.F.plainAttrs_dict PySem.F.slot_dict_get PySem.F.type_dict_get (fun a e => by cases e; exact ⟨_, ho, rfl⟩) (h s D)
theorem c_get60 {i : Int} {t : Tok} {dv : Value} {Q : Value → Shared → Prop} (h : ∀ s, St C s₀ W env G s m n → Q ((findBy Value.isInt tb60.es i).getD dv) s) :
    ∀ s, St C s₀ W env G s m n → wpAny (MM C.w) A (call (.builtin "dict.get") ([.ref 60] ++ [.int i t, dv])) Q E s := fun s D => by
  have ho := D.g.K _ _ (tb60.h C.w)
  show wpAny _ _ (call (.builtin "dict.get") [.ref 60, .int i t, dv]) Q E s
  refine call_meetsIn PySem.F.slot_dict_get ⟨_, ho, rfl⟩ PySem.F.entry_dict_get (PySem.F.args_dict_get_3 _ _ _) (meets_dict_get_default (intKind PR C.w) 60 (intKind_is _ _ _ _) (by decide) dv) ?_
  exact ⟨_, ⟨_, _, _, ho, ⟨rfl, rfl, rfl⟩, rfl, keys60 C.w, fun _ => rfl⟩, h _ (D.tok s.drawn (s.toks + 1))⟩
end
noncomputable def hexL (i : Int) : List Nat := (baseText "0x" 16 i).cps.toList
theorem hexL_str (i : Int) : baseText "0x" 16 i = strOf (hexL i) := Str.ext' (by simp [hexL, strOf])
noncomputable def nmOf (i : Int) : List Nat := match findBy Value.isInt tb60.es i with
  | some (.str x _) => x.cps.toList
  | _ => hexL i
/-- the names that the loop gathers; none where it does not break -/
noncomputable def pfGo : Nat → Nat → Int → List (List Nat) → Option (List (List Nat))
  | 0, _, _, _ => none
  | r + 1, i, f, nm => if Builtin.bitAnd f (1 * 2 ^ i) ≠ 0 then
      (if Builtin.bitXor f (1 * 2 ^ i) = 0 then some (nm ++ [nmOf (1 * 2 ^ i)]) else pfGo r (i + 1) (Builtin.bitXor f (1 * 2 ^ i)) (nm ++ [nmOf (1 * 2 ^ i)]))
    else pfGo r (i + 1) f nm
section
variable {C : Cx} {s₀ : Shared} {W : List Addr} {env : Env} {G : List (Nat × GenState)} {A : Around} {E : Value → Shared → Prop} {m m' : List (Str × Bnd)} {n n' : List (Addr × Obj)} {a b : Int} {t u : Tok}
theorem o_and {Q : Value → Shared → Prop} (h : ∀ t, ∀ s, St C s₀ W env G s m n → Q (.int (Builtin.bitAnd a b) t) s) : ∀ s, St C s₀ W env G s m n → wpAny (MM C.w) A (binaryOp .BitAnd (.int a t) (.int b u)) Q E s := fun s D => and_int (h _ _ (D.tok _ _))
theorem o_ixor {Q : Value → Shared → Prop} (h : ∀ t, ∀ s, St C s₀ W env G s m n → Q (.int (Builtin.bitXor a b) t) s) : ∀ s, St C s₀ W env G s m n → wpAny (MM C.w) A (inplaceOp .BitXor (.int a t) (.int b u)) Q E s := fun s D => ixor_int (h _ _ (D.tok _ _))
theorem o_shl {k : Int} {Q : Value → Shared → Prop} (h0 : 0 ≤ k) (h1 : k ≤ 1000000) (ha : a.natAbs < 2 ^ 64) (h : ∀ t, ∀ s, St C s₀ W env G s m n → Q (.int (a * 2 ^ k.toNat) t) s) : ∀ s, St C s₀ W env G s m n → wpAny (MM C.w) A (binaryOp .LShift (.int a t) (.int k u)) Q E s := fun s D => lshift_int_small h0 h1 ha (h _ _ (D.tok _ _))
theorem c_hex {Q : Value → Shared → Prop} (hl : (hexL a).length ≤ 1000) (h : ∀ t, ∀ s, St C s₀ W env G s m n → Q (.str (strOf (hexL a)) t) s) : ∀ s, St C s₀ W env G s m n → wpAny (MM C.w) A (call (.builtin "hex") ([] ++ [.int a t])) Q E s := fun s D => by
  refine PySem.P.hex_of_int ?_ (by rw [hexL_str, strOf_len, sizeLine_eq]; omega)
  rw [hexL_str]; exact h _ _ (D.tok _ _)
theorem hex_short : ∀ i : Fin 32, (hexL (1 * 2 ^ i.val)).length ≤ 1000 ∧ (nmOf (1 * 2 ^ i.val)).length ≤ 1000 := by decide +kernel
theorem t_not {x : Expr} {pos : Pos} {whole : Sem Value} {Q : Bool → Shared → Prop} (h : ∀ s, St C s₀ W env G s m n → wpAny (MM C.w) A (isTrue x env (eval x env)) (KNot Q) E s) :
    ∀ s, St C s₀ W env G s m n → wpAny (MM C.w) A (isTrue (.UnaryOp .Not x pos) env whole) Q E s := fun s D => wpAny_isTrue_Not (h s D)
theorem nm_shape : ∀ i : Fin 32, (match findBy Value.isInt tb60.es (1 * 2 ^ i.val) with | some (.str _ _) => true | none => true | _ => false) = true := by decide +kernel
theorem nm_get (i : Fin 32) (t : Tok) : ∃ t', (findBy Value.isInt tb60.es (1 * 2 ^ i.val)).getD (.str (strOf (hexL (1 * 2 ^ i.val))) t) = .str (strOf (nmOf (1 * 2 ^ i.val))) t' := by
  have h := nm_shape i
  unfold nmOf
  generalize findBy Value.isInt tb60.es (1 * 2 ^ i.val) = r at h ⊢
  cases r with
  | none => exact ⟨t, rfl⟩
  | some v =>
    cases v <;> first | (cases h; done) | skip
    rename_i x t'
    exact ⟨t', by simp [strOf]⟩
inductive I27b (al r : Addr) (u t32 v : Tok) (nms : List (List Nat)) (m₁ : List (Str × Bnd)) (n₁ : List (Addr × Obj)) : Prop
  | mk (fl : Int) (tf : Tok) (ws : List Value) (e : Nat) (vi vf : Option Value) (_ : m₁ = M67 (some (.int fl tf)) (some (.ref al)) vi vf) (_ : n₁ = [(r, rangeObj 0 32 u t32 v), (al, listObj ws e)]) (_ : SL ws nms) (_ : nms.length ≤ 32) (_ : (∀ y ∈ nms, y.length ≤ 1000))
inductive I27 (al r : Addr) (u t32 v : Tok) (nms : List (List Nat)) (i : Nat) (m₁ : List (Str × Bnd)) (n₁ : List (Addr × Obj)) : Prop
  | mk (fl : Int) (tf : Tok) (nm : List (List Nat)) (ws : List Value) (e : Nat) (vi vf : Option Value) (_ : m₁ = M67 (some (.int fl tf)) (some (.ref al)) vi vf) (_ : n₁ = [(r, rangeObj 0 32 u t32 v), (al, listObj ws e)]) (_ : SL ws nm) (_ : nm.length ≤ i) (_ : (∀ y ∈ nm, y.length ≤ 1000)) (_ : pfGo (32 - i) i fl nm = some nms)
theorem s_flags {f : Int} {t : Tok} {nms : List (List Nat)} {Q : Value → Shared → Prop} (hA : Ok A 20) (hf : pfGo 32 0 f [] = some nms) (h : ∀ t, ∀ s, St C s₀ W env G s m n → Q (.str (strOf (joinL [44, 32] nms)) t) s) :
    ∀ s, St C s₀ W env G s m n → wpAny (MM C.w) A (call (.ref 67) [.int f t] []) Q E s := by
  intro s D
  refine e67 [] D (hA.le (by decide) : Ok A (19 + 1)) (by kqd_all) .nil ?_
  intro L E'
  have hA' : Ok (A.deeper (fnEnv f67.fd 67 L)) 10 := (hA.le (by decide) : Ok A (10 + 1)).deeper
  generalize (A.deeper (fnEnv f67.fd 67 L)) = A' at hA' ⊢
  repeat' tb_start
  rename_i al t32
  refine c_range1 ?_
  intro r u v
  refine t_forIB (I27 al r u t32 v nms)
    (I27b al r u t32 v nms) hA'.hh (iter_range (by news_at) (by omega) (by omega)) (by intro _ _ _ _ p hp; cases hp) ?_ ?_ ?_ ?_
  · exact ⟨_, _, [], [], 0, _, _, rfl, rfl, .nil, by simp, by simp, hf⟩
  · rintro i v m₁ n₁ I oI E' hi ⟨ti, rfl⟩ ⟨fl, tf, nm, ws, e, vi, vf, rfl, rfl, hws, hnl, hnb, hg⟩
    have hi : i < 32 := by simpa using hi
    obtain ⟨hh1, hh2⟩ := hex_short ⟨i, hi⟩
    dsimp only at hh1 hh2
    rw [show 32 - i = (31 - i) + 1 by omega, pfGo] at hg
    have ei : ((0 : Int) + (i : Nat)).toNat = i := by omega
    repeat' tb_start
    refine o_shl (by omega) (by omega) (by decide) ?_
    rw [ei]
    intro t1
    repeat' tb_start
    refine o_and ?_
    intro t2
    repeat' tb_start
    refine o_ti ?_
    refine t_itb (fun hq => ?_) (fun hq => ?_)
    · have hq : Builtin.bitAnd fl (1 * 2 ^ i) ≠ 0 := by simpa using hq
      rw [if_pos hq] at hg
      repeat' tb_start
      refine g_dget ?_
      repeat' tb_start
      refine c_hex hh1 ?_
      intro t3
      repeat' tb_start
      refine c_get60 ?_
      obtain ⟨t4, e4⟩ := nm_get ⟨i, hi⟩ t3
      dsimp only at e4
      rw [e4]
      repeat' tb_start
      refine c_append (by news_at) (by tb_rel) (by rw [hws.length, sizeLine_eq]; omega) ?_
      repeat' tb_start
      refine o_ixor ?_
      intro t5
      repeat' tb_start
      have hnm2 : ∀ y ∈ nm ++ [nmOf (1 * 2 ^ i)], y.length ≤ 1000 := fun y hy => by
        rcases List.mem_append.mp hy with hy | hy
        · exact hnb y hy
        · rw [List.mem_singleton.mp hy]; exact hh2
      refine t_not ?_
      repeat' tb_start
      refine o_ti ?_
      refine t_itb (fun hx => ?_) (fun hx => ?_)
      · have hx : Builtin.bitXor fl (1 * 2 ^ i) = 0 := by simpa using hx
        rw [if_pos hx] at hg
        cases hg
        repeat' tb_start
        intro s₂ D₂
        exact ⟨_, _, ⟨_, _, _, _, _, _, rfl, rfl, hws.snoc _ _, by simp; omega, hnm2⟩, D₂⟩
      · have hx : Builtin.bitXor fl (1 * 2 ^ i) ≠ 0 := by simpa using hx
        rw [if_neg hx] at hg
        repeat' tb_start
        intro s₂ D₂
        exact ⟨_, _, ⟨_, _, _, _, _, _, _, rfl, rfl, hws.snoc _ _, by simp; omega, hnm2, by rw [show 32 - (i + 1) = 31 - i by omega]; exact hg⟩, D₂⟩
    · have hq : Builtin.bitAnd fl (1 * 2 ^ i) = 0 := by simpa using hq
      rw [if_neg (fun hc => hc hq)] at hg
      repeat' tb_start
      intro s₂ D₂
      exact ⟨_, _, ⟨fl, tf, nm, ws, e, _, _, rfl, rfl, hws, by omega, hnb, by rw [show 32 - (i + 1) = 31 - i by omega]; exact hg⟩, D₂⟩
  · rintro m₁ n₁ E' ⟨fl, tf, nm, ws, e, vi, vf, rfl, rfl, hws, hnl, hnb, hg⟩
    exfalso
    simp [pfGo] at hg
  · rintro m₁ n₁ ⟨fl, tf, ws, e, vi, vf, rfl, rfl, hws, hnl, hnb⟩
    repeat' tb_start
    refine c_join (by news_at) hws (by decide) ?_ ?_
    · have hsum := sum_le (c := 1000) _ hnb
      omega
    intro t9
    repeat' tb_start
    intro s₂ D₂
    exact h t9 s₂ (D.back (R := []) (n₁ := []) (D₂.sub (List.nil_sublist _)) (by kqd_all) (by lcg_sub))
end
section
variable {C : Cx} {s₀ : Shared} {W : List Addr} {env : Env} {G : List (Nat × GenState)} {A : Around} {E : Value → Shared → Prop} {m m' : List (Str × Bnd)} {n n' : List (Addr × Obj)}
/-- a leaf, with what is known of the count of tokens carried over it -/
noncomputable abbrev TQ {α : Type} (Q : α → Shared → Prop) : α → Shared → Prop := fun a s => 1 ≤ s.toks → Q a s
theorem tk {α : Type} {t : Sem α} {Q : α → Shared → Prop} (h : ∀ s, St C s₀ W env G s m n → wpAny (MM C.w) A t (TQ Q) (TQ E) s) :
    ∀ s, St C s₀ W env G s m n → 1 ≤ s.toks → wpAny (MM C.w) A t Q E s := fun s D ht => wpAny_with_toks ht (h s D)
theorem T_cons {st : Stmt} {rest : List Stmt} {Q : Flow → Shared → Prop}
    (h : ∀ s, St C s₀ W env G s m n → 1 ≤ s.toks → wpAny (MM C.w) A (exec st env) (SQ C A env E rest Q) E s) :
    ∀ s, St C s₀ W env G s m n → 1 ≤ s.toks → wpAny (MM C.w) A (execs (st :: rest) env) Q E s := fun s D ht => wpAny_execs_cons (h s D ht)
theorem T_if {test : Expr} {body orelse : List Stmt} {pos : Pos} {Q : Flow → Shared → Prop}
    (h : ∀ s, St C s₀ W env G s m n → 1 ≤ s.toks → wpAny (MM C.w) A (isTrue test env (eval test env)) (KIf C A env E body orelse Q) E s) :
    ∀ s, St C s₀ W env G s m n → 1 ≤ s.toks → wpAny (MM C.w) A (exec (.If test body orelse pos) env) Q E s := fun s D ht => wpAny_If (h s D ht)
theorem T_assign {x : Str} {p pos : Pos} {value : Expr} {Q : Flow → Shared → Prop}
    (h : ∀ s, St C s₀ W env G s m n → 1 ≤ s.toks → wpAny (MM C.w) A (eval value env) (KS C A env E x Q) E s)
    (hs : swapsWith value (some (.Name x p)) pos.line env = pure false := by with_unfolding_all rfl) :
    ∀ s, St C s₀ W env G s m n → 1 ≤ s.toks → wpAny (MM C.w) A (exec (.Assign [.Name x p] value pos) env) Q E s := fun s D ht => wpAny_Assign_Name (h s D ht) hs
theorem T_expr {e : Expr} {pos : Pos} {Q : Flow → Shared → Prop} (h : ∀ s, St C s₀ W env G s m n → 1 ≤ s.toks → wpAny (MM C.w) A (eval e env) (KX Q) E s)
    (hi : interactive env = false := by with_unfolding_all rfl) (hs : swapsWith e none pos.line env = pure false := by with_unfolding_all rfl) :
    ∀ s, St C s₀ W env G s m n → 1 ≤ s.toks → wpAny (MM C.w) A (exec (.Expr e pos) env) Q E s := fun s D ht => wpAny_Expr (h s D ht) hi hs
theorem T_meth {o : Expr} {name : Str} {apos pos : Pos} {args : List Expr} {pl : Sem Bool} {Q : Value → Shared → Prop}
    (h : ∀ s, St C s₀ W env G s m n → 1 ≤ s.toks → wpAny (MM C.w) A (eval o env) (KM1 C A E name pl (KM2 C A env E pos args Q)) E s)
    (he : eval (.Call (.Attribute o name apos) args [] pos) env = (do
      let ov ← eval o env
      standAt apos.atName
      let (f, first) ← holding [ov] (getMethod ov name pl)
      callWith pos f first (backTo pos (starEach args env)) []) := by with_unfolding_all rfl) :
    ∀ s, St C s₀ W env G s m n → 1 ≤ s.toks → wpAny (MM C.w) A (eval (.Call (.Attribute o name apos) args [] pos) env) Q E s := fun s D ht => MethodCall_ (h s D ht) he
theorem T_callWith {pos : Pos} {f : Value} {first : List Value} {e : Expr} {rest : List Expr} {Q : Value → Shared → Prop}
    (h : ∀ s, St C s₀ W env G s m n → 1 ≤ s.toks → wpAny (MM C.w) A (spliced (backTo pos (starEach (e :: rest) env))) (KCw C A E f first Q) E s)
    (he : starEach (e :: rest) env = (false, eval e env) :: starEach rest env := by with_unfolding_all rfl) (hplain : (backTo pos (starEach rest env)).any (·.1) = false := by with_unfolding_all rfl) :
    ∀ s, St C s₀ W env G s m n → 1 ≤ s.toks → wpAny (MM C.w) A (callWith pos f first (backTo pos (starEach (e :: rest) env)) []) Q E s := fun s D ht => by
  have h' := h s D ht
  rw [he] at h' ⊢
  exact callWith_of (P := KpOk C f) (by show ((false || (backTo pos (starEach rest env)).any (·.1)) || false) = false; rw [hplain]; rfl) (fun _ x => x) (evalArgs_plain h')
/-- two texts written out, for a call: their tokens are two, and not 0 -/
theorem T_items2 {y z : Str} {k k' : Nat} {p p' pos : Pos} {Q : List Value → Shared → Prop} (h : ∀ u v : Tok, u ≠ 0 → v ≠ 0 → u ≠ v → ∀ s, St C s₀ W env G s m n → 1 ≤ s.toks → Q [.str y u, .str z v] s)
    (he : starEach [.Constant (.str y) k p, .Constant (.str z) k' p'] env = (false, eval (.Constant (.str y) k p) env) :: starEach [.Constant (.str z) k' p'] env := by with_unfolding_all rfl)
    (he2 : starEach [.Constant (.str z) k' p'] env = (false, eval (.Constant (.str z) k' p') env) :: starEach [] env := by with_unfolding_all rfl) :
    ∀ s, St C s₀ W env G s m n → 1 ≤ s.toks → wpAny (MM C.w) A (spliced (backTo pos (starEach [.Constant (.str y) k p, .Constant (.str z) k' p'] env))) Q E s := fun s D ht => by
  refine wpAny_items_cons (wpAny_Constant_str (wpAny_items_cons (wpAny_Constant_str (wpAny_items_nil ?_)) he2)) he
  refine h _ _ ?_ ?_ ?_ _ ((D.tok _ _).tok _ _) (Nat.le_add_left _ _)
  · exact Nat.ne_of_gt ht
  · exact Nat.succ_ne_zero _
  · exact Nat.ne_of_lt (Nat.lt_succ_self _)
theorem c_replace {x : List Nat} {y z : Str} {t u v : Tok} {Q : Value → Shared → Prop} (hu : u ≠ 0) (hv : v ≠ 0) (huv : u ≠ v) (hyz : (y == z) = false) (hb : x.length + (x.length + 1) * z.length ≤ 16777216)
    (h : ∀ t, ∀ s, St C s₀ W env G s m n → 1 ≤ s.toks → Q (.str (strOf (Txt.replace (strOf x) y z).cps.toList) t) s) :
    ∀ s, St C s₀ W env G s m n → 1 ≤ s.toks → wpAny (MM C.w) A (call (.builtin "str.replace") ([.str (strOf x) t] ++ [.str y u, .str z v])) Q E s := fun s D ht => by
  refine wpAny_with_toks ht (SC.replace hu hv huv hyz (by rw [strOf_len]; exact hb) fun t' k hk => ?_)
  have e : Txt.replace (strOf x) y z = strOf (Txt.replace (strOf x) y z).cps.toList := Str.ext' (by simp [strOf])
  rw [e]
  exact h t' _ (D.tok s.drawn k) hk
end
section
variable {C : Cx} {s₀ s s' : Shared} {W W' : List Addr} {env env' : Env} {G G' : List (Nat × GenState)} {m m' : List (Str × Bnd)} {n n' n'' : List (Addr × Obj)}
/-- a def of the text entered, as code -/
theorem t_enterT {A : Around} {f : Addr} {fd : FuncData} {body : List Stmt} {args : List Value} {kw : List (Str × Value)} {binds : List (Str × Value)} {mi : List (Str × Bnd)} {k : Nat} {R' : Result → Shared → Prop}
    (D : St C s₀ W env G s m n) (hA : Ok A (k + 1)) (F : FnAt C.w f fd body) (hgen : fd.scope.isGenerator = false) (hbind : BindsTo s fd ⟨args, kw⟩ binds)
    (hcell : ∀ x ∈ fd.scope.names, x.2 ≠ .cell) (hloc : ∀ x ∈ binds, fd.scope.names.lookup x.1 = some .local)
    (hm : MiOk C.w binds fd.scope.names mi) (hnd : (fd.scope.names.map (·.1)).Nodup)
    (R : List (Addr × Obj)) (hn' : ∀ p ∈ R, p ∈ n) (hRn : (R.map (·.1)).Nodup) (hbl : binds ≠ [])
    (h : ∀ L E', ∀ s₁, St C s (R.map (·.1)) (fnEnv fd f L) [] s₁ mi R → 1 ≤ s₁.toks → wpAny (MM C.w) (A.deeper (fnEnv fd f L)) (execs body (fnEnv fd f L)) (fun fl s' => R' (.ok (.ret (match fl with | .ret v => v | _ => .none))) s') E' s₁) :
    codeAny (MM C.w) A (.call (.ref f) ⟨args, kw⟩) R' s := by
  obtain ⟨oc, od, osl, ho⟩ := F.ho
  refine codeAny_call_function (fd := fd) (body := body) (by have := hA.d; omega) (D.g.K _ _ ho) rfl F.hco hgen F.hbody (codeRec_of D.g.K F.hcode) ?_
  refine hbind _ _ _ _ (wpAny_newFunctionEnv hcell hloc (fun h' hns hs => ?_) F.hk)
  have hk : ∀ b o, s.heap.get? b = some o → h'.get? b = some o := fun b o e => hs.extBut b o (Nat.ne_of_lt (Heap.lt_size e)) (Heap.get?_push_of_some _ e)
  have hW : ∀ a ∈ R.map (·.1), a ∈ n.map (·.1) := fun a ha => by
    obtain ⟨p, hp, rfl⟩ := List.mem_map.mp ha
    exact List.mem_map_of_mem (hn' p hp)
  have hwi : ∀ a ∈ R.map (·.1), a ≠ env.locals ∧ (a ∈ W ∨ s₀.heap.get? a = none) := fun a ha => by
    obtain ⟨p, hp, rfl⟩ := List.mem_map.mp (hW a ha)
    exact (D.nw p hp).2
  have D₁ : St C s (R.map (·.1)) (fnEnv fd f s.heap.objs.size) [] ⟨h', s.gens, s.drawn, s.toks + binds.length, s.os⟩ mi R := by
    refine ⟨D.g, ⟨fun b o _ e => hk b o e, fun _ _ e => e, fun x => x, rfl⟩, fun a ha => ?_, F.hk, F.hg, F.hb, ⟨_, hns, fun p hp => ?_⟩, (.inr (get_size _)), by rw [hm.keys]; exact hnd, fun p hp => ⟨hk _ _ (D.nw p (hn' p hp)).1, ?_, .inl (List.mem_map_of_mem hp)⟩, hRn, fun _ h => nomatch h⟩
    · rcases (hwi a ha).2 with h | h
      · exact D.dyn a h
      · exact D.g0.dyn h
    · have := hm.get p hp
      cases hb : p.2 with
      | loc v => rw [hb] at this; exact ⟨lookup_of_mem hnd this.1, this.2⟩
      | glo v => rw [hb] at this; exact ⟨lookup_of_mem hnd this.1, this.2⟩
      | cel c => rw [hb] at this; exact this.elim
      | unk => trivial
    · show p.1 ≠ s.heap.objs.size
      exact Nat.ne_of_lt (Heap.lt_size (D.nw p (hn' p hp)).1)
  refine ⟨(D₁.nolim), codeAny_func (h _ _ _ D₁ (Nat.le_trans (List.length_pos_iff.mpr hbl) (Nat.le_add_left _ _)))⟩
theorem enterT {A : Around} {f : Addr} (F : FnOf f) {args : List Value} {kw : List (Str × Value)} {k : Nat} {R' : Result → Shared → Prop} (binds : List (Str × Value)) (mi : List (Str × Bnd)) (R : List (Addr × Obj))
    (D : St C s₀ W env G s m n) (hA : Ok A (k + 1)) (hgen : F.fd.scope.isGenerator = false) (hcell : F.fd.scope.names.all (fun x => x.2 != .cell) = true) (hbind : BindsTo s F.fd ⟨args, kw⟩ binds)
    (hloc : ∀ x ∈ binds, F.fd.scope.names.lookup x.1 = some .local) (hm : MiOk C.w binds F.fd.scope.names mi)
    (hn' : ∀ p ∈ R, p ∈ n) (hRn : (R.map (·.1)).Nodup) (hbl : binds ≠ [])
    (h : ∀ L E', ∀ s₁, St C s (R.map (·.1)) (fnEnv F.fd f L) [] s₁ mi R → 1 ≤ s₁.toks → wpAny (MM C.w) (A.deeper (fnEnv F.fd f L)) (execs F.body (fnEnv F.fd f L)) (fun fl s' => R' (.ok (.ret (match fl with | .ret v => v | _ => .none))) s') E' s₁) :
    codeAny (MM C.w) A (.call (.ref f) ⟨args, kw⟩) R' s :=
  t_enterT D hA F.at hgen hbind (fun x hx => by simpa using List.all_eq_true.mp hcell x hx) hloc hm F.hn R hn' hRn hbl h
end
section
variable {C : Cx} {s₀ : Shared} {W : List Addr} {env : Env} {G : List (Nat × GenState)} {A : Around} {E : Value → Shared → Prop} {m m' : List (Str × Bnd)} {n n' : List (Addr × Obj)}
theorem s_fp0 {p : List Nat} {t u : Tok} {Q : Value → Shared → Prop} (hA : Ok A 10) (h : ∀ s, St C s₀ W env G s m n → Q (.str (strOf p) t) s) :
    ∀ s, St C s₀ W env G s m n → wpAny (MM C.w) A (call (.ref 186) [.str (strOf p) t, .str (strOf []) u] []) Q E s := by
  intro s D
  refine enter f186 [("param", .str (strOf p) t), ("value", .str (strOf []) u), ("quote", .int 1 603)] _ [] D (hA.le (by decide) : Ok A (9 + 1)) rfl (by decide +kernel) (.of_defaults rfl (D.g.K 179 _ rfl) rfl rfl (by kernel_rfl)) hl186 (mi186 C.w) (by kqd_all) .nil ?_
  intro L E'
  repeat' tb_start
  refine t_itb (fun hb => absurd hb (by decide)) (fun hb => ?_)
  repeat' tb_start
  intro s₂ D₂
  exact h s₂ (D.back (R := []) (n₁ := []) (D₂.sub (List.nil_sublist _)) (by kqd_all) (by lcg_sub))
end
noncomputable def repB (x : List Nat) : List Nat := (Txt.replace (strOf x) (Str.ofString "\\") (Str.ofString "\\\\")).cps.toList
noncomputable def repQ (x : List Nat) : List Nat := (Txt.replace (strOf x) (Str.ofString "\"") (Str.ofString "\\\"")).cps.toList
/-- what stands behind the k- -/
noncomputable def fpF (p x : List Nat) : List Nat := p ++ [61, 34] ++ repQ (repB x) ++ [34]
section
variable {C : Cx} {s₀ : Shared} {W : List Addr} {env : Env} {G : List (Nat × GenState)} {A : Around} {E : Value → Shared → Prop} {m m' : List (Str × Bnd)} {n n' : List (Addr × Obj)}
theorem T_drop {X : Shared → Prop} (h : ∀ s, St C s₀ W env G s m n → X s) : ∀ s, St C s₀ W env G s m n → 1 ≤ s.toks → X s := fun s D _ => h s D
theorem T_ift {X Y : Shared → Prop} (h : ∀ s, St C s₀ W env G s m n → 1 ≤ s.toks → X s) : ∀ s, St C s₀ W env G s m n → 1 ≤ s.toks → (if true = true then X s else Y s) := fun s D => by rw [if_pos rfl]; exact h s D
theorem T_iff {X Y : Shared → Prop} (h : ∀ s, St C s₀ W env G s m n → 1 ≤ s.toks → Y s) : ∀ s, St C s₀ W env G s m n → 1 ≤ s.toks → (if false = true then X s else Y s) := fun s D => by rw [if_neg Bool.false_ne_true]; exact h s D
theorem T_itb {b : Bool} {X Y : Shared → Prop} (h1 : b = true → ∀ s, St C s₀ W env G s m n → 1 ≤ s.toks → X s) (h2 : b = false → ∀ s, St C s₀ W env G s m n → 1 ≤ s.toks → Y s) :
    ∀ s, St C s₀ W env G s m n → 1 ≤ s.toks → (if b = true then X s else Y s) := fun s D ht => by
  cases b with
  | true => rw [if_pos rfl]; exact h1 rfl s D ht
  | false => rw [if_neg Bool.false_ne_true]; exact h2 rfl s D ht
theorem T_kv {f : Value} {X : Shared → Prop} (hf : isRefV f = false) (h : ∀ s, St C s₀ W env G s m n → 1 ≤ s.toks → X s) : ∀ s, St C s₀ W env G s m n → 1 ≤ s.toks → KpOk C f s.heap ∧ X s := fun s D ht =>
  ⟨⟨.machine, .inr (.inl rfl), by unfold keeperOf; cases f <;> first | exact Looks.now | cases hf⟩, h s D ht⟩
theorem T_stl {x : Str} {v : Value} {Q : Unit → Shared → Prop} (U : Upd x (Bnd.loc (some v)) m m') (h : ∀ s, St C s₀ W env G s m' n → 1 ≤ s.toks → Q () s) (hk : ∃ u, (x, Bnd.loc u) ∈ m) :
    ∀ s, St C s₀ W env G s m n → 1 ≤ s.toks → wpAny (MM C.w) A (storeName env x v) Q E s := tk (t_stl U h hk)
/-! a text put together of parts -/
noncomputable def FvGo (C : Cx) (A : Around) (E : Value → Shared → Prop) (Q : Value → Shared → Prop) (v : Value) (s : Shared) : Prop := wpAny (MM C.w) A (do let v' ← holding [v] (converted 115 v); formatField v' Str.empty) Q E s
theorem t_fvS {value : Expr} {pos : Pos} {Q : Value → Shared → Prop} (h : ∀ s, St C s₀ W env G s m n → wpAny (MM C.w) A (eval value env) (FvGo C A E Q) E s) :
    ∀ s, St C s₀ W env G s m n → wpAny (MM C.w) A (eval (.FormattedValue value 115 none pos) env) Q E s := fun s D => by
  show wpAny _ A (do let v ← eval value env; standAt pos; formatted pos (← holding [v] (converted 115 v)) none) Q E s
  refine wpAny_bind (wpAny_mono (h s D) (fun v s₁ h₁ => ?_) fun _ _ x => x)
  exact wpAny_bind (wpAny_standAt h₁)
theorem o_fvS {x : List Nat} {t : Tok} {Q : Value → Shared → Prop} (hl : x.length ≤ 1000000) (h : ∀ t, ∀ s, St C s₀ W env G s m n → Q (.str (strOf x) t) s) : ∀ s, St C s₀ W env G s m n → FvGo C A E Q (.str (strOf x) t) s := fun s D => by
  have hz : (strOf x).length ≤ sizeLine := by rw [strOf_len, sizeLine_eq]; omega
  show wpAny _ A (do let v' ← holding [.str (strOf x) t] (habitSame "fstring-hands-on-the-str" (.str (strOf x) t)); formatField v' Str.empty) Q E s
  exact wpAny_bind (wpAny_holding (habitSame_str (fun t' tk => formatField_str (fun t'' tk' => h t'' _ (D.tok s.drawn tk')) hz) hz))
noncomputable def JGo (C : Cx) (A : Around) (E : Value → Shared → Prop) (out : List Nat) (rest : List Expr) (env : Env) (Q : Value → Shared → Prop) (v : Value) (s : Shared) : Prop :=
  match v with | .str y _ => (strOf out ++ y).length ≤ sizeLine ∧ wpAny (MM C.w) A (joinParts (strOf out ++ y) (evalEach rest env)) Q E s | _ => False
theorem t_joined {v₁ v₂ : Expr} {rest : List Expr} {pos : Pos} {Q : Value → Shared → Prop} (h : ∀ s, St C s₀ W env G s m n → wpAny (MM C.w) A (joinParts (strOf []) (evalEach (v₁ :: v₂ :: rest) env)) Q E s) :
    ∀ s, St C s₀ W env G s m n → wpAny (MM C.w) A (eval (.JoinedStr (v₁ :: v₂ :: rest) pos) env) Q E s := fun s D => JoinedStr_many (h s D)
theorem t_jcons {out : List Nat} {e : Expr} {rest : List Expr} {Q : Value → Shared → Prop} (h : ∀ s, St C s₀ W env G s m n → wpAny (MM C.w) A (eval e env) (JGo C A E out rest env Q) E s) :
    ∀ s, St C s₀ W env G s m n → wpAny (MM C.w) A (joinParts (strOf out) (evalEach (e :: rest) env)) Q E s := fun s D => by
  refine joinParts_cons (x := eval e env) (rest := evalEach rest env) (wpAny_mono (h s D) (fun v s₁ h₁ => ?_) fun _ _ x => x)
  cases v <;> first | exact h₁ | exact h₁.elim
theorem o_jgo {out y : List Nat} {rest : List Expr} {t : Tok} {Q : Value → Shared → Prop} (hl : (out ++ y).length ≤ sizeLine) (h : ∀ s, St C s₀ W env G s m n → wpAny (MM C.w) A (joinParts (strOf (out ++ y)) (evalEach rest env)) Q E s) :
    ∀ s, St C s₀ W env G s m n → JGo C A E out rest env Q (.str (strOf y) t) s := fun s D => by
  show (strOf out ++ strOf y).length ≤ sizeLine ∧ _
  rw [strOf_append, strOf_len]
  exact ⟨hl, h s D⟩
theorem o_jgoC {out y : List Nat} {Y : Str} {rest : List Expr} {t : Tok} {Q : Value → Shared → Prop} (hY : Y = strOf y) (hl : (out ++ y).length ≤ sizeLine) (h : ∀ s, St C s₀ W env G s m n → wpAny (MM C.w) A (joinParts (strOf (out ++ y)) (evalEach rest env)) Q E s) :
    ∀ s, St C s₀ W env G s m n → JGo C A E out rest env Q (.str Y t) s := hY ▸ o_jgo hl h
theorem t_jnil {out : List Nat} {Q : Value → Shared → Prop} (hl : out.length ≤ sizeLine) (h : ∀ t, ∀ s, St C s₀ W env G s m n → Q (.str (strOf out) t) s) :
    ∀ s, St C s₀ W env G s m n → wpAny (MM C.w) A (joinParts (strOf out) (evalEach [] env)) Q E s := fun s D => joinParts_nil (h _ _ (D.tok s.drawn (s.toks + 1))) (by rw [strOf_len]; exact hl)
theorem s_fp1 {p x : List Nat} {t u : Tok} {Q : Value → Shared → Prop} (hA : Ok A 10) (hx : x ≠ []) (hl : x.length ≤ 100) (hl1 : (repB x).length ≤ 1000) (hl2 : (repQ (repB x)).length ≤ 10000) (hp : p.length ≤ 1000) (h : ∀ t, ∀ s, St C s₀ W env G s m n → Q (.str (strOf (fpF p x)) t) s) :
    ∀ s, St C s₀ W env G s m n → wpAny (MM C.w) A (call (.ref 186) [.str (strOf p) t, .str (strOf x) u] []) Q E s := by
  intro s D
  refine wpAny_call (enterT f186 [("param", .str (strOf p) t), ("value", .str (strOf x) u), ("quote", .int 1 603)] _ [] D (hA.le (by decide) : Ok A (9 + 1)) rfl (by decide +kernel) (.of_defaults rfl (D.g.K 179 _ rfl) rfl rfl (by kernel_rfl)) hl186 (mi186 C.w) (by kqd_all) .nil (by simp) ?_)
  intro L E'
  refine T_cons ?_
  refine T_if ?_
  refine tk ?_
  repeat' tb_start
  refine T_itb (fun hb => ?_) (fun hb => ?_)
  · refine T_cons ?_
    refine T_if ?_
    refine tk ?_
    repeat' tb_start
    refine o_ti ?_
    repeat' tb_start
    refine T_ift ?_
    refine T_cons ?_
    refine T_assign ?_
    refine T_meth ?_
    refine T_meth ?_
    refine tk ?_
    repeat' tb_start
    refine tk ?_
    repeat' tb_start
    refine T_callWith ?_
    refine T_items2 ?_
    intro u1 v1 hu1 hv1 huv1
    refine T_kv rfl ?_
    have hz : (Str.ofString "\\\\").length = 2 := by decide +kernel
    have hz2 : (Str.ofString "\\\"").length = 2 := by decide +kernel
    refine c_replace hu1 hv1 huv1 (by decide +kernel) (by rw [hz]; omega) ?_
    intro t1
    refine tk ?_
    repeat' tb_start
    refine T_callWith ?_
    refine T_items2 ?_
    intro u2 v2 hu2 hv2 huv2
    refine T_kv rfl ?_
    refine c_replace hu2 hv2 huv2 (by decide +kernel) (by rw [hz2]; unfold repB at hl1; omega) ?_
    intro t2
    refine T_drop ?_
    repeat' tb_start
    refine t_joined ?_
    refine t_jcons ?_
    refine t_fvS ?_
    repeat' tb_start
    refine o_fvS (by omega) ?_
    intro t3
    refine o_jgo (by rw [sizeLine_eq]; simp; omega) ?_
    refine t_jcons ?_
    repeat' tb_start
    refine o_jgoC (y := [61, 34]) (by decide +kernel) (by rw [sizeLine_eq]; simp; omega) ?_
    refine t_jcons ?_
    refine t_fvS ?_
    repeat' tb_start
    refine o_fvS (Nat.le_trans hl2 (by decide)) ?_
    intro t5
    have hl3 : (Txt.replace (strOf (Txt.replace (strOf x) (Str.ofString "\\") (Str.ofString "\\\\")).cps.toList) (Str.ofString "\"") (Str.ofString "\\\"")).cps.toList.length ≤ 10000 := hl2
    refine o_jgo (by rw [sizeLine_eq]; simp only [List.length_append, List.length_cons, List.length_nil]; omega) ?_
    refine t_jcons ?_
    repeat' tb_start
    refine o_jgoC (y := [34]) (by decide +kernel) (by rw [sizeLine_eq]; simp only [List.length_append, List.length_cons, List.length_nil]; omega) ?_
    refine t_jnil (by rw [sizeLine_eq]; simp only [List.length_append, List.length_cons, List.length_nil]; omega) ?_
    intro t7
    repeat' tb_start
    intro s₂ D₂
    exact h t7 s₂ (D.back (R := []) (n₁ := []) (D₂.sub (List.nil_sublist _)) (by kqd_all) (by lcg_sub))
  · exfalso
    have h1 := of_decide_eq_false hb
    have := List.length_pos_iff.mpr hx
    omega
end
/-- the dict of a call's further words -/
noncomputable abbrev KwD (C : Cx) (o : Obj) (ex : List (Str × Value)) : Prop := o.IsDictOf (strKind PR C.w) ex
section
variable {C : Cx} {s₀ s s' : Shared} {W W' : List Addr} {env env' : Env} {G G' : List (Nat × GenState)} {m m' : List (Str × Bnd)} {n n' n'' : List (Addr × Obj)}
/-- what a call with further words binds -/
noncomputable def BindsK (fd : FuncData) (args : Args) (front ex : List (Str × Value)) (nm : Str) : Prop :=
  bindArgs fd args = (alloc (dictOf [] 0) >>= fun d => (forIn ex PUnit.unit fun x _ => (nsSet d x.1 x.2 >>= fun _ => pure (ForInStep.yield PUnit.unit))) >>= fun _ => pure (front ++ [(nm, Value.ref d)]))
theorem t_enterK {A : Around} {f : Addr} (F : FnOf f) {args : List Value} {kw front ex : List (Str × Value)} {nm : Str} {mi : Addr → List (Str × Bnd)} {k : Nat} {R' : Result → Shared → Prop}
    (D : St C s₀ W env G s m n) (hA : Ok A (k + 1)) (hgen : F.fd.scope.isGenerator = false) (hbind : BindsK F.fd ⟨args, kw⟩ front ex nm) (hdis : kwDistinct ex = true)
    (hcell : F.fd.scope.names.all (fun x => x.2 != .cell) = true) (hloc : ∀ d, ∀ x ∈ front ++ [(nm, Value.ref d)], F.fd.scope.names.lookup x.1 = some .local)
    (hm : ∀ d, MiOk C.w (front ++ [(nm, Value.ref d)]) F.fd.scope.names (mi d))
    (R : List (Addr × Obj)) (hn' : ∀ p ∈ R, p ∈ n) (hRn : (R.map (·.1)).Nodup)
    (h : ∀ d o s₂, KwD C o ex → (d == sysModules) = false → St C s₀ W env G s₂ m ((d, o) :: n) → ((((d, o) :: R : List (Addr × Obj)).map (·.1)).Nodup) → ∀ L E', ∀ s₁, St C s₂ (((d, o) :: R).map (·.1)) (fnEnv F.fd f L) [] s₁ (mi d) ((d, o) :: R) → 1 ≤ s₁.toks →
      wpAny (MM C.w) (A.deeper (fnEnv F.fd f L)) (execs F.body (fnEnv F.fd f L)) (fun fl s' => R' (.ok (.ret (match fl with | .ret v => v | _ => .none))) s') E' s₁) :
    codeAny (MM C.w) A (.call (.ref f) ⟨args, kw⟩) R' s := by
  obtain ⟨oc, od, osl, ho⟩ := (F.at (w := C.w)).ho
  refine codeAny_call_function (fd := F.fd) (body := F.body) (by have := hA.d; omega) (D.g.K _ _ ho) rfl F.hco hgen F.hbody (codeRec_of D.g.K (F.hcode C.w)) ?_
  rw [hbind]
  have hmod : (s.heap.objs.size == sysModules) = false := beq_eq_false_iff_ne.mpr (Nat.ne_of_gt (modules_low D.nolim))
  have hdn : s.heap.get? s.heap.objs.size = none := get_size _
  refine wpAny_bind (wpAny_alloc ?_)
  have D1 := D.push (dictOf [] 0) s.drawn s.toks rfl
  obtain ⟨h₀, mm, exx, Fr1, N1, hex, back⟩ := D1.fr
  have hne : ∀ p ∈ n ++ exx, p.1 ≠ s.heap.objs.size := fun p hp e => by
    rcases List.mem_append.mp hp with hp | hp
    · have := (D.nw p hp).1
      rw [e, hdn] at this; cases this
    · exact hex p hp (by rw [e]; exact .head _)
  have hna : ((s.heap.objs.size, dictOf [] 0) :: n |>.map (·.1)).Nodup := D1.na
  refine wpAny_bind (kp_fill ex _ [] 0 Fr1 N1 hne (fun _ he => nomatch he) (fun _ he => nomatch he) (kwDistinct_nodup hdis) fun h' F' N' => wpAny_pure ?_)
  have D2 : St C s₀ W env G ⟨h', s.gens, s.drawn, s.toks + ex.length, s.os⟩ m ((s.heap.objs.size, dictOf (kwEs C.w.params s.toks ex) ex.length) :: n) := by
    refine back h' ((s.heap.objs.size, dictOf (kwEs C.w.params s.toks ex) ex.length) :: n) s.drawn (s.toks + ex.length) F' ?_ (fun p hp => .inl ?_) hna
    · simpa using N'
    · rcases List.mem_cons.mp hp with rfl | hp
      · exact .head _
      · exact .tail _ (List.mem_map_of_mem hp)
  have hnd2 : ((((s.heap.objs.size, dictOf (kwEs C.w.params s.toks ex) ex.length) :: R : List (Addr × Obj)).map (·.1)).Nodup) := by
    rw [List.map_cons, List.nodup_cons]
    refine ⟨fun hm => ?_, hRn⟩
    obtain ⟨p, hp, e⟩ := List.mem_map.mp hm
    exact hne p (List.mem_append_left _ (hn' p hp)) e
  refine wpAny_newFunctionEnv (fun x hx => by simpa using List.all_eq_true.mp hcell x hx) (hloc _) (fun h'' hns hs => ?_) F.hk
  have hn2 : ∀ p ∈ (s.heap.objs.size, dictOf (kwEs C.w.params s.toks ex) ex.length) :: R, p ∈ (s.heap.objs.size, dictOf (kwEs C.w.params s.toks ex) ex.length) :: n := fun p hp => by
    rcases List.mem_cons.mp hp with rfl | hp
    · exact .head _
    · exact .tail _ (hn' p hp)
  generalize hdo : dictOf (kwEs C.w.params s.toks ex) ex.length = o at D2 hnd2 hn2
  have hkw : KwD C o ex := hdo ▸ kp_isDict s.toks ex.length (kwDistinct_nodup hdis)
  have hs1 : (⟨h', s.gens, s.drawn, s.toks + ex.length, s.os⟩ : Shared).heap = h' := rfl
  have hk : ∀ b o, h'.get? b = some o → h''.get? b = some o := fun b o e => hs.extBut b o (Nat.ne_of_lt (Heap.lt_size e)) (Heap.get?_push_of_some _ e)
  generalize hd0 : s.heap.objs.size = d at *
  have hwi : ∀ a ∈ ((d, o) :: R).map (·.1), a ≠ env.locals ∧ (a ∈ W ∨ s₀.heap.get? a = none) := fun a ha => by
    obtain ⟨p, hp, rfl⟩ := List.mem_map.mp ha
    exact (D2.nw p (hn2 p hp)).2
  have D₁ : St C ⟨h', s.gens, s.drawn, s.toks + ex.length, s.os⟩ (((d, o) :: R).map (·.1)) (fnEnv F.fd f h'.objs.size) [] ⟨h'', s.gens, s.drawn, s.toks + ex.length + (front ++ [(nm, Value.ref d)]).length, s.os⟩ (mi d) ((d, o) :: R) := by
    refine ⟨D2.g, ⟨fun b o _ e => hk b o e, fun _ _ e => e, fun x => x, rfl⟩, fun a ha => ?_, F.hk, F.hg, F.hb, ⟨_, hns, fun p hp => ?_⟩, (.inr (get_size _)), by rw [(hm d).keys]; exact F.hn, fun p hp => ⟨hk _ _ (D2.nw p (hn2 p hp)).1, ?_, .inl (List.mem_map_of_mem hp)⟩, hnd2, fun _ h => nomatch h⟩
    · rcases (hwi a ha).2 with h | h
      · exact D2.dyn a h
      · exact D2.g0.dyn h
    · have := (hm d).get p hp
      cases hb : p.2 with
      | loc v => rw [hb] at this; exact ⟨lookup_of_mem F.hn this.1, this.2⟩
      | glo v => rw [hb] at this; exact ⟨lookup_of_mem F.hn this.1, this.2⟩
      | cel c => rw [hb] at this; exact this.elim
      | unk => trivial
    · show p.1 ≠ h'.objs.size
      exact Nat.ne_of_lt (Heap.lt_size (D2.nw p (hn2 p hp)).1)
  exact ⟨(D₁.nolim), codeAny_func (h d o _ hkw hmod D2 hnd2 _ _ _ D₁ (by simp only [List.length_append, List.length_cons, List.length_nil]; omega))⟩
end
noncomputable def itemsView (d : Addr) : Obj := { cls := .type "dict_items", data := .fields #[.ref d] }
noncomputable def itemIt (d : Addr) (i len ep : Nat) (ok ov : Value) : Obj := { cls := .type "dict_itemiterator", dict := none, data := .fields #[.none, .bool false, .ref d, .int i 0, .int len 0, .int ep 0, ok, ov], slots := #[] }
inductive DInv (C : Cx) (s₀ : Shared) (W : List Addr) (env : Env) (G : List (Nat × GenState)) (J : Nat → List (Str × Bnd) → List (Addr × Obj) → Prop) (I d : Addr) (len ep k : Nat) (s' : Shared) : Prop
  | mk (i : Nat) (m₁ : List (Str × Bnd)) (n₁ : List (Addr × Obj)) (ok ov : Value) (_ : k + i = len) (_ : J i m₁ n₁) (_ : St C s₀ W env G s' m₁ ((I, itemIt d i len ep ok ov) :: n₁)) (_ : 1 ≤ s'.toks)
section
variable {C : Cx} {s₀ : Shared} {W : List Addr} {env : Env} {G : List (Nat × GenState)} {A : Around} {E : Value → Shared → Prop} {m m' : List (Str × Bnd)} {n n' : List (Addr × Obj)}
theorem KwD.typeIs {o : Obj} {ex : List (Str × Value)} (h : KwD C o ex) {s : Shared} {d : Addr} (e : s.heap.get? d = some o) : s.TypeIs (.ref d) "dict" := by
  obtain ⟨es, ep, hx, _⟩ := h
  exact ⟨o, e, hx.1⟩
theorem KwD.noDict {o : Obj} {ex : List (Str × Value)} (h : KwD C o ex) : o.dict = none := by
  obtain ⟨es, ep, hx, _⟩ := h
  exact hx.2.1
theorem g_items {d : Addr} {o : Obj} {ex : List (Str × Value)} {pl : Sem Bool} {Q : Value × List Value → Shared → Prop} (hk : KwD C o ex) (hd : (d, o) ∈ n) (h : ∀ s, St C s₀ W env G s m n → Q (.builtin "dict.items", [.ref d]) s) :
    ∀ s, St C s₀ W env G s m n → wpAny (MM C.w) A (getMethod (.ref d) "items" pl) Q E s := fun s D =>
  getMethod_builtin (hk.typeIs (D.get hd)) PySem.F.plainAttrs_dict PySem.F.slot_dict_items PySem.F.type_dict_items (fun a e => by cases e; exact ⟨_, D.get hd, hk.noDict⟩) (h s D)
theorem c_items {d : Addr} {o : Obj} {ex : List (Str × Value)} {Q : Value → Shared → Prop} (hk : KwD C o ex) (hd : (d, o) ∈ n) (hs : (d == sysModules) = false) (h : ∀ v, ∀ s, St C s₀ W env G s m ((v, itemsView d) :: n) → Q (.ref v) s) :
    ∀ s, St C s₀ W env G s m n → wpAny (MM C.w) A (call (.builtin "dict.items") ([.ref d] ++ [])) Q E s := fun s D => by
  show wpAny _ _ (call (.builtin "dict.items") [.ref d]) Q E s
  refine call_meetsIn PySem.F.slot_dict_items (hk.typeIs (D.get hd)) PySem.F.entry_dict_items (PySem.F.args_dict_items_1 _) (meets_dict_items (strKind PR C.w) d hs) ?_
  obtain ⟨es, ep, r⟩ := hk
  exact ⟨⟨ex, o, es, ep, D.get hd, r⟩, h _ _ (D.push _ s.drawn s.toks rfl)⟩
/-- one object turned, and one more made -/
theorem St.turn2 {s : Shared} {I T : Addr} {o o' oT : Obj} {h' : Heap} (D : St C s₀ W env G s m ((I, o) :: n)) (d : Drawn) (t : Nat) (hs : ∀ b o, b ≠ I → s.heap.get? b = some o → h'.get? b = some o) (hI : h'.get? I = some o') (hT : h'.get? T = some oT) (hTn : s.heap.get? T = none) :
    St C s₀ W env G ⟨h', s.gens, d, t, s.os⟩ m ((T, oT) :: (I, o') :: n) := by
  have D0 := D.sub (List.sublist_cons_self _ _)
  have hIn : I ∉ n.map (·.1) := (List.nodup_cons.mp D.na).1
  have hne : I ≠ env.locals := (D.nw _ (.head _)).2.1
  have hIW := (D.nw _ (.head _)).2.2
  have hTI : T ≠ I := fun e => by
    have := (D.nw _ (.head _)).1
    dsimp only at this
    rw [← e, hTn] at this; cases this
  refine ⟨D.g0, ⟨fun b o hb e => hs b o ?_ (D.x.keep b o hb e), D.x.gens, D.x.bare, D.x.os⟩, D.dyn, D.fn, D.glob, D.bui, ?_, D.hL, D.nd, fun p hp => ?_, ?_, D.gn⟩
  · rintro rfl
    rcases hIW with h | h
    · exact hb h
    · have e' := h.symm.trans e; cases e'
  · obtain ⟨mm, hm, hok⟩ := D.ns
    exact ⟨mm, ns_at hm fun o e => hs _ o (Ne.symm hne) e, hok⟩
  · rcases List.mem_cons.mp hp with rfl | hp
    · refine ⟨hT, ?_, D.newAt hTn⟩
      rintro e
      obtain ⟨mm, ⟨o, es, ep, e', r⟩, _⟩ := D.ns
      dsimp only at e
      rw [← e, hTn] at e'; cases e'
    · rcases List.mem_cons.mp hp with rfl | hp
      · exact ⟨hI, hne, hIW⟩
      · refine ⟨hs _ _ ?_ (D0.nw p hp).1, (D0.nw p hp).2⟩
        rintro q
        exact hIn (q ▸ List.mem_map_of_mem hp)
  · rw [List.map_cons, List.nodup_cons]
    refine ⟨fun hm => ?_, D.na⟩
    obtain ⟨p, hp, e⟩ := List.mem_map.mp hm
    rcases List.mem_cons.mp hp with rfl | hp
    · exact hTI e.symm
    · have := (D0.nw p hp).1
      rw [e] at this
      dsimp only at this
      rw [hTn] at this; cases this
theorem t_forItems {elts : List Expr} {x1 : Nat} {tpos : Pos} {body orelse : List Stmt} {v d : Addr} {o : Obj} {ex : List (Str × Value)} {Q : Flow → Shared → Prop} (J : Nat → List (Str × Bnd) → List (Addr × Obj) → Prop)
    (hh : A.handled = none) (hk : KwD C o ex) (hv : (v, itemsView d) ∈ n) (hd : ∀ i m₁ n₁, J i m₁ n₁ → (d, o) ∈ n₁) (h0 : J 0 m n)
    (turn : ∀ i k u m₁ n₁ I oI T t E', ex[i]? = some (k, u) → J i m₁ n₁ → ∀ s, St C s₀ W env G s m₁ ((T, tupObj [.str k t, u]) :: (I, oI) :: n₁) → 1 ≤ s.toks →
      wpAny (MM C.w) A (assign (.Tuple elts x1 tpos) env (.ref T)) (KBd C A env E' body (TurnP C s₀ W env G (J (i + 1)) [(I, oI)] Q)) E' s)
    (done : ∀ m₁ n₁ E', J ex.length m₁ n₁ → ∀ s, St C s₀ W env G s m₁ n₁ → 1 ≤ s.toks → wpAny (MM C.w) A (execs orelse env) Q E' s) :
    ∀ s, St C s₀ W env G s m n → 1 ≤ s.toks → wpAny (MM C.w) A (pyIter (.ref v)) (KF2 C A env E (.Tuple elts x1 tpos) body orelse Q) E s := fun s D ht => by
  obtain ⟨es, ep, hr⟩ := hk
  have hm : ∀ {s : Shared} {i m₁ n₁}, J i m₁ n₁ → (∀ p ∈ n₁, s.heap.get? p.1 = some p.2) → s.heap.DictAt (strKind PR C.w) d ex ep := fun j hn => ⟨o, es, hn _ (hd _ _ _ j), hr⟩
  refine wpAny_pyIter_items (v := v) (d := d) (kvs := ex) (ep := ep) ⟨_, D.get hv, rfl, rfl⟩ (hm h0 fun p hp => (D.nw p hp).1) ?_
  refine codeAny_forLoop_any (DInv C s₀ W env G J s.heap.objs.size d ex.length ep) ?_ ex.length ⟨0, m, n, .none, .none, rfl, h0, D.push _ _ _ rfl, ht⟩
  generalize s.heap.objs.size = I
  rintro k s' ⟨i, m₁, n₁, ok, ov, hki, hJ, D', ht'⟩
  have hit : IsItemIter s'.heap I d i ex.length ep ok ov := (D'.nw _ (.head _)).1
  have hmd := hm (s := s') hJ fun p hp => (D'.nw p (.tail _ hp)).1
  by_cases hil : i < ex.length
  · obtain ⟨⟨k', u⟩, hx⟩ : ∃ ku, ex[i]? = some ku := ⟨_, List.getElem?_eq_getElem hil⟩
    refine wpAny_pyNext_items_item hit hmd hx fun key h' hkey heo hT hz hk => ?_
    refine wpAny_letOwnedTupleGo_items heo fun h₂ he₂ hs₂ => ?_
    obtain ⟨t, rfl⟩ : ∃ t, key = .str k' t := by
      cases key <;> first | (cases hkey; done) | skip
      rename_i y t
      exact ⟨t, by rw [eq_of_beq (show (y == k') = true from hkey)]⟩
    have hIT : I ≠ s'.heap.objs.size := Nat.ne_of_lt (Heap.lt_size hit)
    replace hs₂ : Heap.SameBut I h' h₂ := hs₂
    have D2 : St C s₀ W env G { s' with heap := h₂ } m₁ ((s'.heap.objs.size, tupObj [.str k' t, u]) :: (I, itemIt d (i + 1) ex.length ep (.str k' t) u) :: n₁) :=
      D'.turn2 s'.drawn s'.toks (fun b o hb e => (hs₂.2 b hb).trans (hk b o hb e)) he₂ ((hs₂.2 _ (Ne.symm hIT)).trans hT) (get_size _)
    refine wpAny_with_toks (n := 1) ht' (wpAny_mono (turn i k' u m₁ n₁ _ _ _ t _ hx hJ _ D2 ht') (fun _ s₂ h₂ ht₂ => wpAny_with_toks ht₂ (wpAny_mono h₂ (fun f s₃ h₃ ht₃ => ?_) fun _ _ e _ => e)) fun _ _ e _ => e)
    have fin : CT C s₀ W env G (J (i + 1)) [(I, itemIt d (i + 1) ex.length ep (.str k' t) u)] s₃ → ∃ k', k' < k ∧ DInv C s₀ W env G J I d ex.length ep k' s₃ := fun ⟨m₂, n₂, hJ2, D3⟩ =>
      ⟨k - 1, (pred_turn hil hki).1, i + 1, m₂, n₂, _, _, (pred_turn hil hki).2, hJ2, D3, ht₃⟩
    cases f with
    | next => exact fin h₃
    | cont => exact fin h₃
    | brk => exact h₃
    | ret v => exact h₃
  · obtain rfl : i = ex.length := end_turn hil hki
    exact wpAny_pyNext_items_end hh hit hmd (List.getElem?_eq_none (Nat.le_refl _)) fun h' hs => done m₁ n₁ _ hJ _ (D'.drop _ _ hs) ht'
end
/-- what add_header makes of the value of the parameter k_ -/
inductive HV : Value → List Nat → Prop
  | none : HV .none [107, 45]
  | empty (t : Tok) : HV (.str (strOf []) t) [107, 45]
  | text (x : List Nat) (t : Tok) : x ≠ [] → Plain x → x.length ≤ 100 → (repB x).length ≤ 1000 → (repQ (repB x)).length ≤ 10000 → HV (.str (strOf x) t) (fpF [107, 45] x)
inductive KwPs : List (Str × Value) → List (List Nat) → Prop
  | nil : KwPs [] []
  | one (v : Value) (p : List Nat) : HV v p → KwPs [(Str.ofString "k_", v)] [p]
/-- what _formatparam makes of a text behind k- -/
noncomputable def FpP (x p : List Nat) : Prop := (x = [] ∧ p = [107, 45]) ∨ (x ≠ [] ∧ x.length ≤ 100 ∧ (repB x).length ≤ 1000 ∧ (repQ (repB x)).length ≤ 10000 ∧ p = fpF [107, 45] x)
theorem hv_two {v : Value} {p : List Nat} (h : HV v p) : (v = .none ∧ p = [107, 45]) ∨ ∃ x t, v = .str (strOf x) t ∧ Plain x ∧ x.length ≤ 100 ∧ FpP x p := by
  cases h with
  | none => exact .inl ⟨rfl, rfl⟩
  | empty t => exact .inr ⟨[], t, rfl, (fun _ h => nomatch h), by decide, .inl ⟨rfl, rfl⟩⟩
  | text x t h1 h2 h3 h4 h5 => exact .inr ⟨x, t, rfl, h2, h3, .inr ⟨h1, h3, h4, h5, rfl⟩⟩
theorem kw_at {kw : List (Str × Value)} {ps : List (List Nat)} (h : KwPs kw ps) {i : Nat} {k : Str} {v : Value} (hi : kw[i]? = some (k, v)) : i = 0 ∧ k = strOf [107, 95] ∧ ∃ p, ps = [p] ∧ HV v p := by
  have ek : Str.ofString "k_" = strOf [107, 95] := by decide +kernel
  cases h with
  | nil => cases hi
  | one v' p hv =>
    cases i with
    | zero => cases hi; exact ⟨rfl, ek, p, rfl, hv⟩
    | succ i => cases hi
theorem kw_len {kw : List (Str × Value)} {ps : List (List Nat)} (h : KwPs kw ps) : kw.length = ps.length ∧ ps.length ≤ 1 ∧ kwDistinct kw = true := by
  cases h with
  | nil => exact ⟨rfl, by decide, rfl⟩
  | one v p hv => exact ⟨rfl, by simp, rfl⟩
theorem kw_sum {kw : List (Str × Value)} {ps : List (List Nat)} (h : KwPs kw ps) (hpl : ∀ p ∈ ps, p.length ≤ 1000) : (ps.map (·.length)).sum ≤ 1000 := by
  cases h with
  | nil => simp
  | one v p hv => simpa using hpl p (.head _)
theorem kw_binds {kw : List (Str × Value)} {ps : List (List Nat)} (h : KwPs kw ps) (a b c : Value) : BindsK f306.fd ⟨[a, b, c], kw⟩ [("self", a), ("_name", b), ("_value", c)] kw "_params" := by
  cases h with
  | nil => unfold BindsK; kernel_rfl
  | one v p hv => unfold BindsK; kernel_rfl
section
variable {C : Cx} {s₀ : Shared} {W : List Addr} {env : Env} {G : List (Nat × GenState)} {A : Around} {E : Value → Shared → Prop} {m m' : List (Str × Bnd)} {n n' : List (Addr × Obj)}
theorem T_for {target iter : Expr} {body orelse : List Stmt} {pos : Pos} {Q : Flow → Shared → Prop}
    (h : ∀ s, St C s₀ W env G s m n → 1 ≤ s.toks → wpAny (MM C.w) A (eval iter env) (KF1 C A env E target body orelse Q) E s)
    (hs : ∀ x, foldedSetIterable iter env x = pure x := by intro _; with_unfolding_all rfl) :
    ∀ s, St C s₀ W env G s m n → 1 ≤ s.toks → wpAny (MM C.w) A (exec (.For target iter body orelse pos) env) Q E s := fun s D ht => wpAny_For (h s D ht) hs
theorem T_items {pos : Pos} {e : Expr} {rest : List Expr} {Q : List Value → Shared → Prop}
    (h : ∀ s, St C s₀ W env G s m n → 1 ≤ s.toks → wpAny (MM C.w) A (eval e env) (KI1 C A env E pos rest Q) E s)
    (he : starEach (e :: rest) env = (false, eval e env) :: starEach rest env := by with_unfolding_all rfl) :
    ∀ s, St C s₀ W env G s m n → 1 ≤ s.toks → wpAny (MM C.w) A (spliced (backTo pos (starEach (e :: rest) env))) Q E s := fun s D ht => wpAny_items_cons (h s D ht) he
theorem T_callN {func : Expr} {pos : Pos} {args : List Expr} {Q : Value → Shared → Prop}
    (h : ∀ s, St C s₀ W env G s m n → 1 ≤ s.toks → wpAny (MM C.w) A (eval func env) (KCn C A env E pos args Q) E s)
    (hf : eval (.Call func args [] pos) env = (do callWith pos (← eval func env) [] (backTo pos (starEach args env)) (backToKw pos (keywordEach [] env))) := by with_unfolding_all rfl) :
    ∀ s, St C s₀ W env G s m n → 1 ≤ s.toks → wpAny (MM C.w) A (eval (.Call func args [] pos) env) Q E s := fun s D ht => by
  rw [hf]; exact wpAny_bind (h s D ht)
theorem c_replaceK {u v : Tok} {t : Tok} {Q : Value → Shared → Prop} (hu : u ≠ 0) (hv : v ≠ 0) (huv : u ≠ v)
    (h : ∀ t, ∀ s, St C s₀ W env G s m n → 1 ≤ s.toks → Q (.str (strOf [107, 45]) t) s) :
    ∀ s, St C s₀ W env G s m n → 1 ≤ s.toks → wpAny (MM C.w) A (call (.builtin "str.replace") ([.str (strOf [107, 95]) t] ++ [.str (Str.ofString "_") u, .str (Str.ofString "-") v])) Q E s := by
  refine c_replace hu hv huv (by decide +kernel) (by decide +kernel) ?_
  rw [show (Txt.replace (strOf [107, 95]) (Str.ofString "_") (Str.ofString "-")).cps.toList = [107, 45] by decide +kernel]
  exact h
theorem s_fpX {x p : List Nat} {t u : Tok} {Q : Value → Shared → Prop} (hA : Ok A 10) (hf : FpP x p) (h : ∀ t, ∀ s, St C s₀ W env G s m n → Q (.str (strOf p) t) s) :
    ∀ s, St C s₀ W env G s m n → wpAny (MM C.w) A (call (.ref 186) [.str (strOf [107, 45]) t, .str (strOf x) u] []) Q E s := by
  rcases hf with ⟨rfl, rfl⟩ | ⟨h1, h2, h3, h4, rfl⟩
  · exact s_fp0 hA (h t)
  · exact s_fp1 hA h1 h2 h3 h4 (by decide) h
inductive I34 (H dx hl : Addr) (o : Obj) (vs : List Value) (e : Nat) (ts : List (Addr × Obj)) (x y : List Nat) (ps : List (List Nat)) (t u : Tok) (d pa vw : Addr) (od : Obj) (i : Nat) (m₁ : List (Str × Bnd)) (n₁ : List (Addr × Obj)) : Prop
  | mk (vk vv : Option Value) (ws : List Value) (e' : Nat) (_ : m₁ = M306 (some (.ref H)) (some (.str (strOf x) t)) (some (.str (strOf y) u)) (some (.ref d)) (some (.ref pa)) vk vv) (_ : n₁ = (vw, itemsView d) :: (pa, listObj ws e') :: (d, od) :: hdL H dx o hl vs e ts) (_ : SL ws (y :: ps.take i))
theorem s_add {H dx hl : Addr} {o : Obj} {vs : List Value} {e : Nat} {ts : List (Addr × Obj)} {l : List (List Nat × List Nat)} {x y : List Nat} {t u : Tok} {kw : List (Str × Value)} {ps : List (List Nat)} {Q : Value → Shared → Prop} (hA : Ok A 40) (P : HdP o hl vs ts l)
    (hx : Good x) (hy : Plain y) (hyl : y.length ≤ 100) (hn : l.length < 30) (hkw : KwPs kw ps) (hpl : ∀ p ∈ ps, p.length ≤ 1000) (hr : Plain (joinL [59, 32] (y :: ps))) (hrl : (joinL [59, 32] (y :: ps)).length ≤ 1000)
    (h : ∀ vs' e' ts', HdP o hl vs' ts' (l ++ [(x, joinL [59, 32] (y :: ps))]) → ∀ s, St C s₀ W env G s m (hdL H dx o hl vs' e' ts' ++ n) → Q .none s) :
    ∀ s, St C s₀ W env G s m (hdL H dx o hl vs e ts ++ n) → wpAny (MM C.w) A (call (.ref 306) [.ref H, .str (strOf x) t, .str (strOf y) u] kw) Q E s := by
  intro s D
  have hnd : ((hdL H dx o hl vs e ts).map (·.1)).Nodup := D.na.sublist ((List.sublist_append_left _ _).map _)
  refine wpAny_call (t_enterK f306 D (hA.le (by decide) : Ok A (39 + 1)) rfl (kw_binds hkw _ _ _) (kw_len hkw).2.2 (by decide +kernel) (fun d => hl306) (fun d => mi306 C.w) (hdL H dx o hl vs e ts) (fun p hp => List.mem_append_left _ hp) hnd ?_)
  intro d od s₂ hkd hmod D2 hnd2 L E'
  have hA' : Ok (A.deeper (fnEnv f306.fd 306 L)) 35 := (hA.le (by decide) : Ok A (35 + 1)).deeper
  generalize (A.deeper (fnEnv f306.fd 306 L)) = A' at hA' ⊢
  unfold hdL at hnd hnd2 D D2 ⊢
  refine T_cons ?_
  refine tk ?_
  repeat' tb_start
  rename_i pa
  refine T_cons ?_
  refine tk ?_
  repeat' tb_start
  refine P.meth (f := 208) (by news_at) (by news_at) (by kernel_rfl) (by kernel_rfl) (by kernel_rfl) ?_
  repeat' tb_start
  refine s_conv (hA'.le (by decide)) hy (by omega) ?_
  repeat' tb_start
  refine c_append (by news_at) (by tb_rel) (by decide) ?_
  repeat' tb_start
  refine T_cons ?_
  refine T_for ?_
  refine tk ?_
  repeat' tb_start
  refine g_items hkd (by news_at) ?_
  repeat' tb_start
  refine c_items hkd (by news_at) hmod ?_
  intro vw
  refine t_forItems (o := od) (I34 H dx hl o vs e ts x y ps t u d pa vw od) hA'.hh hkd (by news_at) ?_ ?_ ?_ ?_
  · rintro i m₁ n₁ ⟨vk, vv, ws, e', rfl, rfl, hw⟩
    news_at
  · exact ⟨_, _, _, _, rfl, rfl, .cons _ _ .nil⟩
  · rintro i k v m₁ n₁ I oI T tk' E' hi ⟨vk, vv, ws, e', rfl, rfl, hw⟩
    obtain ⟨rfl, rfl, p, hps, hv⟩ := kw_at hkw hi
    clear hi
    have hwl : ws.length = 1 := by have := hw.length; simpa using this
    unfold hdL
    refine tk ?_
    repeat' tb_start
    refine T_cons ?_
    refine tk ?_
    repeat' tb_start
    refine P.meth (f := 208) (by news_at) (by news_at) (by kernel_rfl) (by kernel_rfl) (by kernel_rfl) ?_
    repeat' tb_start
    refine s_conv (hA'.le (by decide)) (by unfold Plain; decide) (by decide) ?_
    repeat' tb_start
    refine T_cons ?_
    refine T_if ?_
    refine tk ?_
    rcases hv_two hv with ⟨rfl, hp⟩ | ⟨x', tv, rfl, h2, h3, hf⟩
    · repeat' tb_start
      refine T_ift ?_
      refine T_cons ?_
      refine T_expr ?_
      refine T_meth ?_
      refine tk ?_
      repeat' tb_start
      refine tk ?_
      repeat' tb_start
      refine T_callWith ?_
      refine T_items ?_
      refine T_meth ?_
      refine tk ?_
      repeat' tb_start
      refine tk ?_
      repeat' tb_start
      refine T_callWith ?_
      refine T_items2 ?_
      intro u1 v1 hu1 hv1 huv1
      refine T_kv rfl ?_
      refine c_replaceK hu1 hv1 huv1 ?_
      intro t1
      refine T_drop ?_
      repeat' tb_start
      refine c_append (by news_at) (by tb_rel) (by rw [sizeLine_eq]; omega) ?_
      repeat' tb_start
      intro s₃ D₃
      exact ⟨_, _, ⟨_, _, _, _, rfl, rfl, (by rw [hps] at hw ⊢; first | exact hp ▸ hw.snoc _ _ | exact hw.snoc _ _)⟩, D₃.sub (.cons _ (.refl _))⟩
    · repeat' tb_start
      refine T_iff ?_
      refine T_cons ?_
      refine tk ?_
      repeat' tb_start
      refine P.meth (f := 208) (by news_at) (by news_at) (by kernel_rfl) (by kernel_rfl) (by kernel_rfl) ?_
      repeat' tb_start
      refine s_conv (hA'.le (by decide)) h2 (Nat.le_trans h3 (by decide)) ?_
      repeat' tb_start
      refine T_cons ?_
      refine T_expr ?_
      refine T_meth ?_
      refine tk ?_
      repeat' tb_start
      refine tk ?_
      repeat' tb_start
      refine T_callWith ?_
      refine T_items ?_
      refine T_callN ?_
      refine tk ?_
      repeat' tb_start
      refine T_callWith ?_
      refine T_items ?_
      refine T_meth ?_
      refine tk ?_
      repeat' tb_start
      refine tk ?_
      repeat' tb_start
      refine T_callWith ?_
      refine T_items2 ?_
      intro u1 v1 hu1 hv1 huv1
      refine T_kv rfl ?_
      refine c_replaceK hu1 hv1 huv1 ?_
      intro t1
      refine T_drop ?_
      repeat' tb_start
      refine s_fpX (hA'.le (by decide)) hf ?_
      intro t3
      repeat' tb_start
      refine c_append (by news_at) (by tb_rel) (by rw [sizeLine_eq]; omega) ?_
      repeat' tb_start
      intro s₃ D₃
      exact ⟨_, _, ⟨_, _, _, _, rfl, rfl, (by rw [hps] at hw ⊢; first | exact hp ▸ hw.snoc _ _ | exact hw.snoc _ _)⟩, D₃.sub (.cons _ (.refl _))⟩
  · rintro m₁ n₁ E' ⟨vk, vv, ws, e', rfl, rfl, hw⟩
    obtain ⟨hkl, hps, _⟩ := kw_len hkw
    rw [hkl, List.take_length] at hw
    refine T_drop ?_
    unfold hdL
    repeat' tb_start
    refine P.hs (by news_at) (by news_at) ?_
    repeat' tb_start
    refine P.meth (f := 208) (by news_at) (by news_at) (by kernel_rfl) (by kernel_rfl) (by kernel_rfl) ?_
    repeat' tb_start
    refine s_conv (hA'.le (by decide)) hx.p (by have := hx.l; omega) ?_
    repeat' tb_start
    refine c_join (a := [59, 32]) (by news_at) hw (by decide) ?_ ?_
    · have := kw_sum hkw hpl
      simp only [List.map_cons, List.sum_cons, List.length_cons]
      omega
    intro t9
    repeat' tb_start
    rename_i aT
    refine c_append (by news_at) (by tb_rel) (by rw [P.t.len, sizeLine_eq]; omega) ?_
    repeat' tb_start
    intro s₃ D₃
    refine h _ (e + 1) _ (P.add hx hr hrl hn aT t t9) s₃ ?_
    have D₄ := D₃.sub (n' := (aT, tupObj [.str (strOf x) t, .str (strOf (joinL [59, 32] (y :: ps))) t9]) :: (d, od) :: (H, instObj 309 dx) :: (dx, o) :: (hl, listObj (vs ++ [.ref aT]) (e + 1)) :: ts) (.cons_cons _ (.cons _ (.cons _ (.refl _))))
    have D₅ := D2.backC (R := (d, od) :: (H, instObj 309 dx) :: (dx, o) :: (hl, listObj vs e) :: ts) (n₂ := (aT, tupObj [.str (strOf x) t, .str (strOf (joinL [59, 32] (y :: ps))) t9]) :: (d, od) :: (H, instObj 309 dx) :: (dx, o) :: (hl, listObj (vs ++ [.ref aT]) (e + 1)) :: ts) D₄ (.refl _)
    have D₆ := D₅.sub (n' := (aT, tupObj [.str (strOf x) t, .str (strOf (joinL [59, 32] (y :: ps))) t9]) :: (H, instObj 309 dx) :: (dx, o) :: (hl, listObj (vs ++ [.ref aT]) (e + 1)) :: (ts ++ n)) (.cons_cons _ (.cons _ (.refl _)))
    exact D₆.perm (n' := (H, instObj 309 dx) :: (dx, o) :: (hl, listObj (vs ++ [Value.ref aT]) (e + 1)) :: (aT, tupObj [.str (strOf x) t, .str (strOf (joinL [59, 32] (y :: ps))) t9]) :: (ts ++ n)) (List.perm_middle (a := (aT, tupObj [.str (strOf x) t, .str (strOf (joinL [59, 32] (y :: ps))) t9])) (l₁ := [(H, instObj 309 dx), (dx, o), (hl, listObj (vs ++ [Value.ref aT]) (e + 1))]) (l₂ := ts ++ n))
end
theorem pairs_nil {w : World} {es : Array DictEntry} (h : Pairs (strKind PR w) es.toList []) : es = #[] := by
  generalize hl : es.toList = l at h
  cases h
  exact Array.toList_eq_nil_iff.mp hl
theorem pairs_one {w : World} {es : Array DictEntry} {k : Str} {u : Value} (h : Pairs (strKind PR w) es.toList [(k, u)]) : ∃ e, es = #[e] ∧ (strKind PR w).is k e.key = true ∧ e.val = u := by
  generalize hl : es.toList = l at h
  cases h with
  | cons h1 h2 h3 =>
    cases h3
    exact ⟨_, by rw [← Array.toList_inj, hl], h1, h2⟩
section
variable {C : Cx} {s₀ : Shared} {W : List Addr} {env : Env} {G : List (Nat × GenState)} {A : Around} {E : Value → Shared → Prop} {m m' : List (Str × Bnd)} {n n' : List (Addr × Obj)}
theorem mg0 {d a : Addr} {o : Obj} {Q : Unit → Shared → Prop} {s : Shared} (D : St C s₀ W env G s m n) (hd : (d, dictOf [] 0) ∈ n) (ha : (a, o) ∈ n) (hk : KwD C o []) (hs : (a == sysModules) = false) (h : Q () s) : wpAny (MM C.w) A (mergeMapping d (.ref a) true) Q E s := by
  have hT := hk.typeIs (D.get ha)
  have ho := D.get ha
  obtain ⟨es, ep, hx, hdat, hkeys, hp, hn⟩ := hk
  obtain rfl := pairs_nil hp
  unfold mergeMapping
  refine wpAny_bind (wpAny_isInstance hT isSubtype_dict_dict ?_)
  rw [if_pos rfl]
  refine wpAny_bind (wpAny_specialOf hT PySem.F.slot_dict_iter.lookup ?_)
  rw [show (some (Value.builtin "dict.__iter__") == some (Value.builtin "dict.__iter__")) = true by decide]
  refine wpAny_bind (wpAny_pure ?_)
  dsimp only
  rw [if_neg (by rw [hs]; exact Bool.false_ne_true)]
  refine wpAny_bind (wpAny_dictEntries (D.get hd) rfl ?_)
  rw [if_pos (by rfl)]
  refine wpAny_bind (wpAny_dictEntries ho hdat ?_)
  refine wpAny_bind (wpAny_pure ?_)
  refine wpAny_bind (wpAny_dictEntries ho hdat ?_)
  refine wpAny_bind (wpAny_dictEpoch ho hdat ?_)
  exact wpAny_pure h
theorem mg1 {d a : Addr} {o : Obj} {k : Str} {u : Value} {Q : Unit → Shared → Prop} {s : Shared} (D : St C s₀ W env G s m ((d, dictOf [] 0) :: n)) (ha : (a, o) ∈ n) (hk : KwD C o [(k, u)]) (hs : (a == sysModules) = false)
    (h : ∀ hsh t s, St C s₀ W env G s m ((d, dictOf [⟨hsh, .str k t, u⟩] 1) :: n) → Q () s) : wpAny (MM C.w) A (mergeMapping d (.ref a) true) Q E s := by
  have ha' : (a, o) ∈ (d, dictOf [] 0) :: n := .tail _ ha
  have hT := hk.typeIs (D.get ha')
  have ho := D.get ha'
  have hd := D.get (.head _)
  have hne : a ≠ d := fun e => by
    have := D.na
    rw [List.map_cons, List.nodup_cons] at this
    exact this.1 (e ▸ List.mem_map_of_mem (f := (·.1)) ha)
  obtain ⟨es, ep, hx, hdat, hkeys, hp, hn⟩ := hk
  obtain ⟨e, rfl, hek, hev⟩ := pairs_one hp
  obtain ⟨k2, hk2, hh2⟩ := hkeys e (by simp)
  obtain ⟨hsh, key, val⟩ := e
  obtain ⟨t, rfl⟩ : ∃ t, key = .str k t := by
    cases key <;> first | (cases hek; done) | skip
    rename_i y t
    exact ⟨t, by rw [eq_of_beq (show (y == k) = true from hek)]⟩
  have hev : val = u := hev
  subst hev
  have hk2 : (k == k2) = true := hk2
  obtain rfl := eq_of_beq hk2
  have hh2 : hsh = (strKind PR C.w).hash k := hh2
  unfold mergeMapping
  refine wpAny_bind (wpAny_isInstance hT isSubtype_dict_dict ?_)
  rw [if_pos rfl]
  refine wpAny_bind (wpAny_specialOf hT PySem.F.slot_dict_iter.lookup ?_)
  rw [show (some (Value.builtin "dict.__iter__") == some (Value.builtin "dict.__iter__")) = true by decide]
  refine wpAny_bind (wpAny_pure ?_)
  dsimp only
  rw [if_neg (by rw [hs]; exact Bool.false_ne_true)]
  refine wpAny_bind (wpAny_dictEntries hd rfl ?_)
  rw [if_pos (by rfl)]
  refine wpAny_bind (wpAny_dictEntries ho hdat ?_)
  refine wpAny_bind (wpAny_pure ?_)
  refine wpAny_bind (wpAny_dictEntries ho hdat ?_)
  refine wpAny_bind (wpAny_dictEpoch ho hdat ?_)
  rw [show List.range (#[(⟨hsh, .str k t, val⟩ : DictEntry)]).size = [0] from rfl]
  rw [List.forIn_cons]
  refine wpAny_bind (wpAny_bind (wpAny_bind (wpAny_dictEntries ho hdat ?_)))
  subst hh2
  rw [show (#[(⟨(strKind PR C.w).hash k, .str k t, val⟩ : DictEntry)] : Array DictEntry)[0]? = some ⟨(strKind PR C.w).hash k, .str k t, val⟩ from rfl]
  dsimp only
  refine wpAny_bind (wpAny_holding ?_)
  rw [if_pos rfl]
  have hke : KeysOf (strKind PR C.w) (#[] : Array DictEntry) := fun e he => nomatch (show e ∈ (#[] : Array DictEntry) from he)
  refine wpAny_bind (wpAny_dictFind_of (knd := strKind PR C.w) (k := k) (key := .str k t) hek hd rfl hke ?_)
  have hfi : ∀ p : DictEntry → Bool, Array.findIdx? p ([] : List DictEntry).toArray = none := fun p => by simp
  rw [hfi, if_neg (by decide)]
  unfold dictPut
  refine wpAny_bind (wpAny_dictFind_of (knd := strKind PR C.w) (k := k) (key := .str k t) hek hd rfl hke ?_)
  rw [hfi]
  dsimp only
  refine wpAny_updateDictKeys hd rfl ?_
  have hobj : Obj.mapDictKeys (·.push (⟨(strKind PR C.w).hash k, .str k t, val⟩ : DictEntry)) (dictOf [] 0) = dictOf [⟨(strKind PR C.w).hash k, .str k t, val⟩] 1 := rfl
  have hg := Heap.get?_update_self (Obj.mapDictKeys (·.push (⟨(strKind PR C.w).hash k, .str k t, val⟩ : DictEntry))) hd rfl
  rw [hobj] at hg
  have D' := D.upd s.drawn s.toks .head (Heap.SameBut.update ..) hg
  refine wpAny_bind (wpAny_dictEpoch (D'.get (.tail _ ha)) hdat ?_)
  rw [if_neg (by simp)]
  refine wpAny_pure ?_
  exact wpAny_pure (wpAny_pure (h _ _ _ D'))
end
section
variable {C : Cx} {s₀ : Shared} {W : List Addr} {env : Env} {G : List (Nat × GenState)} {A : Around} {E : Value → Shared → Prop} {m m' : List (Str × Bnd)} {n n' : List (Addr × Obj)}
theorem merged_star {M : Model} {f : Value} {t : Sem Value} {Q : Addr → Shared → Prop} {s : Shared}
    (h : wpAny M A t (fun kd s₁ => wpAny M A (mergeMapping s.heap.objs.size kd true) (fun _ s₂ => Q s.heap.objs.size s₂) (fun _ _ => False) s₁) E { s with heap := s.heap.push (dictOf [] 0) }) :
    wpAny M A (mergedKeywords f [(none, t)]) Q E s := by
  unfold mergedKeywords
  refine wpAny_bind (wpAny_alloc ?_)
  refine wpAny_bind (wpAny_holding ?_)
  dsimp only
  refine wpAny_bind ?_
  rw [List.forIn_cons]
  refine wpAny_bind ?_
  dsimp only
  rw [if_pos (by rfl)]
  refine wpAny_bind (wpAny_pure ?_)
  refine wpAny_bind (wpAny_mono h (fun kd s₁ h₁ => ?_) fun _ _ e => e)
  refine wpAny_bind (wpAny_onRaise (wpAny_holding (wpAny_tryCatch (wpAny_onRaise (wpAny_mono h₁ (fun _ s₂ h₂ => ?_) fun _ _ e => e.elim)))))
  refine wpAny_pure ?_
  dsimp only
  rw [List.forIn_nil]
  refine wpAny_pure ?_
  rw [if_pos (by rfl)]
  refine wpAny_pure ?_
  exact wpAny_pure h₂
theorem keywordsIn0 {M : Model} {f : Value} {d : Addr} {Q : List (Str × Value) → Shared → Prop} {s : Shared} (hd : s.heap.get? d = some (dictOf [] 0)) (h : Q [] s) : wpAny M A (keywordsIn f d) Q E s := by
  unfold keywordsIn
  refine wpAny_bind (wpAny_dictEntries hd rfl ?_)
  refine wpAny_bind ?_
  refine wpAny_pure ?_
  exact wpAny_pure h
theorem keywordsIn1 {M : Model} {f : Value} {d : Addr} {hsh : Int} {k : Str} {t : Tok} {u : Value} {j : Nat} {Q : List (Str × Value) → Shared → Prop} {s : Shared} (hd : s.heap.get? d = some (dictOf [⟨hsh, .str k t, u⟩] j)) (h : Q [(k, u)] s) : wpAny M A (keywordsIn f d) Q E s := by
  unfold keywordsIn
  refine wpAny_bind (wpAny_dictEntries hd rfl ?_)
  refine wpAny_bind ?_
  rw [← Array.forIn_toList]
  rw [show ([(⟨hsh, .str k t, u⟩ : DictEntry)].toArray).toList = [⟨hsh, .str k t, u⟩] from rfl, List.forIn_cons]
  refine wpAny_bind (wpAny_pure ?_)
  dsimp only
  rw [List.forIn_nil]
  refine wpAny_pure ?_
  exact wpAny_pure h
theorem t_callStar {fx ex' xx : Str} {p1 p2 p3 p4 pos : Pos} {fa d : Addr} {of o : Obj} {fd : FuncData} {v : Value} {ex : List (Str × Value)} {Q : Value → Shared → Prop}
    (hf : (fx, Bnd.loc (some (.ref fa))) ∈ m) (hv : (ex', Bnd.loc (some v)) ∈ m) (hx : (xx, Bnd.loc (some (.ref d))) ∈ m) (hfo : (fa, of) ∈ n) (hfd : of.data = .func fd) (hd : (d, o) ∈ n) (hk : KwD C o ex)
    (hex : ex = [] ∨ ∃ k u, ex = [(k, u)]) (hs : (d == sysModules) = false)
    (h : ∀ s, St C s₀ W env G s m n → wpAny (MM C.w) A (call (.ref fa) [v] ex) Q E s)
    (hd1 : (fx == ("__debug__" : Str)) = false := by with_unfolding_all decide) (hd2 : (ex' == ("__debug__" : Str)) = false := by with_unfolding_all decide) (hd3 : (xx == ("__debug__" : Str)) = false := by with_unfolding_all decide)
    (he : eval (.Call (.Name fx p1) [.Name ex' p2] [⟨none, .Name xx p3, p4⟩] pos) env = (do callWith pos (← eval (.Name fx p1) env) [] (backTo pos (starEach [.Name ex' p2] env)) (backToKw pos (keywordEach [⟨none, .Name xx p3, p4⟩] env))) := by with_unfolding_all rfl)
    (he1 : starEach [.Name ex' p2] env = (false, eval (.Name ex' p2) env) :: starEach [] env := by with_unfolding_all rfl)
    (he2 : backToKw pos (keywordEach [⟨none, .Name xx p3, p4⟩] env) = [(none, do let v ← eval (.Name xx p3) env; standAt pos; pure v)] := by with_unfolding_all rfl) :
    ∀ s, St C s₀ W env G s m n → wpAny (MM C.w) A (eval (.Call (.Name fx p1) [.Name ex' p2] [⟨none, .Name xx p3, p4⟩] pos) env) Q E s := fun s D => by
  rw [he, he2]
  refine wpAny_bind (t_loc hf (fun s D => ?_) hd1 s D)
  have key : wpAny (MM C.w) A (evalArgs (.ref fa) true (backTo pos (starEach [.Name ex' p2] env)) [(none, do let v ← eval (.Name xx p3) env; standAt pos; pure v)]) (fun a s' => a = ⟨[v], ex⟩ ∧ St C s₀ W env G s' m n) E s := by
    unfold evalArgs
    rw [he1]
    show wpAny (MM C.w) A (spliced ((false, eval (.Name ex' p2) env) :: backTo pos (starEach [] env)) >>= _) _ E s
    refine wpAny_bind (Q := _) (t_items (pos := pos) (fun s D => ?_) he1 s D |> fun hh => by rw [he1] at hh; exact hh)
    refine t_loc hv (t_items_nil fun s D => ?_) hd2 s D
    refine wpAny_bind (wpAny_pure ?_)
    refine wpAny_holding ?_
    rw [if_neg (by show ¬ (false = true); decide)]
    refine wpAny_bind (merged_star ?_)
    have D1 := D.push (dictOf [] 0) s.drawn s.toks rfl
    refine wpAny_bind (t_loc hx (fun s₁ D₁ => ?_) hd3 _ D1)
    refine wpAny_bind (wpAny_standAt (wpAny_pure ?_))
    rcases hex with rfl | ⟨k, u, rfl⟩
    · refine mg0 D₁ (.head _) (.tail _ hd) hk hs ?_
      refine wpAny_bind (wpAny_pure ?_)
      refine wpAny_bind (wpAny_holding (keywordsIn0 (D₁.get (.head _)) ?_))
      exact wpAny_pure ⟨rfl, D₁.sub (.cons _ (.refl _))⟩
    · refine mg1 D₁ hd hk hs fun hsh t s₂ D₂ => ?_
      refine wpAny_bind (wpAny_pure ?_)
      refine wpAny_bind (wpAny_holding (keywordsIn1 (D₂.get (.head _)) ?_))
      exact wpAny_pure ⟨rfl, D₂.sub (.cons _ (.refl _))⟩
  unfold callWith
  refine wpAny_bind (wpAny_holding (wpAny_mono key (fun a s₁ h₁ => wpAny_bind (wpAny_standAt ?_)) fun _ _ x => x))
  obtain ⟨rfl, D₁⟩ := h₁
  have L : Looks (MM C.w) s₁.heap (keeperOf (.ref fa)) .frame := by
    refine (Looks.ld (part := none) (D₁.get hfo)).andThen ?_
    rw [hfd]; exact Looks.now
  dsimp only
  refine wpAny_bind (L.here ?_)
  have hst : ((backTo pos (starEach [.Name ex' p2] env)).any (·.1) || ([(none, do let v ← eval (.Name xx p3) env; standAt pos; pure v)] : List (Option Str × Sem Value)).any (·.1.isNone)) = true := by
    rw [Bool.or_eq_true]; exact .inr rfl
  rw [hst]
  dsimp only
  refine wpAny_bind ?_
  unfold callMarked
  refine wpAny_keep (wpAny_mono (h s₁ D₁) (fun r s₂ hr => ?_) fun _ _ x => x)
  exact wpAny_bind (wpAny_holding (wpAny_point (wpAny_pure hr)))
end
/-- the cells of a frame, new -/
noncomputable def cellRows : Nat → List (Str × NameKind) → List (Addr × Obj)
  | _, [] => []
  | n, (_, k) :: r => if k == .cell then (n, cellObj none) :: cellRows (n + 1) r else cellRows n r
theorem cellRows_ge : ∀ (names : List (Str × NameKind)) (n : Nat), ∀ p ∈ cellRows n names, n ≤ p.1
  | [], _, _, h => nomatch h
  | (_, k) :: r, n, p, h => by
    unfold cellRows at h
    split at h
    · rcases List.mem_cons.mp h with rfl | h
      · exact Nat.le_refl _
      · exact Nat.le_trans (Nat.le_succ n) (cellRows_ge r (n + 1) p h)
    · exact cellRows_ge r n p h
theorem cellRows_nodup : ∀ (names : List (Str × NameKind)) (n : Nat), ((cellRows n names).map (·.1)).Nodup
  | [], _ => .nil
  | (_, k) :: r, n => by
    unfold cellRows
    split
    · rw [List.map_cons, List.nodup_cons]
      refine ⟨fun hm => ?_, cellRows_nodup r (n + 1)⟩
      obtain ⟨p, hp, e⟩ := List.mem_map.mp hm
      have h1 : n + 1 ≤ p.1 := cellRows_ge r (n + 1) p hp
      have e : p.1 = n := e
      rw [e] at h1
      exact absurd h1 (Nat.not_succ_le_self n)
    · exact cellRows_nodup r n
theorem pushCells_rows : ∀ (names : List (Str × NameKind)) (h : Heap), ∀ p ∈ cellRows h.objs.size names, (pushCells h names).get? p.1 = some p.2
  | [], _, _, hp => nomatch hp
  | (_, k) :: r, h, p, hp => by
    unfold cellRows at hp
    unfold pushCells
    split at hp
    · rename_i hk
      rw [if_pos hk]
      rcases List.mem_cons.mp hp with rfl | hp
      · exact pushCells_keeps r _ _ _ (Heap.get?_push_size _ rfl)
      · refine pushCells_rows r _ p ?_
        rw [Heap.size_push]; exact hp
    · rename_i hk
      rw [if_neg hk]
      exact pushCells_rows r h p hp
noncomputable def cEnv (fd : FuncData) (f L : Addr) : Env := newEnv fd.scope L fd.globals (cellsFrom (L + 1) fd.scope.names []) (fd.qualname ++ ".<locals>.") (some f) fd.code none fd.builtins
/-- what is bound, name by name -/
noncomputable def Stores (M : Model) (A : Around) (E : Value → Shared → Prop) (env : Env) : List (Str × Value) → (Shared → Prop) → Shared → Prop
  | [], Q, s => Q s
  | (x, v) :: r, Q, s => wpAny M A (storeName env x v) (fun _ s' => Stores M A E env r Q s') E s
theorem wp_stores {M : Model} {A : Around} {E : Value → Shared → Prop} {env : Env} (f : Str × Value → PUnit → Sem (ForInStep PUnit)) (hf : ∀ n v u, f (n, v) u = (do storeName env n v; pure (.yield ⟨⟩))) :
    ∀ (binds : List (Str × Value)) (Q : PUnit → Shared → Prop) (s : Shared), Stores M A E env binds (Q ⟨⟩) s → wpAny M A (forIn binds ⟨⟩ f) Q E s
  | [], Q, s, h => by rw [List.forIn_nil]; exact wpAny_pure h
  | (n, v) :: r, Q, s, h => by
    rw [List.forIn_cons, hf]
    exact wpAny_bind (wpAny_bind (wpAny_mono h (fun _ s' h' => wpAny_pure (wp_stores f hf r Q s' h')) fun _ _ e => e))
theorem Stores.mono {M : Model} {A : Around} {E : Value → Shared → Prop} {env : Env} {Q Q' : Shared → Prop} (h : ∀ s, Q s → Q' s) : ∀ (binds : List (Str × Value)) (s : Shared), Stores M A E env binds Q s → Stores M A E env binds Q' s
  | [], s, hh => h s hh
  | (x, v) :: r, s, hh => wpAny_mono (show wpAny M A (storeName env x v) _ E s from hh) (fun _ s' h' => Stores.mono h r s' h') fun _ _ e => e
section
variable {C : Cx} {s₀ s s' : Shared} {W W' : List Addr} {env env' : Env} {G G' : List (Nat × GenState)} {m m' : List (Str × Bnd)} {n n' n'' : List (Addr × Obj)}
theorem t_enterTop {A : Around} {f : Addr} (F : FnOf f) {args : List Value} {kw : List (Str × Value)} {k : Nat} {R' : Result → Shared → Prop} (binds : List (Str × Value)) (mi mi' : Addr → List (Str × Bnd)) (nl : Addr → List (Addr × Obj)) (R : List (Addr × Obj))
    (g : Gd C s.heap) (hR : ∀ p ∈ R, s.heap.get? p.1 = some p.2 ∧ Dyn C p.1) (hA : Ok A (k + 1)) (hgen : F.fd.scope.isGenerator = false) (hbind : BindsTo s F.fd ⟨args, kw⟩ binds)
    (hm : ∀ L, ∀ p ∈ mi L, p.2.Ok C (cEnv F.fd f L) (fun _ => none) p.1) (hmk : ∀ L, ((mi L).map (·.1)).Nodup)
    (hRn : (R.map (·.1)).Nodup)
    (hst : ∀ L E' s₁, St C s (R.map (·.1)) (cEnv F.fd f L) [] s₁ (mi L) (cellRows (L + 1) F.fd.scope.names ++ R) → Stores (MM C.w) A.in1 E' (cEnv F.fd f L) binds (fun s₂ => St C s (R.map (·.1)) (cEnv F.fd f L) [] s₂ (mi' L) (nl L)) s₁)
    (h : ∀ L E', ∀ s₁, St C s (R.map (·.1)) (cEnv F.fd f L) [] s₁ (mi' L) (nl L) → wpAny (MM C.w) (A.deeper (cEnv F.fd f L)) (execs F.body (cEnv F.fd f L)) (fun fl s' => R' (.ok (.ret (match fl with | .ret v => v | _ => .none))) s') E' s₁) :
    codeAny (MM C.w) A (.call (.ref f) ⟨args, kw⟩) R' s := by
  obtain ⟨oc, od, osl, ho⟩ := (F.at (w := C.w)).ho
  refine codeAny_call_function (fd := F.fd) (body := F.body) (by have := hA.d; omega) (g.K _ _ ho) rfl F.hco hgen F.hbody (codeRec_of g.K (F.hcode C.w)) ?_
  refine hbind _ _ _ _ ?_
  rw [F.hcl]
  simp only [newFunctionEnv, Option.isSome_none, Bool.false_eq_true, if_false]
  refine wpAny_bind (wpAny_alloc ?_)
  refine wpAny_bind (wpAny_layCells _ (fun name kind cells => by cases hkc : kind == NameKind.cell <;> simp [hkc]) _ _ _ _ ?_)
  rw [show ({ s with heap := s.heap.push { cls := .type "frame", data := .dict #[] } } : Shared).heap.objs.size = s.heap.objs.size + 1 from Heap.size_push ..]
  refine wpAny_bind (wp_stores (env := cEnv F.fd f s.heap.objs.size) _ (fun _ _ _ => rfl) _ _ _ ?_)
  have hsz : (s.heap.push { cls := .type "frame", data := .dict #[] }).objs.size = s.heap.objs.size + 1 := Heap.size_push ..
  have hk : ∀ b o, s.heap.get? b = some o → (pushCells (s.heap.push { cls := .type "frame", data := .dict #[] }) F.fd.scope.names).get? b = some o := fun b o e => pushCells_keeps _ _ _ _ (Heap.get?_push_of_some _ e)
  have D₁ : St C s (R.map (·.1)) (cEnv F.fd f s.heap.objs.size) [] ⟨pushCells (s.heap.push { cls := .type "frame", data := .dict #[] }) F.fd.scope.names, s.gens, s.drawn, s.toks, s.os⟩ (mi s.heap.objs.size) (cellRows (s.heap.objs.size + 1) F.fd.scope.names ++ R) := by
    refine ⟨g, ⟨fun b o _ e => hk b o e, fun _ _ e => e, fun x => x, rfl⟩, fun a ha => ?_, F.hk, F.hg, F.hb, ⟨_, (Heap.Ns.new s.heap (.type "frame")).keeps (pushCells_keeps _ _), hm _⟩, (.inr (get_size _)), hmk _, fun p hp => ?_, ?_, fun _ h => nomatch h⟩
    · obtain ⟨p, hp, rfl⟩ := List.mem_map.mp ha
      exact (hR p hp).2
    · rcases List.mem_append.mp hp with hp | hp
      · have hge := cellRows_ge _ _ p hp
        have h1 : s.heap.objs.size ≤ p.1 := Nat.le_of_succ_le hge
        refine ⟨pushCells_rows _ _ p (by rw [hsz]; exact hp), ?_, .inr (Heap.get?_none_of_le h1)⟩
        show p.1 ≠ s.heap.objs.size
        exact Nat.ne_of_gt hge
      · refine ⟨hk _ _ (hR p hp).1, ?_, .inl (List.mem_map_of_mem hp)⟩
        show p.1 ≠ s.heap.objs.size
        exact Nat.ne_of_lt (Heap.lt_size (hR p hp).1)
    · rw [List.map_append, List.nodup_append]
      refine ⟨cellRows_nodup _ _, hRn, fun a ha b hb hab => ?_⟩
      subst hab
      obtain ⟨p, hp, rfl⟩ := List.mem_map.mp ha
      obtain ⟨q, hq, e⟩ := List.mem_map.mp hb
      have hge := cellRows_ge _ _ p hp
      have hlt := Heap.lt_size (hR q hq).1
      rw [e] at hlt
      exact absurd (Nat.lt_of_lt_of_le hlt (Nat.le_of_succ_le hge)) (Nat.lt_irrefl _)
  refine Stores.mono (fun s₂ D₂ => ?_) _ _ (hst _ _ _ D₁)
  exact wpAny_pure ⟨D₂.nolim, codeAny_func (h _ _ _ D₂)⟩
theorem t_enterCells {A : Around} {f : Addr} (F : FnOf f) {args : List Value} {kw : List (Str × Value)} {k : Nat} {R' : Result → Shared → Prop} (binds : List (Str × Value)) (mi mi' : Addr → List (Str × Bnd)) (nl : Addr → List (Addr × Obj)) (R : List (Addr × Obj))
    (D : St C s₀ W env G s m n) (hA : Ok A (k + 1)) (hgen : F.fd.scope.isGenerator = false) (hbind : BindsTo s F.fd ⟨args, kw⟩ binds)
    (hm : ∀ L, ∀ p ∈ mi L, p.2.Ok C (cEnv F.fd f L) (fun _ => none) p.1) (hmk : ∀ L, ((mi L).map (·.1)).Nodup)
    (hn' : ∀ p ∈ R, p ∈ n) (hRn : (R.map (·.1)).Nodup)
    (hst : ∀ L E' s₁, St C s (R.map (·.1)) (cEnv F.fd f L) [] s₁ (mi L) (cellRows (L + 1) F.fd.scope.names ++ R) → Stores (MM C.w) A.in1 E' (cEnv F.fd f L) binds (fun s₂ => St C s (R.map (·.1)) (cEnv F.fd f L) [] s₂ (mi' L) (nl L)) s₁)
    (h : ∀ L E', ∀ s₁, St C s (R.map (·.1)) (cEnv F.fd f L) [] s₁ (mi' L) (nl L) → wpAny (MM C.w) (A.deeper (cEnv F.fd f L)) (execs F.body (cEnv F.fd f L)) (fun fl s' => R' (.ok (.ret (match fl with | .ret v => v | _ => .none))) s') E' s₁) :
    codeAny (MM C.w) A (.call (.ref f) ⟨args, kw⟩) R' s :=
  t_enterTop F binds mi mi' nl R D.g (fun p hp => ⟨(D.nw p (hn' p hp)).1, (D.nw p (hn' p hp)).2.2.elim (D.dyn _) D.g0.dyn⟩) hA hgen hbind hm hmk hRn hst h
/-- a lambda's frame -/
noncomputable def lamEnv (qual : Str) (scope : Scope) (clos : List (Str × Addr)) (fa c' L : Addr) : Env := newEnv scope L mainGlobals clos (qual ++ ".<locals>.") (some fa) (.ref c') none builtinsNs
theorem t_enterLam {A : Around} {E : Value → Shared → Prop} {fa c' : Addr} {name qual : Str} {params : Arguments} {body : Expr} {scope : Scope} {clos : List (Str × Addr)} {pm ctv : Value} {oc : Obj} {vs : Array Value} {t : Tok} {args : List Value} {kw : List (Str × Value)} {k : Nat} {Q : Value → Shared → Prop}
    (binds : List (Str × Value)) (mi : List (Str × Bnd)) (R : List (Addr × Obj)) (D : St C s₀ W env G s m n) (hA : Ok A (k + 1)) (hfo : (fa, kla_obj name qual params body scope clos pm c' ctv) ∈ n) (hco : (c', oc) ∈ n) (hod : oc.data = .fields vs) (hq : vs[1]? = some (.str qual t))
    (hbind : bindArgs (kla_fn name qual params body scope clos pm (.ref c') ctv) ⟨args, kw⟩ = pure binds) (hloc : ∀ y ∈ binds, scope.names.lookup y.1 = some .local) (hcell : ∀ x ∈ scope.names, x.2 ≠ .cell)
    (hgen : scope.isGenerator = false) (hcor : scope.isCoroutine = false) (hk : scope.kind = .function)
    (hm : ∀ L, ∀ p ∈ mi, p.2.Ok C (lamEnv qual scope clos fa c' L) (fun y => binds.reverse.lookup y) p.1) (hmk : (mi.map (·.1)).Nodup)
    (hn' : ∀ p ∈ R, p ∈ n) (hRn : (R.map (·.1)).Nodup)
    (h : ∀ L E', ∀ s₁, St C s (R.map (·.1)) (lamEnv qual scope clos fa c' L) [] s₁ mi R → wpAny (MM C.w) (A.deeper (lamEnv qual scope clos fa c' L)) (eval body (lamEnv qual scope clos fa c' L)) Q E' s₁) :
    wpAny (MM C.w) A (call (.ref fa) args kw) Q E s := by
  refine wpAny_call (kla_callFunE (o := kla_obj name qual params body scope clos pm c' ctv) (fd := kla_fn name qual params body scope clos pm (.ref c') ctv) (body := body) (by have := hA.d; omega) (D.get hfo) rfl hcor hgen rfl ⟨c', oc, vs, t, rfl, D.get hco, hod, hq⟩ ?_)
  rw [hbind]
  refine wpAny_pure (wpAny_newFunctionEnv hcell hloc (fun h' hns hs => ?_) hk)
  have hkp : ∀ b o, s.heap.get? b = some o → h'.get? b = some o := fun b o e => hs.extBut b o (Nat.ne_of_lt (Heap.lt_size e)) (Heap.get?_push_of_some _ e)
  have hwi : ∀ a ∈ R.map (·.1), a ≠ env.locals ∧ (a ∈ W ∨ s₀.heap.get? a = none) := fun a ha => by
    obtain ⟨p, hp, rfl⟩ := List.mem_map.mp ha
    exact (D.nw p (hn' p hp)).2
  have D₁ : St C s (R.map (·.1)) (lamEnv qual scope clos fa c' s.heap.objs.size) [] ⟨h', s.gens, s.drawn, s.toks + binds.length, s.os⟩ mi R := by
    refine ⟨D.g, ⟨fun b o _ e => hkp b o e, fun _ _ e => e, fun x => x, rfl⟩, fun a ha => ?_, hk, rfl, rfl, ⟨_, hns, hm _⟩, (.inr (get_size _)), hmk, fun p hp => ⟨hkp _ _ (D.nw p (hn' p hp)).1, ?_, .inl (List.mem_map_of_mem hp)⟩, hRn, fun _ h => nomatch h⟩
    · rcases (hwi a ha).2 with h | h
      · exact D.dyn a h
      · exact D.g0.dyn h
    · show p.1 ≠ s.heap.objs.size
      exact Nat.ne_of_lt (Heap.lt_size (D.nw p (hn' p hp)).1)
  exact ⟨D₁.nolim, kla_codeExpr (h _ _ _ D₁)⟩
theorem St.bAt (D : St C s₀ W env G s m n) {P : Addr} {ps : Array Value} (hP : s.heap.get? P = some (tabObj ps)) : ∃ mg, s.heap.Ns mainGlobals mg ∧ mainGlobals ≠ P ∧ s.heap.BuiltinsAt mg P := by
  obtain ⟨mg, bm, ob, hg, b1, b2, b3, b4, b5, b6⟩ := D.g.bm
  have hgP : mainGlobals ≠ P := fun q => by
    obtain ⟨o, es, ep, e, hd, _⟩ := hg
    rw [q, hP] at e; cases e; cases hd
  have hbP : bm ≠ P := fun q => by
    rw [q, hP] at b3; cases b3; cases b4
  have hbG : bm ≠ mainGlobals := fun q => by
    obtain ⟨o, es, ep, e, hd, _⟩ := hg
    rw [q, e] at b3; cases b3; rw [hd] at b6; cases b6
  exact ⟨mg, hg, hgP, bm, ob, b1, b2, hbG, hbP, b3, b4, b5, b6⟩
/-- a lambda made, the first time -/
theorem t_lamMake {A : Around} {E : Value → Shared → Prop} {params : Arguments} {body : Expr} {scope : Scope} {pos : Pos} {clos : List (Str × Addr)} {c P : Addr} {ps : Array Value} {Q : Value → Shared → Prop}
    (hdef : defaultsOf params env = ([], [])) (hcl : closureFor scope env = pure clos) (hcode : env.code = .ref c) (hC : codeHdIn (KK C.w) c P = true) (ht : TriplesOk ps.toList) (hnf : codeAmong pos ps.toList = none)
    (h : ∀ f c' oc vs t ctv pm, oc.data = .fields vs → vs[1]? = some (.str (env.qual ++ "<lambda>") t) → ∀ s, St C s₀ W env G s m ((f, kla_obj "<lambda>" (env.qual ++ "<lambda>") params body scope clos pm c' ctv) :: (c', oc) :: (P, tabObj (ps ++ #[rawInt pos.line, rawInt pos.col, .ref c'])) :: n) → Q (.ref f) s) :
    ∀ s, St C s₀ W env G s m ((P, tabObj ps) :: n) → wpAny (MM C.w) A (eval (.Lambda params body scope pos) env) Q E s := fun s D => by
  have hP := D.get (.head _)
  obtain ⟨mg, hg, hgP, hb⟩ := D.bAt hP
  refine kla_eval hdef (kla_makeFunction (mg := mg) hcl D.glob hg hcode (codeHd_of_K D.g.K hC) hP ht hnf hgP hb fun c' ctv h' tk hx hge hlt hrec htb => ?_)
  obtain ⟨c₂, oc, vs, t, e2, hoc, hd, hv⟩ := hrec
  cases e2
  have D1 := D.turn2 (h' := h') s.drawn tk hx htb hoc (Heap.get?_none_of_le hge)
  exact h _ c' oc vs t ctv _ hd hv _ (D1.push _ s.drawn tk rfl)
theorem t_lamHit {A : Around} {E : Value → Shared → Prop} {params : Arguments} {body : Expr} {scope : Scope} {pos : Pos} {clos : List (Str × Addr)} {c P c' : Addr} {ps : Array Value} {Q : Value → Shared → Prop}
    (hdef : defaultsOf params env = ([], [])) (hcl : closureFor scope env = pure clos) (hcode : env.code = .ref c) (hC : codeHdIn (KK C.w) c P = true) (hp : (P, tabObj ps) ∈ n) (ht : TriplesOk ps.toList) (hf : codeAmong pos ps.toList = some (.ref c'))
    (h : ∀ f ctv pm, ∀ s, St C s₀ W env G s m ((f, kla_obj "<lambda>" (env.qual ++ "<lambda>") params body scope clos pm c' ctv) :: n) → Q (.ref f) s) :
    ∀ s, St C s₀ W env G s m n → wpAny (MM C.w) A (eval (.Lambda params body scope pos) env) Q E s := fun s D => by
  have hP := D.get hp
  obtain ⟨mg, hg, hgP, hb⟩ := D.bAt hP
  refine kla_eval hdef (kla_makeFunctionHit (mg := mg) hcl D.glob hg hcode (codeHd_of_K D.g.K hC) hP ht hf hb fun ctv h' tk hk hsz => ?_)
  exact h _ ctv _ _ ((D.keeps (h' := h') s.drawn tk hk).push _ s.drawn tk rfl)
end
noncomputable def CallsTo (C : Cx) (f : Value) (args : List Value) (kw : List (Str × Value)) (R : List (Addr × Obj)) (k : Nat) (RV : Value → Prop) : Prop :=
  ∀ {s₀ : Shared} {W : List Addr} {env : Env} {G : List (Nat × GenState)} {A : Around} {E : Value → Shared → Prop} {m : List (Str × Bnd)} {n : List (Addr × Obj)} {Q : Value → Shared → Prop}, Ok A k → (∀ p ∈ R, p ∈ n) →
    (∀ v, RV v → ∀ s, St C s₀ W env G s m n → Q v s) → ∀ s, St C s₀ W env G s m n → wpAny (MM C.w) A (call f args kw) Q E s
section
variable {C : Cx} {s₀ : Shared} {W : List Addr} {env : Env} {G : List (Nat × GenState)} {A : Around} {E : Value → Shared → Prop} {m m' : List (Str × Bnd)} {n n' : List (Addr × Obj)}
theorem s_gni {fa : Addr} {of : Obj} {fd : FuncData} {v : Value} {kw : List (Str × Value)} {R : List (Addr × Obj)} {k : Nat} {RV : Value → Prop} {Q : Value → Shared → Prop} (hA : Ok A (k + 10)) (hin : ∀ p ∈ R, p ∈ n) (hRn : (R.map (·.1)).Nodup)
    (hfo : (fa, of) ∈ R) (hfd : of.data = .func fd) (hkw : kw = [] ∨ ∃ u, kw = [(Str.ofString "default", u)]) (hc : CallsTo C (.ref fa) [v] kw R k RV)
    (h : ∀ T r, RV r → ∀ s, St C s₀ W env G s m ((T, tupObj [r, r]) :: n) → Q (.ref T) s) :
    ∀ s, St C s₀ W env G s m n → wpAny (MM C.w) A (call (.ref 97) [v, .ref fa] kw) Q E s := by
  intro s D
  have hb : BindsK f97.fd ⟨[v, .ref fa], kw⟩ [("name_index", v), ("get_name", .ref fa)] kw "extrainfo" := by
    rcases hkw with rfl | ⟨u, rfl⟩
    · unfold BindsK; kernel_rfl
    · unfold BindsK; kernel_rfl
  have hdis : kwDistinct kw = true := by
    rcases hkw with rfl | ⟨u, rfl⟩ <;> rfl
  refine wpAny_call (t_enterK f97 D (hA.le (by omega) : Ok A (k + 5 + 1)) rfl hb hdis (by decide +kernel) (fun d => hl97) (fun d => mi97 C.w) R hin hRn ?_)
  intro d od s₂ hkd hmod D2 hnd2 L E'
  refine T_drop ?_
  have hA' : Ok (A.deeper (fnEnv f97.fd 97 L)) (k + 2) := (hA.le (by omega) : Ok A (k + 2 + 1)).deeper
  generalize (A.deeper (fnEnv f97.fd 97 L)) = A' at hA' ⊢
  repeat' tb_start
  refine t_callStar (d := d) (o := od) (by news_at) (by news_at) (by news_at) (.tail _ hfo) hfd (by news_at) hkd ?_ hmod ?_
  · rcases hkw with rfl | ⟨u, rfl⟩
    · exact .inl rfl
    · exact .inr ⟨_, _, rfl⟩
  refine hc (hA'.le (by omega)) (fun p hp => .tail _ hp) ?_
  intro r hr
  repeat' tb_start
  rename_i T
  intro s₃ D₃
  have D₄ := D2.back (R := (d, od) :: R) (n₁ := [(T, tupObj [r, r])]) D₃ (fun p hp => by
    rcases List.mem_cons.mp hp with rfl | hp
    · exact .head _
    · exact .tail _ (hin p hp)) (.refl _)
  exact h T r hr s₃ (D₄.sub (.cons_cons _ (.cons _ (.refl _))))
end
noncomputable def lamQ : Str := (cEnv f341.fd 341 0).qual ++ "<lambda>"
/-- the table of code that _law_asked keeps -/
inductive LamP : List (Addr × Obj) → Prop
  | fresh : LamP [(336, tabObj #[])]
  | made (c' : Addr) (oc : Obj) (vs : Array Value) (t : Tok) : oc.data = .fields vs → vs[1]? = some (.str lamQ t) → LamP [(336, tabObj #[rawInt 247, rawInt 39, .ref c']), (c', oc)]
theorem nodup_app {a b n : List (Addr × Obj)} (h : ((a ++ n).map (·.1)).Nodup) (hin : ∀ p ∈ b, p ∈ n) (hb : (b.map (·.1)).Nodup) : ((a ++ b).map (·.1)).Nodup := by
  rw [List.map_append, List.nodup_append] at h ⊢
  refine ⟨h.1, hb, fun x hx y hy => ?_⟩
  obtain ⟨p, hp, rfl⟩ := List.mem_map.mp hy
  exact h.2.2 x hx _ (List.mem_map_of_mem (hin p hp))
section
variable {C : Cx} {s₀ : Shared} {W : List Addr} {env : Env} {G : List (Nat × GenState)} {A : Around} {E : Value → Shared → Prop} {m m' : List (Str × Bnd)} {n n' : List (Addr × Obj)}
theorem St.backL {s s' : Shared} {env' : Env} {G' : List (Nat × GenState)} {lam lam' R n' : List (Addr × Obj)} (D : St C s₀ W env G s m (lam ++ n)) (hin : ∀ p ∈ R, p ∈ n) (D' : St C s ((lam ++ R).map (·.1)) env' G' s' m' n') (hs : (lam' ++ R).Sublist n') :
    St C s₀ W env G s' m (lam' ++ n) := by
  have hna := D.na
  have hna' := D'.na.sublist (hs.map _)
  rw [List.map_append, List.nodup_append] at hna hna'
  have hl : ∀ p ∈ lam', p.1 ∉ n.map (·.1) := fun p hp hq => by
    obtain ⟨q, hq, e⟩ := List.mem_map.mp hq
    rcases (D'.nw p (hs.subset (List.mem_append_left _ hp))).2.2 with h' | h'
    · rw [List.map_append] at h'
      rcases List.mem_append.mp h' with h' | h'
      · exact hna.2.2 _ h' _ (List.mem_map_of_mem hq) e.symm
      · exact hna'.2.2 _ (List.mem_map_of_mem hp) _ h' rfl
    · rw [← e, (D.nw q (List.mem_append_right _ hq)).1] at h'; cases h'
  refine D.ret D' (fun a ha => ?_) (fun p hp => ?_) ?_
  · rw [List.map_append] at ha ⊢
    rcases List.mem_append.mp ha with ha | ha
    · exact List.mem_append_left _ ha
    · obtain ⟨p, hp, rfl⟩ := List.mem_map.mp ha
      exact List.mem_append_right _ (List.mem_map_of_mem (hin p hp))
  · rcases List.mem_append.mp hp with hp | hp
    · exact .inr (hs.subset (List.mem_append_left _ hp))
    · by_cases hR : p.1 ∈ R.map (·.1)
      · obtain ⟨q, hq, e⟩ := List.mem_map.mp hR
        have : q = p := by
          obtain ⟨a, o⟩ := q; obtain ⟨a', o'⟩ := p
          cases e
          rw [mem_unique hna.2.1 (hin _ hq) hp]
        exact .inr (hs.subset (List.mem_append_right _ (this ▸ hq)))
      · refine .inl ⟨List.mem_append_right _ hp, fun hm => ?_⟩
        rw [List.map_append] at hm
        rcases List.mem_append.mp hm with hm | hm
        · exact hna.2.2 _ hm _ (List.mem_map_of_mem hp) rfl
        · exact hR hm
  · rw [List.map_append, List.nodup_append]
    exact ⟨hna'.1, hna.2.1, fun a ha b hb hab => by
      obtain ⟨p, hp, rfl⟩ := List.mem_map.mp ha
      exact hl p hp (hab ▸ hb)⟩
theorem t_lamP {params : Arguments} {body : Expr} {scope : Scope} {pos : Pos} {clos : List (Str × Addr)} {lam : List (Addr × Obj)} {Q : Value → Shared → Prop} (hlam : LamP lam)
    (hdef : defaultsOf params env = ([], [])) (hcl : closureFor scope env = pure clos) (hcode : env.code = .ref 340) (hqual : env.qual ++ "<lambda>" = lamQ) (hpos : pos.line = 247 ∧ pos.col = 39)
    (h : ∀ f c' oc vs t ctv pm, oc.data = .fields vs → vs[1]? = some (.str lamQ t) → ∀ s, St C s₀ W env G s m ((f, kla_obj "<lambda>" lamQ params body scope clos pm c' ctv) :: (336, tabObj #[rawInt 247, rawInt 39, .ref c']) :: (c', oc) :: n) → Q (.ref f) s) :
    ∀ s, St C s₀ W env G s m (lam ++ n) → wpAny (MM C.w) A (eval (.Lambda params body scope pos) env) Q E s := by
  obtain ⟨hl, hc⟩ := hpos
  cases hlam with
  | fresh =>
    refine t_lamMake (P := 336) (ps := #[]) (c := 340) hdef hcl hcode (by kernel_rfl) trivial rfl ?_
    rw [hqual]
    intro f c' oc vs t ctv pm h1 h2 s D
    rw [hl, hc] at D
    refine h f c' oc vs t ctv pm h1 h2 s (D.perm (.cons _ (.swap _ _ _)))
  | made c' oc vs t h1 h2 =>
    refine t_lamHit (P := 336) (ps := #[rawInt 247, rawInt 39, .ref c']) (c := 340) (c' := c') hdef hcl hcode (by kernel_rfl) (.head _) trivial ?_ ?_
    · show codeAmong pos [rawInt 247, rawInt 39, .ref c'] = some (.ref c')
      show (if (247 : Int) == pos.line && (39 : Int) == pos.col then some (.ref c') else codeAmong pos []) = some (.ref c')
      rw [hl, hc]; rfl
    · rw [hqual]
      exact fun f ctv pm s D => h f c' oc vs t ctv pm h1 h2 s D
theorem s_asked {H dx hl : Addr} {o : Obj} {vs : List Value} {e : Nat} {ts : List (Addr × Obj)} {l : List (List Nat × List Nat)} {x v : List Nat} {t : Tok} {lam : List (Addr × Obj)} {Q : Value → Shared → Prop} (hA : Ok A 60) (P : HdP o hl vs ts l) (hin : ∀ p ∈ hdL H dx o hl vs e ts, p ∈ n) (hnd : ((hdL H dx o hl vs e ts).map (·.1)).Nodup)
    (hx : Good x) (hg : getF l (lw x) = some v) (hlam : LamP lam) (h : ∀ t lam', LamP lam' → ∀ s, St C s₀ W env G s m (lam' ++ n) → Q (.str (strOf v) t) s) :
    ∀ s, St C s₀ W env G s m (lam ++ n) → wpAny (MM C.w) A (call (.ref 341) [.ref H, .str (strOf x) t] []) Q E s := by
  intro s D
  have hnd2 := nodup_app D.na hin hnd
  refine wpAny_call (t_enterCells f341 [("table", .ref H), ("name", .str (strOf x) t)] (fun L => M341 none none none (L + 1)) (fun L => M341 (some (.str (strOf x) t)) none none (L + 1)) (fun L => lam ++ ((L + 1, cellObj (some (.ref H))) :: hdL H dx o hl vs e ts)) (lam ++ hdL H dx o hl vs e ts)
    D (hA.le (by decide) : Ok A (59 + 1)) rfl (.of_eq (by kernel_rfl)) ?_ ?_ ?_ hnd2 ?_ ?_)
  · intro L p hp
    simp only [List.mem_cons, List.not_mem_nil, or_false] at hp
    rcases hp with rfl | rfl | rfl | rfl | rfl
    · exact ⟨.inl rfl, rfl⟩
    · exact ⟨rfl, rfl⟩
    · exact ⟨rfl, rfl⟩
    · exact ⟨rfl, rfl⟩
    · exact ⟨rfl, gl_get_name_info C.w⟩
  · intro L
    show ((["table", "name", "value", "text", "_get_name_info"] : List Str)).Nodup
    decide +kernel
  · intro p hp
    rcases List.mem_append.mp hp with hp | hp
    · exact List.mem_append_left _ hp
    · exact List.mem_append_right _ (hin p hp)
  · intro L E' s₁ D₁
    refine t_stc (c := L + 1) (n' := (L + 1, cellObj (some (.ref H))) :: (lam ++ hdL H dx o hl vs e ts)) (.head _) .head ⟨_, .head _⟩ rfl ?_ s₁ D₁
    refine t_stl (.tail .head) ?_ ⟨_, .tail _ (.head _)⟩
    exact fun s D => D.perm List.perm_middle
  · intro L E'
    have hA' : Ok (A.deeper (cEnv f341.fd 341 L)) 50 := (hA.le (by decide) : Ok A (50 + 1)).deeper
    generalize (A.deeper (cEnv f341.fd 341 L)) = A' at hA' ⊢
    generalize hce : L + 1 = ce
    repeat' tb_start
    refine t_lamP hlam (clos := [("table", ce)]) (by with_unfolding_all rfl) (by subst hce; with_unfolding_all rfl) (by with_unfolding_all rfl) (by with_unfolding_all rfl) ⟨rfl, rfl⟩ ?_
    intro f c' oc vsc tc ctv pm hod hq
    repeat' tb_start
    intro s₁ D₁
    have hna := D₁.na
    refine s_gni (k := 35) (RV := fun r => ∃ t, r = .str (strOf v) t) (hA'.le (by decide)) (fun p hp => hp) hna (.head _) rfl (.inl rfl) ?_ ?_ s₁ D₁
    · intro s₀ W env G A E m n Q hA hin' hr s D
      refine t_enterLam [("asked", .str (strOf x) t)] [("asked", .loc (some (.str (strOf x) t))), ("table", .cel ce)] ((ce, cellObj (some (.ref H))) :: hdL H dx o hl vs e ts) D (hA : Ok A (34 + 1)) (hin' _ (.head _)) (hin' _ (.tail _ (.tail _ (.head _)))) hod hq (by kernel_rfl) ?_ ?_ rfl rfl rfl ?_ ?_ ?_ ?_ ?_
      · intro y hy
        simp only [List.mem_cons, List.not_mem_nil, or_false] at hy
        subst hy; rfl
      · decide
      · intro L p hp
        simp only [List.mem_cons, List.not_mem_nil, or_false] at hp
        rcases hp with rfl | rfl
        · exact ⟨rfl, rfl⟩
        · exact ⟨.inr rfl, rfl⟩
      · show ((["asked", "table"] : List Str)).Nodup
        decide +kernel
      · exact fun p hp => hin' p (.tail _ (.tail _ (.tail _ hp)))
      · exact hna.sublist ((List.Sublist.cons _ (.cons _ (.cons _ (.refl _)))).map _)
      · intro L2 E2
        have hA2 : ∀ e', Ok (A.deeper e') 34 := fun e' => (hA : Ok A (34 + 1)).deeper
        unfold hdL
        repeat' tb_start
        refine P.meth (f := 256) (by news_at) (by news_at) (by kernel_rfl) (by kernel_rfl) (by kernel_rfl) ?_
        repeat' tb_start
        refine s_get ((hA2 _).le (by decide)) P (e := e) (dx := dx) (by unfold hdL; exact fun p hp => .tail _ hp) hnd hx (.inr ⟨rfl, rfl⟩) (fun v' tv hg' => ?_) (fun hg' => absurd (hg.symm.trans hg') (by simp))
        obtain rfl : v = v' := Option.some.inj (hg.symm.trans hg')
        exact fun s₂ D₂ => hr _ ⟨_, rfl⟩ s₂ (D.back (R := (ce, cellObj (some (.ref H))) :: hdL H dx o hl vs e ts) (n₁ := []) D₂ (fun p hp => hin' p (.tail _ (.tail _ (.tail _ hp)))) (.refl _))
    · rintro T r ⟨tr, rfl⟩
      repeat' tb_start
      refine t_itb (fun _ => ?_) (fun hb => absurd hb (by simp))
      repeat' tb_start
      intro s₂ D₂
      refine h tr _ (.made c' oc vsc tc hod hq) s₂ (D.backL (R := hdL H dx o hl vs e ts) hin D₂ ?_)
      exact .cons _ (.cons _ (.cons_cons _ (.cons_cons _ (.cons _ (.refl _)))))
end
noncomputable def wayGo (nx : Nat → Nat) (i : Nat) : Nat → List Nat → Nat → List Nat
  | 0, r, _ => r
  | f + 1, r, o => if o ≠ i ∧ r.length < 3 then wayGo nx i f (r ++ [o]) (nx o) else r
noncomputable def wayF (nx : Nat → Nat) (i : Nat) : List Nat := wayGo nx i 3 [i] (nx i)
noncomputable def ltr (r : List Nat) : List Nat := r.map (97 + ·)
theorem good_ltr : ∀ i : Fin 3, lw [97 + i.val] = [97 + i.val] := by decide +kernel
theorem good_l1 (i : Nat) (h : i < 3) : Good [97 + i] := by
  have e : lw [97 + i] = [97 + i] := good_ltr ⟨i, h⟩
  refine ⟨?_, ?_, by simp, by rw [e]; simp⟩
  · intro c hc; rw [List.mem_singleton] at hc; omega
  · rw [e]; intro c hc; rw [List.mem_singleton] at hc; omega
section
variable {C : Cx} {s₀ : Shared} {W : List Addr} {env : Env} {G : List (Nat × GenState)} {A : Around} {E : Value → Shared → Prop} {m m' : List (Str × Bnd)} {n n' : List (Addr × Obj)}
theorem t_forget {X : Shared → Prop} (hs : n'.Sublist n) (h : ∀ s, St C s₀ W env G s m n' → X s) : ∀ s, St C s₀ W env G s m n → X s := fun s D => h s (D.sub hs)
theorem t_perm {X : Shared → Prop} (hs : n'.Perm n) (h : ∀ s, St C s₀ W env G s m n' → X s) : ∀ s, St C s₀ W env G s m n → X s := fun s D => h s (D.perm hs)
inductive I40 (H dx hl : Addr) (o : Obj) (vs : List Value) (e : Nat) (ts : List (Addr × Obj)) (nx : Nat → Nat) (i : Nat) (t : Tok) (k : Nat) (m₁ : List (Str × Bnd)) (n₁ : List (Addr × Obj)) : Prop
  | mk (r : List Nat) (j : Nat) (tr to : Tok) (lam' : List (Addr × Obj)) (_ : m₁ = M348 (some (.ref H)) (some (.str (strOf [97 + i]) t)) (some (.str (strOf (ltr r)) tr)) (some (.str (strOf [97 + j]) to))) (_ : n₁ = lam' ++ hdL H dx o hl vs e ts) (_ : LamP lam') (_ : j < 3) (_ : r.length ≤ 3) (_ : 3 ≤ r.length + k) (_ : wayGo nx i k r j = wayF nx i)
theorem s_way {H dx hl : Addr} {o : Obj} {vs : List Value} {e : Nat} {ts : List (Addr × Obj)} {l : List (List Nat × List Nat)} {nx : Nat → Nat} {i : Nat} {t : Tok} {lam : List (Addr × Obj)} {Q : Value → Shared → Prop} (hA : Ok A 80) (P : HdP o hl vs ts l) (hin : ∀ p ∈ hdL H dx o hl vs e ts, p ∈ n) (hnd : ((hdL H dx o hl vs e ts).map (·.1)).Nodup)
    (hi : i < 3) (hnx : ∀ i, i < 3 → nx i < 3 ∧ getF l (lw [97 + i]) = some [97 + nx i]) (hlam : LamP lam) (h : ∀ t lam', LamP lam' → ∀ s, St C s₀ W env G s m (lam' ++ n) → Q (.str (strOf (ltr (wayF nx i))) t) s) :
    ∀ s, St C s₀ W env G s m (lam ++ n) → wpAny (MM C.w) A (call (.ref 348) [.ref H, .str (strOf [97 + i]) t] []) Q E s := by
  intro s D
  have hnd2 := nodup_app D.na hin hnd
  refine e348 (lam ++ hdL H dx o hl vs e ts) D (hA.le (by decide) : Ok A (79 + 1)) (fun p hp => ?_) hnd2 ?_
  · rcases List.mem_append.mp hp with hp | hp
    · exact List.mem_append_left _ hp
    · exact List.mem_append_right _ (hin p hp)
  intro L E'
  have hA' : Ok (A.deeper (fnEnv f348.fd 348 L)) 70 := (hA.le (by decide) : Ok A (70 + 1)).deeper
  generalize (A.deeper (fnEnv f348.fd 348 L)) = A' at hA' ⊢
  (first | refine t_cons ?_ | (refine' t_nextR ?zh ?_; (case zh => assumption); refine t_cons ?_))
  refine t_asgSw ["ring", "other"] ?_
  repeat' tb_start
  refine s_asked (hA'.le (by decide)) P (e := e) (dx := dx) (fun p hp => hp) hnd (good_l1 i hi) (hnx i hi).2 hlam ?_
  intro t1 lam1 hlam1
  repeat' tb_start
  rename_i T
  refine o_unpack hA'.hh (by news_at) rfl ?_
  refine t_ordB ?_
  repeat' tb_start
  refine t_ordB ?_
  repeat' tb_start
  refine t_ordNil ?_
  repeat' tb_start
  refine t_forget (n' := lam1 ++ hdL H dx o hl vs e ts) (.cons _ (.refl _)) ?_
  refine t_whileJ (I40 H dx hl o vs e ts nx i t) 3 ?_ ?_
  · exact ⟨[i], nx i, _, _, lam1, rfl, rfl, hlam1, (hnx i hi).1, by simp, by simp, rfl⟩
  · rintro k m₁ n₁ E' ⟨r, j, tr, to, lam', rfl, rfl, hlam', hj, hr1, hr2, hw⟩
    have hlr : (ltr r).length = r.length := by simp [ltr]
    have fin : r.length = 3 ∨ j = i → ∀ s₂, St C s ((lam ++ hdL H dx o hl vs e ts).map (·.1)) (fnEnv f348.fd 348 L) [] s₂ (M348 (some (.ref H)) (some (.str (strOf [97 + i]) t)) (some (.str (strOf (ltr r)) tr)) (some (.str (strOf [97 + j]) to))) (lam' ++ hdL H dx o hl vs e ts) → Q (.str (strOf (ltr r)) tr) s₂ := by
      intro hc s₂ D₂
      have e2 : wayF nx i = r := by
        rw [← hw]
        cases k with
        | zero => rfl
        | succ k => rw [wayGo, if_neg]; rintro ⟨h1, h2⟩; rcases hc with hc | hc <;> omega
      rw [← e2] at D₂ ⊢
      exact h _ lam' hlam' s₂ (D.backL hin D₂ (.refl _))
    repeat' tb_start
    refine t_itb (fun hq => ?_) (fun hq => ?_)
    · have hq : j ≠ i := by simpa using hq
      repeat' tb_start
      refine t_itb (fun hq2 => ?_) (fun hq2 => ?_)
      · have hq2 := of_decide_eq_true hq2
        repeat' tb_start
        refine o_adds (by rw [sizeLine_eq]; simp [ltr]; omega) ?_
        intro t2
        repeat' tb_start
        refine s_asked (hA'.le (by decide)) P (e := e) (dx := dx) (fun p hp => hp) hnd (good_l1 j hj) (hnx j hj).2 hlam' ?_
        intro t3 lam3 hlam3
        repeat' tb_start
        intro s₂ D₂
        have e3 : ltr r ++ [97 + j] = ltr (r ++ [j]) := by simp [ltr]
        rw [e3] at D₂
        obtain ⟨k, rfl⟩ : ∃ k', k = k' + 1 := ⟨k - 1, by omega⟩
        refine ⟨k, _, _, Nat.lt_succ_self _, ⟨r ++ [j], nx j, _, _, lam3, rfl, rfl, hlam3, (hnx j hj).1, by simp; omega, by simp; omega, ?_⟩, D₂⟩
        rw [← hw, wayGo, if_pos ⟨hq, by omega⟩]
      · have hq2 := of_decide_eq_false hq2
        repeat' tb_start
        exact fin (.inl (by omega))
    · have hq : j = i := by simpa using hq
      repeat' tb_start
      exact fin (.inr hq)
end
section
variable {C : Cx} {s₀ s : Shared} {W : List Addr} {env : Env} {G : List (Nat × GenState)} {A : Around} {E : Value → Shared → Prop} {m m' : List (Str × Bnd)} {n n' : List (Addr × Obj)}
/-! names come and go -/
theorem St.subM (D : St C s₀ W env G s m n) (h : m'.Sublist m) : St C s₀ W env G s m' n := by
  obtain ⟨mm, hm, hok⟩ := D.ns
  exact ⟨D.g0, D.x, D.dyn, D.fn, D.glob, D.bui, ⟨mm, hm, fun p hp => hok p (h.subset hp)⟩, D.hL, D.nd.sublist (h.map _), D.nw, D.na, D.gn⟩
theorem t_dropM {X : Shared → Prop} (hs : m'.Sublist m) (h : ∀ s, St C s₀ W env G s m' n → X s) : ∀ s, St C s₀ W env G s m n → X s := fun s D => h s (D.subM hs)
theorem t_permM {X : Shared → Prop} (hs : m'.Perm m) (h : ∀ s, St C s₀ W env G s m' n → X s) : ∀ s, St C s₀ W env G s m n → X s := fun s D => by
  obtain ⟨mm, hm, hok⟩ := D.ns
  exact h s ⟨D.g0, D.x, D.dyn, D.fn, D.glob, D.bui, ⟨mm, hm, fun p hp => hok p (hs.mem_iff.mp hp)⟩, D.hL, (hs.map _).nodup_iff.mpr D.nd, D.nw, D.na, D.gn⟩
/-- a local that is not spoken of yet -/
theorem t_stn {x : Str} {v : Value} {Q : Unit → Shared → Prop} (hx : m.all (fun p => !(p.1 == x)) = true) (hk : env.kindOf x = some .local) (h : ∀ s, St C s₀ W env G s ((x, .loc (some v)) :: m) n → Q () s) :
    ∀ s, St C s₀ W env G s m n → wpAny (MM C.w) A (storeName env x v) Q E s := fun s D => by
  obtain ⟨mm, hm, hok⟩ := D.ns
  have hne : ∀ p ∈ m, p.1 ≠ x := fun p hp e => by
    have := List.all_eq_true.mp hx p hp
    rw [e] at this; simp at this
  refine wpAny_storeName_local hk hm (fun h' hn hs => h _ ?_) (by rw [D.fn]; rfl)
  refine ⟨D.g0, ⟨fun b o hb e => ?_, D.x.gens, D.x.bare, D.x.os⟩, D.dyn, D.fn, D.glob, D.bui, ⟨_, hn, fun p hp => ?_⟩, D.hL, ?_, fun q hq => ?_, D.na, D.gn⟩
  · refine (hs.2 b fun q => ?_).trans (D.x.keep b o hb e)
    rcases D.hL with h | h
    · exact hb (q ▸ h)
    · rw [q, h] at e; cases e
  · rcases List.mem_cons.mp hp with rfl | hp
    · exact ⟨hk, by simp⟩
    · have := hok p hp
      cases hb : p.2 with
      | loc u => rw [hb] at this; exact ⟨this.1, (if_neg (hne p hp)).trans this.2⟩
      | glo u => rw [hb] at this; exact this
      | cel c => rw [hb] at this; exact this
      | unk => trivial
  · rw [List.map_cons, List.nodup_cons]
    refine ⟨fun hm => ?_, D.nd⟩
    obtain ⟨p, hp, e⟩ := List.mem_map.mp hm
    exact hne p hp e
  · exact ⟨(hs.2 _ (D.nw q hq).2.1).trans (D.nw q hq).1, (D.nw q hq).2⟩
theorem t_gloE {x : Str} {pos : Pos} {v : Value} {Q : Value → Shared → Prop} (hk : env.kindOf x = some .globalImplicit) (hg : GloIs C.w x v) (h : ∀ s, St C s₀ W env G s m n → Q v s) (hd : (x == ("__debug__" : Str)) = false := by with_unfolding_all decide) :
    ∀ s, St C s₀ W env G s m n → wpAny (MM C.w) A (eval (.Name x pos) env) Q E s := fun s D => by
  rcases hg with e | ⟨e, hb, hn⟩
  · obtain ⟨mg, hmg, hv⟩ := nsIn_ns D.g.K e
    exact Name_function_global D.fn hk (loadGlobal_global (by rw [D.glob]; exact hmg) hv (h s D)) hd
  · obtain ⟨mg, hmg, hv⟩ := nsIn_ns D.g.K e
    obtain ⟨mb, hmb, hb'⟩ := D.g.b
    exact Name_function_global D.fn hk (loadGlobal_builtin (by rw [D.glob]; exact hmg) hv (by rw [D.bui]; exact hmb) ((hb' x hn).trans hb) (h s D)) hd
/-! the ledger turned about -/
theorem t_under {X : Shared → Prop} {l r : List (Addr × Obj)} {x : Addr × Obj} (h : ∀ s, St C s₀ W env G s m (l ++ x :: r) → X s) : ∀ s, St C s₀ W env G s m (x :: (l ++ r)) → X s := t_perm List.perm_middle h
theorem t_over {X : Shared → Prop} {l r : List (Addr × Obj)} {x : Addr × Obj} (h : ∀ s, St C s₀ W env G s m (x :: (l ++ r)) → X s) : ∀ s, St C s₀ W env G s m (l ++ x :: r) → X s := t_perm List.perm_middle.symm h
theorem t_swap {X : Shared → Prop} {a b c : List (Addr × Obj)} (h : ∀ s, St C s₀ W env G s m (b ++ (a ++ c)) → X s) : ∀ s, St C s₀ W env G s m (a ++ (b ++ c)) → X s := t_perm (List.perm_append_comm_assoc _ _ _) h
/-! built-ins over lists of ints -/
theorem ints_items {vs : List Value} {ns : List Int} (h : IntsAre vs ns) : ∃ xs : Array (Int × Tok), vs.toArray = intItems xs ∧ xs.toList.map (·.1) = ns := by
  obtain ⟨xs, hx⟩ := h.allInts.items
  refine ⟨xs, hx, ?_⟩
  rw [← nums_intItems, ← hx]
  exact h.numsOf
theorem c_sum {l : Addr} {vs : List Value} {ns : List Int} {e : Nat} {Q : Value → Shared → Prop} (hh : A.handled = none) (hl : (l, listObj vs e) ∈ n) (hi : IntsAre vs ns) (h : ∀ t, ∀ s, St C s₀ W env G s m n → Q (.int ns.sum t) s) :
    ∀ s, St C s₀ W env G s m n → wpAny (MM C.w) A (call (.builtin "sum") ([] ++ [.ref l])) Q E s := fun s D => by
  obtain ⟨xs, hx, hxs⟩ := ints_items hi
  refine sum_intListG (xs := xs) hh ⟨_, D.get hl, rfl, e, by unfold listObj; rw [hx]⟩ fun h' tk t' hk => ?_
  rw [preSum_eq, hxs, List.take_of_length_le (by rw [← hxs]; simp)]
  exact h t' _ (D.keeps s.drawn tk hk)
theorem c_maxL {l : Addr} {vs : List Value} {ns : List Int} {e : Nat} {Q : Value → Shared → Prop} (hh : A.handled = none) (hl : (l, listObj vs e) ∈ n) (hi : IntsAre vs ns) (hne : ns ≠ []) (h : ∀ M t, M ∈ ns → (∀ a ∈ ns, a ≤ M) → ∀ s, St C s₀ W env G s m n → Q (.int M t) s) :
    ∀ s, St C s₀ W env G s m n → wpAny (MM C.w) A (call (.builtin "max") ([] ++ [.ref l])) Q E s := fun s D => by
  obtain ⟨xs, hx, hxs⟩ := ints_items hi
  have hz : 0 < xs.size := by
    have := List.length_pos_iff.mpr hne
    rw [← hxs] at this; simpa using this
  refine max_intList (xs := xs) hh ⟨_, D.get hl, rfl, e, by unfold listObj; rw [hx]⟩ hz fun v h' tk hv hk => ?_
  obtain ⟨t, rfl⟩ := intItems_at hv
  obtain ⟨h1, h2⟩ := argBest_gt (numAt xs) (xs.size - 1)
  refine h _ t ?_ (fun a ha => ?_) _ (D.keeps s.drawn tk hk)
  · rw [numAt_eq, ← hxs]; exact getD_mem (by rw [List.length_map, Array.length_toList]; omega)
  · rw [← hxs] at ha
    obtain ⟨j, hj, rfl⟩ := mem_getD ha
    rw [List.length_map, Array.length_toList] at hj
    rw [← numAt_eq]; exact h2 j (by omega)
theorem c_minL {l : Addr} {vs : List Value} {ns : List Int} {e : Nat} {Q : Value → Shared → Prop} (hh : A.handled = none) (hl : (l, listObj vs e) ∈ n) (hi : IntsAre vs ns) (hne : ns ≠ []) (h : ∀ M t, M ∈ ns → (∀ a ∈ ns, M ≤ a) → ∀ s, St C s₀ W env G s m n → Q (.int M t) s) :
    ∀ s, St C s₀ W env G s m n → wpAny (MM C.w) A (call (.builtin "min") ([] ++ [.ref l])) Q E s := fun s D => by
  obtain ⟨xs, hx, hxs⟩ := ints_items hi
  have hz : 0 < xs.size := by
    have := List.length_pos_iff.mpr hne
    rw [← hxs] at this; simpa using this
  refine min_intList (xs := xs) hh ⟨_, D.get hl, rfl, e, by unfold listObj; rw [hx]⟩ hz fun v h' tk hv hk => ?_
  obtain ⟨t, rfl⟩ := intItems_at hv
  obtain ⟨h1, h2⟩ := argBest_lt (numAt xs) (xs.size - 1)
  refine h _ t ?_ (fun a ha => ?_) _ (D.keeps s.drawn tk hk)
  · rw [numAt_eq, ← hxs]; exact getD_mem (by rw [List.length_map, Array.length_toList]; omega)
  · rw [← hxs] at ha
    obtain ⟨j, hj, rfl⟩ := mem_getD ha
    rw [List.length_map, Array.length_toList] at hj
    rw [← numAt_eq]; exact h2 j (by omega)
theorem c_sorted {l : Addr} {vs : List Value} {ns : List Int} {e : Nat} {Q : Value → Shared → Prop} (hl : (l, listObj vs e) ∈ n) (hi : IntsAre vs ns) (h64 : vs.length < 64)
    (h : ∀ a ws ms e, IntsAre ws ms → ms.Perm ns → ms.Pairwise (· ≤ ·) → ∀ s, St C s₀ W env G s m ((a, listObj ws e) :: n) → Q (.ref a) s) :
    ∀ s, St C s₀ W env G s m n → wpAny (MM C.w) A (call (.builtin "sorted") ([] ++ [.ref l])) Q E s := fun s D => by
  obtain ⟨h₀, mm, ex, F, N, hex, back⟩ := D.fr
  refine sorted_N F N ⟨_, D.get hl, rfl, e, rfl⟩ hi h64 fun h' ws ms e' F' N' hw hp hs => ?_
  refine h _ ws ms e' hw hp hs _ (back h' ((s.heap.objs.size + 1, listObj ws e') :: n) s.drawn s.toks F' (by simpa [listObj] using N') (fun p hp => ?_) ?_)
  · rcases List.mem_cons.mp hp with rfl | hp
    · exact .inr (Heap.get?_none_of_le (Nat.le_succ _))
    · exact .inl (List.mem_map_of_mem hp)
  · rw [List.map_cons, List.nodup_cons]
    refine ⟨fun hm => ?_, D.na⟩
    obtain ⟨p, hp, e⟩ := List.mem_map.mp hm
    have := Heap.lt_size (D.nw p hp).1
    rw [e] at this
    exact absurd this (Nat.not_lt.mpr (Nat.le_succ _))
/-! comparisons -/
theorem o_neI {a b : Addr} {xs ys : List Value} {ns ms : List Int} {ea eb : Nat} {Q : Value → Shared → Prop} (hA : Ok A 7) (ha : (a, listObj xs ea) ∈ n) (hb : (b, listObj ys eb) ∈ n) (hi : IntsAre xs ns) (hj : IntsAre ys ms) (h : ∀ s, St C s₀ W env G s m n → Q (.bool (!decide (ns = ms))) s) :
    ∀ s, St C s₀ W env G s m n → wpAny (MM C.w) A (compareOp .NotEq (.ref a) (.ref b)) Q E s := fun s D =>
  ke_ne_ints ⟨_, D.get ha, rfl, _, rfl⟩ ⟨_, D.get hb, rfl, _, rfl⟩ hi hj (by have := hA.u; omega) (h s D)
theorem o_neL {a b : Addr} {xs ys : List Value} {ds es : List Dat} {ea eb : Nat} {Q : Value → Shared → Prop} (hA : Ok A 7) (ha : (a, listObj xs ea) ∈ n) (hb : (b, listObj ys eb) ∈ n) (hi : DatAll n xs ds) (hj : DatAll n ys es) (h1 : ∀ d ∈ ds, kqdOk 8 d = true) (h2 : ∀ d ∈ es, kqdOk 8 d = true)
    (h : ∀ c, (c = false ↔ ds = es) → ∀ s, St C s₀ W env G s m n → Q (.bool c) s) :
    ∀ s, St C s₀ W env G s m n → wpAny (MM C.w) A (compareOp .NotEq (.ref a) (.ref b)) Q E s := fun s D => by
  obtain ⟨h₀, mm, ex, F, N, hex, back⟩ := D.fr
  refine kqd_ne N (List.mem_append_left _ ha) rfl rfl hi (fun p hp => List.mem_append_left _ hp) (List.mem_append_left _ hb) rfl rfl hj (fun p hp => List.mem_append_left _ hp) h1 h2 (by have := hA.u; omega) (h _ ?_ s D)
  by_cases e : ds = es <;> simp [e]
theorem o_notinH {H dx c f : Addr} {o : Obj} {v : Value} {Q : Value → Shared → Prop} (hx : (H, instObj c dx) ∈ n) (hd : (dx, o) ∈ n) (hs : findIn (KK C.w) (.ref c) "__contains__" = some (some (.ref f))) (hf : isFn (KK C.w) (.ref f) = true)
    (h : ∀ s, St C s₀ W env G s m n → wpAny (MM C.w) A (call (.ref f) [.ref H, v] []) (fun r s' => wpAny (MM C.w) A (truthy r) (fun b => Q (.bool (!b))) E s') E s) :
    ∀ s, St C s₀ W env G s m n → wpAny (MM C.w) A (compareOp .NotIn v (.ref H)) Q E s := fun s D => by
  have I := D.inst hx hd
  show wpAny (MM C.w) A (do return .bool (!(← contains (.ref H) v))) Q E s
  refine wpAny_bind ?_
  unfold contains
  refine wpAny_holding (wpAny_bind (wpAny_bind (I.type.here ((looks_findIn D.g.K hs).here ?_))))
  rw [if_neg (by simp)]
  refine wpAny_bind (unlessNone_K D.g.K I hs hf (wpAny_mono (h s D) (fun r s' hr => ?_) fun _ _ e => e))
  exact wpAny_mono hr (fun b s'' hb => wpAny_pure hb) fun _ _ e => e
/-! subscripts -/
theorem t_subX {value slice : Expr} {pos : Pos} {Q : Value → Shared → Prop}
    (h : ∀ s, St C s₀ W env G s m n → wpAny (MM C.w) A (eval value env) (KE C A env E slice (KItem C A E Q)) E s)
    (hs : ∀ o i, subscripted slice false o i = operate [o, i] (getItem o i) := by intro _ _; with_unfolding_all rfl) :
    ∀ s, St C s₀ W env G s m n → wpAny (MM C.w) A (eval (.Subscript value slice pos) env) Q E s := fun s D => by
  refine Subscript_ (wpAny_mono (h s D) (fun o s₁ h₁ => wpAny_mono h₁ (fun i s₂ h₂ => ?_) fun _ _ e => e) fun _ _ e => e)
  obtain ⟨T, id, hl, hT, hg⟩ := h₂
  exact tail_any hT hl hg (hs o i)
theorem i_str {x : List Nat} {t u : Tok} {i : Int} {c : Nat} {Q : Value → Shared → Prop} (h0 : 0 ≤ i) (h1 : i ≤ 1000000) (hc : x[i.toNat]? = some c) (h : ∀ t, ∀ s, St C s₀ W env G s m n → Q (.str (strOf [c]) t) s) :
    ∀ s, St C s₀ W env G s m n → ItemOn (MM C.w) A E (.str (strOf x) t) (.int i u) Q s := fun s D => by
  refine ⟨"str", _, slot_str_getitem.lookup, typeIs_str _ _ _, PyProof.Rows.getItem_str ?_ ?_ (h _ _ (D.tok s.drawn (s.toks + 1)))⟩
  · rw [decide_eq_false (by omega), decide_eq_false (by omega)]; rfl
  · have hlt : i.toNat < x.length := (List.getElem?_eq_some_iff.mp hc).1
    have e : seqIndex? i (strOf x).length = some i.toNat := by rw [strOf_len]; exact PySem.seqIndex_of h0 ((Int.toNat_lt h0).mp hlt)
    rw [e]
    simpa [strOf] using hc
end
section
variable {C : Cx} {s₀ s : Shared} {W : List Addr} {env : Env} {G : List (Nat × GenState)} {A : Around} {E : Value → Shared → Prop} {m m' mc : List (Str × Bnd)} {n n' : List (Addr × Obj)}
/-! a list unpacked -/
theorem draw_itr {src : List (Addr × Obj)} {I : Addr} {len : Nat} {V : Nat → Value → Prop} {OK : Nat → Obj → Prop} (hI : Itr C src I len V OK) (hh : A.handled = none) (hsrc : ∀ p ∈ src, p ∈ n) : ∀ (k i : Nat) (o : Obj) (s : Shared) (Q : List Value → Shared → Prop), i + k ≤ len → OK i o → St C s₀ W env G s m ((I, o) :: n) →
    (∀ vs o' s', vs.length = k → (∀ j v, vs[j]? = some v → V (i + j) v) → OK (i + k) o' → St C s₀ W env G s' m ((I, o') :: n) → Q vs s') → wpAny (MM C.w) A (draw (.ref I) k) Q E s
  | 0, i, o, s, Q, _, hok, D, hQ => wpAny_pure (hQ [] o s rfl (fun j v h => by simp at h) hok D)
  | k + 1, i, o, s, Q, hle, hok, D, hQ => by
    show wpAny _ _ (pyNext (.ref I) >>= _) Q E s
    refine wpAny_bind (hI.item hh (by omega) hok hsrc D fun v o' s' hv hok' D' => ?_)
    refine wpAny_bind (wpAny_holding (draw_itr hI hh hsrc k (i + 1) o' s' _ (by omega) hok' D' fun vs o'' s'' hl hvs hok'' D'' => wpAny_pure ?_))
    refine hQ (v :: vs) o'' s'' (by simp [hl]) (fun j w hw => ?_) (by rw [show i + (k + 1) = i + 1 + k by omega]; exact hok'') D''
    cases j with
    | zero => cases hw; exact hv
    | succ j => rw [show i + (j + 1) = i + 1 + j by omega]; exact hvs j w hw
theorem t_asgList {elts : List Expr} {k : Nat} {pos : Pos} {l : Addr} {vs : List Value} {e : Nat} {Q : Unit → Shared → Prop} (hh : A.handled = none) (hl : (l, listObj vs e) ∈ n) (hn : (assignEach elts env).length = vs.length) (hstar : (assignEach elts env).findIdx? (·.1) = none)
    (h : ∀ s, St C s₀ W env G s m n → wpAny (MM C.w) A (assignInOrder ((assignEach elts env).map (·.2)) vs) Q E s) :
    ∀ s, St C s₀ W env G s m n → wpAny (MM C.w) A (assign (.Tuple elts k pos) env (.ref l)) Q E s := fun s D => by
  rw [assign_Tuple]
  refine wpAny_bind (wpAny_standAt ?_)
  unfold unpack
  rw [hn, hstar]
  refine wpAny_bind (wpAny_holding ?_)
  have hT : s.TypeIs (.ref l) "list" := ⟨_, D.get hl, rfl⟩
  unfold unpackItems
  refine wpAny_bind ?_
  unfold notIterableAtAll
  refine wpAny_bind (wpAny_specialOf hT PySem.F.slot_list_iter.lookup ?_)
  refine wpAny_pure ?_
  simp only [Bool.false_eq_true, if_false]
  refine wpAny_bind (wpAny_holding (iter_list hl D fun I o OK hI hok s₁ D₁ => ?_))
  refine wpAny_bind (wpAny_holding (draw_itr hI hh (fun p hp => by obtain rfl := List.mem_singleton.mp hp; exact hl) vs.length 0 o s₁ _ (by omega) hok D₁ fun ws o' s₂ hwl hws hok' D₂ => ?_))
  obtain rfl : ws = vs := by
    refine List.ext_getElem? fun j => ?_
    by_cases hj : j < ws.length
    · have := hws j ws[j] (by simp [hj])
      rw [Nat.zero_add] at this
      rw [this]; simp [hj]
    · rw [List.getElem?_eq_none (by omega), List.getElem?_eq_none (by omega)]
  rw [if_neg (by simp)]
  rw [Nat.zero_add] at hok'
  refine wpAny_bind (wpAny_holding (hI.done hh hok' (fun p hp => by obtain rfl := List.mem_singleton.mp hp; exact hl) D₂ fun s₃ D₃ => ?_))
  simp only [Option.isSome_none, Bool.false_eq_true, if_false]
  exact wpAny_pure (h s₃ D₃)
/-! a list cut by steps -/
theorem t_subSt {value : Expr} {lower upper : Option Expr} {st : Expr} {p pos : Pos} {Q : Value → Shared → Prop}
    (h : ∀ s, St C s₀ W env G s m n → wpAny (MM C.w) A (eval value env) (KP1 C A env E lower (KP2 C A env E upper (KP3 C A env E (some st) (KSt C A E Q)))) E s)
    (ht : ∀ o r, letTemporaryGo value o r = pure () := by intro _ _; with_unfolding_all rfl) :
    ∀ s, St C s₀ W env G s m n → wpAny (MM C.w) A (eval (.Subscript value (.Slice lower upper (some st) p) pos) env) Q E s := fun s D => by
  refine Subscript_ (wpAny_mono (h s D) (fun o s₁ h₁ => wpAny_Slice (wpAny_mono h₁ (fun l s₂ h₂ => wpAny_mono h₂ (fun u s₃ h₃ => wpAny_mono h₃ (fun k s₄ h₄ => ?_) fun _ _ e => e) fun _ _ e => e) fun _ _ e => e)) fun _ _ e => e)
  obtain ⟨T, id, hl, hT, hg⟩ := h₄
  exact subscriptTail_builtin hT hl hg rfl (ht o)
theorem i_cut {l : Addr} {so : Obj} {vs : List Value} {ns : List Int} {e : Nat} {i k : Int} {u w : Tok} {Q : Value → Shared → Prop} (hl : (l, so) ∈ n) (hso : so.cls = .type "list" ∧ so.data = .seq vs.toArray e) (hi : IntsAre vs ns) (hk : k ≠ 0) (hsz : vs.length ≤ sizeLine)
    (h : ∀ D ws ms, IntsAre ws ms → ∀ s, St C s₀ W env G s m ((D, listObj ws 0) :: n) → Q (.ref D) s) :
    ∀ s, St C s₀ W env G s m n → ItemOn (MM C.w) A E (.ref l) (.ref s.heap.objs.size) Q { s with heap := s.heap.push { cls := .type "slice", data := .fields #[.int i u, .none, .int k w] } } := fun s D => by
  have D1 := D.push { cls := .type "slice", data := .fields #[.int i u, .none, .int k w] } s.drawn s.toks rfl
  have hL : (s.heap.push { cls := .type "slice", data := .fields #[.int i u, .none, .int k w] }).IsList l vs.toArray := ⟨_, D1.get (.tail _ hl), hso.1, _, hso.2⟩
  refine ⟨"list", _, slot_list_getitem.lookup, hL.typeIs, wpAny_getItem_list_slice hL (Heap.IsSliceOf.new ..) (.int i u) .none (.int k w) (by simpa using hk) ?_ (by rw [List.size_toArray]; exact hsz)⟩
  have hp := hi.pick (some i) none (some k)
  have D2 := D1.push (listObj (slicePick vs.toArray (some i) none (some k)).toList 0) s.drawn s.toks rfl
  have D3 := D2.sub (n' := (_, listObj (slicePick vs.toArray (some i) none (some k)).toList 0) :: n) (.cons_cons _ (.cons _ (.refl _)))
  have := h _ _ _ hp _ D3
  simpa [listObj] using this
/-! texts -/
theorem find_abc : ∀ i : Fin 3, Txt.find (strOf [97, 98, 99]) (strOf [97 + i.val]) = (i.val : Int) := by decide +kernel
theorem c_idx {i : Nat} {t u : Tok} {Q : Value → Shared → Prop} (hh : A.handled = none) (hi : i < 3) (h : ∀ t, ∀ s, St C s₀ W env G s m n → Q (.int i t) s) :
    ∀ s, St C s₀ W env G s m n → wpAny (MM C.w) A (call (.builtin "str.index") ([.str (strOf [97, 98, 99]) t] ++ [.str (strOf [97 + i]) u])) Q E s := fun s D => by
  have e := find_abc ⟨i, hi⟩
  dsimp only at e
  refine index_or hh (fun h0 _ => ?_) fun _ _ => ?_
  · rw [e] at h0; exact absurd h0 (by omega)
  · rw [e]; exact h _ _ (D.tok _ _)
theorem o_pow {a b : Int} {t u : Tok} {Q : Value → Shared → Prop} (h0 : 0 ≤ b) (h1 : b ≤ 1000000) (ha : a.natAbs < 2 ^ 64) (h : ∀ t, ∀ s, St C s₀ W env G s m n → Q (.int (a ^ b.toNat) t) s) :
    ∀ s, St C s₀ W env G s m n → wpAny (MM C.w) A (binaryOp .Pow (.int a t) (.int b u)) Q E s := fun s D => pow_int_small h0 h1 ha (h _ _ (D.tok _ _))
/-! tuples -/
theorem o_inT {T : Addr} {vs : List Value} {v : Value} {ds : List PyData} {d : PyData} {Q : Value → Shared → Prop} (hA : Ok A 7) (hT : (T, tupObj vs) ∈ n) (hr : ∀ h : Heap, ReadsAll h vs ds []) (hv : ∀ h : Heap, Reads h v d []) (h1 : PyData.canLayAll0 ds = true) (h2 : d.canLay0 = true) (h3 : d.depth = 0)
    (h : ∀ s, St C s₀ W env G s m n → Q (.bool (ds.any fun y => PyData.eqv y d)) s) :
    ∀ s, St C s₀ W env G s m n → wpAny (MM C.w) A (compareOp .In v (.ref T)) Q E s := fun s D =>
  SeqAt.in_tuple_reads (reads_tuple_at (D.get hT) rfl rfl (by simpa using hr s.heap)) (hv s.heap) h1 h2 (by rw [h3]; have := hA.u; simp; omega) (h s D)
theorem o_neT {T U : Addr} {vs ws : List Value} {ds es : List PyData} {Q : Value → Shared → Prop} (hA : Ok A 7) (hT : (T, tupObj vs) ∈ n) (hU : (U, tupObj ws) ∈ n) (hr : ∀ h : Heap, ReadsAll h vs ds []) (hr' : ∀ h : Heap, ReadsAll h ws es []) (h1 : SeqAt.shaped (.tuple ds) = true) (h2 : SeqAt.shaped (.tuple es) = true)
    (h : ∀ s, St C s₀ W env G s m n → Q (.bool (!PyData.eqv (.tuple ds) (.tuple es))) s) :
    ∀ s, St C s₀ W env G s m n → wpAny (MM C.w) A (compareOp .NotEq (.ref T) (.ref U)) Q E s := fun s D =>
  ne_dataH (reads_tuple_at (D.get hT) rfl rfl (by simpa using hr s.heap)) (reads_tuple_at (D.get hU) rfl rfl (by simpa using hr' s.heap)) h1 h2 (by have := hA.u; omega) (h s D)
inductive GcInv (C : Cx) (A : Around) (x : List Nat) (t : Tok) (s₀ : Shared) (W : List Addr) (env : Env) (g : Nat) (a : Addr) (ga : Obj) (J : Nat → List Value → List (Str × Bnd) → List (Addr × Obj) → Prop) (Da eL : Addr) (oL : Obj) (k : Nat) (s' : Shared) : Prop
  | mk (L : Addr) (i : Nat) (ys : List Value) (m₁ : List (Str × Bnd)) (n₁ : List (Addr × Obj)) (gs : GenState) (I : List (Addr × Obj)) (e : Nat) (_ : k + i = (esc 0 false x).length) (_ : J i ys m₁ n₁) (_ : GI C A x t L k gs I)
    (_ : St C s₀ W env [(g, gs)] s' m₁ (I ++ (a, ga) :: (Da, listObj ys e) :: (eL, oL) :: n₁))
/-! comprehensions over other iterators -/
theorem comp_gen {elt target iter : Expr} {ifs : List Expr} {scope : Scope} {pos : Pos} {cl : List (Str × Addr)} {use : Option (Value → Sem Unit)} {Q : Value → Shared → Prop} {x : List Nat} {t : Tok}
    (J : Nat → List Value → List (Str × Bnd) → List (Addr × Obj) → Prop) (hA : Ok A 25) (hx : ∀ c ∈ x, c < 128)
    (hcell : ∀ y ∈ scope.names, y.2 ≠ .cell) (hk : scope.kind = .function) (hm : ∀ a, McOk C.w (compEnvC scope cl a env) mc) (hnd : (mc.map (·.1)).Nodup) (h0 : J 0 [] mc n)
    (turn : ∀ i p l ys m₁ n₁ T t1 u L' en it o1 o2 o3 a ga g gs D e L oL c E', (esc 0 false x)[i]? = some (p, l) → J i ys m₁ n₁ → ∀ s, St C s₀ W (compEnvC scope cl c env) [(g, gs)] s m₁ ((T, tupObj [.int p t1, .str (strOf l) u]) :: (L', o1) :: (en, o2) :: (it, o3) :: (a, ga) :: (D, listObj ys e) :: (L, oL) :: n₁) →
      wpAny (MM C.w) A (assign target (compEnvC scope cl c env) (.ref T)) (KCT C A s₀ W (compEnvC scope cl c env) [(g, gs)] E' elt ifs (J (i + 1)) [(L', o1), (en, o2), (it, o3), (a, ga), (D, listObj ys e), (L, oL)] ys) E' s)
    (done : ∀ ys m₁ n₁ D e c oC s, J (esc 0 false x).length ys m₁ n₁ → (∀ s'' : Shared, s''.heap.get? c = some oC → ∃ mC, s''.heap.Ns c mC) → St C s₀ W env [] s m ((c, oC) :: (D, listObj ys e) :: n₁) → compPost (MM C.w) A E use Q (.ref D) c (.ok .next) s) :
    ∀ s, St C s₀ W env [] s m n → wpAny (MM C.w) A (call (.ref 45) [.str (strOf x) t] []) (CompGo C A E (.ListComp elt [⟨target, iter, ifs, 0⟩] scope pos) scope cl env use Q) E s := by
  refine t_genCall (hA.le (by decide)) ?_
  intro a Lg g oLg ga hga hLg s D
  obtain ⟨nm, qn, hc, hd, hsl⟩ := hga
  have hga : GenO g ga := ⟨nm, qn, hc, hd, hsl⟩
  have hself : ∀ {env' : Env} {gs : GenState} {m₁ : List (Str × Bnd)} {n₁ : List (Addr × Obj)} {s : Shared} {E : Value → Shared → Prop} {Q : Value → Shared → Prop}, (a, ga) ∈ n₁ → St C s₀ W env' [(g, gs)] s m₁ n₁ → Q (.ref a) s → wpAny (MM C.w) A (pyIter (.ref a)) Q E s := fun ha D hq =>
    wpAny_pyIter_gen (g := g) ⟨ga, nm, qn, D.get ha, hc, hd, hsl⟩ hq
  refine hself (.tail _ (.head _)) D ?_
  refine t_newList (by decide) ?_ s D
  intro Da s D
  obtain ⟨oL, hoL⟩ := D.locAt
  refine wpAny_newFunctionEnv hcell (by intro y hy; simp at hy) (fun h' hns hs => ?_) hk
  have D1 := D.comp hoL hk (hm _) hnd hns hs (s.toks + ([] : List (Str × Value)).length)
  have D2 := D1.perm (n' := [(Lg, oLg)] ++ (a, ga) :: (Da, listObj [] 0) :: (env.locals, oL) :: n) (by
    show ((Lg, oLg) :: (a, ga) :: (Da, listObj [] 0) :: (env.locals, oL) :: n).Perm ((env.locals, oL) :: (Da, listObj [] 0) :: (Lg, oLg) :: (a, ga) :: n)
    have h1 : ((env.locals, oL) :: (Da, listObj [] 0) :: (Lg, oLg) :: (a, ga) :: n).Perm ((Lg, oLg) :: (env.locals, oL) :: (Da, listObj [] 0) :: (a, ga) :: n) := List.perm_middle (l₁ := [(env.locals, oL), (Da, listObj [] 0)])
    have h2 : ((env.locals, oL) :: (Da, listObj [] 0) :: (a, ga) :: n).Perm ((a, ga) :: (env.locals, oL) :: (Da, listObj [] 0) :: n) := List.perm_middle (l₁ := [(env.locals, oL), (Da, listObj [] 0)])
    exact (h1.trans (.cons _ (h2.trans (.cons _ (.swap _ _ _))))).symm)
  have loop : codeAny (MM C.w) A (.compLoop (.ListComp elt [⟨target, iter, ifs, 0⟩] scope pos) 0 (.ref a) (.ref Da) (compEnvC scope cl s.heap.objs.size env)) (compPost (MM C.w) A E use Q (.ref Da) s.heap.objs.size) { s with heap := h', toks := s.toks + ([] : List (Str × Value)).length } := by
    refine compLoop_own (GcInv C A x t s₀ W (compEnvC scope cl s.heap.objs.size env) g a ga J Da env.locals oL) ?_ (esc 0 false x).length
      ⟨Lg, 0, [], mc, n, _, _, 0, rfl, h0, .inl ⟨rfl, rfl, oLg, rfl, hLg⟩, D2⟩
    rintro k s' ⟨L, i, ys, m₁, n₁, gs, I, e, hki, hJ, hI, D'⟩
    refine gen_next (hA.le (by decide)) hx hga hI D' ?_ ?_
    · rintro rfl s'' D''
      obtain rfl : i = (esc 0 false x).length := by omega
      obtain ⟨oC, D3, hC⟩ := (St.compBack (D := (⟨D.g0, D.x, D.dyn, D.fn, D.glob, D.bui, D.ns, D.hL, D.nd, D.nw, D.na, fun _ h => nomatch h⟩ : St C s₀ W env [] s m _)) hoL (D''.perm (List.Perm.swap _ _ _)))
      exact done ys m₁ n₁ Da e _ oC s'' hJ hC D3
    · intro k' p l rest T t1 u gs' L' en it o1 o2 o3 s'' hk' hdr hI' D''
      refine letOwned_other (D''.nw (a, ga) (by simp)).1 hc (by decide) ?_
      have hx' : (esc 0 false x)[i]? = some (p, l) := by
        have e : (esc 0 false x).length - k = i := by omega
        rw [e] at hdr
        rw [← List.head?_drop, hdr]; rfl
      have fin : ∀ zs e' s₃, CT C s₀ W (compEnvC scope cl s.heap.objs.size env) [(g, gs')] (J (i + 1) zs) ([(L', o1), (en, o2), (it, o3), (a, ga)] ++ (Da, listObj zs e') :: [(env.locals, oL)]) s₃ → ∃ m, m < k ∧ GcInv C A x t s₀ W (compEnvC scope cl s.heap.objs.size env) g a ga J Da env.locals oL m s₃ := fun zs e' s₃ ⟨m₂, n₂, hJ2, D3⟩ =>
        ⟨k', by omega, L', i + 1, zs, m₂, n₂, gs', [(L', o1), (en, o2), (it, o3)], e', by omega, hJ2, hI', D3⟩
      exact wpAny_mono (turn i p l ys m₁ n₁ T t1 u L' en it o1 o2 o3 a ga g gs' Da e env.locals oL s.heap.objs.size _ hx' hJ _ D'') (fun _ s₂ h₂ => wpAny_mono h₂ (fun ok s₃ h₃ => comp_end (r := [(L', o1), (en, o2), (it, o3), (a, ga)]) rfl h₃ (fun zs e' hc => fin zs e' s₃ hc) fin) fun _ _ e => e) fun _ _ e => e
  exact codeAny_compStart_list loop (hself (by simp) D2 loop)
end
noncomputable def enumIt (it : Addr) (i : Nat) (old : Value) : Obj := { cls := .type "enumerate", dict := none, data := .fields #[.none, .bool false, .ref it, rawInt i, .none, old], slots := #[] }
inductive EcInv (C : Cx) (s₀ : Shared) (W : List Addr) (env : Env) (G : List (Nat × GenState)) (J : Nat → List Value → List (Str × Bnd) → List (Addr × Obj) → Prop) (l en it Da eL : Addr) (oL : Obj) (len k : Nat) (s' : Shared) : Prop
  | mk (i : Nat) (ys : List Value) (m₁ : List (Str × Bnd)) (n₁ : List (Addr × Obj)) (old : Value) (o2 : Obj) (e : Nat) (_ : k + i = len) (_ : J i ys m₁ n₁) (_ : o2.cls = .type "list_iterator") (_ : o2.data = .fields #[.ref l, .int i 0])
    (_ : St C s₀ W env G s' m₁ ((en, enumIt it i old) :: (it, o2) :: (Da, listObj ys e) :: (eL, oL) :: n₁))
section
variable {C : Cx} {s₀ s : Shared} {W : List Addr} {env : Env} {G : List (Nat × GenState)} {A : Around} {E : Value → Shared → Prop} {m m' mc : List (Str × Bnd)} {n n' : List (Addr × Obj)}
theorem St.turn3 {I J T : Addr} {o o' p p' oT : Obj} {h' : Heap} (D : St C s₀ W env G s m ((I, o) :: (J, p) :: n)) (d : Drawn) (t : Nat) (hs : ∀ b o, b ≠ I → b ≠ J → s.heap.get? b = some o → h'.get? b = some o) (hI : h'.get? I = some o') (hJ : h'.get? J = some p') (hT : h'.get? T = some oT) (hTn : s.heap.get? T = none) :
    St C s₀ W env G ⟨h', s.gens, d, t, s.os⟩ m ((T, oT) :: (I, o') :: (J, p') :: n) := by
  have D0 := D.sub (n' := n) (.cons _ (.cons _ (.refl _)))
  have hna := D.na
  rw [List.map_cons, List.map_cons, List.nodup_cons, List.nodup_cons] at hna
  have hIn : I ∉ n.map (·.1) := fun h => hna.1 (.tail _ h)
  have hJn : J ∉ n.map (·.1) := hna.2.1
  have nI := D.nw _ (.head _)
  have nJ := D.nw _ (.tail _ (.head _))
  have ho : ∀ b, b ∈ W ∨ s₀.heap.get? b = none → ∀ o, b ∉ W → s₀.heap.get? b = some o → False := fun b h o hb e => by
    rcases h with h | h
    · exact hb h
    · rw [h] at e; cases e
  refine ⟨D.g0, ⟨fun b o hb e => hs b o ?_ ?_ (D.x.keep b o hb e), D.x.gens, D.x.bare, D.x.os⟩, D.dyn, D.fn, D.glob, D.bui, ?_, D.hL, D.nd, fun q hq => ?_, ?_, D.gn⟩
  · rintro rfl; exact ho _ nI.2.2 _ hb e
  · rintro rfl; exact ho _ nJ.2.2 _ hb e
  · obtain ⟨mm, hm, hok⟩ := D.ns
    exact ⟨mm, ns_at hm fun o e => hs _ o (Ne.symm nI.2.1) (Ne.symm nJ.2.1) e, hok⟩
  · rcases List.mem_cons.mp hq with rfl | hq
    · refine ⟨hT, ?_, D.newAt hTn⟩
      rintro e
      obtain ⟨mm, ⟨o, es, ep, e', r⟩, _⟩ := D.ns
      dsimp only at e
      rw [← e, hTn] at e'; cases e'
    · rcases List.mem_cons.mp hq with rfl | hq
      · exact ⟨hI, nI.2⟩
      · rcases List.mem_cons.mp hq with rfl | hq
        · exact ⟨hJ, nJ.2⟩
        · refine ⟨hs _ _ ?_ ?_ (D0.nw q hq).1, (D0.nw q hq).2⟩
          · rintro e; exact hIn (e ▸ List.mem_map_of_mem hq)
          · rintro e; exact hJn (e ▸ List.mem_map_of_mem hq)
  · rw [List.map_cons, List.nodup_cons]
    refine ⟨fun hm => ?_, by rw [List.map_cons, List.map_cons, List.nodup_cons, List.nodup_cons]; exact hna⟩
    obtain ⟨q, hq, e⟩ := List.mem_map.mp hm
    have : s.heap.get? q.1 ≠ none := by
      rcases List.mem_cons.mp hq with rfl | hq
      · exact fun e' => by have := nI.1; rw [e'] at this; cases this
      · rcases List.mem_cons.mp hq with rfl | hq
        · exact fun e' => by have := nJ.1; rw [e'] at this; cases this
        · exact fun e' => by have := (D0.nw q hq).1; rw [e'] at this; cases this
    exact this (e ▸ hTn)
theorem comp_enum {elt iter : Expr} {telts : List Expr} {tk : Nat} {tpos : Pos} {ifs : List Expr} {scope : Scope} {pos : Pos} {cl : List (Str × Addr)} {use : Option (Value → Sem Unit)} {Q : Value → Shared → Prop} {l : Addr} {vs : List Value} {e0 : Nat}
    (J : Nat → List Value → List (Str × Bnd) → List (Addr × Obj) → Prop) (hh : A.handled = none) (hl : (l, listObj vs e0) ∈ n) (hJl : ∀ i ys m₁ n₁, J i ys m₁ n₁ → (l, listObj vs e0) ∈ n₁)
    (hcell : ∀ y ∈ scope.names, y.2 ≠ .cell) (hk : scope.kind = .function) (hm : ∀ a, McOk C.w (compEnvC scope cl a env) mc) (hnd : (mc.map (·.1)).Nodup) (h0 : J 0 [] mc n)
    (turn : ∀ (i : Nat) v ys m₁ n₁ T t1 o1 o2 en it D e L oL c E', vs[i]? = some v → J i ys m₁ n₁ → ∀ s, St C s₀ W (compEnvC scope cl c env) G s m₁ ((T, tupObj [.int i t1, v]) :: (en, o1) :: (it, o2) :: (D, listObj ys e) :: (L, oL) :: n₁) →
      wpAny (MM C.w) A (assign (.Tuple telts tk tpos) (compEnvC scope cl c env) (.ref T)) (KCT C A s₀ W (compEnvC scope cl c env) G E' elt ifs (J (i + 1)) [(en, o1), (it, o2), (D, listObj ys e), (L, oL)] ys) E' s)
    (done : ∀ ys m₁ n₁ D e c oC s, J vs.length ys m₁ n₁ → (∀ s'' : Shared, s''.heap.get? c = some oC → ∃ mC, s''.heap.Ns c mC) → St C s₀ W env G s m ((c, oC) :: (D, listObj ys e) :: n₁) → compPost (MM C.w) A E use Q (.ref D) c (.ok .next) s) :
    ∀ s, St C s₀ W env G s m n → wpAny (MM C.w) A (call (.type "enumerate") ([] ++ [.ref l])) (CompGo C A E (.ListComp elt [⟨.Tuple telts tk tpos, iter, ifs, 0⟩] scope pos) scope cl env use Q) E s := fun s D => by
  have hL : s.heap.IsList l vs.toArray := ⟨_, D.get hl, rfl, _, rfl⟩
  refine call_enumerate_list hL fun h₁ he hi hz hk₁ => ?_
  obtain ⟨oi, hoi, hci, hdi⟩ := id hi
  have D1 := D.more (h' := h₁) s.drawn s.toks hk₁ (get_size _) hoi
  have hen : s.heap.get? (s.heap.objs.size + 1) = none := Heap.get?_none_of_le (Nat.le_succ _)
  have D2 : St C s₀ W env G { s with heap := h₁ } m ((s.heap.objs.size + 1, enumIt s.heap.objs.size 0 .none) :: (s.heap.objs.size, oi) :: n) := by
    refine ⟨D1.g0, D1.x, D1.dyn, D1.fn, D1.glob, D1.bui, D1.ns, D1.hL, D1.nd, fun p hp => ?_, ?_, D1.gn⟩
    · rcases List.mem_cons.mp hp with rfl | hp
      · exact ⟨he, Nat.ne_of_gt (Nat.lt_succ_of_lt D.locLt), D.newAt hen⟩
      · exact D1.nw p hp
    · rw [List.map_cons, List.nodup_cons]
      refine ⟨fun hm => ?_, D1.na⟩
      obtain ⟨p, hp, e⟩ := List.mem_map.mp hm
      rcases List.mem_cons.mp hp with rfl | hp
      · exact absurd e (Nat.ne_of_lt (Nat.lt_succ_self _))
      · exact absurd (Heap.lt_size (D.nw p hp).1) (by rw [e]; exact Nat.not_lt.mpr (Nat.le_succ _))
  clear D1
  generalize hen' : s.heap.objs.size + 1 = en at *
  generalize hit' : s.heap.objs.size = it at *
  have hne : en ≠ it := by rw [← hen']; exact Nat.succ_ne_self _
  refine wpAny_pyIter_enum he ?_
  refine t_newList (by decide) ?_ _ D2
  intro Da s D
  obtain ⟨oL, hoL⟩ := D.locAt
  refine wpAny_newFunctionEnv hcell (by intro y hy; simp at hy) (fun h' hns hs => ?_) hk
  have D4 := (D.comp hoL hk (hm _) hnd hns hs (s.toks + ([] : List (Str × Value)).length)).perm (turn4 (env.locals, oL) (Da, listObj [] 0) (en, enumIt it 0 .none) (it, oi) n)
  have loop : codeAny (MM C.w) A (.compLoop (.ListComp elt [⟨.Tuple telts tk tpos, iter, ifs, 0⟩] scope pos) 0 (.ref en) (.ref Da) (compEnvC scope cl s.heap.objs.size env)) (compPost (MM C.w) A E use Q (.ref Da) s.heap.objs.size) { s with heap := h', toks := s.toks + ([] : List (Str × Value)).length } := by
    refine compLoop_own (EcInv C s₀ W (compEnvC scope cl s.heap.objs.size env) G J l en it Da env.locals oL vs.length) ?_ vs.length ⟨0, [], mc, n, .none, oi, 0, rfl, h0, hci, hdi, D4⟩
    rintro k s' ⟨i, ys, m₁, n₁, old, o2, e, hki, hJ, ho2, ho2', D'⟩
    have hie : IsEnum s'.heap en it i old := (D'.nw _ (.head _)).1
    have hii : s'.heap.IsListIter it l i := ⟨o2, (D'.nw _ (.tail _ (.head _))).1, ho2, ho2'⟩
    have hil : s'.heap.IsList l vs.toArray := ⟨_, (D'.nw _ (.tail _ (.tail _ (.tail _ (.tail _ (hJl _ _ _ _ hJ)))))).1, rfl, _, rfl⟩
    by_cases hlt : i < vs.length
    · have hx : vs.toArray[i]? = some vs[i] := by simp [hlt]
      refine wpAny_pyNext_enum_item hie hii hil hx hne fun h₂ heo hit₂ hT hsz hk₂ => ?_
      refine wpAny_letOwnedTupleGo_enum heo fun h₃ he₃ hs₃ => ?_
      replace hs₃ : Heap.SameBut en h₂ h₃ := hs₃
      obtain ⟨o3, ho3, hc3, hd3⟩ := id hit₂
      have hTe : s'.heap.objs.size ≠ en := Nat.ne_of_gt (Heap.lt_size hie)
      have D'' := D'.turn3 (h' := h₃) s'.drawn (s'.toks + 1) (fun b o h1 h2 e => (hs₃.2 b h1).trans (hk₂ b o h1 h2 e)) he₃ ((hs₃.2 _ (Ne.symm hne)).trans ho3) ((hs₃.2 _ hTe).trans hT) (get_size _)
      have fin : ∀ zs e' s₃, CT C s₀ W (compEnvC scope cl s.heap.objs.size env) G (J (i + 1) zs) ([(en, enumIt it (i + 1) vs[i]), (it, o3)] ++ (Da, listObj zs e') :: [(env.locals, oL)]) s₃ → ∃ m, m < k ∧ EcInv C s₀ W (compEnvC scope cl s.heap.objs.size env) G J l en it Da env.locals oL vs.length m s₃ := fun zs e' s₃ ⟨m₂, n₂, hJ2, D3⟩ =>
        ⟨k - 1, (pred_turn hlt hki).1, i + 1, zs, m₂, n₂, _, o3, e', (pred_turn hlt hki).2, hJ2, hc3, hd3, D3⟩
      exact wpAny_mono (turn i vs[i] ys m₁ n₁ _ _ _ o3 en it Da e env.locals oL s.heap.objs.size _ (by simp [hlt]) hJ _ D'') (fun _ s₂ h₂ => wpAny_mono h₂ (fun ok s₃ h₃ => comp_end (r := [(en, enumIt it (i + 1) vs[i]), (it, o3)]) rfl h₃ (fun zs e' hc => fin zs e' s₃ hc) fin) fun _ _ e => e) fun _ _ e => e
    · obtain rfl : i = vs.length := end_turn hlt hki
      refine wpAny_pyNext_enum_end hh hie hii hil (by simp) fun h₂ hx₂ => ?_
      have D6 := ((D'.perm (List.Perm.swap _ _ _)).drop (h' := h₂) s'.drawn s'.toks hx₂).sub (n' := (Da, listObj ys e) :: (env.locals, oL) :: n₁) (.cons _ (.refl _))
      obtain ⟨oC, D7, hC⟩ := D.compBack hoL (D6.perm (List.Perm.swap _ _ _))
      exact done ys m₁ n₁ Da e _ oC _ hJ hC D7
  exact codeAny_compStart_list loop (wpAny_pyIter_enum (D4.get (.head _)) loop)
end
/-- law -/
@[reducible] noncomputable def f353 : FnOf 353 := by
  refine ⟨?fd, ?body, fun w => ?h, ?hb, fun w => ?hc, ?h1, ?h2, ?h3, ?h4, ?h5, ?hn⟩
  case h => exact rfl
  case hb => exact rfl
  case hc => kernel_rfl
  case h1 => rfl
  case h2 => rfl
  case h3 => rfl
  case h4 => rfl
  case h5 => rfl
  case hn => decide +kernel
structure StAt (i : Nat) where
  st : Stmt
  h : f353.body[i]? = some st
@[reducible] noncomputable def st0 : StAt 0 := by
  refine ⟨?st, ?h⟩
  case h => exact rfl
@[reducible] noncomputable def st1 : StAt 1 := by
  refine ⟨?st, ?h⟩
  case h => exact rfl
@[reducible] noncomputable def st2 : StAt 2 := by
  refine ⟨?st, ?h⟩
  case h => exact rfl
@[reducible] noncomputable def st3 : StAt 3 := by
  refine ⟨?st, ?h⟩
  case h => exact rfl
@[reducible] noncomputable def st4 : StAt 4 := by
  refine ⟨?st, ?h⟩
  case h => exact rfl
@[reducible] noncomputable def st5 : StAt 5 := by
  refine ⟨?st, ?h⟩
  case h => exact rfl
@[reducible] noncomputable def st6 : StAt 6 := by
  refine ⟨?st, ?h⟩
  case h => exact rfl
@[reducible] noncomputable def st7 : StAt 7 := by
  refine ⟨?st, ?h⟩
  case h => exact rfl
@[reducible] noncomputable def st8 : StAt 8 := by
  refine ⟨?st, ?h⟩
  case h => exact rfl
@[reducible] noncomputable def st9 : StAt 9 := by
  refine ⟨?st, ?h⟩
  case h => exact rfl
@[reducible] noncomputable def st10 : StAt 10 := by
  refine ⟨?st, ?h⟩
  case h => exact rfl
@[reducible] noncomputable def st11 : StAt 11 := by
  refine ⟨?st, ?h⟩
  case h => exact rfl
@[reducible] noncomputable def st12 : StAt 12 := by
  refine ⟨?st, ?h⟩
  case h => exact rfl
@[reducible] noncomputable def st13 : StAt 13 := by
  refine ⟨?st, ?h⟩
  case h => exact rfl
@[reducible] noncomputable def st14 : StAt 14 := by
  refine ⟨?st, ?h⟩
  case h => exact rfl
@[reducible] noncomputable def st15 : StAt 15 := by
  refine ⟨?st, ?h⟩
  case h => exact rfl
@[reducible] noncomputable def st16 : StAt 16 := by
  refine ⟨?st, ?h⟩
  case h => exact rfl
@[reducible] noncomputable def st17 : StAt 17 := by
  refine ⟨?st, ?h⟩
  case h => exact rfl
@[reducible] noncomputable def st18 : StAt 18 := by
  refine ⟨?st, ?h⟩
  case h => exact rfl
@[reducible] noncomputable def st19 : StAt 19 := by
  refine ⟨?st, ?h⟩
  case h => exact rfl
@[reducible] noncomputable def st20 : StAt 20 := by
  refine ⟨?st, ?h⟩
  case h => exact rfl
theorem body353 : f353.body = [st0.st, st1.st, st2.st, st3.st, st4.st, st5.st, st6.st, st7.st, st8.st, st9.st, st10.st, st11.st, st12.st, st13.st, st14.st, st15.st, st16.st, st17.st, st18.st, st19.st, st20.st] := rfl
theorem gl_law_column (w : World) : GloIs w "_law_column" (.ref 327) := .inl (by kernel_rfl)
noncomputable abbrev lE (L : Addr) : Env := cEnv f353.fd 353 L
/-- the law's cells -/
noncomputable abbrev MC (L : Addr) : List (Str × Bnd) := [("script", .cel (L + 1)), ("step", .cel (L + 2)), ("low", .cel (L + 3)), ("limit", .cel (L + 4)), ("bounds", .cel (L + 5)), ("rows", .cel (L + 6)), ("lead", .cel (L + 7)), ("order", .cel (L + 8)), ("ring", .cel (L + 9)), ("flags", .cel (L + 10)), ("words", .cel (L + 11)), ("table", .cel (L + 12))]
noncomputable abbrev Mc0 (vk vs : Option Value) (c : Addr) : List (Str × Bnd) := [("k", .loc vk), ("start", .loc vs), ("script", .cel c)]
/-- the cells of the law, and what else there is -/
noncomputable abbrev K12 (L : Addr) (v1 v2 v3 v4 v5 v6 v7 v8 v9 v10 v11 v12 : Option Value) (r : List (Addr × Obj)) : List (Addr × Obj) :=
  (L + 1, cellObj v1) :: (L + 2, cellObj v2) :: (L + 3, cellObj v3) :: (L + 4, cellObj v4) :: (L + 5, cellObj v5) :: (L + 6, cellObj v6) :: (L + 7, cellObj v7) :: (L + 8, cellObj v8) :: (L + 9, cellObj v9) :: (L + 10, cellObj v10) :: (L + 11, cellObj v11) :: (L + 12, cellObj v12) :: r
theorem t_kin {C : Cx} {s₀ : Shared} {W : List Addr} {env : Env} {G : List (Nat × GenState)} {m : List (Str × Bnd)} {L : Addr} {v1 v2 v3 v4 v5 v6 v7 v8 v9 v10 v11 v12 : Option Value} {r : List (Addr × Obj)} {x : Addr × Obj} {X : Shared → Prop}
    (h : ∀ s, St C s₀ W env G s m (K12 L v1 v2 v3 v4 v5 v6 v7 v8 v9 v10 v11 v12 (x :: r)) → X s) : ∀ s, St C s₀ W env G s m (x :: K12 L v1 v2 v3 v4 v5 v6 v7 v8 v9 v10 v11 v12 r) → X s :=
  t_perm (List.perm_middle (l₁ := [(L + 1, cellObj v1), (L + 2, cellObj v2), (L + 3, cellObj v3), (L + 4, cellObj v4), (L + 5, cellObj v5), (L + 6, cellObj v6), (L + 7, cellObj v7), (L + 8, cellObj v8), (L + 9, cellObj v9), (L + 10, cellObj v10), (L + 11, cellObj v11), (L + 12, cellObj v12)])) h
section
variable {C : Cx} {s₀ s : Shared} {W : List Addr} {A : Around} {E : Value → Shared → Prop} {m m' : List (Str × Bnd)} {n n' : List (Addr × Obj)} {L : Addr}
inductive I45 (L a0 : Addr) (t1 t2 t3 t4 : Tok) (n : List (Addr × Obj)) (i : Nat) (ys : List Value) (m₁ : List (Str × Bnd)) (n₁ : List (Addr × Obj)) : Prop
  | mk (vk vs : Option Value) (ms : List Int) (_ : m₁ = Mc0 vk vs (L + 1)) (_ : n₁ = (a0, listObj [.int 409 t1, .int 63 t2, .int 287 t3, .int 97 t4] 0) :: n) (_ : IntsAre ys ms) (_ : ms.length = i)
theorem sg0 {sl : Addr} {so : Obj} {vs : List Value} {ns : List Int} {e : Nat} {Q : Flow → Shared → Prop} (hA : Ok A 10) (hi : IntsAre vs ns) (hsz : vs.length ≤ 1000) (hc : (L + 1, cellObj (some (.ref sl))) ∈ n) (hso : so.cls = .type "list" ∧ so.data = .seq vs.toArray e) (hl : (sl, so) ∈ n)
    (h : ∀ a ws ms e, IntsAre ws ms → ms.length = 4 → ∀ s, St C s₀ W (lE L) [] s (("cells", .loc (some (.ref a))) :: MC L) ((a, listObj ws e) :: n) → Q .next s) :
    ∀ s, St C s₀ W (lE L) [] s (MC L) n → wpAny (MM C.w) A (exec st0.st (lE L)) Q E s := by
  refine t_compA [("script", L + 1)] (by with_unfolding_all rfl) (by rfl) (by decide +kernel) (by with_unfolding_all rfl) ?_
  repeat' tb_start
  rename_i t1 t2 t3 t4 a0
  refine comp_enum (e0 := 0) (mc := Mc0 none none (L + 1)) (vs := [.int 409 t1, .int 63 t2, .int 287 t3, .int 97 t4]) (I45 L a0 t1 t2 t3 t4 n) hA.hh (by news_at) ?_ (by decide +kernel) (by rfl) ?_ (by exact (by decide +kernel : (["k", "start", "script"] : List Str).Nodup)) ⟨_, _, [], rfl, rfl, .nil, rfl⟩ ?_ ?_
  · rintro i ys m₁ n₁ ⟨_, _, _, rfl, rfl, _, _⟩
    news_at
  · exact fun a => ⟨⟨by rfl, rfl⟩, ⟨by rfl, rfl⟩, ⟨.inl (by rfl), by rfl⟩, trivial⟩
  · rintro i v ys m₁ n₁ T t5 o1 o2 en it D e' L' oL c E' hv ⟨vk, vs', ms, rfl, rfl, hy, hyl⟩
    obtain ⟨z, tz, rfl⟩ : ∃ z tz, v = .int z tz := by
      have hlt : i < 4 := (List.getElem?_eq_some_iff.mp hv).1
      have : i = 0 ∨ i = 1 ∨ i = 2 ∨ i = 3 := in4 (by first | assumption | omega)
      rcases this with rfl | rfl | rfl | rfl <;> cases hv <;> exact ⟨_, _, rfl⟩
    have hlt : i < 4 := (List.getElem?_eq_some_iff.mp hv).1
    have hk0 : ∀ o ∈ n, o ∈ n := fun _ h => h
    refine t_asgTup (T := T) (hA.le (by decide)) (by news_at) rfl rfl ?_
    repeat' tb_start
    refine t_tests0 ?_
    repeat' tb_start
    refine i_cut (so := so) (by news_at) hso hi (by decide) (by rw [sizeLine_eq]; omega) ?_
    intro D2 ws2 ms2 hw2
    repeat' tb_start
    refine c_sum hA.hh (by news_at) hw2 ?_
    intro t7
    repeat' tb_start
    intro s₂ D₂
    refine ⟨by rw [sizeLine_eq]; have := hy.length; omega, _, _, ⟨_, _, ms ++ [z + ms2.sum], rfl, rfl, hy.append (.cons _ _ .nil), by simp [hyl]⟩, D₂.sub (by lcg_sub)⟩
  · rintro ys m₁ n₁ D' e' c oC s' ⟨vk, vs', ms, rfl, rfl, hy, hyl⟩ hC DD
    refine t_asgName (t_stn (by with_unfolding_all rfl) (by with_unfolding_all rfl) (fun s'' D'' => ?_)) s' DD
    obtain ⟨mC, hmC⟩ := hC s'' (D''.nw _ (.head _)).1
    exact ⟨mC, hmC, fun h' hs => h D' ys ms e' hy hyl _ ((D''.drop s''.drawn s''.toks hs.extBut).sub (.cons_cons _ (.cons _ (.refl _))))⟩
end
noncomputable abbrev Lc (x : Str) (v : Value) : Str × Bnd := (x, .loc (some v))
theorem ints4 {vs : List Value} {a b c d : Int} (h : IntsAre vs [a, b, c, d]) : ∃ t1 t2 t3 t4, vs = [.int a t1, .int b t2, .int c t3, .int d t4] := by
  obtain ⟨t1, v1, e1, h1⟩ := h.cons_inv
  obtain ⟨t2, v2, e2, h2⟩ := h1.cons_inv
  obtain ⟨t3, v3, e3, h3⟩ := h2.cons_inv
  obtain ⟨t4, v4, e4, h4⟩ := h3.cons_inv
  rw [e1, e2, e3, e4, h4.nil_inv]
  exact ⟨_, _, _, _, rfl⟩
theorem fmod_nat (x : Int) (b : Nat) (hb : 0 < b) : ∃ a : Nat, a < b ∧ x.fmod b = (a : Int) := by
  have h0 : (0 : Int) < b := by omega
  have h1 := Int.fmod_nonneg_of_pos x h0
  have h2 := Int.fmod_lt_of_pos x h0
  exact ⟨(x.fmod b).toNat, by omega, by omega⟩
section
variable {C : Cx} {s₀ s : Shared} {W : List Addr} {A : Around} {E : Value → Shared → Prop} {m m' : List (Str × Bnd)} {r : List (Addr × Obj)} {L : Addr} {v1 v2 v3 v4 v5 v6 v7 v8 v9 v10 v11 v12 : Option Value}
theorem sg1 {a : Addr} {ws : List Value} {ms : List Int} {e : Nat} {Q : Flow → Shared → Prop} (hA : Ok A 130) (hi : IntsAre ws ms) (hl : ms.length = 4) (hc : (a, listObj ws e) ∈ r)
    (h : ∀ a1 a2 a3 a4 : Nat, ∀ t1 t2 t3 t4, a1 < 3 → a2 < 2 → a3 < 2 → a4 < 30 → ∀ s, St C s₀ W (lE L) [] s (Lc "flip" (.int a3 t3) :: Lc "end" (.int a2 t2) :: Lc "cells" (.ref a) :: MC L) (K12 L v1 (some (.int a1 t1)) (some (.int a4 t4)) v4 v5 v6 v7 v8 v9 v10 v11 v12 r) → Q .next s) :
    ∀ s, St C s₀ W (lE L) [] s (Lc "cells" (.ref a) :: MC L) (K12 L v1 v2 v3 v4 v5 v6 v7 v8 v9 v10 v11 v12 r) → wpAny (MM C.w) A (exec st1.st (lE L)) Q E s := by
  obtain ⟨x3, t3, hv3⟩ : ∃ x t, ws[3]? = some (.int x t) := by
    obtain ⟨t, ht⟩ := hi.get 3 ms[3] (by simp [hl])
    exact ⟨_, _, ht⟩
  repeat' tb_start
  refine i_list (by news_at) (by decide) hv3 (by decide) ?_
  repeat' tb_start
  rename_i t5 t6 t7 t8 b
  refine s_digits (bs := [3, 2, 2, 30]) (hA.le (by decide)) (by news_at) (.cons _ _ (.cons _ _ (.cons _ _ (.cons _ _ .nil)))) (by decide) (by decide) ?_
  intro D ws2 e2 hw2
  obtain ⟨u1, u2, u3, u4, rfl⟩ := ints4 hw2
  obtain ⟨a1, h1, e1⟩ := fmod_nat x3 3 (by decide)
  obtain ⟨a2, h2, e2'⟩ := fmod_nat (x3.fdiv 3) 2 (by decide)
  obtain ⟨a3, h3, e3⟩ := fmod_nat ((x3.fdiv 3).fdiv 2) 2 (by decide)
  obtain ⟨a4, h4, e4⟩ := fmod_nat (((x3.fdiv 3).fdiv 2).fdiv 2) 30 (by decide)
  refine t_asgList hA.hh (by news_at) rfl rfl ?_
  repeat' tb_start
  refine t_forget (n' := K12 L v1 (some (.int (x3.fmod 3) u1)) (some (.int ((((x3.fdiv 3).fdiv 2).fdiv 2).fmod 30) u4)) v4 v5 v6 v7 v8 v9 v10 v11 v12 r) (by lcg_sub) ?_
  have := h a1 a2 a3 a4 u1 u2 u3 u4 h1 h2 h3 h4
  rw [← e1, ← e2', ← e3, ← e4] at this
  exact this
theorem sg2 {b : Nat} {t2 : Tok} {Q : Flow → Shared → Prop} (hA : Ok A 10) (hb : b < 2)
    (h : ∀ t, ∀ s, St C s₀ W (lE L) [] s (Lc "end" (.int b t2) :: (m ++ MC L)) (K12 L v1 v2 v3 (some (.str (strOf ([32, 32, 9] ++ List.replicate b 32)) t)) v5 v6 v7 v8 v9 v10 v11 v12 r) → Q .next s) :
    ∀ s, St C s₀ W (lE L) [] s (Lc "end" (.int b t2) :: (m ++ MC L)) (K12 L v1 v2 v3 v4 v5 v6 v7 v8 v9 v10 v11 v12 r) → wpAny (MM C.w) A (exec st2.st (lE L)) Q E s := by
  repeat' tb_start
  refine o_mulS (by omega) (by omega) ?_
  intro t4
  repeat' tb_start
  refine o_adds (by rw [sizeLine_eq]; simp only [List.length_append, List.length_replicate, List.length_cons, List.length_nil]; omega) ?_
  intro t5
  rw [show ((b : Nat) : Int).toNat = b from Int.toNat_natCast b]
  repeat' tb_start
  exact h t5
end
noncomputable def limT (b : Nat) : List Nat := [32, 32, 9] ++ List.replicate b 32
noncomputable def wsOf (x : List Nat) : List Int × Nat × Nat × Nat := wsGo [] 0 0 0 x
noncomputable abbrev Mc3 (vs : Option Value) (c : Addr) : List (Str × Bnd) := [("size", .loc vs), ("limit", .cel c)]
theorem limT_small : ∀ b : Fin 2, (∀ c ∈ limT b.val, c < 128) ∧ (wsOf (limT b.val ++ [120])).1.length ≤ 60 := by decide +kernel
theorem t_kinL {C : Cx} {s₀ : Shared} {W : List Addr} {env : Env} {G : List (Nat × GenState)} {m : List (Str × Bnd)} {L : Addr} {v1 v2 v3 v4 v5 v6 v7 v8 v9 v10 v11 v12 : Option Value} {l r : List (Addr × Obj)} {X : Shared → Prop}
    (h : ∀ s, St C s₀ W env G s m (K12 L v1 v2 v3 v4 v5 v6 v7 v8 v9 v10 v11 v12 (l ++ r)) → X s) : ∀ s, St C s₀ W env G s m (l ++ K12 L v1 v2 v3 v4 v5 v6 v7 v8 v9 v10 v11 v12 r) → X s :=
  t_perm (List.perm_append_comm_assoc [(L + 1, cellObj v1), (L + 2, cellObj v2), (L + 3, cellObj v3), (L + 4, cellObj v4), (L + 5, cellObj v5), (L + 6, cellObj v6), (L + 7, cellObj v7), (L + 8, cellObj v8), (L + 9, cellObj v9), (L + 10, cellObj v10), (L + 11, cellObj v11), (L + 12, cellObj v12)] l r) h
section
variable {C : Cx} {s₀ s : Shared} {W : List Addr} {A : Around} {E : Value → Shared → Prop} {m m' : List (Str × Bnd)} {r : List (Addr × Obj)} {L : Addr} {v1 v2 v3 v4 v5 v6 v7 v8 v9 v10 v11 v12 : Option Value}
inductive I47 (L rg X dx T cT : Addr) (o : Obj) (vs : List Value) (b : Nat) (t tb ta1 ta2 vrg : Tok) (v1 v2 v3 v5 v6 v7 v8 v9 v10 v11 v12 : Option Value) (r : List (Addr × Obj)) (i : Nat) (ys : List Value) (m₁ : List (Str × Bnd)) (n₁ : List (Addr × Obj)) : Prop
  | mk (vk : Option Value) (_ : m₁ = Mc3 vk (L + 4)) (_ : n₁ = (rg, rangeObj 1 6 ta1 ta2 vrg) :: (T, tupObj [.ref cT, .int (wsOf (limT b ++ [120])).2.1 tb]) :: (cT, tupObj vs) :: (X, instObj 159 dx) :: (dx, o) :: K12 L v1 v2 v3 (some (.str (strOf (limT b)) t)) v5 v6 v7 v8 v9 v10 v11 v12 r) (_ : IntsAre ys ((List.range i).map fun j => colF (1 + (j : Nat)) 0 (limT b))) (_ : ys.length = i)
theorem sg3 {b : Nat} {t : Tok} {x1 x2 x3 : Value} {Q : Flow → Shared → Prop} (hA : Ok A 40) (hb : b < 2)
    (h : ∀ X dx o T cT vs tb bl bvs e, WsP o T vs (wsOf (limT b ++ [120])).1 (wsOf (limT b ++ [120])).2.2.2 → IntsAre bvs ((List.range 5).map fun j => colF (1 + (j : Nat)) 0 (limT b)) → ∀ s, St C s₀ W (lE L) [] s (Lc "bound" (.ref X) :: Lc "flip" x1 :: Lc "end" x2 :: Lc "cells" x3 :: MC L)
      (K12 L v1 v2 v3 (some (.str (strOf (limT b)) t)) (some (.ref bl)) v6 v7 v8 v9 v10 v11 v12 ((bl, listObj bvs e) :: (wsL X dx o T cT vs (wsOf (limT b ++ [120])).2.1 tb ++ r))) → Q .next s) :
    ∀ s, St C s₀ W (lE L) [] s (Lc "flip" x1 :: Lc "end" x2 :: Lc "cells" x3 :: MC L) (K12 L v1 v2 v3 (some (.str (strOf (limT b)) t)) v5 v6 v7 v8 v9 v10 v11 v12 r) → wpAny (MM C.w) A (exec st3.st (lE L)) Q E s := by
  obtain ⟨hl1, hl2⟩ := limT_small ⟨b, hb⟩
  dsimp only at hl1 hl2
  have hlen : (limT b).length ≤ 4 := by simp [limT]; omega
  repeat' tb_start
  refine o_adds (by rw [sizeLine_eq]; simp only [List.length_append, List.length_cons, List.length_nil]; omega) ?_
  intro t5
  repeat' tb_start
  refine s_ws (hA.le (by decide)) (fun c hc => ?_) (by simp only [List.length_append, List.length_cons, List.length_nil]; omega) ?_
  · rcases List.mem_append.mp hc with hc | hc
    · exact hl1 c hc
    · rw [List.mem_singleton.mp hc]; decide
  intro X dx o T cT vs tb tn tnt hD hI
  simp only [List.cons_append, List.nil_append]
  have P : WsP o T vs (wsOf (limT b ++ [120])).1 (wsOf (limT b ++ [120])).2.2.2 := ⟨⟨_, _, _, _, hD⟩, hI, hl2⟩
  refine t_items ?_
  refine t_comp [("limit", L + 4)] (by with_unfolding_all rfl) (by rfl) (by decide +kernel) ?_
  repeat' tb_start
  refine c_range2 ?_
  intro rg vrg
  refine comp_core (mc := Mc3 none (L + 4)) (I47 L rg X dx T cT o vs b t tb _ _ vrg v1 v2 v3 v5 v6 v7 v8 v9 v10 v11 v12 r) hA.hh (iter_range (by news_at) (by omega) (by omega)) (by intro _ _ _ _ _ p hp; cases hp) (by decide +kernel) (by rfl) ?_ (by exact (by decide +kernel : (["size", "limit"] : List Str).Nodup)) ⟨_, rfl, rfl, .nil, rfl⟩ ?_ ?_
  · exact fun a => ⟨⟨by rfl, rfl⟩, ⟨.inl (by rfl), by rfl⟩, trivial⟩
  · rintro i v ys m₁ n₁ I oI D' e' L' oL c E' hi ⟨tz, rfl⟩ ⟨vk, rfl, rfl, hy, hyl⟩
    have hi : i < 5 := by simpa using hi
    repeat' tb_start
    refine t_tests0 ?_
    repeat' tb_start
    refine s_column (hA.le (by decide)) hl1 (by omega) (by omega) ?_
    intro t7 s₂ D₂
    refine ⟨by rw [sizeLine_eq]; omega, _, _, ⟨_, rfl, rfl, ?_, by simp [hyl]⟩, D₂⟩
    rw [List.range_succ, List.map_append]
    exact hy.append (.cons _ _ .nil)
  · rintro ys m₁ n₁ D' e' c oC s' ⟨vk, rfl, rfl, hy, hyl⟩ hC DD
    refine compPost_val hC DD ?_
    repeat' tb_start
    refine t_forget (n' := [(D', listObj ys e'), (T, tupObj [.ref cT, .int (wsOf (limT b ++ [120])).2.1 tb]), (cT, tupObj vs), (X, instObj 159 dx), (dx, o)] ++ K12 L v1 v2 v3 (some (.str (strOf (limT b)) t)) (some (.ref D')) v6 v7 v8 v9 v10 v11 v12 r) (by lcg_sub) ?_
    refine t_kinL ?_
    exact h X dx o T cT vs tb D' ys e' P hy
end
theorem t_kout {C : Cx} {s₀ : Shared} {W : List Addr} {env : Env} {G : List (Nat × GenState)} {m : List (Str × Bnd)} {L : Addr} {v1 v2 v3 v4 v5 v6 v7 v8 v9 v10 v11 v12 : Option Value} {l r : List (Addr × Obj)} {X : Shared → Prop}
    (h : ∀ s, St C s₀ W env G s m (l ++ K12 L v1 v2 v3 v4 v5 v6 v7 v8 v9 v10 v11 v12 r) → X s) : ∀ s, St C s₀ W env G s m (K12 L v1 v2 v3 v4 v5 v6 v7 v8 v9 v10 v11 v12 (l ++ r)) → X s :=
  t_perm (List.perm_append_comm_assoc l [(L + 1, cellObj v1), (L + 2, cellObj v2), (L + 3, cellObj v3), (L + 4, cellObj v4), (L + 5, cellObj v5), (L + 6, cellObj v6), (L + 7, cellObj v7), (L + 8, cellObj v8), (L + 9, cellObj v9), (L + 10, cellObj v10), (L + 11, cellObj v11), (L + 12, cellObj v12)] r) h
theorem good_abc : Good [97, 98, 99] := by
  have e : lw [97, 98, 99] = [97, 98, 99] := by decide +kernel
  refine ⟨?_, ?_, by simp, by rw [e]; simp⟩
  · intro c hc; simp at hc; omega
  · rw [e]; intro c hc; simp at hc; omega
section
variable {C : Cx} {s₀ s : Shared} {W : List Addr} {A : Around} {E : Value → Shared → Prop} {ml : List (Str × Bnd)} {r : List (Addr × Obj)} {L : Addr} {v1 v2 v3 v4 v5 v6 v7 v8 v9 v10 v11 v12 : Option Value}
theorem sg4 {Q : Flow → Shared → Prop} (hA : Ok A 60)
    (h : ∀ H dx o hl e ts vs rl, HdP o hl vs ts [([97, 98, 99], [])] → ∀ s, St C s₀ W (lE L) [] s (ml ++ MC L)
      (K12 L v1 v2 v3 v4 v5 (some (.ref rl)) v7 v8 v9 v10 v11 (some (.ref H)) ((rl, listObj [] 0) :: (hdL H dx o hl vs e ts ++ r))) → Q .next s) :
    ∀ s, St C s₀ W (lE L) [] s (ml ++ MC L) (K12 L v1 v2 v3 v4 v5 v6 v7 v8 v9 v10 v11 v12 r) → wpAny (MM C.w) A (exec st4.st (lE L)) Q E s := by
  repeat' tb_start
  rename_i t1 t2 T al
  refine s_headersL (ts := [(T, tupObj [.str (strOf [97, 98, 99]) t1, .str (strOf []) t2])]) (l := [([97, 98, 99], [])]) (vs := [.ref T]) (hA.le (by decide)) (.snoc (vs := []) (ts := []) (l := []) T [97, 98, 99] [] t1 t2 .nil) ?_ (by decide) ?_
  · intro p hp
    obtain rfl := List.mem_singleton.mp hp
    exact ⟨good_abc, (fun _ h => (nomatch h)), by show (0 : Nat) ≤ 1000; omega⟩
  intro H dx o P
  repeat' tb_start
  rename_i rl TT
  refine t_forget (n' := (((rl, listObj [] 0) :: hdL H dx o al [.ref T] 0 [(T, tupObj [.str (strOf [97, 98, 99]) t1, .str (strOf []) t2])]) ++ K12 L v1 v2 v3 v4 v5 (some (.ref rl)) v7 v8 v9 v10 v11 (some (.ref H)) r)) (by lcg_sub) ?_
  refine t_kinL ?_
  exact h H dx o al 0 _ _ rl P
end
noncomputable def bodyOf : Stmt → List Stmt
  | .For _ _ b _ _ => b
  | _ => []
structure KAt (i : Nat) where
  st : Stmt
  h : (bodyOf st5.st)[i]? = some st
@[reducible] noncomputable def kb0 : KAt 0 := by
  refine ⟨?st, ?h⟩
  case h => exact rfl
@[reducible] noncomputable def kb1 : KAt 1 := by
  refine ⟨?st, ?h⟩
  case h => exact rfl
@[reducible] noncomputable def kb2 : KAt 2 := by
  refine ⟨?st, ?h⟩
  case h => exact rfl
@[reducible] noncomputable def kb3 : KAt 3 := by
  refine ⟨?st, ?h⟩
  case h => exact rfl
@[reducible] noncomputable def kb4 : KAt 4 := by
  refine ⟨?st, ?h⟩
  case h => exact rfl
@[reducible] noncomputable def kb5 : KAt 5 := by
  refine ⟨?st, ?h⟩
  case h => exact rfl
@[reducible] noncomputable def kb6 : KAt 6 := by
  refine ⟨?st, ?h⟩
  case h => exact rfl
@[reducible] noncomputable def kb7 : KAt 7 := by
  refine ⟨?st, ?h⟩
  case h => exact rfl
@[reducible] noncomputable def kb8 : KAt 8 := by
  refine ⟨?st, ?h⟩
  case h => exact rfl
@[reducible] noncomputable def kb9 : KAt 9 := by
  refine ⟨?st, ?h⟩
  case h => exact rfl
@[reducible] noncomputable def kb10 : KAt 10 := by
  refine ⟨?st, ?h⟩
  case h => exact rfl
@[reducible] noncomputable def kb11 : KAt 11 := by
  refine ⟨?st, ?h⟩
  case h => exact rfl
@[reducible] noncomputable def kb12 : KAt 12 := by
  refine ⟨?st, ?h⟩
  case h => exact rfl
@[reducible] noncomputable def kb13 : KAt 13 := by
  refine ⟨?st, ?h⟩
  case h => exact rfl
theorem body_k : bodyOf st5.st = [kb0.st, kb1.st, kb2.st, kb3.st, kb4.st, kb5.st, kb6.st, kb7.st, kb8.st, kb9.st, kb10.st, kb11.st, kb12.st, kb13.st] := rfl
structure OAt (i : Nat) where
  st : Stmt
  h : (bodyOf st8.st)[i]? = some st
@[reducible] noncomputable def ob0 : OAt 0 := by
  refine ⟨?st, ?h⟩
  case h => exact rfl
@[reducible] noncomputable def ob1 : OAt 1 := by
  refine ⟨?st, ?h⟩
  case h => exact rfl
@[reducible] noncomputable def ob2 : OAt 2 := by
  refine ⟨?st, ?h⟩
  case h => exact rfl
@[reducible] noncomputable def ob3 : OAt 3 := by
  refine ⟨?st, ?h⟩
  case h => exact rfl
@[reducible] noncomputable def ob4 : OAt 4 := by
  refine ⟨?st, ?h⟩
  case h => exact rfl
theorem body_o : bodyOf st8.st = [ob0.st, ob1.st, ob2.st, ob3.st, ob4.st] := rfl
theorem ints5 {vs : List Value} {a b c d e : Int} (h : IntsAre vs [a, b, c, d, e]) : ∃ t1 t2 t3 t4 t5, vs = [.int a t1, .int b t2, .int c t3, .int d t4, .int e t5] := by
  obtain ⟨t1, v1, e1, h1⟩ := h.cons_inv
  obtain ⟨t2, t3, t4, t5, e2⟩ := ints4 h1
  rw [e1, e2]
  exact ⟨_, _, _, _, _, rfl⟩
noncomputable def leadT (run tabs more : Nat) : List Nat := List.replicate run 32 ++ List.replicate tabs 9 ++ List.replicate more 32
noncomputable def lonG (run tabs more : Nat) : Nat := if tabs = 0 then max 2 (run + more) else 2
/-- the digits of a cell -/
noncomputable abbrev MD (run tabs more bare kind : Nat) (t1 t2 t3 t4 t5 : Tok) (m : List (Str × Bnd)) : List (Str × Bnd) :=
  Lc "kind" (.int kind t5) :: Lc "bare" (.int bare t4) :: Lc "more" (.int more t3) :: Lc "tabs" (.int tabs t2) :: Lc "run" (.int run t1) :: m
section
variable {C : Cx} {s₀ s : Shared} {W : List Addr} {A : Around} {E : Value → Shared → Prop} {ml : List (Str × Bnd)} {r : List (Addr × Obj)} {L : Addr} {v1 v2 v3 v4 v5 v6 v7 v8 v9 v10 v11 v12 : Option Value}
/-- the names ahead of the body's own -/
noncomputable abbrev MK (L : Addr) (k : Value) (bound flip en cells : Value) : List (Str × Bnd) := Lc "k" k :: Lc "bound" bound :: Lc "flip" flip :: Lc "end" en :: Lc "cells" cells :: MC L
theorem sk0 {k : Nat} {tk : Tok} {x1 x2 x3 : Value} {a : Addr} {ws : List Value} {ms : List Int} {e : Nat} {Q : Flow → Shared → Prop} (hA : Ok A 130) (hk : k < 3) (hi : IntsAre ws ms) (hl : ms.length = 4) (hc : (a, listObj ws e) ∈ r)
    (h : ∀ a1 a2 a3 a4 a5 : Nat, ∀ t1 t2 t3 t4 t5, a1 < 3 → a2 < 2 → a3 < 3 → a4 < 5 → a5 < 6 → ∀ s, St C s₀ W (lE L) [] s (MD a1 a2 a3 a4 a5 t1 t2 t3 t4 t5 (MK L (.int k tk) x1 x2 x3 (.ref a))) (K12 L v1 v2 v3 v4 v5 v6 v7 v8 v9 v10 v11 v12 r) → Q .next s) :
    ∀ s, St C s₀ W (lE L) [] s (MK L (.int k tk) x1 x2 x3 (.ref a)) (K12 L v1 v2 v3 v4 v5 v6 v7 v8 v9 v10 v11 v12 r) → wpAny (MM C.w) A (exec kb0.st (lE L)) Q E s := by
  obtain ⟨x, tx, hv⟩ : ∃ x t, ws[(k : Int).toNat]? = some (.int x t) := by
    rw [Int.toNat_natCast]
    obtain ⟨t, ht⟩ := hi.get k (ms[k]'(by rw [hl]; omega)) (by simp)
    exact ⟨_, _, ht⟩
  repeat' tb_start
  refine i_list (by news_at) (by omega) hv (by omega) ?_
  repeat' tb_start
  rename_i t5 t6 t7 t8 t9 b
  refine s_digits (bs := [3, 2, 3, 5, 6]) (hA.le (by decide)) (by news_at) (.cons _ _ (.cons _ _ (.cons _ _ (.cons _ _ (.cons _ _ .nil))))) (by decide) (by decide) ?_
  intro D ws2 e2 hw2
  obtain ⟨u1, u2, u3, u4, u5, rfl⟩ := ints5 hw2
  obtain ⟨a1, h1, e1⟩ := fmod_nat x 3 (by decide)
  obtain ⟨a2, h2, e2'⟩ := fmod_nat (x.fdiv 3) 2 (by decide)
  obtain ⟨a3, h3, e3⟩ := fmod_nat ((x.fdiv 3).fdiv 2) 3 (by decide)
  obtain ⟨a4, h4, e4⟩ := fmod_nat (((x.fdiv 3).fdiv 2).fdiv 3) 5 (by decide)
  obtain ⟨a5, h5, e5⟩ := fmod_nat ((((x.fdiv 3).fdiv 2).fdiv 3).fdiv 5) 6 (by decide)
  refine t_asgList hA.hh (by news_at) rfl rfl ?_
  repeat' tb_start
  refine t_forget (n' := K12 L v1 v2 v3 v4 v5 v6 v7 v8 v9 v10 v11 v12 r) (by lcg_sub) ?_
  have := h a1 a2 a3 a4 a5 u1 u2 u3 u4 u5 h1 h2 h3 h4 h5
  unfold MD at this
  rw [← e1, ← e2', ← e3, ← e4, ← e5] at this
  exact this
theorem sk1 {run tabs more bare kind : Nat} {t1 t2 t3 t4 t5 : Tok} {k x1 x2 x3 x4 : Value} {Q : Flow → Shared → Prop} (hA : Ok A 10) (h1 : run < 3) (h2 : tabs < 2) (h3 : more < 3)
    (h : ∀ t, ∀ s, St C s₀ W (lE L) [] s (MD run tabs more bare kind t1 t2 t3 t4 t5 (MK L k x1 x2 x3 x4)) (K12 L v1 v2 v3 v4 v5 v6 (some (.str (strOf (leadT run tabs more)) t)) v8 v9 v10 v11 v12 r) → Q .next s) :
    ∀ s, St C s₀ W (lE L) [] s (MD run tabs more bare kind t1 t2 t3 t4 t5 (MK L k x1 x2 x3 x4)) (K12 L v1 v2 v3 v4 v5 v6 v7 v8 v9 v10 v11 v12 r) → wpAny (MM C.w) A (exec kb1.st (lE L)) Q E s := by
  repeat' tb_start
  refine o_mulS (by omega) (by omega) ?_
  intro u1
  repeat' tb_start
  refine o_mulS (by omega) (by omega) ?_
  intro u2
  repeat' tb_start
  refine o_adds (by rw [sizeLine_eq]; simp only [List.length_append, List.length_replicate]; omega) ?_
  intro u3
  repeat' tb_start
  refine o_mulS (by omega) (by omega) ?_
  intro u4
  repeat' tb_start
  refine o_adds (by rw [sizeLine_eq]; simp only [List.length_append, List.length_replicate]; omega) ?_
  intro u5
  simp only [Int.toNat_natCast]
  repeat' tb_start
  exact h u5
theorem sk2 {run tabs more bare kind : Nat} {t1 t2 t3 t4 t5 : Tok} {k x1 x2 x3 x4 : Value} {Q : Flow → Shared → Prop} (hA : Ok A 10) (h1 : run < 3) (h2 : tabs < 2) (h3 : more < 3)
    (h : ∀ t, ∀ s, St C s₀ W (lE L) [] s (Lc "longest" (.int (lonG run tabs more : Nat) t) :: MD run tabs more bare kind t1 t2 t3 t4 t5 (MK L k x1 x2 x3 x4)) (K12 L v1 v2 v3 v4 v5 v6 v7 v8 v9 v10 v11 v12 r) → Q .next s) :
    ∀ s, St C s₀ W (lE L) [] s (MD run tabs more bare kind t1 t2 t3 t4 t5 (MK L k x1 x2 x3 x4)) (K12 L v1 v2 v3 v4 v5 v6 v7 v8 v9 v10 v11 v12 r) → wpAny (MM C.w) A (exec kb2.st (lE L)) Q E s := by
  repeat' tb_start
  refine t_itb (fun hq => ?_) (fun hq => ?_)
  · have hq : tabs = 0 := by simpa using hq
    repeat' tb_start
    refine c_maxL hA.hh (by news_at) (.cons _ _ (.cons _ _ .nil)) (by simp) ?_
    intro M tM hM hall
    have e : M = ((lonG run tabs more : Nat) : Int) := by
      have a1 := hall 2 (by simp)
      have a2 := hall ((run : Int) + (more : Int)) (by simp)
      simp only [List.mem_cons, List.not_mem_nil, or_false] at hM
      unfold lonG
      rw [if_pos hq]
      omega
    subst e
    repeat' tb_start
    exact t_forget (.cons _ (.refl _)) (h tM)
  · have hq : tabs ≠ 0 := by simpa using hq
    repeat' tb_start
    rename_i tM
    have e : ((lonG run tabs more : Nat) : Int) = 2 := by unfold lonG; rw [if_neg hq]; rfl
    have := h tM
    rw [e] at this
    exact this
end
noncomputable def dueF (lead lim : List Nat) (i : Nat) : List (Int × Int × Int) := (List.range i).map fun j => ((1 + (j : Nat) : Int), colF (1 + (j : Nat)) 0 lead, colF (1 + (j : Nat)) 0 lim)
noncomputable abbrev Mc5 (vs : Option Value) (c1 c2 : Addr) : List (Str × Bnd) := [("size", .loc vs), ("lead", .cel c1), ("bounds", .cel c2)]
theorem lon_le {run tabs more : Nat} (h1 : run < 3) (h3 : more < 3) : lonG run tabs more ≤ 4 := by
  unfold lonG
  split <;> omega
theorem lead_small {run tabs more : Nat} : ∀ c ∈ leadT run tabs more, c < 128 := fun c hc => by
  unfold leadT at hc
  rcases List.mem_append.mp hc with hc | hc
  · rcases List.mem_append.mp hc with hc | hc
    · rw [List.eq_of_mem_replicate hc]; decide
    · rw [List.eq_of_mem_replicate hc]; decide
  · rw [List.eq_of_mem_replicate hc]; decide
theorem T3.length {vs : List Value} {ts : List (Addr × Obj)} {l : List (Int × Int × Int)} (h : T3 vs ts l) : vs.length = l.length := h.len
section
variable {C : Cx} {s₀ s : Shared} {W : List Addr} {A : Around} {E : Value → Shared → Prop} {ml : List (Str × Bnd)} {r : List (Addr × Obj)} {L : Addr} {v1 v2 v3 v4 v5 v6 v7 v8 v9 v10 v11 v12 : Option Value}
inductive I51 (L rg bl : Addr) (lon run tabs more : Nat) (lim : List Nat) (tL ta1 ta2 vrg : Tok) (v1 v2 v3 v4 v6 v8 v9 v10 v11 v12 : Option Value) (r : List (Addr × Obj)) (i : Nat) (ys : List Value) (m₁ : List (Str × Bnd)) (n₁ : List (Addr × Obj)) : Prop
  | mk (vk : Option Value) (tl' : List (Addr × Obj)) (_ : m₁ = Mc5 vk (L + 7) (L + 5)) (_ : n₁ = tl' ++ (rg, rangeObj 1 ((lon : Int) + 2) ta1 ta2 vrg) :: K12 L v1 v2 v3 v4 (some (.ref bl)) v6 (some (.str (strOf (leadT run tabs more)) tL)) v8 v9 v10 v11 v12 r) (_ : T3 ys tl' (dueF (leadT run tabs more) lim i))
theorem sk3 {run tabs more bare kind : Nat} {t1 t2 t3 t4 t5 tl tL : Tok} {k x1 x2 x3 x4 : Value} {bl : Addr} {bvs : List Value} {eb : Nat} {lim : List Nat} {Q : Flow → Shared → Prop} (hA : Ok A 40) (h1 : run < 3) (h2 : tabs < 2) (h3 : more < 3)
    (hb : IntsAre bvs ((List.range 5).map fun j => colF (1 + (j : Nat)) 0 lim)) (hbl : (bl, listObj bvs eb) ∈ r)
    (h : ∀ D ws e tl', T3 ws tl' (dueF (leadT run tabs more) lim (lonG run tabs more + 1)) → ∀ s, St C s₀ W (lE L) [] s (Lc "due" (.ref D) :: Lc "longest" (.int (lonG run tabs more : Nat) tl) :: MD run tabs more bare kind t1 t2 t3 t4 t5 (MK L k x1 x2 x3 x4))
      (K12 L v1 v2 v3 v4 (some (.ref bl)) v6 (some (.str (strOf (leadT run tabs more)) tL)) v8 v9 v10 v11 v12 ((D, listObj ws e) :: (tl' ++ r))) → Q .next s) :
    ∀ s, St C s₀ W (lE L) [] s (Lc "longest" (.int (lonG run tabs more : Nat) tl) :: MD run tabs more bare kind t1 t2 t3 t4 t5 (MK L k x1 x2 x3 x4)) (K12 L v1 v2 v3 v4 (some (.ref bl)) v6 (some (.str (strOf (leadT run tabs more)) tL)) v8 v9 v10 v11 v12 r) →
      wpAny (MM C.w) A (exec kb3.st (lE L)) Q E s := by
  have hlon := lon_le (tabs := tabs) h1 h3
  generalize lonG run tabs more = lon at *
  refine t_compA [("lead", L + 7), ("bounds", L + 5)] (by with_unfolding_all rfl) (by rfl) (by decide +kernel) (by with_unfolding_all rfl) ?_
  repeat' tb_start
  refine c_range2 ?_
  intro rg vrg
  refine comp_core (mc := Mc5 none (L + 7) (L + 5)) (I51 L rg bl lon run tabs more lim tL _ _ vrg v1 v2 v3 v4 v6 v8 v9 v10 v11 v12 r) hA.hh (iter_range (by news_at) (by omega) (by omega)) (by intro _ _ _ _ _ p hp; cases hp) (by decide +kernel) (by rfl) ?_ (by exact (by decide +kernel : (["size", "lead", "bounds"] : List Str).Nodup)) ⟨_, [], rfl, rfl, .nil⟩ ?_ ?_
  · exact fun a => ⟨⟨by rfl, rfl⟩, ⟨.inl (by rfl), by rfl⟩, ⟨.inl (by rfl), by rfl⟩, trivial⟩
  · rintro i v ys m₁ n₁ I oI D' e' L' oL c E' hi ⟨tz, rfl⟩ ⟨vk, tl', rfl, rfl, hy⟩
    have hi : i < 5 := by omega
    repeat' tb_start
    refine t_tests0 ?_
    repeat' tb_start
    refine s_column (hA.le (by decide)) lead_small (by omega) (by omega) ?_
    intro t7
    repeat' tb_start
    obtain ⟨tb, htb⟩ := hb.get i (colF (1 + (i : Nat)) 0 lim) (by simp [hi])
    refine i_list (by news_at) (by omega) (v := .int (colF (1 + (i : Nat)) 0 lim) tb) (by rw [show ((1 : Int) + (i : Nat) - 1).toNat = i by omega]; exact htb) (by omega) ?_
    repeat' tb_start
    rename_i TT
    intro s₂ D₂
    refine ⟨?_, Mc5 (some (.int (1 + (i : Nat)) tz)) (L + 7) (L + 5), (TT, tupObj [.int (1 + (i : Nat)) tz, .int (colF (1 + (i : Nat)) 0 (leadT run tabs more)) t7, .int (colF (1 + (i : Nat)) 0 lim) tb]) :: (tl' ++ _), ⟨some (.int (1 + (i : Nat)) tz), (TT, tupObj [.int (1 + (i : Nat)) tz, .int (colF (1 + (i : Nat)) 0 (leadT run tabs more)) t7, .int (colF (1 + (i : Nat)) 0 lim) tb]) :: tl', rfl, rfl, ?_⟩, ?_⟩
    · rw [hy.len, sizeLine_eq]; simp [dueF]; omega
    · unfold dueF
      rw [List.range_succ, List.map_append]
      exact hy.snoc TT _ _ _ _ _ _
    · exact D₂.perm (List.perm_middle (l₁ := [(I, oI), (D', listObj ys e'), (L', oL)]))
  · rintro ys m₁ n₁ D' e' c oC s' ⟨vk, tl', rfl, rfl, hy⟩ hC DD
    rw [show ((lon : Int) + 2 - 1).toNat = lon + 1 by omega] at hy
    refine t_asgName (t_stn (by with_unfolding_all rfl) (by with_unfolding_all rfl) (fun s'' D'' => ?_)) s' DD
    obtain ⟨mC, hmC⟩ := hC s'' (D''.nw _ (.head _)).1
    refine ⟨mC, hmC, fun h' hs => ?_⟩
    have D3 := D''.drop s''.drawn s''.toks hs.extBut
    revert D3
    generalize (⟨h', s''.gens, s''.drawn, s''.toks, s''.os⟩ : Shared) = s3
    revert s3
    refine t_forget (n' := ((D', listObj ys e') :: tl') ++ K12 L v1 v2 v3 v4 (some (.ref bl)) v6 (some (.str (strOf (leadT run tabs more)) tL)) v8 v9 v10 v11 v12 r) (.cons_cons _ ((List.Sublist.refl tl').append (.cons _ (.refl _)))) ?_
    refine t_kinL ?_
    exact h D' ys e' tl' hy
end
noncomputable def toldF (lead lim : List Nat) : List (Int × Int × Int) :=
  neG (wsOf (lead ++ [120, 9])).1 (wsOf (lead ++ [120, 9])).2.1 (wsOf (lead ++ [120, 9])).2.2.2 (wsOf (lim ++ [120])).1 (wsOf (lim ++ [120])).2.1 (wsOf (lim ++ [120])).2.2.2
    (neN (wsOf (lead ++ [120, 9])).1 (wsOf (lead ++ [120, 9])).2.1 (wsOf (lim ++ [120])).1 (wsOf (lim ++ [120])).2.1).toNat
theorem told_small : ∀ (run : Fin 3) (tabs : Fin 2) (more : Fin 3) (en : Fin 2), neN (wsOf (leadT run.val tabs.val more.val ++ [120, 9])).1 (wsOf (leadT run.val tabs.val more.val ++ [120, 9])).2.1 (wsOf (limT en.val ++ [120])).1 (wsOf (limT en.val ++ [120])).2.1 ≤ 6 ∧
    (wsOf (leadT run.val tabs.val more.val ++ [120, 9])).1.length ≤ 60 := by decide +kernel
section
variable {C : Cx} {s₀ s : Shared} {W : List Addr} {A : Around} {E : Value → Shared → Prop} {ml : List (Str × Bnd)} {r : List (Addr × Obj)} {L : Addr} {v1 v2 v3 v4 v5 v6 v7 v8 v9 v10 v11 v12 : Option Value}
theorem sk4 {run tabs more bare kind en : Nat} {t1 t2 t3 t4 t5 tl tL : Tok} {k x2 x3 x4 y1 y2 : Value} {X' dx' T' cT' : Addr} {o' : Obj} {vs' : List Value} {tb' : Tok} {Q : Flow → Shared → Prop} (hA : Ok A 60) (h1 : run < 3) (h2 : tabs < 2) (h3 : more < 3) (h4 : en < 2)
    (P' : WsP o' T' vs' (wsOf (limT en ++ [120])).1 (wsOf (limT en ++ [120])).2.2.2) (hin : ∀ p ∈ wsL X' dx' o' T' cT' vs' (wsOf (limT en ++ [120])).2.1 tb', p ∈ r) (hnd : ((wsL X' dx' o' T' cT' vs' (wsOf (limT en ++ [120])).2.1 tb').map (·.1)).Nodup)
    (h : ∀ D ws e tl', T3 ws tl' (toldF (leadT run tabs more) (limT en)) → ∀ s, St C s₀ W (lE L) [] s (Lc "told" (.ref D) :: Lc "due" y1 :: Lc "longest" y2 :: MD run tabs more bare kind t1 t2 t3 t4 t5 (MK L k (.ref X') x2 x3 x4))
      (K12 L v1 v2 v3 v4 v5 v6 (some (.str (strOf (leadT run tabs more)) tL)) v8 v9 v10 v11 v12 ((D, listObj ws e) :: (tl' ++ r))) → Q .next s) :
    ∀ s, St C s₀ W (lE L) [] s (Lc "due" y1 :: Lc "longest" y2 :: MD run tabs more bare kind t1 t2 t3 t4 t5 (MK L k (.ref X') x2 x3 x4)) (K12 L v1 v2 v3 v4 v5 v6 (some (.str (strOf (leadT run tabs more)) tL)) v8 v9 v10 v11 v12 r) →
      wpAny (MM C.w) A (exec kb4.st (lE L)) Q E s := by
  obtain ⟨hN, hl60⟩ := told_small ⟨run, h1⟩ ⟨tabs, h2⟩ ⟨more, h3⟩ ⟨en, h4⟩
  dsimp only at hN hl60
  have hlen : (leadT run tabs more).length ≤ 6 := by simp [leadT]; omega
  repeat' tb_start
  refine o_adds (by rw [sizeLine_eq]; simp only [List.length_append, List.length_cons, List.length_nil]; omega) ?_
  intro t6
  repeat' tb_start
  refine s_ws (hA.le (by decide)) (fun c hc => ?_) (by simp only [List.length_append, List.length_cons, List.length_nil]; omega) ?_
  · rcases List.mem_append.mp hc with hc | hc
    · exact lead_small c hc
    · simp at hc; omega
  intro X dx o T cT vs tb tn tnt hD hI
  have P : WsP o T vs (wsOf (leadT run tabs more ++ [120, 9])).1 (wsOf (leadT run tabs more ++ [120, 9])).2.2.2 := ⟨⟨_, _, _, _, hD⟩, hI, hl60⟩
  intro s D
  have hna := D.na
  have hin2 : ∀ p ∈ wsL X' dx' o' T' cT' vs' (wsOf (limT en ++ [120])).2.1 tb', p ∈ K12 L v1 v2 v3 v4 v5 v6 (some (.str (strOf (leadT run tabs more)) tL)) v8 v9 v10 v11 v12 r := fun p hp => by
    have := hin p hp
    news_at
  have hnd2 := nodup_app hna hin2 hnd
  revert D
  revert s
  simp only [List.cons_append, List.nil_append]
  refine t_methI (cls159 C) (o := o) (by news_at) (by news_at) hD rfl (f := 142) (by kernel_rfl) (by kernel_rfl) ?_
  repeat' tb_start
  refine s_witness (hA.le (by decide)) P P' (X := X) (dx := dx) (cT := cT) (tb := tb) (fun p hp => ?_) hnd2 hN ?_
  · rcases List.mem_append.mp hp with hp | hp
    · exact List.mem_append_left _ hp
    · exact List.mem_append_right [(T, tupObj [.ref cT, .int (wsOf (leadT run tabs more ++ [120, 9])).2.1 tb]), (cT, tupObj vs), (X, instObj 159 dx), (dx, o)] (hin2 p hp)
  intro D' e ws tl' hw
  repeat' tb_start
  refine t_forget (n' := ((D', listObj ws e) :: tl') ++ K12 L v1 v2 v3 v4 v5 v6 (some (.str (strOf (leadT run tabs more)) tL)) v8 v9 v10 v11 v12 r) (.cons_cons _ ((List.Sublist.refl tl').append (.cons _ (.cons _ (.cons _ (.cons _ (.refl _))))))) ?_
  refine t_kinL ?_
  exact h D' ws e tl' hw
end
theorem T3.get {vs : List Value} {ts : List (Addr × Obj)} {l : List (Int × Int × Int)} (h : T3 vs ts l) {i : Nat} {x : Value} (hx : vs[i]? = some x) : ∃ T a b c ta tb tc, x = .ref T ∧ (T, tupObj [.int a ta, .int b tb, .int c tc]) ∈ ts ∧ l[i]? = some (a, b, c) := by
  induction h with
  | nil => cases hx
  | @snoc vs ts l T a b c ta tb tc hT ih =>
    rcases Nat.lt_trichotomy i vs.length with h | h | h
    · rw [List.getElem?_append_left h] at hx
      obtain ⟨T', a', b', c', ta', tb', tc', e, hm, hl⟩ := ih hx
      exact ⟨T', a', b', c', ta', tb', tc', e, .tail _ hm, by rw [List.getElem?_append_left (by rw [← hT.len]; exact h)]; exact hl⟩
    · subst h
      rw [List.getElem?_append_right (Nat.le_refl _), Nat.sub_self] at hx
      cases hx
      exact ⟨T, a, b, c, ta, tb, tc, rfl, .head _, by rw [hT.len, List.getElem?_append_right (Nat.le_refl _), Nat.sub_self]; rfl⟩
    · rw [List.getElem?_eq_none (by simp; omega)] at hx; cases hx
noncomputable def climbF (step : Nat) (l : List (Int × Int × Int)) : List Int := (l.filter fun p => decide (p.1 = (step : Int) + 1)).map fun p => p.2.1 - p.2.2
noncomputable def climbV (step flip : Nat) (l : List (Int × Int × Int)) : Int := if flip = 1 then -(climbF step l).sum else (climbF step l).sum
noncomputable abbrev Mc6 (va vb vc : Option Value) (c : Addr) : List (Str × Bnd) := [("size", .loc va), ("mine", .loc vb), ("its", .loc vc), ("step", .cel c)]
theorem climbF_len (step : Nat) (l : List (Int × Int × Int)) : (climbF step l).length ≤ l.length := by
  unfold climbF
  rw [List.length_map]
  exact List.length_filter_le _ _
section
variable {C : Cx} {s₀ s : Shared} {W : List Addr} {A : Around} {E : Value → Shared → Prop} {ml : List (Str × Bnd)} {r : List (Addr × Obj)} {L : Addr} {v1 v2 v3 v4 v5 v6 v7 v8 v9 v10 v11 v12 : Option Value}
inductive I53 (L : Addr) (step : Nat) (ts : Tok) (v1 v3 v4 v5 v6 v7 v8 v9 v10 v11 v12 : Option Value) (r : List (Addr × Obj)) (l : List (Int × Int × Int)) (i : Nat) (ys : List Value) (m₁ : List (Str × Bnd)) (n₁ : List (Addr × Obj)) : Prop
  | mk (va vb vc : Option Value) (_ : m₁ = Mc6 va vb vc (L + 2)) (_ : n₁ = K12 L v1 (some (.int step ts)) v3 v4 v5 v6 v7 v8 v9 v10 v11 v12 r) (_ : IntsAre ys (climbF step (l.take i)))
theorem sk5 {run tabs more bare kind step : Nat} {t1 t2 t3 t4 t5 ts : Tok} {k x1 x2 x3 x4 y1 y2 : Value} {D : Addr} {ws : List Value} {e : Nat} {tl : List (Addr × Obj)} {l : List (Int × Int × Int)} {Q : Flow → Shared → Prop} (hA : Ok A 40) (hT : T3 ws tl l) (hl : l.length ≤ 20) (hD : (D, listObj ws e) ∈ r) (htl : ∀ p ∈ tl, p ∈ r)
    (h : ∀ t, ∀ s, St C s₀ W (lE L) [] s (Lc "climb" (.int (climbF step l).sum t) :: Lc "told" (.ref D) :: Lc "due" y1 :: Lc "longest" y2 :: MD run tabs more bare kind t1 t2 t3 t4 t5 (MK L k x1 x2 x3 x4))
      (K12 L v1 (some (.int step ts)) v3 v4 v5 v6 v7 v8 v9 v10 v11 v12 r) → Q .next s) :
    ∀ s, St C s₀ W (lE L) [] s (Lc "told" (.ref D) :: Lc "due" y1 :: Lc "longest" y2 :: MD run tabs more bare kind t1 t2 t3 t4 t5 (MK L k x1 x2 x3 x4)) (K12 L v1 (some (.int step ts)) v3 v4 v5 v6 v7 v8 v9 v10 v11 v12 r) →
      wpAny (MM C.w) A (exec kb5.st (lE L)) Q E s := by
  repeat' tb_start
  refine t_comp [("step", L + 2)] (by with_unfolding_all rfl) (by rfl) (by decide +kernel) ?_
  repeat' tb_start
  refine comp_core (mc := Mc6 none none none (L + 2)) (I53 L step ts v1 v3 v4 v5 v6 v7 v8 v9 v10 v11 v12 r l) hA.hh (iter_list (by news_at)) ?_ (by decide +kernel) (by rfl) ?_ (by exact (by decide +kernel : (["size", "mine", "its", "step"] : List Str).Nodup)) ⟨_, _, _, rfl, rfl, .nil⟩ ?_ ?_
  · rintro i ys m₁ n₁ ⟨_, _, _, rfl, rfl, _⟩ p hp
    obtain rfl := List.mem_singleton.mp hp
    news_at
  · exact fun a => ⟨⟨by rfl, rfl⟩, ⟨by rfl, rfl⟩, ⟨by rfl, rfl⟩, ⟨.inl (by rfl), by rfl⟩, trivial⟩
  · rintro i v ys m₁ n₁ I oI D' e' L' oL c E' hi hv ⟨va, vb, vc, rfl, rfl, hy⟩
    obtain ⟨T, a, b, cc, ta, tb, tc, rfl, hTm, hl'⟩ := hT.get hv
    have hTr := htl _ hTm
    refine t_asgTup (T := T) (hA.le (by decide)) (by news_at) rfl rfl ?_
    repeat' tb_start
    refine t_tests1 ?_
    repeat' tb_start
    have hyl : ys.length ≤ 20 := by
      rw [hy.length]; exact Nat.le_trans (climbF_len _ _) (by simp; omega)
    have htk : l.take (i + 1) = l.take i ++ [(a, b, cc)] := by rw [List.take_add_one, hl']; rfl
    refine t_itb (fun hq => ?_) (fun hq => ?_)
    · have hq : a = (step : Int) + 1 := by simpa using hq
      repeat' tb_start
      rename_i tr
      intro s₂ D₂
      refine ⟨by rw [sizeLine_eq]; omega, _, _, ⟨_, _, _, rfl, rfl, ?_⟩, D₂⟩
      have e2 : climbF step (l.take (i + 1)) = climbF step (l.take i) ++ [b - cc] := by
        rw [htk]; simp [climbF, hq]
      rw [e2]
      exact hy.append (.cons _ _ .nil)
    · have hq : a ≠ (step : Int) + 1 := by simpa using hq
      intro s₂ D₂
      refine ⟨_, _, ⟨_, _, _, rfl, rfl, ?_⟩, D₂⟩
      have e2 : climbF step (l.take (i + 1)) = climbF step (l.take i) := by
        rw [htk]; simp [climbF, hq]
      rw [e2]
      exact hy
  · rintro ys m₁ n₁ D' e' c oC s' ⟨va, vb, vc, rfl, rfl, hy⟩ hC DD
    rw [hT.len, List.take_length] at hy
    refine compPost_val hC DD ?_
    repeat' tb_start
    refine c_sum hA.hh (by news_at) hy ?_
    intro t9
    repeat' tb_start
    exact t_forget (.cons _ (.refl _)) (h t9)
theorem sk6 {flip : Nat} {tf tc : Tok} {c0 : Int} {run tabs more bare kind : Nat} {t1 t2 t3 t4 t5 : Tok} {k x1 x3 x4 y1 y2 y3 : Value} {n : List (Addr × Obj)} {Q : Flow → Shared → Prop} (hA : Ok A 10)
    (h : ∀ t, ∀ s, St C s₀ W (lE L) [] s (Lc "climb" (.int (if flip = 1 then -c0 else c0) t) :: Lc "told" y3 :: Lc "due" y1 :: Lc "longest" y2 :: MD run tabs more bare kind t1 t2 t3 t4 t5 (MK L k x1 (.int flip tf) x3 x4)) n → Q .next s) :
    ∀ s, St C s₀ W (lE L) [] s (Lc "climb" (.int c0 tc) :: Lc "told" y3 :: Lc "due" y1 :: Lc "longest" y2 :: MD run tabs more bare kind t1 t2 t3 t4 t5 (MK L k x1 (.int flip tf) x3 x4)) n →
      wpAny (MM C.w) A (exec kb6.st (lE L)) Q E s := by
  repeat' tb_start
  refine t_itb (fun hq => ?_) (fun hq => ?_)
  · have hq : flip = 1 := by simp at hq; omega
    repeat' tb_start
    rename_i t9
    have := h t9
    rw [if_pos hq] at this
    exact this
  · have hq : flip ≠ 1 := by simp at hq; omega
    repeat' tb_start
    have := h tc
    rw [if_neg hq] at this
    exact this
end
noncomputable def rowT (x : Int) : List Nat := List.replicate x.toNat 40 ++ List.replicate (-x).toNat 41
noncomputable def pieceT : Nat → List Nat
  | 0 => []
  | 1 => [92, 40]
  | 2 => [92, 41]
  | 3 => [92, 92]
  | _ => [92, 34]
noncomputable def hidT : Nat → List Nat
  | 2 => [41]
  | 3 => [34, 40]
  | 4 => [120]
  | 5 => [92, 34, 41]
  | _ => []
inductive HidV : Nat → Value → Prop
  | none : HidV 0 .none
  | txt (k : Nat) (t : Tok) : 1 ≤ k → k < 6 → HidV k (.str (strOf (hidT k)) t)
/-- the names of a turn, to the climb -/
noncomputable abbrev MB (climb told due longest : Value) (m : List (Str × Bnd)) : List (Str × Bnd) := Lc "climb" climb :: Lc "told" told :: Lc "due" due :: Lc "longest" longest :: m
section
variable {C : Cx} {s₀ s : Shared} {W : List Addr} {A : Around} {E : Value → Shared → Prop} {ml : List (Str × Bnd)} {r j1 j2 : List (Addr × Obj)} {L : Addr} {v1 v2 v3 v4 v5 v6 v7 v8 v9 v10 v11 v12 : Option Value}
theorem sk7 {c0 : Int} {tc : Tok} {rl : Addr} {rws : List Value} {er : Nat} {run tabs more bare kind : Nat} {t1 t2 t3 t4 t5 : Tok} {k x1 x2 x3 x4 y1 y2 y3 : Value} {Q : Flow → Shared → Prop} (hA : Ok A 10) (h1 : c0 ≤ 100) (h2 : -100 ≤ c0) (hl : rws.length ≤ 10)
    (h : ∀ t, ∀ s, St C s₀ W (lE L) [] s (MB (.int c0 tc) y3 y1 y2 (MD run tabs more bare kind t1 t2 t3 t4 t5 (MK L k x1 x2 x3 x4))) (K12 L v1 v2 v3 v4 v5 (some (.ref rl)) v7 v8 v9 v10 v11 v12 (j1 ++ (j2 ++ (rl, listObj (rws ++ [.str (strOf (rowT c0)) t]) (er + 1)) :: r))) → Q .next s) :
    ∀ s, St C s₀ W (lE L) [] s (MB (.int c0 tc) y3 y1 y2 (MD run tabs more bare kind t1 t2 t3 t4 t5 (MK L k x1 x2 x3 x4))) (K12 L v1 v2 v3 v4 v5 (some (.ref rl)) v7 v8 v9 v10 v11 v12 (j1 ++ (j2 ++ (rl, listObj rws er) :: r))) →
      wpAny (MM C.w) A (exec kb7.st (lE L)) Q E s := by
  repeat' tb_start
  refine o_mulS (by omega) (by omega) ?_
  intro u1
  repeat' tb_start
  refine o_mulS (by omega) (by omega) ?_
  intro u2
  repeat' tb_start
  refine o_adds (by rw [sizeLine_eq]; simp only [List.length_append, List.length_replicate]; omega) ?_
  intro u3
  repeat' tb_start
  refine c_append (by news_at) (by tb_rel) (by rw [sizeLine_eq]; omega) ?_
  repeat' tb_start
  exact h u3
theorem sk8 {run tabs more bare kind : Nat} {t1 t2 t3 t4 t5 : Tok} {k x1 x2 x3 x4 y1 y2 y3 y4 : Value} {n : List (Addr × Obj)} {Q : Flow → Shared → Prop} (hA : Ok A 10) (h1 : bare < 5) (h2 : kind < 6)
    (h : ∀ t hv, HidV kind hv → ∀ s, St C s₀ W (lE L) [] s (Lc "piece" (.str (strOf (pieceT bare)) t) :: Lc "hidden" hv :: MB y4 y3 y1 y2 (MD run tabs more bare kind t1 t2 t3 t4 t5 (MK L k x1 x2 x3 x4))) n → Q .next s) :
    ∀ s, St C s₀ W (lE L) [] s (MB y4 y3 y1 y2 (MD run tabs more bare kind t1 t2 t3 t4 t5 (MK L k x1 x2 x3 x4))) n → wpAny (MM C.w) A (exec kb8.st (lE L)) Q E s := by
  refine t_asgSw ["piece", "hidden"] ?_
  repeat' tb_start
  rename_i u1 u2 u3 u4 u5 a
  obtain ⟨tt, hv⟩ : ∃ tt, ([.str (strOf []) u1, .str (strOf [92, 40]) u2, .str (strOf [92, 41]) u3, .str (strOf [92, 92]) u4, .str (strOf [92, 34]) u5] : List Value)[(bare : Int).toNat]? = some (.str (strOf (pieceT bare)) tt) := by
    rw [Int.toNat_natCast]
    have : bare = 0 ∨ bare = 1 ∨ bare = 2 ∨ bare = 3 ∨ bare = 4 := in5 (by first | assumption | omega)
    rcases this with rfl | rfl | rfl | rfl | rfl <;> exact ⟨_, rfl⟩
  refine i_list (by news_at) (by omega) hv (by omega) ?_
  repeat' tb_start
  rename_i w1 w2 w3 w4 w5 b
  obtain ⟨hv2, hh, hv3⟩ : ∃ hv2, HidV kind hv2 ∧ ([.none, .str (strOf []) w1, .str (strOf [41]) w2, .str (strOf [34, 40]) w3, .str (strOf [120]) w4, .str (strOf [92, 34, 41]) w5] : List Value)[(kind : Int).toNat]? = some hv2 := by
    rw [Int.toNat_natCast]
    have : kind = 0 ∨ kind = 1 ∨ kind = 2 ∨ kind = 3 ∨ kind = 4 ∨ kind = 5 := in6 (by first | assumption | omega)
    rcases this with rfl | rfl | rfl | rfl | rfl | rfl
    · exact ⟨_, .none, rfl⟩
    · exact ⟨_, .txt 1 w1 (by decide) (by decide), rfl⟩
    · exact ⟨_, .txt 2 w2 (by decide) (by decide), rfl⟩
    · exact ⟨_, .txt 3 w3 (by decide) (by decide), rfl⟩
    · exact ⟨_, .txt 4 w4 (by decide) (by decide), rfl⟩
    · exact ⟨_, .txt 5 w5 (by decide) (by decide), rfl⟩
  refine i_list (by news_at) (by omega) hv3 (by omega) ?_
  repeat' tb_start
  rename_i TT
  refine o_unpack hA.hh (by news_at) rfl ?_
  refine t_ordB ?_
  repeat' tb_start
  refine t_ordB ?_
  repeat' tb_start
  refine t_ordNil ?_
  exact t_forget (.cons _ (.cons _ (.cons _ (.refl _)))) (h tt hv2 hh)
end
noncomputable def hidP (k : Nat) : List Nat := if k < 2 then [107, 45] else fpF [107, 45] (hidT k)
/-- what lies under a letter -/
noncomputable def valT (x : Int) (bare kind : Nat) : List Nat := joinL [59, 32] [pieceT bare ++ rowT x, hidP kind]
theorem hid_small : ∀ k : Fin 6, (∀ c ∈ hidT k.val, 32 ≤ c ∧ c < 127) ∧ (hidT k.val).length ≤ 100 ∧ (repB (hidT k.val)).length ≤ 1000 ∧ (repQ (repB (hidT k.val))).length ≤ 10000 ∧ (∀ c ∈ hidP k.val, 32 ≤ c ∧ c < 127) ∧ (hidP k.val).length ≤ 30 ∧ (2 ≤ k.val → hidT k.val ≠ []) := by decide +kernel
theorem HidV.hv {k : Nat} {v : Value} (h : HidV k v) (hk : k < 6) : HV v (hidP k) := by
  cases h with
  | none => exact .none
  | txt k t h1 h2 =>
    obtain ⟨a1, a2, a3, a4, a5, a6, a7⟩ := hid_small ⟨k, h2⟩
    dsimp only at *
    by_cases h : k < 2
    · obtain rfl : k = 1 := by omega
      exact .empty t
    · unfold hidP
      rw [if_neg h]
      exact .text _ _ (a7 (by omega)) a1 a2 a3 a4
theorem row_small {x : Int} (h1 : x ≤ 10) (h2 : -10 ≤ x) : (rowT x).length ≤ 20 ∧ ∀ c ∈ rowT x, 32 ≤ c ∧ c < 127 := by
  refine ⟨by simp [rowT]; omega, fun c hc => ?_⟩
  rcases List.mem_append.mp hc with hc | hc
  · rw [List.eq_of_mem_replicate hc]; decide
  · rw [List.eq_of_mem_replicate hc]; decide
theorem piece_small : ∀ k : Fin 5, (∀ c ∈ pieceT k.val, 32 ≤ c ∧ c < 127) ∧ (pieceT k.val).length ≤ 2 := by decide +kernel
theorem val_small {x : Int} {bare kind : Nat} (h1 : x ≤ 10) (h2 : -10 ≤ x) (h3 : bare < 5) (h4 : kind < 6) : Plain (valT x bare kind) ∧ (valT x bare kind).length ≤ 60 := by
  obtain ⟨a1, a2, a3, a4, a5, a6, a7⟩ := hid_small ⟨kind, h4⟩
  obtain ⟨b1, b2⟩ := row_small h1 h2
  obtain ⟨c1, c2⟩ := piece_small ⟨bare, h3⟩
  dsimp only at *
  have e : valT x bare kind = pieceT bare ++ rowT x ++ [59, 32] ++ hidP kind := rfl
  rw [e]
  refine ⟨fun c hc => ?_, by simp only [List.length_append, List.length_cons, List.length_nil]; omega⟩
  rcases List.mem_append.mp hc with hc | hc
  · rcases List.mem_append.mp hc with hc | hc
    · rcases List.mem_append.mp hc with hc | hc
      · exact c1 c hc
      · exact b2 c hc
    · simp at hc; omega
  · exact a5 c hc
/-- the table's chunk, out of the ledger and in -/
theorem hd_out {α : Type} (k j1 j2 h r : List α) (x : α) : (h ++ (k ++ (j1 ++ (j2 ++ x :: r)))).Perm (k ++ (j1 ++ (j2 ++ x :: (h ++ r)))) := by
  refine (List.perm_append_comm_assoc h k _).trans (List.Perm.append_left k ?_)
  refine (List.perm_append_comm_assoc h j1 _).trans (List.Perm.append_left j1 ?_)
  refine (List.perm_append_comm_assoc h j2 _).trans (List.Perm.append_left j2 ?_)
  exact List.perm_middle
section
variable {C : Cx} {s₀ s : Shared} {W : List Addr} {A : Around} {E : Value → Shared → Prop} {ml : List (Str × Bnd)} {r j1 j2 : List (Addr × Obj)} {L : Addr} {v1 v2 v3 v4 v5 v6 v7 v8 v9 v10 v11 v12 : Option Value}
theorem sk9 {x : Int} {run tabs more bare kind k : Nat} {t1 t2 t3 t4 t5 tk tp tr : Tok} {x1 x2 x3 x4 y1 y2 y3 y4 hv : Value} {rl H dx hl : Addr} {o : Obj} {vs rws : List Value} {e er : Nat} {ts : List (Addr × Obj)} {l : List (List Nat × List Nat)} {Q : Flow → Shared → Prop} (hA : Ok A 60)
    (P : HdP o hl vs ts l) (hll : l.length < 20) (h1 : bare < 5) (h2 : kind < 6) (hk : k < 3) (hx1 : x ≤ 10) (hx2 : -10 ≤ x) (hh : HidV kind hv) (hrw : rws[k]? = some (.str (strOf (rowT x)) tr))
    (h : ∀ vs' e' ts', HdP o hl vs' ts' (l ++ [([97 + k], valT x bare kind)]) → ∀ s, St C s₀ W (lE L) [] s (Lc "piece" (.str (strOf (pieceT bare)) tp) :: Lc "hidden" hv :: MB y4 y3 y1 y2 (MD run tabs more bare kind t1 t2 t3 t4 t5 (MK L (.int k tk) x1 x2 x3 x4)))
      (K12 L v1 v2 v3 v4 v5 (some (.ref rl)) v7 v8 v9 v10 v11 (some (.ref H)) (j1 ++ (j2 ++ (rl, listObj rws er) :: (hdL H dx o hl vs' e' ts' ++ r)))) → Q .next s) :
    ∀ s, St C s₀ W (lE L) [] s (Lc "piece" (.str (strOf (pieceT bare)) tp) :: Lc "hidden" hv :: MB y4 y3 y1 y2 (MD run tabs more bare kind t1 t2 t3 t4 t5 (MK L (.int k tk) x1 x2 x3 x4)))
      (K12 L v1 v2 v3 v4 v5 (some (.ref rl)) v7 v8 v9 v10 v11 (some (.ref H)) (j1 ++ (j2 ++ (rl, listObj rws er) :: (hdL H dx o hl vs e ts ++ r)))) → wpAny (MM C.w) A (exec kb9.st (lE L)) Q E s := by
  obtain ⟨vp, vl⟩ := val_small hx1 hx2 h1 h2
  obtain ⟨b1, b2⟩ := row_small hx1 hx2
  obtain ⟨c1, c2⟩ := piece_small ⟨bare, h1⟩
  obtain ⟨a1, a2, a3, a4, a5, a6, a7⟩ := hid_small ⟨kind, h2⟩
  dsimp only at c1 c2 a1 a2 a3 a4 a5 a6 a7
  refine t_perm (n' := hdL H dx o hl vs e ts ++ K12 L v1 v2 v3 v4 v5 (some (.ref rl)) v7 v8 v9 v10 v11 (some (.ref H)) (j1 ++ (j2 ++ (rl, listObj rws er) :: r))) (hd_out [(L + 1, cellObj v1), (L + 2, cellObj v2), (L + 3, cellObj v3), (L + 4, cellObj v4), (L + 5, cellObj v5), (L + 6, cellObj (some (.ref rl))), (L + 7, cellObj v7), (L + 8, cellObj v8), (L + 9, cellObj v9), (L + 10, cellObj v10), (L + 11, cellObj v11), (L + 12, cellObj (some (.ref H)))] j1 j2 (hdL H dx o hl vs e ts) r (rl, listObj rws er)) ?_
  have hH : ∀ {q : List (Addr × Obj)}, (H, instObj 309 dx) ∈ hdL H dx o hl vs e ts ++ q := fun {q} => .head _
  have hdx : ∀ {q : List (Addr × Obj)}, (dx, o) ∈ hdL H dx o hl vs e ts ++ q := fun {q} => .tail _ (.head _)
  repeat' tb_start
  refine P.meth (f := 306) hH hdx (by kernel_rfl) (by kernel_rfl) (by kernel_rfl) ?_
  repeat' tb_start
  refine i_str (by omega) (by omega) (c := 97 + k) ?_ ?_
  · rw [Int.toNat_natCast]
    have : k = 0 ∨ k = 1 ∨ k = 2 := in3 (by first | assumption | omega)
    rcases this with rfl | rfl | rfl <;> rfl
  intro u1
  repeat' tb_start
  refine i_list (by news_at) (by omega) (by rw [Int.toNat_natCast]; exact hrw) (by omega) ?_
  repeat' tb_start
  refine o_adds (by rw [sizeLine_eq]; simp only [List.length_append]; omega) ?_
  intro u2
  repeat' tb_start
  refine s_add (x := [97 + k]) (y := pieceT bare ++ rowT x) (kw := [(Str.ofString "k_", hv)]) (ps := [hidP kind]) (hA.le (by decide)) P (good_l1 k hk) ?_ (by simp only [List.length_append]; omega) (by omega) (.one _ _ (hh.hv h2)) ?_ vp (Nat.le_trans vl (by decide)) ?_
  · intro c hc
    rcases List.mem_append.mp hc with hc | hc
    · exact c1 c hc
    · exact b2 c hc
  · intro p hp
    obtain rfl := List.mem_singleton.mp hp
    omega
  intro vs' e' ts' P'
  repeat' tb_start
  refine t_perm (n' := K12 L v1 v2 v3 v4 v5 (some (.ref rl)) v7 v8 v9 v10 v11 (some (.ref H)) (j1 ++ (j2 ++ (rl, listObj rws er) :: (hdL H dx o hl vs' e' ts' ++ r))))
    (hd_out [(L + 1, cellObj v1), (L + 2, cellObj v2), (L + 3, cellObj v3), (L + 4, cellObj v4), (L + 5, cellObj v5), (L + 6, cellObj (some (.ref rl))), (L + 7, cellObj v7), (L + 8, cellObj v8), (L + 9, cellObj v9), (L + 10, cellObj v10), (L + 11, cellObj v11), (L + 12, cellObj (some (.ref H)))] j1 j2 (hdL H dx o hl vs' e' ts') r (rl, listObj rws er)).symm ?_
  exact h vs' e' ts' P'
end
theorem lw_up : ∀ k : Fin 3, lw [65 + k.val] = [97 + k.val] := by decide +kernel
theorem good_u1 (k : Nat) (h : k < 3) : Good [65 + k] ∧ lw [65 + k] = [97 + k] := by
  have e : lw [65 + k] = [97 + k] := lw_up ⟨k, h⟩
  refine ⟨⟨?_, ?_, by simp, by rw [e]; simp⟩, e⟩
  · intro c hc; rw [List.mem_singleton] at hc; omega
  · rw [e]; intro c hc; rw [List.mem_singleton] at hc; omega
noncomputable def sgnL (l : List (Int × List Nat)) : List (List Nat) := l.filterMap fun p => if p.2 = [40] ∨ p.2 = [41] then some p.2 else none
noncomputable def sgnF (x : List Nat) : List (List Nat) := sgnL (esc 0 false x)
noncomputable abbrev Mc11 (va vb : Option Value) : List (Str × Bnd) := [("place", .loc va), ("unit", .loc vb)]
theorem sgnL_len (l : List (Int × List Nat)) : (sgnL l).length ≤ l.length := List.length_filterMap_le _ _
theorem eqv_str (a b : Str) : PyData.eqv (.str a) (.str b) = (a == b) := by simp [PyData.eqv]
theorem esc_mem : ∀ (cs : List Nat) (i : Nat) (e : Bool), ∀ q ∈ esc i e cs, ∀ c ∈ q.2, c = 92 ∨ c ∈ cs
  | [], i, e, q, hq, c, hc => by
    cases e
    · simp [esc] at hq
    · simp [esc] at hq
      rw [hq] at hc; simp at hc; exact .inl hc
  | d :: cs, i, true, q, hq, c, hc => by
    simp only [esc, List.mem_cons] at hq
    rcases hq with rfl | hq
    · simp at hc
      rcases hc with rfl | rfl
      · exact .inl rfl
      · exact .inr (.head _)
    · exact (esc_mem cs (i + 1) false q hq c hc).imp_right (.tail _)
  | d :: cs, i, false, q, hq, c, hc => by
    simp only [esc] at hq
    split at hq
    · exact (esc_mem cs (i + 1) true q hq c hc).imp_right (.tail _)
    · rcases List.mem_cons.mp hq with rfl | hq
      · simp at hc; exact .inr (by rw [hc]; exact .head _)
      · exact (esc_mem cs (i + 1) false q hq c hc).imp_right (.tail _)
section
variable {C : Cx} {s₀ s : Shared} {W : List Addr} {A : Around} {E : Value → Shared → Prop} {n : List (Addr × Obj)} {L : Addr}
theorem sk10 {run tabs more bare kind k : Nat} {t1 t2 t3 t4 t5 tk : Tok} {x1 x2 x3 x4 y1 y2 y3 y4 y5 y6 : Value} {H dx hl : Addr} {o : Obj} {vs : List Value} {e : Nat} {ts : List (Addr × Obj)} {l : List (List Nat × List Nat)} {v : List Nat} {Q : Flow → Shared → Prop} (hA : Ok A 80)
    (P : HdP o hl vs ts l) (hin : ∀ p ∈ hdL H dx o hl vs e ts, p ∈ n) (hnd : ((hdL H dx o hl vs e ts).map (·.1)).Nodup) (hc : (L + 12, cellObj (some (.ref H))) ∈ n) (hk : k < 3) (hg : getF l [97 + k] = some v) (hv : ∀ c ∈ v, c < 128) (hvl : v.length ≤ 900)
    (h : ∀ t, ∀ s, St C s₀ W (lE L) [] s (Lc "left" (.str (strOf (stripF v)) t) :: Lc "piece" y6 :: Lc "hidden" y5 :: MB y4 y3 y1 y2 (MD run tabs more bare kind t1 t2 t3 t4 t5 (MK L (.int k tk) x1 x2 x3 x4))) n → Q .next s) :
    ∀ s, St C s₀ W (lE L) [] s (Lc "piece" y6 :: Lc "hidden" y5 :: MB y4 y3 y1 y2 (MD run tabs more bare kind t1 t2 t3 t4 t5 (MK L (.int k tk) x1 x2 x3 x4))) n → wpAny (MM C.w) A (exec kb10.st (lE L)) Q E s := by
  obtain ⟨g1, g2⟩ := good_u1 k hk
  have hH : (H, instObj 309 dx) ∈ n := hin _ (.head _)
  have hdx : (dx, o) ∈ n := hin _ (.tail _ (.head _))
  repeat' tb_start
  refine P.meth (f := 256) hH hdx (by kernel_rfl) (by kernel_rfl) (by kernel_rfl) ?_
  repeat' tb_start
  refine i_str (by omega) (by omega) (c := 65 + k) ?_ ?_
  · rw [Int.toNat_natCast]
    have : k = 0 ∨ k = 1 ∨ k = 2 := in3 (by first | assumption | omega)
    rcases this with rfl | rfl | rfl <;> rfl
  intro u1
  repeat' tb_start
  refine s_get (hA.le (by decide)) P (e := e) (dx := dx) hin hnd g1 (.inr ⟨rfl, rfl⟩) (fun v' tv hg' => ?_) (fun hg' => ?_)
  · rw [g2, hg] at hg'
    cases hg'
    repeat' tb_start
    refine s_strip (hA.le (by decide)) hv hvl ?_
    intro t9
    repeat' tb_start
    exact h t9
  · rw [g2, hg] at hg'
    cases hg'
theorem sk11 {run tabs more bare kind : Nat} {t1 t2 t3 t4 t5 tx : Tok} {k x1 x2 x3 x4 y1 y2 y3 y4 y5 y6 : Value} {x : List Nat} {Q : Flow → Shared → Prop} (hA : Ok A 60) (hx : ∀ c ∈ x, c < 128) (hl : x.length ≤ 900)
    (h : ∀ D ws e, SL ws (sgnF x) → ∀ s, St C s₀ W (lE L) [] s (Lc "signs" (.ref D) :: Lc "left" (.str (strOf x) tx) :: Lc "piece" y6 :: Lc "hidden" y5 :: MB y4 y3 y1 y2 (MD run tabs more bare kind t1 t2 t3 t4 t5 (MK L k x1 x2 x3 x4))) ((D, listObj ws e) :: n) → Q .next s) :
    ∀ s, St C s₀ W (lE L) [] s (Lc "left" (.str (strOf x) tx) :: Lc "piece" y6 :: Lc "hidden" y5 :: MB y4 y3 y1 y2 (MD run tabs more bare kind t1 t2 t3 t4 t5 (MK L k x1 x2 x3 x4))) n → wpAny (MM C.w) A (exec kb11.st (lE L)) Q E s := by
  refine t_compA [] (by with_unfolding_all rfl) (by rfl) (by decide +kernel) (by with_unfolding_all rfl) ?_
  repeat' tb_start
  refine comp_gen (mc := Mc11 none none) (fun i ys m₁ n₁ => ∃ va vb, m₁ = Mc11 va vb ∧ n₁ = n ∧ SL ys (sgnL ((esc 0 false x).take i))) (hA.le (by decide)) hx (by decide +kernel) (by rfl) ?_ (by exact (by decide +kernel : (["place", "unit"] : List Str).Nodup)) ⟨_, _, rfl, rfl, .nil⟩ ?_ ?_
  · exact fun a => ⟨⟨by rfl, rfl⟩, ⟨by rfl, rfl⟩, trivial⟩
  · rintro i p l ys m₁ n₁ T tT u L' en it o1 o2 o3 a ga g gs D e L2 oL c E' hi ⟨va, vb, rfl, rfl, hy⟩
    have htk : (esc 0 false x).take (i + 1) = (esc 0 false x).take i ++ [(p, l)] := by rw [List.take_add_one, hi]; rfl
    have hyl : ys.length ≤ sizeLine := by
      rw [hy.length, sizeLine_eq]
      have := sgnL_len ((esc 0 false x).take i)
      have h2 := esc_len x 0 false
      simp at this h2
      omega
    repeat' tb_start
    refine t_tests1 ?_
    repeat' tb_start
    rename_i w1 w2 TT
    refine o_inT (ds := [.str (strOf [40]), .str (strOf [41])]) (d := .str (strOf l)) (hA.le (by decide)) (by news_at) (fun h => readsAll_cons_val (.str _ _) (readsAll_cons_val (.str _ _) .nil)) (fun h => .str _ _) (by decide +kernel) ?_ rfl ?_
    · show PyData.strOk (strOf l) = true
      unfold PyData.strOk
      simp only [strOf, List.all_toArray, List.all_eq_true, decide_eq_true_eq]
      intro c hc
      rcases esc_mem x 0 false (p, l) (List.mem_of_getElem? hi) c hc with h | h
      · omega
      · have := hx c h; omega
    repeat' tb_start
    refine t_itb (fun hq => ?_) (fun hq => ?_)
    · have hq : l = [40] ∨ l = [41] := by
        simp only [List.any_cons, List.any_nil, Bool.or_false, eqv_str, Bool.or_eq_true, beq_iff_eq, strOf_inj] at hq
        rcases hq with h | h
        · exact .inl h.symm
        · exact .inr h.symm
      repeat' tb_start
      intro s₂ D₂
      refine ⟨hyl, Mc11 (some (.int p tT)) (some (.str (strOf l) u)), n₁, ⟨_, _, rfl, rfl, ?_⟩, D₂.sub (.cons _ (.cons _ (.refl _)))⟩
      rw [htk]
      have e2 : sgnL ((esc 0 false x).take i ++ [(p, l)]) = sgnL ((esc 0 false x).take i) ++ [l] := by simp [sgnL, List.filterMap_append, hq]
      rw [e2]
      exact hy.snoc _ _
    · have hq : ¬ (l = [40] ∨ l = [41]) := by
        rintro (rfl | rfl) <;> simp [eqv_str] at hq
      intro s₂ D₂
      refine ⟨Mc11 (some (.int p tT)) (some (.str (strOf l) u)), n₁, ⟨_, _, rfl, rfl, ?_⟩, D₂.sub (.cons _ (.cons _ (.refl _)))⟩
      rw [htk]
      have e2 : sgnL ((esc 0 false x).take i ++ [(p, l)]) = sgnL ((esc 0 false x).take i) := by simp [sgnL, List.filterMap_append, hq]
      rw [e2]
      exact hy
  · rintro ys m₁ n₁ D' e' c oC s' ⟨va, vb, rfl, rfl, hy⟩ hC DD
    rw [List.take_length] at hy
    refine t_asgName (t_stn (by with_unfolding_all rfl) (by with_unfolding_all rfl) (fun s'' D'' => ?_)) s' DD
    obtain ⟨mC, hmC⟩ := hC s'' (D''.nw _ (.head _)).1
    exact ⟨mC, hmC, fun h' hs => h D' ys e' hy _ (D''.drop s''.drawn s''.toks hs.extBut)⟩
end
inductive R3 (ts : List (Addr × Obj)) : List Value → List (Int × Int × Int) → Prop
  | nil : R3 ts [] []
  | snoc {vs l} (T : Addr) (i j k : Int) (ti tj tk : Tok) : (T, tupObj [.int i ti, .int j tj, .int k tk]) ∈ ts → R3 ts vs l → R3 ts (vs ++ [.ref T]) (l ++ [(i, j, k)])
theorem R3.mono {ts ts' : List (Addr × Obj)} {vs l} (h : R3 ts vs l) (hs : ∀ p ∈ ts, p ∈ ts') : R3 ts' vs l := by
  induction h with
  | nil => exact .nil
  | snoc T i j k ti tj tk hm _ ih => exact .snoc T i j k ti tj tk (hs _ hm) ih
theorem T3.r3 {vs ts l} (h : T3 vs ts l) : R3 ts vs l := by
  induction h with
  | nil => exact .nil
  | snoc T i j k ti tj tk _ ih => exact .snoc T i j k ti tj tk (.head _) (ih.mono fun p hp => .tail _ hp)
noncomputable def datT (p : Int × Int × Int) : Dat := .tuple [.int p.1, .int p.2.1, .int p.2.2]
theorem datAll_snoc {n : List (Addr × Obj)} {v : Value} {d : Dat} (hv : DatIn n v d) : ∀ {vs : List Value} {ds : List Dat}, DatAll n vs ds → DatAll n (vs ++ [v]) (ds ++ [d])
  | _, _, .nil => .cons hv .nil
  | _, _, .cons h r => .cons h (datAll_snoc hv r)
theorem R3.dat {ts n : List (Addr × Obj)} {vs l} (h : R3 ts vs l) (hs : ∀ p ∈ ts, p ∈ n) : DatAll n vs (l.map datT) := by
  induction h with
  | nil => exact .nil
  | snoc T i j k ti tj tk hm _ ih =>
    rw [List.map_append]
    exact datAll_snoc (.tuple (vs := [.int i ti, .int j tj, .int k tk]) (n := 0) (hs _ hm) (.cons (.int _ _) (.cons (.int _ _) (.cons (.int _ _) .nil)))) ih
theorem R3.len {ts vs l} (h : R3 ts vs l) : vs.length = l.length := by
  induction h with
  | nil => rfl
  | snoc _ _ _ _ _ _ _ _ _ ih => simp [ih]
theorem datT_ok (p : Int × Int × Int) : kqdOk 8 (datT p) = true := rfl
theorem datT_inj {a b : Int × Int × Int} (h : datT a = datT b) : a = b := by
  obtain ⟨a1, a2, a3⟩ := a
  obtain ⟨b1, b2, b3⟩ := b
  simp [datT] at h
  simp [h]
noncomputable abbrev Mc12 (va : Option Value) : List (Str × Bnd) := [("row", .loc va)]
noncomputable abbrev MS (signs left piece hidden : Value) (m : List (Str × Bnd)) : List (Str × Bnd) := Lc "signs" signs :: Lc "left" left :: Lc "piece" piece :: Lc "hidden" hidden :: m
section
variable {C : Cx} {s₀ s : Shared} {W : List Addr} {A : Around} {E : Value → Shared → Prop} {n : List (Addr × Obj)} {L : Addr}
theorem sk12 {run tabs more bare kind k : Nat} {t1 t2 t3 t4 t5 tk : Tok} {x1 x2 x3 x4 y1 y2 y4 y5 y6 y7 : Value} {Dt Dd Ds rl : Addr} {tw dw sw rws : List Value} {et ed es er : Nat} {tt td : List (Addr × Obj)} {lt ld : List (Int × Int × Int)} {sg : List (List Nat)} {x : Int} {tr : Tok} {Q : Flow → Shared → Prop} (hA : Ok A 60)
    (hT : T3 tw tt lt) (hT' : ∀ p ∈ tt, p ∈ n) (hDt : (Dt, listObj tw et) ∈ n) (hD : T3 dw td ld) (hD' : ∀ p ∈ td, p ∈ n) (hDd : (Dd, listObj dw ed) ∈ n) (hS : SL sw sg) (hDs : (Ds, listObj sw es) ∈ n) (hrl : (rl, listObj rws er) ∈ n) (hc : (L + 6, cellObj (some (.ref rl))) ∈ n)
    (hrw : rws[k]? = some (.str (strOf (rowT x)) tr)) (hk : k < 3) (hld : ld.length ≤ 20) (hsw : (sg.map (·.length)).sum + sg.length ≤ 100000)
    (p1 : lt = ld.filter (fun p => decide (p.2.1 ≠ p.2.2))) (p2 : sg.flatten = rowT x)
    (h : ∀ s, St C s₀ W (lE L) [] s (MS (.ref Ds) y7 y6 y5 (MB y4 (.ref Dt) (.ref Dd) y2 (MD run tabs more bare kind t1 t2 t3 t4 t5 (MK L (.int k tk) x1 x2 x3 x4)))) n → Q .next s) :
    ∀ s, St C s₀ W (lE L) [] s (MS (.ref Ds) y7 y6 y5 (MB y4 (.ref Dt) (.ref Dd) y2 (MD run tabs more bare kind t1 t2 t3 t4 t5 (MK L (.int k tk) x1 x2 x3 x4)))) n → wpAny (MM C.w) A (exec kb12.st (lE L)) Q E s := by
  repeat' tb_start
  refine t_comp [] (by with_unfolding_all rfl) (by rfl) (by decide +kernel) ?_
  repeat' tb_start
  refine comp_core (mc := Mc12 none) (fun i ys m₁ n₁ => ∃ va, m₁ = Mc12 va ∧ n₁ = n ∧ R3 td ys ((ld.take i).filter (fun p => decide (p.2.1 ≠ p.2.2)))) hA.hh (iter_list hDd) ?_ (by decide +kernel) (by rfl) ?_ (by exact (by decide +kernel : (["row"] : List Str).Nodup)) ⟨_, rfl, rfl, .nil⟩ ?_ ?_
  · rintro i ys m₁ n₁ ⟨_, rfl, hn, _⟩ p hp
    obtain rfl := List.mem_singleton.mp hp
    rw [hn]; exact hDd
  · exact fun a => ⟨⟨by rfl, rfl⟩, trivial⟩
  · rintro i v ys m₁ n₁ I oI D' e' L' oL c E' hi hv ⟨va, rfl, hn, hy⟩
    subst hn
    obtain ⟨T, a, b, cc, ta, tb, tc, rfl, hTm, hl'⟩ := hD.get hv
    have hTr := hD' _ hTm
    have htk : ld.take (i + 1) = ld.take i ++ [(a, b, cc)] := by rw [List.take_add_one, hl']; rfl
    have hyl : ys.length ≤ sizeLine := by
      rw [hy.len, sizeLine_eq]
      have h1 := List.length_filter_le (fun p : Int × Int × Int => decide (p.2.1 ≠ p.2.2)) (ld.take i)
      simp at h1
      simp
      omega
    repeat' tb_start
    refine t_tests1 ?_
    repeat' tb_start
    refine i_tup (l := T) (by news_at) (by decide) (v := .int b tb) rfl (by decide) ?_
    repeat' tb_start
    refine i_tup (l := T) (by news_at) (by decide) (v := .int cc tc) rfl (by decide) ?_
    repeat' tb_start
    refine t_itb (fun hq => ?_) (fun hq => ?_)
    · have hq : b ≠ cc := by simpa using hq
      repeat' tb_start
      intro s₂ D₂
      refine ⟨hyl, Mc12 (some (.ref T)), n₁, ⟨_, rfl, rfl, ?_⟩, D₂⟩
      rw [htk, List.filter_append]
      simp only [List.filter_cons, hq, ne_eq, not_false_eq_true, decide_true, if_true, List.filter_nil]
      exact hy.snoc T a b cc ta tb tc hTm
    · have hq : b = cc := by simpa using hq
      intro s₂ D₂
      refine ⟨Mc12 (some (.ref T)), n₁, ⟨_, rfl, rfl, ?_⟩, D₂⟩
      rw [htk, List.filter_append]
      simp only [List.filter_cons, hq, ne_eq, not_true_eq_false, decide_false, Bool.false_eq_true, if_false, List.filter_nil, List.append_nil]
      exact hy
  · rintro ys m₁ n₁ D' e' c oC s' ⟨va, rfl, hn, hy⟩ hC DD
    subst hn
    rw [hD.len, List.take_length, ← p1] at hy
    refine compPost_val hC DD ?_
    refine o_neL (hA.le (by decide)) (.tail _ hDt) (.head _) (hT.r3.dat fun p hp => .tail _ (hT' p hp)) (hy.dat fun p hp => .tail _ (hD' p hp)) ?_ ?_ ?_
    · intro d hd; obtain ⟨p, _, rfl⟩ := List.mem_map.mp hd; exact datT_ok p
    · intro d hd; obtain ⟨p, _, rfl⟩ := List.mem_map.mp hd; exact datT_ok p
    intro c hcc
    obtain rfl := hcc.mpr rfl
    repeat' tb_start
    refine c_join (a := []) (by news_at) hS (by decide) (by omega) ?_
    intro t9
    repeat' tb_start
    refine i_list (by news_at) (by omega) (by rw [Int.toNat_natCast]; exact hrw) (by omega) ?_
    rw [joinL_nil, p2]
    repeat' tb_start
    refine t_itb (fun hq => absurd hq (by simp)) (fun hq => ?_)
    repeat' tb_start
    exact t_forget (.cons _ (.refl _)) h
end
noncomputable def eqsT (kind : Nat) : List Nat := if kind < 2 then [] else [61]
/-- what is left of a letter's text -/
noncomputable def leftT (x : Int) (bare kind : Nat) : List Nat := pieceT bare ++ rowT x ++ [59, 32, 107, 45] ++ eqsT kind
section
variable {C : Cx} {s₀ s : Shared} {W : List Addr} {A : Around} {E : Value → Shared → Prop} {n : List (Addr × Obj)} {L : Addr}
theorem hid_in {kind : Nat} {hv : Value} (hh : HidV kind hv) (h2 : kind < 6) {T : Addr} {u : Tok} {Q : Value → Shared → Prop} {env : Env} {m : List (Str × Bnd)} (hA : Ok A 7) (hT : (T, tupObj [.none, .str (strOf []) u]) ∈ n) (h : ∀ s, St C s₀ W env [] s m n → Q (.bool (decide (kind < 2))) s) :
    ∀ s, St C s₀ W env [] s m n → wpAny (MM C.w) A (compareOp .In hv (.ref T)) Q E s := by
  cases hh with
  | none => exact o_inT (ds := [.none, .str (strOf [])]) (d := .none) hA hT (fun h => readsAll_cons_val .none (readsAll_cons_val (.str _ _) .nil)) (fun h => .none) (by decide +kernel) (by decide) rfl h
  | txt k t h1 h2 =>
    have hok : PyData.strOk (strOf (hidT kind)) = true := by
      unfold PyData.strOk
      simp only [strOf, List.all_toArray, List.all_eq_true, decide_eq_true_eq]
      intro c hc
      have := (hid_small ⟨kind, h2⟩).1 c hc
      omega
    refine o_inT (ds := [.none, .str (strOf [])]) (d := .str (strOf (hidT kind))) hA hT (fun h => readsAll_cons_val .none (readsAll_cons_val (.str _ _) .nil)) (fun h => .str _ _) (by decide +kernel) hok rfl ?_
    have e : (([PyData.none, PyData.str (strOf [])]).any fun y => PyData.eqv y (.str (strOf (hidT kind)))) = decide (kind < 2) := by
      have : kind = 1 ∨ kind = 2 ∨ kind = 3 ∨ kind = 4 ∨ kind = 5 := (in6 h2).resolve_left (by omega)
      rcases this with rfl | rfl | rfl | rfl | rfl <;> decide +kernel
    rw [e]; exact h
theorem sk13 {run tabs more bare kind k : Nat} {t1 t2 t3 t4 t5 tk tp tl : Tok} {x1 x2 x3 x4 y1 y2 y3 y4 y7 hv : Value} {rl : Addr} {rws : List Value} {er : Nat} {x : Int} {tr : Tok} {Q : Flow → Shared → Prop} (hA : Ok A 60)
    (hrl : (rl, listObj rws er) ∈ n) (hc : (L + 6, cellObj (some (.ref rl))) ∈ n)
    (hrw : rws[k]? = some (.str (strOf (rowT x)) tr)) (hk : k < 3) (hx1 : x ≤ 10) (hx2 : -10 ≤ x) (h1 : bare < 5) (h2 : kind < 6) (hh : HidV kind hv)
    (h : ∀ s, St C s₀ W (lE L) [] s (MS y7 (.str (strOf (leftT x bare kind)) tl) (.str (strOf (pieceT bare)) tp) hv (MB y4 y3 y1 y2 (MD run tabs more bare kind t1 t2 t3 t4 t5 (MK L (.int k tk) x1 x2 x3 x4)))) n → Q .next s) :
    ∀ s, St C s₀ W (lE L) [] s (MS y7 (.str (strOf (leftT x bare kind)) tl) (.str (strOf (pieceT bare)) tp) hv (MB y4 y3 y1 y2 (MD run tabs more bare kind t1 t2 t3 t4 t5 (MK L (.int k tk) x1 x2 x3 x4)))) n → wpAny (MM C.w) A (exec kb13.st (lE L)) Q E s := by
  obtain ⟨b1, b2⟩ := row_small hx1 hx2
  obtain ⟨c1, c2⟩ := piece_small ⟨bare, h1⟩
  dsimp only at c1 c2
  repeat' tb_start
  refine i_list (by news_at) (by omega) (by rw [Int.toNat_natCast]; exact hrw) (by omega) ?_
  repeat' tb_start
  refine o_adds (by rw [sizeLine_eq]; simp only [List.length_append]; omega) ?_
  intro u1
  repeat' tb_start
  refine o_adds (by rw [sizeLine_eq]; simp only [List.length_append, List.length_cons, List.length_nil]; omega) ?_
  intro u2
  repeat' tb_start
  refine hid_in hh h2 (hA.le (by decide)) (by news_at) ?_
  repeat' tb_start
  refine t_itb (fun hq => ?_) (fun hq => ?_)
  · have hq := of_decide_eq_true hq
    repeat' tb_start
    refine o_adds (by rw [sizeLine_eq]; simp only [List.length_append, List.length_cons, List.length_nil]; omega) ?_
    intro u3
    have e : leftT x bare kind = pieceT bare ++ rowT x ++ [59, 32, 107, 45] ++ [] := by unfold leftT eqsT; rw [if_pos hq]
    rw [← e]
    repeat' tb_start
    refine t_itb (fun hq => absurd hq (by simp)) (fun hq => ?_)
    repeat' tb_start
    exact t_forget (.cons _ (.refl _)) h
  · have hq := of_decide_eq_false hq
    repeat' tb_start
    refine o_adds (by rw [sizeLine_eq]; simp only [List.length_append, List.length_cons, List.length_nil]; omega) ?_
    intro u3
    have e : leftT x bare kind = pieceT bare ++ rowT x ++ [59, 32, 107, 45] ++ [61] := by unfold leftT eqsT; rw [if_neg hq]
    rw [← e]
    repeat' tb_start
    refine t_itb (fun hq => absurd hq (by simp)) (fun hq => ?_)
    repeat' tb_start
    exact t_forget (.cons _ (.refl _)) h
end
theorem pf1 : ∀ (run : Fin 3) (tabs : Fin 2) (more : Fin 3) (en : Fin 2), toldF (leadT run.val tabs.val more.val) (limT en.val) = (dueF (leadT run.val tabs.val more.val) (limT en.val) (lonG run.val tabs.val more.val + 1)).filter (fun p => decide (p.2.1 ≠ p.2.2)) := by decide +kernel
theorem pf2 : ∀ (run : Fin 3) (tabs : Fin 2) (more : Fin 3) (en : Fin 2) (step : Fin 3) (flip : Fin 2), -5 ≤ climbV step.val flip.val (toldF (leadT run.val tabs.val more.val) (limT en.val)) ∧ climbV step.val flip.val (toldF (leadT run.val tabs.val more.val) (limT en.val)) ≤ 5 := by decide +kernel
theorem pf3 : ∀ (x : Fin 11) (bare : Fin 5) (kind : Fin 6), stripF (valT ((x.val : Int) - 5) bare.val kind.val) = leftT ((x.val : Int) - 5) bare.val kind.val := by decide +kernel
theorem pf4 : ∀ (x : Fin 11) (bare : Fin 5) (kind : Fin 6), (sgnF (leftT ((x.val : Int) - 5) bare.val kind.val)).flatten = rowT ((x.val : Int) - 5) := by decide +kernel
noncomputable def okX (p : Int × Nat × Nat) : Prop := -5 ≤ p.1 ∧ p.1 ≤ 5 ∧ p.2.1 < 5 ∧ p.2.2 < 6
noncomputable def tabGo : Nat → List (Int × Nat × Nat) → List (List Nat × List Nat)
  | _, [] => []
  | j, p :: r => ([97 + j], valT p.1 p.2.1 p.2.2) :: tabGo (j + 1) r
noncomputable def tabL (xs : List (Int × Nat × Nat)) : List (List Nat × List Nat) := ([97, 98, 99], []) :: tabGo 0 xs
theorem tabGo_snoc (p : Int × Nat × Nat) : ∀ (xs : List (Int × Nat × Nat)) (j : Nat), tabGo j (xs ++ [p]) = tabGo j xs ++ [([97 + (j + xs.length)], valT p.1 p.2.1 p.2.2)]
  | [], j => rfl
  | q :: r, j => by
    simp only [List.cons_append, tabGo, tabGo_snoc p r (j + 1), List.length_cons]
    rw [show j + 1 + r.length = j + (r.length + 1) by omega]
theorem tabL_snoc (xs : List (Int × Nat × Nat)) (p : Int × Nat × Nat) : tabL (xs ++ [p]) = tabL xs ++ [([97 + xs.length], valT p.1 p.2.1 p.2.2)] := by
  unfold tabL
  rw [tabGo_snoc, Nat.zero_add]; rfl
theorem tabGo_len : ∀ (xs : List (Int × Nat × Nat)) (j : Nat), (tabGo j xs).length = xs.length
  | [], _ => rfl
  | _ :: r, j => by simp [tabGo, tabGo_len r]
theorem lw_l1 (i : Nat) (h : i < 3) : lw [97 + i] = [97 + i] := good_ltr ⟨i, h⟩
theorem tabGo_keys : ∀ (xs : List (Int × Nat × Nat)) (j : Nat), ∀ q ∈ tabGo j xs, ∃ i, j ≤ i ∧ i < j + xs.length ∧ q.1 = [97 + i]
  | [], _, q, hq => nomatch hq
  | p :: r, j, q, hq => by
    rcases List.mem_cons.mp hq with rfl | hq
    · exact ⟨j, Nat.le_refl _, by simp, rfl⟩
    · obtain ⟨i, h1, h2, h3⟩ := tabGo_keys r (j + 1) q hq
      exact ⟨i, by omega, by simp at h2 ⊢; omega, h3⟩
theorem getF_snoc {l : List (List Nat × List Nat)} {k v x : List Nat} (h : ∀ q ∈ l, lw q.1 ≠ x) (hk : lw k = x) : getF (l ++ [(k, v)]) x = some v := by
  unfold getF
  rw [List.find?_append, List.find?_eq_none.mpr (fun q hq => by simpa using h q hq)]
  simp [hk]
theorem tabL_get {xs : List (Int × Nat × Nat)} {p : Int × Nat × Nat} (h : xs.length < 3) : getF (tabL (xs ++ [p])) [97 + xs.length] = some (valT p.1 p.2.1 p.2.2) := by
  rw [tabL_snoc]
  refine getF_snoc (fun q hq => ?_) (lw_l1 _ h)
  rcases List.mem_cons.mp hq with rfl | hq
  · have e : lw [97, 98, 99] = [97, 98, 99] := by decide +kernel
    rw [e]; simp
  · obtain ⟨i, h1, h2, h3⟩ := tabGo_keys xs 0 q hq
    rw [h3, lw_l1 i (by omega)]
    simp; omega
theorem sgn_small {x : List Nat} : ∀ y ∈ sgnF x, y.length = 1 := fun y hy => by
  obtain ⟨p, hp, e⟩ := List.mem_filterMap.mp hy
  split at e
  · rename_i h
    cases e
    rcases h with h | h <;> rw [h] <;> rfl
  · cases e
theorem sum_ones {l : List (List Nat)} (h : ∀ y ∈ l, y.length = 1) : (l.map (·.length)).sum = l.length := by
  induction l with
  | nil => rfl
  | cons a r ih =>
    simp only [List.map_cons, List.sum_cons, List.length_cons, h a (.head _), ih fun y hy => h y (.tail _ hy)]
    omega
theorem k12_mem {L : Addr} {v1 v2 v3 v4 v5 v6 v7 v8 v9 v10 v11 v12 : Option Value} {r : List (Addr × Obj)} {p : Addr × Obj} (h : p ∈ r) : p ∈ K12 L v1 v2 v3 v4 v5 v6 v7 v8 v9 v10 v11 v12 r :=
  .tail _ (.tail _ (.tail _ (.tail _ (.tail _ (.tail _ (.tail _ (.tail _ (.tail _ (.tail _ (.tail _ (.tail _ h)))))))))))
theorem k12_sub {L : Addr} {v1 v2 v3 v4 v5 v6 v7 v8 v9 v10 v11 v12 : Option Value} {r r' : List (Addr × Obj)} (h : r'.Sublist r) : (K12 L v1 v2 v3 v4 v5 v6 v7 v8 v9 v10 v11 v12 r').Sublist (K12 L v1 v2 v3 v4 v5 v6 v7 v8 v9 v10 v11 v12 r) :=
  .cons_cons _ (.cons_cons _ (.cons_cons _ (.cons_cons _ (.cons_cons _ (.cons_cons _ (.cons_cons _ (.cons_cons _ (.cons_cons _ (.cons_cons _ (.cons_cons _ (.cons_cons _ h)))))))))))
theorem k12_top {L : Addr} {v1 v2 v3 v4 v5 v6 v7 v8 v9 v10 v11 v12 : Option Value} {r : List (Addr × Obj)} : r.Sublist (K12 L v1 v2 v3 v4 v5 v6 v7 v8 v9 v10 v11 v12 r) :=
  .cons _ (.cons _ (.cons _ (.cons _ (.cons _ (.cons _ (.cons _ (.cons _ (.cons _ (.cons _ (.cons _ (.cons _ (.refl _))))))))))))
theorem SL.get {vs : List Value} {ls : List (List Nat)} (h : SL vs ls) : ∀ {i : Nat} {y : List Nat}, ls[i]? = some y → ∃ t, vs[i]? = some (.str (strOf y) t) := by
  induction h with
  | nil => intro i y e; cases e
  | cons z t _ ih =>
    intro i y e
    cases i with
    | zero => cases e; exact ⟨t, rfl⟩
    | succ i => exact ih e
noncomputable abbrev ML (L : Addr) (bound flip en cells : Value) : List (Str × Bnd) := Lc "bound" bound :: Lc "flip" flip :: Lc "end" en :: Lc "cells" cells :: MC L
section
variable {C : Cx} {s₀ s : Shared} {W : List Addr} {A : Around} {E : Value → Shared → Prop} {r : List (Addr × Obj)} {L : Addr} {v1 v3 v7 v8 v9 v10 v11 : Option Value}
theorem turn_k {step flip en : Nat} {ts tf te tlim tk : Tok} {ca bl X' dx' T' cT' rl H dx hl I : Addr} {oI o' o : Obj} {cw bvs vs' rws hvs : List Value} {cms : List Int} {ce eb er e : Nat} {tb' : Tok} {hts : List (Addr × Obj)} {xs : List (Int × Nat × Nat)} {Q : Flow → Shared → Prop} {k : Nat} (hA : Ok A 130)
    (hk : k < 3) (hst : step < 3) (hfl : flip < 2) (hen : en < 2) (hci : IntsAre cw cms) (hcl : cms.length = 4) (hcc : (ca, listObj cw ce) ∈ r) (hb : IntsAre bvs ((List.range 5).map fun j => colF (1 + (j : Nat)) 0 (limT en))) (hbl : (bl, listObj bvs eb) ∈ r)
    (P' : WsP o' T' vs' (wsOf (limT en ++ [120])).1 (wsOf (limT en ++ [120])).2.2.2) (hin : ∀ p ∈ wsL X' dx' o' T' cT' vs' (wsOf (limT en ++ [120])).2.1 tb', p ∈ r) (hnd : ((wsL X' dx' o' T' cT' vs' (wsOf (limT en ++ [120])).2.1 tb').map (·.1)).Nodup)
    (hxl : xs.length = k) (hok : ∀ p ∈ xs, okX p) (hrw : SL rws (xs.map fun p => rowT p.1)) (P : HdP o hl hvs hts (tabL xs))
    (h : ∀ p, okX p → ∀ rws' er' hvs' e' hts' v7', SL rws' ((xs ++ [p]).map fun p => rowT p.1) → HdP o hl hvs' hts' (tabL (xs ++ [p])) → ∀ s, St C s₀ W (lE L) [] s (ML L (.ref X') (.int flip tf) (.int en te) (.ref ca))
      ((I, oI) :: K12 L v1 (some (.int step ts)) v3 (some (.str (strOf (limT en)) tlim)) (some (.ref bl)) (some (.ref rl)) v7' v8 v9 v10 v11 (some (.ref H)) ((rl, listObj rws' er') :: (hdL H dx o hl hvs' e' hts' ++ r))) → Q .next s) :
    ∀ s, St C s₀ W (lE L) [] s (MK L (.int k tk) (.ref X') (.int flip tf) (.int en te) (.ref ca))
      ((I, oI) :: K12 L v1 (some (.int step ts)) v3 (some (.str (strOf (limT en)) tlim)) (some (.ref bl)) (some (.ref rl)) v7 v8 v9 v10 v11 (some (.ref H)) ((rl, listObj rws er) :: (hdL H dx o hl hvs e hts ++ r))) →
      wpAny (MM C.w) A (execs (bodyOf st5.st) (lE L)) Q E s := by
  rw [body_k]
  refine t_perm (n' := K12 L v1 (some (.int step ts)) v3 (some (.str (strOf (limT en)) tlim)) (some (.ref bl)) (some (.ref rl)) v7 v8 v9 v10 v11 (some (.ref H)) ((rl, listObj rws er) :: (hdL H dx o hl hvs e hts ++ (I, oI) :: r)))
    (List.perm_middle (l₁ := K12 L v1 (some (.int step ts)) v3 (some (.str (strOf (limT en)) tlim)) (some (.ref bl)) (some (.ref rl)) v7 v8 v9 v10 v11 (some (.ref H)) ((rl, listObj rws er) :: hdL H dx o hl hvs e hts))) ?_
  have hR : ∀ {p}, p ∈ r → p ∈ (rl, listObj rws er) :: (hdL H dx o hl hvs e hts ++ (I, oI) :: r) := fun hp => .tail _ (List.mem_append_right _ (.tail _ hp))
  (first | refine t_cons ?_ | (refine' t_nextR ?zh ?_; (case zh => assumption); refine t_cons ?_))
  refine sk0 hA hk hci hcl (hR hcc) ?_
  intro run tabs more bare kind t1 t2 t3 t4 t5 h1 h2 h3 h4 h5
  (first | refine t_cons ?_ | (refine' t_nextR ?zh ?_; (case zh => assumption); refine t_cons ?_))
  refine sk1 (hA.le (by decide)) h1 h2 h3 ?_
  intro tL
  (first | refine t_cons ?_ | (refine' t_nextR ?zh ?_; (case zh => assumption); refine t_cons ?_))
  refine sk2 (hA.le (by decide)) h1 h2 h3 ?_
  intro tl
  (first | refine t_cons ?_ | (refine' t_nextR ?zh ?_; (case zh => assumption); refine t_cons ?_))
  refine sk3 (hA.le (by decide)) h1 h2 h3 hb (hR hbl) ?_
  intro Dd dw ed td hTd
  (first | refine t_cons ?_ | (refine' t_nextR ?zh ?_; (case zh => assumption); refine t_cons ?_))
  refine sk4 (tl := tl) (hA.le (by decide)) h1 h2 h3 hen P' (fun p hp => .tail _ (List.mem_append_right _ (hR (hin p hp)))) hnd ?_
  intro Dt tw et tt hTt
  have f1 := pf1 ⟨run, h1⟩ ⟨tabs, h2⟩ ⟨more, h3⟩ ⟨en, hen⟩
  have f2 := pf2 ⟨run, h1⟩ ⟨tabs, h2⟩ ⟨more, h3⟩ ⟨en, hen⟩ ⟨step, hst⟩ ⟨flip, hfl⟩
  dsimp only at f1 f2
  have hlon := lon_le (tabs := tabs) h1 h3
  have hdl : (dueF (leadT run tabs more) (limT en) (lonG run tabs more + 1)).length ≤ 20 := by simp [dueF]; omega
  (first | refine t_cons ?_ | (refine' t_nextR ?zh ?_; (case zh => assumption); refine t_cons ?_))
  refine sk5 (hA.le (by decide)) hTt (by rw [f1]; exact Nat.le_trans (List.length_filter_le _ _) hdl) (.head _) (fun p hp => .tail _ (List.mem_append_left _ hp)) ?_
  intro tc
  (first | refine t_cons ?_ | (refine' t_nextR ?zh ?_; (case zh => assumption); refine t_cons ?_))
  refine sk6 (hA.le (by decide)) ?_
  intro tc2
  have ex : (if flip = 1 then -(climbF step (toldF (leadT run tabs more) (limT en))).sum else (climbF step (toldF (leadT run tabs more) (limT en))).sum) = climbV step flip (toldF (leadT run tabs more) (limT en)) := rfl
  rw [ex]
  generalize hx : climbV step flip (toldF (leadT run tabs more) (limT en)) = x at f2 ⊢
  have hxb : x ≤ 10 ∧ -10 ≤ x := by omega
  have hrl' : rws.length = k := by rw [hrw.length, List.length_map, hxl]
  (first | refine t_cons ?_ | (refine' t_nextR ?zh ?_; (case zh => assumption); refine t_cons ?_))
  refine sk7 (j1 := (Dt, listObj tw et) :: tt) (j2 := (Dd, listObj dw ed) :: td) (hA.le (by decide)) (by omega) (by omega) (by omega) ?_
  intro tr
  (first | refine t_cons ?_ | (refine' t_nextR ?zh ?_; (case zh => assumption); refine t_cons ?_))
  refine sk8 (hA.le (by decide)) h4 h5 ?_
  intro tp hv hh
  have hrow : (rws ++ [.str (strOf (rowT x)) tr])[k]? = some (.str (strOf (rowT x)) tr) := by
    rw [List.getElem?_append_right (by omega), hrl', Nat.sub_self]; rfl
  (first | refine t_cons ?_ | (refine' t_nextR ?zh ?_; (case zh => assumption); refine t_cons ?_))
  refine sk9 (j1 := (Dt, listObj tw et) :: tt) (j2 := (Dd, listObj dw ed) :: td) (hA.le (by decide)) P (by simp [tabL, tabGo_len, hxl]; omega) h4 h5 hk hxb.1 hxb.2 hh hrow ?_
  intro hvs2 e2 hts2 P2
  have e3 : tabL xs ++ [([97 + k], valT x bare kind)] = tabL (xs ++ [(x, bare, kind)]) := by rw [tabL_snoc, hxl]
  rw [e3] at P2
  have hokp : okX (x, bare, kind) := ⟨f2.1, f2.2, h4, h5⟩
  obtain ⟨w1, w2⟩ := val_small hxb.1 hxb.2 h4 h5
  have hst' : stripF (valT x bare kind) = leftT x bare kind := by
    have := pf3 ⟨(x + 5).toNat, by omega⟩ ⟨bare, h4⟩ ⟨kind, h5⟩
    dsimp only at this
    rw [show (((x + 5).toNat : Nat) : Int) - 5 = x by omega] at this
    exact this
  have hsg : (sgnF (leftT x bare kind)).flatten = rowT x := by
    have := pf4 ⟨(x + 5).toNat, by omega⟩ ⟨bare, h4⟩ ⟨kind, h5⟩
    dsimp only at this
    rw [show (((x + 5).toNat : Nat) : Int) - 5 = x by omega] at this
    exact this
  have hv128 : ∀ c ∈ valT x bare kind, c < 128 := fun c hc => by have := w1 c hc; omega
  have hl128 : ∀ c ∈ leftT x bare kind, c < 128 := fun c hc => hv128 c (strip_mem (by rw [hst']; exact hc))
  have hllen : (leftT x bare kind).length ≤ 60 := by
    obtain ⟨b1, b2⟩ := row_small hxb.1 hxb.2
    obtain ⟨c1, c2⟩ := piece_small ⟨bare, h4⟩
    dsimp only at c2
    unfold leftT eqsT
    simp only [List.length_append, List.length_cons, List.length_nil]
    split <;> simp <;> omega
  have hin2 : ∀ p ∈ hdL H dx o hl hvs2 e2 hts2, p ∈ K12 L v1 (some (.int step ts)) v3 (some (.str (strOf (limT en)) tlim)) (some (.ref bl)) (some (.ref rl)) (some (.str (strOf (leadT run tabs more)) tL)) v8 v9 v10 v11 (some (.ref H)) (((Dt, listObj tw et) :: tt) ++ (((Dd, listObj dw ed) :: td) ++ (rl, listObj (rws ++ [.str (strOf (rowT x)) tr]) (er + 1)) :: (hdL H dx o hl hvs2 e2 hts2 ++ (I, oI) :: r))) :=
    fun p hp => k12_mem (List.mem_append_right _ (List.mem_append_right _ (.tail _ (List.mem_append_left _ hp))))
  have hsub2 : (hdL H dx o hl hvs2 e2 hts2).Sublist (K12 L v1 (some (.int step ts)) v3 (some (.str (strOf (limT en)) tlim)) (some (.ref bl)) (some (.ref rl)) (some (.str (strOf (leadT run tabs more)) tL)) v8 v9 v10 v11 (some (.ref H)) (((Dt, listObj tw et) :: tt) ++ (((Dd, listObj dw ed) :: td) ++ (rl, listObj (rws ++ [.str (strOf (rowT x)) tr]) (er + 1)) :: (hdL H dx o hl hvs2 e2 hts2 ++ (I, oI) :: r)))) :=
    (List.Sublist.trans (((List.sublist_append_left _ _).cons _).trans ((List.sublist_append_right _ _).trans (List.sublist_append_right _ _))) k12_top)
  intro s D
  have hnd2 : ((hdL H dx o hl hvs2 e2 hts2).map (·.1)).Nodup := D.na.sublist (hsub2.map _)
  revert D
  revert s
  (first | refine t_cons ?_ | (refine' t_nextR ?zh ?_; (case zh => assumption); refine t_cons ?_))
  refine sk10 (hA.le (by decide)) P2 hin2 hnd2 (by news_at) hk (by rw [← hxl]; exact tabL_get (by omega)) hv128 (by omega) ?_
  rw [hst']
  intro tlf
  (first | refine t_cons ?_ | (refine' t_nextR ?zh ?_; (case zh => assumption); refine t_cons ?_))
  refine sk11 (hA.le (by decide)) hl128 (by omega) ?_
  intro Ds sw es hSL
  have hsl : ((sgnF (leftT x bare kind)).map (·.length)).sum + (sgnF (leftT x bare kind)).length ≤ 100000 := by
    rw [sum_ones sgn_small]
    have q1 := sgnL_len (esc 0 false (leftT x bare kind))
    have q2 := esc_len (leftT x bare kind) 0 false
    simp at q2
    unfold sgnF
    omega
  (first | refine t_cons ?_ | (refine' t_nextR ?zh ?_; (case zh => assumption); refine t_cons ?_))
  refine sk12 (y1 := .none) (hA.le (by decide)) hTt (fun p hp => .tail _ (k12_mem (List.mem_append_left _ (.tail _ hp)))) (.tail _ (k12_mem (List.mem_append_left _ (.head _)))) hTd (fun p hp => .tail _ (k12_mem (List.mem_append_right _ (List.mem_append_left _ (.tail _ hp))))) (.tail _ (k12_mem (List.mem_append_right _ (List.mem_append_left _ (.head _))))) hSL (.head _)
    (.tail _ (k12_mem (List.mem_append_right _ (List.mem_append_right _ (.head _))))) (by news_at) hrow hk hdl hsl f1 hsg ?_
  (first | refine t_cons ?_ | (refine' t_nextR ?zh ?_; (case zh => assumption); refine t_cons ?_))
  refine sk13 (hA.le (by decide)) (.tail _ (k12_mem (List.mem_append_right _ (List.mem_append_right _ (.head _))))) (by news_at) hrow hk hxb.1 hxb.2 h4 h5 hh ?_
  refine t_nil ?_
  refine t_dropM (m' := ML L (.ref X') (.int flip tf) (.int en te) (.ref ca)) (by lcg_sub) ?_
  refine t_forget (n' := K12 L v1 (some (.int step ts)) v3 (some (.str (strOf (limT en)) tlim)) (some (.ref bl)) (some (.ref rl)) (some (.str (strOf (leadT run tabs more)) tL)) v8 v9 v10 v11 (some (.ref H)) ((rl, listObj (rws ++ [.str (strOf (rowT x)) tr]) (er + 1)) :: (hdL H dx o hl hvs2 e2 hts2 ++ (I, oI) :: r)))
    (.cons _ (k12_sub ((List.sublist_append_right _ _).trans (List.sublist_append_right _ _)))) ?_
  refine t_perm (n' := (I, oI) :: K12 L v1 (some (.int step ts)) v3 (some (.str (strOf (limT en)) tlim)) (some (.ref bl)) (some (.ref rl)) (some (.str (strOf (leadT run tabs more)) tL)) v8 v9 v10 v11 (some (.ref H)) ((rl, listObj (rws ++ [.str (strOf (rowT x)) tr]) (er + 1)) :: (hdL H dx o hl hvs2 e2 hts2 ++ r)))
    (List.perm_middle (l₁ := K12 L v1 (some (.int step ts)) v3 (some (.str (strOf (limT en)) tlim)) (some (.ref bl)) (some (.ref rl)) (some (.str (strOf (leadT run tabs more)) tL)) v8 v9 v10 v11 (some (.ref H)) ((rl, listObj (rws ++ [.str (strOf (rowT x)) tr]) (er + 1)) :: hdL H dx o hl hvs2 e2 hts2))).symm ?_
  refine h (x, bare, kind) hokp _ _ hvs2 e2 hts2 _ ?_ P2
  rw [List.map_append]
  exact hrw.snoc _ _
end
section
variable {C : Cx} {s₀ s : Shared} {W : List Addr} {A : Around} {E : Value → Shared → Prop} {r : List (Addr × Obj)} {L : Addr} {v1 v3 v7 v8 v9 v10 v11 : Option Value}
inductive I61 (L : Addr) (X' ca bl rl rg H dx hl : Addr) (o : Obj) (step flip en : Nat) (tf te ts tlim t3 u w : Tok) (v1 v3 v8 v9 v10 v11 : Option Value) (e : Nat) (r : List (Addr × Obj)) (i : Nat) (m₁ : List (Str × Bnd)) (n₁ : List (Addr × Obj)) : Prop
  | mk (xs : List (Int × Nat × Nat)) (rws : List Value) (er : Nat) (hvs' : List Value) (e' : Nat) (hts' : List (Addr × Obj)) (v7' : Option Value) (_ : m₁ = ML L (.ref X') (.int flip tf) (.int en te) (.ref ca)) (_ : n₁ = K12 L v1 (some (.int step ts)) v3 (some (.str (strOf (limT en)) tlim)) (some (.ref bl)) (some (.ref rl)) v7' v8 v9 v10 v11 (some (.ref H)) ((rl, listObj rws er) :: (hdL H dx o hl hvs' e' hts' ++ (rg, rangeObj 0 3 u t3 w) :: r))) (_ : xs.length = i) (_ : (∀ p ∈ xs, okX p)) (_ : SL rws (xs.map fun p => rowT p.1)) (_ : HdP o hl hvs' hts' (tabL xs))
theorem sg5 {step flip en : Nat} {ts tf te tlim : Tok} {ca bl X' dx' T' cT' rl H dx hl : Addr} {o' o : Obj} {cw bvs vs' hvs : List Value} {cms : List Int} {ce eb e : Nat} {tb' : Tok} {hts : List (Addr × Obj)} {Q : Flow → Shared → Prop} (hA : Ok A 130)
    (hst : step < 3) (hfl : flip < 2) (hen : en < 2) (hci : IntsAre cw cms) (hcl : cms.length = 4) (hcc : (ca, listObj cw ce) ∈ r) (hb : IntsAre bvs ((List.range 5).map fun j => colF (1 + (j : Nat)) 0 (limT en))) (hbl : (bl, listObj bvs eb) ∈ r)
    (P' : WsP o' T' vs' (wsOf (limT en ++ [120])).1 (wsOf (limT en ++ [120])).2.2.2) (hin : ∀ p ∈ wsL X' dx' o' T' cT' vs' (wsOf (limT en ++ [120])).2.1 tb', p ∈ r) (hnd : ((wsL X' dx' o' T' cT' vs' (wsOf (limT en ++ [120])).2.1 tb').map (·.1)).Nodup)
    (P : HdP o hl hvs hts (tabL []))
    (h : ∀ xs rws' er' hvs' e' hts' v7', xs.length = 3 → (∀ p ∈ xs, okX p) → SL rws' (xs.map fun p => rowT p.1) → HdP o hl hvs' hts' (tabL xs) → ∀ s, St C s₀ W (lE L) [] s (ML L (.ref X') (.int flip tf) (.int en te) (.ref ca))
      (K12 L v1 (some (.int step ts)) v3 (some (.str (strOf (limT en)) tlim)) (some (.ref bl)) (some (.ref rl)) v7' v8 v9 v10 v11 (some (.ref H)) ((rl, listObj rws' er') :: (hdL H dx o hl hvs' e' hts' ++ r))) → Q .next s) :
    ∀ s, St C s₀ W (lE L) [] s (ML L (.ref X') (.int flip tf) (.int en te) (.ref ca))
      (K12 L v1 (some (.int step ts)) v3 (some (.str (strOf (limT en)) tlim)) (some (.ref bl)) (some (.ref rl)) v7 v8 v9 v10 v11 (some (.ref H)) ((rl, listObj [] 0) :: (hdL H dx o hl hvs e hts ++ r))) →
      wpAny (MM C.w) A (exec st5.st (lE L)) Q E s := by
  repeat' tb_start
  rename_i t3
  refine c_range1 ?_
  intro rg u w
  refine t_perm (n' := K12 L v1 (some (.int step ts)) v3 (some (.str (strOf (limT en)) tlim)) (some (.ref bl)) (some (.ref rl)) v7 v8 v9 v10 v11 (some (.ref H)) ((rl, listObj [] 0) :: (hdL H dx o hl hvs e hts ++ (rg, rangeObj 0 3 u t3 w) :: r)))
    (List.perm_middle (l₁ := K12 L v1 (some (.int step ts)) v3 (some (.str (strOf (limT en)) tlim)) (some (.ref bl)) (some (.ref rl)) v7 v8 v9 v10 v11 (some (.ref H)) ((rl, listObj [] 0) :: hdL H dx o hl hvs e hts))) ?_
  refine t_forI (I61 L X' ca bl rl rg H dx hl o step flip en tf te ts tlim t3 u w v1 v3 v8 v9 v10 v11 e r) hA.hh (iter_range (a := 0) (b := 3) (k12_mem (.tail _ (List.mem_append_right _ (.head _)))) (by omega) (by omega)) (by intro _ _ _ _ p hp; cases hp) ?_ ?_ ?_
  · exact ⟨[], [], 0, hvs, e, hts, v7, rfl, rfl, rfl, by simp, .nil, P⟩
  · rintro i v m₁ n₁ I oI E' hi ⟨tk, rfl⟩ ⟨xs, rws, er, hvs', e', hts', v7', rfl, rfl, hxl, hok, hrw, P2⟩
    have hi : i < 3 := by simpa using hi
    rw [Int.zero_add]
    refine t_asgName ?_
    refine t_stn (by with_unfolding_all rfl) (by with_unfolding_all rfl) ?_
    refine turn_k (r := (rg, rangeObj 0 3 u t3 w) :: r) hA hi hst hfl hen hci hcl (.tail _ hcc) hb (.tail _ hbl) P' (fun p hp => .tail _ (hin p hp)) hnd hxl hok hrw P2 ?_
    intro p hp rws' er' hvs2 e2 hts2 v7'' hrw' P3 s₂ D₂
    refine ⟨_, _, ⟨xs ++ [p], rws', er', hvs2, e2, hts2, v7'', rfl, rfl, by simp [hxl], fun q hq => ?_, hrw', P3⟩, D₂⟩
    rcases List.mem_append.mp hq with hq | hq
    · exact hok q hq
    · rw [List.mem_singleton.mp hq]; exact hp
  · rintro m₁ n₁ E' ⟨xs, rws, er, hvs', e', hts', v7', rfl, rfl, hxl, hok, hrw, P2⟩
    refine t_nil ?_
    refine t_forget (n' := K12 L v1 (some (.int step ts)) v3 (some (.str (strOf (limT en)) tlim)) (some (.ref bl)) (some (.ref rl)) v7' v8 v9 v10 v11 (some (.ref H)) ((rl, listObj rws er) :: (hdL H dx o hl hvs' e' hts' ++ r)))
      (k12_sub (.cons_cons _ ((List.Sublist.refl _).append (.cons _ (.refl _))))) ?_
    exact h xs rws er hvs' e' hts' v7' hxl hok hrw P2
end
theorem good_D : Good [68] ∧ lw [68] = [100] := by
  have e : lw [68] = [100] := by decide +kernel
  refine ⟨⟨?_, ?_, by simp, by rw [e]; simp⟩, e⟩
  · intro c hc; rw [List.mem_singleton] at hc; omega
  · rw [e]; intro c hc; rw [List.mem_singleton] at hc; omega
noncomputable def lamQ2 (L : Addr) : Str := (lE L).qual ++ "<lambda>"
section
variable {C : Cx} {s₀ s : Shared} {W : List Addr} {env : Env} {G : List (Nat × GenState)} {A : Around} {E : Value → Shared → Prop} {m : List (Str × Bnd)} {n : List (Addr × Obj)} {L : Addr}
theorem t_callK {func : Expr} {pos : Pos} {args : List Expr} {kws : List Keyword} {Q : Value → Shared → Prop}
    (h : ∀ s, St C s₀ W env G s m n → wpAny (MM C.w) A (eval func env) (KCk C A env E pos args kws Q) E s)
    (hf : eval (.Call func args kws pos) env = (do callWith pos (← eval func env) [] (backTo pos (starEach args env)) (backToKw pos (keywordEach kws env))) := by with_unfolding_all rfl) :
    ∀ s, St C s₀ W env G s m n → wpAny (MM C.w) A (eval (.Call func args kws pos) env) Q E s := fun s D => by
  rw [hf]; exact wpAny_bind (h s D)
theorem sg6 {H dx hl : Addr} {o : Obj} {vs : List Value} {e : Nat} {ts : List (Addr × Obj)} {l : List (List Nat × List Nat)} {Q : Flow → Shared → Prop} (hA : Ok A 80) (P : HdP o hl vs ts l) (hin : ∀ p ∈ hdL H dx o hl vs e ts, p ∈ n) (hnd : ((hdL H dx o hl vs e ts).map (·.1)).Nodup)
    (hc : (L + 12, cellObj (some (.ref H))) ∈ n) (hg : getF l [100] = none) (h : ∀ ps, ∀ s, St C s₀ W (lE L) [] s m ((350, tabObj ps) :: n) → Q .next s) :
    ∀ s, St C s₀ W (lE L) [] s m ((350, tabObj #[]) :: n) → wpAny (MM C.w) A (exec st6.st (lE L)) Q E s := by
  repeat' tb_start
  refine t_callK ?_
  repeat' tb_start
  refine t_lamMake (P := 350) (ps := #[]) (c := 352) (clos := [("table", L + 12)]) (by with_unfolding_all rfl) (by with_unfolding_all rfl) (by with_unfolding_all rfl) (by kernel_rfl) trivial (by with_unfolding_all rfl) ?_
  intro f c' oc vsc tc ctv pm hod hq
  repeat' tb_start
  rename_i tD tX
  intro s D
  have hna := D.na
  refine s_gni (k := 35) (RV := fun r => ∃ t, r = .str (strOf [120]) t) (hA.le (by decide)) (fun p hp => hp) hna (.head _) rfl (.inr ⟨_, rfl⟩) ?_ ?_ s D
  · intro s₀ W env G A E m n' Q hA hin' hr s D
    have hH : (H, instObj 309 dx) ∈ n := hin _ (.head _)
    have hdx : (dx, o) ∈ n := hin _ (.tail _ (.head _))
    refine t_enterLam [("asked", .str (strOf [68]) tD), ("default", .str (strOf [120]) tX)] [("asked", .loc (some (.str (strOf [68]) tD))), ("default", .loc (some (.str (strOf [120]) tX))), ("table", .cel (L + 12))] n D (hA : Ok A (34 + 1)) (hin' _ (.head _)) (hin' _ (.tail _ (.head _))) hod hq (by kernel_rfl) ?_ ?_ rfl rfl rfl ?_ ?_ ?_ ?_ ?_
    · intro y hy
      simp only [List.mem_cons, List.not_mem_nil, or_false] at hy
      rcases hy with rfl | rfl <;> rfl
    · decide
    · intro L p hp
      simp only [List.mem_cons, List.not_mem_nil, or_false] at hp
      rcases hp with rfl | rfl | rfl
      · exact ⟨rfl, rfl⟩
      · exact ⟨rfl, rfl⟩
      · exact ⟨.inr rfl, rfl⟩
    · show (["asked", "default", "table"] : List Str).Nodup
      decide +kernel
    · exact fun p hp => hin' p (.tail _ (.tail _ (.tail _ hp)))
    · exact hna.sublist ((List.Sublist.cons _ (.cons _ (.cons _ (.refl _)))).map _)
    · intro L2 E2
      have hA2 : ∀ e', Ok (A.deeper e') 34 := fun e' => (hA : Ok A (34 + 1)).deeper
      repeat' tb_start
      refine P.meth (f := 256) hH hdx (by kernel_rfl) (by kernel_rfl) (by kernel_rfl) ?_
      repeat' tb_start
      refine s_get ((hA2 _).le (by decide)) P (e := e) (dx := dx) hin hnd good_D.1 (.inl rfl) (fun v' tv hg' => ?_) (fun hg' => ?_)
      · rw [good_D.2, hg] at hg'; cases hg'
      · exact fun s₂ D₂ => hr _ ⟨_, rfl⟩ s₂ (D.back (R := n) (n₁ := []) D₂ (fun p hp => hin' p (.tail _ (.tail _ (.tail _ hp)))) (.refl _))
  · rintro T r ⟨tr, rfl⟩
    repeat' tb_start
    rename_i t3 t4 TT
    refine o_neT (ds := [.str (strOf [120]), .str (strOf [120])]) (es := [.str (strOf [120]), .str (strOf [120])]) (hA.le (by decide)) (by news_at) (by news_at) (fun h => readsAll_cons_val (.str _ _) (readsAll_cons_val (.str _ _) .nil)) (fun h => readsAll_cons_val (.str _ _) (readsAll_cons_val (.str _ _) .nil)) (by decide +kernel) (by decide +kernel) ?_
    rw [show (!PyData.eqv (.tuple [.str (strOf [120]), .str (strOf [120])]) (.tuple [.str (strOf [120]), .str (strOf [120])])) = false by decide +kernel]
    repeat' tb_start
    exact t_forget (.cons _ (.cons _ (.cons _ (.cons _ (.refl _))))) (h _)
end
noncomputable def lwc (c : Nat) : Nat := if 65 ≤ c ∧ c ≤ 90 then c + 32 else c
noncomputable def upc (c : Nat) : Nat := if 97 ≤ c ∧ c ≤ 122 then c - 32 else c
theorem lower_tab : ∀ c : Fin 128, Unicode.lowerOf c.val = [lwc c.val] := by decide +kernel
theorem upper_tab : ∀ c : Fin 128, Unicode.upperOf c.val = [upc c.val] := by decide +kernel
theorem flat_one {α β : Type} (f : α → β) : ∀ l : List α, (l.map fun c => [f c]).flatten = l.map f
  | [] => rfl
  | a :: r => by rw [List.map_cons, List.flatten_cons, flat_one f r]; rfl
theorem lowerAt_eq {s : Array Nat} {i : Nat} {c : Nat} (h : s[i]? = some c) (hc : c ≠ 0x3A3) : Unicode.lowerAt s i = Unicode.lowerOf c := by
  unfold Unicode.lowerAt
  rw [h]
  dsimp only
  rw [if_neg]
  simp [hc]
theorem up_ascii {x : List Nat} (hx : ∀ c ∈ x, c < 128) : up x = x.map upc := by
  have h1 : up x = (x.mapIdx fun i c => Unicode.upperOf c).flatten := by
    show ((strOf x).cps.mapIdx fun i c => (Unicode.upperOf c).toArray).flatten.toList = _
    simp only [strOf, Array.toList_flatten, Array.toList_mapIdx]
    congr 1
    refine List.ext_getElem (by simp) fun i a b => by simp
  rw [h1, ← flat_one upc x]
  congr 1
  refine List.ext_getElem (by simp) fun i h1 h2 => ?_
  simp only [List.getElem_mapIdx, List.getElem_map]
  simp at h1
  have hc := hx x[i] (List.getElem_mem h1)
  exact upper_tab ⟨x[i], hc⟩
theorem lw_ascii {x : List Nat} (hx : ∀ c ∈ x, c < 128) : lw x = x.map lwc := by
  have h1 : lw x = (x.mapIdx fun i c => Unicode.lowerAt x.toArray i).flatten := by
    show ((strOf x).cps.mapIdx fun i c => (Unicode.lowerAt (strOf x).cps i).toArray).flatten.toList = _
    simp only [strOf, Array.toList_flatten, Array.toList_mapIdx]
    congr 1
    refine List.ext_getElem (by simp) fun i a b => by simp
  rw [h1, ← flat_one lwc x]
  congr 1
  refine List.ext_getElem (by simp) fun i h1 h2 => ?_
  simp only [List.getElem_mapIdx, List.getElem_map]
  simp at h1
  have hc := hx x[i] (List.getElem_mem h1)
  rw [lowerAt_eq (c := x[i]) (by simp [h1]) (by omega)]
  exact lower_tab ⟨x[i], hc⟩
theorem lwc_up (c : Nat) : lwc (upc c) = lwc c := by
  unfold lwc upc
  repeat' split
  all_goals omega
theorem lwc_lw (c : Nat) : lwc (lwc c) = lwc c := by
  unfold lwc
  repeat' split
  all_goals omega
theorem lwc_p {c : Nat} (h : 32 ≤ c ∧ c < 127) : 32 ≤ lwc c ∧ lwc c < 127 := by unfold lwc; split <;> omega
theorem upc_p {c : Nat} (h : 32 ≤ c ∧ c < 127) : 32 ≤ upc c ∧ upc c < 127 := by unfold upc; split <;> omega
theorem plain128 {x : List Nat} (h : Plain x) : ∀ c ∈ x, c < 128 := fun c hc => by have := h c hc; omega
theorem plain_lw {x : List Nat} (h : Plain x) : Plain (lw x) ∧ (lw x).length = x.length ∧ lw (lw x) = lw x := by
  have e := lw_ascii (plain128 h)
  have p : Plain (lw x) := fun c hc => by
    rw [e] at hc
    obtain ⟨d, hd, rfl⟩ := List.mem_map.mp hc
    exact lwc_p (h d hd)
  refine ⟨p, by rw [e]; simp, ?_⟩
  rw [lw_ascii (plain128 p), e, List.map_map]
  exact List.map_congr_left fun c _ => lwc_lw c
theorem plain_up {x : List Nat} (h : Plain x) : Plain (up x) ∧ (up x).length = x.length ∧ lw (up x) = lw x := by
  have e := up_ascii (plain128 h)
  have p : Plain (up x) := fun c hc => by
    rw [e] at hc
    obtain ⟨d, hd, rfl⟩ := List.mem_map.mp hc
    exact upc_p (h d hd)
  refine ⟨p, by rw [e]; simp, ?_⟩
  rw [lw_ascii (plain128 p), e, lw_ascii (plain128 h), List.map_map]
  exact List.map_congr_left fun c _ => lwc_up c
theorem Plain.good {x : List Nat} (h : Plain x) (hl : x.length ≤ 1000) : Good x := by
  obtain ⟨a, b, _⟩ := plain_lw h
  exact ⟨h, a, hl, by omega⟩
noncomputable def nmsF (low c : Nat) : List (List Nat) := (pfGo 32 0 ((c : Int) * 2 ^ low) []).getD []
noncomputable def nameF (low c : Nat) : List Nat := joinL [44, 32] (nmsF low c)
theorem nf1 : ∀ (low : Fin 30) (c : Fin 7), (pfGo 32 0 (((c.val + 1 : Nat) : Int) * 2 ^ low.val) []).isSome = true := by decide +kernel
noncomputable def plainB (x : List Nat) : Bool := x.all fun c => decide (32 ≤ c) && decide (c < 127)
theorem nf2 : ∀ (low : Fin 30) (c : Fin 7), (plainB (nameF low.val (c.val + 1)) && decide ((nameF low.val (c.val + 1)).length ≤ 100)) = true := by decide +kernel
theorem nf3 : ∀ low : Fin 30, (([1, 2, 3, 4, 5, 6, 7] : List Nat).map fun c => (nameF low.val c).map lwc).Nodup := by decide +kernel
/-- the names of the loop over the orders -/
noncomputable abbrev MO (L : Addr) (br bw fresh book : Value) : List (Str × Bnd) := Lc "by_rings" br :: Lc "by_rows" bw :: Lc "fresh" fresh :: Lc "book" book :: MC L
section
variable {C : Cx} {s₀ s : Shared} {W : List Addr} {A : Around} {E : Value → Shared → Prop} {n : List (Addr × Obj)} {L : Addr} {v1 v2 v3 v4 v5 v6 v7 v8 v9 v10 v11 v12 : Option Value}
theorem sg7 {Q : Flow → Shared → Prop} (hA : Ok A 60)
    (h : ∀ B dx o bl br bw t, HdP o bl [] [] [] → ∀ s, St C s₀ W (lE L) [] s (MO L (.ref br) (.ref bw) (.int 0 t) (.ref B)) ((br, listObj [] 0) :: (bw, listObj [] 0) :: (hdL B dx o bl [] 0 [] ++ n)) → Q .next s) :
    ∀ s, St C s₀ W (lE L) [] s (MC L) n → wpAny (MM C.w) A (exec st7.st (lE L)) Q E s := by
  repeat' tb_start
  refine s_headers0 (hA.le (by decide)) ?_
  intro B dx o bl P
  repeat' tb_start
  rename_i t bw br TT
  exact t_forget (.cons _ (.refl _)) (h B dx o bl br bw t P)
end
noncomputable def bodyIf : Stmt → List Stmt
  | .If _ b _ _ => b
  | _ => []
@[reducible] noncomputable def seatIf : { st : Stmt // (bodyOf ob3.st)[0]? = some st } := by
  refine ⟨?st, ?h⟩
  case h => exact rfl
theorem body_seat : bodyOf ob3.st = [seatIf.1] := rfl
structure SAt (i : Nat) where
  st : Stmt
  h : (bodyIf seatIf.1)[i]? = some st
@[reducible] noncomputable def is0 : SAt 0 := by
  refine ⟨?st, ?h⟩
  case h => exact rfl
@[reducible] noncomputable def is1 : SAt 1 := by
  refine ⟨?st, ?h⟩
  case h => exact rfl
@[reducible] noncomputable def is2 : SAt 2 := by
  refine ⟨?st, ?h⟩
  case h => exact rfl
@[reducible] noncomputable def is3 : SAt 3 := by
  refine ⟨?st, ?h⟩
  case h => exact rfl
@[reducible] noncomputable def is4 : SAt 4 := by
  refine ⟨?st, ?h⟩
  case h => exact rfl
theorem body_s : bodyIf seatIf.1 = [is0.st, is1.st, is2.st, is3.st, is4.st] := rfl
structure LAt (i : Nat) where
  st : Stmt
  h : (bodyIf is3.st)[i]? = some st
@[reducible] noncomputable def il0 : LAt 0 := by
  refine ⟨?st, ?h⟩
  case h => exact rfl
@[reducible] noncomputable def il1 : LAt 1 := by
  refine ⟨?st, ?h⟩
  case h => exact rfl
@[reducible] noncomputable def il2 : LAt 2 := by
  refine ⟨?st, ?h⟩
  case h => exact rfl
@[reducible] noncomputable def il3 : LAt 3 := by
  refine ⟨?st, ?h⟩
  case h => exact rfl
theorem body_l : bodyIf is3.st = [il0.st, il1.st, il2.st, il3.st] := rfl

noncomputable abbrev McO0 (va : Option Value) (c : Addr) : List (Str × Bnd) := [("k", .loc va), ("rows", .cel c)]
/-- an order, in the ledger -/
noncomputable def ordT (o : Nat × Nat × Nat) (t1 t2 t3 : Tok) : Obj := tupObj [.int o.1 t1, .int o.2.1 t2, .int o.2.2 t3]
noncomputable def ordL (o : Nat × Nat × Nat) : List Nat := [o.1, o.2.1, o.2.2]
noncomputable def nxO (o : Nat × Nat × Nat) (i : Nat) : Nat := (ordL o)[i]?.getD 0
/-- the rows' texts -/
structure RowsOk (R : Nat → List Nat) : Prop where
  c : ∀ i, ∀ c ∈ R i, c = 40 ∨ c = 41
  l : ∀ i, (R i).length ≤ 10
theorem RowsOk.a {R : Nat → List Nat} (h : RowsOk R) (i : Nat) : ∀ c ∈ R i, c < 128 := fun c hc => by rcases h.c i c hc with h | h <;> omega
theorem RowsOk.flat {R : Nat → List Nat} (h : RowsOk R) (ks : List Nat) : (∀ c ∈ (ks.map R).flatten, c < 128) ∧ (ks.map R).flatten.length ≤ 10 * ks.length ∧ ((ks.map R).map (·.length)).sum ≤ 10 * ks.length := by
  induction ks with
  | nil => simp
  | cons a r ih =>
    obtain ⟨i1, i2, i3⟩ := ih
    have := h.l a
    refine ⟨fun c hc => ?_, ?_, ?_⟩
    · simp only [List.map_cons, List.flatten_cons, List.mem_append] at hc
      rcases hc with hc | hc
      · exact h.a a c hc
      · exact i1 c hc
    · simp only [List.map_cons, List.flatten_cons, List.length_append, List.length_cons]; omega
    · simp only [List.map_cons, List.sum_cons, List.length_cons]; omega
section
variable {C : Cx} {s₀ s : Shared} {W : List Addr} {A : Around} {E : Value → Shared → Prop} {n : List (Addr × Obj)} {nn : Tok → List (Addr × Obj)} {L : Addr} {v1 v2 v3 v4 v5 v6 v7 v8 v9 v10 v11 v12 : Option Value}
theorem so0 {o : Nat × Nat × Nat} {T rl bw : Addr} {t1 t2 t3 : Tok} {rws bwv : List Value} {bwi : List Int} {er ebw : Nat} {R : Nat → List Nat} {x1 x3 x4 : Value} {Q : Flow → Shared → Prop} (hA : Ok A 80) (hR : RowsOk R)
    (ho : ∀ k ∈ ordL o, k < 3) (hT : (T, ordT o t1 t2 t3) ∈ n) (hc : (L + 8, cellObj (some (.ref T))) ∈ n) (hr : (L + 6, cellObj (some (.ref rl))) ∈ n) (hrl : (rl, listObj rws er) ∈ n) (hrw : SL rws ((List.range 3).map R)) (hbw : (bw, listObj bwv ebw) ∈ n) (hbl : bwv.length ≤ 20) (hbi : IntsAre bwv bwi)
    (U : ∀ t, Upd bw (listObj (bwv ++ [.int (lackF ((ordL o).map R).flatten) t]) (ebw + 1)) n (nn t))
    (h : ∀ t, ∀ s, St C s₀ W (lE L) [] s (MO L x1 (.ref bw) x3 x4) (nn t) → Q .next s) :
    ∀ s, St C s₀ W (lE L) [] s (MO L x1 (.ref bw) x3 x4) n → wpAny (MM C.w) A (exec ob0.st (lE L)) Q E s := by
  repeat' tb_start
  refine t_comp [("rows", L + 6)] (by with_unfolding_all rfl) (by rfl) (by decide +kernel) ?_
  repeat' tb_start
  refine comp_core (mc := McO0 none (L + 6)) (fun i ys m₁ n₁ => ∃ va, m₁ = McO0 va (L + 6) ∧ n₁ = n ∧ SL ys (((ordL o).take i).map R)) hA.hh (iter_tup (vs := [.int o.1 t1, .int o.2.1 t2, .int o.2.2 t3]) hT) ?_ (by decide +kernel) (by rfl) ?_ (by exact (by decide +kernel : (["k", "rows"] : List Str).Nodup)) ⟨_, rfl, rfl, .nil⟩ ?_ ?_
  · rintro i ys m₁ n₁ ⟨_, rfl, hn, _⟩ p hp
    obtain rfl := List.mem_singleton.mp hp
    rw [hn]; exact hT
  · exact fun a => ⟨⟨by rfl, rfl⟩, ⟨.inl (by rfl), by rfl⟩, trivial⟩
  · rintro i v ys m₁ n₁ I oI D' e' L' oL c E' hi hv ⟨va, rfl, hn, hy⟩
    subst hn
    have hi : i < 3 := by simpa using hi
    obtain ⟨k, tk, rfl, hk⟩ : ∃ k tk, v = .int (k : Nat) tk ∧ (ordL o)[i]? = some k := by
      have : i = 0 ∨ i = 1 ∨ i = 2 := in3 (by first | assumption | omega)
      rcases this with rfl | rfl | rfl <;> cases hv <;> exact ⟨_, _, rfl, rfl⟩
    have hk3 := ho k (List.mem_of_getElem? hk)
    obtain ⟨tr, htr⟩ := hrw.get (i := k) (y := R k) (by simp [hk3])
    repeat' tb_start
    refine t_tests0 ?_
    repeat' tb_start
    refine i_list (by news_at) (by omega) (by rw [Int.toNat_natCast]; exact htr) (by omega) ?_
    intro s₂ D₂
    refine ⟨by rw [hy.length, sizeLine_eq]; simp; omega, McO0 (some (.int k tk)) (L + 6), n₁, ⟨_, rfl, rfl, ?_⟩, D₂⟩
    rw [List.take_add_one, hk, List.map_append]
    exact hy.snoc _ _
  · rintro ys m₁ n₁ D' e' c oC s' ⟨va, rfl, hn, hy⟩ hC DD
    subst hn
    rw [show ([Value.int o.1 t1, .int o.2.1 t2, .int o.2.2 t3] : List Value).length = (ordL o).length from rfl, List.take_length] at hy
    obtain ⟨f1, f2, f3⟩ := hR.flat (ordL o)
    have hol : (ordL o).length = 3 := rfl
    refine compPost_val hC DD ?_
    repeat' tb_start
    refine c_join (a := []) (by news_at) hy (by decide) (by simp only [List.length_map]; omega) ?_
    intro t9
    rw [joinL_nil]
    repeat' tb_start
    refine s_lack (hA.le (by decide)) f1 (by omega) ?_
    intro t10
    repeat' tb_start
    refine c_append (by news_at) (.tail (U t10)) (by rw [sizeLine_eq]; omega) ?_
    repeat' tb_start
    exact t_forget (.cons _ (.refl _)) (h t10)
end
noncomputable def seatL (o : Nat × Nat × Nat) (i : Nat) : List (List Nat × List Nat) := (List.range i).map fun k => ([65 + k], [97 + nxO o k])
noncomputable abbrev McO1 (va : Option Value) (c : Addr) : List (Str × Bnd) := [("k", .loc va), ("order", .cel c)]
theorem plain_l1 (i : Nat) (h : i < 20) : Plain [97 + i] := fun c hc => by rw [List.mem_singleton] at hc; omega
section
variable {C : Cx} {s₀ s : Shared} {W : List Addr} {A : Around} {E : Value → Shared → Prop} {n : List (Addr × Obj)} {nn : Tok → List (Addr × Obj)} {L : Addr} {v1 v2 v3 v4 v5 v6 v7 v8 v9 v10 v11 v12 : Option Value}
theorem so1 {o : Nat × Nat × Nat} {T : Addr} {t1 t2 t3 : Tok} {x1 x2 x3 x4 : Value} {Q : Flow → Shared → Prop} (hA : Ok A 80)
    (ho : ∀ k ∈ ordL o, k < 3) (hT : (T, ordT o t1 t2 t3) ∈ n) (hc : (L + 8, cellObj (some (.ref T))) ∈ n)
    (h : ∀ S dx od sl vs e ts, HdP od sl vs ts (seatL o 3) → ∀ s, St C s₀ W (lE L) [] s (Lc "seats" (.ref S) :: MO L x1 x2 x3 x4) (hdL S dx od sl vs e ts ++ n) → Q .next s) :
    ∀ s, St C s₀ W (lE L) [] s (MO L x1 x2 x3 x4) n → wpAny (MM C.w) A (exec ob1.st (lE L)) Q E s := by
  repeat' tb_start
  refine t_comp [("order", L + 8)] (by with_unfolding_all rfl) (by rfl) (by decide +kernel) ?_
  repeat' tb_start
  rename_i t9
  refine c_range1 ?_
  intro rg u w
  refine comp_core (mc := McO1 none (L + 8)) (fun i ys m₁ n₁ => ∃ va ts, m₁ = McO1 va (L + 8) ∧ n₁ = ts ++ (rg, rangeObj 0 3 u t9 w) :: n ∧ TP ys ts (seatL o i)) hA.hh (iter_range (by news_at) (by omega) (by omega)) (by intro _ _ _ _ _ p hp; cases hp) (by decide +kernel) (by rfl) ?_ (by exact (by decide +kernel : (["k", "order"] : List Str).Nodup)) ⟨_, [], rfl, rfl, .nil⟩ ?_ ?_
  · exact fun a => ⟨⟨by rfl, rfl⟩, ⟨.inl (by rfl), by rfl⟩, trivial⟩
  · rintro i v ys m₁ n₁ I oI D' e' L' oL c E' hi ⟨tk, rfl⟩ ⟨va, ts, rfl, hn, hy⟩
    subst hn
    have hi : i < 3 := by simpa using hi
    rw [Int.zero_add]
    obtain ⟨z, tz, hz, hv⟩ : ∃ (z : Nat) (tz : Tok), ([.int o.1 t1, .int o.2.1 t2, .int o.2.2 t3] : List Value)[(i : Int).toNat]? = some (.int (z : Nat) tz) ∧ (ordL o)[i]? = some z := by
      rw [Int.toNat_natCast]
      have : i = 0 ∨ i = 1 ∨ i = 2 := in3 (by first | assumption | omega)
      rcases this with rfl | rfl | rfl <;> exact ⟨_, _, rfl, rfl⟩
    have hz3 := ho z (List.mem_of_getElem? hv)
    have hnx : nxO o i = z := by unfold nxO; rw [hv]; rfl
    repeat' tb_start
    refine t_tests0 ?_
    repeat' tb_start
    refine i_str (by omega) (by omega) (c := 65 + i) ?_ ?_
    · rw [Int.toNat_natCast]
      have : i = 0 ∨ i = 1 ∨ i = 2 := in3 (by first | assumption | omega)
      rcases this with rfl | rfl | rfl <;> rfl
    intro u1
    repeat' tb_start
    refine i_tup (l := T) (vs := [.int o.1 t1, .int o.2.1 t2, .int o.2.2 t3]) (by news_at) (by omega) hz (by omega) ?_
    refine i_str (by omega) (by omega) (c := 97 + z) ?_ ?_
    · rw [Int.toNat_natCast]
      have : z = 0 ∨ z = 1 ∨ z = 2 := in3 (by first | assumption | omega)
      rcases this with rfl | rfl | rfl <;> rfl
    intro u2
    repeat' tb_start
    rename_i TT
    intro s₂ D₂
    refine ⟨by rw [hy.len, sizeLine_eq]; simp [seatL]; omega, McO1 (some (.int i tk)) (L + 8), (TT, tupObj [.str (strOf [65 + i]) u1, .str (strOf [97 + z]) u2]) :: (ts ++ (rg, rangeObj 0 3 u t9 w) :: n), ⟨_, (TT, tupObj [.str (strOf [65 + i]) u1, .str (strOf [97 + z]) u2]) :: ts, rfl, rfl, ?_⟩, ?_⟩
    · unfold seatL
      rw [List.range_succ, List.map_append, List.map_cons, List.map_nil, hnx]
      exact hy.snoc TT _ _ _ _
    · exact D₂.perm (List.perm_middle (l₁ := [(I, oI), (D', listObj ys e'), (L', oL)]))
  · rintro ys m₁ n₁ D' e' c oC s' ⟨va, ts, rfl, hn, hy⟩ hC DD
    subst hn
    refine compPost_val hC DD ?_
    repeat' tb_start
    refine s_headersL (hA.le (by decide)) hy ?_ (by simp [seatL]) ?_
    · intro p hp
      obtain ⟨k, hk, rfl⟩ := List.mem_map.mp hp
      have hk : k < 3 := by simpa using List.mem_range.mp hk
      refine ⟨(good_u1 k hk).1, plain_l1 _ ?_, by simp⟩
      have : nxO o k < 3 := by
        obtain ⟨z, hz⟩ : ∃ z, (ordL o)[k]? = some z := ⟨(ordL o)[k]'(by simpa [ordL] using hk), by simp [ordL, hk]⟩
        unfold nxO
        rw [hz]
        exact ho z (List.mem_of_getElem? hz)
      omega
    intro S dx od P
    repeat' tb_start
    exact t_forget ((List.Sublist.refl _).append (.cons _ (.refl _))) (h S dx od D' ys e' ts P)
theorem so2 {x0 x1 x2 x3 x4 : Value} {Q : Flow → Shared → Prop} (hA : Ok A 20)
    (h : ∀ t t', ∀ s, St C s₀ W (lE L) [] s (Lc "lacks" (.int 0 t') :: Lc "gone" (.str (strOf []) t) :: Lc "seats" x0 :: MO L x1 x2 x3 x4) n → Q .next s) :
    ∀ s, St C s₀ W (lE L) [] s (Lc "seats" x0 :: MO L x1 x2 x3 x4) n → wpAny (MM C.w) A (exec ob2.st (lE L)) Q E s := by
  repeat' tb_start
  rename_i t t' TT
  exact t_forget (.cons _ (.refl _)) (h t t')
end
noncomputable def chO (ring : List Nat) : Nat := (ring.map (2 ^ ·)).sum
/-- the ring's flags, one by one -/
noncomputable def flagsI (low : Nat) (ring : List Nat) : List Int := ring.map fun i => 1 * 2 ^ (low + i)
theorem flagsI_sum (low : Nat) : ∀ ring : List Nat, (flagsI low ring).sum = ((chO ring : Nat) : Int) * 2 ^ low
  | [] => by simp [flagsI, chO]
  | a :: r => by
    have ih := flagsI_sum low r
    unfold flagsI chO at ih ⊢
    simp only [List.map_cons, List.sum_cons, ih]
    rw [Int.natCast_add, Int.add_mul, Int.one_mul, Int.pow_add, Int.natCast_pow, Int.mul_comm]
    rfl
theorem pf_some {low c : Nat} (hl : low < 30) (h1 : 1 ≤ c) (h2 : c ≤ 7) : pfGo 32 0 ((c : Int) * 2 ^ low) [] = some (nmsF low c) := by
  have h := nf1 ⟨low, hl⟩ ⟨c - 1, by omega⟩
  dsimp only at h
  rw [show c - 1 + 1 = c by omega] at h
  obtain ⟨x, hx⟩ := Option.isSome_iff_exists.mp h
  unfold nmsF
  rw [hx]; rfl
theorem name_ok {low c : Nat} (hl : low < 30) (h1 : 1 ≤ c) (h2 : c ≤ 7) : Plain (nameF low c) ∧ (nameF low c).length ≤ 100 := by
  have h := nf2 ⟨low, hl⟩ ⟨c - 1, by omega⟩
  dsimp only at h
  rw [show c - 1 + 1 = c by omega, Bool.and_eq_true] at h
  refine ⟨fun x hx => ?_, of_decide_eq_true h.2⟩
  have := List.all_eq_true.mp h.1 x hx
  simpa using this
noncomputable abbrev McS2 (va : Option Value) (c : Addr) : List (Str × Bnd) := [("letter", .loc va), ("low", .cel c)]
noncomputable abbrev MSeat (seat lacks gone seats : Value) (m : List (Str × Bnd)) : List (Str × Bnd) := Lc "seat" seat :: Lc "lacks" lacks :: Lc "gone" gone :: Lc "seats" seats :: m
section
variable {C : Cx} {s₀ s : Shared} {W : List Addr} {A : Around} {E : Value → Shared → Prop} {n q1 q2 r : List (Addr × Obj)} {L : Addr} {v1 v2 v3 v4 v5 v6 v7 v8 v9 v10 v11 v12 : Option Value}
theorem ss0 {S dx hl : Addr} {od : Obj} {vs : List Value} {e : Nat} {ts : List (Addr × Obj)} {l : List (List Nat × List Nat)} {nx : Nat → Nat} {i : Nat} {ti : Tok} {lam : List (Addr × Obj)} {x1 x2 x3 x4 y1 y2 : Value} {Q : Flow → Shared → Prop} (hA : Ok A 100) (P : HdP od hl vs ts l)
    (hin : ∀ p ∈ hdL S dx od hl vs e ts, p ∈ q1) (hnd : ((hdL S dx od hl vs e ts).map (·.1)).Nodup) (hi : i < 3) (hnx : ∀ i, i < 3 → nx i < 3 ∧ getF l (lw [97 + i]) = some [97 + nx i]) (hlam : LamP lam)
    (h : ∀ t lam', LamP lam' → ∀ s, St C s₀ W (lE L) [] s (MSeat (.str (strOf [97 + i]) ti) y1 y2 (.ref S) (MO L x1 x2 x3 x4)) (lam' ++ (q1 ++ (q2 ++ K12 L v1 v2 v3 v4 v5 v6 v7 v8 (some (.str (strOf (ltr (wayF nx i))) t)) v10 v11 v12 r))) → Q .next s) :
    ∀ s, St C s₀ W (lE L) [] s (MSeat (.str (strOf [97 + i]) ti) y1 y2 (.ref S) (MO L x1 x2 x3 x4)) (lam ++ (q1 ++ (q2 ++ K12 L v1 v2 v3 v4 v5 v6 v7 v8 v9 v10 v11 v12 r))) → wpAny (MM C.w) A (exec is0.st (lE L)) Q E s := by
  repeat' tb_start
  refine s_way (hA.le (by decide)) P (e := e) (dx := dx) (fun p hp => List.mem_append_left _ (hin p hp)) hnd hi hnx hlam ?_
  intro t lam' hlam'
  repeat' tb_start
  exact h t lam' hlam'
theorem ss1 {g ring : List Nat} {tg tr : Tok} {x1 x2 x3 x4 y1 y3 y4 : Value} {Q : Flow → Shared → Prop} (hA : Ok A 10) (hg : g.length ≤ 10) (hr : ring.length ≤ 10) (hc : (L + 9, cellObj (some (.str (strOf (ltr ring)) tr))) ∈ n)
    (h : ∀ t, ∀ s, St C s₀ W (lE L) [] s (MSeat y1 y3 (.str (strOf (ltr (g ++ ring))) t) y4 (MO L x1 x2 x3 x4)) n → Q .next s) :
    ∀ s, St C s₀ W (lE L) [] s (MSeat y1 y3 (.str (strOf (ltr g)) tg) y4 (MO L x1 x2 x3 x4)) n → wpAny (MM C.w) A (exec is1.st (lE L)) Q E s := by
  repeat' tb_start
  refine o_adds (by rw [sizeLine_eq]; simp [ltr]; omega) ?_
  intro t
  have e : ltr g ++ ltr ring = ltr (g ++ ring) := by simp [ltr]
  rw [e]
  repeat' tb_start
  exact h t
theorem ss2 {ring : List Nat} {low : Nat} {tr tl : Tok} {x1 x2 x3 x4 y1 y2 y3 y4 : Value} {Q : Flow → Shared → Prop} (hA : Ok A 40) (hl : low < 30) (hr : ring.length ≤ 3) (hr3 : ∀ j ∈ ring, j < 3) (hc1 : 1 ≤ chO ring) (hc2 : chO ring ≤ 7)
    (hc : (L + 9, cellObj (some (.str (strOf (ltr ring)) tr))) ∈ n) (hlo : (L + 3, cellObj (some (.int low tl))) ∈ n)
    (h : ∀ t, ∀ s, St C s₀ W (lE L) [] s (Lc "name" (.str (strOf (nameF low (chO ring))) t) :: MSeat y1 y2 y3 y4 (MO L x1 x2 x3 x4)) n → Q .next s) :
    ∀ s, St C s₀ W (lE L) [] s (MSeat y1 y2 y3 y4 (MO L x1 x2 x3 x4)) n → wpAny (MM C.w) A (exec is2.st (lE L)) Q E s := by
  repeat' tb_start
  refine t_comp [("low", L + 3)] (by with_unfolding_all rfl) (by rfl) (by decide +kernel) ?_
  repeat' tb_start
  refine comp_core (mc := McS2 none (L + 3)) (fun i ys m₁ n₁ => ∃ va, m₁ = McS2 va (L + 3) ∧ n₁ = n ∧ IntsAre ys (flagsI low (ring.take i))) hA.hh (iter_str (x := ltr ring) ?_) (by intro _ _ _ _ _ p hp; cases hp) (by decide +kernel) (by rfl) ?_ (by exact (by decide +kernel : (["letter", "low"] : List Str).Nodup)) ⟨_, rfl, rfl, .nil⟩ ?_ ?_
  · intro c hc
    obtain ⟨j, hj, rfl⟩ := List.mem_map.mp hc
    have := hr3 j hj
    omega
  · exact fun a => ⟨⟨by rfl, rfl⟩, ⟨.inl (by rfl), by rfl⟩, trivial⟩
  · rintro i v ys m₁ n₁ I oI D' e' L' oL c E' hi ⟨cc, u, hcc, rfl⟩ ⟨va, rfl, hn, hy⟩
    subst hn
    obtain ⟨j, hj, rfl⟩ : ∃ j, ring[i]? = some j ∧ cc = 97 + j := by
      simp only [ltr, List.getElem?_map, Option.map_eq_some_iff] at hcc
      obtain ⟨j, hj, e⟩ := hcc
      exact ⟨j, hj, e.symm⟩
    have hj3 := hr3 j (List.mem_of_getElem? hj)
    repeat' tb_start
    refine t_tests0 ?_
    repeat' tb_start
    refine c_idx hA.hh hj3 ?_
    intro t7
    repeat' tb_start
    refine o_shl (by omega) (by omega) (by decide) ?_
    intro t8 s₂ D₂
    refine ⟨by rw [hy.length, sizeLine_eq]; simp [flagsI]; omega, McS2 (some (.str (strOf [97 + j]) u)) (L + 3), n₁, ⟨_, rfl, rfl, ?_⟩, D₂⟩
    have e2 : flagsI low (ring.take (i + 1)) = flagsI low (ring.take i) ++ [1 * 2 ^ (low + j)] := by
      rw [List.take_add_one, hj]; simp [flagsI]
    rw [e2, show ((low : Int) + (j : Int)).toNat = low + j by omega]
    exact hy.append (.cons _ _ .nil)
  · rintro ys m₁ n₁ D' e' c oC s' ⟨va, rfl, hn, hy⟩ hC DD
    subst hn
    rw [show (ltr ring).length = ring.length by simp [ltr], List.take_length] at hy
    refine compPost_val hC DD ?_
    repeat' tb_start
    refine c_sum hA.hh (by news_at) hy ?_
    rw [flagsI_sum]
    intro t9
    repeat' tb_start
    refine s_flags (hA.le (by decide)) (pf_some hl hc1 hc2) ?_
    intro t10
    repeat' tb_start
    exact t_forget (.cons _ (.refl _)) (h t10)
end
theorem slc_ns {x : List Nat} {j : Int} (h0 : 0 ≤ j) (h1 : j ≤ x.length) : slc x none (some j) = x.take j.toNat := by
  have := slice_closes_to (x := strOf x) (j := j) ⟨h0, by simpa [strOf] using h1⟩
  have := eq_of_beq this
  rw [slc, this]; simp [strOf]
noncomputable def cutsR (ring : List Nat) (k : Nat) : List (List Nat) := (List.range k).map fun j => ring.drop j ++ ring.take j
noncomputable def minL : List Int → Int
  | [] => 0
  | [a] => a
  | a :: b :: r => min a (minL (b :: r))
theorem minL_ok : ∀ {l : List Int}, l ≠ [] → minL l ∈ l ∧ ∀ a ∈ l, minL l ≤ a
  | [], h => absurd rfl h
  | [a], _ => ⟨.head _, fun b hb => by rw [List.mem_singleton.mp hb]; exact Int.le_refl _⟩
  | a :: b :: r, _ => by
    obtain ⟨h1, h2⟩ := minL_ok (l := b :: r) (by simp)
    have e : minL (a :: b :: r) = min a (minL (b :: r)) := rfl
    rw [e]
    refine ⟨?_, fun c hc => ?_⟩
    · rcases Int.le_total a (minL (b :: r)) with h | h
      · rw [Int.min_eq_left h]; exact .head _
      · rw [Int.min_eq_right h]; exact .tail _ h1
    · rcases List.mem_cons.mp hc with rfl | hc
      · exact Int.min_le_left _ _
      · exact Int.le_trans (Int.min_le_right _ _) (h2 c hc)
theorem minL_unique {l : List Int} {M : Int} (h1 : M ∈ l) (h2 : ∀ a ∈ l, M ≤ a) : M = minL l := by
  obtain ⟨a, b⟩ := minL_ok (l := l) (fun e => by rw [e] at h1; cases h1)
  exact Int.le_antisymm (h2 _ a) (b _ h1)
theorem lackGo_bounds (row : List Nat) (more : Int) : ∀ (f : Nat) (a : Int), a ≤ lackGo row more f a ∧ lackGo row more f a ≤ a + f
  | 0, a => ⟨Int.le_refl _, by simp [lackGo]⟩
  | f + 1, a => by
    unfold lackGo
    split
    · have := lackGo_bounds row more f (a + 1)
      omega
    · omega
theorem lackF_bounds (row : List Nat) : 0 ≤ lackF row ∧ lackF row ≤ 2 * row.length + 2 := by
  have h := lackGo_bounds row (moreF row) (row.length + 2) (max 0 (-moreF row))
  have h1 : row.count 40 ≤ row.length := List.count_le_length
  have h2 : row.count 41 ≤ row.length := List.count_le_length
  have hm : -moreF row ≤ row.length := by unfold moreF; omega
  unfold lackF
  omega
/-- what a ring lacks, cut open where it lacks least -/
noncomputable def ringLack (R : Nat → List Nat) (ring : List Nat) : Int := minL (((cutsR ring ring.length).map fun c => (c.map R).flatten).map lackF)
noncomputable abbrev McL0 (va : Option Value) (c : Addr) : List (Str × Bnd) := [("j", .loc va), ("ring", .cel c)]
noncomputable abbrev McL1 (va : Option Value) (c : Addr) : List (Str × Bnd) := [("cut", .loc va), ("rows", .cel c)]
noncomputable abbrev McL1b (va : Option Value) (c : Addr) : List (Str × Bnd) := [("letter", .loc va), ("rows", .cel c)]
noncomputable abbrev McL2 (va : Option Value) : List (Str × Bnd) := [("cut", .loc va)]
theorem cuts_len {ring : List Nat} : ∀ c ∈ cutsR ring ring.length, c.length = ring.length ∧ ∀ j ∈ c, j ∈ ring := fun c hc => by
  obtain ⟨j, hj, rfl⟩ := List.mem_map.mp hc
  have := List.mem_range.mp hj
  refine ⟨by simp; omega, fun k hk => ?_⟩
  rcases List.mem_append.mp hk with hk | hk
  · exact List.mem_of_mem_drop hk
  · exact List.mem_of_mem_take hk
noncomputable abbrev MN (name seat lacks gone seats : Value) (m : List (Str × Bnd)) : List (Str × Bnd) := Lc "name" name :: MSeat seat lacks gone seats m
section
variable {C : Cx} {s₀ s : Shared} {W : List Addr} {A : Around} {E : Value → Shared → Prop} {n q1 q2 r : List (Addr × Obj)} {L : Addr} {v1 v2 v3 v4 v5 v6 v7 v8 v9 v10 v11 v12 : Option Value}
theorem sl0 {ring : List Nat} {tr : Tok} {x1 x2 x3 x4 y0 y1 y2 y3 y4 : Value} {Q : Flow → Shared → Prop} (hA : Ok A 40) (hr : ring.length ≤ 3) (hc : (L + 9, cellObj (some (.str (strOf (ltr ring)) tr))) ∈ n)
    (h : ∀ D ws e, SL ws ((cutsR ring ring.length).map ltr) → ∀ s, St C s₀ W (lE L) [] s (Lc "cuts" (.ref D) :: MN y0 y1 y2 y3 y4 (MO L x1 x2 x3 x4)) ((D, listObj ws e) :: n) → Q .next s) :
    ∀ s, St C s₀ W (lE L) [] s (MN y0 y1 y2 y3 y4 (MO L x1 x2 x3 x4)) n → wpAny (MM C.w) A (exec il0.st (lE L)) Q E s := by
  have hll : (ltr ring).length = ring.length := by simp [ltr]
  refine t_compA [("ring", L + 9)] (by with_unfolding_all rfl) (by rfl) (by decide +kernel) (by with_unfolding_all rfl) ?_
  repeat' tb_start
  rename_i t1
  refine c_range1 ?_
  intro rg u w
  refine comp_core (mc := McL0 none (L + 9)) (fun i ys m₁ n₁ => ∃ va, m₁ = McL0 va (L + 9) ∧ n₁ = (rg, rangeObj 0 ((ltr ring).length : Nat) u t1 w) :: n ∧ SL ys ((cutsR ring i).map ltr)) hA.hh (iter_range (by news_at) (by omega) (by omega)) (by intro _ _ _ _ _ p hp; cases hp) (by decide +kernel) (by rfl) ?_ (by exact (by decide +kernel : (["j", "ring"] : List Str).Nodup)) ⟨_, rfl, rfl, .nil⟩ ?_ ?_
  · exact fun a => ⟨⟨by rfl, rfl⟩, ⟨.inl (by rfl), by rfl⟩, trivial⟩
  · rintro i v ys m₁ n₁ I oI D' e' L' oL c E' hi ⟨tk, rfl⟩ ⟨va, rfl, hn, hy⟩
    subst hn
    have hi : i < ring.length := by rw [hll] at hi; omega
    rw [Int.zero_add]
    repeat' tb_start
    refine t_tests0 ?_
    repeat' tb_start
    refine o_adds (by rw [sizeLine_eq, List.length_append]; have a1 := slc_len (ltr ring) (some (i : Int)) none; have a2 := slc_len (ltr ring) none (some (i : Int)); omega) ?_
    intro t7 s₂ D₂
    refine ⟨by rw [hy.length, sizeLine_eq]; simp [cutsR]; omega, McL0 (some (.int i tk)) (L + 9), _, ⟨_, rfl, rfl, ?_⟩, D₂⟩
    rw [slc_sn (by omega) (by omega), slc_ns (by omega) (by omega), Int.toNat_natCast]
    unfold cutsR
    rw [List.range_succ, List.map_append, List.map_append]
    have e3 : (ltr ring).drop i ++ (ltr ring).take i = ltr (ring.drop i ++ ring.take i) := by simp [ltr]
    rw [e3]
    exact hy.snoc _ _
  · rintro ys m₁ n₁ D' e' c oC s' ⟨va, rfl, hn, hy⟩ hC DD
    subst hn
    rw [show (((ltr ring).length : Nat) - (0 : Int)).toNat = ring.length by omega] at hy
    refine t_asgName (t_stn (by with_unfolding_all rfl) (by with_unfolding_all rfl) (fun s'' D'' => ?_)) s' DD
    obtain ⟨mC, hmC⟩ := hC s'' (D''.nw _ (.head _)).1
    exact ⟨mC, hmC, fun h' hs => h D' ys e' hy _ ((D''.drop s''.drawn s''.toks hs.extBut).sub (.cons_cons _ (.cons _ (.refl _))))⟩
theorem sl1 {D rl : Addr} {ws rws : List Value} {e er : Nat} {cs : List (List Nat)} {R : Nat → List Nat} {x1 x2 x3 x4 y0 y1 y2 y3 y4 : Value} {Q : Flow → Shared → Prop} (hA : Ok A 40) (hR : RowsOk R) (hw : SL ws (cs.map ltr)) (hcs : cs.length ≤ 3) (hcl : ∀ c ∈ cs, c.length ≤ 3 ∧ ∀ j ∈ c, j < 3)
    (hD : (D, listObj ws e) ∈ n) (hr : (L + 6, cellObj (some (.ref rl))) ∈ n) (hrl : (rl, listObj rws er) ∈ n) (hrw : SL rws ((List.range 3).map R))
    (h : ∀ D ws e, SL ws (cs.map fun c => (c.map R).flatten) → ∀ s, St C s₀ W (lE L) [] s (Lc "cuts" (.ref D) :: MN y0 y1 y2 y3 y4 (MO L x1 x2 x3 x4)) ((D, listObj ws e) :: n) → Q .next s) :
    ∀ s, St C s₀ W (lE L) [] s (Lc "cuts" (.ref D) :: MN y0 y1 y2 y3 y4 (MO L x1 x2 x3 x4)) n → wpAny (MM C.w) A (exec il1.st (lE L)) Q E s := by
  refine t_compA [("rows", L + 6)] (by with_unfolding_all rfl) (by rfl) (by decide +kernel) (by with_unfolding_all rfl) ?_
  repeat' tb_start
  refine comp_core (mc := McL1 none (L + 6)) (fun i ys m₁ n₁ => ∃ va, m₁ = McL1 va (L + 6) ∧ n₁ = n ∧ SL ys ((cs.take i).map fun c => (c.map R).flatten)) hA.hh (iter_list hD) ?_ (by decide +kernel) (by rfl) ?_ (by exact (by decide +kernel : (["cut", "rows"] : List Str).Nodup)) ⟨_, rfl, rfl, .nil⟩ ?_ ?_
  · rintro i ys m₁ n₁ ⟨_, rfl, hn, _⟩ p hp
    obtain rfl := List.mem_singleton.mp hp
    rw [hn]; exact hD
  · exact fun a => ⟨⟨by rfl, rfl⟩, ⟨.inl (by rfl), by rfl⟩, trivial⟩
  · rintro i v ys m₁ n₁ I oI D' e' L' oL c E' hi hv ⟨va, rfl, hn, hy⟩
    subst hn
    have hil : i < cs.length := by rw [hw.length, List.length_map] at hi; exact hi
    obtain ⟨tc, htc⟩ := hw.get (i := i) (y := ltr cs[i]) (by simp [hil])
    obtain rfl : v = .str (strOf (ltr cs[i])) tc := Option.some.inj (hv.symm.trans htc)
    obtain ⟨h1, h2⟩ := hcl cs[i] (List.getElem_mem hil)
    have hgi : cs[i]? = some cs[i] := by simp [hil]
    generalize cs[i] = ct at *
    obtain ⟨f1, f2, f3⟩ := hR.flat ct
    repeat' tb_start
    refine t_tests0 ?_
    repeat' tb_start
    refine t_comp [("rows", L + 6)] (by with_unfolding_all rfl) (by rfl) (by decide +kernel) ?_
    repeat' tb_start
    refine comp_core (mc := McL1b none (L + 6)) (fun j ys' m₂ n₂ => ∃ va, m₂ = McL1b va (L + 6) ∧ n₂ = (I, oI) :: (D', listObj ys e') :: (L', oL) :: n₁ ∧ SL ys' ((ct.take j).map R)) hA.hh (iter_str (x := ltr ct) ?_) (by intro _ _ _ _ _ p hp; cases hp) (by decide +kernel) (by rfl) ?_ (by exact (by decide +kernel : (["letter", "rows"] : List Str).Nodup)) ⟨_, rfl, rfl, .nil⟩ ?_ ?_
    · intro cc hcc
      obtain ⟨j, hj, rfl⟩ := List.mem_map.mp hcc
      have := h2 j hj
      omega
    · exact fun a => ⟨⟨by rfl, rfl⟩, ⟨.inl (by rfl), by rfl⟩, trivial⟩
    · rintro j v ys' m₂ n₂ I2 oI2 D2 e2 L2 oL2 c2 E2 hj ⟨cc, u, hcc, rfl⟩ ⟨va2, rfl, hn2, hy2⟩
      subst hn2
      obtain ⟨k, hk, rfl⟩ : ∃ k, ct[j]? = some k ∧ cc = 97 + k := by
        simp only [ltr, List.getElem?_map, Option.map_eq_some_iff] at hcc
        obtain ⟨k, hk, e⟩ := hcc
        exact ⟨k, hk, e.symm⟩
      have hk3 := h2 k (List.mem_of_getElem? hk)
      obtain ⟨tr, htr⟩ := hrw.get (i := k) (y := R k) (by simp [hk3])
      repeat' tb_start
      refine t_tests0 ?_
      repeat' tb_start
      refine c_idx hA.hh hk3 ?_
      intro t7
      repeat' tb_start
      refine i_list (by news_at) (by omega) (by rw [Int.toNat_natCast]; exact htr) (by omega) ?_
      intro s₂ D₂
      refine ⟨by rw [hy2.length, sizeLine_eq]; simp; omega, McL1b (some (.str (strOf [97 + k]) u)) (L + 6), _, ⟨_, rfl, rfl, ?_⟩, D₂⟩
      rw [List.take_add_one, hk, List.map_append]
      exact hy2.snoc _ _
    · rintro ys' m₂ n₂ D2 e2 c2 oC2 s2 ⟨va2, rfl, hn2, hy2⟩ hC2 DD2
      subst hn2
      rw [show (ltr ct).length = ct.length by simp [ltr], List.take_length] at hy2
      refine compPost_val hC2 DD2 ?_
      repeat' tb_start
      refine c_join (a := []) (by news_at) hy2 (by decide) (by simp only [List.length_map]; omega) ?_
      intro t9
      rw [joinL_nil]
      repeat' tb_start
      intro s₃ D₃
      refine ⟨by rw [hy.length, sizeLine_eq]; simp; omega, McL1 (some (.str (strOf (ltr ct)) tc)) (L + 6), n₁, ⟨_, rfl, rfl, ?_⟩, D₃.sub (.cons _ (.refl _))⟩
      rw [List.take_add_one, hgi, List.map_append]
      exact hy.snoc _ _
  · rintro ys m₁ n₁ D' e' c oC s' ⟨va, rfl, hn, hy⟩ hC DD
    subst hn
    rw [hw.length, List.length_map, List.take_length] at hy
    refine t_asgName (t_stl .head (fun s'' D'' => ?_) ⟨_, .head _⟩) s' DD
    obtain ⟨mC, hmC⟩ := hC s'' (D''.nw _ (.head _)).1
    exact ⟨mC, hmC, fun h' hs => h D' ys e' hy _ (D''.drop s''.drawn s''.toks hs.extBut)⟩
theorem sl2 {D : Addr} {ws : List Value} {e : Nat} {cs : List (List Nat)} {fr : Int} {tf : Tok} {x1 x2 x4 y0 y1 y2 y3 y4 : Value} {Q : Flow → Shared → Prop} (hA : Ok A 80) (hw : SL ws cs) (hcs : cs.length ≤ 3) (hne : cs ≠ []) (hcl : ∀ c ∈ cs, c.length ≤ 40 ∧ ∀ j ∈ c, j < 128)
    (hD : (D, listObj ws e) ∈ n)
    (h : ∀ t t', ∀ s, St C s₀ W (lE L) [] s (Lc "laid" (.str (strOf (List.replicate (minL (cs.map lackF)).toNat 40)) t) :: Lc "cuts" (.ref D) :: MN y0 y1 y2 y3 y4 (MO L x1 x2 (.int (fr + 1) t') x4)) n → Q .next s) :
    ∀ s, St C s₀ W (lE L) [] s (Lc "cuts" (.ref D) :: MN y0 y1 y2 y3 y4 (MO L x1 x2 (.int fr tf) x4)) n → wpAny (MM C.w) A (exec il2.st (lE L)) Q E s := by
  have hns : ∀ a ∈ cs.map lackF, 0 ≤ a ∧ a ≤ 82 := fun a ha => by
    obtain ⟨c, hc, rfl⟩ := List.mem_map.mp ha
    have := lackF_bounds c
    have := (hcl c hc).1
    omega
  refine t_asgSw ["fresh", "laid"] ?_
  repeat' tb_start
  refine t_comp [] (by with_unfolding_all rfl) (by rfl) (by decide +kernel) ?_
  repeat' tb_start
  refine comp_core (mc := McL2 none) (fun i ys m₁ n₁ => ∃ va, m₁ = McL2 va ∧ n₁ = n ∧ IntsAre ys ((cs.take i).map lackF)) hA.hh (iter_list (by news_at)) ?_ (by decide +kernel) (by rfl) ?_ (by exact (by decide +kernel : (["cut"] : List Str).Nodup)) ⟨_, rfl, rfl, .nil⟩ ?_ ?_
  · rintro i ys m₁ n₁ ⟨_, rfl, hn, _⟩ p hp
    obtain rfl := List.mem_singleton.mp hp
    rw [hn]; news_at
  · exact fun a => ⟨⟨by rfl, rfl⟩, trivial⟩
  · rintro i v ys m₁ n₁ I oI D' e' L' oL c E' hi hv ⟨va, rfl, hn, hy⟩
    subst hn
    have hil : i < cs.length := by rw [hw.length] at hi; exact hi
    obtain ⟨tc, htc⟩ := hw.get (i := i) (y := cs[i]) (by simp [hil])
    obtain rfl : v = .str (strOf cs[i]) tc := Option.some.inj (hv.symm.trans htc)
    obtain ⟨h1, h2⟩ := hcl cs[i] (List.getElem_mem hil)
    have hgi : cs[i]? = some cs[i] := by simp [hil]
    generalize cs[i] = ct at *
    repeat' tb_start
    refine t_tests0 ?_
    repeat' tb_start
    refine s_lack (hA.le (by decide)) h2 (by omega) ?_
    intro t7 s₂ D₂
    refine ⟨by rw [hy.length, sizeLine_eq]; simp; omega, McL2 (some (.str (strOf ct) tc)), n₁, ⟨_, rfl, rfl, ?_⟩, D₂⟩
    rw [List.take_add_one, hgi, List.map_append]
    exact hy.append (.cons _ _ .nil)
  · rintro ys m₁ n₁ D' e' c oC s' ⟨va, rfl, hn, hy⟩ hC DD
    subst hn
    rw [hw.length, List.take_length] at hy
    refine compPost_val hC DD ?_
    repeat' tb_start
    refine c_minL hA.hh (by news_at) hy (by simpa using hne) ?_
    intro M tM hM hall
    obtain rfl := minL_unique hM hall
    have hb := hns _ hM
    repeat' tb_start
    refine o_mulS (by omega) (by omega) ?_
    intro t8
    repeat' tb_start
    rename_i TT
    refine o_unpack hA.hh (by news_at) rfl ?_
    refine t_ordB ?_
    repeat' tb_start
    refine t_ordB ?_
    repeat' tb_start
    refine t_ordNil ?_
    exact t_forget (.cons _ (.cons _ (.refl _))) (h t8 _)
end
theorem perm3 {α : Type} (a b c d : List α) : (c ++ (a ++ (b ++ d))).Perm (a ++ (b ++ (c ++ d))) :=
  (List.perm_append_comm_assoc c a _).trans (List.Perm.append_left a (List.perm_append_comm_assoc c b d))
section
variable {C : Cx} {s₀ s : Shared} {W : List Addr} {A : Around} {E : Value → Shared → Prop} {n q1 q2 r lam : List (Addr × Obj)} {L : Addr} {v1 v2 v3 v4 v5 v6 v7 v8 v9 v10 v11 v12 : Option Value}
theorem c_upper {env : Env} {G : List (Nat × GenState)} {m : List (Str × Bnd)} {x : List Nat} {t : Tok} {Q : Value → Shared → Prop} (hl : (up x).length ≤ 1000) (h : ∀ t, ∀ s, St C s₀ W env G s m n → Q (.str (strOf (up x)) t) s) :
    ∀ s, St C s₀ W env G s m n → wpAny (MM C.w) A (call (.builtin "str.upper") ([.str (strOf x) t] ++ [])) Q E s := fun s D => by
  refine SC.upper ?_ ?_
  · rw [up_str, strOf_len]; unfold Builtin.Str.tooLong; simp [sizeLine_eq]; omega
  · rw [up_str]; exact h _ _ (D.tok _ _)
theorem sl3 {B dx bl : Addr} {ob : Obj} {vs : List Value} {e : Nat} {ts : List (Addr × Obj)} {l : List (List Nat × List Nat)} {nm ld : List Nat} {tn tl : Tok} {x1 x2 x3 yc y1 y2 y3 y4 : Value} {Q : Flow → Shared → Prop} (hA : Ok A 80) (P : HdP ob bl vs ts l) (hn : Plain nm) (hnl : nm.length ≤ 100) (hd : Plain ld) (hdl : ld.length ≤ 1000) (hl : l.length < 30) (hg : getF l (lw nm) = none)
    (h : ∀ vs' e' ts', HdP ob bl vs' ts' (l ++ [(nm, ld)]) → ∀ s, St C s₀ W (lE L) [] s (Lc "laid" (.str (strOf ld) tl) :: Lc "cuts" yc :: MN (.str (strOf nm) tn) y1 y2 y3 y4 (MO L x1 x2 x3 (.ref B))) (q1 ++ (lam ++ (hdL B dx ob bl vs' e' ts' ++ n))) → Q .next s) :
    ∀ s, St C s₀ W (lE L) [] s (Lc "laid" (.str (strOf ld) tl) :: Lc "cuts" yc :: MN (.str (strOf nm) tn) y1 y2 y3 y4 (MO L x1 x2 x3 (.ref B))) (q1 ++ (lam ++ (hdL B dx ob bl vs e ts ++ n))) → wpAny (MM C.w) A (exec il3.st (lE L)) Q E s := by
  refine t_perm (perm3 q1 lam (hdL B dx ob bl vs e ts) n) ?_
  have hH : ∀ {q : List (Addr × Obj)}, (B, instObj 309 dx) ∈ hdL B dx ob bl vs e ts ++ q := fun {q} => .head _
  have hdx : ∀ {q : List (Addr × Obj)}, (dx, ob) ∈ hdL B dx ob bl vs e ts ++ q := fun {q} => .tail _ (.head _)
  repeat' tb_start
  refine P.meth (f := 299) hH hdx (by kernel_rfl) (by kernel_rfl) (by kernel_rfl) ?_
  repeat' tb_start
  refine s_setdefault_new (hA.le (by decide)) P (hn.good (by omega)) hd hdl hl hg ?_
  intro vs' e' ts' P'
  repeat' tb_start
  refine t_itb (fun hq => absurd hq (by simp)) (fun hq => ?_)
  repeat' tb_start
  exact t_perm (perm3 q1 lam (hdL B dx ob bl vs' e' ts') n).symm (h vs' e' ts' P')
end
theorem plain_rep (k : Nat) : Plain (List.replicate k 40) := fun c hc => by rw [List.eq_of_mem_replicate hc]; decide
theorem ringLack_b {R : Nat → List Nat} (hR : RowsOk R) {ring : List Nat} (hr : ring.length ≤ 3) (hr0 : ring ≠ []) : 0 ≤ ringLack R ring ∧ ringLack R ring ≤ 100 := by
  have hne : (((cutsR ring ring.length).map fun c => (c.map R).flatten).map lackF) ≠ [] := by
    have : 0 < ring.length := List.length_pos_iff.mpr hr0
    intro e
    have h := congrArg List.length e
    simp only [cutsR, List.length_map, List.length_range, List.length_nil] at h
    omega
  obtain ⟨h1, _⟩ := minL_ok hne
  unfold ringLack
  obtain ⟨x, hx, e⟩ := List.mem_map.mp h1
  obtain ⟨c, hc, rfl⟩ := List.mem_map.mp hx
  have h2 := (hR.flat c).2.1
  have h3 := (cuts_len c hc).1
  have h4 := lackF_bounds (c.map R).flatten
  rw [← e]
  exact ⟨by omega, by omega⟩
section
variable {C : Cx} {s₀ s : Shared} {W : List Addr} {A : Around} {E : Value → Shared → Prop} {n q1 lam : List (Addr × Obj)} {L : Addr}
theorem ss3 {B dx bl rl : Addr} {ob : Obj} {vs rws : List Value} {e er : Nat} {ts : List (Addr × Obj)} {l : List (List Nat × List Nat)} {nm ring : List Nat} {R : Nat → List Nat} {tn tr tf : Tok} {fr : Int} {x1 x2 y1 y2 y3 y4 : Value} {Q : Flow → Shared → Prop} (hA : Ok A 100) (P : HdP ob bl vs ts l) (hR : RowsOk R)
    (hin : ∀ p ∈ hdL B dx ob bl vs e ts, p ∈ lam ++ (q1 ++ (hdL B dx ob bl vs e ts ++ n))) (hnd : ((hdL B dx ob bl vs e ts).map (·.1)).Nodup)
    (hn : Plain nm) (hnl : nm.length ≤ 100) (hl : l.length < 30) (hr : ring.length ≤ 3) (hr0 : ring ≠ []) (hr3 : ∀ j ∈ ring, j < 3)
    (hc : (L + 9, cellObj (some (.str (strOf (ltr ring)) tr))) ∈ n) (hcr : (L + 6, cellObj (some (.ref rl))) ∈ n) (hrl : (rl, listObj rws er) ∈ n) (hrw : SL rws ((List.range 3).map R))
    (hN : getF l (lw nm) = none → ∀ vs' e' ts' tf', HdP ob bl vs' ts' (l ++ [(nm, List.replicate (ringLack R ring).toNat 40)]) → ∀ s, St C s₀ W (lE L) [] s (MN (.str (strOf nm) tn) y1 y2 y3 y4 (MO L x1 x2 (.int (fr + 1) tf') (.ref B))) (lam ++ (q1 ++ (hdL B dx ob bl vs' e' ts' ++ n))) → Q .next s)
    (hO : (getF l (lw nm)).isSome = true → ∀ s, St C s₀ W (lE L) [] s (MN (.str (strOf nm) tn) y1 y2 y3 y4 (MO L x1 x2 (.int fr tf) (.ref B))) (lam ++ (q1 ++ (hdL B dx ob bl vs e ts ++ n))) → Q .next s) :
    ∀ s, St C s₀ W (lE L) [] s (MN (.str (strOf nm) tn) y1 y2 y3 y4 (MO L x1 x2 (.int fr tf) (.ref B))) (lam ++ (q1 ++ (hdL B dx ob bl vs e ts ++ n))) → wpAny (MM C.w) A (exec is3.st (lE L)) Q E s := by
  obtain ⟨u1, u2, u3⟩ := plain_up hn
  have hH : (B, instObj 309 dx) ∈ lam ++ (q1 ++ (hdL B dx ob bl vs e ts ++ n)) := hin _ (.head _)
  have hdx : (dx, ob) ∈ lam ++ (q1 ++ (hdL B dx ob bl vs e ts ++ n)) := hin _ (.tail _ (.head _))
  repeat' tb_start
  refine c_upper (by omega) ?_
  intro t1
  repeat' tb_start
  refine o_notinH hH hdx (f := 241) (by kernel_rfl) (by kernel_rfl) ?_
  refine s_contains (hA.le (by decide)) P (e := e) (dx := dx) hin hnd (u1.good (by omega)) ?_
  rw [u3]
  repeat' tb_start
  refine t_itb (fun hq => ?_) (fun hq => ?_)
  · have hq : getF l (lw nm) = none := by
      cases h : getF l (lw nm) with
      | none => rfl
      | some v => rw [h] at hq; simp at hq
    show ∀ s, _ → wpAny (MM C.w) A (execs (bodyIf is3.st) (lE L)) Q E s
    rw [body_l]
    have hmn : ∀ {p}, p ∈ n → p ∈ lam ++ (q1 ++ (hdL B dx ob bl vs e ts ++ n)) := fun hp => List.mem_append_right _ (List.mem_append_right _ (List.mem_append_right _ hp))
    (first | refine t_cons ?_ | (refine' t_nextR ?zh ?_; (case zh => assumption); refine t_cons ?_))
    refine sl0 (hA.le (by decide)) hr (hmn hc) ?_
    intro D1 ws1 e1 hw1
    (first | refine t_cons ?_ | (refine' t_nextR ?zh ?_; (case zh => assumption); refine t_cons ?_))
    refine sl1 (hA.le (by decide)) hR hw1 (by simp [cutsR]; omega) ?_ (.head _) (.tail _ (hmn hcr)) (.tail _ (hmn hrl)) hrw ?_
    · intro c hc
      obtain ⟨h1, h2⟩ := cuts_len c hc
      exact ⟨by omega, fun j hj => hr3 j (h2 j hj)⟩
    intro D2 ws2 e2 hw2
    (first | refine t_cons ?_ | (refine' t_nextR ?zh ?_; (case zh => assumption); refine t_cons ?_))
    refine sl2 (hA.le (by decide)) hw2 (by simp [cutsR]; omega) ?_ ?_ (.head _) ?_
    · intro e
      have h := congrArg List.length e
      have : 0 < ring.length := List.length_pos_iff.mpr hr0
      simp only [cutsR, List.length_map, List.length_range, List.length_nil] at h
      omega
    · intro c hc
      obtain ⟨c', hc', rfl⟩ := List.mem_map.mp hc
      obtain ⟨f1, f2, f3⟩ := hR.flat c'
      have := (cuts_len c' hc').1
      exact ⟨by omega, f1⟩
    intro tl tf'
    have hb := ringLack_b hR hr hr0
    (first | refine t_cons ?_ | (refine' t_nextR ?zh ?_; (case zh => assumption); refine t_cons ?_))
    refine sl3 (q1 := (D2, listObj ws2 e2) :: (D1, listObj ws1 e1) :: lam) (lam := q1) (hA.le (by decide)) P hn hnl (plain_rep _) ?_ hl hq ?_
    · rw [List.length_replicate]
      show (ringLack R ring).toNat ≤ 1000
      exact Int.toNat_le.mpr (by omega)
    intro vs' e' ts' P'
    refine t_nil ?_
    refine t_dropM (m' := MN (.str (strOf nm) tn) y1 y2 y3 y4 (MO L x1 x2 (.int (fr + 1) tf') (.ref B))) (.cons _ (.cons _ (.refl _))) ?_
    exact t_forget (.cons _ (.cons _ (.refl _))) (hN hq vs' e' ts' tf' P')
  · have hq : (getF l (lw nm)).isSome = true := by simpa using hq
    repeat' tb_start
    exact hO hq
theorem ss4 {B dx bl : Addr} {ob : Obj} {vs : List Value} {e : Nat} {ts : List (Addr × Obj)} {l : List (List Nat × List Nat)} {nm v : List Nat} {tn tk : Tok} {lk : Int} {x1 x2 x3 y1 y3 y4 : Value} {Q : Flow → Shared → Prop} (hA : Ok A 100) (P : HdP ob bl vs ts l)
    (hin : ∀ p ∈ hdL B dx ob bl vs e ts, p ∈ n) (hnd : ((hdL B dx ob bl vs e ts).map (·.1)).Nodup) (hn : Plain nm) (hnl : nm.length ≤ 100) (hlam : LamP lam) (hg : getF l (lw nm) = some v) (hvl : v.length ≤ 1000)
    (h : ∀ t lam', LamP lam' → ∀ s, St C s₀ W (lE L) [] s (MN (.str (strOf nm) tn) y1 (.int (lk + v.length) t) y3 y4 (MO L x1 x2 x3 (.ref B))) (lam' ++ n) → Q .next s) :
    ∀ s, St C s₀ W (lE L) [] s (MN (.str (strOf nm) tn) y1 (.int lk tk) y3 y4 (MO L x1 x2 x3 (.ref B))) (lam ++ n) → wpAny (MM C.w) A (exec is4.st (lE L)) Q E s := by
  obtain ⟨u1, u2, u3⟩ := plain_lw hn
  repeat' tb_start
  refine c_lower (by omega) ?_
  intro t1
  repeat' tb_start
  refine s_asked (hA.le (by decide)) P (e := e) (dx := dx) hin hnd (u1.good (by omega)) (by rw [u3]; exact hg) hlam ?_
  intro t2 lam' hlam'
  repeat' tb_start
  exact h _ lam' hlam'
end
theorem nm_inj {low c d : Nat} (hl : low < 30) (c1 : 1 ≤ c) (c2 : c ≤ 7) (d1 : 1 ≤ d) (d2 : d ≤ 7) : lw (nameF low c) = lw (nameF low d) ↔ c = d := by
  refine ⟨fun e => ?_, fun e => by rw [e]⟩
  rw [lw_ascii (plain128 (name_ok hl c1 c2).1), lw_ascii (plain128 (name_ok hl d1 d2).1)] at e
  have h := nf3 ⟨low, hl⟩
  dsimp only at h
  obtain ⟨i, rfl⟩ : ∃ i, c = i + 1 := ⟨c - 1, (Nat.sub_add_cancel c1).symm⟩
  obtain ⟨j, rfl⟩ : ∃ j, d = j + 1 := ⟨d - 1, (Nat.sub_add_cancel d1).symm⟩
  have g : ∀ i (h : i < 7), ([1, 2, 3, 4, 5, 6, 7] : List Nat)[i] = i + 1 := by decide
  have hi : i < 7 := c2
  have hj : j < 7 := d2
  exact congrArg (· + 1) ((List.getElem_inj h (h₀ := hi) (h₁ := hj)).mp (by rw [List.getElem_map, List.getElem_map, g i hi, g j hj]; exact e))
/-- the book -/
noncomputable def bkL (low : Nat) (bk : List (Nat × Nat)) : List (List Nat × List Nat) := bk.map fun p => (nameF low p.1, List.replicate p.2 40)
noncomputable def findB (bk : List (Nat × Nat)) (c : Nat) : Option Nat := (bk.find? fun p => decide (p.1 = c)).map (·.2)
noncomputable def BkOk (bk : List (Nat × Nat)) : Prop := ∀ p ∈ bk, 1 ≤ p.1 ∧ p.1 ≤ 7 ∧ p.2 ≤ 1000
theorem bkL_get {low c : Nat} (hl : low < 30) (c1 : 1 ≤ c) (c2 : c ≤ 7) : ∀ {bk : List (Nat × Nat)}, BkOk bk → getF (bkL low bk) (lw (nameF low c)) = (findB bk c).map fun k => List.replicate k 40
  | [], _ => rfl
  | p :: r, h => by
    have ih := bkL_get hl c1 c2 (bk := r) fun q hq => h q (.tail _ hq)
    obtain ⟨h1, h2, h3⟩ := h p (.head _)
    have e := nm_inj hl h1 h2 c1 c2
    unfold getF bkL findB at ih ⊢
    rw [List.map_cons, List.find?_cons, List.find?_cons]
    by_cases hp : p.1 = c
    · simp only [decide_eq_true (e.mpr hp), decide_eq_true hp]; rfl
    · simp only [decide_eq_false (fun hq => hp (e.mp hq)), decide_eq_false hp]
      exact ih
theorem findB_ok {bk : List (Nat × Nat)} {c k : Nat} (h : BkOk bk) (hf : findB bk c = some k) : k ≤ 1000 := by
  unfold findB at hf
  obtain ⟨p, hp, rfl⟩ := Option.map_eq_some_iff.mp hf
  exact (h p (List.mem_of_find?_eq_some hp)).2.2
/-- what one order has come to -/
structure SS where
  g : List Nat
  lk : Int
  bk : List (Nat × Nat)
noncomputable def addB (q : List Nat → Nat) (ring : List Nat) (bk : List (Nat × Nat)) : List (Nat × Nat) :=
  if (findB bk (chO ring)).isSome then bk else bk ++ [(chO ring, q ring)]
noncomputable def seatF (q : List Nat → Nat) (nx : Nat → Nat) (st : SS) (i : Nat) : SS :=
  if i ∈ st.g then st else ⟨st.g ++ wayF nx i, st.lk + ((findB (addB q (wayF nx i) st.bk) (chO (wayF nx i))).getD 0 : Nat), addB q (wayF nx i) st.bk⟩
theorem findB_add (q : List Nat → Nat) (ring : List Nat) (bk : List (Nat × Nat)) : ∃ k, findB (addB q ring bk) (chO ring) = some k := by
  unfold addB
  split
  · rename_i h; exact Option.isSome_iff_exists.mp h
  · rename_i h
    refine ⟨q ring, ?_⟩
    unfold findB at h ⊢
    rw [List.find?_append]
    simp only [Option.isSome_map, Bool.not_eq_true] at h
    rw [show (List.find? (fun p => decide (p.1 = chO ring)) bk) = none by simpa using h]
    simp
theorem BkOk.add {q : List Nat → Nat} {ring : List Nat} {bk : List (Nat × Nat)} (h : BkOk bk) (c1 : 1 ≤ chO ring) (c2 : chO ring ≤ 7) (hq : q ring ≤ 1000) : BkOk (addB q ring bk) := by
  unfold addB
  split
  · exact h
  · intro p hp
    rcases List.mem_append.mp hp with hp | hp
    · exact h p hp
    · rw [List.mem_singleton.mp hp]; exact ⟨c1, c2, hq⟩
theorem ass4 {α : Type} {a b c d k : List α} : a ++ (b ++ ((c ++ d) ++ k)) = a ++ (b ++ (c ++ (d ++ k))) := by simp
theorem ltr_mem {g : List Nat} {i : Nat} : 97 + i ∈ ltr g ↔ i ∈ g := by
  unfold ltr
  rw [List.mem_map]
  exact ⟨fun ⟨j, hj, e⟩ => by rw [show i = j by omega]; exact hj, fun h => ⟨i, h, rfl⟩⟩
section
variable {L : Addr} {v1 v2 v3 v4 v5 v6 v7 v8 v9 v10 v11 v12 : Option Value} {r : List (Addr × Obj)}
theorem k12_9 : (L + 9, cellObj v9) ∈ K12 L v1 v2 v3 v4 v5 v6 v7 v8 v9 v10 v11 v12 r := by
  repeat (first | exact .head _ | apply List.Mem.tail)
theorem k12_6 : (L + 6, cellObj v6) ∈ K12 L v1 v2 v3 v4 v5 v6 v7 v8 v9 v10 v11 v12 r := by
  repeat (first | exact .head _ | apply List.Mem.tail)
theorem k12_3 : (L + 3, cellObj v3) ∈ K12 L v1 v2 v3 v4 v5 v6 v7 v8 v9 v10 v11 v12 r := by
  repeat (first | exact .head _ | apply List.Mem.tail)
theorem k12_8 : (L + 8, cellObj v8) ∈ K12 L v1 v2 v3 v4 v5 v6 v7 v8 v9 v10 v11 v12 r := by
  repeat (first | exact .head _ | apply List.Mem.tail)
end
noncomputable def qL (R : Nat → List Nat) (ring : List Nat) : Nat := (ringLack R ring).toNat
structure WayOk (nx : Nat → Nat) : Prop where
  w : ∀ i, i < 3 → (wayF nx i).length ≤ 3 ∧ wayF nx i ≠ [] ∧ (∀ j ∈ wayF nx i, j < 3) ∧ 1 ≤ chO (wayF nx i) ∧ chO (wayF nx i) ≤ 7
section
variable {C : Cx} {s₀ s : Shared} {W : List Addr} {A : Around} {E : Value → Shared → Prop} {q2 r lam : List (Addr × Obj)} {L : Addr} {v1 v2 v4 v5 v7 v8 v9 v10 v11 v12 : Option Value}
theorem turn_seat {S dxs sl B dx bl rl : Addr} {od ob : Obj} {svs vs rws : List Value} {es e er : Nat} {sts ts : List (Addr × Obj)} {l : List (List Nat × List Nat)} {nx : Nat → Nat} {low i : Nat} {tl ti tlk tg tf : Tok} {st : SS} {R : Nat → List Nat} {x1 x2 : Value} {Q : Flow → Shared → Prop} (hA : Ok A 110)
    (hR : RowsOk R) (hl : low < 30) (hW : WayOk nx) (hnx : ∀ i, i < 3 → nx i < 3 ∧ getF l (lw [97 + i]) = some [97 + nx i])
    (PS : HdP od sl svs sts l) (P : HdP ob bl vs ts (bkL low st.bk)) (hbk : BkOk st.bk) (hbl : st.bk.length < 30) (hg : st.g.length ≤ 10) (hlam : LamP lam) (hi : i < 3)
    (hrl : (rl, listObj rws er) ∈ r) (hrw : SL rws ((List.range 3).map R))
    (h : ∀ m' lam' vs' e' ts' v9' tlk' tg' tf', (m' = [] ∨ ∃ v, m' = [Lc "name" v]) → LamP lam' → HdP ob bl vs' ts' (bkL low (seatF (qL R) nx st i).bk) → ∀ s, St C s₀ W (lE L) [] s (MSeat (.str (strOf [97 + i]) ti) (.int (seatF (qL R) nx st i).lk tlk') (.str (strOf (ltr (seatF (qL R) nx st i).g)) tg') (.ref S) (MO L x1 x2 (.int ((seatF (qL R) nx st i).bk.length : Nat) tf') (.ref B)))
      (lam' ++ (hdL S dxs od sl svs es sts ++ (hdL B dx ob bl vs' e' ts' ++ (q2 ++ K12 L v1 v2 (some (.int low tl)) v4 v5 (some (.ref rl)) v7 v8 v9' v10 v11 v12 r)))) → Q .next s) :
    ∀ s, St C s₀ W (lE L) [] s (MSeat (.str (strOf [97 + i]) ti) (.int st.lk tlk) (.str (strOf (ltr st.g)) tg) (.ref S) (MO L x1 x2 (.int (st.bk.length : Nat) tf) (.ref B)))
      (lam ++ (hdL S dxs od sl svs es sts ++ (hdL B dx ob bl vs e ts ++ (q2 ++ K12 L v1 v2 (some (.int low tl)) v4 v5 (some (.ref rl)) v7 v8 v9 v10 v11 v12 r)))) →
      wpAny (MM C.w) A (exec seatIf.1 (lE L)) Q E s := by
  intro s D
  have hndS : ((hdL S dxs od sl svs es sts).map (·.1)).Nodup := D.na.sublist (((List.sublist_append_left _ _).trans (List.sublist_append_right _ _)).map _)
  have hndB : ((hdL B dx ob bl vs e ts).map (·.1)).Nodup := D.na.sublist ((((List.sublist_append_left _ _).trans (List.sublist_append_right _ _)).trans (List.sublist_append_right _ _)).map _)
  revert D
  revert s
  obtain ⟨w1, w2, w3, w4, w5⟩ := hW.w i hi
  repeat' tb_start
  refine t_itb (fun hq => ?_) (fun hq => ?_)
  · have hq : i ∉ st.g := fun hm => by simp [ltr_mem.mpr hm] at hq
    have hsf : seatF (qL R) nx st i = ⟨st.g ++ wayF nx i, st.lk + ((findB (addB (qL R) (wayF nx i) st.bk) (chO (wayF nx i))).getD 0 : Nat), addB (qL R) (wayF nx i) st.bk⟩ := if_neg hq
    rw [hsf] at h
    generalize hring : wayF nx i = ring at *
    dsimp only at h
    show ∀ s, _ → wpAny (MM C.w) A (execs (bodyIf seatIf.1) (lE L)) Q E s
    rw [body_s]
    (first | refine t_cons ?_ | (refine' t_nextR ?zh ?_; (case zh => assumption); refine t_cons ?_))
    refine t_perm (.of_eq ass4) ?_
    refine ss0 (q1 := hdL S dxs od sl svs es sts) (hA.le (by decide)) PS (fun p hp => hp) hndS hi hnx hlam ?_
    intro t1 lam1 hlam1
    rw [hring]
    refine t_perm (.of_eq ass4.symm) ?_
    (first | refine t_cons ?_ | (refine' t_nextR ?zh ?_; (case zh => assumption); refine t_cons ?_))
    refine ss1 (hA.le (by decide)) hg (by omega) (List.mem_append_right _ (List.mem_append_right _ (List.mem_append_right _ (List.mem_append_right _ k12_9)))) ?_
    intro t2
    (first | refine t_cons ?_ | (refine' t_nextR ?zh ?_; (case zh => assumption); refine t_cons ?_))
    refine ss2 (hA.le (by decide)) hl w1 w3 w4 w5 (List.mem_append_right _ (List.mem_append_right _ (List.mem_append_right _ (List.mem_append_right _ k12_9)))) (List.mem_append_right _ (List.mem_append_right _ (List.mem_append_right _ (List.mem_append_right _ k12_3)))) ?_
    intro t3
    obtain ⟨n1, n2⟩ := name_ok hl w4 w5
    have hge := bkL_get hl w4 w5 hbk
    have hbq := ringLack_b hR w1 w2
    have hq7 : qL R ring ≤ 1000 := Int.toNat_le.mpr (by omega)
    obtain ⟨k, hk⟩ := findB_add (qL R) ring st.bk
    have hok2 : BkOk (addB (qL R) ring st.bk) := hbk.add w4 w5 hq7
    have hk2 := findB_ok hok2 hk
    have hge2 := bkL_get hl w4 w5 hok2
    rw [hk] at hge2 h
    have fin : ∀ vs' e' ts' tf', HdP ob bl vs' ts' (bkL low (addB (qL R) ring st.bk)) → ∀ s, St C s₀ W (lE L) [] s (MN (.str (strOf (nameF low (chO ring))) t3) (.str (strOf [97 + i]) ti) (.int st.lk tlk) (.str (strOf (ltr (st.g ++ ring))) t2) (.ref S) (MO L x1 x2 (.int ((addB (qL R) ring st.bk).length : Nat) tf') (.ref B)))
        (lam1 ++ (hdL S dxs od sl svs es sts ++ (hdL B dx ob bl vs' e' ts' ++ (q2 ++ K12 L v1 v2 (some (.int low tl)) v4 v5 (some (.ref rl)) v7 v8 (some (.str (strOf (ltr ring)) t1)) v10 v11 v12 r)))) →
        wpAny (MM C.w) A (execs [is4.st] (lE L)) Q E s := by
      intro vs' e' ts' tf' P' s D
      have hndB' : ((hdL B dx ob bl vs' e' ts').map (·.1)).Nodup := D.na.sublist ((((List.sublist_append_left _ _).trans (List.sublist_append_right _ _)).trans (List.sublist_append_right _ _)).map _)
      revert D
      revert s
      (first | refine t_cons ?_ | (refine' t_nextR ?zh ?_; (case zh => assumption); refine t_cons ?_))
      refine ss4 (v := List.replicate k 40) (hA.le (by decide)) P' (fun p hp => List.mem_append_right _ (List.mem_append_left _ hp)) hndB' n1 n2 hlam1 hge2 (by rw [List.length_replicate]; exact hk2) ?_
      intro t4 lam2 hlam2
      rw [List.length_replicate]
      refine t_nil ?_
      refine t_dropM (m' := MSeat (.str (strOf [97 + i]) ti) (.int (st.lk + (k : Nat)) t4) (.str (strOf (ltr (st.g ++ ring))) t2) (.ref S) (MO L x1 x2 (.int ((addB (qL R) ring st.bk).length : Nat) tf') (.ref B))) (.cons _ (.refl _)) ?_
      exact h [] _ _ _ _ _ _ _ _ (.inl rfl) hlam2 P'
    (first | refine t_cons ?_ | (refine' t_nextR ?zh ?_; (case zh => assumption); refine t_cons ?_))
    refine ss3 (q1 := hdL S dxs od sl svs es sts) (n := q2 ++ K12 L v1 v2 (some (.int low tl)) v4 v5 (some (.ref rl)) v7 v8 (some (.str (strOf (ltr ring)) t1)) v10 v11 v12 r) (hA.le (by decide)) P hR (fun p hp => List.mem_append_right _ (List.mem_append_right _ (List.mem_append_left _ hp))) hndB n1 n2 (by unfold bkL; rw [List.length_map]; exact hbl) w1 w2 w3
      (List.mem_append_right _ k12_9) (List.mem_append_right _ k12_6) (List.mem_append_right _ (k12_mem hrl)) hrw ?_ ?_
    · intro hnone vs' e' ts' tf' P'
      rw [hge, Option.map_eq_none_iff] at hnone
      have ea : addB (qL R) ring st.bk = st.bk ++ [(chO ring, qL R ring)] := if_neg (by rw [hnone]; decide)
      have eb : bkL low st.bk ++ [(nameF low (chO ring), List.replicate (ringLack R ring).toNat 40)] = bkL low (addB (qL R) ring st.bk) := by
        rw [ea]; unfold bkL; rw [List.map_append]; rfl
      rw [eb] at P'
      have ec : ((st.bk.length : Nat) : Int) + 1 = ((addB (qL R) ring st.bk).length : Nat) := by rw [ea, List.length_append]; rfl
      rw [ec]
      exact fin vs' e' ts' tf' P'
    · intro hsome
      rw [hge, Option.isSome_map] at hsome
      have ea : addB (qL R) ring st.bk = st.bk := if_pos hsome
      rw [ea] at fin
      exact fin vs e ts tf P
  · have hq : i ∈ st.g := by
      by_cases hm : i ∈ st.g
      · exact hm
      · have hm2 : decide (97 + i ∈ ltr st.g) = false := decide_eq_false fun hp => hm (ltr_mem.mp hp)
        rw [hm2] at hq; exact absurd hq (by decide)
    have hsf : seatF (qL R) nx st i = st := if_pos hq
    rw [hsf] at h
    repeat' tb_start
    exact h [] _ _ _ _ _ _ _ _ (.inl rfl) hlam P
end
theorem mid3 {α : Type} {x : α} {a b c k : List α} : (x :: (a ++ (b ++ (c ++ k)))).Perm (a ++ (b ++ (c ++ (x :: k)))) := by
  have h := (List.perm_middle (a := x) (l₁ := a ++ (b ++ c)) (l₂ := k)).symm
  simpa using h
noncomputable abbrev ME (lacks gone seats : Value) (m : List (Str × Bnd)) : List (Str × Bnd) := Lc "lacks" lacks :: Lc "gone" gone :: Lc "seats" seats :: m
noncomputable def seatsF (q : List Nat → Nat) (nx : Nat → Nat) (st : SS) (i : Nat) : SS := (List.range i).foldl (seatF q nx) st
theorem seatsF_succ (q : List Nat → Nat) (nx : Nat → Nat) (st : SS) (i : Nat) : seatsF q nx st (i + 1) = seatF q nx (seatsF q nx st i) i := by
  unfold seatsF; rw [List.range_succ, List.foldl_append]; rfl
theorem seatF_ok {q : List Nat → Nat} {nx : Nat → Nat} {st : SS} {i : Nat} (hW : WayOk nx) (hi : i < 3) (hq : ∀ ring : List Nat, ring.length ≤ 3 → ring ≠ [] → q ring ≤ 1000) (hb : BkOk st.bk) :
    BkOk (seatF q nx st i).bk ∧ (seatF q nx st i).bk.length ≤ st.bk.length + 1 ∧ (seatF q nx st i).g.length ≤ st.g.length + 3 := by
  obtain ⟨w1, w2, w3, w4, w5⟩ := hW.w i hi
  unfold seatF
  split
  · exact ⟨hb, by omega, by omega⟩
  · refine ⟨hb.add w4 w5 (hq _ w1 w2), ?_, by rw [List.length_append]; omega⟩
    show (addB q (wayF nx i) st.bk).length ≤ _
    unfold addB
    split
    · omega
    · simp
theorem seatsF_ok {q : List Nat → Nat} {nx : Nat → Nat} {st : SS} (hW : WayOk nx) (hq : ∀ ring : List Nat, ring.length ≤ 3 → ring ≠ [] → q ring ≤ 1000) (hb : BkOk st.bk) (hg : st.g = []) :
    ∀ i, i ≤ 3 → BkOk (seatsF q nx st i).bk ∧ (seatsF q nx st i).bk.length ≤ st.bk.length + i ∧ (seatsF q nx st i).g.length ≤ 3 * i
  | 0, _ => ⟨hb, Nat.le_refl _, by show st.g.length ≤ _; rw [hg]; exact Nat.le_refl _⟩
  | i + 1, hi => by
    obtain ⟨a, b, c⟩ := seatsF_ok hW hq hb hg i (by omega)
    obtain ⟨a', b', c'⟩ := seatF_ok (st := seatsF q nx st i) (i := i) hW (by omega) hq a
    rw [seatsF_succ]
    exact ⟨a', by omega, by omega⟩
section
variable {C : Cx} {s₀ s : Shared} {W : List Addr} {A : Around} {E : Value → Shared → Prop} {q2 r lam : List (Addr × Obj)} {L : Addr} {v1 v2 v4 v5 v7 v8 v9 v10 v11 v12 : Option Value}
inductive I74 (L S dxs sl B dx bl rl : Addr) (od ob : Obj) (svs : List Value) (es : Nat) (sts : List (Addr × Obj)) (nx : Nat → Nat) (low : Nat) (tl : Tok) (bk : List (Nat × Nat)) (R : Nat → List Nat) (x1 x2 : Value) (q2 r : List (Addr × Obj)) (v1 v2 v4 v5 v7 v8 v10 v11 v12 : Option Value) (i : Nat) (m₁ : List (Str × Bnd)) (n₁ : List (Addr × Obj)) : Prop
  | mk (lam' : List (Addr × Obj)) (vs' : List Value) (e' : Nat) (ts' : List (Addr × Obj)) (v9' : Option Value) (tlk' tg' tf' : Tok) (_ : m₁ = ME (.int (seatsF (qL R) nx ⟨[], 0, bk⟩ i).lk tlk') (.str (strOf (ltr (seatsF (qL R) nx ⟨[], 0, bk⟩ i).g)) tg') (.ref S) (MO L x1 x2 (.int ((seatsF (qL R) nx ⟨[], 0, bk⟩ i).bk.length : Nat) tf') (.ref B))) (_ : n₁ = lam' ++ (hdL S dxs od sl svs es sts ++ (hdL B dx ob bl vs' e' ts' ++ (q2 ++ K12 L v1 v2 (some (.int low tl)) v4 v5 (some (.ref rl)) v7 v8 v9' v10 v11 v12 r)))) (_ : LamP lam') (_ : HdP ob bl vs' ts' (bkL low (seatsF (qL R) nx ⟨[], 0, bk⟩ i).bk))
theorem so3 {S dxs sl B dx bl rl : Addr} {od ob : Obj} {svs vs rws : List Value} {es e er : Nat} {sts ts : List (Addr × Obj)} {l : List (List Nat × List Nat)} {nx : Nat → Nat} {low : Nat} {tl tlk tg tf : Tok} {bk : List (Nat × Nat)} {R : Nat → List Nat} {x1 x2 : Value} {Q : Flow → Shared → Prop} (hA : Ok A 120)
    (hR : RowsOk R) (hl : low < 30) (hW : WayOk nx) (hnx : ∀ i, i < 3 → nx i < 3 ∧ getF l (lw [97 + i]) = some [97 + nx i])
    (PS : HdP od sl svs sts l) (P : HdP ob bl vs ts (bkL low bk)) (hbk : BkOk bk) (hbl : bk.length < 26) (hlam : LamP lam)
    (hrl : (rl, listObj rws er) ∈ r) (hrw : SL rws ((List.range 3).map R))
    (h : ∀ lam' vs' e' ts' v9' tlk' tg' tf', LamP lam' → HdP ob bl vs' ts' (bkL low (seatsF (qL R) nx ⟨[], 0, bk⟩ 3).bk) → ∀ s, St C s₀ W (lE L) [] s (ME (.int (seatsF (qL R) nx ⟨[], 0, bk⟩ 3).lk tlk') (.str (strOf (ltr (seatsF (qL R) nx ⟨[], 0, bk⟩ 3).g)) tg') (.ref S) (MO L x1 x2 (.int ((seatsF (qL R) nx ⟨[], 0, bk⟩ 3).bk.length : Nat) tf') (.ref B)))
      (lam' ++ (hdL S dxs od sl svs es sts ++ (hdL B dx ob bl vs' e' ts' ++ (q2 ++ K12 L v1 v2 (some (.int low tl)) v4 v5 (some (.ref rl)) v7 v8 v9' v10 v11 v12 r)))) → Q .next s) :
    ∀ s, St C s₀ W (lE L) [] s (ME (.int 0 tlk) (.str (strOf []) tg) (.ref S) (MO L x1 x2 (.int (bk.length : Nat) tf) (.ref B)))
      (lam ++ (hdL S dxs od sl svs es sts ++ (hdL B dx ob bl vs e ts ++ (q2 ++ K12 L v1 v2 (some (.int low tl)) v4 v5 (some (.ref rl)) v7 v8 v9 v10 v11 v12 r)))) →
      wpAny (MM C.w) A (exec ob3.st (lE L)) Q E s := by
  have hq : ∀ ring : List Nat, ring.length ≤ 3 → ring ≠ [] → qL R ring ≤ 1000 := fun ring h1 h2 => Int.toNat_le.mpr (by have := ringLack_b hR h1 h2; omega)
  repeat' tb_start
  refine t_forI (I74 L S dxs sl B dx bl rl od ob svs es sts nx low tl bk R x1 x2 q2 r v1 v2 v4 v5 v7 v8 v10 v11 v12) hA.hh (iter_str (x := [97, 98, 99]) (by decide)) (by intro _ _ _ _ p hp; cases hp) ?_ ?_ ?_
  · exact ⟨lam, vs, e, ts, v9, _, _, _, rfl, rfl, hlam, P⟩
  · rintro i v m₁ n₁ I oI E' hi ⟨c, u, hc, rfl⟩ ⟨lam', vs', e', ts', v9', tlk', tg', tf', rfl, rfl, hlam', P'⟩
    have hi : i < 3 := hi
    obtain rfl : c = 97 + i := by
      have : i = 0 ∨ i = 1 ∨ i = 2 := in3 (by first | assumption | omega)
      rcases this with rfl | rfl | rfl <;> (cases hc; rfl)
    obtain ⟨f1, f2, f3⟩ := seatsF_ok (st := ⟨[], 0, bk⟩) hW hq hbk rfl i (by omega)
    have f2 : (seatsF (qL R) nx ⟨[], 0, bk⟩ i).bk.length ≤ bk.length + i := f2
    refine t_asgName ?_
    refine t_stn (by with_unfolding_all rfl) (by with_unfolding_all rfl) ?_
    change ∀ s, _ → wpAny (MM C.w) A (execs (bodyOf ob3.st) (lE L)) _ _ s
    rw [body_seat]
    (first | refine t_cons ?_ | (refine' t_nextR ?zh ?_; (case zh => assumption); refine t_cons ?_))
    refine t_perm (mid3.symm) ?_
    refine turn_seat (q2 := (I, oI) :: q2) (hA.le (by decide)) hR hl hW hnx PS P' f1 (by omega) (by omega) hlam' hi hrl hrw ?_
    intro m' lam2 vs2 e2 ts2 v92 tlk2 tg2 tf2 _ hlam2 P2
    rw [← seatsF_succ] at P2 ⊢
    refine t_nil ?_
    refine t_dropM (m' := ME (.int (seatsF (qL R) nx ⟨[], 0, bk⟩ (i + 1)).lk tlk2) (.str (strOf (ltr (seatsF (qL R) nx ⟨[], 0, bk⟩ (i + 1)).g)) tg2) (.ref S) (MO L x1 x2 (.int ((seatsF (qL R) nx ⟨[], 0, bk⟩ (i + 1)).bk.length : Nat) tf2) (.ref B))) (.cons _ (.refl _)) ?_
    refine t_perm (mid3) ?_
    intro s₂ D₂
    exact ⟨_, _, ⟨lam2, vs2, e2, ts2, v92, tlk2, tg2, tf2, rfl, rfl, hlam2, P2⟩, D₂⟩
  · rintro m₁ n₁ E' ⟨lam', vs', e', ts', v9', tlk', tg', tf', rfl, rfl, hlam', P'⟩
    refine t_nil ?_
    exact h _ _ _ _ _ _ _ _ hlam' P'
theorem so4 {br : Addr} {vs : List Value} {e : Nat} {lk : Int} {tlk : Tok} {y1 y2 x2 x3 x4 : Value} {n : List (Addr × Obj)} {nn : List (Addr × Obj)} {Q : Flow → Shared → Prop} (hA : Ok A 20)
    (hbr : (br, listObj vs e) ∈ n) (hl : vs.length ≤ 20) (U : Upd br (listObj (vs ++ [.int lk tlk]) (e + 1)) n nn)
    (h : ∀ s, St C s₀ W (lE L) [] s (MO L (.ref br) x2 x3 x4) nn → Q .next s) :
    ∀ s, St C s₀ W (lE L) [] s (ME (.int lk tlk) y1 y2 (MO L (.ref br) x2 x3 x4)) n → wpAny (MM C.w) A (exec ob4.st (lE L)) Q E s := by
  repeat' tb_start
  refine c_append (by news_at) U (by rw [sizeLine_eq]; omega) ?_
  repeat' tb_start
  exact t_dropM (.cons _ (.cons _ (.cons _ (.refl _)))) h
end
theorem mid1 {α : Type} {x y : α} {a s b q k : List α} : (s ++ (x :: y :: (a ++ (b ++ (q ++ k))))).Perm (a ++ (s ++ (b ++ ((x :: y :: q) ++ k)))) := by
  have h1 : (s ++ (x :: y :: (a ++ (b ++ (q ++ k))))).Perm (x :: y :: (s ++ (a ++ (b ++ (q ++ k))))) := List.perm_middle.trans (List.Perm.cons _ List.perm_middle)
  have h2 : (x :: y :: (s ++ (a ++ (b ++ (q ++ k))))).Perm (x :: y :: (a ++ (s ++ (b ++ (q ++ k))))) := ((List.perm_append_comm_assoc s a _).cons _).cons _
  have h3 : (a ++ (s ++ (b ++ ((x :: y :: q) ++ k)))).Perm (x :: y :: (a ++ (s ++ (b ++ (q ++ k))))) := by
    have h := (List.perm_middle (a := x) (l₁ := a ++ (s ++ b)) (l₂ := y :: (q ++ k)))
    have h' := (List.perm_middle (a := y) (l₁ := a ++ (s ++ b)) (l₂ := q ++ k)).cons x
    simpa using h.trans h'
  exact (h1.trans h2).trans h3.symm
section
variable {C : Cx} {s₀ s : Shared} {W : List Addr} {A : Around} {E : Value → Shared → Prop} {q3 r lam : List (Addr × Obj)} {L : Addr} {v1 v2 v4 v5 v7 v9 v10 v11 v12 : Option Value}
theorem turn_o {T B dx bl rl br bw : Addr} {ob : Obj} {vs rws brs bws : List Value} {e er ebr ebw : Nat} {ts : List (Addr × Obj)} {o : Nat × Nat × Nat} {low : Nat} {t1 t2 t3 tl tf : Tok} {bk : List (Nat × Nat)} {R : Nat → List Nat} {bwi : List Int} {Q : Flow → Shared → Prop} (hA : Ok A 130)
    (hR : RowsOk R) (hl : low < 30) (ho : ∀ k ∈ ordL o, k < 3) (hW : WayOk (nxO o)) (hnx : ∀ i, i < 3 → nxO o i < 3 ∧ getF (seatL o 3) (lw [97 + i]) = some [97 + nxO o i])
    (P : HdP ob bl vs ts (bkL low bk)) (hbk : BkOk bk) (hbl : bk.length < 26) (hlam : LamP lam)
    (hT : (T, ordT o t1 t2 t3) ∈ q3) (hbs : bws.length ≤ 20) (hbi : IntsAre bws bwi) (hbrs : brs.length ≤ 20)
    (hrl : (rl, listObj rws er) ∈ r) (hrw : SL rws ((List.range 3).map R))
    (h : ∀ lam' vs' e' ts' v9' tf' tw tr, LamP lam' → HdP ob bl vs' ts' (bkL low (seatsF (qL R) (nxO o) ⟨[], 0, bk⟩ 3).bk) → ∀ s, St C s₀ W (lE L) [] s (MO L (.ref br) (.ref bw) (.int ((seatsF (qL R) (nxO o) ⟨[], 0, bk⟩ 3).bk.length : Nat) tf') (.ref B))
      ((br, listObj (brs ++ [.int (seatsF (qL R) (nxO o) ⟨[], 0, bk⟩ 3).lk tr]) (ebr + 1)) :: (bw, listObj (bws ++ [.int (lackF ((ordL o).map R).flatten) tw]) (ebw + 1)) :: (lam' ++ (hdL B dx ob bl vs' e' ts' ++ (q3 ++ K12 L v1 v2 (some (.int low tl)) v4 v5 (some (.ref rl)) v7 (some (.ref T)) v9' v10 v11 v12 r)))) → Q .next s) :
    ∀ s, St C s₀ W (lE L) [] s (MO L (.ref br) (.ref bw) (.int (bk.length : Nat) tf) (.ref B))
      ((br, listObj brs ebr) :: (bw, listObj bws ebw) :: (lam ++ (hdL B dx ob bl vs e ts ++ (q3 ++ K12 L v1 v2 (some (.int low tl)) v4 v5 (some (.ref rl)) v7 (some (.ref T)) v9 v10 v11 v12 r)))) →
      wpAny (MM C.w) A (execs (bodyOf st8.st) (lE L)) Q E s := by
  rw [body_o]
  (first | refine t_cons ?_ | (refine' t_nextR ?zh ?_; (case zh => assumption); refine t_cons ?_))
  refine so0 (hA.le (by decide)) hR ho (.tail _ (.tail _ (List.mem_append_right _ (List.mem_append_right _ (List.mem_append_left _ hT))))) (.tail _ (.tail _ (List.mem_append_right _ (List.mem_append_right _ (List.mem_append_right _ k12_8)))))
    (.tail _ (.tail _ (List.mem_append_right _ (List.mem_append_right _ (List.mem_append_right _ k12_6))))) (.tail _ (.tail _ (List.mem_append_right _ (List.mem_append_right _ (List.mem_append_right _ (k12_mem hrl)))))) hrw (.tail _ (.head _)) hbs hbi (fun t => .tail .head) ?_
  intro tw
  (first | refine t_cons ?_ | (refine' t_nextR ?zh ?_; (case zh => assumption); refine t_cons ?_))
  refine so1 (t1 := t1) (t2 := t2) (t3 := t3) (hA.le (by decide)) ho (.tail _ (.tail _ (List.mem_append_right _ (List.mem_append_right _ (List.mem_append_left _ hT))))) (.tail _ (.tail _ (List.mem_append_right _ (List.mem_append_right _ (List.mem_append_right _ k12_8))))) ?_
  intro S dxs od sl svs es sts PS
  (first | refine t_cons ?_ | (refine' t_nextR ?zh ?_; (case zh => assumption); refine t_cons ?_))
  refine so2 (hA.le (by decide)) ?_
  intro t4 t5
  (first | refine t_cons ?_ | (refine' t_nextR ?zh ?_; (case zh => assumption); refine t_cons ?_))
  refine t_perm mid1.symm ?_
  refine so3 (q2 := (br, listObj brs ebr) :: (bw, listObj (bws ++ [.int (lackF ((ordL o).map R).flatten) tw]) (ebw + 1)) :: q3) (hA.le (by decide)) hR hl hW hnx PS P hbk hbl hlam hrl hrw ?_
  intro lam' vs' e' ts' v9' tlk' tg' tf' hlam' P'
  refine t_perm mid1 ?_
  refine t_forget (List.sublist_append_right _ _) ?_
  (first | refine t_cons ?_ | (refine' t_nextR ?zh ?_; (case zh => assumption); refine t_cons ?_))
  refine so4 (hA.le (by decide)) (.head _) hbrs .head ?_
  refine t_nil ?_
  exact h lam' vs' e' ts' v9' tf' tw tlk' hlam' P'
end
noncomputable def OS : List (Nat × Nat × Nat) := [(0, 1, 2), (0, 2, 1), (1, 0, 2), (1, 2, 0), (2, 0, 1), (2, 1, 0)]
noncomputable def ordF (q : List Nat → Nat) (p : List Int × List (Nat × Nat)) (o : Nat × Nat × Nat) : List Int × List (Nat × Nat) :=
  (p.1 ++ [(seatsF q (nxO o) ⟨[], 0, p.2⟩ 3).lk], (seatsF q (nxO o) ⟨[], 0, p.2⟩ 3).bk)
noncomputable def ordsF (q : List Nat → Nat) (i : Nat) : List Int × List (Nat × Nat) := (OS.take i).foldl (ordF q) ([], [])
noncomputable def bwF (R : Nat → List Nat) (i : Nat) : List Int := (OS.take i).map fun o => lackF ((ordL o).map R).flatten
theorem OS_way : ∀ o ∈ OS, WayOk (nxO o) := by
  have h : ∀ o ∈ OS, ∀ i : Fin 3, (wayF (nxO o) i.val).length ≤ 3 ∧ wayF (nxO o) i.val ≠ [] ∧ (∀ j ∈ wayF (nxO o) i.val, j < 3) ∧ 1 ≤ chO (wayF (nxO o) i.val) ∧ chO (wayF (nxO o) i.val) ≤ 7 := by decide +kernel
  exact fun o ho => ⟨fun i hi => h o ho ⟨i, hi⟩⟩
theorem OS_lt : ∀ o ∈ OS, ∀ k ∈ ordL o, k < 3 := by decide +kernel
theorem OS_nx : ∀ o ∈ OS, ∀ i, i < 3 → nxO o i < 3 ∧ getF (seatL o 3) (lw [97 + i]) = some [97 + nxO o i] := by
  have h : ∀ o ∈ OS, ∀ i : Fin 3, nxO o i.val < 3 ∧ getF (seatL o 3) (lw [97 + i.val]) = some [97 + nxO o i.val] := by decide +kernel
  exact fun o ho i hi => h o ho ⟨i, hi⟩
theorem ordsF_ok {q : List Nat → Nat} (hq : ∀ ring : List Nat, ring.length ≤ 3 → ring ≠ [] → q ring ≤ 1000) : ∀ i, i ≤ 6 → BkOk (ordsF q i).2 ∧ (ordsF q i).2.length ≤ 3 * i ∧ (ordsF q i).1.length = i
  | 0, _ => ⟨(fun p hp => nomatch hp), Nat.le_refl _, rfl⟩
  | i + 1, hi => by
    obtain ⟨a, b, c⟩ := ordsF_ok hq i (by omega)
    obtain ⟨o, ho⟩ : ∃ o, OS[i]? = some o := ⟨OS[i]'(by show i < 6; omega), by simp [show i < OS.length from by show i < 6; omega]⟩
    have e : ordsF q (i + 1) = ordF q (ordsF q i) o := by unfold ordsF; rw [List.take_add_one, ho, List.foldl_append]; rfl
    obtain ⟨a', b', _⟩ := seatsF_ok (q := q) (st := ⟨[], 0, (ordsF q i).2⟩) (OS_way o (List.mem_of_getElem? ho)) hq a rfl 3 (by omega)
    rw [e]
    have b' : (seatsF q (nxO o) ⟨[], 0, (ordsF q i).2⟩ 3).bk.length ≤ (ordsF q i).2.length + 3 := b'
    refine ⟨a', by show (seatsF q (nxO o) ⟨[], 0, (ordsF q i).2⟩ 3).bk.length ≤ _; omega, ?_⟩
    show ((ordsF q i).1 ++ [_]).length = _
    rw [List.length_append, c]; rfl
theorem mid2 {α : Type} {x y : α} {a b q k : List α} : (x :: y :: (a ++ (b ++ (q ++ k)))).Perm (q ++ (x :: y :: (a ++ (b ++ k)))) := by
  have h1 : (q ++ (x :: y :: (a ++ (b ++ k)))).Perm (x :: y :: (q ++ (a ++ (b ++ k)))) := List.perm_middle.trans (List.Perm.cons _ List.perm_middle)
  refine .trans (((?_ : (a ++ (b ++ (q ++ k))).Perm (q ++ (a ++ (b ++ k)))).cons _).cons _) h1.symm
  exact ((List.perm_append_comm_assoc b q k).append_left a).trans (List.perm_append_comm_assoc a q _)
theorem mid4 {α : Type} {i x y : α} {a b q k : List α} : (x :: y :: (a ++ (b ++ ((i :: q) ++ k)))).Perm (i :: (x :: y :: (a ++ (b ++ (q ++ k))))) := by
  have h := (List.perm_middle (a := i) (l₁ := x :: y :: (a ++ b)) (l₂ := q ++ k))
  simpa using h
theorem bwF_succ {R : Nat → List Nat} {i : Nat} {o : Nat × Nat × Nat} (ho : OS[i]? = some o) : bwF R (i + 1) = bwF R i ++ [lackF ((ordL o).map R).flatten] := by
  unfold bwF; rw [List.take_add_one, ho, List.map_append]; rfl
theorem ordsF_succ {q : List Nat → Nat} {i : Nat} {o : Nat × Nat × Nat} (ho : OS[i]? = some o) : ordsF q (i + 1) = ordF q (ordsF q i) o := by
  unfold ordsF; rw [List.take_add_one, ho, List.foldl_append]; rfl
section
variable {C : Cx} {s₀ : Shared} {W : List Addr} {env : Env} {G : List (Nat × GenState)} {A : Around} {E : Value → Shared → Prop} {m : List (Str × Bnd)} {n : List (Addr × Obj)}
/-- a tuple of three numbers written out -/
theorem t_tup3 {i j k : Int} {k1 k2 k3 k4 : Nat} {p1 p2 p3 pos : Pos} {Q : Value → Shared → Prop} (h : ∀ t1 t2 t3 T, ∀ s, St C s₀ W env G s m ((T, tupObj [.int i t1, .int j t2, .int k t3]) :: n) → Q (.ref T) s) :
    ∀ s, St C s₀ W env G s m n → wpAny (MM C.w) A (eval (.Tuple [.Constant (.int i) k1 p1, .Constant (.int j) k2 p2, .Constant (.int k) k3 p3] k4 pos) env) Q E s :=
  t_tuple (t_items (t_int fun t1 => t_items (t_int fun t2 => t_items (t_int fun t3 => t_items_nil (t_newTuple (by rw [sizeLine_eq]; exact Nat.le_of_ble_eq_true rfl) (h t1 t2 t3))))))
end
local macro_rules | `(tactic| tb_start) => `(tactic| with_reducible (refine t_tup3 ?_; intro _ _ _ _))
section
variable {C : Cx} {s₀ s : Shared} {W : List Addr} {A : Around} {E : Value → Shared → Prop} {q3 r lam : List (Addr × Obj)} {L : Addr} {v1 v2 v4 v5 v7 v8 v9 v10 v11 v12 : Option Value}
inductive I76 (L B dx bl rl br bw : Addr) (ob : Obj) (low : Nat) (tl : Tok) (R : Nat → List Nat) (jt r : List (Addr × Obj)) (v1 v2 v4 v5 v7 v10 v11 v12 : Option Value) (i : Nat) (m₁ : List (Str × Bnd)) (n₁ : List (Addr × Obj)) : Prop
  | mk (lam' : List (Addr × Obj)) (vs' : List Value) (e' : Nat) (ts' : List (Addr × Obj)) (v8' v9' : Option Value) (tf' : Tok) (brs bws : List Value) (ebr ebw : Nat) (_ : m₁ = MO L (.ref br) (.ref bw) (.int ((ordsF (qL R) i).2.length : Nat) tf') (.ref B)) (_ : n₁ = (br, listObj brs ebr) :: (bw, listObj bws ebw) :: (lam' ++ (hdL B dx ob bl vs' e' ts' ++ (jt ++ K12 L v1 v2 (some (.int low tl)) v4 v5 (some (.ref rl)) v7 v8' v9' v10 v11 v12 r)))) (_ : LamP lam') (_ : HdP ob bl vs' ts' (bkL low (ordsF (qL R) i).2)) (_ : IntsAre brs (ordsF (qL R) i).1) (_ : IntsAre bws (bwF R i))
theorem sg8 {B dx bl rl br bw : Addr} {ob : Obj} {rws : List Value} {er : Nat} {low : Nat} {tl tf : Tok} {R : Nat → List Nat} {Q : Flow → Shared → Prop} (hA : Ok A 140)
    (hR : RowsOk R) (hl : low < 30) (P : HdP ob bl [] [] []) (hlam : LamP lam)
    (hrl : (rl, listObj rws er) ∈ r) (hrw : SL rws ((List.range 3).map R))
    (h : ∀ lam' vs' e' ts' v8' v9' tf' brs bws ebr ebw, LamP lam' → HdP ob bl vs' ts' (bkL low (ordsF (qL R) 6).2) → IntsAre brs (ordsF (qL R) 6).1 → IntsAre bws (bwF R 6) → ∀ s, St C s₀ W (lE L) [] s (MO L (.ref br) (.ref bw) (.int ((ordsF (qL R) 6).2.length : Nat) tf') (.ref B))
      ((br, listObj brs ebr) :: (bw, listObj bws ebw) :: (lam' ++ (hdL B dx ob bl vs' e' ts' ++ K12 L v1 v2 (some (.int low tl)) v4 v5 (some (.ref rl)) v7 v8' v9' v10 v11 v12 r))) → Q .next s) :
    ∀ s, St C s₀ W (lE L) [] s (MO L (.ref br) (.ref bw) (.int 0 tf) (.ref B))
      ((br, listObj [] 0) :: (bw, listObj [] 0) :: (lam ++ (hdL B dx ob bl [] 0 [] ++ K12 L v1 v2 (some (.int low tl)) v4 v5 (some (.ref rl)) v7 v8 v9 v10 v11 v12 r))) →
      wpAny (MM C.w) A (exec st8.st (lE L)) Q E s := by
  repeat' tb_start
  rename_i a0 b0 c0 T0 a1 b1 c1 T1 a2 b2 c2 T2 a3 b3 c3 T3 a4 b4 c4 T4 a5 b5 c5 T5 LL
  have hq : ∀ ring : List Nat, ring.length ≤ 3 → ring ≠ [] → qL R ring ≤ 1000 := fun ring h1 h2 => Int.toNat_le.mpr (by have := ringLack_b hR h1 h2; omega)
  obtain ⟨jt, hjt⟩ : ∃ jt : List (Addr × Obj), jt = [(LL, listObj [Value.ref T0, Value.ref T1, Value.ref T2, Value.ref T3, Value.ref T4, Value.ref T5] 0), (T5, ordT (2, 1, 0) a5 b5 c5), (T4, ordT (2, 0, 1) a4 b4 c4), (T3, ordT (1, 2, 0) a3 b3 c3), (T2, ordT (1, 0, 2) a2 b2 c2), (T1, ordT (0, 2, 1) a1 b1 c1), (T0, ordT (0, 1, 2) a0 b0 c0)] := ⟨_, rfl⟩
  have hLL : (LL, listObj [Value.ref T0, Value.ref T1, Value.ref T2, Value.ref T3, Value.ref T4, Value.ref T5] 0) ∈ jt := by rw [hjt]; exact .head _
  have hTs : ∀ (i : Nat) (v : Value), ([Value.ref T0, Value.ref T1, Value.ref T2, Value.ref T3, Value.ref T4, Value.ref T5] : List Value)[i]? = some v → ∃ T o t1 t2 t3, v = Value.ref T ∧ OS[i]? = some o ∧ (T, ordT o t1 t2 t3) ∈ jt := by
    intro i v hv
    have hi : i < 6 := (List.getElem?_eq_some_iff.mp hv).1
    have : i = 0 ∨ i = 1 ∨ i = 2 ∨ i = 3 ∨ i = 4 ∨ i = 5 := in6 (by first | assumption | omega)
    rw [hjt]
    rcases this with rfl | rfl | rfl | rfl | rfl | rfl
    · cases hv; exact ⟨T0, _, a0, b0, c0, rfl, rfl, by news_at⟩
    · cases hv; exact ⟨T1, _, a1, b1, c1, rfl, rfl, by news_at⟩
    · cases hv; exact ⟨T2, _, a2, b2, c2, rfl, rfl, by news_at⟩
    · cases hv; exact ⟨T3, _, a3, b3, c3, rfl, rfl, by news_at⟩
    · cases hv; exact ⟨T4, _, a4, b4, c4, rfl, rfl, by news_at⟩
    · cases hv; exact ⟨T5, _, a5, b5, c5, rfl, rfl, by news_at⟩
  refine t_perm (n' := (br, listObj [] 0) :: (bw, listObj [] 0) :: (lam ++ (hdL B dx ob bl [] 0 [] ++ (jt ++ K12 L v1 v2 (some (.int low tl)) v4 v5 (some (.ref rl)) v7 v8 v9 v10 v11 v12 r)))) (by rw [hjt]; exact mid2) ?_
  clear hjt
  refine t_forI (I76 L B dx bl rl br bw ob low tl R jt r v1 v2 v4 v5 v7 v10 v11 v12) hA.hh
    (iter_list (l := LL) (vs := [Value.ref T0, Value.ref T1, Value.ref T2, Value.ref T3, Value.ref T4, Value.ref T5]) (e := 0) (.tail _ (.tail _ (List.mem_append_right _ (List.mem_append_right _ (List.mem_append_left _ hLL)))))) ?_ ?_ ?_ ?_
  · rintro i m₁ n₁ ⟨lam', vs', e', ts', v8', v9', tf', brs, bws, ebr, ebw, rfl, rfl, hlam', P', h1, h2⟩ p hp
    obtain rfl := List.mem_singleton.mp hp
    exact .tail _ (.tail _ (List.mem_append_right _ (List.mem_append_right _ (List.mem_append_left _ hLL))))
  · exact ⟨lam, [], 0, [], v8, v9, _, [], [], 0, 0, rfl, rfl, hlam, P, .nil, .nil⟩
  · rintro i v m₁ n₁ I oI E' hi hv ⟨lam', vs', e', ts', v8', v9', tf', brs, bws, ebr, ebw, rfl, rfl, hlam', P', h1, h2⟩
    obtain ⟨T, o, t1, t2, t3, rfl, ho, hT⟩ := hTs i v hv
    have hi : i < 6 := hi
    obtain ⟨f1, f2, f3⟩ := ordsF_ok hq i (by omega)
    have hom := List.mem_of_getElem? ho
    have hbl : bws.length ≤ 20 := by rw [h2.length]; unfold bwF; rw [List.length_map, List.length_take]; omega
    have hbr : brs.length ≤ 20 := by rw [h1.length, f3]; omega
    refine t_perm mid4 ?_
    tb_start
    tb_start
    change ∀ s, _ → wpAny (MM C.w) A (execs (bodyOf st8.st) (lE L)) _ _ s
    refine turn_o (q3 := (I, oI) :: jt) (hA.le (by decide)) hR hl (OS_lt o hom) (OS_way o hom) (OS_nx o hom) P' f1 (by omega) hlam' (.tail _ hT) hbl h2 hbr hrl hrw ?_
    intro lam2 vs2 e2 ts2 v92 tf2 tw tr hlam2 P2
    have eo := ordsF_succ (q := qL R) ho
    have eb := bwF_succ (R := R) ho
    refine t_perm mid4.symm ?_
    intro s₂ D₂
    refine ⟨_, _, ⟨lam2, vs2, e2, ts2, _, v92, tf2, _, _, _, _, ?_, rfl, hlam2, ?_, ?_, ?_⟩, D₂⟩
    · rw [eo]; rfl
    · rw [eo]; exact P2
    · rw [eo]; exact h1.append (.cons _ _ .nil)
    · rw [eb]; exact h2.append (.cons _ _ .nil)
  · rintro m₁ n₁ E' ⟨lam', vs', e', ts', v8', v9', tf', brs, bws, ebr, ebw, rfl, rfl, hlam', P', h1, h2⟩
    refine t_nil ?_
    refine t_forget (n' := (br, listObj brs ebr) :: (bw, listObj bws ebw) :: (lam' ++ (hdL B dx ob bl vs' e' ts' ++ K12 L v1 v2 (some (.int low tl)) v4 v5 (some (.ref rl)) v7 v8' v9' v10 v11 v12 r))) (.cons_cons _ (.cons_cons _ ((List.Sublist.refl _).append ((List.Sublist.refl _).append (List.sublist_append_right _ _))))) ?_
    exact h lam' vs' e' ts' v8' v9' tf' brs bws ebr ebw hlam' P' h1 h2
end
noncomputable def litL (s : String) : List Nat := (Str.ofString s).cps.toList
theorem litL_str (s : String) : Str.ofString s = strOf (litL s) := Str.ext' (by simp [litL, strOf])
noncomputable def flagA : List (List Nat) := [litL "OPTIMIZED", litL "NEWLOCALS", litL "VARARGS", litL "VARKEYWORDS", litL "NESTED", litL "GENERATOR", litL "NOFREE", litL "COROUTINE"]
noncomputable def flagB : List (List Nat) := [litL "ITERABLE_COROUTINE", litL "ASYNC_GENERATOR"]
noncomputable def flagC (i : Nat) : List (List Nat) := (List.range i).map fun k => hexL (2 ^ (10 + k))
noncomputable def flagT : List (List Nat) := flagA ++ flagB ++ flagC 22
noncomputable abbrev McG0 (va : Option Value) : List (Str × Bnd) := [("k", .loc va)]
theorem SL.append {vs ws : List Value} {ls ms : List (List Nat)} (h : SL vs ls) (h2 : SL ws ms) : SL (vs ++ ws) (ls ++ ms) := by
  induction h with
  | nil => exact h2
  | cons z t _ ih => exact .cons z t ih
section
variable {C : Cx} {s₀ s : Shared} {W : List Addr} {A : Around} {E : Value → Shared → Prop} {m : List (Str × Bnd)} {pre r lam : List (Addr × Obj)} {L : Addr} {v1 v2 v3 v4 v5 v6 v7 v8 v9 v10 v11 v12 : Option Value}
theorem sg9 {br bw fr bo : Value} {Q : Flow → Shared → Prop} (hA : Ok A 140)
    (h : ∀ fl vs, SL vs flagA → ∀ s, St C s₀ W (lE L) [] s (MO L br bw fr bo) ((fl, listObj vs 0) :: (pre ++ K12 L v1 v2 v3 v4 v5 v6 v7 v8 v9 (some (.ref fl)) v11 v12 r)) → Q .next s) :
    ∀ s, St C s₀ W (lE L) [] s (MO L br bw fr bo) (pre ++ K12 L v1 v2 v3 v4 v5 v6 v7 v8 v9 v10 v11 v12 r) → wpAny (MM C.w) A (exec st9.st (lE L)) Q E s := by
  repeat' tb_start
  simp only [litL_str]
  exact h _ _ (.cons _ _ (.cons _ _ (.cons _ _ (.cons _ _ (.cons _ _ (.cons _ _ (.cons _ _ (.cons _ _ .nil))))))))
theorem sg10 {fl : Addr} {fvs : List Value} {br bw fr bo : Value} {Q : Flow → Shared → Prop} (hA : Ok A 140) (hf : SL fvs flagA)
    (h : ∀ fl vs, SL vs flagT → ∀ s, St C s₀ W (lE L) [] s (MO L br bw fr bo) ((fl, listObj vs 0) :: (pre ++ K12 L v1 v2 v3 v4 v5 v6 v7 v8 v9 (some (.ref fl)) v11 v12 r)) → Q .next s) :
    ∀ s, St C s₀ W (lE L) [] s (MO L br bw fr bo) ((fl, listObj fvs 0) :: (pre ++ K12 L v1 v2 v3 v4 v5 v6 v7 v8 v9 (some (.ref fl)) v11 v12 r)) → wpAny (MM C.w) A (exec st10.st (lE L)) Q E s := by
  repeat' tb_start
  rename_i t1 t2 F1
  refine o_addL (by news_at) (by news_at) (by rw [hf.length, sizeLine_eq]; simp [flagA]) ?_
  intro F2
  have hf2 : SL (fvs ++ [Value.str (Str.ofString "ITERABLE_COROUTINE") t1, Value.str (Str.ofString "ASYNC_GENERATOR") t2]) (flagA ++ flagB) := by
    rw [litL_str "ITERABLE_COROUTINE", litL_str "ASYNC_GENERATOR"]
    exact hf.append (.cons _ _ (.cons _ _ .nil))
  repeat' tb_start
  refine t_comp [] (by with_unfolding_all rfl) (by rfl) (by decide +kernel) ?_
  repeat' tb_start
  rename_i ta tb
  refine c_range2 ?_
  intro rg w
  refine comp_core (mc := McG0 none) (fun i ys m₁ n₁ => ∃ va, m₁ = McG0 va ∧ n₁ = (rg, rangeObj 10 32 ta tb w) :: (F2, listObj (fvs ++ [Value.str (Str.ofString "ITERABLE_COROUTINE") t1, Value.str (Str.ofString "ASYNC_GENERATOR") t2]) 0) :: (F1, listObj [Value.str (Str.ofString "ITERABLE_COROUTINE") t1, Value.str (Str.ofString "ASYNC_GENERATOR") t2] 0) :: (fl, listObj fvs 0) :: (pre ++ K12 L v1 v2 v3 v4 v5 v6 v7 v8 v9 (some (.ref fl)) v11 v12 r) ∧ SL ys (flagC i)) hA.hh (iter_range (by news_at) (by omega) (by omega)) (by intro _ _ _ _ _ p hp; cases hp) (by decide +kernel) (by rfl) ?_ (by exact (by decide +kernel : (["k"] : List Str).Nodup)) ⟨_, rfl, rfl, .nil⟩ ?_ ?_
  · exact fun a => ⟨⟨by rfl, rfl⟩, trivial⟩
  · rintro i v ys m₁ n₁ I oI D' e' L' oL c E' hi ⟨tk, rfl⟩ ⟨va, rfl, hn, hy⟩
    subst hn
    have hi : i < 22 := by simpa using hi
    repeat' tb_start
    refine t_tests0 ?_
    repeat' tb_start
    refine o_pow (by omega) (by omega) (by decide) ?_
    intro t5
    rw [show ((10 : Int) + (i : Nat)).toNat = 10 + i by omega]
    have hx := hex_short ⟨10 + i, by omega⟩
    dsimp only at hx
    rw [Int.one_mul] at hx
    repeat' tb_start
    refine c_hex hx.1 ?_
    intro t6 s₂ D₂
    refine ⟨by rw [hy.length, sizeLine_eq]; simp [flagC]; omega, McG0 (some (.int (10 + (i : Nat)) tk)), _, ⟨_, rfl, rfl, ?_⟩, D₂⟩
    have e : flagC (i + 1) = flagC i ++ [hexL (2 ^ (10 + i))] := by unfold flagC; rw [List.range_succ, List.map_append]; rfl
    rw [e]
    exact hy.snoc _ _
  · rintro ys m₁ n₁ D' e' c oC s' ⟨va, rfl, hn, hy⟩ hC DD
    subst hn
    refine compPost_val hC DD ?_
    repeat' tb_start
    refine o_addL (by news_at) (by news_at) (by rw [hf2.length, hy.length, sizeLine_eq]; simp [flagA, flagB, flagC]) ?_
    intro F3
    repeat' tb_start
    refine t_forget (n' := (F3, listObj _ 0) :: (pre ++ K12 L v1 v2 v3 v4 v5 v6 v7 v8 v9 (some (.ref F3)) v11 v12 r)) (.cons_cons _ (.cons _ (.cons _ (.cons _ (.cons _ (.cons _ (.refl _))))))) ?_
    exact h F3 _ (hf2.append hy)
end
/-- the frame of a comprehension that has cells of its own -/
noncomputable def ccEnv (scope : Scope) (cl : List (Str × Addr)) (c : Addr) (env : Env) : Env := compEnvC scope (cellsFrom (c + 1) scope.names cl) c env
section
variable {C : Cx} {s₀ s : Shared} {W : List Addr} {env : Env} {G : List (Nat × GenState)} {A : Around} {E : Value → Shared → Prop} {m m' mc : List (Str × Bnd)} {n n' n₁ : List (Addr × Obj)}
theorem St.compC (D : St C s₀ W env G s m n) {scope : Scope} {cl : List (Str × Addr)} {oL : Obj} (hoL : s.heap.get? env.locals = some oL) (hk : scope.kind = .function) (hm : McOk C.w (ccEnv scope cl s.heap.objs.size env) mc) (hnd : (mc.map (·.1)).Nodup) (t : Nat) :
    St C s₀ W (ccEnv scope cl s.heap.objs.size env) G ⟨pushCells (s.heap.push { cls := .type "dict", data := .dict #[] }) scope.names, s.gens, s.drawn, t, s.os⟩ mc ((env.locals, oL) :: (cellRows (s.heap.objs.size + 1) scope.names ++ n)) := by
  have keep : ∀ b o, s.heap.get? b = some o → (pushCells (s.heap.push { cls := .type "dict", data := .dict #[] }) scope.names).get? b = some o := fun b o e => pushCells_keeps _ _ _ _ (Heap.get?_push_of_some _ e)
  have hsz : (s.heap.push { cls := .type "dict", data := .dict #[] }).objs.size = s.heap.objs.size + 1 := Heap.size_push ..
  have hns : (pushCells (s.heap.push { cls := .type "dict", data := .dict #[] }) scope.names).Ns s.heap.objs.size (fun x => List.lookup x ([] : List (Str × Value)).reverse) := (Heap.Ns.new s.heap (.type "dict")).keeps (pushCells_keeps _ _)
  refine ⟨D.g0, ⟨fun b o hb e => keep b o (D.x.keep b o hb e), D.x.gens, D.x.bare, D.x.os⟩, D.dyn, hk, D.glob, D.bui, ⟨_, hns, hm.get⟩, ?_, hnd, fun p hp => ?_, ?_, D.gn⟩
  · exact D.newAt (get_size _)
  · rcases List.mem_cons.mp hp with rfl | hp
    · exact ⟨keep _ _ hoL, Nat.ne_of_lt (Heap.lt_size hoL), D.hL⟩
    · rcases List.mem_append.mp hp with hp | hp
      · have hge := cellRows_ge _ _ p hp
        exact ⟨pushCells_rows _ _ p (by rw [hsz]; exact hp), Nat.ne_of_gt hge, D.newAt (Heap.get?_none_of_le (Nat.le_of_succ_le hge))⟩
      · exact ⟨keep _ _ (D.nw p hp).1, Nat.ne_of_lt (Heap.lt_size (D.nw p hp).1), (D.nw p hp).2.2⟩
  · have hlt : ∀ p ∈ (env.locals, oL) :: n, p.1 < s.heap.objs.size := fun p hp => by
      rcases List.mem_cons.mp hp with rfl | hp
      · exact Heap.lt_size hoL
      · exact Heap.lt_size (D.nw p hp).1
    have hn0 : (((env.locals, oL) :: n).map (·.1)).Nodup := by
      rw [List.map_cons, List.nodup_cons]
      refine ⟨fun hm => ?_, D.na⟩
      obtain ⟨p, hp, e⟩ := List.mem_map.mp hm
      exact (D.nw p hp).2.1 e
    refine (List.Perm.nodup_iff ((List.perm_middle (a := (env.locals, oL)) (l₁ := cellRows (s.heap.objs.size + 1) scope.names) (l₂ := n)).map (·.1))).mp ?_
    rw [List.map_append, List.nodup_append]
    refine ⟨cellRows_nodup _ _, hn0, fun a ha b hb hab => ?_⟩
    subst hab
    obtain ⟨p, hp, rfl⟩ := List.mem_map.mp ha
    obtain ⟨q, hq, e⟩ := List.mem_map.mp hb
    have hge := cellRows_ge _ _ p hp
    have h1 := hlt q hq
    rw [e] at h1
    exact absurd (Nat.lt_of_lt_of_le h1 (Nat.le_of_succ_le hge)) (Nat.lt_irrefl _)
theorem comp_coreC {elt target iter : Expr} {ifs : List Expr} {scope : Scope} {pos : Pos} {cl : List (Str × Addr)} {use : Option (Value → Sem Unit)} {Q : Value → Shared → Prop} {v : Value} {src : List (Addr × Obj)} {len : Nat} {V : Nat → Value → Prop}
    (mc : Addr → List (Str × Bnd)) (J : Addr → Nat → List Value → List (Str × Bnd) → List (Addr × Obj) → Prop) (hh : A.handled = none) (hi : Iter C v n src len V) (hsrc : ∀ c i ys m₁ n₁, J c i ys m₁ n₁ → ∀ p ∈ src, p ∈ n₁)
    (hk : scope.kind = .function) (hm : ∀ c, McOk C.w (ccEnv scope cl c env) (mc c)) (hnd : ∀ c, ((mc c).map (·.1)).Nodup) (h0 : ∀ c, J c 0 [] (mc c) (cellRows (c + 1) scope.names ++ n))
    (turn : ∀ i v ys m₁ n₁ I o D e L oL c E', i < len → V i v → J c i ys m₁ n₁ → ∀ s, St C s₀ W (ccEnv scope cl c env) G s m₁ ((I, o) :: (D, listObj ys e) :: (L, oL) :: n₁) →
      wpAny (MM C.w) A (assign target (ccEnv scope cl c env) v) (KCT C A s₀ W (ccEnv scope cl c env) G E' elt ifs (J c (i + 1)) [(I, o), (D, listObj ys e), (L, oL)] ys) E' s)
    (done : ∀ ys m₁ n₁ D e c oC s, J c len ys m₁ n₁ → (∀ s'' : Shared, s''.heap.get? c = some oC → ∃ mC, s''.heap.Ns c mC) → St C s₀ W env G s m ((c, oC) :: (D, listObj ys e) :: n₁) → compPost (MM C.w) A E use Q (.ref D) c (.ok .next) s) :
    ∀ s, St C s₀ W env G s m n → CompGo C A E (.ListComp elt [⟨target, iter, ifs, 0⟩] scope pos) scope cl env use Q v s := fun s D => by
  refine hi D ?_
  intro I o OK hI hok s D
  refine t_newList (by decide) ?_ s D
  intro Da s D
  obtain ⟨oL, hoL⟩ : ∃ oL, s.heap.get? env.locals = some oL := by obtain ⟨mm, ⟨o, es, ep, e, r⟩, _⟩ := D.ns; exact ⟨o, e⟩
  simp only [newFunctionEnv, Option.isSome_some, if_true]
  refine wpAny_bind (wpAny_alloc ?_)
  refine wpAny_bind (wpAny_layCells _ (fun name kind cells => by cases hkc : kind == NameKind.cell <;> simp [hkc]) _ _ _ _ ?_)
  rw [show ({ s with heap := s.heap.push { cls := .type "dict", data := .dict #[] } } : Shared).heap.objs.size = s.heap.objs.size + 1 from Heap.size_push ..]
  rw [List.forIn_nil]
  refine wpAny_bind (wpAny_pure (wpAny_pure ?_))
  have D1 := D.compC hoL hk (hm _) (hnd _) s.toks
  have D2 := D1.perm (n' := (I, o) :: (Da, listObj [] 0) :: (env.locals, oL) :: (cellRows (s.heap.objs.size + 1) scope.names ++ n)) (by
    have p1 : (cellRows (s.heap.objs.size + 1) scope.names ++ (Da, listObj [] 0) :: (I, o) :: n).Perm ((I, o) :: (Da, listObj [] 0) :: (cellRows (s.heap.objs.size + 1) scope.names ++ n)) :=
      (List.perm_middle.trans (List.Perm.cons _ List.perm_middle)).trans (List.Perm.swap _ _ _)
    refine List.Perm.trans ?_ (p1.symm.cons _)
    refine (List.Perm.trans (List.Perm.swap _ _ _) ((List.Perm.swap _ _ _).cons _)).symm.trans ?_ |>.trans (.refl _)
    exact .refl _)
  have loop := comp_loop (elt := elt) (target := target) (iter := iter) (ifs := ifs) (scope := scope) (pos := pos) (R := compPost (MM C.w) A E use Q (.ref Da) s.heap.objs.size) (J s.heap.objs.size) hh hI (hsrc _) (h0 _) hok D2 (fun i v ys m₁ n₁ o e E' => turn i v ys m₁ n₁ I o Da e _ oL _ E') (fun ys m₁ n₁ e s' hJ D'' => by
    obtain ⟨oC, D3, hC⟩ := D.compBack hoL (D''.perm (List.Perm.swap _ _ _))
    exact done ys m₁ n₁ Da e _ oC s' hJ hC D3)
  exact codeAny_compStart_list loop (hI.self hok D2 loop)
end
noncomputable def pickF (low c i : Nat) : List (List Nat) := ((List.range i).filter fun k => decide (c / 2 ^ k % 2 = 1)).map fun k => flagT[low + k]?.getD []
noncomputable def wordsF (low i : Nat) : List (List Nat) := (List.range i).map fun j => nameF low (j + 1)
theorem nf5 : ∀ (low : Fin 30) (c : Fin 7), pickF low.val (c.val + 1) 3 = nmsF low.val (c.val + 1) := by decide +kernel
theorem flagT_len : flagT.length = 32 ∧ ∀ x ∈ flagT, x.length ≤ 30 := by decide +kernel
theorem fdv1 : ∀ (i : Fin 7) (k : Fin 3), Builtin.divisionGoesByPylong (1 + (i.val : Int)) (2 ^ k.val) = false := by decide +kernel
theorem fdv2 : ∀ (i : Fin 7) (k : Fin 3), (((1 + (i.val : Int)).fdiv (2 ^ k.val)).fmod 2 == 1) = decide ((i.val + 1) / 2 ^ k.val % 2 = 1) := by decide +kernel
theorem pickF_small {low c : Nat} (hl : low < 30) : ∀ i, i ≤ 3 → ((pickF low c i).map (·.length)).sum ≤ 30 * i ∧ (pickF low c i).length ≤ i
  | 0, _ => ⟨Nat.le_refl _, Nat.le_refl _⟩
  | i + 1, h => by
    obtain ⟨a, b⟩ := pickF_small (c := c) hl i (by omega)
    have e : pickF low c (i + 1) = pickF low c i ++ (if c / 2 ^ i % 2 = 1 then [flagT[low + i]?.getD []] else []) := by
      unfold pickF
      rw [List.range_succ, List.filter_append, List.map_append]
      by_cases hc : c / 2 ^ i % 2 = 1 <;> simp [hc]
    have hx : (flagT[low + i]?.getD []).length ≤ 30 := by
      have hlt : low + i < flagT.length := by rw [flagT_len.1]; omega
      rw [List.getElem?_eq_getElem hlt]
      exact flagT_len.2 _ (List.getElem_mem hlt)
    rw [e]
    split
    · simp only [List.map_append, List.sum_append, List.length_append, List.map_cons, List.map_nil, List.sum_cons, List.sum_nil, List.length_cons, List.length_nil]; omega
    · simp only [List.append_nil]; omega
noncomputable abbrev McW (c L : Addr) : List (Str × Bnd) := [("choice", .cel (c + 1)), ("flags", .cel (L + 10)), ("low", .cel (L + 3))]
noncomputable abbrev McW2 (va : Option Value) (c L : Addr) : List (Str × Bnd) := [("k", .loc va), ("choice", .cel (c + 1)), ("flags", .cel (L + 10)), ("low", .cel (L + 3))]
section
variable {C : Cx} {s₀ s : Shared} {W : List Addr} {A : Around} {E : Value → Shared → Prop} {n nn : List (Addr × Obj)} {L : Addr}
inductive I79b (c L r2 I D' L' rg : Addr) (oI oL : Obj) (ys : List Value) (e' i low : Nat) (u2 t3 w2 tk ta tb w : Tok) (n : List (Addr × Obj)) (k : Nat) (zs : List Value) (m₂ : List (Str × Bnd)) (n₂ : List (Addr × Obj)) : Prop
  | mk (va : Option Value) (_ : m₂ = McW2 va c L) (_ : n₂ = (r2, rangeObj 0 3 u2 t3 w2) :: (I, oI) :: (D', listObj ys e') :: (L', oL) :: (c + 1, cellObj (some (.int (1 + (i : Nat)) tk))) :: (rg, rangeObj 1 8 ta tb w) :: n) (_ : SL zs (pickF low (i + 1) k))
inductive I79 (L rg : Addr) (low : Nat) (ta tb w : Tok) (n : List (Addr × Obj)) (c : Addr) (i : Nat) (ys : List Value) (m₁ : List (Str × Bnd)) (n₁ : List (Addr × Obj)) : Prop
  | mk (v : Option Value) (_ : m₁ = McW c L) (_ : n₁ = (c + 1, cellObj v) :: (rg, rangeObj 1 8 ta tb w) :: n) (_ : SL ys (wordsF low i))
theorem sg11 {fl : Addr} {fvs : List Value} {br bw fr bo : Value} {low : Nat} {tl : Tok} {nn : Addr → List (Addr × Obj)} {Q : Flow → Shared → Prop} (hA : Ok A 140) (hf : SL fvs flagT) (hl : low < 30)
    (hcf : (L + 10, cellObj (some (.ref fl))) ∈ n) (hcl : (L + 3, cellObj (some (.int low tl))) ∈ n) (hfl : (fl, listObj fvs 0) ∈ n)
    (hcw : ∃ u, (L + 11, cellObj u) ∈ n) (U : ∀ w, Upd (L + 11) (cellObj (some (.ref w))) n (nn w))
    (h : ∀ w vs e, SL vs (wordsF low 7) → ∀ s, St C s₀ W (lE L) [] s (MO L br bw fr bo) ((w, listObj vs e) :: nn w) → Q .next s) :
    ∀ s, St C s₀ W (lE L) [] s (MO L br bw fr bo) n → wpAny (MM C.w) A (exec st11.st (lE L)) Q E s := by
  repeat' tb_start
  refine t_comp [("low", L + 3), ("flags", L + 10)] (by with_unfolding_all rfl) (by rfl) (by decide +kernel) ?_
  repeat' tb_start
  rename_i ta tb
  refine c_range2 ?_
  intro rg w
  refine comp_coreC (fun c => McW c L) (I79 L rg low ta tb w n) hA.hh (iter_range (by news_at) (by omega) (by omega)) (by intro _ _ _ _ _ _ p hp; cases hp) (by rfl) ?_ (fun _ => by exact (by decide +kernel : (["choice", "flags", "low"] : List Str).Nodup)) (fun c => ⟨_, rfl, rfl, .nil⟩) ?_ ?_
  · exact fun c => ⟨⟨.inl (by rfl), by rfl⟩, ⟨.inl (by rfl), by rfl⟩, ⟨.inl (by rfl), by rfl⟩, trivial⟩
  · rintro i v ys m₁ n₁ I oI D' e' L' oL c E' hi ⟨tk, rfl⟩ ⟨vc, rfl, hn, hy⟩
    subst hn
    have hi : i < 7 := by simpa using hi
    repeat' tb_start
    refine t_tests0 ?_
    repeat' tb_start
    refine t_comp [("low", L + 3), ("flags", L + 10), ("choice", c + 1)] (by with_unfolding_all rfl) (by rfl) (by decide +kernel) ?_
    repeat' tb_start
    rename_i t3
    refine c_range1 ?_
    intro r2 u2 w2
    refine comp_core (mc := McW2 none c L) (I79b c L r2 I D' L' rg oI oL ys e' i low u2 t3 w2 tk ta tb w n) hA.hh (iter_range (by news_at) (by omega) (by omega)) (by intro _ _ _ _ _ p hp; cases hp) (by decide +kernel) (by rfl) ?_ (by exact (by decide +kernel : (["k", "choice", "flags", "low"] : List Str).Nodup)) ⟨_, rfl, rfl, .nil⟩ ?_ ?_
    · exact fun a => ⟨⟨by rfl, rfl⟩, ⟨.inl (by rfl), by rfl⟩, ⟨.inl (by rfl), by rfl⟩, ⟨.inl (by rfl), by rfl⟩, trivial⟩
    · rintro k v zs m₂ n₂ I2 oI2 D2 e2 L2 oL2 c2 E2 hk ⟨tk2, rfl⟩ ⟨va, rfl, hn2, hz⟩
      subst hn2
      have hk : k < 3 := by simpa using hk
      rw [Int.zero_add]
      obtain ⟨z1, z2⟩ := pickF_small (c := i + 1) hl k (by omega)
      have ep : pickF low (i + 1) (k + 1) = pickF low (i + 1) k ++ (if (i + 1) / 2 ^ k % 2 = 1 then [flagT[low + k]?.getD []] else []) := by
        unfold pickF
        rw [List.range_succ, List.filter_append, List.map_append]
        by_cases hc : (i + 1) / 2 ^ k % 2 = 1 <;> simp [hc]
      repeat' tb_start
      refine t_tests1 ?_
      repeat' tb_start
      refine o_pow (by omega) (by omega) (by decide) ?_
      intro t4
      rw [Int.toNat_natCast]
      repeat' tb_start
      refine o_floordiv (Int.pow_ne_zero (by decide)) (fdv1 ⟨i, hi⟩ ⟨k, hk⟩) ?_
      intro t5
      repeat' tb_start
      refine o_mod (by decide) ?_
      intro t6
      repeat' tb_start
      have f2 := fdv2 ⟨i, hi⟩ ⟨k, hk⟩
      dsimp only at f2
      rw [f2]
      refine t_itb (fun hq => ?_) (fun hq => ?_)
      · have hq := of_decide_eq_true hq
        obtain ⟨tx, htx⟩ := hf.get (i := low + k) (y := flagT[low + k]?.getD []) (by
          have hlt : low + k < flagT.length := by rw [flagT_len.1]; omega
          rw [List.getElem?_eq_getElem hlt]; rfl)
        repeat' tb_start
        refine i_list (by news_at) (by omega) (by rw [show ((low : Int) + (k : Nat)).toNat = low + k by omega]; exact htx) (by omega) ?_
        intro s₂ D₂
        refine ⟨by rw [hz.length, sizeLine_eq]; omega, McW2 (some (.int k tk2)) c L, _, ⟨_, rfl, rfl, ?_⟩, D₂⟩
        rw [ep, if_pos hq]
        exact hz.snoc _ _
      · have hq := of_decide_eq_false hq
        intro s₂ D₂
        refine ⟨McW2 (some (.int k tk2)) c L, _, ⟨_, rfl, rfl, ?_⟩, D₂⟩
        rw [ep, if_neg hq, List.append_nil]
        exact hz
    · rintro zs m₂ n₂ D2 e2 c2 oC2 s' ⟨va, rfl, hn2, hz⟩ hC DD
      subst hn2
      obtain ⟨z1, z2⟩ := pickF_small (c := i + 1) hl 3 (by omega)
      refine compPost_val hC DD ?_
      repeat' tb_start
      refine c_join (a := [44, 32]) (by news_at) hz (by decide) (by rw [show ((3 : Int) - 0).toNat = 3 from rfl]; omega) ?_
      intro t7 s₂ D₂
      refine ⟨by rw [hy.length, sizeLine_eq]; simp [wordsF]; omega, McW c L, _, ⟨_, rfl, rfl, ?_⟩, D₂.sub (n' := (I, oI) :: (D', listObj ys e') :: (L', oL) :: (c + 1, cellObj (some (.int (1 + (i : Nat)) tk))) :: (rg, rangeObj 1 8 ta tb w) :: n) (.cons _ (.cons _ (.refl _)))⟩
      have f5 := nf5 ⟨low, hl⟩ ⟨i, hi⟩
      dsimp only at f5
      have e : wordsF low (i + 1) = wordsF low i ++ [joinL [44, 32] (pickF low (i + 1) 3)] := by
        rw [f5]; unfold wordsF nameF; rw [List.range_succ, List.map_append]; rfl
      rw [e]
      exact hy.snoc _ _
  · rintro ys m₁ n₁ D' e' c oC s' ⟨va, rfl, hn, hy⟩ hC DD
    subst hn
    refine compPost_val hC DD ?_
    obtain ⟨uw, huw⟩ := hcw
    refine t_stc (c := L + 11) (by news_at) (.tail (.tail (.tail (U D')))) ⟨uw, .tail _ (.tail _ (.tail _ huw))⟩ (by with_unfolding_all rfl) ?_
    exact t_forget (.cons_cons _ (.cons _ (.cons _ (.refl _)))) (h D' ys e' hy)
end
section
variable {C : Cx} {s₀ s : Shared} {W : List Addr} {A : Around} {E : Value → Shared → Prop} {n lam : List (Addr × Obj)} {L : Addr}
theorem sg12 {B dx bl w : Addr} {ob : Obj} {vs wvs : List Value} {e ew : Nat} {ts : List (Addr × Obj)} {l : List (List Nat × List Nat)} {nm v : List Nat} {tn tf : Tok} {x1 x2 : Value} {Q : Flow → Shared → Prop} (hA : Ok A 120) (P : HdP ob bl vs ts l)
    (hin : ∀ p ∈ hdL B dx ob bl vs e ts, p ∈ n) (hnd : ((hdL B dx ob bl vs e ts).map (·.1)).Nodup) (hn : Plain nm) (hnl : nm.length ≤ 100) (hlam : LamP lam) (hg : getF l (lw nm) = some v)
    (hcw : (L + 11, cellObj (some (.ref w))) ∈ n) (hw : (w, listObj wvs ew) ∈ n) (hw0 : wvs[0]? = some (.str (strOf nm) tn))
    (h : ∀ lam', LamP lam' → ∀ s, St C s₀ W (lE L) [] s (MO L x1 x2 (.int 7 tf) (.ref B)) (lam' ++ n) → Q .next s) :
    ∀ s, St C s₀ W (lE L) [] s (MO L x1 x2 (.int 7 tf) (.ref B)) (lam ++ n) → wpAny (MM C.w) A (exec st12.st (lE L)) Q E s := by
  have hH : ∀ {q : List (Addr × Obj)}, (B, instObj 309 dx) ∈ q ++ n := fun {q} => List.mem_append_right _ (hin _ (.head _))
  have hdx : ∀ {q : List (Addr × Obj)}, (dx, ob) ∈ q ++ n := fun {q} => List.mem_append_right _ (hin _ (.tail _ (.head _)))
  obtain ⟨u1, u2, u3⟩ := plain_lw hn
  repeat' tb_start
  refine t_itb (fun hq => absurd hq (by decide)) (fun _ => ?_)
  repeat' tb_start
  refine P.meth (f := 299) hH hdx (by kernel_rfl) (by kernel_rfl) (by kernel_rfl) ?_
  repeat' tb_start
  refine i_list (l := w) (vs := wvs) (e := ew) (List.mem_append_right _ hw) (by decide) hw0 (by decide) ?_
  repeat' tb_start
  refine c_lower (by omega) ?_
  intro t1
  repeat' tb_start
  refine s_setdefault_old (hA.le (by decide)) P (e := e) (dx := dx) (fun p hp => List.mem_append_right _ (hin p hp)) hnd (u1.good (by omega)) (by rw [u3]; exact hg) ?_
  intro t2
  repeat' tb_start
  refine i_list (l := w) (vs := wvs) (e := ew) (List.mem_append_right _ hw) (by decide) hw0 (by decide) ?_
  repeat' tb_start
  refine s_asked (hA.le (by decide)) P (e := e) (dx := dx) hin hnd (hn.good (by omega)) hg hlam ?_
  intro t3 lam' hlam'
  repeat' tb_start
  refine t_itb (fun hq => absurd hq (by simp)) (fun _ => ?_)
  repeat' tb_start
  exact h lam' hlam'
theorem getF_old {l r : List (List Nat × List Nat)} {x v : List Nat} (h : getF l x = some v) : getF (l ++ r) x = some v := by
  unfold getF at h ⊢
  obtain ⟨p, hp, rfl⟩ := Option.map_eq_some_iff.mp h
  rw [List.find?_append, hp]; rfl
theorem sg13 {B dx bl w : Addr} {ob : Obj} {vs wvs : List Value} {e ew : Nat} {ts : List (Addr × Obj)} {l : List (List Nat × List Nat)} {nm v : List Nat} {tn : Tok} {x1 x2 x3 : Value} {Q : Flow → Shared → Prop} (hA : Ok A 120) (P : HdP ob bl vs ts l)
    (hn : Plain nm) (hnl : nm.length ≤ 100) (hl : l.length < 30) (hg : getF l (lw nm) = some v) (hv : v ≠ [120])
    (hcw : (L + 11, cellObj (some (.ref w))) ∈ n) (hw : (w, listObj wvs ew) ∈ n) (hw0 : wvs[0]? = some (.str (strOf nm) tn))
    (h : ∀ vs' e' ts', HdP ob bl vs' ts' (l ++ [(nm, [120])]) → ∀ s, St C s₀ W (lE L) [] s (MO L x1 x2 x3 (.ref B)) (hdL B dx ob bl vs' e' ts' ++ n) → Q .next s) :
    ∀ s, St C s₀ W (lE L) [] s (MO L x1 x2 x3 (.ref B)) (hdL B dx ob bl vs e ts ++ n) → wpAny (MM C.w) A (exec st13.st (lE L)) Q E s := by
  have hH : ∀ {v' e' t'} {q : List (Addr × Obj)}, (B, instObj 309 dx) ∈ hdL B dx ob bl v' e' t' ++ q := fun {_ _ _ _} => .head _
  have hdx : ∀ {v' e' t'} {q : List (Addr × Obj)}, (dx, ob) ∈ hdL B dx ob bl v' e' t' ++ q := fun {_ _ _ _} => .tail _ (.head _)
  have px : Plain [120] := fun c hc => by rw [List.mem_singleton] at hc; omega
  repeat' tb_start
  refine P.meth (f := 306) hH hdx (by kernel_rfl) (by kernel_rfl) (by kernel_rfl) ?_
  repeat' tb_start
  refine i_list (l := w) (vs := wvs) (e := ew) (List.mem_append_right _ hw) (by decide) hw0 (by decide) ?_
  repeat' tb_start
  refine s_add (ps := []) (hA.le (by decide)) P (hn.good (by omega)) px (by decide) hl .nil (by simp) px (by decide) ?_
  intro vs' e' ts' P'
  have P' : HdP ob bl vs' ts' (l ++ [(nm, [120])]) := P'
  repeat' tb_start
  refine P'.meth (f := 256) hH hdx (by kernel_rfl) (by kernel_rfl) (by kernel_rfl) ?_
  repeat' tb_start
  refine i_list (l := w) (vs := wvs) (e := ew) (List.mem_append_right _ hw) (by decide) hw0 (by decide) ?_
  repeat' tb_start
  intro s D
  have hnd : ((hdL B dx ob bl vs' e' ts').map (·.1)).Nodup := D.na.sublist ((List.sublist_append_left _ _).map _)
  revert D
  revert s
  have hg2 := getF_old (r := [(nm, [120])]) hg
  refine s_get (hA.le (by decide)) P' (e := e') (dx := dx) (fun p hp => List.mem_append_left _ hp) hnd (hn.good (by omega)) (.inr ⟨rfl, rfl⟩) (fun v' tv hg' => ?_) (fun hg' => ?_)
  · rw [hg2] at hg'; cases hg'
    repeat' tb_start
    refine t_itb (fun hq => ?_) (fun _ => ?_)
    · exact absurd (by simpa [strOf_inj] using hq) hv
    repeat' tb_start
    exact h vs' e' ts' P'
  · rw [hg2] at hg'; cases hg'
end
theorem plain_strOk {x : List Nat} (h : Plain x) : PyData.strOk (strOf x) = true := by
  unfold PyData.strOk
  simp only [strOf, List.all_toArray, List.all_eq_true, decide_eq_true_eq]
  intro c hc
  have := h c hc
  omega
theorem SL.dat {n : List (Addr × Obj)} {vs : List Value} {ls : List (List Nat)} (h : SL vs ls) : DatAll n vs (ls.map fun x => Dat.str (strOf x)) := by
  induction h with
  | nil => exact .nil
  | cons z t _ ih => exact .cons (.str _ _) ih
theorem dat_ok {ls : List (List Nat)} (h : ∀ x ∈ ls, Plain x) : ∀ d ∈ ls.map (fun x => Dat.str (strOf x)), kqdOk 8 d = true := fun d hd => by
  obtain ⟨x, hx, rfl⟩ := List.mem_map.mp hd
  exact plain_strOk (h x hx)
noncomputable def ix8 : List Nat := [0, 1, 3, 5, 2, 6, 4, 0]
noncomputable abbrev McX (va : Option Value) (c : Addr) : List (Str × Bnd) := [("k", .loc va), ("words", .cel c)]
section
variable {C : Cx} {s₀ s : Shared} {W : List Addr} {A : Around} {E : Value → Shared → Prop} {n lam : List (Addr × Obj)} {L : Addr}
inductive I81 (L T a3 a2 a1 : Addr) (tv ws3 ws2 ws1 : List Value) (e3 e2 e1 : Nat) (wl : List (List Nat)) (n : List (Addr × Obj)) (i : Nat) (ys : List Value) (m₁ : List (Str × Bnd)) (n₁ : List (Addr × Obj)) : Prop
  | mk (va : Option Value) (_ : m₁ = McX va (L + 11)) (_ : n₁ = (T, tupObj tv) :: (a3, listObj ws3 e3) :: (a2, listObj ws2 e2) :: (a1, listObj ws1 e1) :: n) (_ : SL ys ((ix8.take i).map fun k => wl[k]?.getD []))
theorem sg14 {B dx bl w br bw : Addr} {ob : Obj} {vs wvs brs bws : List Value} {e ew ebr ebw : Nat} {ts : List (Addr × Obj)} {l : List (List Nat × List Nat)} {wl : List (List Nat)} {bri bwi : List Int} {x3 : Value} {Q : Flow → Shared → Prop} (hA : Ok A 120) (P : HdP ob bl vs ts l)
    (hin : ∀ p ∈ hdL B dx ob bl vs e ts, p ∈ n) (hnd : ((hdL B dx ob bl vs e ts).map (·.1)).Nodup)
    (hcw : (L + 11, cellObj (some (.ref w))) ∈ n) (hw : (w, listObj wvs ew) ∈ n) (hwl : SL wvs wl) (hw7 : wl.length = 7) (hwp : ∀ x ∈ wl, Plain x)
    (hbr : (br, listObj brs ebr) ∈ n) (hbw : (bw, listObj bws ebw) ∈ n) (hri : IntsAre brs bri) (hwi : IntsAre bws bwi) (hr6 : bri.length ≤ 20) (hperm : bwi.Perm bri)
    (hkeys : l.map (·.1) = ix8.map fun k => wl[k]?.getD [])
    (h : ∀ s, St C s₀ W (lE L) [] s (MO L (.ref br) (.ref bw) x3 (.ref B)) n → Q .next s) :
    ∀ s, St C s₀ W (lE L) [] s (MO L (.ref br) (.ref bw) x3 (.ref B)) n → wpAny (MM C.w) A (exec st14.st (lE L)) Q E s := by
  have hH : ∀ {q : List (Addr × Obj)}, (B, instObj 309 dx) ∈ q ++ n := fun {q} => List.mem_append_right _ (hin _ (.head _))
  have hdx : ∀ {q : List (Addr × Obj)}, (dx, ob) ∈ q ++ n := fun {q} => List.mem_append_right _ (hin _ (.tail _ (.head _)))
  repeat' tb_start
  refine c_sorted (by news_at) hwi (by rw [hwi.length, hperm.length_eq]; omega) ?_
  intro a1 ws1 ms1 e1 hi1 hp1 hs1
  repeat' tb_start
  refine c_sorted (by news_at) hri (by rw [hri.length]; omega) ?_
  intro a2 ws2 ms2 e2 hi2 hp2 hs2
  repeat' tb_start
  refine o_neI (hA.le (by decide)) (by news_at) (by news_at) hi1 hi2 ?_
  have hms : ms1 = ms2 := (hp1.trans (hperm.trans hp2.symm)).eq_of_pairwise (fun a b _ _ h1 h2 => Int.le_antisymm h1 h2) hs1 hs2
  rw [decide_eq_true hms]
  repeat' tb_start
  refine t_itb (fun hq => absurd hq (by decide)) (fun _ => ?_)
  repeat' tb_start
  refine P.meth (f := 261) (hH (q := [_, _])) (hdx (q := [_, _])) (by kernel_rfl) (by kernel_rfl) (by kernel_rfl) ?_
  repeat' tb_start
  refine s_keys (hA.le (by decide)) P (e := e) (dx := dx) (fun p hp => .tail _ (.tail _ (hin p hp))) hnd ?_
  intro a3 ws3 e3 hk3
  repeat' tb_start
  refine t_comp [("words", L + 11)] (by with_unfolding_all rfl) (by rfl) (by decide +kernel) ?_
  repeat' tb_start
  rename_i t0 t1 t2 t3 t4 t5 t6 t7 T
  obtain ⟨tv, htv⟩ : ∃ tv : List Value, tv = [Value.int 0 t0, Value.int 1 t1, Value.int 3 t2, Value.int 5 t3, Value.int 2 t4, Value.int 6 t5, Value.int 4 t6, Value.int 0 t7] := ⟨_, rfl⟩
  have htl : tv.length = 8 := by rw [htv]; rfl
  have hTs : ∀ (i : Nat) (v : Value), tv[i]? = some v → ∃ (k : Nat) (tk : Tok), v = Value.int k tk ∧ ix8[i]? = some k ∧ k < 7 := by
    intro i v hv
    have hi : i < 8 := htl ▸ (List.getElem?_eq_some_iff.mp hv).1
    have : i = 0 ∨ i = 1 ∨ i = 2 ∨ i = 3 ∨ i = 4 ∨ i = 5 ∨ i = 6 ∨ i = 7 := in8 (by first | assumption | omega)
    rw [htv] at hv
    rcases this with rfl | rfl | rfl | rfl | rfl | rfl | rfl | rfl <;> (cases hv; exact ⟨_, _, rfl, rfl, by decide⟩)
  refine comp_core (mc := McX none (L + 11)) (I81 L T a3 a2 a1 tv ws3 ws2 ws1 e3 e2 e1 wl n) hA.hh (iter_tup (vs := tv) (by rw [htv]; exact .head _)) ?_ (by decide +kernel) (by rfl) ?_ (by exact (by decide +kernel : (["k", "words"] : List Str).Nodup)) ⟨_, rfl, by rw [htv], .nil⟩ ?_ ?_
  · rintro i ys m₁ n₁ ⟨_, rfl, hn, _⟩ p hp
    obtain rfl := List.mem_singleton.mp hp
    rw [hn]; exact .head _
  · exact fun a => ⟨⟨by rfl, rfl⟩, ⟨.inl (by rfl), by rfl⟩, trivial⟩
  · rintro i v ys m₁ n₁ I oI D' e' L' oL c E' hi hv ⟨va, rfl, hn, hy⟩
    subst hn
    obtain ⟨k, tk, rfl, hk, hk7⟩ := hTs i v hv
    have hi : i < 8 := htl ▸ hi
    obtain ⟨tx, htx⟩ := hwl.get (i := k) (y := wl[k]?.getD []) (by
      have hlt : k < wl.length := by omega
      rw [List.getElem?_eq_getElem hlt]; rfl)
    repeat' tb_start
    refine t_tests0 ?_
    repeat' tb_start
    refine i_list (l := w) (vs := wvs) (e := ew) (by news_at) (by omega) (by rw [Int.toNat_natCast]; exact htx) (by omega) ?_
    intro s₂ D₂
    refine ⟨by rw [hy.length, sizeLine_eq]; simp; omega, McX (some (.int k tk)) (L + 11), _, ⟨_, rfl, rfl, ?_⟩, D₂⟩
    rw [List.take_add_one, hk, List.map_append]
    exact hy.snoc _ _
  · rintro ys m₁ n₁ D' e' c oC s' ⟨va, rfl, hn, hy⟩ hC DD
    subst hn
    rw [htl, show ix8.take 8 = ix8 from rfl] at hy
    refine compPost_val hC DD ?_
    repeat' tb_start
    refine o_neL (hA.le (by decide)) (by news_at) (by news_at) hk3.dat hy.dat (dat_ok ?_) (dat_ok ?_) ?_
    · rw [hkeys]
      intro x hx
      obtain ⟨k, hk, rfl⟩ := List.mem_map.mp hx
      cases hg : wl[k]? with
      | none => exact fun c hc => nomatch hc
      | some y => exact hwp y (List.mem_of_getElem? hg)
    · intro x hx
      obtain ⟨k, hk, rfl⟩ := List.mem_map.mp hx
      cases hg : wl[k]? with
      | none => exact fun c hc => nomatch hc
      | some y => exact hwp y (List.mem_of_getElem? hg)
    intro b hb
    rw [hb.mpr (by rw [hkeys])]
    repeat' tb_start
    exact t_forget (.cons _ (.cons _ (.cons _ (.cons _ (.cons _ (.refl _)))))) h
end
section
variable {C : Cx} {s₀ s : Shared} {W : List Addr} {A : Around} {E : Value → Shared → Prop} {n lam : List (Addr × Obj)} {L : Addr}
theorem sg15 {H dx hl rl bw : Addr} {ot : Obj} {vs rws bws : List Value} {e er ebw : Nat} {ts : List (Addr × Obj)} {l : List (List Nat × List Nat)} {rl' : List (List Nat)} {x1 x3 x4 : Value} {lack : Int} {tk : Tok} {Q : Flow → Shared → Prop} (hA : Ok A 120) (P : HdP ot hl vs ts l)
    (hin : ∀ p ∈ hdL H dx ot hl vs e ts, p ∈ n) (hnd : ((hdL H dx ot hl vs e ts).map (·.1)).Nodup)
    (hct : (L + 12, cellObj (some (.ref H))) ∈ n) (hcr : (L + 6, cellObj (some (.ref rl))) ∈ n) (hrl : (rl, listObj rws er) ∈ n) (hrw : SL rws rl')
    (hbw : (bw, listObj bws ebw) ∈ n) (hb0 : bws[0]? = some (.int lack tk)) (hl1 : ((l.map (·.2)).map (·.length)).sum + l.length ≤ 10000) (hl2 : (rl'.map (·.length)).sum + rl'.length ≤ 10000)
    (h : ∀ t1 t2, ∀ s, St C s₀ W (lE L) [] s (Lc "text" (.str (strOf (l.map (·.2)).flatten) t1) :: Lc "lone" (.str (strOf rl'.flatten) t2) :: Lc "lack" (.int lack tk) :: MO L x1 (.ref bw) x3 x4) n → Q .next s) :
    ∀ s, St C s₀ W (lE L) [] s (MO L x1 (.ref bw) x3 x4) n → wpAny (MM C.w) A (exec st15.st (lE L)) Q E s := by
  have hH : ∀ {q : List (Addr × Obj)}, (H, instObj 309 dx) ∈ q ++ n := fun {q} => List.mem_append_right _ (hin _ (.head _))
  have hdx : ∀ {q : List (Addr × Obj)}, (dx, ot) ∈ q ++ n := fun {q} => List.mem_append_right _ (hin _ (.tail _ (.head _)))
  refine t_asgSw ["text", "lone", "lack"] ?_
  repeat' tb_start
  refine P.meth (f := 266) (hH (q := [])) (hdx (q := [])) (by kernel_rfl) (by kernel_rfl) (by kernel_rfl) ?_
  repeat' tb_start
  refine s_values (hA.le (by decide)) P (e := e) (dx := dx) hin hnd ?_
  intro a1 ws1 e1 hv1
  repeat' tb_start
  refine c_join (a := []) (by news_at) hv1 (by decide) (by rw [List.length_map]; omega) ?_
  intro t1
  rw [joinL_nil]
  repeat' tb_start
  refine c_join (a := []) (by news_at) hrw (by decide) (by omega) ?_
  intro t2
  rw [joinL_nil]
  repeat' tb_start
  refine i_list (l := bw) (vs := bws) (e := ebw) (by news_at) (by decide) hb0 (by decide) ?_
  repeat' tb_start
  rename_i T
  refine o_unpack hA.hh (by news_at) rfl ?_
  refine t_ordB ?_
  repeat' tb_start
  refine t_ordB ?_
  repeat' tb_start
  refine t_ordB ?_
  repeat' tb_start
  refine t_ordNil ?_
  repeat' tb_start
  exact t_forget (.cons _ (.cons _ (.refl _))) (h t1 t2)
end
noncomputable abbrev MT (more text lone lack : Value) (m : List (Str × Bnd)) : List (Str × Bnd) := Lc "more" more :: Lc "text" text :: Lc "lone" lone :: Lc "lack" lack :: m
theorem asc_rp {c : Nat} {k : Nat} (hc : c < 128) : ∀ x ∈ List.replicate k c, x < 128 := fun x hx => by rw [List.eq_of_mem_replicate hx]; exact hc
theorem asc3 {a b : Nat} {x : List Nat} (hx : ∀ c ∈ x, c < 128) : ∀ c ∈ List.replicate a 40 ++ x ++ List.replicate b 41, c < 128 := fun c hc => by
  rcases List.mem_append.mp hc with hc | hc
  · rcases List.mem_append.mp hc with hc | hc
    · exact asc_rp (by decide) c hc
    · exact hx c hc
  · exact asc_rp (by decide) c hc
section
variable {C : Cx} {s₀ s : Shared} {W : List Addr} {A : Around} {E : Value → Shared → Prop} {n lam : List (Addr × Obj)} {L : Addr}
theorem sg16 {lone text : List Nat} {t1 t2 t3 : Tok} {lack : Int} {x1 x2 x3 x4 : Value} {Q : Flow → Shared → Prop} (hA : Ok A 60)
    (h : ∀ t, ∀ s, St C s₀ W (lE L) [] s (MT (.int (moreF lone) t) (.str (strOf text) t1) (.str (strOf lone) t2) (.int lack t3) (MO L x1 x2 x3 x4)) n → Q .next s) :
    ∀ s, St C s₀ W (lE L) [] s (Lc "text" (.str (strOf text) t1) :: Lc "lone" (.str (strOf lone) t2) :: Lc "lack" (.int lack t3) :: MO L x1 x2 x3 x4) n → wpAny (MM C.w) A (exec st16.st (lE L)) Q E s := by
  repeat' tb_start
  exact h _
theorem sg17 {lone : List Nat} {t1 t2 t3 : Tok} {lack more : Int} {x0 x1 x2 x3 x4 : Value} {Q : Flow → Shared → Prop} (hA : Ok A 80) (hx : ∀ c ∈ lone, c < 128) (hl : lone.length ≤ 200) (h0 : 0 ≤ lack) (h1 : lack ≤ 100) (h2 : 0 ≤ lack + more) (h3 : lack + more ≤ 100)
    (hc : checkF (rp 40 (lack + 1) ++ lone ++ rp 41 (lack + more)) = false)
    (h : ∀ s, St C s₀ W (lE L) [] s (MT (.int more t1) x0 (.str (strOf lone) t2) (.int lack t3) (MO L x1 x2 x3 x4)) n → Q .next s) :
    ∀ s, St C s₀ W (lE L) [] s (MT (.int more t1) x0 (.str (strOf lone) t2) (.int lack t3) (MO L x1 x2 x3 x4)) n → wpAny (MM C.w) A (exec st17.st (lE L)) Q E s := by
  repeat' tb_start
  refine o_mulS (by omega) (by omega) ?_
  intro u1
  repeat' tb_start
  refine o_adds (Nat.le_trans (wl1 (by omega) (by omega)) (by rw [sizeLine_eq]; decide)) ?_
  intro u2
  repeat' tb_start
  refine o_mulS (by omega) (by omega) ?_
  intro u3
  repeat' tb_start
  refine o_adds (Nat.le_trans (wl2 (by omega) (by omega) (by omega)) (by rw [sizeLine_eq]; decide)) ?_
  intro u4
  repeat' tb_start
  refine s_check (hA.le (by decide)) (asc3 hx) (Nat.le_trans (wl2 (by omega) (by omega) (by omega)) (by decide)) ?_
  unfold rp at hc
  rw [hc]
  repeat' tb_start
  refine t_itb (fun hq => absurd hq (by simp)) (fun _ => ?_)
  repeat' tb_start
  exact h
theorem sg18 {lone : List Nat} {t1 t2 t3 : Tok} {lack more : Int} {x0 x1 x2 x3 x4 : Value} {Q : Flow → Shared → Prop} (hA : Ok A 80) (hx : ∀ c ∈ lone, c < 128) (hl : lone.length ≤ 200) (h0 : 0 ≤ lack) (h1 : lack ≤ 100) (h2 : 0 ≤ lack + more) (h3 : lack + more ≤ 100)
    (hc : checkF (rp 40 lack ++ lone ++ rp 41 (lack + more + 1)) = false)
    (h : ∀ s, St C s₀ W (lE L) [] s (MT (.int more t1) x0 (.str (strOf lone) t2) (.int lack t3) (MO L x1 x2 x3 x4)) n → Q .next s) :
    ∀ s, St C s₀ W (lE L) [] s (MT (.int more t1) x0 (.str (strOf lone) t2) (.int lack t3) (MO L x1 x2 x3 x4)) n → wpAny (MM C.w) A (exec st18.st (lE L)) Q E s := by
  repeat' tb_start
  refine o_mulS (by omega) (by omega) ?_
  intro u1
  repeat' tb_start
  refine o_adds (Nat.le_trans (wl1 (by omega) (by omega)) (by rw [sizeLine_eq]; decide)) ?_
  intro u2
  repeat' tb_start
  refine o_mulS (by omega) (by omega) ?_
  intro u3
  repeat' tb_start
  refine o_adds (Nat.le_trans (wl2 (by omega) (by omega) (by omega)) (by rw [sizeLine_eq]; decide)) ?_
  intro u4
  repeat' tb_start
  refine s_check (hA.le (by decide)) (asc3 hx) (Nat.le_trans (wl2 (by omega) (by omega) (by omega)) (by decide)) ?_
  unfold rp at hc
  rw [hc]
  repeat' tb_start
  refine t_itb (fun hq => absurd hq (by simp)) (fun _ => ?_)
  repeat' tb_start
  exact h
theorem sg19 {text : List Nat} {t1 t2 t3 : Tok} {lack more : Int} {x0 x1 x2 x3 x4 : Value} {Q : Flow → Shared → Prop} (hA : Ok A 80) (hx : ∀ c ∈ text, c < 128) (hl : text.length ≤ 600) (h0 : 0 ≤ lack) (h1 : lack ≤ 100) (h2 : 0 ≤ lack + more) (h3 : lack + more ≤ 100)
    (hc : lack > max 0 (-more) → checkF (rp 40 (lack - 1) ++ text ++ rp 41 (lack - 1 + more)) = false)
    (h : ∀ s, St C s₀ W (lE L) [] s (MT (.int more t1) (.str (strOf text) t2) x0 (.int lack t3) (MO L x1 x2 x3 x4)) n → Q .next s) :
    ∀ s, St C s₀ W (lE L) [] s (MT (.int more t1) (.str (strOf text) t2) x0 (.int lack t3) (MO L x1 x2 x3 x4)) n → wpAny (MM C.w) A (exec st19.st (lE L)) Q E s := by
  repeat' tb_start
  refine c_max2 hA.hh ?_
  intro u0
  repeat' tb_start
  refine t_itb (fun hq => ?_) (fun hq => ?_)
  · have hc := hc (of_decide_eq_true hq)
    have hq := of_decide_eq_true hq
    repeat' tb_start
    refine o_mulS (by omega) (by omega) ?_
    intro u1
    repeat' tb_start
    refine o_adds (Nat.le_trans (wl1 (by omega) (by omega)) (by rw [sizeLine_eq]; decide)) ?_
    intro u2
    repeat' tb_start
    refine o_mulS (by omega) (by omega) ?_
    intro u3
    repeat' tb_start
    refine o_adds (Nat.le_trans (wl2 (by omega) (by omega) (by omega)) (by rw [sizeLine_eq]; decide)) ?_
    intro u4
    repeat' tb_start
    refine s_check (hA.le (by decide)) (asc3 hx) (Nat.le_trans (wl2 (by omega) (by omega) (by omega)) (by decide)) ?_
    unfold rp at hc
    rw [hc]
    repeat' tb_start
    refine t_itb (fun hq => absurd hq (by simp)) (fun _ => ?_)
    repeat' tb_start
    exact h
  · repeat' tb_start
    exact h
theorem sg20 {text : List Nat} {t1 t2 t3 : Tok} {lack more : Int} {x0 x1 x2 x3 x4 : Value} {Q : Flow → Shared → Prop} (hA : Ok A 80) (hx : ∀ c ∈ text, c < 128) (hl : text.length ≤ 600) (h0 : 0 ≤ lack) (h1 : lack ≤ 100) (h2 : 0 ≤ lack + more) (h3 : lack + more ≤ 100)
    (hc : checkF (rp 40 lack ++ text ++ rp 41 (lack + more)) = true)
    (h : ∀ s, St C s₀ W (lE L) [] s (MT (.int more t1) (.str (strOf text) t2) x0 (.int lack t3) (MO L x1 x2 x3 x4)) n → Q (.ret (.bool true)) s) :
    ∀ s, St C s₀ W (lE L) [] s (MT (.int more t1) (.str (strOf text) t2) x0 (.int lack t3) (MO L x1 x2 x3 x4)) n → wpAny (MM C.w) A (exec st20.st (lE L)) Q E s := by
  repeat' tb_start
  refine o_mulS (by omega) (by omega) ?_
  intro u1
  repeat' tb_start
  refine o_adds (Nat.le_trans (wl1 (by omega) (by omega)) (by rw [sizeLine_eq]; decide)) ?_
  intro u2
  repeat' tb_start
  refine o_mulS (by omega) (by omega) ?_
  intro u3
  repeat' tb_start
  refine o_adds (Nat.le_trans (wl2 (by omega) (by omega) (by omega)) (by rw [sizeLine_eq]; decide)) ?_
  intro u4
  repeat' tb_start
  refine s_check (hA.le (by decide)) (asc3 hx) (Nat.le_trans (wl2 (by omega) (by omega) (by omega)) (by decide)) ?_
  unfold rp at hc
  rw [hc]
  repeat' tb_start
  exact h
end
/-! the plain side: what is stripped, token by token -/
noncomputable def tks : Bool → List Nat → List (List Nat)
  | e, [] => if e then [[92]] else []
  | true, c :: cs => [92, c] :: tks false cs
  | false, c :: cs => if c = 92 then tks true cs else [c] :: tks false cs
noncomputable def esE : Bool → List Nat → Bool
  | e, [] => e
  | true, _ :: cs => esE false cs
  | false, c :: cs => esE (decide (c = 92)) cs
noncomputable def outs : Bool → List (List Nat) → Bool × List Nat
  | b, [] => (b, [])
  | b, l :: r => if l = [34] then outs (!b) r else if b then outs b r else ((outs b r).1, l ++ (outs b r).2)
theorem esc_tks : ∀ (x : List Nat) (i : Nat) (e : Bool), (esc i e x).map (·.2) = tks e x
  | [], i, e => by cases e <;> rfl
  | c :: cs, i, true => by rw [esc, tks, List.map_cons, esc_tks cs]
  | c :: cs, i, false => by
    rw [esc, tks]
    split
    · exact esc_tks cs _ _
    · rw [List.map_cons, esc_tks cs]
theorem outs_app : ∀ (T T' : List (List Nat)) (b : Bool), outs b (T ++ T') = ((outs (outs b T).1 T').1, (outs b T).2 ++ (outs (outs b T).1 T').2)
  | [], T', b => rfl
  | l :: r, T', b => by
    rw [List.cons_append, outs, outs]
    split
    · exact outs_app r T' _
    · split
      · exact outs_app r T' _
      · rw [outs_app r T' b]; simp
theorem tks_app : ∀ (u v : List Nat) (e : Bool), esE e u = false → tks e (u ++ v) = tks e u ++ tks false v
  | [], v, e, h => by cases e with
    | false => rfl
    | true => cases h
  | c :: cs, v, true, h => by
    rw [List.cons_append, tks, tks, tks_app cs v false h]; rfl
  | c :: cs, v, false, h => by
    rw [esE] at h
    rw [List.cons_append, tks, tks]
    by_cases hc : c = 92
    · rw [decide_eq_true hc] at h
      rw [if_pos hc, if_pos hc, tks_app cs v true h]
    · rw [decide_eq_false hc] at h
      rw [if_neg hc, if_neg hc, tks_app cs v false h]; rfl
theorem esE_app : ∀ (u v : List Nat) (e : Bool), esE e (u ++ v) = esE (esE e u) v
  | [], v, e => rfl
  | c :: cs, v, true => by rw [List.cons_append, esE, esE, esE_app cs]
  | c :: cs, v, false => by rw [List.cons_append, esE, esE, esE_app cs]
theorem take_one {x pre suf : List Nat} {c : Nat} (h : x = pre ++ c :: suf) {a : Nat} (ha : a ≤ pre.length) : (x.drop a).take (pre.length + 1 - a) = (x.drop a).take (pre.length - a) ++ [c] := by
  rw [Nat.succ_sub ha, List.take_add_one, List.getElem?_drop, Nat.add_sub_of_le ha, h]
  simp
theorem strip_go (x : List Nat) : ∀ (k : Nat) (suf pre : List Nat), suf.length ≤ k → x = pre ++ suf → esE false suf = false → ∀ (a : Nat) (res : List (List Nat)), a ≤ pre.length →
    (∀ fin, (esc pre.length false suf).foldl (sst x) ((a : Int), none, res) = fin → (outs false (tks false suf)).1 = false →
      fin.2.2.flatten ++ (if fin.1 < x.length then slc x (some fin.1) none else []) = res.flatten ++ (x.drop a).take (pre.length - a) ++ (outs false (tks false suf)).2) ∧
    (∀ b : Nat, a ≤ b → b < pre.length → ∀ fin, (esc pre.length false suf).foldl (sst x) ((a : Int), some (b : Int), res) = fin → (outs true (tks false suf)).1 = false →
      fin.2.2.flatten ++ (if fin.1 < x.length then slc x (some fin.1) none else []) = res.flatten ++ (x.drop a).take (b - a) ++ (outs true (tks false suf)).2)
  | k, [], pre, _, hx, _, a, res, ha => by
    refine ⟨fun fin hf _ => ?_, fun b h1 h2 fin hf ho => by cases ho⟩
    subst hf
    have hx : x = pre := by rw [hx, List.append_nil]
    subst hx
    show res.flatten ++ (if (a : Int) < x.length then slc x (some (a : Int)) none else []) = res.flatten ++ (x.drop a).take (x.length - a) ++ []
    rw [List.append_nil]
    congr 1
    by_cases h : a < x.length
    · rw [if_pos (by omega), slc_sn (by omega) (by omega), Int.toNat_natCast, List.take_of_length_le (by rw [List.length_drop]; omega)]
    · rw [if_neg (by omega), show x.length - a = 0 by omega, List.take_zero]
  | 0, c :: cs, pre, hk, _, _, _, _, _ => by simp at hk
  | k + 1, c :: cs, pre, hk, hx, he, a, res, ha => by
    have hk2 : cs.length ≤ k := by simpa using hk
    rw [esE] at he
    by_cases hc : c = 92
    · subst hc
      cases cs with
      | nil => cases he
      | cons d ds =>
        have he : esE false ds = false := he
        have hx2 : x = (pre ++ [92, d]) ++ ds := by rw [hx]; simp
        have ih := strip_go x k ds (pre ++ [92, d]) (by simp at hk; omega) hx2 he a res (by simp; omega)
        have hl : (pre ++ [92, d]).length = pre.length + 1 + 1 := by simp
        have hT : tks false (92 :: d :: ds) = [92, d] :: tks false ds := rfl
        have hE : esc pre.length false (92 :: d :: ds) = (((pre.length + 1 : Nat) : Int), [92, d]) :: esc (pre.length + 1 + 1) false ds := rfl
        have hs : ∀ (st : Int) (op : Option Int), sst x (st, op, res) (((pre.length + 1 : Nat) : Int), [92, d]) = (st, op, res) := fun st op => rfl
        have ho : ∀ b, outs b ([92, d] :: tks false ds) = if b then outs b (tks false ds) else ((outs b (tks false ds)).1, [92, d] ++ (outs b (tks false ds)).2) := fun b => rfl
        have t1 := take_one (x := x) (pre := pre) (c := 92) (suf := d :: ds) hx ha
        have t2 := take_one (x := x) (pre := pre ++ [92]) (c := d) (suf := ds) (by rw [hx]; simp) (a := a) (by simp; omega)
        rw [List.length_append, List.length_singleton] at t2
        rw [hl] at ih
        refine ⟨fun fin hf hcl => ?_, fun b h1 h2 fin hf hcl => ?_⟩
        · rw [hE, List.foldl_cons, hs] at hf
          rw [hT, ho] at hcl ⊢
          have := ih.1 fin hf hcl
          rw [this, t2, t1]
          simp
        · rw [hE, List.foldl_cons, hs] at hf
          rw [hT, ho] at hcl ⊢
          exact ih.2 b h1 (by omega) fin hf hcl
    · rw [decide_eq_false hc] at he
      have hx2 : x = (pre ++ [c]) ++ cs := by rw [hx]; simp
      have hl : (pre ++ [c]).length = pre.length + 1 := by simp
      have hT : tks false (c :: cs) = [c] :: tks false cs := by rw [tks, if_neg hc]
      have hE : esc pre.length false (c :: cs) = ((pre.length : Int), [c]) :: esc (pre.length + 1) false cs := by rw [esc, if_neg hc]
      have t1 := take_one (x := x) (pre := pre) (c := c) (suf := cs) hx ha
      by_cases hq : c = 34
      · subst hq
        have ho : ∀ b, outs b ([34] :: tks false cs) = outs (!b) (tks false cs) := fun b => rfl
        refine ⟨fun fin hf hcl => ?_, fun b h1 h2 fin hf hcl => ?_⟩
        · have ih := (strip_go x k cs (pre ++ [34]) hk2 hx2 he a res (by rw [hl]; omega)).2 pre.length ha (by rw [hl]; omega)
          rw [hl] at ih
          rw [hE, List.foldl_cons] at hf
          rw [hT, ho] at hcl ⊢
          exact ih fin hf hcl
        · have ih := (strip_go x k cs (pre ++ [34]) hk2 hx2 he (pre.length + 1) (if (a : Int) ≠ (b : Int) then res ++ [slc x (some (a : Int)) (some (b : Int))] else res) (by rw [hl]; omega)).1
          rw [hl] at ih
          rw [hE, List.foldl_cons] at hf
          rw [hT, ho] at hcl ⊢
          rw [ih fin hf hcl, Nat.sub_self, List.take_zero, List.append_nil]
          congr 1
          by_cases hab : a = b
          · rw [if_neg (by omega), hab, Nat.sub_self, List.take_zero, List.append_nil]
          · have hbl : b ≤ x.length := by rw [hx, List.length_append]; omega
            rw [if_pos (by omega), slc_ss ⟨by omega, by omega, by omega⟩, Int.toNat_natCast, show ((b : Int) - (a : Int)).toNat = b - a by omega]
            simp
      · have hne : ([c] : List Nat) ≠ [34] := by simpa using hq
        have hs : ∀ (st : Int) (op : Option Int), sst x (st, op, res) ((pre.length : Int), [c]) = (st, op, res) := fun st op => by unfold sst; exact if_neg hne
        have ho : ∀ b, outs b ([c] :: tks false cs) = if b then outs b (tks false cs) else ((outs b (tks false cs)).1, [c] ++ (outs b (tks false cs)).2) := fun b => by rw [outs, if_neg hne]
        have ih := strip_go x k cs (pre ++ [c]) hk2 hx2 he a res (by rw [hl]; omega)
        rw [hl] at ih
        refine ⟨fun fin hf hcl => ?_, fun b h1 h2 fin hf hcl => ?_⟩
        · rw [hE, List.foldl_cons, hs] at hf
          rw [hT, ho] at hcl ⊢
          have := ih.1 fin hf hcl
          rw [this, t1]
          simp
        · rw [hE, List.foldl_cons, hs] at hf
          rw [hT, ho] at hcl ⊢
          exact ih.2 b h1 (by omega) fin hf hcl
theorem tks_flat : ∀ (x : List Nat) (e : Bool), (tks e x).flatten = (if e then [92] else []) ++ x
  | [], e => by cases e <;> rfl
  | c :: cs, true => by rw [tks, List.flatten_cons, tks_flat cs]; rfl
  | c :: cs, false => by
    rw [tks]
    split
    · rename_i h; rw [tks_flat cs, h]; rfl
    · rw [List.flatten_cons, tks_flat cs]; rfl
theorem outs_no : ∀ T : List (List Nat), [34] ∉ T → outs false T = (false, T.flatten)
  | [], _ => rfl
  | l :: r, h => by
    have h1 : l ≠ [34] := fun e => h (e ▸ .head _)
    rw [outs, if_neg h1, if_neg (by decide), outs_no r fun hm => h (.tail _ hm)]; rfl
theorem strip_eq {x : List Nat} (he : esE false x = false) (ho : (outs false (tks false x)).1 = false) : stripF x = (outs false (tks false x)).2 := by
  unfold stripF
  split
  · have h := (strip_go x x.length x [] (Nat.le_refl _) rfl he 0 [] (Nat.le_refl _)).1 _ rfl ho
    have h : (List.foldl (sst x) ((0 : Int), none, []) (esc 0 false x)).2.2.flatten ++ (if (List.foldl (sst x) ((0 : Int), none, []) (esc 0 false x)).1 < x.length then slc x (some (List.foldl (sst x) ((0 : Int), none, []) (esc 0 false x)).1) none else []) = (outs false (tks false x)).2 := by
      simpa using h
    rw [← h]
    split
    · simp
    · simp
  · rename_i hq
    have hT : [34] ∉ tks false x := fun hm => hq (by
      have hf := tks_flat x false
      simp only [Bool.false_eq_true, if_false, List.nil_append] at hf
      rw [← hf]
      exact List.mem_flatten.mpr ⟨_, hm, .head _⟩)
    rw [outs_no _ hT, tks_flat]; rfl
/-! the plain side: brackets -/
noncomputable def bkT (T : List (List Nat)) : List Nat := (T.filter fun l => decide (l = [40] ∨ l = [41])).flatten
noncomputable def chkB : Int → List Nat → Bool
  | o, [] => o == 0
  | o, c :: r => if c = 40 then chkB (o + 1) r else if o - 1 < 0 then false else chkB (o - 1) r
theorem bkT_app (T T' : List (List Nat)) : bkT (T ++ T') = bkT T ++ bkT T' := by
  unfold bkT; rw [List.filter_append, List.flatten_append]
theorem chk_eq : ∀ (T : List (Int × List Nat)) (o : Int), chk o T = chkB o (bkT (T.map (·.2)))
  | [], o => rfl
  | (p, l) :: r, o => by
    rw [chk, List.map_cons]
    by_cases h1 : l = [40]
    · rw [if_pos h1, chk_eq r, h1]
      show _ = chkB o (bkT ([[40]] ++ r.map (·.2)))
      rw [bkT_app]; rfl
    · rw [if_neg h1]
      by_cases h2 : l = [41]
      · rw [if_pos h2, chk_eq r, h2]
        show _ = chkB o (bkT ([[41]] ++ r.map (·.2)))
        rw [bkT_app]; rfl
      · rw [if_neg h2, chk_eq r]
        unfold bkT
        rw [List.filter_cons_of_neg (by simp [h1, h2])]
theorem check_eq (x : List Nat) : checkF x = chkB 0 (bkT (tks false (stripF x))) := by
  unfold checkF
  rw [chk_eq, esc_tks]
/-- a text whose quotes and marks are closed: what is left of it, and its brackets -/
structure Closed (v l r : List Nat) : Prop where
  a : esE false v = false
  b : outs false (tks false v) = (false, l)
  c : esE false l = false
  d : bkT (tks false l) = r
theorem Closed.app {v l r v' l' r' : List Nat} (h : Closed v l r) (h' : Closed v' l' r') : Closed (v ++ v') (l ++ l') (r ++ r') := by
  refine ⟨by rw [esE_app, h.a, h'.a], ?_, by rw [esE_app, h.c, h'.c], by rw [tks_app _ _ _ h.c, bkT_app, h.d, h'.d]⟩
  rw [tks_app _ _ _ h.a, outs_app, h.b]
  dsimp only
  rw [h'.b]
theorem Closed.check {v l r : List Nat} (h : Closed v l r) : checkF v = chkB 0 r := by
  rw [check_eq, strip_eq h.a (by rw [h.b]), h.b, h.d]
theorem Closed.nil : Closed [] [] [] := ⟨rfl, rfl, rfl, rfl⟩
theorem Closed.cons {c : Nat} (hc : c = 40 ∨ c = 41) : Closed [c] [c] [c] := by
  rcases hc with rfl | rfl <;> exact ⟨rfl, rfl, rfl, rfl⟩
theorem Closed.row : ∀ {u : List Nat}, (∀ c ∈ u, c = 40 ∨ c = 41) → Closed u u u
  | [], _ => .nil
  | c :: r, h => (Closed.cons (h c (.head _))).app (Closed.row (u := r) fun d hd => h d (.tail _ hd))
noncomputable def clB (v l r : List Nat) : Bool := (esE false v == false) && (outs false (tks false v) == (false, l)) && (esE false l == false) && (bkT (tks false l) == r)
theorem clB_ok {v l r : List Nat} (h : clB v l r = true) : Closed v l r := by
  unfold clB at h
  simp only [Bool.and_eq_true, beq_iff_eq] at h
  exact ⟨h.1.1.1, h.1.1.2, h.1.2, h.2⟩
theorem pf5 : ∀ (x : Fin 11) (bare : Fin 5) (kind : Fin 6), clB (valT ((x.val : Int) - 5) bare.val kind.val) (leftT ((x.val : Int) - 5) bare.val kind.val) (rowT ((x.val : Int) - 5)) = true := by decide +kernel
theorem val_cl {p : Int × Nat × Nat} (h : okX p) : Closed (valT p.1 p.2.1 p.2.2) (leftT p.1 p.2.1 p.2.2) (rowT p.1) := by
  obtain ⟨h1, h2, h3, h4⟩ := h
  have := pf5 ⟨(p.1 + 5).toNat, by omega⟩ ⟨p.2.1, h3⟩ ⟨p.2.2, h4⟩
  dsimp only at this
  rw [show (((p.1 + 5).toNat : Nat) : Int) - 5 = p.1 by omega] at this
  exact clB_ok this
noncomputable def dl (c : Nat) : Int := if c = 40 then 1 else -1
noncomputable def tot : List Nat → Int
  | [] => 0
  | c :: r => dl c + tot r
noncomputable def mp : List Nat → Int
  | [] => 0
  | c :: r => min 0 (dl c + mp r)
theorem tot_app : ∀ u v : List Nat, tot (u ++ v) = tot u + tot v
  | [], v => by simp [tot]
  | c :: r, v => by rw [List.cons_append, tot, tot, tot_app r v]; omega
theorem mp_le : ∀ u : List Nat, mp u ≤ 0
  | [] => Int.le_refl _
  | c :: r => by rw [mp]; omega
theorem madd {a b c : Int} : a + min b c = min (a + b) (a + c) := by
  rcases Int.le_total b c with h | h
  · rw [Int.min_eq_left h, Int.min_eq_left (Int.add_le_add_left h a)]
  · rw [Int.min_eq_right h, Int.min_eq_right (Int.add_le_add_left h a)]
theorem zle {o p q : Int} : 0 ≤ o + min p q ↔ 0 ≤ o + p ∧ 0 ≤ o + q := by rw [madd]; exact Int.le_min
theorem mp_app : ∀ u v : List Nat, mp (u ++ v) = min (mp u) (tot u + mp v)
  | [], v => by have := mp_le v; simp only [List.nil_append, mp, tot]; omega
  | c :: r, v => by rw [List.cons_append, mp, mp, tot, mp_app r v, madd, ← Int.min_assoc, Int.add_assoc]
theorem mp_tot : ∀ u : List Nat, mp u ≤ tot u
  | [] => Int.le_refl _
  | c :: r => by have := mp_tot r; rw [mp, tot]; omega
theorem mp_len : ∀ u : List Nat, -(u.length : Int) ≤ mp u
  | [] => by simp [mp]
  | c :: r => by
    have := mp_len r
    rw [mp, List.length_cons]
    unfold dl
    split <;> omega
theorem rep40 : ∀ k : Nat, tot (List.replicate k 40) = k ∧ mp (List.replicate k 40) = 0
  | 0 => ⟨rfl, rfl⟩
  | k + 1 => by
    obtain ⟨a, b⟩ := rep40 k
    have hd : dl 40 = 1 := rfl
    rw [List.replicate_succ, tot, mp, a, b, hd]; omega
theorem rep41 : ∀ k : Nat, tot (List.replicate k 41) = -(k : Int) ∧ mp (List.replicate k 41) = -(k : Int)
  | 0 => ⟨rfl, rfl⟩
  | k + 1 => by
    obtain ⟨a, b⟩ := rep41 k
    have hd : dl 41 = -1 := rfl
    rw [List.replicate_succ, tot, mp, a, b, hd]; omega
noncomputable def Br (u : List Nat) : Prop := ∀ c ∈ u, c = 40 ∨ c = 41
theorem chk_step {o d p q : Int} (h : 0 ≤ o) : (0 ≤ o + d + p ∧ o + d + q = 0) ↔ (0 ≤ o + min 0 (d + p) ∧ o + (d + q) = 0) := by
  rw [zle, ← Int.add_assoc, ← Int.add_assoc, Int.add_zero]
  exact ⟨fun ⟨x, y⟩ => ⟨⟨h, x⟩, y⟩, fun ⟨⟨_, x⟩, y⟩ => ⟨x, y⟩⟩
theorem chkB_eq : ∀ (u : List Nat) (o : Int), 0 ≤ o → Br u → chkB o u = decide (0 ≤ o + mp u ∧ o + tot u = 0)
  | [], o, h, _ => by
    show (o == 0) = _
    by_cases h0 : o = 0
    · subst h0; rfl
    · rw [decide_eq_false (by simp only [mp, tot]; omega)]; simpa using h0
  | c :: r, o, h, hu => by
    have hr : Br r := fun d hd => hu d (.tail _ hd)
    have hm := mp_le r
    rw [chkB, mp, tot]
    rcases hu c (.head _) with rfl | rfl
    · have hd : dl 40 = 1 := rfl
      rw [if_pos rfl, chkB_eq r _ (Int.le_trans h (Int.le_add_of_nonneg_right (by decide))) hr, hd]
      exact decide_eq_decide.mpr (chk_step h)
    · have hd : dl 41 = -1 := rfl
      rw [if_neg (by decide), hd]
      split
      · rw [decide_eq_false (by omega)]
      · rw [chkB_eq r _ (by omega) hr]
        exact decide_eq_decide.mpr (chk_step h)
theorem tot_more {u : List Nat} (h : Br u) : moreF u = tot u := by
  unfold moreF
  induction u with
  | nil => rfl
  | cons c r ih =>
    have ih := ih fun d hd => h d (.tail _ hd)
    rw [tot, ← ih]
    rcases h c (.head _) with rfl | rfl
    · rw [List.count_cons_self, List.count_cons_of_ne (by decide)]
      have hd : dl 40 = 1 := rfl
      omega
    · rw [List.count_cons_self, List.count_cons_of_ne (by decide)]
      have hd : dl 41 = -1 := rfl
      omega
theorem br_rep {c k : Nat} (h : c = 40 ∨ c = 41) : Br (List.replicate k c) := fun d hd => by rw [List.eq_of_mem_replicate hd]; exact h
theorem Br.app {u v : List Nat} (h : Br u) (h' : Br v) : Br (u ++ v) := fun c hc => (List.mem_append.mp hc).elim (h c) (h' c)
/-- laid ahead and behind -/
theorem wrap_check {v l r : List Nat} (h : Closed v l r) (hr : Br r) {a b : Int} (ha : 0 ≤ a) (hb : 0 ≤ b) :
    checkF (rp 40 a ++ v ++ rp 41 b) = decide (0 ≤ a + mp r ∧ 0 ≤ a + tot r - b ∧ a + tot r - b = 0) := by
  have h1 : Br (rp 40 a) := br_rep (.inl rfl)
  have h2 : Br (rp 41 b) := br_rep (.inr rfl)
  rw [(((Closed.row h1).app h).app (Closed.row h2)).check, chkB_eq _ _ (Int.le_refl _) ((h1.app hr).app h2)]
  unfold rp
  obtain ⟨a1, a2⟩ := rep40 a.toNat
  obtain ⟨b1, b2⟩ := rep41 b.toNat
  have hm := mp_le r
  simp only [mp_app, tot_app, a1, a2, b1, b2, Int.zero_add]
  have e1 : ((a.toNat : Nat) : Int) = a := Int.toNat_of_nonneg ha
  have e2 : ((b.toNat : Nat) : Int) = b := Int.toNat_of_nonneg hb
  rw [e1, e2]
  refine decide_eq_decide.mpr ?_
  rw [Int.le_min, Int.le_min, ← Int.sub_eq_add_neg]
  exact ⟨fun ⟨⟨⟨_, x⟩, y⟩, z⟩ => ⟨x, y, z⟩, fun ⟨x, y, z⟩ => ⟨⟨⟨Int.le_refl _, x⟩, y⟩, z⟩⟩
theorem lackGo_eq {u : List Nat} (h : Br u) : ∀ (f : Nat) (a : Int), 0 ≤ a → 0 ≤ a + tot u → a ≤ -mp u → -mp u ≤ a + f → lackGo u (moreF u) f a = -mp u
  | 0, a, h0, h1, h2, h3 => by rw [lackGo]; omega
  | f + 1, a, h0, h1, h2, h3 => by
    have hl := mp_len u
    rw [lackGo, tot_more h, wrap_check (Closed.row h) h h0 (by omega)]
    by_cases he : a = -mp u
    · rw [if_neg]
      · exact he
      · rw [decide_eq_true (by omega)]; simp
    · rw [if_pos ⟨by omega, decide_eq_false (by omega)⟩, ← tot_more h]
      exact lackGo_eq h f (a + 1) (by omega) (by omega) (by omega) (by omega)
theorem lackF_eq {u : List Nat} (h : Br u) : lackF u = -mp u := by
  have h1 := mp_le u
  have h2 := mp_tot u
  have h3 := mp_len u
  have h4 := tot_more h
  unfold lackF
  exact lackGo_eq h _ _ (by omega) (by omega) (by omega) (by omega)
noncomputable def mpB : List Int → Int
  | [] => 0
  | x :: r => min (min 0 x) (x + mpB r)
theorem br_row (x : Int) : Br (rowT x) := (br_rep (.inl rfl)).app (br_rep (.inr rfl))
theorem row_mp (x : Int) : tot (rowT x) = x ∧ mp (rowT x) = min 0 x := by
  unfold rowT
  obtain ⟨a1, a2⟩ := rep40 x.toNat
  obtain ⟨b1, b2⟩ := rep41 (-x).toNat
  rw [tot_app, mp_app, a1, a2, b1, b2]
  rcases Int.le_total 0 x with h | h
  · have e : (-x).toNat = 0 := Int.toNat_of_nonpos (by omega)
    rw [e, Int.toNat_of_nonneg h]
    simp only [Int.natCast_zero, Int.neg_zero, Int.add_zero, true_and]
  · have e : x.toNat = 0 := Int.toNat_of_nonpos h
    rw [e, Int.toNat_of_nonneg (show 0 ≤ -x by omega)]
    simp only [Int.natCast_zero, Int.neg_neg, Int.zero_add, true_and]
theorem br_rows : ∀ xs : List Int, Br (xs.map rowT).flatten
  | [] => fun c hc => nomatch hc
  | x :: r => (br_row x).app (br_rows r)
theorem rows_mp : ∀ xs : List Int, tot (xs.map rowT).flatten = xs.sum ∧ mp (xs.map rowT).flatten = mpB xs
  | [] => ⟨rfl, rfl⟩
  | x :: r => by
    obtain ⟨a, b⟩ := rows_mp r
    obtain ⟨c, d⟩ := row_mp x
    rw [List.map_cons, List.flatten_cons, tot_app, mp_app, a, b, c, d, List.sum_cons, mpB]
    exact ⟨rfl, rfl⟩
theorem lack_rows (xs : List Int) : lackF (xs.map rowT).flatten = -mpB xs := by
  rw [lackF_eq (br_rows xs), (rows_mp xs).2]
/-! the plain side: rows and rings (Spitzer, three numbers) -/
noncomputable def XF (x y z : Int) (i : Nat) : Int := if i = 0 then x else if i = 1 then y else if i = 2 then z else 0
noncomputable def RF (x y z : Int) (i : Nat) : List Nat := rowT (XF x y z i)
noncomputable def qN (X : Nat → Int) (ring : List Nat) : Nat := (minL ((cutsR ring ring.length).map fun c => -mpB (c.map X))).toNat
noncomputable def bwN (X : Nat → Int) : List Int := OS.map fun o => -mpB ((ordL o).map X)
noncomputable def brN (q : List Nat → Nat) : List Int :=
  [0 + (q [0] : Nat) + (q [1] : Nat) + (q [2] : Nat), 0 + (q [0] : Nat) + (q [1, 2] : Nat), 0 + (q [0, 1] : Nat) + (q [2] : Nat), 0 + (q [0, 1, 2] : Nat), 0 + (q [0, 1, 2] : Nat), 0 + (q [0, 2] : Nat) + (q [1] : Nat)]
noncomputable def bkN (q : List Nat → Nat) : List (Nat × Nat) := [(1, q [0]), (2, q [1]), (4, q [2]), (6, q [1, 2]), (3, q [0, 1]), (7, q [0, 1, 2]), (5, q [0, 2])]
theorem ordsF_val (q : List Nat → Nat) : ordsF q 6 = (brN q, bkN q) := by kernel_rfl
theorem lack_ks (x y z : Int) (ks : List Nat) : lackF ((ks.map (RF x y z)).flatten) = -mpB (ks.map (XF x y z)) := by
  have e : ks.map (RF x y z) = (ks.map (XF x y z)).map rowT := by rw [List.map_map]; rfl
  rw [e, lack_rows]
theorem qL_eq (x y z : Int) : qL (RF x y z) = qN (XF x y z) := by
  funext ring
  unfold qL ringLack qN
  rw [List.map_map]
  congr 2
  exact List.map_congr_left fun c _ => lack_ks x y z c
theorem bwF_eq (x y z : Int) : bwF (RF x y z) 6 = bwN (XF x y z) := by
  unfold bwF bwN
  rw [show OS.take 6 = OS from rfl]
  exact List.map_congr_left fun o _ => lack_ks x y z (ordL o)
noncomputable def spB (a : Nat) : Bool := (List.range 11).all fun b => (List.range 11).all fun c => (bwN (XF ((a : Int) - 5) ((b : Int) - 5) ((c : Int) - 5))).isPerm (brN (qN (XF ((a : Int) - 5) ((b : Int) - 5) ((c : Int) - 5))))
theorem sp0 : spB 0 = true := by kernel_rfl
theorem sp1 : spB 1 = true := by kernel_rfl
theorem sp2 : spB 2 = true := by kernel_rfl
theorem sp3 : spB 3 = true := by kernel_rfl
theorem sp4 : spB 4 = true := by kernel_rfl
theorem sp5 : spB 5 = true := by kernel_rfl
theorem sp6 : spB 6 = true := by kernel_rfl
theorem sp7 : spB 7 = true := by kernel_rfl
theorem sp8 : spB 8 = true := by kernel_rfl
theorem sp9 : spB 9 = true := by kernel_rfl
theorem sp10 : spB 10 = true := by kernel_rfl
theorem spz (a b c : Fin 11) : (bwN (XF ((a.val : Int) - 5) ((b.val : Int) - 5) ((c.val : Int) - 5))).isPerm (brN (qN (XF ((a.val : Int) - 5) ((b.val : Int) - 5) ((c.val : Int) - 5)))) = true := by
  have h : spB a.val = true := by
    have := a.isLt
    rcases a with ⟨a, ha⟩
    match a, ha with
    | 0, _ => exact sp0
    | 1, _ => exact sp1
    | 2, _ => exact sp2
    | 3, _ => exact sp3
    | 4, _ => exact sp4
    | 5, _ => exact sp5
    | 6, _ => exact sp6
    | 7, _ => exact sp7
    | 8, _ => exact sp8
    | 9, _ => exact sp9
    | 10, _ => exact sp10
  exact List.all_eq_true.mp (List.all_eq_true.mp h b.val (List.mem_range.mpr b.isLt)) c.val (List.mem_range.mpr c.isLt)
theorem spitzer {x y z : Int} (hx : -5 ≤ x ∧ x ≤ 5) (hy : -5 ≤ y ∧ y ≤ 5) (hz : -5 ≤ z ∧ z ≤ 5) : (bwN (XF x y z)).Perm (brN (qN (XF x y z))) := by
  have h := spz ⟨(x + 5).toNat, by omega⟩ ⟨(y + 5).toNat, by omega⟩ ⟨(z + 5).toNat, by omega⟩
  dsimp only at h
  rw [show (((x + 5).toNat : Nat) : Int) - 5 = x by omega, show (((y + 5).toNat : Nat) : Int) - 5 = y by omega, show (((z + 5).toNat : Nat) : Int) - 5 = z by omega] at h
  exact List.isPerm_iff.mp h
theorem rowT_len (x : Int) : (rowT x).length = x.natAbs := by
  unfold rowT
  rw [List.length_append, List.length_replicate, List.length_replicate]
  exact Int.toNat_add_toNat_neg_eq_natAbs x
theorem RF_ok {x y z : Int} (hx : -5 ≤ x ∧ x ≤ 5) (hy : -5 ≤ y ∧ y ≤ 5) (hz : -5 ≤ z ∧ z ≤ 5) : RowsOk (RF x y z) := by
  refine ⟨fun i => br_row _, fun i => ?_⟩
  unfold RF
  rw [rowT_len]
  unfold XF
  split
  · omega
  · split
    · omega
    · split <;> omega
theorem three {α : Type} {xs : List α} (h : xs.length = 3) : ∃ a b c, xs = [a, b, c] := by
  match xs, h with
  | [a, b, c], _ => exact ⟨a, b, c, rfl⟩
theorem perm5 {α : Type} {w x y : α} {a b k : List α} : (w :: ((x :: y :: (a ++ b)) ++ k)).Perm (a ++ (b ++ (w :: x :: y :: k))) := by
  have h1 := List.perm_middle (a := w) (l₁ := a ++ b) (l₂ := x :: y :: k)
  have h2 := (List.perm_middle (a := x) (l₁ := a ++ b) (l₂ := y :: k)).cons w
  have h3 := ((List.perm_middle (a := y) (l₁ := a ++ b) (l₂ := k)).cons x).cons w
  have h := (h1.trans (h2.trans h3)).symm
  simpa using h
section
variable {L : Addr} {v1 v2 v3 v4 v5 v6 v7 v8 v9 v10 v11 v12 v' : Option Value} {r : List (Addr × Obj)}
theorem k12_10 : (L + 10, cellObj v10) ∈ K12 L v1 v2 v3 v4 v5 v6 v7 v8 v9 v10 v11 v12 r := by
  repeat (first | exact .head _ | apply List.Mem.tail)
theorem k12_11 : (L + 11, cellObj v11) ∈ K12 L v1 v2 v3 v4 v5 v6 v7 v8 v9 v10 v11 v12 r := by
  repeat (first | exact .head _ | apply List.Mem.tail)
theorem k12_12 : (L + 12, cellObj v12) ∈ K12 L v1 v2 v3 v4 v5 v6 v7 v8 v9 v10 v11 v12 r := by
  repeat (first | exact .head _ | apply List.Mem.tail)
theorem k12_u11 : Upd (L + 11) (cellObj v') (K12 L v1 v2 v3 v4 v5 v6 v7 v8 v9 v10 v11 v12 r) (K12 L v1 v2 v3 v4 v5 v6 v7 v8 v9 v10 v' v12 r) :=
  .tail (.tail (.tail (.tail (.tail (.tail (.tail (.tail (.tail (.tail .head)))))))))
end
theorem mstep {x N e k : Int} (x1 : -5 ≤ x) (x2 : x ≤ 5) (n1 : N ≤ 0) (n2 : -k ≤ N) (n3 : N ≤ e) : min (min 0 x) (x + N) ≤ 0 ∧ -(k + 5) ≤ min (min 0 x) (x + N) ∧ min (min 0 x) (x + N) ≤ x + e := by
  have a1 : min (min 0 x) (x + N) ≤ min 0 x := Int.min_le_left _ _
  have a2 : min (min 0 x) (x + N) ≤ x + N := Int.min_le_right _ _
  have a3 : min 0 x ≤ 0 := Int.min_le_left _ _
  have a4 : -(k + 5) ≤ min (min 0 x) (x + N) := Int.le_min.mpr ⟨Int.le_min.mpr ⟨by omega, by omega⟩, by omega⟩
  exact ⟨Int.le_trans a1 a3, a4, Int.le_trans a2 (Int.add_le_add_left n3 x)⟩
theorem mp3 {x y z M e : Int} (h : M = min (min 0 x) (x + min (min 0 y) (y + min (min 0 z) (z + 0)))) (he : x + (y + (z + 0)) = e) (x1 : -5 ≤ x) (x2 : x ≤ 5) (y1 : -5 ≤ y) (y2 : y ≤ 5) (z1 : -5 ≤ z) (z2 : z ≤ 5) :
    M ≤ 0 ∧ -15 ≤ M ∧ M ≤ e ∧ -15 ≤ e ∧ e ≤ 15 := by
  obtain ⟨a1, a2, a3⟩ := mstep (k := 0) z1 z2 (Int.le_refl 0) (Int.le_refl 0) (Int.le_refl 0)
  obtain ⟨b1, b2, b3⟩ := mstep (k := 5) y1 y2 a1 a2 a3
  obtain ⟨c1, c2, c3⟩ := mstep (k := 10) x1 x2 b1 b2 b3
  rw [← h] at c1 c2 c3
  rw [he] at c3
  exact ⟨c1, c2, c3, by omega, by omega⟩
theorem row5 {x : Int} (x1 : -5 ≤ x) (x2 : x ≤ 5) : (rowT x).length ≤ 5 := by
  rw [rowT_len]; omega
theorem sum3 {a b c : Nat} (ha : a ≤ 5) (hb : b ≤ 5) (hc : c ≤ 5) : a + (b + (c + 0)) ≤ 15 := Nat.add_le_add ha (Nat.add_le_add hb (Nat.add_le_add hc (Nat.le_refl 0)))
theorem bkN_ok {low : Nat} (q : List Nat → Nat) : ((bkL low (bkN q)) ++ [(nameF low 1, [120])]).map (fun p : List Nat × List Nat => p.1) = ix8.map fun k => (wordsF low 7)[k]?.getD [] := rfl
theorem words_plain {low : Nat} (hl : low < 30) : ∀ x ∈ wordsF low 7, Plain x := fun x hx => by
  obtain ⟨j, hj, rfl⟩ := List.mem_map.mp hx
  have hj : j < 7 := List.mem_range.mp hj
  exact (name_ok hl (by omega) (by omega)).1
theorem qN_le {x y z : Int} (hx : -5 ≤ x ∧ x ≤ 5) (hy : -5 ≤ y ∧ y ≤ 5) (hz : -5 ≤ z ∧ z ≤ 5) : ∀ ring : List Nat, ring.length ≤ 3 → ring ≠ [] → qN (XF x y z) ring ≤ 1000 := fun ring h1 h2 => by
  rw [← qL_eq]
  have := ringLack_b (RF_ok hx hy hz) h1 h2
  exact Int.toNat_le.mpr (by omega)
theorem bkN_bk {q : List Nat → Nat} (hq : ∀ ring : List Nat, ring.length ≤ 3 → ring ≠ [] → q ring ≤ 1000) : BkOk (bkN q) := by
  intro p hp
  simp only [bkN, List.mem_cons, List.not_mem_nil, or_false] at hp
  rcases hp with rfl | rfl | rfl | rfl | rfl | rfl | rfl <;> exact ⟨by simp, by simp, hq _ (by simp) (by simp)⟩
section
variable {C : Cx} {s₀ s : Shared} {W : List Addr} {A : Around} {E : Value → Shared → Prop} {r' lam : List (Addr × Obj)} {L : Addr} {v1 v2 v4 v5 v7 v8 v9 v10 v11 : Option Value}
theorem law_b2 {B dx bl br bw rl H dxh hlh : Addr} {ob oh : Obj} {vs hvs rws brs bws : List Value} {e he er ebr ebw : Nat} {ts hts : List (Addr × Obj)} {p0 p1 p2 : Int × Nat × Nat} {low : Nat} {tl tf : Tok} {Q : Flow → Shared → Prop} (hA : Ok A 140)
    (h0 : okX p0) (h1 : okX p1) (h2 : okX p2) (hl : low < 30) (PH : HdP oh hlh hvs hts (tabL [p0, p1, p2])) (PB : HdP ob bl vs ts (bkL low (bkN (qN (XF p0.1 p1.1 p2.1))))) (hlam : LamP lam)
    (hbr : IntsAre brs (brN (qN (XF p0.1 p1.1 p2.1)))) (hbw : IntsAre bws (bwN (XF p0.1 p1.1 p2.1))) (hrw : SL rws [rowT p0.1, rowT p1.1, rowT p2.1])
    (h : ∀ m n, (∀ p ∈ r', p ∈ n) → (∃ lam', LamP lam' ∧ ∀ p ∈ lam', p ∈ n) → ∀ s, St C s₀ W (lE L) [] s m n → Q (.ret (.bool true)) s) :
    ∀ s, St C s₀ W (lE L) [] s (MO L (.ref br) (.ref bw) (.int 7 tf) (.ref B)) ((br, listObj brs ebr) :: (bw, listObj bws ebw) :: (lam ++ (hdL B dx ob bl vs e ts ++ K12 L v1 v2 (some (.int low tl)) v4 v5 (some (.ref rl)) v7 v8 v9 v10 v11 (some (.ref H)) ((rl, listObj rws er) :: (hdL H dxh oh hlh hvs he hts ++ r'))))) →
      wpAny (MM C.w) A (execs [st9.st, st10.st, st11.st, st12.st, st13.st, st14.st, st15.st, st16.st, st17.st, st18.st, st19.st, st20.st] (lE L)) Q E s := by
  obtain ⟨x0a, x0b, b0, k0⟩ := h0
  obtain ⟨x1a, x1b, b1, k1⟩ := h1
  obtain ⟨x2a, x2b, b2, k2⟩ := h2
  have hq := qN_le ⟨x0a, x0b⟩ ⟨x1a, x1b⟩ ⟨x2a, x2b⟩
  have hbk := bkN_bk hq
  obtain ⟨n1, n2⟩ := name_ok (c := 1) hl (by decide) (by decide)
  have hg : getF (bkL low (bkN (qN (XF p0.1 p1.1 p2.1)))) (lw (nameF low 1)) = some (List.replicate (qN (XF p0.1 p1.1 p2.1) [0]) 40) := bkL_get hl (by decide) (by decide) hbk
  have hv : List.replicate (qN (XF p0.1 p1.1 p2.1) [0]) 40 ≠ [120] := fun e => by
    have : (120 : Nat) ∈ List.replicate (qN (XF p0.1 p1.1 p2.1) [0]) 40 := by rw [e]; exact .head _
    exact absurd (List.eq_of_mem_replicate this) (by decide)
  refine t_perm (n' := ((br, listObj brs ebr) :: (bw, listObj bws ebw) :: (lam ++ hdL B dx ob bl vs e ts)) ++ K12 L v1 v2 (some (.int low tl)) v4 v5 (some (.ref rl)) v7 v8 v9 v10 v11 (some (.ref H)) ((rl, listObj rws er) :: (hdL H dxh oh hlh hvs he hts ++ r'))) (.of_eq (by simp)) ?_
  refine t_cons ?_
  refine sg9 (hA.le (by decide)) ?_
  intro F1 fv1 hf1
  refine t_cons ?_
  refine sg10 (hA.le (by decide)) hf1 ?_
  intro F2 fv2 hf2
  refine t_cons ?_
  refine sg11 (hA.le (by decide)) hf2 hl (.tail _ (List.mem_append_right _ k12_10)) (.tail _ (List.mem_append_right _ k12_3)) (.head _) ⟨_, .tail _ (List.mem_append_right _ k12_11)⟩ (fun w => .tail (Upd.app k12_u11)) ?_
  intro w wvs ew hwl
  obtain ⟨tn, hw0⟩ := hwl.get (i := 0) (y := nameF low 1) rfl
  refine t_forget (.cons_cons _ (.cons _ (.refl _))) ?_
  refine t_perm perm5.symm ?_
  generalize hK : K12 L v1 v2 (some (.int low tl)) v4 v5 (some (.ref rl)) v7 v8 v9 (some (.ref F2)) (some (.ref w)) (some (.ref H)) ((rl, listObj rws er) :: (hdL H dxh oh hlh hvs he hts ++ r')) = K
  have kw : (L + 11, cellObj (some (.ref w))) ∈ K := hK ▸ k12_11
  have kr : (L + 6, cellObj (some (.ref rl))) ∈ K := hK ▸ k12_6
  have kt : (L + 12, cellObj (some (.ref H))) ∈ K := hK ▸ k12_12
  have krl : (rl, listObj rws er) ∈ K := hK ▸ k12_mem (.head _)
  have kH : ∀ p ∈ hdL H dxh oh hlh hvs he hts, p ∈ K := fun p hp => hK ▸ k12_mem (.tail _ (List.mem_append_left _ hp))
  intro s D
  have hndB : ((hdL B dx ob bl vs e ts).map (·.1)).Nodup := D.na.sublist (((List.sublist_append_left _ _).trans (List.sublist_append_right _ _)).map _)
  have hndH : ((hdL H dxh oh hlh hvs he hts).map (·.1)).Nodup := D.na.sublist ((((((hK ▸ (((List.sublist_append_left _ _).cons _).trans k12_top) : (hdL H dxh oh hlh hvs he hts).Sublist K)).cons _).cons _).cons _ |>.trans (List.sublist_append_right _ _) |>.trans (List.sublist_append_right _ _)).map _)
  revert D
  revert s
  refine t_cons ?_
  refine sg12 (n := hdL B dx ob bl vs e ts ++ ((w, listObj wvs ew) :: (br, listObj brs ebr) :: (bw, listObj bws ebw) :: K)) (hA.le (by decide)) PB (fun p hp => List.mem_append_left _ hp) hndB n1 n2 hlam hg
    (List.mem_append_right _ (.tail _ (.tail _ (.tail _ kw)))) (List.mem_append_right _ (.head _)) hw0 ?_
  intro lam' hlam'
  have kr' : ∀ p ∈ r', p ∈ K := fun p hp => hK ▸ k12_mem (.tail _ (List.mem_append_right _ hp))
  clear hK
  refine t_perm (n' := hdL B dx ob bl vs e ts ++ ((w, listObj wvs ew) :: (br, listObj brs ebr) :: (bw, listObj bws ebw) :: (K ++ lam'))) (List.Perm.trans (.of_eq (show _ = (hdL B dx ob bl vs e ts ++ ((w, listObj wvs ew) :: (br, listObj brs ebr) :: (bw, listObj bws ebw) :: K)) ++ lam' by simp)) List.perm_append_comm) ?_
  have kl' : ∀ p ∈ lam', p ∈ K ++ lam' := fun p hp => List.mem_append_right _ hp
  replace kw := List.mem_append_left lam' kw
  replace kr := List.mem_append_left lam' kr
  replace kt := List.mem_append_left lam' kt
  replace krl := List.mem_append_left lam' krl
  replace kH := fun p hp => List.mem_append_left lam' (kH p hp)
  replace kr' := fun p hp => List.mem_append_left lam' (kr' p hp)
  generalize K ++ lam' = K at *
  refine t_cons ?_
  refine sg13 (hA.le (by decide)) PB n1 n2 (show (bkL low (bkN (qN (XF p0.1 p1.1 p2.1)))).length < 30 from by simp [bkL, bkN]) hg hv (.tail _ (.tail _ (.tail _ kw))) (.head _) hw0 ?_
  intro vs' e' ts' PB'
  intro s D
  have hndB' : ((hdL B dx ob bl vs' e' ts').map (·.1)).Nodup := D.na.sublist ((List.sublist_append_left _ _).map _)
  revert D
  revert s
  refine t_cons ?_
  refine sg14 (hA.le (by decide)) PB' (fun p hp => List.mem_append_left _ hp) hndB' (List.mem_append_right _ (.tail _ (.tail _ (.tail _ kw)))) (List.mem_append_right _ (.head _)) hwl rfl (words_plain hl)
    (List.mem_append_right _ (.tail _ (.head _))) (List.mem_append_right _ (.tail _ (.tail _ (.head _)))) hbr hbw (by simp [brN]) (spitzer ⟨x0a, x0b⟩ ⟨x1a, x1b⟩ ⟨x2a, x2b⟩) (bkN_ok _) ?_
  have hb0 : (bwN (XF p0.1 p1.1 p2.1))[0]? = some (-mpB [p0.1, p1.1, p2.1]) := rfl
  obtain ⟨tb, htb⟩ := hbw.get 0 _ hb0
  obtain ⟨y0, y0'⟩ := val_small (x := p0.1) (bare := p0.2.1) (kind := p0.2.2) (by omega) (by omega) b0 k0
  obtain ⟨y1, y1'⟩ := val_small (x := p1.1) (bare := p1.2.1) (kind := p1.2.2) (by omega) (by omega) b1 k1
  obtain ⟨y2, y2'⟩ := val_small (x := p2.1) (bare := p2.2.1) (kind := p2.2.2) (by omega) (by omega) b2 k2
  have l3 := sum3 (row5 x0a x0b) (row5 x1a x1b) (row5 x2a x2b)
  refine t_cons ?_
  refine sg15 (hA.le (by decide)) PH (fun p hp => List.mem_append_right _ (.tail _ (.tail _ (.tail _ (kH p hp))))) hndH (List.mem_append_right _ (.tail _ (.tail _ (.tail _ kt)))) (List.mem_append_right _ (.tail _ (.tail _ (.tail _ kr)))) (List.mem_append_right _ (.tail _ (.tail _ (.tail _ krl)))) hrw
    (List.mem_append_right _ (.tail _ (.tail _ (.head _)))) htb ?_ ?_ ?_
  · simp only [tabL, tabGo, List.map_cons, List.map_nil, List.sum_cons, List.sum_nil, List.length_cons, List.length_nil]; omega
  · simp only [List.map_cons, List.map_nil, List.sum_cons, List.sum_nil, List.length_cons, List.length_nil]; exact Nat.add_le_add_right (Nat.le_trans l3 (by decide)) 3
  intro t1 t2
  have c0 := val_cl (p := p0) ⟨x0a, x0b, b0, k0⟩
  have c1 := val_cl (p := p1) ⟨x1a, x1b, b1, k1⟩
  have c2 := val_cl (p := p2) ⟨x2a, x2b, b2, k2⟩
  have ct := Closed.nil.app (c0.app (c1.app (c2.app Closed.nil)))
  have etext : ((tabL [p0, p1, p2]).map (·.2)).flatten = [] ++ (valT p0.1 p0.2.1 p0.2.2 ++ (valT p1.1 p1.2.1 p1.2.2 ++ (valT p2.1 p2.2.1 p2.2.2 ++ []))) := rfl
  have elone : ([rowT p0.1, rowT p1.1, rowT p2.1] : List (List Nat)).flatten = (([p0.1, p1.1, p2.1] : List Int).map rowT).flatten := rfl
  have erow : [] ++ (rowT p0.1 ++ (rowT p1.1 ++ (rowT p2.1 ++ []))) = (([p0.1, p1.1, p2.1] : List Int).map rowT).flatten := rfl
  rw [etext, elone]
  rw [erow] at ct
  have htl : ([] ++ (valT p0.1 p0.2.1 p0.2.2 ++ (valT p1.1 p1.2.1 p1.2.2 ++ (valT p2.1 p2.2.1 p2.2.2 ++ [])))).length ≤ 600 := by
    simp only [List.length_append, List.length_nil]; omega
  have hta : ∀ c ∈ [] ++ (valT p0.1 p0.2.1 p0.2.2 ++ (valT p1.1 p1.2.1 p1.2.2 ++ (valT p2.1 p2.2.1 p2.2.2 ++ []))), c < 128 := by
    intro c hc
    simp only [List.mem_append, List.not_mem_nil, or_false, false_or] at hc
    rcases hc with hc | hc | hc
    · have := y0 c hc; omega
    · have := y1 c hc; omega
    · have := y2 c hc; omega
  generalize [] ++ (valT p0.1 p0.2.1 p0.2.2 ++ (valT p1.1 p1.2.1 p1.2.2 ++ (valT p2.1 p2.2.1 p2.2.2 ++ []))) = text at ct htl hta
  have hbrr : Br (([p0.1, p1.1, p2.1] : List Int).map rowT).flatten := br_rows _
  obtain ⟨et, em⟩ := rows_mp [p0.1, p1.1, p2.1]
  have hlo : (([p0.1, p1.1, p2.1] : List Int).map rowT).flatten.length ≤ 200 := by
    rw [← elone]; simp only [List.flatten_cons, List.flatten_nil, List.length_append, List.length_nil]; exact Nat.le_trans l3 (by decide)
  have hmo : moreF (([p0.1, p1.1, p2.1] : List Int).map rowT).flatten = p0.1 + (p1.1 + (p2.1 + 0)) := by rw [tot_more hbrr, et]; rfl
  have hmp : mpB [p0.1, p1.1, p2.1] = min (min 0 p0.1) (p0.1 + min (min 0 p1.1) (p1.1 + min (min 0 p2.1) (p2.1 + 0))) := rfl
  have hsum : ([p0.1, p1.1, p2.1] : List Int).sum = p0.1 + (p1.1 + (p2.1 + 0)) := rfl
  rw [hsum] at et
  generalize (([p0.1, p1.1, p2.1] : List Int).map rowT).flatten = lone at *
  generalize mpB [p0.1, p1.1, p2.1] = M at *
  have hla : ∀ c ∈ lone, c < 128 := fun c hc => by rcases hbrr c hc with rfl | rfl <;> decide
  refine t_cons ?_
  refine sg16 (hA.le (by decide)) ?_
  intro t3
  rw [hmo]
  generalize hmr : p0.1 + (p1.1 + (p2.1 + 0)) = more at *
  obtain ⟨m1, m2, m3, m4, m5⟩ := mp3 hmp hmr x0a x0b x1a x1b x2a x2b
  clear hmp hmr x0a x0b b0 k0 x1a x1b b1 k1 x2a x2b b2 k2 y0 y0' y1 y1' y2 y2' l3 hsum
  refine t_cons ?_
  refine sg17 (hA.le (by decide)) hla hlo (by omega) (by omega) (by omega) (by omega) ?_ ?_
  · rw [wrap_check (Closed.row hbrr) hbrr (by omega) (by omega)]
    exact decide_eq_false (by omega)
  refine t_cons ?_
  refine sg18 (hA.le (by decide)) hla hlo (by omega) (by omega) (by omega) (by omega) ?_ ?_
  · rw [wrap_check (Closed.row hbrr) hbrr (by omega) (by omega)]
    exact decide_eq_false (by omega)
  refine t_cons ?_
  refine sg19 (hA.le (by decide)) hta htl (by omega) (by omega) (by omega) (by omega) ?_ ?_
  · intro hgt
    rw [wrap_check ct hbrr (by omega) (by omega)]
    exact decide_eq_false (by omega)
  refine t_cons ?_
  refine sg20 (hA.le (by decide)) hta htl (by omega) (by omega) (by omega) (by omega) ?_ ?_
  · rw [wrap_check ct hbrr (by omega) (by omega)]
    exact decide_eq_true (by omega)
  exact fun s D => h _ _ (fun p hp => List.mem_append_right _ (.tail _ (.tail _ (.tail _ (kr' p hp))))) ⟨lam', hlam', fun p hp => List.mem_append_right _ (.tail _ (.tail _ (.tail _ (kl' p hp))))⟩ s D
end
theorem tab_no {xs : List (Int × Nat × Nat)} (h : xs.length = 3) : getF (tabL xs) [100] = none := by
  unfold getF
  rw [Option.map_eq_none_iff, List.find?_eq_none]
  intro q hq
  rcases List.mem_cons.mp hq with rfl | hq
  · have e : lw [97, 98, 99] = [97, 98, 99] := by decide +kernel
    simp only [e]; decide
  · obtain ⟨i, h1, h2, h3⟩ := tabGo_keys xs 0 q hq
    rw [h3, lw_l1 i (by omega)]
    simp; omega
theorem t_mid7 {C : Cx} {s₀ : Shared} {W : List Addr} {env : Env} {G : List (Nat × GenState)} {m : List (Str × Bnd)} {a b c : Addr × Obj} {k : List (Addr × Obj)} {X : Shared → Prop}
    (h : ∀ s, St C s₀ W env G s m (b :: (k ++ [a, c])) → X s) : ∀ s, St C s₀ W env G s m (a :: (k ++ [b, c])) → X s :=
  t_perm (((List.perm_middle (a := b) (l₁ := k) (l₂ := [c])).cons a).trans ((List.Perm.swap b a (k ++ [c])).trans ((List.perm_middle (a := a) (l₁ := k) (l₂ := [c])).symm.cons b))).symm h
theorem t_mid6 {C : Cx} {s₀ : Shared} {W : List Addr} {env : Env} {G : List (Nat × GenState)} {m : List (Str × Bnd)} {x y a : Addr × Obj} {b k : List (Addr × Obj)} {X : Shared → Prop}
    (h : ∀ s, St C s₀ W env G s m (x :: y :: ([a] ++ (b ++ k))) → X s) : ∀ s, St C s₀ W env G s m (x :: y :: (b ++ (a :: k))) → X s :=
  t_perm (((List.perm_middle (a := a) (l₁ := b) (l₂ := k)).symm.cons y).cons x) h
section
variable {C : Cx} {s₀ s : Shared} {W : List Addr} {A : Around} {E : Value → Shared → Prop} {L : Addr}
theorem law_b18 {B dx bl rl br bw H dxh hlh : Addr} {ob oh : Obj} {hvs rws : List Value} {he er : Nat} {hts r' : List (Addr × Obj)} {xs : List (Int × Nat × Nat)} {low : Nat} {tl tf : Tok} {v1 v2 v4 v5 v7 : Option Value} {Q : Flow → Shared → Prop} (hA : Ok A 140)
    (hx3 : xs.length = 3) (hok : ∀ p ∈ xs, okX p) (hl : low < 30) (PH : HdP oh hlh hvs hts (tabL xs)) (PB : HdP ob bl [] [] []) (hrw : SL rws (xs.map fun p => rowT p.1))
    (h : ∀ m n, (∀ p ∈ r', p ∈ n) → (∃ lam', LamP lam' ∧ ∀ p ∈ lam', p ∈ n) → ∀ s, St C s₀ W (lE L) [] s m n → Q (.ret (.bool true)) s) :
    ∀ s, St C s₀ W (lE L) [] s (MO L (.ref br) (.ref bw) (.int 0 tf) (.ref B)) ((br, listObj [] 0) :: (bw, listObj [] 0) :: ([((336 : Addr), tabObj #[])] ++ (hdL B dx ob bl [] 0 [] ++ K12 L v1 v2 (some (.int low tl)) v4 v5 (some (.ref rl)) v7 none none none none (some (.ref H)) ((rl, listObj rws er) :: (hdL H dxh oh hlh hvs he hts ++ r'))))) →
      wpAny (MM C.w) A (execs [st8.st, st9.st, st10.st, st11.st, st12.st, st13.st, st14.st, st15.st, st16.st, st17.st, st18.st, st19.st, st20.st] (lE L)) Q E s := by
  obtain ⟨p0, p1, p2, rfl⟩ := three hx3
  have ok0 := hok p0 (.head _)
  have ok1 := hok p1 (.tail _ (.head _))
  have ok2 := hok p2 (.tail _ (.tail _ (.head _)))
  have hR := RF_ok (x := p0.1) (y := p1.1) (z := p2.1) ⟨ok0.1, ok0.2.1⟩ ⟨ok1.1, ok1.2.1⟩ ⟨ok2.1, ok2.2.1⟩
  have hrw2 : SL rws ((List.range 3).map (RF p0.1 p1.1 p2.1)) := hrw
  refine t_cons ?_
  refine @sg8 C s₀ W A E ((rl, listObj rws er) :: (hdL H dxh oh hlh hvs he hts ++ r')) [((336 : Addr), tabObj #[])] L v1 v2 v4 v5 v7 none none none none (some (.ref H)) B dx bl rl br bw ob rws er low tl tf (RF p0.1 p1.1 p2.1) _ hA hR hl PB .fresh (.head _) hrw2 ?_
  rw [qL_eq, bwF_eq, ordsF_val]
  intro lam' vs3 e3 ts3 v8' v9' tf' brs bws ebr ebw hlam' PB' hbr hbw
  exact law_b2 (r' := r') hA ok0 ok1 ok2 hl PH PB' hlam' hbr hbw hrw h
theorem law_b1 {sl : Addr} {so : Obj} {vs : List Value} {ns : List Int} {e : Nat} {Q : Flow → Shared → Prop} (hA : Ok A 140) (hso : so.cls = .type "list" ∧ so.data = .seq vs.toArray e) (hi : IntsAre vs ns) (hsz : vs.length ≤ 1000)
    (h : ∀ ps lam m n, LamP lam → (∀ p ∈ (350, tabObj ps) :: (sl, so) :: lam, p ∈ n) → ∀ s, St C s₀ W (lE L) [] s m n → Q (.ret (.bool true)) s) :
    ∀ s, St C s₀ W (lE L) [] s (MC L) (K12 L (some (.ref sl)) none none none none none none none none none none none [(350, tabObj #[]), (336, tabObj #[]), (sl, so)]) → wpAny (MM C.w) A (execs f353.body (lE L)) Q E s := by
  rw [body353]
  refine t_cons ?_
  refine sg0 (hA.le (by decide)) hi hsz (.head _) hso (k12_mem (.tail _ (.tail _ (.head _)))) ?_
  intro ca cw cms ce hci hcl
  refine t_kin ?_
  refine t_cons ?_
  refine sg1 (hA.le (by decide)) hci hcl (.head _) ?_
  intro step en flip low t1 t2 t3 t4 hst hen hfl hlow
  refine t_permM (m' := Lc "end" (.int en t2) :: ([Lc "flip" (.int flip t3), Lc "cells" (.ref ca)] ++ MC L)) (.swap _ _ _) ?_
  refine t_cons ?_
  refine sg2 (hA.le (by decide)) hen ?_
  intro tlim
  refine t_permM (m' := Lc "flip" (.int flip t3) :: Lc "end" (.int en t2) :: Lc "cells" (.ref ca) :: MC L) (.swap _ _ _) ?_
  refine t_cons ?_
  refine sg3 (b := en) (hA.le (by decide)) hen ?_
  intro X' dx' o' T' cT' vs' tb' bl bvs eb P' hb
  refine t_cons ?_
  refine sg4 (ml := [Lc "bound" (.ref X'), Lc "flip" (.int flip t3), Lc "end" (.int en t2), Lc "cells" (.ref ca)]) (hA.le (by decide)) ?_
  intro H dxh oh hlh he hts hvs rl PH
  intro s D
  have hndW : ((wsL X' dx' o' T' cT' vs' (wsOf (limT en ++ [120])).2.1 tb').map (·.1)).Nodup := D.na.sublist ((((((List.sublist_append_left _ _).cons _).trans (List.sublist_append_right _ _)).cons _).trans k12_top).map _)
  revert D
  revert s
  refine t_cons ?_
  refine sg5 (r := (bl, listObj bvs eb) :: (wsL X' dx' o' T' cT' vs' (wsOf (limT en ++ [120])).2.1 tb' ++ (ca, listObj cw ce) :: [(350, tabObj #[]), (336, tabObj #[]), (sl, so)])) (hA.le (by decide)) hst hfl hen hci hcl (.tail _ (List.mem_append_right _ (.head _))) hb (.head _) P' (fun p hp => .tail _ (List.mem_append_left _ hp)) hndW PH ?_
  intro xs rws er hvs2 he2 hts2 v7 hx3 hok hrw PH2
  refine t_forget (n' := K12 L (some (.ref sl)) (some (.int step t1)) (some (.int low t4)) (some (.str (strOf (limT en)) tlim)) (some (.ref bl)) (some (.ref rl)) v7 none none none none (some (.ref H)) ((rl, listObj rws er) :: (hdL H dxh oh hlh hvs2 he2 hts2 ++ [((350 : Addr), tabObj #[]), (336, tabObj #[]), (sl, so)])))
    (k12_sub (.cons_cons _ ((List.Sublist.refl _).append (.cons _ (.trans (.cons _ (.refl _)) (List.sublist_append_right _ _)))))) ?_
  refine t_perm (n' := ((350 : Addr), tabObj #[]) :: K12 L (some (.ref sl)) (some (.int step t1)) (some (.int low t4)) (some (.str (strOf (limT en)) tlim)) (some (.ref bl)) (some (.ref rl)) v7 none none none none (some (.ref H)) ((rl, listObj rws er) :: (hdL H dxh oh hlh hvs2 he2 hts2 ++ [((336 : Addr), tabObj #[]), (sl, so)])))
    (List.perm_middle (a := ((350 : Addr), tabObj #[])) (l₁ := K12 L (some (.ref sl)) (some (.int step t1)) (some (.int low t4)) (some (.str (strOf (limT en)) tlim)) (some (.ref bl)) (some (.ref rl)) v7 none none none none (some (.ref H)) ((rl, listObj rws er) :: hdL H dxh oh hlh hvs2 he2 hts2)) (l₂ := [((336 : Addr), tabObj #[]), (sl, so)])).symm ?_
  intro s D
  have hndH : ((hdL H dxh oh hlh hvs2 he2 hts2).map (·.1)).Nodup := D.na.sublist (((((List.sublist_append_left _ _).cons _).trans k12_top).cons _).map _)
  revert D
  revert s
  refine t_cons ?_
  refine sg6 (hA.le (by decide)) PH2 (fun p hp => k12_mem (.tail _ (List.mem_append_left _ hp))) hndH k12_12 (tab_no hx3) ?_
  intro ps
  refine t_dropM (m' := MC L) (.cons _ (.cons _ (.cons _ (.cons _ (.refl _))))) ?_
  refine t_mid7 (a := ((350 : Addr), tabObj ps)) (b := ((336 : Addr), tabObj #[])) (c := (sl, so)) (k := K12 L (some (.ref sl)) (some (.int step t1)) (some (.int low t4)) (some (.str (strOf (limT en)) tlim)) (some (.ref bl)) (some (.ref rl)) v7 none none none none (some (.ref H)) ((rl, listObj rws er) :: hdL H dxh oh hlh hvs2 he2 hts2)) ?_
  refine t_cons ?_
  refine sg7 (hA.le (by decide)) ?_
  intro B dxb ob blb br bw tfr PB
  refine t_mid6 ?_
  refine @law_b18 C s₀ W A E L B dxb blb rl br bw H dxh hlh ob oh hvs2 rws he2 er hts2 [((350 : Addr), tabObj ps), (sl, so)] xs low t4 tfr (some (.ref sl)) (some (.int step t1)) (some (.str (strOf (limT en)) tlim)) (some (.ref bl)) v7 Q hA hx3 hok hlow PH2 PB hrw ?_
  rintro m n h1 ⟨lam, hlam, h2⟩
  exact h ps lam m n hlam (fun p hp => by
    rcases List.mem_cons.mp hp with rfl | hp
    · exact h1 _ (.head _)
    rcases List.mem_cons.mp hp with rfl | hp
    · exact h1 _ (.tail _ (.head _))
    exact h2 p hp)
end
theorem law_call {C : Cx} {s : Shared} {A : Around} {E : Value → Shared → Prop} {sl : Addr} {so : Obj} {vs : List Value} {ns : List Int} {e : Nat} {Q : Value → Shared → Prop} (g : Gd C s.heap) (hA : Ok A 150) (hso : so.cls = .type "list" ∧ so.data = .seq vs.toArray e) (hi : IntsAre vs ns) (hsz : vs.length ≤ 1000)
    (t1 : s.heap.get? 336 = some (tabObj #[])) (t2 : s.heap.get? 350 = some (tabObj #[])) (hsl : s.heap.get? sl = some so) (hd : C.B.get? sl = none) (n1 : sl ≠ 336) (n2 : sl ≠ 350)
    (h : ∀ ps lam L m n s', LamP lam → (∀ p ∈ (350, tabObj ps) :: (sl, so) :: lam, p ∈ n) → St C s [350, 336, sl] (lE L) [] s' m n → Q (.bool true) s') :
    wpAny (MM C.w) A (call (.ref 353) [.ref sl] []) Q E s := by
  refine wpAny_call (t_enterTop f353 [("script", .ref sl)] (fun L => MC L) (fun L => MC L) (fun L => K12 L (some (.ref sl)) none none none none none none none none none none none [(350, tabObj #[]), (336, tabObj #[]), (sl, so)]) [(350, tabObj #[]), (336, tabObj #[]), (sl, so)]
    g ?_ (hA : Ok A (149 + 1)) rfl (.of_eq (by kernel_rfl)) ?_ ?_ ?_ ?_ ?_)
  · intro p hp
    simp only [List.mem_cons, List.not_mem_nil, or_false] at hp
    rcases hp with rfl | rfl | rfl
    · exact ⟨t2, .inr (.inr rfl)⟩
    · exact ⟨t1, .inr (.inl rfl)⟩
    · exact ⟨hsl, .inl hd⟩
  · intro L p hp
    simp only [List.mem_cons, List.not_mem_nil, or_false] at hp
    rcases hp with rfl | rfl | rfl | rfl | rfl | rfl | rfl | rfl | rfl | rfl | rfl | rfl <;> exact ⟨.inl rfl, rfl⟩
  · intro L
    show ((["script", "step", "low", "limit", "bounds", "rows", "lead", "order", "ring", "flags", "words", "table"] : List Str)).Nodup
    decide +kernel
  · simp only [List.map_cons, List.map_nil, List.nodup_cons, List.mem_cons, List.not_mem_nil, or_false, not_or, not_false_eq_true, List.nodup_nil, and_true]
    exact ⟨⟨by decide, fun q => n2 q.symm⟩, fun q => n1 q.symm⟩
  · intro L E' s₁ D₁
    have D₁ : St C s [350, 336, sl] (lE L) [] s₁ (MC L) (K12 L none none none none none none none none none none none none [(350, tabObj #[]), (336, tabObj #[]), (sl, so)]) := D₁
    refine t_stc (c := L + 1) (n' := K12 L (some (.ref sl)) none none none none none none none none none none none [(350, tabObj #[]), (336, tabObj #[]), (sl, so)]) (.head _) .head ⟨_, .head _⟩ rfl ?_ s₁ D₁
    exact fun s D => D
  · intro L E' s₁ D₁
    have hA' : Ok (A.deeper (cEnv f353.fd 353 L)) 149 := (hA : Ok A (149 + 1)).deeper
    generalize (A.deeper (cEnv f353.fd 353 L)) = A' at hA' ⊢
    refine law_b1 (hA'.le (by decide)) hso hi hsz ?_ s₁ D₁
    exact fun ps lam m n hl hin s D => h ps lam L m n s hl hin D
theorem noList (w : World) : (KK w).all (fun p => match p.2.cls with | .type n => !(n == "list") | _ => true) = true := by kernel_rfl
theorem lookup_memF : ∀ {l : List (Addr × Obj)} {a : Addr} {o : Obj}, l.lookup a = some o → (a, o) ∈ l
  | [], _, _, h => nomatch h
  | (b, x) :: l, a, o, h => by
    rw [List.lookup_cons] at h
    cases hb : a == b with
    | true =>
      rw [hb] at h
      cases h
      rw [beq_iff_eq.mp hb]
      exact .head _
    | false =>
      rw [hb] at h
      exact .tail _ (lookup_memF h)
theorem ns_of_main {w : World} {h : Heap} {mg : Str → Option Value} (X : (KK w).In h) (g : h.Ns mainGlobals mg) {x : Str} {r : Option Value} (e : nsIn (KK w) mainGlobals x = some r) : mg x = r := by
  obtain ⟨mg', hn, e'⟩ := nsIn_ns X e
  obtain ⟨o1, es1, ep1, a1, d1, _, f1⟩ := g
  obtain ⟨o2, es2, ep2, a2, d2, _, f2⟩ := hn
  rw [a1] at a2
  cases a2
  rw [d1] at d2
  cases d2
  rw [← f1, f2, e']
theorem code336 {w : World} {h : Heap} (X : (KK w).In h) : CodeHd h 340 336 := codeHd_of_K X (by kernel_rfl)
theorem code350 {w : World} {h : Heap} (X : (KK w).In h) : CodeHd h 352 350 := codeHd_of_K X (by kernel_rfl)
theorem tab_of {h : Heap} {c P : Addr} (x : CodeHd h c P) : isCodeTable h P := by
  obtain ⟨o, vs, _, _, _, _, _, _, _, h1, h2, h3, h4, _⟩ := x
  exact ⟨c, o, vs, h1, h2, h3, h4⟩
theorem base_of {w : World} {h : Heap} {mean : ExcName → Option Value} {mg mb : Str → Option Value} {loose : List Str} {sl : Addr} {so : Obj} {vs : List Value} {e : Nat} (X : (KK w).In h) (t1 : h.get? 336 = some (tabObj #[])) (t2 : h.get? 350 = some (tabObj #[]))
    (T : Top qv loose mean mg mb h) (hs : h.get? sl = some so) (hso : so.cls = .type "list" ∧ so.data = .seq vs.toArray e) : BaseOk w (under0 h h.objs.size [sl]) := by
  have hk : ∀ a o, h.get? a = some o → a ≠ sl → (under0 h h.objs.size [sl]).get? a = some o := fun a o ha hn => under0_some (Heap.lt_size ha) (by rw [List.mem_singleton]; exact hn) ha
  have hns : ∀ {a m}, h.Ns a m → (under0 h h.objs.size [sl]).Ns a m := fun {a m} n => by
    obtain ⟨o, es, ep, ha, hd, r⟩ := n
    refine ⟨o, es, ep, hk _ _ ha ?_, hd, r⟩
    rintro rfl
    rw [hs] at ha
    cases ha
    rw [hso.2] at hd
    cases hd
  have hc : ∀ a o, h.get? a = some o → o.cls ≠ .type "list" → (under0 h h.objs.size [sl]).get? a = some o := fun a o ha hn => hk a o ha (by
    rintro rfl
    rw [hs] at ha
    cases ha
    exact hn hso.1)
  have sr := T.seer rfl
  have sb : ∃ mb, (under0 h h.objs.size [sl]).Ns builtinsNs mb ∧ ∀ x : Str, x ≠ "__name__" → mb x = bootBuiltins x := ⟨mb, hns T.b, T.builtins⟩
  refine ⟨fun a o ha => hc a o (X a o ha) (fun q => ?_), ?_, ⟨?_, ?_, sb, ?_⟩, sb, hc _ _ t1 (by simp), hc _ _ t2 (by simp), ?_⟩
  · have := List.all_eq_true.mp (noList w) _ (lookup_memF ha)
    simp only [q] at this
    exact absurd this (by decide)
  · obtain ⟨mc, n, hn⟩ := T.nolimit
    exact ⟨mc, hns n, hn⟩
  · obtain ⟨mc, n, r⟩ := sr.statics
    exact ⟨mc, hns n, r⟩
  · obtain ⟨mc, n, r⟩ := sr.mods
    exact ⟨mc, hns n, r⟩
  · obtain ⟨mg', bm, ob, n, b1, b2, b3, b4⟩ := sr.main
    exact ⟨mg', bm, ob, hns n, b1, hc _ _ b2 (by rw [b3]; exact fun q => absurd (Value.type.inj q) (by decide)), b3, b4⟩
  · obtain ⟨bm, ob, b1, b2, b3, b4, b5, b6⟩ := T.bmain
    exact ⟨mg, bm, ob, hns T.g, b1, b2, hc _ _ b3 (by rw [b4]; exact fun q => absurd (Value.type.inj q) (by decide)), b4, b5, b6⟩
theorem lam_tab {lam : List (Addr × Obj)} (h : LamP lam) : ∃ ps, (336, tabObj ps) ∈ lam := by
  cases h with
  | fresh => exact ⟨_, .head _⟩
  | made c' oc vs t h1 h2 => exact ⟨_, .head _⟩
theorem old_of {w : World} {h h' : Heap} {sl : Addr} {so : Obj} {ps : Array Value} {lam n : List (Addr × Obj)} (X : (KK w).In h) (t1 : h.get? 336 = some (tabObj #[])) (t2 : h.get? 350 = some (tabObj #[])) (hs : h.get? sl = some so)
    (hlam : LamP lam) (hin : ∀ p ∈ (350, tabObj ps) :: (sl, so) :: lam, p ∈ n) (hn : ∀ p ∈ n, h'.get? p.1 = some p.2) (hk : ∀ b o, b ∉ ([350, 336, sl] : List Addr) → h.get? b = some o → h'.get? b = some o) : OldK h h' := by
  obtain ⟨ps', hp'⟩ := lam_tab hlam
  have a350 := hn _ (hin _ (.head _))
  have asl := hn _ (hin _ (.tail _ (.head _)))
  have a336 := hn _ (hin _ (.tail _ (.tail _ hp')))
  have key : ∀ b o, h.get? b = some o → asItWas h h' b o ∧ ∃ o', h'.get? b = some o' := fun b o hb => by
    by_cases e1 : b = 350
    · subst e1
      rw [t2] at hb
      cases hb
      exact ⟨.inr (.inl ⟨tab_of (code350 X), rfl, #[], ps, rfl, by rw [a350]; simp⟩), _, a350⟩
    by_cases e2 : b = 336
    · subst e2
      rw [t1] at hb
      cases hb
      exact ⟨.inr (.inl ⟨tab_of (code336 X), rfl, #[], ps', rfl, by rw [a336]; simp⟩), _, a336⟩
    by_cases e3 : b = sl
    · subst e3
      rw [hs] at hb
      cases hb
      exact ⟨.inl asl, _, asl⟩
    have := hk b o (by simp only [List.mem_cons, List.not_mem_nil, or_false, not_or]; exact ⟨e1, e2, e3⟩) hb
    exact ⟨.inl this, _, this⟩
  exact ⟨fun b o hb => (key b o hb).1, fun b o hb => (key b o hb).2⟩
theorem ok_caller : Ok callerA 150 := ⟨rfl, by decide +kernel, by decide +kernel, rfl⟩
theorem end_good {s₀ s₁ s' : Shared} {ns : List Int} (ho : OldK s₁.heap s'.heap) (hos : s'.os = s₁.os) (hb : AllBare s'.gens) :
    GoodWG (PySem.Challenge.rw_kl0309_01.row.toRowW).claim (classAt s₀.heap) (ExcName.means s₀.heap) [ofPy (PyData.list (ns.map PyData.int))] s₁ (.ok (.ret (.bool true))) s' := by
  refine ⟨.inl ⟨_, .bool true, [], rfl, raisesW_false ?_, .bool _, ?_, fun _ => ⟨List.nodup_nil, fun _ h => nomatch h⟩⟩, ho, hos, hb⟩
  · wrow_none_raised
  · wrow_post
end Mine
theorem PySem.Challenge.cw_kl0309_01_holds : PySem.Challenge.rw_kl0309_01.Holds := by
  refine Mine.hd ?_
  refine holds_open (q := Mine.qv) (loose := Mine.ls) (Xt := Mine.xt) (XP := XL Mine.qv []) (Yf := Mine.HK.obs) (Ya := Mine.HK.val) (YP := Mine.HK.says) (N := 4762) Mine.left Mine.HK.of Mine.HK.keeps (fun s e => xl_of s (Bool.and_eq_true_iff.mp e).1) XL.keeps (by rfl) (by rfl) (by rfl) (fun s e => recFacts_of (Bool.and_eq_true_iff.mp e).2) (by rfl) (by exact row_said (l := PySem.Challenge.rw_kl0309_01) Mine.said) (by decide +kernel) ⟨rfl, rfl, rfl, rfl, rfl, by decide +kernel⟩ ?hw ?hc
  case hw => w_witness2
  intro w s₀ s₁ mg mb G Y fa o pm cd doc dV kV ho hd hcd hD hmg hg args vals as hpre hlay hrd hwl hlo
  have KX := km_in_of Y
  have KT := km_tabs_of Y
  have T := G.T
  have hfa : fa = 353 := by
    have e := Mine.ns_of_main (w := w) (x := "law") (r := some (.ref 353)) KX T.g (by kernel_rfl)
    have e2 := hmg.symm.trans e
    cases e2; rfl
  subst hfa
  wrow_args hpre hlay hrd hwl hlo
  rename_i ns hs hlay0 hLb hr1 hl2 as1 as2 sl vs as3 hL ra w1 r0 hI hr hc1 hc2
  obtain ⟨so, e1, e2, e, e3⟩ := hL
  have hlen := hI.length
  have t1 : s₁.heap.get? 336 = some (tabObj #[]) := KT _ (.head _)
  have t2 : s₁.heap.get? 350 = some (tabObj #[]) := KT _ (.tail _ (.head _))
  have n1 : sl ≠ 336 := by rintro rfl; rw [t1] at e1; cases e1; cases e2
  have n2 : sl ≠ 350 := by rintro rfl; rw [t2] at e1; cases e1; cases e2
  have ok := Mine.base_of (w := w) KX t1 t2 T e1 ⟨e2, e3⟩
  refine Mine.law_call (C := ⟨w, _, ok⟩) (fun b o hb _ _ => (Mine.under0_get hb).2.2) Mine.ok_caller ⟨e2, e3⟩ hI (by omega) t1 t2 e1 (Mine.under0_none (.inl (.head _))) n1 n2 ?_
  intro ps lam L m n s' hlam hin D'
  exact Mine.end_good (Mine.old_of KX t1 t2 e1 hlam hin (fun p hp => (D'.nw p hp).1) (fun b o hb => D'.x.keep b o hb)) D'.x.os (D'.x.bare (.of_eq hg))
