import PyProof.Rows.All
import Wide.All
import OpenK.AllK
import Wide.FinOn
import PySem.Challenge.RW_uc0043_01
set_option Elab.async false
set_option maxRecDepth 100000
open PySem PySem.W PyProof.Rows
set_option genSizeOf false
namespace Mine
section
local macro_rules | `(tactic| o_head $_) => `(tactic| exact False.elim ‹False›)
set_option maxHeartbeats 8000000 in
theorem pre : False → PySem.Challenge.rw_uc0043_01.Holds := by
  intro hF
  refine holds_law (False.elim hF) fun said => ?_
  k_head
end
noncomputable abbrev rO : OpenRow := PySem.Challenge.rw_uc0043_01.row
noncomputable abbrev rP : RowW := rO.toRowW
noncomputable def vP : Program := { rP.prog with main := { rP.prog.main with body := (((rP.prog.main.body.eraseIdx 65).eraseIdx 11).eraseIdx 8).eraseIdx 0 } }
noncomputable def asK : List Addr := [2, 3, 15, 17, 18, 20, 21, 22, 24, 25, 27, 28, 29, 31, 32, 34, 35, 36, 38, 39, 41, 42, 43, 45, 46, 48, 49, 50, 52, 53, 55, 56, 57, 59, 60, 62, 63, 64, 66, 67, 69, 70, 71, 73, 74, 76, 77, 78, 80, 81, 83, 84, 85, 88, 90, 91, 93, 94, 95, 98, 99, 100, 103, 104, 105, 107, 108, 110, 111, 112, 114, 115, 117, 118, 119, 121, 122, 124, 125, 126, 129, 130, 131, 133, 134, 136, 137, 138, 140, 141, 143, 144, 145, 148, 149, 150, 153, 154]
theorem asK_ok (P : Params) : asK = (pre.heap_1 P).map (·.1) := by kernel_rfl
noncomputable abbrev HK : Hook := kmHook pre.heap_1 asK asK_ok [37, 30]
noncomputable abbrev looseK : List Str := [PySem.Str.ofString "EXACT_TOKEN_TYPES"]
noncomputable abbrev XtK : Shared → Bool := fun s => xlAt vP [] s && recOk (RowW.records rP) s
noncomputable abbrev runK (w : World) : Prop := (openEnds treeTable rP.prog w 4416).map (fun s => (openSeen vP looseK (importedModules rP.prog.main.body) XtK true s, HK.obs s)) = some (openGood vP looseK, HK.val w)
theorem hlF (w : World) : runK (w.withFollow "special-get-raises" false) := by
  show Option.map _ (openEnds treeTable rP.prog _ 4416) = _
  unfold openEnds fencedOpening topFrom
  rw [PySem.W.Fast.te10274390034422433532, PySem.W.Fast.te14364793385576792824, PySem.W.Fast.te14082659384304107361, PySem.W.Fast.te4187177175401517315, PySem.W.Fast.te14289696077712309145, PySem.W.Fast.te1435165496053646825, PySem.W.Fast.te5923862056798008813]
  kernel_rfl
theorem hlT (w : World) : runK (w.withFollow "special-get-raises" true) := by
  show Option.map _ (openEnds treeTable rP.prog _ 4416) = _
  unfold openEnds fencedOpening topFrom
  rw [PySem.W.Fast.te10274390034422433532, PySem.W.Fast.te14364793385576792824, PySem.W.Fast.te14082659384304107361, PySem.W.Fast.te4187177175401517315, PySem.W.Fast.te14289696077712309145, PySem.W.Fast.te1435165496053646825, PySem.W.Fast.te5923862056798008813]
  kernel_rfl
theorem hlK : LeftO rO.prog vP looseK XtK HK.obs HK.val 4416 := byRow2 "special-get-raises" hlF hlT
noncomputable def dK : DefRec := match defOf vP rO.name with | some x => x.1 | none => ⟨Str.empty, default, [], default, default⟩
noncomputable def kK : List (Str × Expr) := match defOf vP rO.name with | some x => x.2 | none => []
theorem saidR : rO.wellSaid = true := by kernel_rfl
theorem said : PySem.Challenge.rw_uc0043_01.wellSaid = true := by
  delta OpenLaw.wellSaid
  rw [show PySem.Challenge.rw_uc0043_01.row.wellSaid = true from saidR]
  kernel_rfl
theorem hd (walk : WalkO vP looseK (XL vP []) HK.says rP dK kK fun f vs => PySem.call f vs) : PySem.Challenge.rw_uc0043_01.Holds :=
  holds_law said fun _ => holds_open (q := vP) (loose := looseK) (Xt := XtK) (XP := XL vP []) (Yf := HK.obs) (Ya := HK.val) (YP := HK.says) (N := 4416) hlK (Hook.of HK) (Hook.keeps HK) (fun s e => xl_of s (Bool.and_eq_true_iff.mp e).1) XL.keeps (by kernel_rfl) (by kernel_rfl) (by kernel_rfl) (fun s e => recFacts_of (Bool.and_eq_true_iff.mp e).2) (by kernel_rfl) saidR (by kernel_rfl) ⟨rfl, rfl, rfl, rfl, rfl, by decide +kernel⟩ (by w_witness2) walk

open PySem.Calls
theorem nS {α : Type} {b : α} {G : Prop} (e : none = some b) : G := nomatch e
theorem bF {G : Prop} (e : false = true) : G := nomatch e
theorem xBind {α β : Type} {x : Option α} {f : α → Option β} {b : β} {G : Prop} (e : x.bind f = some b) (k : ∀ a, x = some a → f a = some b → G) : G := (Option.bind_eq_some_iff.mp e).elim fun a h => k a h.1 h.2
theorem xMap {α β : Type} {x : Option α} {f : α → β} {b : β} {G : Prop} (e : x.map f = some b) (k : ∀ a, x = some a → f a = b → G) : G := (Option.map_eq_some_iff.mp e).elim fun a h => k a h.1 h.2
theorem xA  {p0 : Prop} {p1 : Prop} {G : Prop} (h : p0 ∧ p1) (k : p0 → p1 → G) : G := let ⟨h0, h1⟩ := h; k h0 h1
theorem xE {α0 : Sort _} {p0 : α0 → Prop} {G : Prop} (h : ∃ a0, p0 a0) (k : ∀ a0, p0 a0 → G) : G := let ⟨a0, h0⟩ := h; k a0 h0
theorem xAA  {p0 : Prop} {p1 : Prop} {p2 : Prop} {G : Prop} (h : p0 ∧ p1 ∧ p2) (k : p0 → p1 → p2 → G) : G := let ⟨h0, h1, h2⟩ := h; k h0 h1 h2
theorem xEA {α0 : Sort _} {p0 : α0 → Prop} {p1 : α0 → Prop} {G : Prop} (h : ∃ a0, p0 a0 ∧ p1 a0) (k : ∀ a0, p0 a0 → p1 a0 → G) : G := let ⟨a0, h0, h1⟩ := h; k a0 h0 h1
theorem xEE {α0 : Sort _} {α1 : Sort _} {p0 : α0 → α1 → Prop} {G : Prop} (h : ∃ a0 a1, p0 a0 a1) (k : ∀ a0 a1, p0 a0 a1 → G) : G := let ⟨a0, a1, h0⟩ := h; k a0 a1 h0
theorem xAAA  {p0 : Prop} {p1 : Prop} {p2 : Prop} {p3 : Prop} {G : Prop} (h : p0 ∧ p1 ∧ p2 ∧ p3) (k : p0 → p1 → p2 → p3 → G) : G := let ⟨h0, h1, h2, h3⟩ := h; k h0 h1 h2 h3
theorem xEAA {α0 : Sort _} {p0 : α0 → Prop} {p1 : α0 → Prop} {p2 : α0 → Prop} {G : Prop} (h : ∃ a0, p0 a0 ∧ p1 a0 ∧ p2 a0) (k : ∀ a0, p0 a0 → p1 a0 → p2 a0 → G) : G := let ⟨a0, h0, h1, h2⟩ := h; k a0 h0 h1 h2
theorem xEEA {α0 : Sort _} {α1 : Sort _} {p0 : α0 → α1 → Prop} {p1 : α0 → α1 → Prop} {G : Prop} (h : ∃ a0 a1, p0 a0 a1 ∧ p1 a0 a1) (k : ∀ a0 a1, p0 a0 a1 → p1 a0 a1 → G) : G := let ⟨a0, a1, h0, h1⟩ := h; k a0 a1 h0 h1
theorem xEEE {α0 : Sort _} {α1 : Sort _} {α2 : Sort _} {p0 : α0 → α1 → α2 → Prop} {G : Prop} (h : ∃ a0 a1 a2, p0 a0 a1 a2) (k : ∀ a0 a1 a2, p0 a0 a1 a2 → G) : G := let ⟨a0, a1, a2, h0⟩ := h; k a0 a1 a2 h0
theorem xAAAA  {p0 : Prop} {p1 : Prop} {p2 : Prop} {p3 : Prop} {p4 : Prop} {G : Prop} (h : p0 ∧ p1 ∧ p2 ∧ p3 ∧ p4) (k : p0 → p1 → p2 → p3 → p4 → G) : G := let ⟨h0, h1, h2, h3, h4⟩ := h; k h0 h1 h2 h3 h4
theorem xEAAA {α0 : Sort _} {p0 : α0 → Prop} {p1 : α0 → Prop} {p2 : α0 → Prop} {p3 : α0 → Prop} {G : Prop} (h : ∃ a0, p0 a0 ∧ p1 a0 ∧ p2 a0 ∧ p3 a0) (k : ∀ a0, p0 a0 → p1 a0 → p2 a0 → p3 a0 → G) : G := let ⟨a0, h0, h1, h2, h3⟩ := h; k a0 h0 h1 h2 h3
theorem xEEAA {α0 : Sort _} {α1 : Sort _} {p0 : α0 → α1 → Prop} {p1 : α0 → α1 → Prop} {p2 : α0 → α1 → Prop} {G : Prop} (h : ∃ a0 a1, p0 a0 a1 ∧ p1 a0 a1 ∧ p2 a0 a1) (k : ∀ a0 a1, p0 a0 a1 → p1 a0 a1 → p2 a0 a1 → G) : G := let ⟨a0, a1, h0, h1, h2⟩ := h; k a0 a1 h0 h1 h2
theorem xEEEA {α0 : Sort _} {α1 : Sort _} {α2 : Sort _} {p0 : α0 → α1 → α2 → Prop} {p1 : α0 → α1 → α2 → Prop} {G : Prop} (h : ∃ a0 a1 a2, p0 a0 a1 a2 ∧ p1 a0 a1 a2) (k : ∀ a0 a1 a2, p0 a0 a1 a2 → p1 a0 a1 a2 → G) : G := let ⟨a0, a1, a2, h0, h1⟩ := h; k a0 a1 a2 h0 h1
theorem xEEEE {α0 : Sort _} {α1 : Sort _} {α2 : Sort _} {α3 : Sort _} {p0 : α0 → α1 → α2 → α3 → Prop} {G : Prop} (h : ∃ a0 a1 a2 a3, p0 a0 a1 a2 a3) (k : ∀ a0 a1 a2 a3, p0 a0 a1 a2 a3 → G) : G := let ⟨a0, a1, a2, a3, h0⟩ := h; k a0 a1 a2 a3 h0
theorem xAAAAA  {p0 : Prop} {p1 : Prop} {p2 : Prop} {p3 : Prop} {p4 : Prop} {p5 : Prop} {G : Prop} (h : p0 ∧ p1 ∧ p2 ∧ p3 ∧ p4 ∧ p5) (k : p0 → p1 → p2 → p3 → p4 → p5 → G) : G := let ⟨h0, h1, h2, h3, h4, h5⟩ := h; k h0 h1 h2 h3 h4 h5
theorem xEAAAA {α0 : Sort _} {p0 : α0 → Prop} {p1 : α0 → Prop} {p2 : α0 → Prop} {p3 : α0 → Prop} {p4 : α0 → Prop} {G : Prop} (h : ∃ a0, p0 a0 ∧ p1 a0 ∧ p2 a0 ∧ p3 a0 ∧ p4 a0) (k : ∀ a0, p0 a0 → p1 a0 → p2 a0 → p3 a0 → p4 a0 → G) : G := let ⟨a0, h0, h1, h2, h3, h4⟩ := h; k a0 h0 h1 h2 h3 h4
theorem xEEAAA {α0 : Sort _} {α1 : Sort _} {p0 : α0 → α1 → Prop} {p1 : α0 → α1 → Prop} {p2 : α0 → α1 → Prop} {p3 : α0 → α1 → Prop} {G : Prop} (h : ∃ a0 a1, p0 a0 a1 ∧ p1 a0 a1 ∧ p2 a0 a1 ∧ p3 a0 a1) (k : ∀ a0 a1, p0 a0 a1 → p1 a0 a1 → p2 a0 a1 → p3 a0 a1 → G) : G := let ⟨a0, a1, h0, h1, h2, h3⟩ := h; k a0 a1 h0 h1 h2 h3
theorem xEEEAA {α0 : Sort _} {α1 : Sort _} {α2 : Sort _} {p0 : α0 → α1 → α2 → Prop} {p1 : α0 → α1 → α2 → Prop} {p2 : α0 → α1 → α2 → Prop} {G : Prop} (h : ∃ a0 a1 a2, p0 a0 a1 a2 ∧ p1 a0 a1 a2 ∧ p2 a0 a1 a2) (k : ∀ a0 a1 a2, p0 a0 a1 a2 → p1 a0 a1 a2 → p2 a0 a1 a2 → G) : G := let ⟨a0, a1, a2, h0, h1, h2⟩ := h; k a0 a1 a2 h0 h1 h2
theorem xEEEEA {α0 : Sort _} {α1 : Sort _} {α2 : Sort _} {α3 : Sort _} {p0 : α0 → α1 → α2 → α3 → Prop} {p1 : α0 → α1 → α2 → α3 → Prop} {G : Prop} (h : ∃ a0 a1 a2 a3, p0 a0 a1 a2 a3 ∧ p1 a0 a1 a2 a3) (k : ∀ a0 a1 a2 a3, p0 a0 a1 a2 a3 → p1 a0 a1 a2 a3 → G) : G := let ⟨a0, a1, a2, a3, h0, h1⟩ := h; k a0 a1 a2 a3 h0 h1
inductive PV (D : Type) where
  | none
  | bool (b : Bool)
  | int (d : D)
  | str (s : List Nat)
  | tuple (xs : List (PV D))
  | list (xs : List (PV D))
  | arr (xs : List (PV D))
noncomputable abbrev DV := PV Int
section
variable {D α β : Type} {b : β} {G : Prop}
noncomputable def oI (x : PV D) (k : D → Option β) : Option β := match x with | .int d => k d | _ => none
noncomputable def oS (x : PV D) (k : List Nat → Option β) : Option β := match x with | .str d => k d | _ => none
noncomputable def oL (x : PV D) (k : List (PV D) → Option β) : Option β := match x with | .list d => k d | _ => none
noncomputable def oA (x : PV D) (k : List (PV D) → Option β) : Option β := match x with | .arr d => k d | _ => none
noncomputable def oT (x : PV D) (k : List (PV D) → Option β) : Option β := match x with | .tuple d => k d | _ => none
noncomputable def oB (x : PV D) (k : Bool → Option β) : Option β := match x with | .bool d => k d | _ => none
noncomputable def o0 (l : List α) (k : Option β) : Option β := match l with | [] => k | _ => none
noncomputable def oC (l : List α) (k : α → List α → Option β) : Option β := match l with | a :: r => k a r | [] => none
noncomputable def o1 (l : List α) (k : α → Option β) : Option β := oC l fun a r => o0 r (k a)
noncomputable def o2 (l : List α) (k : α → α → Option β) : Option β := oC l fun a r => o1 r (k a)
theorem oI_i {x : PV D} {k : D → Option β} (e : oI x k = some b) (h : ∀ d, x = .int d → k d = some b → G) : G := by
  cases x with | int d => exact h d rfl e | _ => cases e
theorem oS_i {x : PV D} {k : List Nat → Option β} (e : oS x k = some b) (h : ∀ d, x = .str d → k d = some b → G) : G := by
  cases x with | str d => exact h d rfl e | _ => cases e
theorem oL_i {x : PV D} {k : List (PV D) → Option β} (e : oL x k = some b) (h : ∀ d, x = .list d → k d = some b → G) : G := by
  cases x with | list d => exact h d rfl e | _ => cases e
theorem oA_i {x : PV D} {k : List (PV D) → Option β} (e : oA x k = some b) (h : ∀ d, x = .arr d → k d = some b → G) : G := by
  cases x with | arr d => exact h d rfl e | _ => cases e
theorem oT_i {x : PV D} {k : List (PV D) → Option β} (e : oT x k = some b) (h : ∀ d, x = .tuple d → k d = some b → G) : G := by
  cases x with | tuple d => exact h d rfl e | _ => cases e
theorem oB_i {x : PV D} {k : Bool → Option β} (e : oB x k = some b) (h : ∀ d, x = .bool d → k d = some b → G) : G := by
  cases x with | bool d => exact h d rfl e | _ => cases e
theorem o0_i {l : List α} {k : Option β} (e : o0 l k = some b) (h : l = [] → k = some b → G) : G := by
  cases l with | nil => exact h rfl e | _ => cases e
theorem oC_i {l : List α} {k : α → List α → Option β} (e : oC l k = some b) (h : ∀ x r, l = x :: r → k x r = some b → G) : G := by
  cases l with | cons x r => exact h x r rfl e | _ => cases e
theorem o1_i {l : List α} {k : α → Option β} (e : o1 l k = some b) (h : ∀ x, l = [x] → k x = some b → G) : G :=
  oC_i e fun x _ q e => o0_i e fun q1 e => h x (q1 ▸ q) e
theorem o2_i {l : List α} {k : α → α → Option β} (e : o2 l k = some b) (h : ∀ x y, l = [x, y] → k x y = some b → G) : G :=
  oC_i e fun x _ q e => o1_i e fun y q1 e => h x y (q1 ▸ q) e
noncomputable def iC (l : List (PV D)) (k : D → List (PV D) → Option β) : Option β := oC l fun x r => oI x fun d => k d r
noncomputable def I2 (l : List (PV D)) (k : D → D → Option β) : Option β := iC l fun x r => iC r fun y r => o0 r (k x y)
noncomputable def I3 (l : List (PV D)) (k : D → D → D → Option β) : Option β := iC l fun x r => I2 r (k x)
theorem iC_i {l : List (PV D)} {k : D → List (PV D) → Option β} (e : iC l k = some b) (h : ∀ d r, l = .int d :: r → k d r = some b → G) : G :=
  oC_i e fun _ r q e => oI_i e fun d q1 e => h d r (q1 ▸ q) e
theorem I2_i {l : List (PV D)} {k : D → D → Option β} (e : I2 l k = some b) (h : ∀ x y, l = [.int x, .int y] → k x y = some b → G) : G :=
  iC_i e fun x _ q e => iC_i e fun y _ q1 e => o0_i e fun q2 e => h x y (q2 ▸ q1 ▸ q) e
theorem I3_i {l : List (PV D)} {k : D → D → D → Option β} (e : I3 l k = some b) (h : ∀ x y z, l = [.int x, .int y, .int z] → k x y z = some b → G) : G :=
  iC_i e fun x _ q e => I2_i e fun y z q1 e => h x y z (q1 ▸ q) e
theorem ifN {c : Prop} [Decidable c] {x : Option β} (e : (if c then none else x) = some b) : ¬c ∧ x = some b := by
  by_cases q : c
  · rw [if_pos q] at e; cases e
  · exact ⟨q, (if_neg q).symm.trans e⟩
theorem and2 {a b : Bool} (h : (a && b) = true) : a = true ∧ b = true := Bool.and_eq_true_iff.mp h
theorem and3 {a b c : Bool} (h : (a && b && c) = true) : (a = true ∧ b = true) ∧ c = true := ⟨and2 (and2 h).1, (and2 h).2⟩
theorem ifC {c : Prop} [Decidable c] {x y : Option β} (e : (if c then x else y) = some b) (h : c → x = some b → G) (h' : ¬c → y = some b → G) : G := by
  by_cases q : c
  · exact h q ((if_pos q).symm.trans e)
  · exact h' q ((if_neg q).symm.trans e)
theorem ifS {c : Prop} [Decidable c] {x : Option β} (e : (if c then x else none) = some b) (h : c → x = some b → G) : G := by
  by_cases q : c
  · exact h q ((if_pos q).symm.trans e)
  · rw [if_neg q] at e; cases e
end
mutual
noncomputable def PV.den {D : Type} (f : D → Int) (c : Nat → Nat) : PV D → DV
  | .none => .none
  | .bool b => .bool b
  | .int d => .int (f d)
  | .str s => .str (s.map c)
  | .tuple xs => .tuple (PV.denL f c xs)
  | .list xs => .list (PV.denL f c xs)
  | .arr xs => .arr (PV.denL f c xs)
noncomputable def PV.denL {D : Type} (f : D → Int) (c : Nat → Nat) : List (PV D) → List DV
  | [] => []
  | x :: r => PV.den f c x :: PV.denL f c r
end
theorem PV.denL_eq {D : Type} (f : D → Int) (c : Nat → Nat) : ∀ xs : List (PV D), PV.denL f c xs = xs.map (PV.den f c)
  | [] => rfl
  | x :: r => by rw [PV.denL, PV.denL_eq f c r]; rfl
mutual
theorem PV.den_id : ∀ d : DV, PV.den (fun i => i) (fun n => n) d = d
  | .none => rfl
  | .bool _ => rfl
  | .int _ => rfl
  | .str s => by rw [PV.den]; simp
  | .tuple xs => by rw [PV.den, PV.denL_id xs]
  | .list xs => by rw [PV.den, PV.denL_id xs]
  | .arr xs => by rw [PV.den, PV.denL_id xs]
theorem PV.denL_id : ∀ d : List DV, PV.denL (fun i => i) (fun n => n) d = d
  | [] => rfl
  | x :: r => by rw [PV.denL, PV.den_id x, PV.denL_id r]
end
noncomputable abbrev strOf (s : List Nat) : Str := ⟨s.toArray⟩
noncomputable def IsLx (h : Heap) (a : Addr) (items : Array Value) : Prop := ∃ n, IsL h a items n
theorem IsLx.list {h : Heap} {a : Addr} {items : Array Value} (x : IsLx h a items) : h.IsList a items := let ⟨n, e⟩ := x; ⟨_, e, rfl, n, rfl⟩
theorem IsLx.noDict {h : Heap} {a : Addr} {items : Array Value} (x : IsLx h a items) : h.NoDictAt (.ref a) := let ⟨_, e⟩ := x; ⟨_, e, rfl⟩
theorem IsLx.get {h : Heap} {a : Addr} {items : Array Value} (x : IsLx h a items) : ∃ o, h.get? a = some o ∧ o.cls = .type "list" ∧ (∀ h' : Heap, h'.get? a = some o → IsLx h' a items) := let ⟨n, e⟩ := x; ⟨_, e, rfl, fun _ e' => ⟨n, e'⟩⟩
mutual
inductive Rep (P : Addr → Prop) (h : Heap) : Value → DV → Prop
  | none : Rep P h .none .none
  | bool (b : Bool) : Rep P h (.bool b) (.bool b)
  | int (i : Int) (t : Tok) : Rep P h (.int i t) (.int i)
  | str (s : List Nat) (t : Tok) : Rep P h (.str (strOf s) t) (.str s)
  | tuple {a : Addr} {items : Array Value} {xs : List DV} : P a → IsTup h a items → RepL P h items.toList xs → Rep P h (.ref a) (.tuple xs)
  | list {a : Addr} {items : Array Value} {xs : List DV} : P a → IsLx h a items → RepL P h items.toList xs → Rep P h (.ref a) (.list xs)
  | arr {a : Addr} {items : Array Value} {xs : List DV} : P a → h.IsList a items → RepL P h items.toList xs → Rep P h (.ref a) (.arr xs)
inductive RepL (P : Addr → Prop) (h : Heap) : List Value → List DV → Prop
  | nil : RepL P h [] []
  | cons {v : Value} {d : DV} {vs : List Value} {ds : List DV} : Rep P h v d → RepL P h vs ds → RepL P h (v :: vs) (d :: ds)
end
noncomputable def RepInv (P : Addr → Prop) (h : Heap) (v : Value) : DV → Prop
  | .none => v = .none
  | .bool b => v = .bool b
  | .int i => ∃ t, v = .int i t
  | .str s => ∃ t, v = .str (strOf s) t
  | .tuple xs => ∃ a items, v = .ref a ∧ P a ∧ IsTup h a items ∧ RepL P h items.toList xs
  | .list xs => ∃ a items, v = .ref a ∧ P a ∧ IsLx h a items ∧ RepL P h items.toList xs
  | .arr xs => ∃ a items, v = .ref a ∧ P a ∧ h.IsList a items ∧ RepL P h items.toList xs
theorem Rep.inv {P : Addr → Prop} {h : Heap} {v : Value} {d : DV} (r : Rep P h v d) : RepInv P h v d := by
  cases r with
  | none | bool => exact rfl
  | int | str => exact ⟨_, rfl⟩
  | tuple p t r | list p t r | arr p t r => exact ⟨_, _, rfl, p, t, r⟩
theorem RepL.c0 {P : Addr → Prop} {h : Heap} {vs : List Value} (r : RepL P h vs []) : vs = [] := by cases r; rfl
theorem RepL.cc {P : Addr → Prop} {h : Heap} {vs : List Value} {d : DV} {ds : List DV} {G : Prop} (r : RepL P h vs (d :: ds)) (k : ∀ v us, vs = v :: us → Rep P h v d → RepL P h us ds → G) : G := by
  cases r with | cons a b => exact k _ _ rfl a b
theorem RepL.c1 {P : Addr → Prop} {h : Heap} {vs : List Value} {d : DV} {G : Prop} (r : RepL P h vs [d]) (k : ∀ v, vs = [v] → Rep P h v d → G) : G := r.cc fun v _ e a b => k v (b.c0 ▸ e) a
theorem RepL.c2 {P : Addr → Prop} {h : Heap} {vs : List Value} {d d' : DV} {G : Prop} (r : RepL P h vs [d, d']) (k : ∀ v u, vs = [v, u] → Rep P h v d → Rep P h u d' → G) : G := r.cc fun v _ e a b => b.c1 fun u q c => k v u (q ▸ e) a c
theorem RepL.ind {P : Addr → Prop} {h : Heap} {M : List Value → List DV → Prop} (h0 : M [] []) (h1 : ∀ {v d vs ds}, Rep P h v d → RepL P h vs ds → M vs ds → M (v :: vs) (d :: ds)) {vs : List Value} {ds : List DV} (r : RepL P h vs ds) : M vs ds :=
  RepL.rec (motive_1 := fun _ _ _ => True) (motive_2 := fun vs ds _ => M vs ds) trivial (fun _ => trivial) (fun _ _ => trivial) (fun _ _ => trivial) (fun _ _ _ _ => trivial) (fun _ _ _ _ => trivial) (fun _ _ _ _ => trivial) h0 (fun a b _ m => h1 a b m) r
section
variable {P P' : Addr → Prop} {h h' : Heap} {vs vs' : List Value} {ds ds' : List DV}
theorem RepL.length (r : RepL P h vs ds) : vs.length = ds.length := r.ind (M := fun vs ds => vs.length = ds.length) rfl fun _ _ m => congrArg (· + 1) m
theorem RepL.get (r : RepL P h vs ds) : ∀ {i : Nat} {d : DV}, ds[i]? = some d → ∃ v, vs[i]? = some v ∧ Rep P h v d :=
  r.ind (M := fun vs ds => ∀ {i : Nat} {d : DV}, ds[i]? = some d → ∃ v, vs[i]? = some v ∧ Rep P h v d) (fun e => nS (List.getElem?_nil.symm.trans e)) fun {v _ _ _} a _ m i _ e => match i with
    | 0 => ⟨v, rfl, Option.some.inj e ▸ a⟩
    | _ + 1 => m e
theorem RepL.append (r : RepL P h vs ds) (r' : RepL P h vs' ds') : RepL P h (vs ++ vs') (ds ++ ds') := r.ind (M := fun vs ds => RepL P h (vs ++ vs') (ds ++ ds')) r' fun a _ m => .cons a m
theorem RepL.drop (n : Nat) (r : RepL P h vs ds) : RepL P h (vs.drop n) (ds.drop n) := r.ind (M := fun vs ds => ∀ n, RepL P h (vs.drop n) (ds.drop n)) (fun n => by rw [List.drop_nil, List.drop_nil]; exact .nil) (fun a b m n => match n with
    | 0 => .cons a b
    | n + 1 => m n) n
theorem RepL.take (n : Nat) (r : RepL P h vs ds) : RepL P h (vs.take n) (ds.take n) := r.ind (M := fun vs ds => ∀ n, RepL P h (vs.take n) (ds.take n)) (fun n => by rw [List.take_nil, List.take_nil]; exact .nil) (fun a _ m n => match n with
    | 0 => .nil
    | n + 1 => .cons a (m n)) n
theorem RepL.reverse (r : RepL P h vs ds) : RepL P h vs.reverse ds.reverse := r.ind (M := fun vs ds => RepL P h vs.reverse ds.reverse) .nil fun a _ m => by rw [List.reverse_cons, List.reverse_cons]; exact m.append (.cons a .nil)
variable (k : ∀ b o, P b → h.get? b = some o → (o.cls = .type "list" ∨ o.cls = .type "tuple") → P' b ∧ h'.get? b = some o)
include k
theorem Rep.mono {v : Value} {d : DV} (r : Rep P h v d) : Rep P' h' v d :=
  Rep.rec (motive_1 := fun v d _ => Rep P' h' v d) (motive_2 := fun vs ds _ => RepL P' h' vs ds) .none .bool .int .str
    (fun p ⟨o, ho, hc, hd⟩ _ m => have z := k _ _ p ho (.inr hc); .tuple z.1 ⟨o, z.2, hc, hd⟩ m) (fun p ⟨n, ho⟩ _ m => have z := k _ _ p ho (.inl rfl); .list z.1 ⟨n, z.2⟩ m)
    (fun p ⟨o, ho, hc, hd⟩ _ m => have z := k _ _ p ho (.inl hc); .arr z.1 ⟨o, z.2, hc, hd⟩ m) .nil (fun _ _ a b => .cons a b) r
theorem RepL.mono (r : RepL P h vs ds) : RepL P' h' vs ds := r.ind .nil fun a _ m => .cons (a.mono k) m
end
noncomputable abbrev T1 : Addr := 30
noncomputable abbrev T2 : Addr := 37
noncomputable def TabOk (P : Addr) (l c : Nat) (q : Str) (h : Heap) : Prop :=
  ∃ ps, h.get? P = some (tabObj ps) ∧ (ps = #[] ∨ ∃ c', ps = #[rawInt l, rawInt c, .ref c'] ∧ h.CodeRec (.ref c') q)
noncomputable def Tabs (h : Heap) : Prop := TabOk T1 32 4 "_int2digits.<locals>.inner" h ∧ TabOk T2 47 4 "_digits2int.<locals>.inner" h
theorem TabOk.mono {P : Addr} {l c : Nat} {q : Str} {h h' : Heap} (x : TabOk P l c q h) (k : ∀ b o vs, h.get? b = some o → o.data = .fields vs → h'.get? b = some o) : TabOk P l c q h' := by
  obtain ⟨ps, hp, r⟩ := x
  refine ⟨ps, k _ _ _ hp rfl, r.imp id ?_⟩
  rintro ⟨c', e, c₂, o, vs, t, e2, ho, hd, hv⟩
  exact ⟨c', e, c₂, o, vs, t, e2, k _ _ _ ho hd, hd, hv⟩
theorem Tabs.mono {h h' : Heap} (x : Tabs h) (k : ∀ b o vs, h.get? b = some o → o.data = .fields vs → h'.get? b = some o) : Tabs h' := ⟨x.1.mono k, x.2.mono k⟩
theorem Tabs.ne {h : Heap} (x : Tabs h) {b : Addr} {o : Obj} (e : h.get? b = some o) (hd : ∀ vs, o.data ≠ .fields vs) : b ≠ T1 ∧ b ≠ T2 := by
  obtain ⟨⟨ps, h1, _⟩, ⟨ps', h2, _⟩⟩ := x
  refine ⟨fun q => ?_, fun q => ?_⟩
  · rw [q, h1] at e; cases e; exact hd _ rfl
  · rw [q, h2] at e; cases e; exact hd _ rfl
noncomputable def TabOff (I : Addr) (h : Heap) : Prop := ∀ ps, (h.get? T1 = some (tabObj ps) ∨ h.get? T2 = some (tabObj ps)) → Value.ref I ∉ ps.toList
theorem TabOff.keep {I : Addr} {h h' : Heap} (x : TabOff I h) (T : Tabs h) (k1 : ∀ o, h.get? T1 = some o → h'.get? T1 = some o) (k2 : ∀ o, h.get? T2 = some o → h'.get? T2 = some o) : TabOff I h' := by
  obtain ⟨⟨ps1, e1, _⟩, ⟨ps2, e2, _⟩⟩ := T
  rintro ps (q | q)
  · rw [k1 _ e1] at q; exact x ps (.inl (e1.trans q))
  · rw [k2 _ e2] at q; exact x ps (.inr (e2.trans q))
structure Step (W : Addr → Prop) (s s' : Shared) : Prop where
  keep : ∀ b o, ¬ W b → b ≠ T1 → b ≠ T2 → s.heap.get? b = some o → s'.heap.get? b = some o
  size : s.heap.objs.size ≤ s'.heap.objs.size
  tabs : Tabs s.heap → Tabs s'.heap
  off : ∀ I, I < s.heap.objs.size → Tabs s.heap → TabOff I s.heap → TabOff I s'.heap
  gens : ∀ (i : Nat) (x : GenState), s.gens[i]? = some x → s'.gens[i]? = some x
  bare : AllBare s.gens → AllBare s'.gens
  os : s'.os = s.os
noncomputable abbrev none' : Addr → Prop := fun _ => False
theorem Step.refl (W : Addr → Prop) (s : Shared) : Step W s s := ⟨fun _ _ _ _ _ e => e, Nat.le_refl _, id, fun _ _ _ o => o, fun _ _ e => e, id, rfl⟩
theorem Step.trans {W W' : Addr → Prop} {s s₁ s₂ : Shared} (x : Step W s s₁) (y : Step W' s₁ s₂) (hW : ∀ b, W' b → W b ∨ s.heap.objs.size ≤ b) : Step W s s₂ :=
  ⟨fun b o n1 n2 n3 e => y.keep b o (fun q => (hW b q).elim n1 (fun l => absurd (Heap.lt_size e) (Nat.not_lt.mpr l))) n2 n3 (x.keep b o n1 n2 n3 e),
   Nat.le_trans x.size y.size, fun t => y.tabs (x.tabs t), fun I l t o => y.off I (Nat.lt_of_lt_of_le l x.size) (x.tabs t) (x.off I l t o), fun i g e => y.gens i g (x.gens i g e), fun b => y.bare (x.bare b), y.os.trans x.os⟩
theorem Step.mono {W W' : Addr → Prop} {s s₁ : Shared} (x : Step W s s₁) (hW : ∀ b, W b → W' b ∨ s.heap.objs.size ≤ b) : Step W' s s₁ :=
  ⟨fun b o n1 n2 n3 e => x.keep b o (fun q => (hW b q).elim n1 (fun l => absurd (Heap.lt_size e) (Nat.not_lt.mpr l))) n2 n3 e, x.size, x.tabs, x.off, x.gens, x.bare, x.os⟩
theorem Step.then {W : Addr → Prop} {s s₁ s₂ : Shared} (x : Step W s s₁) (y : Step none' s₁ s₂) : Step W s s₂ := x.trans y fun _ q => q.elim
theorem Step.after {W : Addr → Prop} {s s₁ s₂ : Shared} (x : Step none' s s₁) (y : Step W s₁ s₂) : Step W s s₂ := (x.mono fun _ q => q.elim).trans y fun _ q => .inl q
theorem Step.toks {s : Shared} (tk : Nat) : Step none' s { s with toks := tk } := ⟨fun _ _ _ _ _ e => e, Nat.le_refl _, id, fun _ _ _ o => o, fun _ _ e => e, id, rfl⟩
theorem Step.grown {s : Shared} {h' : Heap} {tk : Nat} (k : ∀ b o, s.heap.get? b = some o → h'.get? b = some o) (z : s.heap.objs.size ≤ h'.objs.size) : Step none' s { s with heap := h', toks := tk } :=
  ⟨fun b o _ _ _ e => k b o e, z, fun t => t.mono fun b o _ e _ => k b o e, fun _ _ t o => o.keep t (k _) (k _), fun _ _ e => e, id, rfl⟩
theorem Step.push {s : Shared} {o : Obj} {tk : Nat} : Step none' s { s with heap := s.heap.push o, toks := tk } :=
  .grown (fun _ _ e => Heap.get?_push_of_some _ e) (by rw [Heap.size_push]; lia)
theorem Step.same {s : Shared} {h' : Heap} {tk : Nat} {a : Addr} {W : Addr → Prop} {o : Obj} (hs : Heap.SameBut a s.heap h') (hW : W a ∨ s.heap.objs.size ≤ a) (ho : s.heap.get? a = some o) (hd : ∀ vs, o.data ≠ .fields vs) : Step W s { s with heap := h', toks := tk } :=
  ⟨fun b ob n1 _ _ e => (hs.2 b fun q => hW.elim (fun w => n1 (q ▸ w)) fun l => absurd (Heap.lt_size e) (Nat.not_lt.mpr (q ▸ l))).trans e, Nat.le_of_eq hs.1.symm,
   fun t => t.mono fun b ob vs e d => (hs.2 b fun q => by rw [q, ho] at e; cases e; exact hd vs d).trans e,
   fun _ _ t x => x.keep t (fun o e => (hs.2 _ fun q => (t.ne ho hd).1 q.symm).trans e) (fun o e => (hs.2 _ fun q => (t.ne ho hd).2 q.symm).trans e), fun _ _ e => e, id, rfl⟩
theorem Step.iter {s : Shared} {h' : Heap} {tk : Nat} {I : Addr} (hI : 37 < I) (O : TabOff I s.heap) (k : ∀ b o, b ≠ I → s.heap.get? b = some o → h'.get? b = some o) (z : s.heap.objs.size ≤ h'.objs.size) :
    Step (fun b => b = I) s { s with heap := h', toks := tk } := by
  have n1 : T1 ≠ I := fun q => absurd (q ▸ hI : 37 < T1) (by decide)
  have n2 : T2 ≠ I := fun q => absurd (q ▸ hI : 37 < T2) (by decide)
  refine ⟨fun b o n _ _ e => k b o n e, z, fun t => ?_, fun J _ t x => x.keep t (fun o => k _ o n1) (fun o => k _ o n2), fun _ _ e => e, id, rfl⟩
  obtain ⟨⟨ps1, e1, r1⟩, ⟨ps2, e2, r2⟩⟩ := t
  refine ⟨⟨ps1, k _ _ n1 e1, r1.imp id ?_⟩, ⟨ps2, k _ _ n2 e2, r2.imp id ?_⟩⟩
  · rintro ⟨c', e, c₂, o, vs, t, q, ho, hd, hv⟩
    cases q
    refine ⟨c', e, c', o, vs, t, rfl, k _ _ (fun q => ?_) ho, hd, hv⟩
    exact O ps1 (.inl e1) (by rw [e, q]; simp)
  · rintro ⟨c', e, c₂, o, vs, t, q, ho, hd, hv⟩
    cases q
    refine ⟨c', e, c', o, vs, t, rfl, k _ _ (fun q => ?_) ho, hd, hv⟩
    exact O ps2 (.inr e2) (by rw [e, q]; simp)
noncomputable def LeS (s s' : Shared) : Prop := s.toks ≤ s'.toks ∧ s.heap.objs.size ≤ s'.heap.objs.size
theorem LeS.refl (s : Shared) : LeS s s := ⟨Nat.le_refl _, Nat.le_refl _⟩
theorem LeS.trans {a b c : Shared} (x : LeS a b) (y : LeS b c) : LeS a c := ⟨Nat.le_trans x.1 y.1, Nat.le_trans x.2 y.2⟩
theorem runs_le {M : Model} {Γ : Ctx} {p : Pos} {t : Sem Fin} {fs : List PySem.Frame} {s : Shared} {e : End} {s' : Shared} (h : Runs M Γ p t fs s e s') : LeS s s' := by
  induction h with
  | done | raise | yield => exact LeS.refl _
  | again _ _ ih | rule _ ih | «at» _ ih | load _ _ ih | loadIfAlive _ ih | point _ ih | ask _ ih | handled _ ih | genState _ _ ih | stack _ ih | thread _ ih | resumeJustStarted _ _ _ ih | resumeRunning _ _ ih | resumeFinished _ _ ih => exact ih
  | update _ _ ih => exact ⟨ih.1, Nat.le_trans (Nat.le_of_eq (Heap.size_after_update ..).symm) ih.2⟩
  | alloc _ ih => exact ⟨ih.1, Nat.le_trans (by rw [show ∀ (h : Heap) (o : Obj), (h.push o).objs.size = h.objs.size + 1 from fun h o => Heap.size_push h o]; exact Nat.le_succ _) ih.2⟩
  | choose _ _ ih | os _ ih | newGen _ ih | resumeThrowFresh _ _ ih => exact ih
  | fresh _ ih => exact ⟨Nat.le_trans (Nat.le_succ _) ih.1, ih.2⟩
  | call _ _ ih1 ih2 => exact ih1.trans ih2
  | callSusp _ ih => exact ih
  | resumeFresh _ _ _ _ ih1 ih2 => exact LeS.trans (b := _) ih1 ih2
  | resumeSuspended _ _ _ _ ih1 ih2 => exact LeS.trans (b := _) ih1 ih2
  | segRet _ _ ih1 ih2 => exact ih1.trans ih2
  | segGen _ _ ih1 ih2 => exact LeS.trans (b := _) ih1 ih2
  | segSuspOut _ _ ih => exact ih
  | segSuspGen _ _ _ _ ih1 ih2 => exact LeS.trans (b := _) ih1 ih2
theorem wakes_le {M : Model} {Γ : Ctx} {p : Pos} {g : Nat} {r : Resume} {s s' : Shared} {res : GenResult} (h : Wakes M Γ p g r s res s') : LeS s s' := by
  unfold Wakes at h
  split at h
  · exact h.elim
  · split at h
    · obtain ⟨e₁, s₁, h1, _, _, rfl⟩ := h; have z := runs_le h1; exact z
    · rw [h.2]; exact LeS.refl _
    · rw [h.2]; exact LeS.refl _
  · obtain ⟨e₁, s₁, h1, _, _, rfl⟩ := h; have z := runs_le h1; exact z
  · rw [h.2]; exact LeS.refl _
  · rw [h.2]; exact LeS.refl _
theorem wp_le {α : Type} {M : Model} {Γ : Ctx} (s₀ : Shared) : ∀ (t : Sem α) {Q : α → Pos → Shared → Prop} {E : Value → Pos → Shared → Prop} {p : Pos} {s : Shared}, LeS s₀ s → Sem.wp M Γ t Q E p s →
    Sem.wp M Γ t (fun a p' s' => Q a p' s' ∧ LeS s₀ s') E p s := by
  intro t
  induction t with
  | pure x => exact fun hn h => ⟨h, hn⟩
  | raise v => exact fun hn h => h
  | unsupported | finish | yield | fork | await | register => exact fun _ h => h
  | rule _ k ih | «at» _ k ih | point _ k ih | ask k ih | handled _ k ih | stack k ih | thread k ih | loadIfAlive _ k ih => intro Q E p s hn h; exact ih _ hn h
  | alloc o k ih => intro Q E p s hn h; exact ih _ (hn.trans ⟨Nat.le_refl _, by show _ ≤ (s.heap.push o).objs.size; rw [Heap.size_push]; exact Nat.le_succ _⟩) h
  | os _ _ k ih | newGen _ k ih => intro Q E p s hn h; exact ih _ hn h
  | fresh k ih => intro Q E p s hn h; exact ih _ ⟨Nat.le_succ_of_le hn.1, hn.2⟩ h
  | load a _ k ih | genState a k ih => intro Q E p s hn h; obtain ⟨o, ho, h⟩ := h; exact ⟨o, ho, ih _ hn h⟩
  | update a _ f k ih => intro Q E p s hn h; obtain ⟨ha, h⟩ := h; exact ⟨ha, ih _ (hn.trans ⟨Nat.le_refl _, Nat.le_of_eq (Heap.size_after_update ..).symm⟩) h⟩
  | choose _ _ k ih => intro Q E p s hn h; obtain ⟨ha, h⟩ := h; exact ⟨ha, ih _ hn h⟩
  | call c hh g l k ih =>
    intro Q E p s hn h
    obtain ⟨r, s', hr, h⟩ := h
    exact ⟨r, s', hr, ih _ (hn.trans (runs_le hr)) h⟩
  | resume g r l k ih =>
    intro Q E p s hn h
    obtain ⟨res, s', hw, h⟩ := h
    exact ⟨res, s', hw, ih _ (hn.trans (wakes_le hw)) h⟩
theorem wpAny_le {α : Type} {M : Model} {A : Around} {t : Sem α} {Q : α → Shared → Prop} {E : Value → Shared → Prop} {s : Shared} (h : wpAny M A t Q E s) :
    wpAny M A t (fun a s' => Q a s' ∧ LeS s s') E s := fun Γ p hΓ => wp_le s t (LeS.refl _) (h Γ p hΓ)
theorem wpAny_grow {α : Type} {M : Model} {A : Around} {t : Sem α} {R : α → Shared → Prop} {E : Value → Shared → Prop} {s : Shared}
    (h : wpAny M A t (fun a s' => (∃ h' tk, s' = { s with heap := h', toks := tk } ∧ ∀ b o, s.heap.get? b = some o → h'.get? b = some o) ∧ R a s') E s) :
    wpAny M A t (fun a s' => Step none' s s' ∧ R a s') E s :=
  wpAny_mono (wpAny_le h) (fun a s' ⟨⟨⟨h', tk, e, k⟩, r⟩, l⟩ => ⟨by subst e; exact Step.grown k l.2, r⟩) fun _ _ q => q
structure Inv (H : Heap) (s : Shared) : Prop where
  keep : ∀ b o, b ≠ T1 → b ≠ T2 → H.get? b = some o → s.heap.get? b = some o
  size : H.objs.size ≤ s.heap.objs.size
  tabs : Tabs s.heap
  bare : AllBare s.gens
  toks : 1 ≤ s.toks
theorem Inv.step {H : Heap} {W : Addr → Prop} {s s' : Shared} (x : Inv H s) (y : Step W s s') (hW : ∀ b, W b → H.objs.size ≤ b) (ht : LeS s s') : Inv H s' :=
  ⟨fun b o n1 n2 e => y.keep b o (fun q => absurd (Heap.lt_size e) (Nat.not_lt.mpr (hW b q))) n1 n2 (x.keep b o n1 n2 e), Nat.le_trans x.size y.size, y.tabs x.tabs, y.bare x.bare, Nat.le_trans x.toks ht.1⟩
theorem Inv.step0 {H : Heap} {s s' : Shared} (x : Inv H s) (y : Step none' s s') (ht : LeS s s') : Inv H s' := x.step y (fun _ q => q.elim) ht
structure Glo (H : Heap) (mg mb : Str → Option Value) : Prop where
  g : H.Ns mainGlobals mg
  b : H.Ns builtinsNs mb
  lim : H.NoLimit
theorem Inv.ns {H : Heap} {s : Shared} {a : Addr} {m : Str → Option Value} (x : Inv H s) (h1 : a ≠ T1) (h2 : a ≠ T2) (n : H.Ns a m) : s.heap.Ns a m :=
  let ⟨o, es, ep, ho, r⟩ := n; ⟨o, es, ep, x.keep a o h1 h2 ho, r⟩
theorem Inv.lim {H : Heap} {s : Shared} {mg mb : Str → Option Value} (x : Inv H s) (G : Glo H mg mb) : s.heap.NoLimit :=
  let ⟨mc, a, b⟩ := G.lim; ⟨mc, x.ns (by decide) (by decide) a, b⟩
theorem rep_step {P W : Addr → Prop} {s s' : Shared} {v : Value} {d : DV} (T : Tabs s.heap) (x : Step W s s') (hd : ∀ b, P b → ¬ W b) (r : Rep P s.heap v d) : Rep P s'.heap v d :=
  r.mono fun b o p e hc => ⟨p, by
    by_cases h1 : b = T1
    · obtain ⟨⟨ps, h2, _⟩, _⟩ := T; rw [h1, h2] at e; cases e; rcases hc with q | q <;> cases q
    · by_cases h2 : b = T2
      · obtain ⟨_, ⟨ps, h3, _⟩⟩ := T; rw [h2, h3] at e; cases e; rcases hc with q | q <;> cases q
      · exact x.keep b o (hd b p) h1 h2 e⟩
theorem repL_step {P W : Addr → Prop} {s s' : Shared} {v : List Value} {d : List DV} (T : Tabs s.heap) (x : Step W s s') (hd : ∀ b, P b → ¬ W b) (r : RepL P s.heap v d) : RepL P s'.heap v d :=
  r.mono fun b o p e hc => ⟨p, by
    by_cases h1 : b = T1
    · obtain ⟨⟨ps, h2, _⟩, _⟩ := T; rw [h1, h2] at e; cases e; rcases hc with q | q <;> cases q
    · by_cases h2 : b = T2
      · obtain ⟨_, ⟨ps, h3, _⟩⟩ := T; rw [h2, h3] at e; cases e; rcases hc with q | q <;> cases q
      · exact x.keep b o (hd b p) h1 h2 e⟩
theorem Rep.weak {P P' : Addr → Prop} {h : Heap} {v : Value} {d : DV} (r : Rep P h v d) (k : ∀ b, P b → b < h.objs.size → P' b) : Rep P' h v d := r.mono fun b _ p e _ => ⟨k b p (Heap.lt_size e), e⟩
theorem RepL.weak {P P' : Addr → Prop} {h : Heap} {v : List Value} {d : List DV} (r : RepL P h v d) (k : ∀ b, P b → b < h.objs.size → P' b) : RepL P' h v d := r.mono fun b _ p e _ => ⟨k b p (Heap.lt_size e), e⟩
structure Room (n : Nat) (A : Around) : Prop where
  handled : A.handled = none
  depth : A.depth + n < recursionLimit
  units : A.units + 8 * n + 80 < cLine
theorem Room.le {n m : Nat} {A : Around} (x : Room n A) (h : m ≤ n) : Room m A := ⟨x.handled, by have := x.depth; lia, by have := x.units; lia⟩
theorem Room.deeper {n : Nat} {A : Around} (x : Room (n + 1) A) (env : Env) : Room n (A.deeper env) := ⟨x.handled, by have := x.depth; show A.depth + 1 + n < _; lia, by have := x.units; show A.units + 3 + 8 * n + 80 < _; lia⟩
theorem Room.in1 {n : Nat} {A : Around} (x : Room (n + 1) A) : Room n A.in1 := ⟨x.handled, by have := x.depth; show A.depth + n < _; lia, by have := x.units; show A.units + 1 + 8 * n + 80 < _; lia⟩
noncomputable abbrev Ok {α : Type} (M : Model) (A : Around) (t : Sem α) (Q : α → Shared → Prop) (s : Shared) : Prop := wpAny M A t Q (fun _ _ => False) s
theorem Ok.any {α : Type} {M : Model} {A : Around} {t : Sem α} {Q : α → Shared → Prop} {E : Value → Shared → Prop} {s : Shared} (x : Ok M A t Q s) : wpAny M A t Q E s := wpAny_mono x (fun _ _ q => q) fun _ _ q => q.elim
theorem Ok.mono {α : Type} {M : Model} {A : Around} {t : Sem α} {Q Q' : α → Shared → Prop} {s : Shared} (x : Ok M A t Q s) (h : ∀ a s', Q a s' → Q' a s') : Ok M A t Q' s := wpAny_mono x h fun _ _ q => q
theorem Ok.le {α : Type} {M : Model} {A : Around} {t : Sem α} {Q : α → Shared → Prop} {s : Shared} (x : Ok M A t Q s) : Ok M A t (fun a s' => Q a s' ∧ LeS s s') s := wpAny_le x
theorem Ok.bind {α β : Type} {M : Model} {A : Around} {m : Sem α} {f : α → Sem β} {Q : α → Shared → Prop} {Q' : β → Shared → Prop} {s : Shared} (x : Ok M A m Q s) (h : ∀ a s', Q a s' → LeS s s' → Ok M A (f a) Q' s') : Ok M A (m >>= f) Q' s :=
  wpAny_bind (wpAny_mono x.le (fun a s' q => h a s' q.1 q.2) fun _ _ q => q)
set_option genInjectivity false
noncomputable abbrev Names := List (Str × NameKind)
noncomputable def isVar : Option NameKind → Bool
  | some .local | some .cell | some .free => true
  | _ => false
inductive LocR (env : Env) (P : Addr → Prop) (h : Heap) (x : Str) (d : DV) : Prop
  | mk (m : Str → Option Value) (v : Value) (n : h.Ns env.locals m) (e : m x = some v) (r : Rep P h v d)
inductive CellR (env : Env) (P : Addr → Prop) (δ : Str → Option DV) (h : Heap) (x : Str) : Prop
  | mk (c : Addr) (cv : Option Value) (l : env.cells.lookup x = some c) (i : h.IsCell c cv) (r : ∀ d, δ x = some d → ∃ v, cv = some v ∧ Rep P h v d)
inductive OwnR (nm : Names) (env : Env) (P W : Addr → Prop) (δ : Str → Option DV) (h : Heap) (x : Str) (xs : List DV) : Prop
  | mk (l : nm.lookup x = some .local) (d : δ x = none) (m : Str → Option Value) (a : Addr) (items : Array Value) (n : h.Ns env.locals m) (e : m x = some (.ref a)) (w : W a) (i : IsLx h a items) (r : RepL P h items.toList xs)
theorem OwnR.loc {nm : Names} {env : Env} {P W : Addr → Prop} {δ : Str → Option DV} {h : Heap} {x : Str} {xs : List DV} : OwnR nm env P W δ h x xs → nm.lookup x = some .local
  | ⟨l, _, _, _, _, _, _, _, _, _⟩ => l
theorem OwnR.non {nm : Names} {env : Env} {P W : Addr → Prop} {δ : Str → Option DV} {h : Heap} {x : Str} {xs : List DV} : OwnR nm env P W δ h x xs → δ x = none
  | ⟨_, d, _, _, _, _, _, _, _, _⟩ => d
structure View (nm : Names) (env : Env) (P : Addr → Prop) (δ : Str → Option DV) (h : Heap) : Prop where
  kind : env.scope.kind = .function
  glob : env.globals = mainGlobals
  blt : env.builtins = builtinsNs
  names : ∀ x k, nm.lookup x = some k → env.kindOf x = some k ∨ (k = .free ∧ env.kindOf x = some .cell)
  loc : ∀ x d, δ x = some d → nm.lookup x = some .local → LocR env P h x d
  cell : ∀ x, (nm.lookup x = some .cell ∨ nm.lookup x = some .free) → CellR env P δ h x
  fresh : ∀ b, h.objs.size ≤ b → P b
  cinj : ∀ x y c, env.cells.lookup x = some c → env.cells.lookup y = some c → x = y
  nodup : (nm.map (·.1)).Nodup
theorem ns_step {W : Addr → Prop} {s s' : Shared} {a : Addr} {m : Str → Option Value} (T : Tabs s.heap) (x : Step W s s') (hW : ¬ W a) (n : s.heap.Ns a m) : s'.heap.Ns a m := by
  refine xEEEAA n ?_; clear n; intro o es ep ho hd r
  refine xA (T.ne ho (fun vs q => by rw [hd] at q; cases q)) ?_; intro h1 h2
  exact ⟨o, es, ep, x.keep a o hW h1 h2 ho, hd, r⟩
theorem cell_step {W : Addr → Prop} {s s' : Shared} {a : Addr} {v : Option Value} (T : Tabs s.heap) (x : Step W s s') (hW : ¬ W a) (n : s.heap.IsCell a v) : s'.heap.IsCell a v := by
  refine xEA n ?_; clear n; intro o ho hd
  refine xA (T.ne ho (fun vs q => by rw [hd] at q; cases q)) ?_; intro h1 h2
  exact ⟨o, x.keep a o hW h1 h2 ho, hd⟩
theorem list_step {W : Addr → Prop} {s s' : Shared} {a : Addr} {v : Array Value} (T : Tabs s.heap) (x : Step W s s') (hW : ¬ W a) (n : s.heap.IsList a v) : s'.heap.IsList a v := by
  obtain ⟨o, ho, hc, k, hd⟩ := n
  refine xA (T.ne ho (fun vs q => by rw [hd] at q; cases q)) ?_; intro h1 h2
  exact ⟨o, x.keep a o hW h1 h2 ho, hc, k, hd⟩
theorem lx_step {W : Addr → Prop} {s s' : Shared} {a : Addr} {v : Array Value} (T : Tabs s.heap) (x : Step W s s') (hW : ¬ W a) (n : IsLx s.heap a v) : IsLx s'.heap a v := by
  refine xE n ?_; clear n; intro k ho
  refine xA (T.ne ho (fun vs q => by cases q)) ?_; intro h1 h2
  exact ⟨k, x.keep a _ hW h1 h2 ho⟩
theorem View.step0 {nm : Names} {env : Env} {P : Addr → Prop} {δ : Str → Option DV} {s s' : Shared} (V : View nm env P δ s.heap) (T : Tabs s.heap) (x : Step none' s s') : View nm env P δ s'.heap where
  kind := V.kind
  glob := V.glob
  blt := V.blt
  names := V.names
  loc := fun y d hd hk => let ⟨m, v, a, b, c⟩ := V.loc y d hd hk; ⟨m, v, ns_step T x (fun q => q) a, b, rep_step T x (fun _ _ q => q) c⟩
  cell := fun y hk => let ⟨c, cv, a, b, r⟩ := V.cell y hk; ⟨c, cv, a, cell_step T x (fun q => q) b, fun d hd => let ⟨v, e, q⟩ := r d hd; ⟨v, e, rep_step T x (fun _ _ q => q) q⟩⟩
  fresh := fun b hb => V.fresh b (Nat.le_trans x.size hb)
  cinj := V.cinj
  nodup := V.nodup
noncomputable def GlobIs (H : Heap) (x : Str) (v : Value) : Prop :=
  ∃ mg mb, Glo H mg mb ∧ (mg x = some v ∨ (mg x = none ∧ mb x = some v))
section
variable {M : Model} {A : Around} {E : Value → Shared → Prop} {s : Shared} {nm : Names} {env : Env} {P : Addr → Prop} {δ : Str → Option DV} {H : Heap}
theorem View.load {x : Str} {d : DV} {Q : Value → Shared → Prop} (V : View nm env P δ s.heap) (hk : isVar (nm.lookup x) = true) (hx : δ x = some d) (hn : (x == ("__classdict__" : Str)) = false)
    (hQ : ∀ v, Rep P s.heap v d → Q v s) : wpAny M A (loadName env x) Q E s := by
  cases e : nm.lookup x with
  | none => rw [e] at hk; exact bF hk
  | some k =>
    have hkind := V.names x k e
    cases k with
    | «local» =>
      obtain ⟨m, v, n, hv, r⟩ := V.loc x d hx e
      have hl : env.kindOf x = some .local := hkind.resolve_right fun q => by cases q.1
      exact wpAny_loadName_local V.kind hl n hv (hQ v r)
    | cell =>
      obtain ⟨c, cv, hc, hcell, r⟩ := V.cell x (.inl e)
      refine xEA (r d hx) ?_; rintro v rfl r'
      have hl : env.kindOf x = some .cell := hkind.resolve_right fun q => by cases q.1
      exact wpAny_loadName_cell V.kind hl hc hcell (hQ v r')
    | free =>
      obtain ⟨c, cv, hc, hcell, r⟩ := V.cell x (.inr e)
      refine xEA (r d hx) ?_; rintro v rfl r'
      rcases hkind with hl | ⟨_, hl⟩
      · exact wpAny_loadName_free V.kind hl hc hcell (hQ v r') hn
      · exact wpAny_loadName_cell V.kind hl hc hcell (hQ v r')
    | globalExplicit => rw [e] at hk; exact bF hk
    | globalImplicit => rw [e] at hk; exact bF hk
theorem View.global {x : Str} {v : Value} {Q : Value → Shared → Prop} (V : View nm env P δ s.heap) (I : Inv H s) (hk : nm.lookup x = some .globalImplicit) (hx : GlobIs H x v)
    (hQ : Q v s) : wpAny M A (loadName env x) Q E s := by
  have hl : env.kindOf x = some .globalImplicit := (V.names x _ hk).resolve_right fun q => by cases q.1
  unfold loadName
  simp only [Env.blockKind, V.kind, hl, ScopeKind.isAnnotationScope, Bool.false_and, Bool.false_eq_true, if_false]
  refine xEEA hx ?_; clear hx; intro mg mb G hx
  have g := I.ns (by decide) (by decide) G.g
  have b := I.ns (by decide) (by decide) G.b
  rcases hx with hx | ⟨h1, h2⟩
  · exact loadGlobal_global (by rw [V.glob]; exact g) hx hQ
  · exact loadGlobal_builtin (by rw [V.glob]; exact g) h1 (by rw [V.blt]; exact b) h2 hQ
end
noncomputable def upd {α : Type} (δ : Str → Option α) (x : Str) (d : α) : Str → Option α := fun y => if y = x then some d else δ y
structure Frame (nm : Names) (st : Str → Bool) (env : Env) (P W : Addr → Prop) (δ : Str → Option DV) (ω : Str → Option (List DV)) (B : Nat) (h : Heap) : Prop where
  view : View nm env P δ h
  disj : ∀ b, P b → ¬ W b
  above : ∀ b, W b → B ≤ b
  wl : W env.locals
  ns : ∃ m, h.Ns env.locals m
  wc : ∀ x c, st x = true → nm.lookup x = some .cell → env.cells.lookup x = some c → W c
  own : ∀ x xs, ω x = some xs → OwnR nm env P W δ h x xs
  ownInj : ∀ x y xs ys m a, ω x = some xs → ω y = some ys → h.Ns env.locals m → m x = some (.ref a) → m y = some (.ref a) → x = y
theorem ns_ne_cell {h : Heap} {a c : Addr} {m : Str → Option Value} {v : Option Value} (n : h.Ns a m) (x : h.IsCell c v) : a ≠ c := fun q => by
  refine xEEEAA n ?_; clear n; intro o es ep ho hd _
  refine xEA x ?_; clear x; intro o' ho' hd'
  rw [q, ho'] at ho; (have zz := Option.some.inj ho; clear ho; subst zz); rw [hd] at hd'; cases hd'
theorem ns_ne_list {h : Heap} {a c : Addr} {m : Str → Option Value} {v : Array Value} (n : h.Ns a m) (x : h.IsList c v) : a ≠ c := fun q => by
  refine xEEEAA n ?_; clear n; intro o es ep ho hd _
  obtain ⟨o', ho', _, _, hd'⟩ := x
  rw [q, ho'] at ho; (have zz := Option.some.inj ho; clear ho; subst zz); rw [hd] at hd'; cases hd'
theorem cell_ne_list {h : Heap} {a c : Addr} {w : Option Value} {v : Array Value} (n : h.IsCell a w) (x : h.IsList c v) : a ≠ c := fun q => by
  refine xEA n ?_; clear n; intro o ho hd
  obtain ⟨o', ho', _, _, hd'⟩ := x
  rw [q, ho'] at ho; (have zz := Option.some.inj ho; clear ho; subst zz); rw [hd] at hd'; cases hd'
theorem rep_same {P : Addr → Prop} {h h' : Heap} {a : Addr} {v : Value} {d : DV} (hs : Heap.SameBut a h h') (ha : ¬ P a) (r : Rep P h v d) : Rep P h' v d :=
  r.mono fun b _ p e _ => ⟨p, (hs.2 b fun q => ha (q ▸ p)).trans e⟩
theorem repL_same {P : Addr → Prop} {h h' : Heap} {a : Addr} {v : List Value} {d : List DV} (hs : Heap.SameBut a h h') (ha : ¬ P a) (r : RepL P h v d) : RepL P h' v d :=
  r.mono fun b _ p e _ => ⟨p, (hs.2 b fun q => ha (q ▸ p)).trans e⟩
section
variable {M : Model} {A : Around} {E : Value → Shared → Prop} {s : Shared} {nm : Names} {st : Str → Bool} {env : Env} {P W : Addr → Prop} {δ : Str → Option DV} {ω : Str → Option (List DV)} {B : Nat}
theorem Frame.step0 {s' : Shared} (F : Frame nm st env P W δ ω B s.heap) (T : Tabs s.heap) (x : Step none' s s') : Frame nm st env P W δ ω B s'.heap where
  view := F.view.step0 T x
  disj := F.disj
  above := F.above
  wl := F.wl
  ns := let ⟨m, n⟩ := F.ns; ⟨m, ns_step T x id n⟩
  wc := F.wc
  own := fun y xs hy => let ⟨a, b, m, c, items, n, e, w, l, r⟩ := F.own y xs hy; ⟨a, b, m, c, items, ns_step T x id n, e, w, lx_step T x id l, repL_step T x (fun _ _ q => q) r⟩
  ownInj := fun y z xs ys m a hy hz n e1 e2 => by
    refine xE F.ns ?_; intro m₀ n₀
    have q := (ns_step T x id n₀).agree n
    exact F.ownInj y z xs ys m₀ a hy hz n₀ ((q y).trans e1) ((q z).trans e2)
theorem Frame.store {x : Str} {v : Value} {d : DV} {Q : Unit → Shared → Prop} (F : Frame nm st env P W δ ω B s.heap) (hst : st x = true) (hk : nm.lookup x = some .local ∨ nm.lookup x = some .cell)
    (hω : ω x = none) (hv : Rep P s.heap v d) (hQ : ∀ s', Step W s s' → Frame nm st env P W (upd δ x d) ω B s'.heap → Q () s') : wpAny M A (storeName env x v) Q E s := by
  have V := F.view
  refine xE F.ns ?_; intro m₀ n₀
  have hLP : ¬ P env.locals := fun q => F.disj _ q F.wl
  rcases hk with hk | hk
  · have hl : env.kindOf x = some .local := (V.names x _ hk).resolve_right fun q => by cases q.1
    refine wpAny_storeName_local hl n₀ (fun h' hn' hs => hQ _ ?_ ?_) (by rw [V.kind]; rfl)
    · refine xEEEAA n₀ ?_; clear n₀; intro o es ep ho hd _
      exact Step.same hs (.inl F.wl) ho fun vs q => by rw [hd] at q; cases q
    · refine ⟨⟨V.kind, V.glob, V.blt, V.names, fun y e hy hyk => ?_, fun y hyk => ?_, fun b hb => V.fresh b (by rw [← hs.1]; exact hb), V.cinj, V.nodup⟩, F.disj, F.above, F.wl, ⟨_, hn'⟩, F.wc, fun y xs hy => ?_, fun y z xs ys m a hy hz n e1 e2 => ?_⟩
      · unfold upd at hy
        by_cases q : y = x
        · subst q
          rw [if_pos rfl] at hy; (have zz := Option.some.inj hy; clear hy; subst zz)
          exact ⟨_, v, hn', if_pos rfl, rep_same hs hLP hv⟩
        · rw [if_neg q] at hy
          obtain ⟨m, w, n, hw, r⟩ := V.loc y e hy hyk
          exact ⟨_, w, hn', by rw [if_neg q, n₀.agree n y]; exact hw, rep_same hs hLP r⟩
      · obtain ⟨c, cv, a, b, r⟩ := V.cell y hyk
        refine ⟨c, cv, a, b.sameBut hs (fun q => ns_ne_cell n₀ b q.symm), fun e he => ?_⟩
        unfold upd at he
        have q : y ≠ x := fun q => by rw [q, hk] at hyk; rcases hyk with w | w <;> cases w
        rw [if_neg q] at he
        refine xEA (r e he) ?_; intro w e1 e2
        exact ⟨w, e1, rep_same hs hLP e2⟩
      · obtain ⟨a, b, m, c, items, n, e, w, l, r⟩ := F.own y xs hy
        have q : y ≠ x := fun q => by rw [q, hω] at hy; exact nS hy
        refine ⟨a, ?_, _, c, items, hn', by rw [if_neg q, n₀.agree n y]; exact e, w, ?_, repL_same hs hLP r⟩
        · unfold upd; rw [if_neg q]; exact b
        · have l' := l.list
          refine xE l ?_; clear l; intro k ho
          exact ⟨k, (hs.2 c fun q => ns_ne_list n₀ l' q.symm).trans ho⟩
      · have qy : y ≠ x := fun q => by rw [q, hω] at hy; exact nS hy
        have qz : z ≠ x := fun q => by rw [q, hω] at hz; exact nS hz
        have e1' := (hn'.agree n y).trans e1
        have e2' := (hn'.agree n z).trans e2
        rw [if_neg qy] at e1'
        rw [if_neg qz] at e2'
        exact F.ownInj y z xs ys m₀ a hy hz n₀ e1' e2'
  · have hl : env.kindOf x = some .cell := (V.names x _ hk).resolve_right fun q => by cases q.1
    obtain ⟨c, cv, hc, hcell, _⟩ := V.cell x (.inl hk)
    have hWc : W c := F.wc x c hst hk hc
    have hcP : ¬ P c := fun q => F.disj _ q hWc
    refine wpAny_storeName_cell V.kind hl hc hcell fun h' hn' hs => hQ { s with heap := h' } ?_ ?_
    · refine xEA hcell ?_; clear hcell; intro o ho hd
      exact Step.same (tk := s.toks) hs (.inl hWc) ho fun vs q => by rw [hd] at q; cases q
    · have nk : ∀ {m : Str → Option Value}, s.heap.Ns env.locals m → h'.Ns env.locals m := fun n => n.sameBut hs (ns_ne_cell n hcell)
      refine ⟨⟨V.kind, V.glob, V.blt, V.names, fun y e hy hyk => ?_, fun y hyk => ?_, fun b hb => V.fresh b (by rw [← hs.1]; exact hb), V.cinj, V.nodup⟩, F.disj, F.above, F.wl, ⟨_, nk n₀⟩, F.wc, fun y xs hy => ?_, fun y z xs ys m a hy hz n e1 e2 => ?_⟩
      · unfold upd at hy
        have q : y ≠ x := fun q => by rw [q, hk] at hyk; cases hyk
        rw [if_neg q] at hy
        obtain ⟨m, w, n, hw, r⟩ := V.loc y e hy hyk
        exact ⟨m, w, nk n, hw, rep_same hs hcP r⟩
      · by_cases q : y = x
        · subst q
          refine ⟨c, some v, hc, hn', fun e he => ?_⟩
          unfold upd at he
          rw [if_pos rfl] at he; (have zz := Option.some.inj he; clear he; subst zz)
          exact ⟨v, rfl, rep_same hs hcP hv⟩
        · obtain ⟨c', cv', a, b, r⟩ := V.cell y hyk
          refine ⟨c', cv', a, b.sameBut hs (fun w => q (V.cinj y x c (w ▸ a) hc)), fun e he => ?_⟩
          unfold upd at he
          rw [if_neg q] at he
          refine xEA (r e he) ?_; intro w e1 e2
          exact ⟨w, e1, rep_same hs hcP e2⟩
      · obtain ⟨a, b, m, c', items, n, e, w, l, r⟩ := F.own y xs hy
        have q : y ≠ x := fun q => by rw [q, hω] at hy; exact nS hy
        refine ⟨a, ?_, m, c', items, nk n, e, w, ?_, repL_same hs hcP r⟩
        · unfold upd; rw [if_neg q]; exact b
        · have l' := l.list
          refine xE l ?_; clear l; intro k ho
          exact ⟨k, (hs.2 c' fun q => cell_ne_list hcell l' q.symm).trans ho⟩
      · exact F.ownInj y z xs ys m₀ a hy hz n₀ (((nk n₀).agree n y).trans e1) (((nk n₀).agree n z).trans e2)
theorem Frame.bind {x : Str} {v : Value} {d : DV} {Q : Unit → Shared → Prop} (F : Frame nm st env P W δ ω B s.heap) (hst : st x = true) (hk : nm.lookup x = some .local ∨ nm.lookup x = some .cell)
    (hω : ω x = none) (hv : Rep P s.heap v d) (hQ : ∀ s', Step W s s' → Frame nm st env P W (upd δ x d) ω B s'.heap → Q () s') : wpAny M A (bindName env x v) Q E s :=
  wpAny_bindName (F.store hst hk hω hv hQ)
end
open PySem.Builtin PySem.Builtin.Str
noncomputable def occStep (s sub : List Nat) (hi limit : Nat) (st : List Nat × Nat) (i : Nat) : List Nat × Nat :=
  if st.1.length < limit && decide (st.2 ≤ i) && decide (i + sub.length ≤ hi) && ((s.drop i).take sub.length == sub) then (st.1 ++ [i], i + sub.length) else st
noncomputable def occL (s sub : List Nat) (lo hi limit : Nat) : List Nat := ((List.range' lo (hi + 1 - lo)).foldl (occStep s sub hi limit) ([], lo)).1
theorem strOf_length (s : List Nat) : (strOf s).length = s.length := by simp [Str.length]
theorem occ_fold (s sub : List Nat) (hi limit : Nat) : ∀ (l : List Nat) (st : Array Nat × Nat),
    ((forIn l st (StrLaws.occBody (strOf s) (strOf sub) hi limit)).run.1.toList, (forIn l st (StrLaws.occBody (strOf s) (strOf sub) hi limit)).run.2) = l.foldl (occStep s sub hi limit) (st.1.toList, st.2)
  | [], st => rfl
  | a :: l, st => by
    rw [List.forIn_cons, List.foldl_cons]
    have key : ∀ (c c' : Prop) [Decidable c] [Decidable c'], (c ↔ c') → ∀ {α : Type} (x y : α), (if c then x else y) = if c' then x else y := fun c c' _ _ e α x y => by simp [e]
    unfold StrLaws.occBody
    have hsub : subAt (strOf s) (strOf sub) a = ((s.drop a).take sub.length == sub) := by
      rw [StrLaws.subAt_eq]; rfl
    by_cases hc : ((st.fst.size < limit ∧ st.snd ≤ a) ∧ a + (strOf sub).length ≤ hi) ∧ subAt (strOf s) (strOf sub) a = true
    · rw [if_pos hc]
      have e : occStep s sub hi limit (st.1.toList, st.2) a = ((st.1.push a).toList, a + sub.length) := by
        unfold occStep
        rw [hsub, strOf_length] at hc
        have h1 : st.1.toList.length < limit := by simpa using hc.1.1.1
        rw [if_pos (by simp only [Bool.and_eq_true, decide_eq_true_eq]; exact ⟨⟨⟨h1, hc.1.1.2⟩, hc.1.2⟩, hc.2⟩)]
        simp
      rw [e]
      have ih := occ_fold s sub hi limit l (st.1.push a, a + (strOf sub).length)
      rw [strOf_length] at ih ⊢
      exact ih
    · rw [if_neg hc]
      have e : occStep s sub hi limit (st.1.toList, st.2) a = (st.1.toList, st.2) := by
        unfold occStep
        rw [hsub, strOf_length] at hc
        rw [if_neg]
        simp only [Bool.and_eq_true, decide_eq_true_eq, Array.length_toList]
        intro q
        exact hc ⟨⟨⟨by simpa using q.1.1.1, q.1.1.2⟩, q.1.2⟩, q.2⟩
      rw [e]
      exact occ_fold s sub hi limit l (st.1, st.2)
theorem occ_list (s sub : List Nat) (lo hi limit : Nat) : occurrences (strOf s) (strOf sub) lo hi limit = occL s sub lo hi limit := by
  rw [StrLaws.occ_eq]
  have h := occ_fold s sub hi limit (List.range' lo (hi + 1 - lo)) (#[], lo)
  unfold occL
  exact congrArg Prod.fst h
noncomputable def kindL (s : List Nat) : Nat := if s.all (· < 256) then 1 else if s.all (· < 65536) then 2 else 4
noncomputable def partsL (x : List Nat) (cuts : List Nat) (w : Nat) : List (List Nat) := ((0 :: cuts.map (· + w)).zip (cuts ++ [x.length])).map fun p => (x.drop p.1).take (p.2 - p.1)
noncomputable def splitL (x y : List Nat) : List (List Nat) :=
  if decide (x.length < y.length) || decide (kindL x < kindL y) then [x] else
  if (occL x y 0 x.length (x.length + 1)).isEmpty then [x] else partsL x (occL x y 0 x.length (x.length + 1)) y.length
noncomputable def gluedL (glue : List Nat) (parts : List (List Nat)) : List Nat := (parts.drop 1).foldl (fun acc p => acc ++ glue ++ p) (parts.headD [])
noncomputable def replaceL (x y z : List Nat) : List Nat :=
  if (occL x y 0 x.length (x.length + 1)).isEmpty || (y.length == 0 && z.length == 0) then x else gluedL z (partsL x (occL x y 0 x.length (x.length + 1)) y.length)
theorem strOf_sub (x : List Nat) (i j : Nat) : strSub (strOf x) i j = strOf ((x.drop i).take (j - i)) := by
  apply Str.ext'
  have h := StrLaws.strSub_toList (strOf x) i j
  apply Array.ext'
  rw [h]
theorem kind_list (s : List Nat) : PySem.Builtin.Str.strKind (strOf s) = kindL s := by
  unfold PySem.Builtin.Str.strKind kindL
  simp
theorem parts_list (x cuts : List Nat) (w : Nat) : partsBetween (strOf x) cuts w = (partsL x cuts w).map strOf := by
  unfold partsBetween partsL
  rw [strOf_length, List.map_map]
  exact List.map_congr_left fun p _ => strOf_sub x p.1 p.2
theorem split_list (x y : List Nat) : Txt.split (strOf x) (strOf y) = (splitL x y).map strOf := by
  unfold Txt.split splitL
  rw [strOf_length, strOf_length, kind_list, kind_list, occ_list]
  split
  · rfl
  · split
    · rfl
    · exact parts_list _ _ _
theorem glued_list (glue : List Nat) : ∀ (parts : List (List Nat)), glued (strOf glue) (parts.map strOf) = strOf (gluedL glue parts)
  | [] => rfl
  | p :: r => by
    have go : ∀ (r : List (List Nat)) (a : List Nat), (r.map strOf).foldl (fun acc p => acc ++ (strOf glue).cps ++ p.cps) a.toArray = (r.foldl (fun acc p => acc ++ glue ++ p) a).toArray := by
      intro r
      induction r with
      | nil => intro a; rfl
      | cons q r ih =>
        intro a
        rw [List.map_cons, List.foldl_cons, List.foldl_cons]
        have e : a.toArray ++ (strOf glue).cps ++ (strOf q).cps = (a ++ glue ++ q).toArray := by simp
        rw [e]
        exact ih _
    unfold glued gluedL
    simp only [List.map_cons, List.drop_succ_cons, List.drop_zero, List.headD_cons]
    rw [go r p]
theorem replace_list (x y z : List Nat) : Txt.replace (strOf x) (strOf y) (strOf z) = strOf (replaceL x y z) := by
  unfold Txt.replace replaceL
  rw [strOf_length, strOf_length, strOf_length, occ_list]
  split
  · rfl
  · rw [parts_list, glued_list]
noncomputable def clipI (i : Int) (n : Nat) : Nat := (max 0 (min (if i < 0 then i + n else i) (n : Int))).toNat
noncomputable def loI (lo : Option Int) (n : Nat) : Nat := match lo with | none => 0 | some i => clipI i n
noncomputable def hiI (hi : Option Int) (n : Nat) : Nat := match hi with | none => n | some i => clipI i n
noncomputable def sliceL {α : Type} (l : List α) (lo hi : Option Int) : List α := (l.drop (loI lo l.length)).take (hiI hi l.length - loI lo l.length)
theorem clipI_le (i : Int) (n : Nat) : clipI i n ≤ n := by unfold clipI; lia
theorem hiI_le (i : Option Int) (n : Nat) : hiI i n ≤ n := by
  cases i with
  | none => exact Nat.le_refl _
  | some i => exact clipI_le i n
theorem sliceRange_nat (a b : Nat) : sliceRange (a : Int) (b : Int) 1 = (List.range (b - a)).map (fun k => a + k) := by
  unfold sliceRange
  by_cases h : (a : Int) < b
  · have e : (((b : Int) - a + 1 - 1) / 1).toNat = b - a := by first | lia | (simp; done) | (simp; omega)
    simp only [show ((1 : Int) > 0) = True from by simp, if_true, h, e]
    exact List.map_congr_left fun k _ => by lia
  · have : b - a = 0 := by lia
    simp [h, this]
theorem clip_lo (lo : Option Int) (n : Nat) : (match lo with | none => (0 : Int) | some i => max 0 (min (if i < 0 then i + n else i) n)) = ((loI lo n : Nat) : Int) := by
  cases lo with
  | none => rfl
  | some i => show _ = ((clipI i n : Nat) : Int); unfold clipI; dsimp only; lia
theorem clip_hi (lo : Option Int) (n : Nat) : (match lo with | none => (n : Int) | some i => max 0 (min (if i < 0 then i + n else i) n)) = ((hiI lo n : Nat) : Int) := by
  cases lo with
  | none => rfl
  | some i => show _ = ((clipI i n : Nat) : Int); unfold clipI; dsimp only; lia
theorem picks' {α : Type} (l : List α) (a b : Nat) (hb : b ≤ l.length) : ((List.range (b - a)).map (fun k => a + k)).filterMap (l[·]?) = (l.drop a).take (b - a) := by
  by_cases h : a ≤ b
  · exact StrLaws.picks l (b - a) a (by lia)
  · have : b - a = 0 := by lia
    rw [this]; simp
theorem strIdx (lo hi : Option Int) (n : Nat) : strSliceIndices lo hi 1 n = (List.range (hiI hi n - loI lo n)).map (fun k => loI lo n + k) := by
  rw [← sliceRange_nat, ← clip_lo, ← clip_hi]
  unfold strSliceIndices
  simp only [show ((1 : Int) > 0) = True from by simp, if_true]
  rfl
theorem slice_list' (x : List Nat) (lo hi : Option Int) : Txt.slice (strOf x) lo hi = strOf (sliceL x lo hi) := by
  have hx : (strOf x).length = x.length := strOf_length x
  unfold Txt.slice sliceL
  rw [strIdx, hx]
  have e : ((List.range (hiI hi x.length - loI lo x.length)).map (fun k => loI lo x.length + k)).filterMap ((strOf x).cps[·]?) = (x.drop (loI lo x.length)).take (hiI hi x.length - loI lo x.length) := by
    have h := picks' x (loI lo x.length) (hiI hi x.length) (hiI_le _ _)
    simpa using h
  rw [e]
  split
  · rename_i h
    have hl : hiI hi x.length - loI lo x.length = x.length := by simpa using h
    have h1 := hiI_le hi x.length
    rw [hl]
    by_cases h0 : x.length = 0
    · have hx0 : x = [] := List.eq_nil_of_length_eq_zero h0
      subst hx0; simp
    · have ha : loI lo x.length = 0 := by lia
      rw [ha]; simp
  · rfl
theorem pick_list (items : Array Value) (lo hi : Option Int) : (slicePick items lo hi none).toList = sliceL items.toList lo hi := by
  unfold slicePick sliceL
  have e1 : (sliceBounds lo hi none items.size).1 = ((loI lo items.size : Nat) : Int) := by
    rw [← clip_lo]; unfold sliceBounds; simp only [Option.getD_none, show ((1 : Int) > 0) = True from by simp, if_true]; rfl
  have e2 : (sliceBounds lo hi none items.size).2.1 = ((hiI hi items.size : Nat) : Int) := by
    rw [← clip_hi]; unfold sliceBounds; simp only [Option.getD_none, show ((1 : Int) > 0) = True from by simp, if_true]; rfl
  rw [e1, e2, show (sliceBounds lo hi none items.size).2.2 = 1 from rfl, sliceRange_nat]
  have h := picks' items.toList (loI lo items.size) (hiI hi items.size) (by simpa using hiI_le hi items.size)
  simp only [Array.length_toList] at h ⊢
  simpa using h
theorem RepL.slice {P : Addr → Prop} {h : Heap} {vs : List Value} {ds : List DV} (r : RepL P h vs ds) (lo hi : Option Int) : RepL P h (sliceL vs lo hi) (sliceL ds lo hi) := by
  unfold sliceL
  rw [r.length]
  exact (r.drop _).take _
theorem sliceL_le {α : Type} (l : List α) (lo hi : Option Int) : (sliceL l lo hi).length ≤ l.length := by
  unfold sliceL
  simp only [List.length_take, List.length_drop]
  lia
noncomputable def startsL (x y : List Nat) : Bool := decide (0 + y.length ≤ x.length) && ((x.drop 0).take y.length == y)
noncomputable def endsL (x y : List Nat) : Bool := decide (0 + y.length ≤ x.length) && ((x.drop (x.length - y.length)).take y.length == y)
theorem starts_list (x y : List Nat) : Txt.startswith (strOf x) (strOf y) = startsL x y := by
  unfold Txt.startswith startsL
  rw [StrLaws.subAt_eq, strOf_length, strOf_length]
theorem ends_list (x y : List Nat) : Txt.endswith (strOf x) (strOf y) = endsL x y := by
  unfold Txt.endswith endsL
  rw [StrLaws.subAt_eq, strOf_length, strOf_length]
noncomputable def inL (x y : List Nat) : Bool := !(occL x y 0 x.length 1).isEmpty
theorem in_list (x y : List Nat) : Txt.contains (strOf x) (strOf y) = inL x y := by
  unfold Txt.contains inL
  rw [occ_list, strOf_length]
noncomputable def findL (x y : List Nat) : Int := match occL x y 0 x.length 1 with | i :: _ => (i : Int) | [] => -1
theorem find_list (x y : List Nat) : Txt.find (strOf x) (strOf y) = findL x y := by
  unfold Txt.find findL
  rw [occ_list, strOf_length]
  cases occL x y 0 x.length 1 <;> rfl
noncomputable def fromI (len : Nat) (i : Int) : Nat := (max 0 (if i < 0 then i + len else i)).toNat
noncomputable def find4L (x y : List Nat) (i j : Int) : Int := match occL x y (fromI x.length i) (min (fromI x.length j) x.length) 1 with | k :: _ => (k : Int) | [] => -1
theorem gives_find4 (x y : Str) (i j : Int) (t u v v' : Tok) : Gives (Builtin.«str.find» ⟨[.str x t, .str y u, .int i v, .int j v'], []⟩)
    (.int (match occurrences x y (fromI x.length i) (min (fromI x.length j) x.length) 1 with | k :: _ => (k : Int) | [] => -1)) := by
  show Gives (match occurrences x y (fromI x.length i) (min (fromI x.length j) x.length) 1 with | k :: _ => retInt k | [] => (do rule "str.find.not-found"; retInt (-1))) _
  cases occurrences x y (fromI x.length i) (min (fromI x.length j) x.length) 1 with
  | nil => exact .rule (.of_eq rfl)
  | cons k _ => exact .of_eq rfl
noncomputable def mulL (x : List Nat) (n : Int) : List Nat := (List.replicate n.toNat x).flatten
theorem mul_list' (x : List Nat) (n : Int) : Txt.mul (strOf x) n = strOf (mulL x n) := by
  unfold Txt.mul mulL
  have go : ∀ (k : Nat) (a : List Nat), (List.replicate k (strOf x).cps).foldl (· ++ ·) a.toArray = (a ++ (List.replicate k x).flatten).toArray := by
    intro k
    induction k with
    | zero => intro a; simp
    | succ k ih =>
      intro a
      rw [List.replicate_succ, List.foldl_cons, List.replicate_succ, List.flatten_cons]
      have e : a.toArray ++ (strOf x).cps = (a ++ x).toArray := by simp
      rw [e, ih, List.append_assoc]
  split
  · rename_i h
    have : n.toNat = 0 := by lia
    rw [this]; rfl
  · split
    · rename_i h1 h
      rw [Bool.or_eq_true] at h
      rcases h with h | h
      · have : n = 1 := by simpa using h
        subst this; simp
      · have : x = [] := List.eq_nil_of_length_eq_zero (by rw [strOf_length] at h; simpa using h)
        subst this
        have : ∀ k, (List.replicate k ([] : List Nat)).flatten = [] := by intro k; induction k with
          | zero => rfl
          | succ k ih => rw [List.replicate_succ, List.flatten_cons, ih]; rfl
        rw [this]
    · have h := go n.toNat []
      rw [List.nil_append] at h
      exact Str.ext' h
section
variable {c : Nat → Nat} (hc : ∀ a b, c a = c b → a = b)
include hc
theorem map_beq (x y : List Nat) : (x.map c == y.map c) = (x == y) := by
  rw [Bool.eq_iff_iff, beq_iff_eq, beq_iff_eq]
  exact ⟨fun h => List.map_inj_right (fun a b q => hc a b q) |>.mp h, fun h => by rw [h]⟩
theorem occStep_map (s sub : List Nat) (hi limit : Nat) (st : List Nat × Nat) (i : Nat) : occStep (s.map c) (sub.map c) hi limit st i = occStep s sub hi limit st i := by
  unfold occStep
  rw [List.length_map, ← List.map_drop, ← List.map_take, map_beq hc]
theorem occL_map (s sub : List Nat) (lo hi limit : Nat) : occL (s.map c) (sub.map c) lo hi limit = occL s sub lo hi limit := by
  unfold occL
  rw [show occStep (s.map c) (sub.map c) hi limit = occStep s sub hi limit from by funext st i; exact occStep_map hc s sub hi limit st i]
theorem inL_map (x y : List Nat) : inL (x.map c) (y.map c) = inL x y := by unfold inL; rw [occL_map hc, List.length_map]
theorem findL_map (x y : List Nat) : findL (x.map c) (y.map c) = findL x y := by unfold findL; rw [occL_map hc, List.length_map]
theorem find4L_map (x y : List Nat) (i j : Int) : find4L (x.map c) (y.map c) i j = find4L x y i j := by unfold find4L; rw [occL_map hc, List.length_map]
theorem startsL_map (x y : List Nat) : startsL (x.map c) (y.map c) = startsL x y := by unfold startsL; rw [List.length_map, List.length_map, ← List.map_drop, ← List.map_take, map_beq hc]
theorem endsL_map (x y : List Nat) : endsL (x.map c) (y.map c) = endsL x y := by unfold endsL; rw [List.length_map, List.length_map, ← List.map_drop, ← List.map_take, map_beq hc]
omit hc in
theorem partsL_map (x cuts : List Nat) (w : Nat) : partsL (x.map c) cuts w = (partsL x cuts w).map (List.map c) := by
  unfold partsL
  rw [List.map_map, List.length_map]
  exact List.map_congr_left fun p _ => by rw [← List.map_drop, ← List.map_take]; rfl
omit hc in
theorem gluedL_map (glue : List Nat) (parts : List (List Nat)) : gluedL (glue.map c) (parts.map (List.map c)) = (gluedL glue parts).map c := by
  have go : ∀ (r : List (List Nat)) (a : List Nat), (r.map (List.map c)).foldl (fun acc p => acc ++ glue.map c ++ p) (a.map c) = (r.foldl (fun acc p => acc ++ glue ++ p) a).map c := by
    intro r
    induction r with
    | nil => intro a; rfl
    | cons q r ih =>
      intro a
      rw [List.map_cons, List.foldl_cons, List.foldl_cons, ← ih]
      congr 1
      rw [List.map_append, List.map_append]
  unfold gluedL
  cases parts with
  | nil => rfl
  | cons p r => exact go r p
omit hc in
theorem sliceL_map {α β : Type} (f : α → β) (x : List α) (lo hi : Option Int) : sliceL (x.map f) lo hi = (sliceL x lo hi).map f := by
  unfold sliceL; rw [List.length_map, List.map_take, List.map_drop]
omit hc in
theorem mulL_map (x : List Nat) (n : Int) : mulL (x.map c) n = (mulL x n).map c := by
  unfold mulL; rw [List.map_flatten, List.map_replicate]
end
noncomputable def split2L (x y : List Nat) : List (List Nat) :=
  if (occL x y 0 x.length (x.length + 1)).isEmpty then [x] else partsL x (occL x y 0 x.length (x.length + 1)) y.length
theorem occ_fold_mem (x y : List Nat) (hi limit : Nat) : ∀ (l : List Nat) (st : List Nat × Nat), (∀ i, i ∈ st.1 → i + y.length ≤ hi ∧ (x.drop i).take y.length = y) → ∀ i, i ∈ (l.foldl (occStep x y hi limit) st).1 → i + y.length ≤ hi ∧ (x.drop i).take y.length = y
  | [], st, h => h
  | a :: l, st, h => by
    rw [List.foldl_cons]
    refine occ_fold_mem x y hi limit l _ ?_
    intro i hi'
    unfold occStep at hi'
    split at hi'
    · rename_i hcnd
      simp only [Bool.and_eq_true, decide_eq_true_eq, beq_iff_eq] at hcnd
      rcases List.mem_append.mp hi' with q | q
      · exact h i q
      · rw [List.mem_singleton] at q; subst q; exact ⟨hcnd.1.2, hcnd.2⟩
    · exact h i hi'
theorem kindL_le {x y : List Nat} (h : ∀ a, a ∈ y → a ∈ x) : kindL y ≤ kindL x := by
  unfold kindL
  by_cases h1 : x.all (· < 256) = true
  · have : y.all (· < 256) = true := by
      rw [List.all_eq_true] at h1 ⊢
      exact fun a ha => h1 a (h a ha)
    rw [if_pos h1, if_pos this]; exact Nat.le_refl _
  · by_cases h2 : x.all (· < 65536) = true
    · have : y.all (· < 65536) = true := by
        rw [List.all_eq_true] at h2 ⊢
        exact fun a ha => h2 a (h a ha)
      rw [if_neg h1, if_pos h2, if_pos this]; split <;> lia
    · rw [if_neg h1, if_neg h2]; split
      · lia
      · split <;> lia
theorem split2_eq (x y : List Nat) : splitL x y = split2L x y := by
  unfold splitL split2L
  split
  · rename_i h
    rw [if_pos]
    rw [List.isEmpty_iff]
    cases e : occL x y 0 x.length (x.length + 1) with
    | nil => rfl
    | cons i r =>
      have hm := occ_fold_mem x y x.length (x.length + 1) (List.range' 0 (x.length + 1 - 0)) ([], 0) (fun i q => by cases q) i (by show i ∈ occL x y 0 x.length (x.length + 1); rw [e]; exact List.mem_cons_self)
      simp only [Bool.or_eq_true, decide_eq_true_eq] at h
      have h2 : kindL y ≤ kindL x := kindL_le fun a ha => by
        rw [← hm.2] at ha
        exact List.mem_of_mem_drop (List.mem_of_mem_take ha)
      lia
  · rfl
theorem splitL_map {c : Nat → Nat} (hc : ∀ a b, c a = c b → a = b) (x y : List Nat) : splitL (x.map c) (y.map c) = (splitL x y).map (List.map c) := by
  rw [split2_eq, split2_eq]
  unfold split2L
  rw [occL_map hc, List.length_map, List.length_map, partsL_map]
  split <;> rfl
noncomputable def mulOkB (a b : Int) : Bool := !(decide (Builtin.Int.intBits a > shortFactorBits) && decide (Builtin.Int.intBits b > shortFactorBits) && Builtin.Int.intTooBig (Builtin.Int.intBits a + Builtin.Int.intBits b))
noncomputable def intBin (op : Operator) (a b : Int) : Option Int := match op with
  | .Add => some (a + b)
  | .Sub => some (a - b)
  | .Mult => if mulOkB a b then some (a * b) else none
  | .Mod => if b = 0 then none else some (a.fmod b)
  | .FloorDiv => if b = 0 ∨ Builtin.divisionGoesByPylong a b = true then none else some (a.fdiv b)
  | .Pow => if 0 ≤ b ∧ (Builtin.Int.intBits a : Int) * b ≤ 2 ^ 27 then some (a ^ b.toNat) else none
  | .LShift => if 0 ≤ b ∧ (Builtin.Int.intBits a : Int) + b ≤ 2 ^ 27 then some (a * 2 ^ b.toNat) else none
  | .RShift => if 0 ≤ b then some (a.fdiv (2 ^ b.toNat)) else none
  | .BitAnd => some (Builtin.bitAnd a b)
  | .BitOr => some (Builtin.bitOr a b)
  | .BitXor => some (Builtin.bitXor a b)
  | _ => none
theorem mulOk_of {a b : Int} (h : mulOkB a b = true) : IntMulOk a b := fun q => by
  unfold mulOkB at h
  rw [q] at h
  exact absurd h (by decide)
set_option genInjectivity false in
structure Dom where
  D : Type
  den : D → Int
  lit : Int → D
  lit_den : ∀ i, den (lit i) = i
  val : D → Option Int
  val_den : ∀ d i, val d = some i → den d = i
  bin : Operator → D → D → Option D
  bin_ok : ∀ op a b c, bin op a b = some c → intBin op (den a) (den b) = some (den c)
  neg : D → Option D
  neg_ok : ∀ a c, neg a = some c → den c = -(den a)
  lt : D → D → Option Bool
  lt_ok : ∀ a b t, lt a b = some t → t = decide (den a < den b)
  eq : D → D → Option Bool
  eq_ok : ∀ a b t, eq a b = some t → t = decide (den a = den b)
  chr : Nat → Nat
  chr_inj : ∀ a b, chr a = chr b → a = b
  slit : List Nat → Option (List Nat)
  slit_ok : ∀ x y, slit x = some y → y.map chr = x
  bl : D → Option D
  bl_ok : ∀ a c, bl a = some c → den c = (Builtin.Int.intBits (den a) : Int)
noncomputable def intDom : Dom where
  D := Int
  den := fun i => i
  lit := fun i => i
  lit_den := fun _ => rfl
  val := some
  val_den := fun _ _ e => Option.some.inj e
  bin := intBin
  bin_ok := fun _ _ _ _ e => e
  neg := fun i => some (-i)
  neg_ok := fun _ _ e => (Option.some.inj e).symm
  lt := fun a b => some (decide (a < b))
  lt_ok := fun _ _ _ e => (Option.some.inj e).symm
  eq := fun a b => some (decide (a = b))
  eq_ok := fun _ _ _ e => (Option.some.inj e).symm
  chr := fun n => n
  chr_inj := fun _ _ e => e
  slit := some
  slit_ok := fun _ _ e => by (have zz := Option.some.inj e; clear e; subst zz); simp
  bl := fun a => some (Builtin.Int.intBits a : Int)
  bl_ok := fun _ _ e => (Option.some.inj e).symm
noncomputable abbrev Dom.V (dm : Dom) := PV dm.D
noncomputable abbrev Dom.dv (dm : Dom) (d : dm.V) : DV := d.den dm.den dm.chr
noncomputable abbrev Dom.dvs (dm : Dom) (d : List dm.V) : List DV := PV.denL dm.den dm.chr d
noncomputable abbrev Post (P : Addr → Prop) (s : Shared) (d : DV) : Value → Shared → Prop := fun v s' => Step none' s s' ∧ Rep P s'.heap v d
section
variable {prog : Program} {w : World} {A : Around} {E : Value → Shared → Prop} {s : Shared} {P : Addr → Prop}
theorem post_int {Q : Value → Shared → Prop} {i : Int} {t tk : Tok} (h : ∀ v s', Post P s (.int i) v s' → Q v s') : Q (.int i t) { s with toks := tk } := h _ _ ⟨.toks tk, .int i t⟩
theorem post_str {Q : Value → Shared → Prop} {x : List Nat} {t tk : Tok} (h : ∀ v s', Post P s (.str x) v s' → Q v s') : Q (.str (strOf x) t) { s with toks := tk } := h _ _ ⟨.toks tk, .str x t⟩
theorem post_bool {Q : Value → Shared → Prop} {b : Bool} (h : ∀ v s', Post P s (.bool b) v s' → Q v s') : Q (.bool b) s := h _ _ ⟨.refl _ _, .bool b⟩
theorem int_bin {op : Operator} {a b c : Int} {t u : Tok} {Q : Value → Shared → Prop} (e : intBin op a b = some c) (h : ∀ v s', Post P s (.int c) v s' → Q v s') : wpAny (model prog w) A (binaryOp op (.int a t) (.int b u)) Q E s := by
  cases op with
  | Add => (have zz := Option.some.inj e; clear e; subst zz); exact add_int (post_int h)
  | Sub => (have zz := Option.some.inj e; clear e; subst zz); exact sub_int (post_int h)
  | Mult => refine ifS e fun hm e => ?_; (have zz := Option.some.inj e; clear e; subst zz); exact PyProof.Rows.mul_int (post_int h) (mulOk_of hm)
  | Mod => have ⟨hb, e⟩ := ifN e; (have zz := Option.some.inj e; clear e; subst zz); exact mod_int' hb (post_int h)
  | FloorDiv =>
    have ⟨hb, e⟩ := ifN e; (have zz := Option.some.inj e; clear e; subst zz)
    exact floordiv_int (fun q => hb (.inl q)) (post_int h) (.inl (by cases q : Builtin.divisionGoesByPylong a b with | false => rfl | true => exact absurd (.inr q) hb))
  | Pow => refine ifS e fun hb e => ?_; (have zz := Option.some.inj e; clear e; subst zz); exact pow_int hb.1 hb.2 (post_int h)
  | LShift => refine ifS e fun hb e => ?_; (have zz := Option.some.inj e; clear e; subst zz); exact lshift_int hb.1 hb.2 (post_int h)
  | RShift => refine ifS e fun hb e => ?_; (have zz := Option.some.inj e; clear e; subst zz); exact rshift_int hb (post_int h)
  | BitAnd => (have zz := Option.some.inj e; clear e; subst zz); exact and_int (post_int h)
  | BitOr => (have zz := Option.some.inj e; clear e; subst zz); exact or_int (post_int h)
  | BitXor => (have zz := Option.some.inj e; clear e; subst zz); exact xor_int (post_int h)
  | _ => exact nS e
theorem int_inplace {op : Operator} {a b c : Int} {t u : Tok} {Q : Value → Shared → Prop} (e : intBin op a b = some c) (ho : op = .Add ∨ op = .Sub ∨ op = .Mult ∨ op = .LShift ∨ op = .RShift)
    (h : ∀ v s', Post P s (.int c) v s' → Q v s') : wpAny (model prog w) A (inplaceOp op (.int a t) (.int b u)) Q E s := by
  rcases ho with rfl | rfl | rfl | rfl | rfl
  · (have zz := Option.some.inj e; clear e; subst zz); exact iadd_int (post_int h)
  · (have zz := Option.some.inj e; clear e; subst zz); exact PyProof.Rows.isub_int (post_int h)
  · refine ifS e fun hm e => ?_; (have zz := Option.some.inj e; clear e; subst zz); exact PySem.P.imul_int (post_int h) (mulOk_of hm)
  · refine ifS e fun hb e => ?_; (have zz := Option.some.inj e; clear e; subst zz); exact ilshift_int hb.1 hb.2 (post_int h)
  · refine ifS e fun hb e => ?_; (have zz := Option.some.inj e; clear e; subst zz); exact irshift_int hb (post_int h)
theorem str_add {a b : List Nat} {t u : Tok} {Q : Value → Shared → Prop} (hz : a.length + b.length ≤ 16777216) (h : ∀ v s', Post P s (.str (a ++ b)) v s' → Q v s') :
    wpAny (model prog w) A (binaryOp .Add (.str (strOf a) t) (.str (strOf b) u)) Q E s := by
  refine SB.add (fun t' k => ?_) (by rw [strOf_length, strOf_length, sizeLine_eq]; exact hz)
  have e : strOf a ++ strOf b = strOf (a ++ b) := Str.ext' (by rw [Str.cps_append]; simp)
  rw [e]
  exact post_str h
noncomputable def mulStrOk (a : List Nat) (n : Int) : Bool := decide (0 ≤ n) && decide (n ≤ 1000000) && decide (a.length * n.toNat ≤ 16777216)
theorem str_mul {a : List Nat} {n : Int} {t u : Tok} {Q : Value → Shared → Prop} (hz : mulStrOk a n = true) (h : ∀ v s', Post P s (.str (mulL a n)) v s' → Q v s') :
    wpAny (model prog w) A (binaryOp .Mult (.str (strOf a) t) (.int n u)) Q E s := by
  simp only [mulStrOk, Bool.and_eq_true, decide_eq_true_eq] at hz
  refine xA hz ?_; clear hz; rintro ⟨h0, h1⟩ h2
  refine SB.mul ⟨?_, fun hn hc => ?_, fun hn hc => ?_⟩ fun t' k => ?_
  · rw [Bool.or_eq_false_iff]; exact ⟨decide_eq_false (by lia), decide_eq_false (by lia)⟩
  · rw [strOf_length]
    have h3 : ((a.length : Nat) : Int) * n ≤ 16777216 := by
      have : ((a.length * n.toNat : Nat) : Int) ≤ 16777216 := by lia
      rw [Int.natCast_mul, Int.toNat_of_nonneg h0] at this
      exact this
    rw [Int.not_gt_eq, Int.le_ediv_iff_mul_le (by lia)]
    lia
  · rw [strOf_length]; unfold tooLong sizeLine; exact decide_eq_false (by lia)
  · rw [mul_list']
    exact post_str h
theorem list_add {a b : Value} {xs ys : List DV} {Q : Value → Shared → Prop} (hf : ∀ c, s.heap.objs.size ≤ c → P c) (ra : Rep P s.heap a (.list xs)) (rb : Rep P s.heap b (.list ys)) (hz : xs.length + ys.length ≤ 16777216)
    (h : ∀ v s', Post P s (.list (xs ++ ys)) v s' → Q v s') : wpAny (model prog w) A (binaryOp .Add a b) Q E s := by
  refine xEEAAA ra.inv ?_; rintro a items rfl p1 l1 r1
  refine xEEAAA rb.inv ?_; rintro b items2 rfl p2 l2 r2
  refine xE l1 ?_; clear l1; intro n ho
  refine xE l2 ?_; clear l2; intro n2 ho2
  have z1 := r1.length
  have z2 := r2.length
  simp only [Array.length_toList] at z1 z2
  refine concat_meets ⟨_, ho, rfl⟩ ⟨_, ho2, rfl⟩ noFill_list_add seq_list_add PySem.F.slot_list_add PySem.F.entry_list_add (PySem.F.args_list_add_2 _ _) (list_addW a b items items2 n n2 none none #[] #[] (by rw [sizeLine_eq]; lia)) ⟨ho, ho2, ?_⟩
  refine h (.ref s.heap.objs.size) { s with heap := s.heap.push _ } ⟨.push, .list (hf _ (Nat.le_refl _)) ⟨_, Heap.get?_push_size _ rfl⟩ ?_⟩
  rw [Array.toList_append]
  exact (r1.append r2).mono fun b o p e _ => ⟨p, Heap.get?_push_of_some _ e⟩
end
open PySem.Spec
open PySem.SeqAt
noncomputable def fitLen : Nat := 16777216
noncomputable def opAM {β : Type} (op : Operator) (k1 k2 : Option β) : Option β := match op with | .Add => k1 | .Mult => k2 | _ => none
theorem opAM_i {β : Type} {op : Operator} {k1 k2 : Option β} {b : β} {G : Prop} (e : opAM op k1 k2 = some b) (h1 : op = .Add → k1 = some b → G) (h2 : op = .Mult → k2 = some b → G) : G := by
  cases op with | Add => exact h1 rfl e | Mult => exact h2 rfl e | _ => exact nS e
noncomputable def binP (dm : Dom) (op : Operator) (a b : dm.V) : Option dm.V := match a with
  | .int a => oI b fun b => (dm.bin op a b).map .int
  | .str a => opAM op (oS b fun b => if a.length + b.length ≤ fitLen then some (.str (a ++ b)) else none) (oI b fun n => (dm.val n).bind fun n => if mulStrOk a n then some (.str (mulL a n)) else none)
  | .list a => opAM op (oL b fun b => if a.length + b.length ≤ fitLen then some (.list (a ++ b)) else none) none
  | _ => none
theorem denL_append {D : Type} (f : D → Int) (ch : Nat → Nat) (a b : List (PV D)) : PV.denL f ch (a ++ b) = PV.denL f ch a ++ PV.denL f ch b := by
  rw [PV.denL_eq, PV.denL_eq, PV.denL_eq, List.map_append]
theorem denL_length {D : Type} (f : D → Int) (ch : Nat → Nat) (a : List (PV D)) : (PV.denL f ch a).length = a.length := by rw [PV.denL_eq, List.length_map]
theorem denL_get {D : Type} (f : D → Int) (ch : Nat → Nat) (a : List (PV D)) (i : Nat) : (PV.denL f ch a)[i]? = (a[i]?).map (PV.den f ch) := by rw [PV.denL_eq, List.getElem?_map]
theorem denL_slice {D : Type} (f : D → Int) (ch : Nat → Nat) (a : List (PV D)) (lo hi : Option Int) : PV.denL f ch (sliceL a lo hi) = sliceL (PV.denL f ch a) lo hi := by
  rw [PV.denL_eq, PV.denL_eq]; unfold sliceL; rw [List.length_map, List.map_take, List.map_drop]
section
variable {prog : Program} {w : World} {A : Around} {E : Value → Shared → Prop} {s : Shared} {P : Addr → Prop} {dm : Dom}
theorem bin_ok {op : Operator} {a b c : dm.V} {va vb : Value} {Q : Value → Shared → Prop} (hf : ∀ c, s.heap.objs.size ≤ c → P c) (e : binP dm op a b = some c) (ra : Rep P s.heap va (dm.dv a)) (rb : Rep P s.heap vb (dm.dv b))
    (h : ∀ v s', Post P s (dm.dv c) v s' → Q v s') : wpAny (model prog w) A (binaryOp op va vb) Q E s := by
  cases a with
  | int a =>
    refine oI_i e ?_; clear e; rintro b rfl e
    refine xMap e ?_; clear e; rintro c hc rfl
    have hi := dm.bin_ok _ _ _ _ hc
    (refine xE (Rep.inv ra) ?_; clear ra; intro zt zq; subst zq); (refine xE (Rep.inv rb) ?_; clear rb; intro zt zq; subst zq)
    exact int_bin hi h
  | str a =>
    refine opAM_i e ?_ ?_
    · clear e; rintro rfl e
      refine oS_i e ?_; clear e; rintro b rfl e
      refine ifS e fun hz e => ?_
      (have zz := Option.some.inj e; clear e; subst zz); (refine xE (Rep.inv ra) ?_; clear ra; intro zt zq; subst zq); (refine xE (Rep.inv rb) ?_; clear rb; intro zt zq; subst zq)
      refine str_add (P := P) (by rw [List.length_map, List.length_map]; exact hz) ?_
      rw [← List.map_append]
      exact h
    · clear e; rintro rfl e
      refine oI_i e ?_; clear e; rintro n rfl e
      refine xBind e ?_; clear e; intro i hi e
      refine ifS e fun hz e => ?_
      have hd := dm.val_den _ _ hi
      (have zz := Option.some.inj e; clear e; subst zz); (refine xE (Rep.inv ra) ?_; clear ra; intro zt zq; subst zq); (refine xE (Rep.inv rb) ?_; clear rb; intro zt zq; subst zq)
      rw [hd]
      refine str_mul (P := P) (by unfold mulStrOk at hz ⊢; rw [List.length_map]; exact hz) ?_
      rw [mulL_map]
      exact h
  | list a =>
    refine opAM_i e ?_ fun _ e => nomatch e
    clear e; rintro rfl e
    refine oL_i e ?_; clear e; rintro b rfl e
    refine ifS e fun hz e => ?_
    (have zz := Option.some.inj e; clear e; subst zz)
    refine list_add hf ra rb ?_ ?_
    · rw [denL_length, denL_length]; exact hz
    · intro v s' q
      refine h v s' ?_
      show Post P s (.list (PV.denL dm.den dm.chr (a ++ b))) v s'
      rw [denL_append]; exact q
  | _ => exact nS e
theorem inplace_ok {op : Operator} {a b c : dm.D} {va vb : Value} {Q : Value → Shared → Prop} (e : dm.bin op a b = some c) (ho : op = .Add ∨ op = .Sub ∨ op = .Mult ∨ op = .LShift ∨ op = .RShift)
    (ra : Rep P s.heap va (dm.dv (.int a))) (rb : Rep P s.heap vb (dm.dv (.int b)))
    (h : ∀ v s', Post P s (dm.dv (.int c)) v s' → Q v s') : wpAny (model prog w) A (inplaceOp op va vb) Q E s := by
  have hi := dm.bin_ok _ _ _ _ e
  (refine xE (Rep.inv ra) ?_; clear ra; intro zt zq; subst zq); (refine xE (Rep.inv rb) ?_; clear rb; intro zt zq; subst zq)
  exact int_inplace hi ho h
end
noncomputable def intsV (dm : Dom) : List dm.V → Option (List Int)
  | [] => some []
  | x :: r => oI x fun d => (dm.val d).bind fun i => (intsV dm r).map (i :: ·)
theorem intsV_den {dm : Dom} {xs : List dm.V} {ns : List Int} (e : intsV dm xs = some ns) : PV.denL dm.den dm.chr xs = ns.map PV.int := by
  induction xs generalizing ns with
  | nil => (have zz := Option.some.inj e; clear e; subst zz); rfl
  | cons x r ih =>
    refine oI_i e ?_; clear e; rintro d rfl e
    refine xBind e ?_; clear e; intro i hi e
    refine xMap e ?_; clear e; rintro ms hm rfl
    rw [PV.denL, ih hm, PV.den, dm.val_den _ _ hi, List.map_cons]
theorem repL_ints {P : Addr → Prop} {h : Heap} : ∀ {ns : List Int} {vs : List Value}, RepL P h vs (ns.map PV.int) → IntsAre vs ns
  | [], vs, r => by cases r; exact .nil
  | n :: ns, vs, r => by
    cases r with
    | cons r1 r2 => (refine xE (Rep.inv r1) ?_; clear r1; intro zt zq; subst zq); exact .cons _ _ (repL_ints r2)
theorem repL_of_ints {P : Addr → Prop} {h : Heap} : ∀ {ns : List Int} {vs : List Value}, IntsAre vs ns → RepL P h vs (ns.map PV.int)
  | [], vs, r => by cases r; exact .nil
  | n :: ns, vs, r => by
    cases r with
    | cons _ t r2 => exact .cons (.int n t) (repL_of_ints r2)
noncomputable def opEN {β : Type} (op : CmpOp) (k1 k2 : Option β) : Option β := match op with | .Eq => k1 | .NotEq => k2 | _ => none
theorem opEN_i {β : Type} {op : CmpOp} {k1 k2 : Option β} {b : β} {G : Prop} (e : opEN op k1 k2 = some b) (h1 : op = .Eq → k1 = some b → G) (h2 : op = .NotEq → k2 = some b → G) : G := by
  cases op with | Eq => exact h1 rfl e | NotEq => exact h2 rfl e | _ => exact nS e
noncomputable def opII {β : Type} (op : CmpOp) (k1 k2 : Option β) : Option β := match op with | .Is => k1 | .IsNot => k2 | _ => none
theorem opII_i {β : Type} {op : CmpOp} {k1 k2 : Option β} {b : β} {G : Prop} (e : opII op k1 k2 = some b) (h1 : op = .Is → k1 = some b → G) (h2 : op = .IsNot → k2 = some b → G) : G := by
  cases op with | Is => exact h1 rfl e | IsNot => exact h2 rfl e | _ => exact nS e
noncomputable def isN {D : Type} (a : PV D) : Bool := match a with | .none => true | _ => false
noncomputable def cmpP (dm : Dom) (op : CmpOp) (a b : dm.V) : Option Bool := match b with
  | .int b => oI a fun a => match op with
    | .Eq => dm.eq a b
    | .NotEq => (dm.eq a b).map (!·)
    | .Lt => dm.lt a b
    | .Gt => dm.lt b a
    | .LtE => (dm.lt b a).map (!·)
    | .GtE => (dm.lt a b).map (!·)
    | _ => none
  | .str b => oS a fun a => match op with
    | .Eq => some (a == b)
    | .NotEq => some (a != b)
    | .In => some (inL b a)
    | .NotIn => some (!inL b a)
    | _ => none
  | .bool b => oB a fun a => opII op (some (a == b)) (some (a != b))
  | .list ys => oL a fun xs => opEN op ((intsV dm xs).bind fun ns => (intsV dm ys).map fun ms => decide (ns = ms)) none
  | .tuple ys => oT a fun xs => opEN op none ((intsV dm xs).bind fun ns => (intsV dm ys).map fun ms => !decide (ns = ms))
  | .none => opII op (some (isN a)) (some (!isN a))
  | .arr _ => none
section
variable {prog : Program} {w : World} {A : Around} {E : Value → Shared → Prop} {s : Shared} {P : Addr → Prop} {dm : Dom}
theorem beq_strOf (a b : List Nat) : (strOf a == strOf b) = (a == b) := by
  rw [Bool.eq_iff_iff]
  simp
theorem tup_ne {a b : Addr} {ia ib : Array Value} {ns ms : List Int} {Q : Value → Shared → Prop} (ta : IsTup s.heap a ia) (ha : IntsAre ia.toList ns) (tb : IsTup s.heap b ib) (hb : IntsAre ib.toList ms) (hu : A.units + 64 < cLine)
    (h : Q (.bool (!decide (ns = ms))) s) : wpAny (model prog w) A (compareOp .NotEq (.ref a) (.ref b)) Q E s := by
  obtain ⟨oa, ga, ca, na, da⟩ := ta
  obtain ⟨ob, gb, cb, nb, db⟩ := tb
  have sh : ∀ ns : List Int, shaped (.tuple (ns.map PyData.int)) = true := fun ns => shaped_ints ns
  refine ne_dataH_same (.tuple ga ca da (readsAll_of_ints ha)) (.tuple gb cb db (readsAll_of_ints hb)) (sh ns) (sh ms) hu (by simp only [noMix]; exact noMix_ints ns ms) (by simp only [PySem.Spec.same]; rw [same_ints]; exact h)
theorem le_not (x y : Int) : decide (x ≤ y) = !decide (y < x) := by rw [Bool.eq_iff_iff]; simp
theorem cmp_ok {op : CmpOp} {a b : dm.V} {c : Bool} {va vb : Value} {Q : Value → Shared → Prop} (hr : Room 0 A) (e : cmpP dm op a b = some c) (ra : Rep P s.heap va (dm.dv a)) (rb : Rep P s.heap vb (dm.dv b))
    (h : Q (.bool c) s) : wpAny (model prog w) A (compareOp op va vb) Q E s := by
  have hu : A.units + 64 < cLine := by have := hr.units; lia
  cases b with
  | int b =>
    refine oI_i e ?_; clear e; rintro a rfl e
    (refine xE (Rep.inv ra) ?_; clear ra; intro zt zq; subst zq); (refine xE (Rep.inv rb) ?_; clear rb; intro zt zq; subst zq)
    cases op with
    | Eq => have q := dm.eq_ok _ _ _ e; subst q; exact PyProof.Rows.eq_int (by rw [show (dm.den a == dm.den b) = decide (dm.den a = dm.den b) from by rw [Bool.eq_iff_iff]; simp]; exact h)
    | NotEq =>
      refine xMap e ?_; clear e; rintro x hx rfl
      have q := dm.eq_ok _ _ _ hx; subst q
      exact PyProof.Rows.ne_int (by rw [show (dm.den a != dm.den b) = !decide (dm.den a = dm.den b) from by rw [Bool.eq_iff_iff]; simp]; exact h)
    | Lt => have q := dm.lt_ok _ _ _ e; subst q; exact PyProof.Rows.lt_int h
    | Gt => have q := dm.lt_ok _ _ _ e; subst q; exact PyProof.Rows.gt_int h
    | LtE =>
      refine xMap e ?_; clear e; rintro x hx rfl
      have q := dm.lt_ok _ _ _ hx; subst q
      exact PyProof.Rows.le_int (by rw [le_not]; exact h)
    | GtE =>
      refine xMap e ?_; clear e; rintro x hx rfl
      have q := dm.lt_ok _ _ _ hx; subst q
      exact PyProof.Rows.ge_int (by rw [le_not]; exact h)
    | _ => exact nS e
  | str b =>
    refine oS_i e ?_; clear e; rintro a rfl e
    (refine xE (Rep.inv ra) ?_; clear ra; intro zt zq; subst zq); (refine xE (Rep.inv rb) ?_; clear rb; intro zt zq; subst zq)
    cases op with
    | Eq => (have zz := Option.some.inj e; clear e; subst zz); exact PyProof.Rows.eq_str (by rw [beq_strOf, map_beq dm.chr_inj]; exact h)
    | NotEq => (have zz := Option.some.inj e; clear e; subst zz); exact PyProof.Rows.ne_str (by rw [bne, beq_strOf, map_beq dm.chr_inj]; exact h)
    | In => (have zz := Option.some.inj e; clear e; subst zz); exact SB.contains (by rw [in_list, inL_map dm.chr_inj]; exact h)
    | NotIn => (have zz := Option.some.inj e; clear e; subst zz); exact SB.notContains (by rw [in_list, inL_map dm.chr_inj]; exact h)
    | _ => exact nS e
  | bool b =>
    refine oB_i e ?_; clear e; rintro a rfl e
    (have zq : _ = _ := Rep.inv ra; clear ra; subst zq); (have zq : _ = _ := Rep.inv rb; clear rb; subst zq)
    refine opII_i e ?_ ?_
    · clear e; rintro rfl e; (have zz := Option.some.inj e; clear e; subst zz); exact is_bool h
    · clear e; rintro rfl e; (have zz := Option.some.inj e; clear e; subst zz); exact isnot_bool h
  | list ys =>
    refine oL_i e ?_; clear e; rintro xs rfl e
    refine opEN_i e ?_ fun _ e => nomatch e
    clear e; rintro rfl e
    refine xBind e ?_; clear e; intro ns hn e
    refine xMap e ?_; clear e; rintro ms hm rfl
    refine xEEAAA (Rep.inv ra) ?_; rintro _ _ rfl p1 l1 r1
    refine xEEAAA (Rep.inv rb) ?_; rintro _ _ rfl p2 l2 r2
    rw [intsV_den hn] at r1
    rw [intsV_den hm] at r2
    exact eq_intsK (by simpa using l1.list) (repL_ints r1) (by simpa using l2.list) (repL_ints r2) hu h
  | tuple ys =>
    refine oT_i e ?_; clear e; rintro xs rfl e
    refine opEN_i e (fun _ e => nomatch e) ?_
    clear e; rintro rfl e
    refine xBind e ?_; clear e; intro ns hn e
    refine xMap e ?_; clear e; rintro ms hm rfl
    refine xEEAAA (Rep.inv ra) ?_; rintro _ _ rfl p1 l1 r1
    refine xEEAAA (Rep.inv rb) ?_; rintro _ _ rfl p2 l2 r2
    rw [intsV_den hn] at r1
    rw [intsV_den hm] at r2
    exact tup_ne l1 (repL_ints r1) l2 (repL_ints r2) hu h
  | none =>
    (have zq : _ = _ := Rep.inv rb; clear rb; subst zq)
    have key : ∀ {c : Bool}, isN a = c → (va == Value.none) = c := by
      rintro c rfl
      cases a <;> cases ra <;> rfl
    refine opII_i e ?_ ?_
    · clear e; rintro rfl e; (have zz := Option.some.inj e; clear e; subst zz)
      exact is_none_gen (by rw [key rfl]; exact h)
    · clear e; rintro rfl e; (have zz := Option.some.inj e; clear e; subst zz)
      exact isnot_none_gen (by rw [key rfl]; exact h)
  | arr ys => exact nS e
noncomputable def unP (dm : Dom) (op : UnaryOp) (a : dm.V) : Option dm.V := oI a fun a => match op with
    | .USub => (dm.neg a).map .int
    | .Invert => ((dm.neg a).bind fun b => dm.bin .Sub b (dm.lit 1)).map .int
    | _ => none
theorem bitNot_eq (a : Int) : Builtin.bitNot a = -a - 1 := by unfold Builtin.bitNot; lia
theorem un_ok {op : UnaryOp} {a c : dm.V} {va : Value} {Q : Value → Shared → Prop} (e : unP dm op a = some c) (ra : Rep P s.heap va (dm.dv a))
    (h : ∀ v s', Post P s (dm.dv c) v s' → Q v s') : wpAny (model prog w) A (unaryOp op va) Q E s := by
  refine oI_i e ?_; clear e; rintro a rfl e
  (refine xE (Rep.inv ra) ?_; clear ra; intro zt zq; subst zq)
  have fin : ∀ {x : dm.D} {i : Int} {v s'}, dm.den x = i → (∀ v s', Post P s (dm.dv (.int x)) v s' → Q v s') → Post P s (.int i) v s' → Q v s' := fun e h z => h _ _ (by subst e; exact z)
  cases op with
  | USub =>
    refine xMap e ?_; clear e; rintro x hx rfl
    exact PyProof.Rows.neg_int (post_int (P := P) fun v s' => fin (dm.neg_ok _ _ hx) h)
  | Invert =>
    refine xMap e ?_; clear e; rintro x hx rfl
    refine xBind hx ?_; clear hx; intro b hb hx
    have q2 := dm.bin_ok _ _ _ _ hx
    rw [dm.neg_ok _ _ hb, dm.lit_den] at q2
    exact PyProof.Rows.invert_int (post_int (P := P) fun v s' => fin ((Option.some.inj q2).symm.trans (bitNot_eq _).symm) h)
  | _ => exact nS e
noncomputable def truthP (dm : Dom) : dm.V → Option Bool
  | .bool b => some b
  | .int d => (dm.eq d (dm.lit 0)).map (!·)
  | .str x => if x.length ≤ fitLen then some (!x.isEmpty) else none
  | .none => some false
  | .list xs => if xs.length ≤ fitLen then some (!xs.isEmpty) else none
  | .tuple _ => none
  | .arr _ => none
theorem truth_ok {a : dm.V} {c : Bool} {va : Value} {Q : Bool → Shared → Prop} (e : truthP dm a = some c) (ra : Rep P s.heap va (dm.dv a)) (h : ∀ s', Step none' s s' → Q c s') : wpAny (model prog w) A (truthy va) Q E s := by
  cases a <;> simp only [truthP] at e
  case none => (have zz := Option.some.inj e; clear e; subst zz); (have zq : _ = _ := Rep.inv ra; clear ra; subst zq); exact truthy_none (h s (.refl _ _))
  case bool b => (have zz := Option.some.inj e; clear e; subst zz); (have zq : _ = _ := Rep.inv ra; clear ra; subst zq); exact wpAny_truthy_bool (h s (.refl _ _))
  case int d =>
    (refine xE (Rep.inv ra) ?_; clear ra; intro zt zq; subst zq)
    refine xMap e ?_; rintro x hx rfl
    have q := dm.eq_ok _ _ _ hx
    rw [dm.lit_den] at q
    subst q
    refine PyProof.Rows.truthy_int ?_
    rw [show (dm.den d != 0) = !decide (dm.den d = 0) from by rw [Bool.eq_iff_iff]; simp]
    exact h s (.refl _ _)
  case str x =>
    split at e
    · rename_i hz
      (have zz := Option.some.inj e; clear e; subst zz); (refine xE (Rep.inv ra) ?_; clear ra; intro zt zq; subst zq)
      have hl : ((strOf (x.map dm.chr)).length : Int) = x.length := by rw [strOf_length, List.length_map]
      refine SBL.truthy (by rw [hl]; unfold fitLen at hz; lia) ?_
      rw [hl, show ((x.length : Int) != 0) = !x.isEmpty from by cases x <;> simp; lia]
      exact h _ (.toks _)
    · exact nS e
  case list xs =>
    split at e
    · rename_i hz
      (have zz := Option.some.inj e; clear e; subst zz)
      have ra' : Rep P s.heap va (.list (PV.denL dm.den dm.chr xs)) := ra
      cases ra' with
      | list p l r =>
        rename_i a items
        have hl := r.length
        rw [Array.length_toList, denL_length] at hl
        refine wpAny_truthy_list l.list (by unfold fitLen at hz; lia) ?_
        have q : ∀ tk, Q (!xs.isEmpty) { s with toks := tk } := fun tk => h _ (.toks tk)
        have e : (!items.isEmpty) = !xs.isEmpty := by
          have h1 : items.isEmpty = xs.isEmpty := by
            rw [Bool.eq_iff_iff, Array.isEmpty_iff_size_eq_zero, hl]
            cases xs <;> simp
          rw [h1]
        rw [e]; exact q _
    · exact nS e
  case tuple xs => exact nS e
  case arr xs => exact nS e
end
theorem size_of_repL {P : Addr → Prop} {h : Heap} {dm : Dom} {items : Array Value} {xs : List dm.V} (r : RepL P h items.toList (PV.denL dm.den dm.chr xs)) : items.size = xs.length := by
  have := r.length
  rw [Array.length_toList, denL_length] at this
  exact this
theorem repL_intItems {P : Addr → Prop} {h : Heap} {vs : List Value} {ns : List Int} (r : RepL P h vs (ns.map PV.int)) : ∃ l : List (Int × Tok), vs = l.map (fun p => Value.int p.1 p.2) ∧ l.map (·.1) = ns := by
  induction ns generalizing vs with
  | nil => exact ⟨[], r.c0, rfl⟩
  | cons n ns ih => exact r.cc fun v us e a b => a.inv.elim fun t q => (ih b).elim fun l z => ⟨(n, t) :: l, by subst e; subst q; rw [z.1]; rfl, congrArg (n :: ·) z.2⟩
theorem repL_items {P : Addr → Prop} {h : Heap} {items : Array Value} {ns : List Int} (r : RepL P h items.toList (ns.map PV.int)) : ∃ xs : Array (Int × Tok), items = intItems xs ∧ xs.toList.map (·.1) = ns := by
  refine xEA (repL_intItems r) ?_; intro l e1 e2
  refine ⟨l.toArray, ?_, by simpa using e2⟩
  apply Array.ext'
  rw [e1]; simp [intItems]
theorem numAt_eq (xs : Array (Int × Tok)) (i : Nat) : numAt xs i = ((xs.toList.map (·.1))[i]?).getD 0 := by
  unfold numAt; simp
theorem preSum_eq (ns : List Int) : ∀ n, n ≤ ns.length → preSum (fun i => (ns[i]?).getD 0) n = (ns.take n).sum
  | 0, _ => by simp [preSum]
  | n + 1, h => by
    rw [preSum, preSum_eq ns n (by lia), List.take_add_one, List.sum_append]
    rw [List.getElem?_eq_getElem (by lia)]
    simp
theorem argBest_eq (ns : List Int) : ∀ k, k < ns.length → (ns[argBest (fun i j => decide ((ns[i]?).getD 0 > (ns[j]?).getD 0)) k]?).getD 0 = ((ns.drop 1).take k).foldl (fun m i => if m < i then i else m) (ns.headD 0)
  | 0, h => by
    cases ns with
    | nil => simp at h
    | cons a r => simp [argBest]
  | k + 1, h => by
    have ih := argBest_eq ns k (by lia)
    have hg := List.getElem?_eq_getElem (show k + 1 < ns.length from h)
    rw [List.take_add_one, List.foldl_append, ← ih, List.getElem?_drop, show 1 + k = k + 1 from Nat.add_comm 1 k, hg]
    rw [argBest]
    by_cases hc : (ns[k + 1]?).getD 0 > (ns[argBest (fun i j => decide ((ns[i]?).getD 0 > (ns[j]?).getD 0)) k]?).getD 0
    · rw [if_pos (decide_eq_true hc), hg]
      rw [hg] at hc
      exact (if_pos hc).symm
    · rw [if_neg (by simpa using hc)]
      rw [hg] at hc
      exact (if_neg hc).symm
theorem argBest_le (bt : Nat → Nat → Bool) : ∀ k, argBest bt k ≤ k
  | 0 => Nat.le_refl _
  | k + 1 => by
    rw [argBest]; split
    · exact Nat.le_refl _
    · exact Nat.le_succ_of_le (argBest_le bt k)
section
variable {prog : Program} {w : World} {A : Around} {E : Value → Shared → Prop} {s : Shared} {P : Addr → Prop} {dm : Dom}
noncomputable def lenP (dm : Dom) (a : dm.V) : Option dm.V := match a with
  | .str x => if x.length ≤ fitLen then some (.int (dm.lit x.length)) else none
  | .list x => if x.length ≤ fitLen then some (.int (dm.lit x.length)) else none
  | .arr x => if x.length ≤ fitLen then some (.int (dm.lit x.length)) else none
  | _ => none
theorem lit_post {Q : Value → Shared → Prop} {i : Int} {t tk : Tok} (h : ∀ v s', Post P s (dm.dv (.int (dm.lit i))) v s' → Q v s') : Q (.int i t) { s with toks := tk } :=
  h _ _ ⟨.toks tk, by show Rep _ _ _ (.int (dm.den (dm.lit i))); rw [dm.lit_den]; exact .int i t⟩
theorem len_ok {a c : dm.V} {va : Value} {Q : Value → Shared → Prop} (e : lenP dm a = some c) (ra : Rep P s.heap va (dm.dv a)) (h : ∀ v s', Post P s (dm.dv c) v s' → Q v s') :
    wpAny (model prog w) A (call (.builtin "len") [va]) Q E s := by
  cases a with
  | str x =>
    refine ifS e fun hz e => ?_
    (have zz := Option.some.inj e; clear e; subst zz); (refine xE (Rep.inv ra) ?_; clear ra; intro zt zq; subst zq)
    have hl : ((strOf (x.map dm.chr)).length : Int) = x.length := by rw [strOf_length, List.length_map]
    refine SBL.len (by rw [hl]; unfold fitLen at hz; lia) ?_
    rw [hl]; exact lit_post h
  | list x =>
    refine ifS e fun hz e => ?_
    (have zz := Option.some.inj e; clear e; subst zz)
    refine xEEAAA (Rep.inv ra) ?_; rintro _ _ rfl p l r
    refine PyProof.Rows.len_list l.list (by rw [size_of_repL r]; unfold fitLen at hz; lia) ?_
    rw [size_of_repL r]; exact lit_post h
  | arr x =>
    refine ifS e fun hz e => ?_
    (have zz := Option.some.inj e; clear e; subst zz)
    refine xEEAAA (Rep.inv ra) ?_; rintro _ _ rfl p l r
    refine PyProof.Rows.len_list l (by rw [size_of_repL r]; unfold fitLen at hz; lia) ?_
    rw [size_of_repL r]; exact lit_post h
  | _ => exact nS e
noncomputable def absP (dm : Dom) (a : dm.V) : Option dm.V := oI a fun d => (dm.lt d (dm.lit 0)).bind fun b => if b then (dm.neg d).map .int else some (.int d)
theorem abs_ok {a c : dm.V} {va : Value} {Q : Value → Shared → Prop} (e : absP dm a = some c) (ra : Rep P s.heap va (dm.dv a)) (h : ∀ v s', Post P s (dm.dv c) v s' → Q v s') :
    wpAny (model prog w) A (call (.builtin "abs") [va]) Q E s := by
  refine oI_i e ?_; clear e; rintro d rfl e
  refine xBind e ?_; clear e; intro b hb e
  have q := dm.lt_ok _ _ _ hb
  rw [dm.lit_den] at q
  (refine xE (Rep.inv ra) ?_; clear ra; intro zt zq; subst zq)
  refine call_abs_int fun u tk => ?_
  cases b with
  | true =>
    refine xMap e ?_; clear e; rintro x hx rfl
    rw [if_pos (of_decide_eq_true q.symm), ← dm.neg_ok _ _ hx]
    exact h _ _ ⟨.toks tk, .int _ u⟩
  | false =>
    (have zz := Option.some.inj e; clear e; subst zz)
    rw [if_neg (of_decide_eq_false q.symm)]
    exact h _ _ ⟨.toks tk, .int _ u⟩
noncomputable def divmodP (dm : Dom) (a b : dm.V) : Option dm.V := oI a fun a => oI b fun b => (dm.bin .FloorDiv a b).bind fun q => (dm.bin .Mod a b).map fun r => .tuple [.int q, .int r]
theorem divmod_ok {a b c : dm.V} {va vb : Value} {Q : Value → Shared → Prop} (hf : ∀ c, s.heap.objs.size ≤ c → P c) (e : divmodP dm a b = some c) (ra : Rep P s.heap va (dm.dv a)) (rb : Rep P s.heap vb (dm.dv b)) (h : ∀ v s', Post P s (dm.dv c) v s' → Q v s') :
    wpAny (model prog w) A (call (.builtin "divmod") [va, vb]) Q E s := by
  refine oI_i e ?_; clear e; rintro a rfl e
  refine oI_i e ?_; clear e; rintro b rfl e
  refine xBind e ?_; clear e; intro q hq e
  refine xMap e ?_; clear e; rintro r hr rfl
  have h1 := ifN (dm.bin_ok _ _ _ _ hq)
  have h2 := ifN (dm.bin_ok _ _ _ _ hr)
  (refine xE (Rep.inv ra) ?_; clear ra; intro zt zq; subst zq); (refine xE (Rep.inv rb) ?_; clear rb; intro zt zq; subst zq)
  refine divmod_int h2.1 ?_ (.inl ?_)
  · rw [Option.some.inj h1.2, Option.some.inj h2.2]
    refine h _ _ ⟨.push, .tuple (items := #[_, _]) (hf _ (Nat.le_refl _)) ⟨_, Heap.get?_push_size _ rfl, rfl, _, rfl⟩ (.cons (.int _ _) (.cons (.int _ _) .nil))⟩
  · cases q : Builtin.divisionGoesByPylong (dm.den a) (dm.den b) with
    | false => rfl
    | true => exact absurd (.inr q) h1.1
noncomputable def blP (dm : Dom) (a : dm.V) : Option dm.V := oI a fun d => (dm.bl d).map .int
theorem bl_ok {a c : dm.V} {va : Value} {Q : Value → Shared → Prop} (e : blP dm a = some c) (ra : Rep P s.heap va (dm.dv a)) (h : ∀ v s', Post P s (dm.dv c) v s' → Q v s') :
    s.TypeIs va "int" ∧ wpAny (model prog w) A (call (.builtin "int.bit_length") [va]) Q E s := by
  refine oI_i e ?_; clear e; rintro d rfl e
  refine xMap e ?_; clear e; rintro x hx rfl
  have q := dm.bl_ok _ _ hx
  (refine xE (Rep.inv ra) ?_; clear ra; intro zt zq; subst zq)
  refine ⟨typeIs_int _ _ _, call_int_bit_length ?_⟩
  rw [← q]
  exact h _ _ ⟨.toks _, .int _ _⟩
noncomputable def sumGo (dm : Dom) (acc : dm.D) : List dm.V → Option dm.D
  | [] => some acc
  | x :: r => oI x fun d => (dm.bin .Add acc d).bind fun a => sumGo dm a r
theorem sumGo_ok {xs : List dm.V} {acc d : dm.D} (e : sumGo dm acc xs = some d) : ∃ ns : List Int, PV.denL dm.den dm.chr xs = ns.map PV.int ∧ dm.den d = dm.den acc + ns.sum := by
  induction xs generalizing acc with
  | nil => (have zz := Option.some.inj e; clear e; subst zz); exact ⟨[], rfl, (Int.add_zero _).symm⟩
  | cons x r ih =>
    refine oI_i e ?_; clear e; rintro i rfl e
    refine xBind e ?_; clear e; intro a ha e
    refine xEA (ih e) ?_; intro ns e1 e2
    exact ⟨dm.den i :: ns, by rw [PV.denL, e1, PV.den, List.map_cons], by rw [e2, ← Option.some.inj (dm.bin_ok _ _ _ _ ha), List.sum_cons, Int.add_assoc]⟩
noncomputable def sumP (dm : Dom) (a : dm.V) : Option dm.V := oL a fun xs => (sumGo dm (dm.lit 0) xs).map .int
theorem sum_ok {a c : dm.V} {va : Value} {Q : Value → Shared → Prop} (hh : A.handled = none) (e : sumP dm a = some c) (ra : Rep P s.heap va (dm.dv a)) (h : ∀ v s', Post P s (dm.dv c) v s' → Q v s') :
    wpAny (model prog w) A (call (.builtin "sum") [va]) Q E s := by
  refine oL_i e ?_; clear e; rintro xs rfl e
  refine xMap e ?_; clear e; rintro d hd rfl
  refine xEA (sumGo_ok hd) ?_; intro ns e1 e2
  rw [dm.lit_den, Int.zero_add] at e2
  refine xEEAAA (Rep.inv ra) ?_; rintro _ _ rfl p l r
  rw [e1] at r
  refine xEA (repL_items r) ?_; rintro ys rfl hy
  refine wpAny_mono (wpAny_grow (R := fun v _ => ∃ t, v = .int (dm.den d) t) (sum_intListG hh l.list fun h' tk t' hk => ⟨⟨h', tk, rfl, hk⟩, t', ?_⟩)) (fun v s' q => ?_) fun _ _ x => x
  · have e3 : numAt ys = fun i => (ns[i]?).getD 0 := by funext i; rw [numAt_eq, hy]
    have e4 : ys.size = ns.length := by rw [← hy, List.length_map]; rfl
    rw [e3, e4, preSum_eq ns _ (Nat.le_refl _), List.take_length, e2]
  · obtain ⟨q1, t, rfl⟩ := q
    exact h _ _ ⟨q1, .int _ t⟩
noncomputable def maxGo (dm : Dom) (m : dm.D) : List dm.V → Option dm.D
  | [] => some m
  | x :: r => oI x fun d => (dm.lt m d).bind fun b => maxGo dm (if b then d else m) r
theorem maxGo_ok {xs : List dm.V} {m d : dm.D} (e : maxGo dm m xs = some d) : ∃ ns : List Int, PV.denL dm.den dm.chr xs = ns.map PV.int ∧ dm.den d = ns.foldl (fun m i => if m < i then i else m) (dm.den m) := by
  induction xs generalizing m with
  | nil => (have zz := Option.some.inj e; clear e; subst zz); exact ⟨[], rfl, rfl⟩
  | cons x r ih =>
    refine oI_i e ?_; clear e; rintro i rfl e
    refine xBind e ?_; clear e; intro b hb e
    refine xEA (ih e) ?_; intro ns e1 e2
    refine ⟨dm.den i :: ns, by rw [PV.denL, e1, PV.den, List.map_cons], ?_⟩
    rw [e2, List.foldl_cons, dm.lt_ok _ _ _ hb]
    congr 1
    by_cases q : dm.den m < dm.den i
    · rw [if_pos q, decide_eq_true q]; rfl
    · rw [if_neg q, decide_eq_false q]; rfl
noncomputable def maxP (dm : Dom) (a : dm.V) : Option dm.V := oL a fun l => oC l fun x xs => oI x fun d => (maxGo dm d xs).map .int
theorem max_ok {a c : dm.V} {va : Value} {Q : Value → Shared → Prop} (hh : A.handled = none) (e : maxP dm a = some c) (ra : Rep P s.heap va (dm.dv a)) (h : ∀ v s', Post P s (dm.dv c) v s' → Q v s') :
    wpAny (model prog w) A (call (.builtin "max") [va]) Q E s := by
  refine oL_i e ?_; clear e; rintro l rfl e
  refine oC_i e ?_; clear e; rintro x xs rfl e
  refine oI_i e ?_; clear e; rintro d0 rfl e
  refine xMap e ?_; clear e; rintro d hd rfl
  refine xEA (maxGo_ok hd) ?_; intro ns e1 e2
  refine xEEAAA (Rep.inv ra) ?_; rintro _ _ rfl p l r
  rw [show PV.denL dm.den dm.chr (PV.int d0 :: xs) = PV.int (dm.den d0) :: PV.denL dm.den dm.chr xs from rfl, e1] at r
  refine xEA (repL_items (ns := dm.den d0 :: ns) r) ?_; rintro ys rfl hy
  have hsz : ys.size = ns.length + 1 := by
    have := congrArg List.length hy
    rwa [List.length_map, List.length_cons] at this
  have e3 : numAt ys = fun i => ((dm.den d0 :: ns)[i]?).getD 0 := by funext i; rw [numAt_eq, hy]
  refine wpAny_mono (wpAny_grow (R := fun v _ => ∃ t, v = .int (dm.den d) t) (max_intList hh l.list (by lia) fun v h' tk hv hk => ⟨⟨h', tk, rfl, hk⟩, ?_⟩)) (fun v s' q => ?_) fun _ _ x => x
  · refine xE (intItems_at hv) ?_; rintro t rfl
    refine ⟨t, ?_⟩
    have key := argBest_eq (dm.den d0 :: ns) ns.length (Nat.lt_succ_self _)
    rw [List.drop_succ_cons, List.drop_zero, List.take_length, List.headD_cons, ← e2] at key
    rw [← key, e3, hsz, Nat.add_sub_cancel]
  · obtain ⟨q1, t, rfl⟩ := q
    exact h _ _ ⟨q1, .int _ t⟩
end
noncomputable def strsV {dm : Dom} : List dm.V → Option (List (List Nat))
  | [] => some []
  | x :: r => oS x fun x => (strsV r).map (x :: ·)
theorem strsV_den {dm : Dom} {xs : List dm.V} {ys : List (List Nat)} (e : strsV xs = some ys) : PV.denL dm.den dm.chr xs = ys.map fun y => PV.str (y.map dm.chr) := by
  induction xs generalizing ys with
  | nil => (have zz := Option.some.inj e; clear e; subst zz); rfl
  | cons x r ih =>
    refine oS_i e ?_; clear e; rintro x rfl e
    refine xMap e ?_; clear e; rintro ms hm rfl
    rw [PV.denL, ih hm, PV.den, List.map_cons]
theorem repL_strs {P : Addr → Prop} {h : Heap} {ys : List (List Nat)} {vs : List Value} (r : RepL P h vs (ys.map PV.str)) : StrsAre vs (ys.map strOf) := by
  induction ys generalizing vs with
  | nil => rw [r.c0]; exact .nil
  | cons n ns ih => exact r.cc fun v us e a b => a.inv.elim fun t q => by subst e; subst q; exact .cons _ t (ih b)
noncomputable def dmStr (dm : Dom) (x : List Nat) : dm.V := .str x
theorem denL_strs {dm : Dom} (ys : List (List Nat)) : PV.denL dm.den dm.chr (ys.map (dmStr dm)) = (ys.map (List.map dm.chr)).map PV.str := by
  rw [PV.denL_eq, List.map_map, List.map_map]; rfl
inductive Mt | bitlen | starts | ends | find | find4 | split | join | index
noncomputable def Mt.nm : Mt → Str
  | .bitlen => "bit_length" | .starts => "startswith" | .ends => "endswith" | .find => "find" | .find4 => "find" | .split => "split" | .join => "join" | .index => "index"
noncomputable def Mt.id : Mt → String
  | .bitlen => "int.bit_length" | .starts => "str.startswith" | .ends => "str.endswith" | .find => "str.find" | .find4 => "str.find" | .split => "str.split" | .join => "str.join" | .index => "list.index"
noncomputable def Mt.ty : Mt → String
  | .bitlen => "int" | .index => "list" | _ => "str"
theorem Mt.plain : ∀ m : Mt, PlainAttrs m.ty
  | .bitlen => F.plainAttrs_int
  | .starts => F.plainAttrs_str
  | .ends => F.plainAttrs_str
  | .find => F.plainAttrs_str
  | .find4 => F.plainAttrs_str
  | .split => F.plainAttrs_str
  | .join => F.plainAttrs_str
  | .index => F.plainAttrs_list
theorem Mt.slot : ∀ m : Mt, Slot m.ty m.nm m.id
  | .bitlen => F.slot_int_bit_length
  | .starts => F.slot_str_startswith
  | .ends => F.slot_str_endswith
  | .find => F.slot_str_find
  | .find4 => F.slot_str_find
  | .split => F.slot_str_split
  | .join => F.slot_str_join
  | .index => F.slot_list_index
theorem Mt.tof : ∀ m : Mt, typeOf (.builtin m.id) = pure (.type "method_descriptor")
  | .bitlen => F.type_int_bit_length
  | .starts => F.type_str_startswith
  | .ends => F.type_str_endswith
  | .find => F.type_str_find
  | .find4 => F.type_str_find
  | .split => F.type_str_split
  | .join => F.type_str_join
  | .index => F.type_list_index
noncomputable def joinOkL (x : List Nat) (ys : List (List Nat)) : Bool := decide ((ys.map List.length).sum + ys.length * x.length ≤ fitLen)
noncomputable def splitOkL (x y : List Nat) : Bool := !y.isEmpty && decide (x.length + 2 ≤ fitLen)
noncomputable def idxStr (y : List Nat) : List (List Nat) → Option Nat
  | [] => none
  | x :: r => if x == y then some 0 else (idxStr y r).map (· + 1)
theorem idxStr_ok {y : List Nat} : ∀ {xs : List (List Nat)} {j : Nat}, idxStr y xs = some j → j < xs.length ∧ xs[j]? = some y ∧ ∀ m, m < j → ∀ z, xs[m]? = some z → z ≠ y
  | [], j, e => by exact nS e
  | x :: r, j, e => by
    unfold idxStr at e
    by_cases q : x = y
    · rw [if_pos (by simpa using q)] at e
      (have zz := Option.some.inj e; clear e; subst zz)
      exact ⟨by simp, by simp [q], fun m hm => absurd hm (Nat.not_lt_zero _)⟩
    · rw [if_neg (by simpa using q)] at e
      refine xMap e ?_; clear e; rintro k hk rfl
      refine xAA (idxStr_ok hk) ?_; intro a b c
      refine ⟨by simpa using a, by simpa using b, fun m hm z hz => ?_⟩
      cases m with
      | zero => simp at hz; exact hz ▸ q
      | succ m => exact c m (by lia) z (by simpa using hz)
theorem idxStr_map {c : Nat → Nat} (hc : ∀ a b, c a = c b → a = b) (y : List Nat) : ∀ zs : List (List Nat), idxStr (y.map c) (zs.map (List.map c)) = idxStr y zs
  | [] => rfl
  | x :: r => by
    rw [List.map_cons, idxStr, idxStr, map_beq hc, idxStr_map hc y r]
noncomputable def oSS {D β : Type} (o : PV D) (as : List (PV D)) (k : List Nat → List Nat → Option β) : Option β := oS o fun x => o1 as fun y => oS y (k x)
noncomputable def methP (dm : Dom) (m : Mt) (o : dm.V) (as : List dm.V) : Option dm.V := match m with
  | .bitlen => o0 as (blP dm o)
  | .starts => oSS o as fun x y => some (.bool (startsL x y))
  | .ends => oSS o as fun x y => some (.bool (endsL x y))
  | .find => oSS o as fun x y => some (.int (dm.lit (findL x y)))
  | .find4 => oS o fun x => oC as fun y as => oS y fun y => o2 as fun i j => oI i fun i => oI j fun j => (dm.val i).bind fun i => (dm.val j).map fun j => .int (dm.lit (find4L x y i j))
  | .split => oSS o as fun x y => if splitOkL x y then some (.list ((splitL x y).map (dmStr dm))) else none
  | .join => oS o fun x => o1 as fun l => oL l fun ys => (strsV ys).bind fun ys => if joinOkL x ys then some (.str (gluedL x ys)) else none
  | .index => oL o fun xs => o1 as fun y => oS y fun y => (strsV xs).bind fun xs => if xs.length ≤ fitLen then (idxStr y xs).map fun (j : Nat) => PV.int (dm.lit (j : Int)) else none
section
variable {prog : Program} {w : World} {A : Around} {E : Value → Shared → Prop} {s : Shared} {P : Addr → Prop} {dm : Dom}
theorem repL_strValues {h : Heap} : ∀ {l : List (Str × Tok)} {ys : List (List Nat)}, l.map (·.1) = ys.map strOf → RepL P h (strValues l) (ys.map PV.str)
  | [], [], _ => .nil
  | [], y :: ys, e => by cases e
  | p :: l, [], e => by cases e
  | p :: l, y :: ys, e => by
    rw [List.map_cons, List.map_cons] at e
    injection e with e1 e2
    obtain ⟨x, t⟩ := p
    simp only at e1
    subst e1
    exact .cons (.str y t) (repL_strValues e2)
theorem split_call {x y : List Nat} {t u : Tok} {Q : Value → Shared → Prop} (hz : splitOkL x y = true)
    (h : ∀ l k, RepL (fun _ => False) s.heap l ((splitL x y).map PV.str) → Q (.ref s.heap.objs.size) { s with heap := s.heap.push { cls := .type "list", data := .seq l.toArray }, toks := k }) :
    wpAny (model prog w) A (call (.builtin "str.split") [.str (strOf x) t, .str (strOf y) u]) Q E s := by
  unfold splitOkL fitLen at hz
  rw [Bool.and_eq_true, decide_eq_true_eq] at hz
  have hx : (strOf x).length = x.length := strOf_length x
  have hy : ((strOf y).length == 0) = false := by
    rw [strOf_length]
    cases y with
    | nil => simp at hz
    | cons a r => simp
  have hsz : (strOf x).length + 2 ≤ sizeLine := by rw [hx, sizeLine_eq]; exact hz.2
  have h' : ∀ l k, l.map (·.1) = Txt.split (strOf x) (strOf y) → Q (.ref s.heap.objs.size) { s with heap := s.heap.push { cls := .type "list", data := .seq (strValues l).toArray }, toks := k } :=
    fun l k e => h _ k (repL_strValues (e.trans (split_list x y)))
  have hn : (partsBetween (strOf x) (occurrences (strOf x) (strOf y) 0 (strOf x).length ((strOf x).length + 1)) (strOf y).length).length ≤ sizeLine := by
    have e1 := StrLaws.occ_length_le (strOf x) (strOf y) 0 (strOf x).length ((strOf x).length + 1)
    rw [length_partsBetween]; lia
  cases h1 : (decide ((strOf x).length < (strOf y).length) || decide (strKind (strOf x) < strKind (strOf y)))
  · cases hf : (occurrences (strOf x) (strOf y) 0 (strOf x).length ((strOf x).length + 1)).isEmpty
    · refine call_meets F.slot_str_split (typeIs_str _ _ _) F.entry_str_split (F.args_str_split_2 _ _) (meets_str_split_sep (strOf x) (strOf y) t u h1 hy hf (by lia) hn) ?_
      show wants Q E _ { s with toks := _, heap := s.heap.push { cls := .type "list", data := .seq (strsFrom s.toks (partsBetween (strOf x) (occurrences (strOf x) (strOf y) 0 (strOf x).length ((strOf x).length + 1)) (strOf y).length)).toArray } }
      rw [strsFrom_eq]
      exact h' (numbered s.toks _) _ ((numbered_texts _ _).trans ((if_neg (ne_true_of_eq_false h1)).trans (if_neg (ne_true_of_eq_false hf))).symm)
    · exact call_meets F.slot_str_split (typeIs_str _ _ _) F.entry_str_split (F.args_str_split_2 _ _) (meets_str_split_not_found (strOf x) (strOf y) t u h1 hy hf)
        (h' [(strOf x, t)] s.toks ((if_neg (ne_true_of_eq_false h1)).trans (if_pos hf)).symm)
  · exact call_meets F.slot_str_split (typeIs_str _ _ _) F.entry_str_split (F.args_str_split_2 _ _) (meets_str_split_cannot_occur (strOf x) (strOf y) t u h1)
      (h' [(strOf x, t)] s.toks (if_pos h1).symm)
theorem index_call {l : Addr} {items : Array Value} {xs : List (List Nat)} {y : List Nat} {u : Tok} {j : Nat} {Q : Value → Shared → Prop} (hl : s.heap.IsList l items) (hi : StrsAre items.toList (xs.map strOf)) (hz : xs.length ≤ 16777216)
    (hj : idxStr y xs = some j) (h : Q (.int (j : Int) s.toks) { s with toks := s.toks + 1 }) : wpAny (model prog w) A (call (.builtin "list.index") [.ref l, .str (strOf y) u]) Q E s := by
  obtain ⟨⟨cls, dd, data, sl⟩, ho, hc, n, hd⟩ := id hl
  simp only at hc hd
  subst hc hd
  refine xAA (idxStr_ok hj) ?_; intro j1 j2 j3
  have get : ∀ {vs : List Value} {zs : List (List Nat)}, StrsAre vs (zs.map strOf) → vs.length = zs.length ∧ ∀ i (h : i < vs.length), ∃ z t, zs[i]? = some z ∧ vs[i] = .str (strOf z) t := by
    intro vs zs
    induction zs generalizing vs with
    | nil => intro h; cases h; exact ⟨rfl, fun i h => absurd h (Nat.not_lt_zero _)⟩
    | cons z zs ih =>
      intro h
      rw [List.map_cons] at h
      cases h with
      | cons _ t r =>
      refine xA (ih r) ?_; intro a b
      refine ⟨by simp [a], fun i hi => ?_⟩
      cases i with
      | zero => exact ⟨z, t, rfl, rfl⟩
      | succ i =>
        refine xEEA (b i (by simpa using hi)) ?_; intro z' t' e1 e2
        exact ⟨z', t', by simpa using e1, by simpa using e2⟩
  refine xA (get hi) ?_; intro len at'
  rw [Array.length_toList] at len
  let isS : Value → Bool := fun v => match v with | .str z _ => z == strOf y | _ => false
  have eqs : ∀ v, v ∈ items → EqAt A.in1 s v (.str (strOf y) u) (isS v) := fun v hv => by
    obtain ⟨i, hi', rfl⟩ := Array.mem_iff_getElem.mp hv
    refine xEEA (at' i (by simpa using hi')) ?_; intro z t _ e2
    have e3 : items[i] = .str (strOf z) t := by simpa using e2
    rw [e3]
    exact EqAt.str_str (strOf z) t (strOf y) u
  refine call_meets PySem.F.slot_list_index ⟨_, ho, rfl⟩ PySem.F.entry_list_index (PySem.F.args_list_index_2 _ _)
    (list_indexAt l items n dd sl (.str (strOf y) u) isS j (by lia) (by lia) ?_ ?_) ⟨ho, eqs, h⟩
  · refine xEEA (at' j (by rw [Array.length_toList]; lia)) ?_; intro z t e1 e2
    have e3 : items[j] = .str (strOf z) t := by simpa using e2
    rw [j2] at e1; (have zz := Option.some.inj e1; clear e1; subst zz)
    rw [e3]
    show (strOf y == strOf y) = true
    simp
  · intro m hm hlt
    refine xEEA (at' m (by rw [Array.length_toList]; exact hm)) ?_; intro z t e1 e2
    have e3 : items[m] = .str (strOf z) t := by simpa using e2
    rw [e3]
    show (strOf z == strOf y) = false
    rw [beq_strOf]
    simpa using j3 m hlt z e1
theorem oSS_r {β : Type} {k : List Nat → List Nat → Option β} {b : β} {o : dm.V} {as : List dm.V} {h : Heap} {ov : Value} {vs : List Value} {G : Value → List Value → Prop} (e : oSS o as k = some b) (ra : Rep P h ov (dm.dv o)) (rs : RepL P h vs (dm.dvs as))
    (g : ∀ x y t u, o = .str x → as = [.str y] → k x y = some b → G (.str (strOf (x.map dm.chr)) t) [.str (strOf (y.map dm.chr)) u]) : G ov vs := by
  refine oS_i e ?_; clear e; rintro x rfl e
  refine o1_i e ?_; clear e; rintro y rfl e
  refine oS_i e ?_; clear e; rintro y rfl e
  (refine xE (Rep.inv ra) ?_; clear ra; intro zt zq; subst zq); cases rs with
  | cons r1 r2 => (refine xE (Rep.inv r1) ?_; clear r1; intro zt zq; subst zq); cases r2; exact g _ _ _ _ rfl rfl e
theorem meth_ok {m : Mt} {o c : dm.V} {as : List dm.V} {ov : Value} {vs : List Value} {Q : Value → Shared → Prop} (hf : ∀ c, s.heap.objs.size ≤ c → P c) (e : methP dm m o as = some c) (ra : Rep P s.heap ov (dm.dv o)) (rs : RepL P s.heap vs (dm.dvs as))
    (h : ∀ v s', Post P s (dm.dv c) v s' → Q v s') : wpAny (model prog w) A (call (.builtin m.id) (ov :: vs)) Q E s := by
  cases m with
  | bitlen =>
    refine o0_i e ?_; clear e; rintro rfl e
    cases rs; exact (bl_ok e ra h).2
  | starts =>
    refine oSS_r (G := fun ov vs => wpAny _ _ (call _ (ov :: vs)) _ _ _) e ra rs fun x y t u _ _ e => ?_; (have zz := Option.some.inj e; clear e; subst zz)
    exact SC.startswith (by rw [starts_list, startsL_map dm.chr_inj]; exact post_bool h)
  | ends =>
    refine oSS_r (G := fun ov vs => wpAny _ _ (call _ (ov :: vs)) _ _ _) e ra rs fun x y t u _ _ e => ?_; (have zz := Option.some.inj e; clear e; subst zz)
    exact SC.endswith (by rw [ends_list, endsL_map dm.chr_inj]; exact post_bool h)
  | find =>
    refine oSS_r (G := fun ov vs => wpAny _ _ (call _ (ov :: vs)) _ _ _) e ra rs fun x y t u _ _ e => ?_; (have zz := Option.some.inj e; clear e; subst zz)
    exact SC.find (by rw [find_list, findL_map dm.chr_inj]; exact lit_post h)
  | find4 =>
    refine oS_i e ?_; clear e; rintro x rfl e
    refine oC_i e ?_; clear e; rintro y as rfl e
    refine oS_i e ?_; clear e; rintro y rfl e
    refine o2_i e ?_; clear e; rintro i j rfl e
    refine oI_i e ?_; clear e; rintro i rfl e
    refine oI_i e ?_; clear e; rintro j rfl e
    refine xBind e fun i' hi e => ?_
    refine xMap e ?_; clear e; rintro j' hj rfl
    have ei := dm.val_den _ _ hi
    have ej := dm.val_den _ _ hj
    (refine xE (Rep.inv ra) ?_; clear ra; intro zt zq; subst zq); cases rs with
    | cons r1 r2 => (refine xE (Rep.inv r1) ?_; clear r1; intro zt zq; subst zq); cases r2 with
      | cons r2 r3 => (refine xE (Rep.inv r2) ?_; clear r2; intro zt zq; subst zq); cases r3 with
        | cons r3 r4 => (refine xE (Rep.inv r3) ?_; clear r3; intro zt zq; subst zq); cases r4; exact call_gives F.slot_str_find (typeIs_str _ _ _) F.entry_str_find (F.args_str_find_4 _ _ _ _) (gives_find4 _ _ _ _ _ _ _ _) (by
            rw [strOf_length, occ_list, ei, ej]
            refine lit_post (P := P) (dm := dm) (i := find4L (x.map dm.chr) (y.map dm.chr) i' j') ?_
            rw [find4L_map dm.chr_inj]; exact h)
  | split =>
    refine oSS_r (G := fun ov vs => wpAny _ _ (call _ (ov :: vs)) _ _ _) e ra rs fun x y t u _ _ e => ?_
    refine ifS e fun hz e => ?_; (have zz := Option.some.inj e; clear e; subst zz)
    refine split_call (by unfold splitOkL at hz ⊢; rw [List.length_map, List.isEmpty_map]; exact hz) fun l k r => h _ _ ⟨.push, ?_⟩
    show Rep P _ _ (.list (PV.denL dm.den dm.chr _))
    rw [denL_strs]
    exact .list (hf _ (Nat.le_refl _)) ⟨_, Heap.get?_push_size _ rfl⟩ (by
      rw [List.toList_toArray, ← splitL_map dm.chr_inj]
      exact r.mono fun b o q _ _ => q.elim)
  | join =>
    refine oS_i e ?_; clear e; rintro x rfl e
    refine o1_i e ?_; clear e; rintro l rfl e
    refine oL_i e ?_; clear e; rintro ys rfl e
    refine xBind e fun zs hz e => ?_
    refine ifS e fun hk e => ?_; (have zz := Option.some.inj e; clear e; subst zz)
    (refine xE (Rep.inv ra) ?_; clear ra; intro zt zq; subst zq); cases rs with
    | cons r1 r2 =>
      have r1' : Rep P s.heap _ (.list (PV.denL dm.den dm.chr ys)) := r1
      rw [strsV_den hz] at r1'
      rw [show (zs.map fun y => (PV.str (y.map dm.chr) : DV)) = (zs.map (List.map dm.chr)).map PV.str from by rw [List.map_map]; rfl] at r1'
      cases r2
      refine xEEAAA r1'.inv ?_; rintro _ _ rfl p l r
      unfold joinOkL fitLen at hk
      rw [decide_eq_true_eq] at hk
      refine join_list l.list (repL_strs r) ?_ fun t' k => ?_
      · rw [strOf_length, List.map_map, List.map_map, List.length_map, List.length_map, List.length_map]
        have : (((fun x : Str => x.length) ∘ strOf) ∘ List.map dm.chr) = List.length := by funext z; exact (strOf_length _).trans (List.length_map _)
        rw [this]; exact hk
      · rw [show Txt.join (strOf (x.map dm.chr)) ((zs.map (List.map dm.chr)).map strOf) = strOf (gluedL (x.map dm.chr) (zs.map (List.map dm.chr))) from glued_list _ _, gluedL_map]
        exact h _ _ ⟨.toks k, .str _ t'⟩
  | index =>
    refine oL_i e ?_; clear e; rintro xs rfl e
    refine o1_i e ?_; clear e; rintro y rfl e
    refine oS_i e ?_; clear e; rintro y rfl e
    refine xBind e fun zs hz e => ?_
    refine ifS e fun hk e => ?_
    refine xMap e ?_; clear e; rintro j hj rfl
    have ra' : Rep P s.heap ov (.list (PV.denL dm.den dm.chr xs)) := ra
    rw [strsV_den hz] at ra'
    refine xEEAAA ra'.inv ?_; rintro _ _ rfl p l r
    rw [show (zs.map fun y => (PV.str (y.map dm.chr) : DV)) = (zs.map (List.map dm.chr)).map PV.str from by rw [List.map_map]; rfl] at r
    cases rs with
    | cons r1 r2 =>
      (refine xE (Rep.inv r1) ?_; clear r1; intro zt zq; subst zq); cases r2
      exact index_call l.list (repL_strs r) (by rw [List.length_map]; unfold fitLen at hk; lia) ((idxStr_map dm.chr_inj y zs).trans hj) (lit_post h)
theorem Mt.typeIs {m : Mt} {o c : dm.V} {as : List dm.V} {ov : Value} (e : methP dm m o as = some c) (ra : Rep P s.heap ov (dm.dv o)) :
    s.TypeIs ov m.ty ∧ (∀ a, ov = .ref a → ∃ ob, s.heap.get? a = some ob ∧ ob.dict = none) := by
  have hs : ∀ {x : List Nat}, o = .str x → s.TypeIs ov "str" ∧ (∀ a, ov = .ref a → ∃ ob, s.heap.get? a = some ob ∧ ob.dict = none) := by
    rintro x rfl; (refine xE (Rep.inv ra) ?_; clear ra; intro zt zq; subst zq); exact ⟨typeIs_str _ _ _, fun a q => nomatch q⟩
  cases m with
  | bitlen => exact o0_i e fun _ e => oI_i e fun d q _ => by subst q; (refine xE (Rep.inv ra) ?_; clear ra; intro zt zq; subst zq); exact ⟨typeIs_int _ _ _, fun a q => nomatch q⟩
  | index =>
      refine oL_i e fun xs q _ => ?_
      subst q
      refine xEEAAA (Rep.inv ra) ?_; rintro _ _ rfl p l r
      exact ⟨l.list.typeIs, fun a q => by cases q; (refine xE l ?_; clear l; intro n ho); exact ⟨_, ho, rfl⟩⟩
  | starts | ends | find | find4 | split | join => exact oS_i e fun x q _ => hs q
end
noncomputable def fitI (k : Int) : Bool := decide (-1000000000 ≤ k) && decide (k ≤ 1000000000)
noncomputable def getK {dm : Dom} {α : Type} (i : dm.V) (xs : List α) (k : α → Option dm.V) : Option dm.V := oI i fun d => (dm.val d).bind fun j => if fitI j then ((seqIndex? j xs.length).bind (xs[·]?)).bind k else none
theorem getK_i {dm : Dom} {α : Type} {i c : dm.V} {xs : List α} {k : α → Option dm.V} {G : Prop} (e : getK i xs k = some c) (h : ∀ d j n x, i = .int d → dm.den d = j → fitI j = true → seqIndex? j xs.length = some n → xs[n]? = some x → k x = some c → G) : G := by
  refine oI_i e fun d q e => ?_
  refine xBind e fun j hj e => ?_
  refine ifS e fun hf e => ?_
  refine xBind e fun x hx e => ?_
  exact xBind hx fun n hn hx => h d j n x q (dm.val_den _ _ hj) hf hn hx e
noncomputable def getP (dm : Dom) (o i : dm.V) : Option dm.V := match o with
  | .list xs => getK i xs some
  | .arr xs => getK i xs some
  | .tuple xs => getK i xs some
  | .str xs => getK i xs fun c => some (.str [c])
  | _ => none
noncomputable def sliceP (dm : Dom) (o : dm.V) (lo hi : Option Int) : Option dm.V := match o with
  | .list xs => if xs.length ≤ fitLen then some (.list (sliceL xs lo hi)) else none
  | .str xs => if xs.length ≤ fitLen then some (.str (sliceL xs lo hi)) else none
  | _ => none
theorem fitI_ok {k : Int} (h : fitI k = true) : -1000000000 ≤ k ∧ k ≤ 1000000000 := by
  unfold fitI at h
  simpa using h
section
variable {prog : Program} {w : World} {A : Around} {E : Value → Shared → Prop} {s : Shared} {P : Addr → Prop} {dm : Dom}
theorem tail_any {value slice : Expr} {o i : Value} {T id : String} {ops : List Value} {Q : Value → Shared → Prop} (hT : s.TypeIs o T)
    (hl : typeLookup (.type T) "__getitem__" = pure (some (.builtin id))) (h : wpAny (model prog w) A (getItem o i) Q E s)
    (hs : subscripted slice false o i = operate ops (getItem o i)) :
    wpAny (model prog w) A (subscriptTail value slice o i) Q E s := by
  unfold subscriptTail
  refine wpAny_bind ?_
  rw [getitemInPython_of_ne hT.not_modules]
  refine wpAny_bind (wpAny_specialOf hT hl ?_)
  have fin : wpAny (model prog w) A (subscripted slice false o i) (fun r s₃ => wpAny (model prog w) A (letTemporaryGo value o r >>= fun _ => pure r) Q E s₃) E s := by
    rw [hs]
    exact wpAny_operating (wpAny_mono h (fun r s₃ h₃ => wpAny_bind (wpAny_letTemporaryGo (wpAny_pure h₃))) fun _ _ x => x)
  first
    | exact wpAny_pure (wpAny_bind fin)
    | exact wpAny_bind (wpAny_pure (wpAny_bind fin))
    | exact wpAny_bind fin
noncomputable def noSlice : Expr → Bool
  | .Slice .. => false
  | _ => true
theorem subscripted_plain {slice : Expr} (h : noSlice slice = true) (o i : Value) : subscripted slice false o i = operate [o, i] (getItem o i) := by
  cases slice <;> first | rfl | exact bF h
theorem seqIndex_cases {k : Int} {n j : Nat} (h : seqIndex? k n = some j) : j < n ∧ ((0 ≤ k ∧ j = k.toNat) ∨ (k < 0 ∧ -(n : Int) ≤ k ∧ j = (k + n).toNat)) := by
  unfold seqIndex? at h
  by_cases q : k < 0
  · simp only [q, if_true] at h
    split at h
    · rename_i hc
      simp only [Bool.and_eq_true, decide_eq_true_eq] at hc
      (have zz := Option.some.inj h; clear h; subst zz)
      exact ⟨by lia, .inr ⟨q, by lia, rfl⟩⟩
    · exact nS h
  · simp only [q, if_false] at h
    split at h
    · rename_i hc
      simp only [Bool.and_eq_true, decide_eq_true_eq] at hc
      (have zz := Option.some.inj h; clear h; subst zz)
      exact ⟨by lia, .inl ⟨by lia, rfl⟩⟩
    · exact nS h
theorem list_item {a : Addr} {items : Array Value} {k : Int} {u : Tok} {j : Nat} {x : Value} {Q : Value → Shared → Prop} (l : s.heap.IsList a items) (hk : fitI k = true) (hj : seqIndex? k items.size = some j) (hx : items[j]? = some x) (h : Q x s) :
    wpAny (model prog w) A (getItem (.ref a) (.int k u)) Q E s := by
  refine xA (fitI_ok hk) ?_; intro h1 h2
  refine xA (seqIndex_cases hj) ?_; intro _ hc
  rcases hc with ⟨q, rfl⟩ | ⟨q, q2, rfl⟩
  · exact wpAny_getItem_list l q (by lia) hx h
  · exact wpAny_getItem_list_neg l q q2 (by lia) hx h
theorem get_rep {h' : Heap} {items : Array Value} {xs : List dm.V} {j : Nat} {c : dm.V} (r : RepL P h' items.toList (dm.dvs xs)) (hj : xs[j]? = some c) : ∃ v, items[j]? = some v ∧ Rep P h' v (dm.dv c) := by
  have : (dm.dvs xs)[j]? = some (dm.dv c) := by
    show (PV.denL dm.den dm.chr xs)[j]? = _
    rw [denL_get, hj]; rfl
  refine xEA (r.get this) ?_; intro v e1 e2
  exact ⟨v, by simpa using e1, e2⟩
theorem get_ok {o i c : dm.V} {ov iv : Value} {value slice : Expr} {Q : Value → Shared → Prop} (hs : noSlice slice = true) (e : getP dm o i = some c) (ra : Rep P s.heap ov (dm.dv o)) (rb : Rep P s.heap iv (dm.dv i))
    (h : ∀ v s', Post P s (dm.dv c) v s' → Q v s') : wpAny (model prog w) A (subscriptTail value slice ov iv) Q E s := by
  cases o with
  | list xs =>
    refine getK_i e ?_; clear e; rintro d _ j x rfl rfl hf hj hx e
    (have zz := Option.some.inj e; clear e; subst zz)
    refine xEEAAA (Rep.inv ra) ?_; rintro _ _ rfl p l r
    (refine xE (Rep.inv rb) ?_; clear rb; intro zt zq; subst zq)
    refine xEA (get_rep r hx) ?_; intro v e1 e2
    rw [← size_of_repL r] at hj
    exact tail_any l.list.typeIs slot_list_getitem.lookup (list_item l.list hf hj e1 (h v s ⟨.refl _ _, e2⟩)) (subscripted_plain hs _ _)
  | arr xs =>
    refine getK_i e ?_; clear e; rintro d _ j x rfl rfl hf hj hx e
    (have zz := Option.some.inj e; clear e; subst zz)
    refine xEEAAA (Rep.inv ra) ?_; rintro _ _ rfl p l r
    (refine xE (Rep.inv rb) ?_; clear rb; intro zt zq; subst zq)
    refine xEA (get_rep r hx) ?_; intro v e1 e2
    rw [← size_of_repL r] at hj
    exact tail_any l.typeIs slot_list_getitem.lookup (list_item l hf hj e1 (h v s ⟨.refl _ _, e2⟩)) (subscripted_plain hs _ _)
  | tuple xs =>
    refine getK_i e ?_; clear e; rintro d _ j x rfl rfl hf hj hx e
    (have zz := Option.some.inj e; clear e; subst zz)
    refine xEEAAA (Rep.inv ra) ?_; rintro _ _ rfl p l r
    (refine xE (Rep.inv rb) ?_; clear rb; intro zt zq; subst zq)
    refine xEA (get_rep r hx) ?_; intro v e1 e2
    rw [← size_of_repL r] at hj
    refine xA (fitI_ok hf) ?_; intro f1 f2
    exact tail_any l.typeIs slot_tuple_getitem.lookup (getItem_tuple l (by lia) (by lia) hj e1 (h v s ⟨.refl _ _, e2⟩)) (subscripted_plain hs _ _)
  | str xs =>
    refine getK_i e ?_; clear e; rintro d _ j ch rfl rfl hf hj hx e
    (have zz := Option.some.inj e; clear e; subst zz)
    (refine xE (Rep.inv ra) ?_; clear ra; intro zt zq; subst zq); (refine xE (Rep.inv rb) ?_; clear rb; intro zt zq; subst zq)
    refine xA (fitI_ok hf) ?_; intro f1 f2
    have hc : Txt.charAt (strOf (xs.map dm.chr)) (dm.den d) = some (dm.chr ch) := by
      unfold Txt.charAt
      rw [strOf_length, List.length_map, hj]
      simp [hx]
    refine tail_any (typeIs_str _ _ _) F.slot_str_getitem.lookup (SB.getItem (by unfold fitsSsize; simp; lia) (by rw [hc]; rfl) ?_) (subscripted_plain hs _ _)
    have : Txt.item (strOf (xs.map dm.chr)) (dm.den d) = strOf ([ch].map dm.chr) := by unfold Txt.item; rw [hc]; rfl
    rw [this]
    exact h _ _ ⟨.toks _, .str _ _⟩
  | _ => exact nS e
theorem slice_ok {o c : dm.V} {lo hi : Option Int} {ov vl vu : Value} {value slice : Expr} {ops : List Value} {Q : Value → Shared → Prop} (hf : ∀ c, s.heap.objs.size ≤ c → P c)
    (hs : subscripted slice false ov (.ref s.heap.objs.size) = operate ops (getItem ov (.ref s.heap.objs.size))) (e : sliceP dm o lo hi = some c) (ra : Rep P s.heap ov (dm.dv o)) (pl : IsPart vl lo) (pu : IsPart vu hi)
    (h : ∀ v s', Post P s (dm.dv c) v s' → Q v s') : wpAny (model prog w) A (subscriptTail value slice ov (.ref s.heap.objs.size)) Q E { s with heap := s.heap.push { cls := .type "slice", data := .fields #[vl, vu, .none] } } := by
  cases o with
  | list xs =>
    refine ifS e fun hz e => ?_
    (have zz := Option.some.inj e; clear e; subst zz)
    refine xEEAAA (Rep.inv ra) ?_; rintro a items rfl p l r
    have l' := l.list.push { cls := .type "slice", data := .fields #[vl, vu, .none] }
    refine tail_any (T := "list") l'.typeIs slot_list_getitem.lookup (wpAny_getItem_list_slice (st := none) l' (.new _ _ _ _) pl pu .none (by simp) ?_ (by rw [size_of_repL r, sizeLine_eq]; exact hz)) hs
    refine h _ { s with heap := (s.heap.push _).push _ } ⟨.grown (fun b o e => Heap.get?_push_of_some _ (Heap.get?_push_of_some _ e)) (by rw [Heap.size_push, Heap.size_push]; lia), ?_⟩
    show Rep P _ _ (.list (PV.denL dm.den dm.chr (sliceL xs lo hi)))
    refine .list (hf _ (by show _ ≤ (s.heap.push _).objs.size; rw [Heap.size_push]; lia)) ⟨_, Heap.get?_push_size _ rfl⟩ ?_
    rw [pick_list, denL_slice]
    exact (r.slice lo hi).mono fun b o p e _ => ⟨p, Heap.get?_push_of_some _ (Heap.get?_push_of_some _ e)⟩
  | str xs =>
    refine ifS e fun hz e => ?_
    (have zz := Option.some.inj e; clear e; subst zz)
    refine xE (Rep.inv ra) ?_; rintro t rfl
    have hsz : (strOf (xs.map dm.chr)).length ≤ sizeLine := by rw [strOf_length, List.length_map, sizeLine_eq]; exact hz
    have fin : ∀ t' k, Q (.str (Txt.slice (strOf (xs.map dm.chr)) lo hi) t') { s with heap := s.heap.push { cls := .type "slice", data := .fields #[vl, vu, .none] }, toks := k } := fun t' k => by
      rw [slice_list', sliceL_map]
      exact h _ _ ⟨.push, .str _ t'⟩
    refine tail_any (typeIs_str _ _ _) F.slot_str_getitem.lookup ?_ hs
    cases pl with
    | none =>
      cases pu with
      | none => exact wpAny_getItem_str_slice (l := none) (u := none) (st := none) ⟨_, Heap.get?_push_size _ rfl, rfl, rfl⟩ rfl (post_val_or_str ⟨Nat.le_trans (Txt.slice_le _ _ _) hsz, fin⟩)
      | int j uj => exact wpAny_getItem_str_slice (l := none) (u := some (j, uj)) (st := none) ⟨_, Heap.get?_push_size _ rfl, rfl, rfl⟩ rfl (post_val_or_str ⟨Nat.le_trans (Txt.slice_le _ _ _) hsz, fin⟩)
    | int i ui =>
      cases pu with
      | none => exact wpAny_getItem_str_slice (l := some (i, ui)) (u := none) (st := none) ⟨_, Heap.get?_push_size _ rfl, rfl, rfl⟩ rfl (post_val_or_str ⟨Nat.le_trans (Txt.slice_le _ _ _) hsz, fin⟩)
      | int j uj => exact wpAny_getItem_str_slice (l := some (i, ui)) (u := some (j, uj)) (st := none) ⟨_, Heap.get?_push_size _ rfl, rfl, rfl⟩ rfl (post_val_or_str ⟨Nat.le_trans (Txt.slice_le _ _ _) hsz, fin⟩)
  | _ => exact nS e
end
noncomputable abbrev Beside (P : Addr → Prop) (I : Addr) (s₀ : Shared) (W : Addr → Prop) : Prop := ∀ b, W b → b ≠ I ∧ (b < s₀.heap.objs.size → ¬ P b)
noncomputable def Nexts (prog : Program) (w : World) (A : Around) (P : Addr → Prop) (I : Addr) : List DV → Shared → Prop
  | [], s₀ => ∀ s W, Step W s₀ s → Beside P I s₀ W → Ok (model prog w) A (pyNext (.ref I)) (fun r s' => r = none ∧ Step (fun b => b = I) s s') s
  | d :: ds, s₀ => ∀ s W, Step W s₀ s → Beside P I s₀ W → Ok (model prog w) A (pyNext (.ref I)) (fun r s' => ∃ v, r = some v ∧ Step (fun b => b = I) s s' ∧ Rep P s'.heap v d ∧ (∀ t : Expr, Ok (model prog w) A (letOwnedTupleGo t (.ref I) v) (fun _ s'' => s'' = s') s') ∧ Nexts prog w A P I ds s') s
structure Its (prog : Program) (w : World) (P : Addr → Prop) (I : Addr) (ds : List DV) (s : Shared) : Prop where
  next : ∀ A : Around, A.handled = none → Nexts prog w A P I ds s
  self : ∀ (A : Around), A.handled = none → ∀ s' W (Q : Value → Shared → Prop) (E : Value → Shared → Prop), Step W s s' → Beside P I s W → Q (.ref I) s' → wpAny (model prog w) A (pyIter (.ref I)) Q E s'
  lt : I < s.heap.objs.size
theorem kept_by {W P : Addr → Prop} {I : Addr} {s₀ s : Shared} (_ : Tabs s₀.heap) (x : Step W s₀ s) (h : Beside P I s₀ W) {b : Addr} {o : Obj} (hb : b = I ∧ 37 < I ∨ P b ∧ b ≠ T1 ∧ b ≠ T2) (e : s₀.heap.get? b = some o) : s.heap.get? b = some o := by
  rcases hb with ⟨rfl, q⟩ | ⟨q, n1, n2⟩
  · exact x.keep _ o (fun r => (h _ r).1 rfl) (fun z => absurd (z ▸ q : 37 < T1) (by decide)) (fun z => absurd (z ▸ q : 37 < T2) (by decide)) e
  · exact x.keep b o (fun r => (h b r).2 (Heap.lt_size e) q) n1 n2 e
section
variable {prog : Program} {w : World} {A : Around} {P : Addr → Prop} {I : Addr} {fp : List Addr} {n : Nat} {Pv : Nat → Value → Prop} {St : Nat → Heap → Prop}
theorem nexts_walk (Wk : Walks prog w A I fp [I] n Pv St) (hI : 37 < I) (hP : ¬ P I) (ds : List DV) (hn : ds.length = n) (F : Heap → Prop)
    (hF : ∀ s s' W, Tabs s.heap → F s.heap → Step W s s' → (∀ b, W b → b < s.heap.objs.size → ¬ P b) → F s'.heap)
    (hfp : ∀ h, F h → ∀ b ∈ fp, b = I ∨ (P b ∧ b ≠ T1 ∧ b ≠ T2)) (hv : ∀ h i v d, F h → Pv i v → ds[i]? = some d → Rep P h v d)
    (hown : ∀ (i : Nat) (v : Value) (s : Shared), Pv i v → St (i + 1) s.heap → ∀ (t : Expr) (A : Around), Ok (model prog w) A (letOwnedTupleGo t (.ref I) v) (fun _ s'' => s'' = s) s) :
    ∀ k i s, ds.length - i = k → i ≤ ds.length → F s.heap → St i s.heap → Tabs s.heap → TabOff I s.heap → I < s.heap.objs.size → Nexts prog w A P I (ds.drop i) s := by
  intro k
  induction k with
  | zero =>
    intro i s hk hi f st T O l
    have : i = ds.length := by lia
    subst this
    rw [List.drop_length]
    intro s₁ W x h
    have st₁ := Wk.frame _ _ _ st fun b hb o e => kept_by T x h ((hfp _ f b hb).imp (fun q => ⟨q, hI⟩) id) e
    have O₁ := x.off I l T O
    rw [hn] at st₁
    refine wpAny_mono (wpAny_le (Wk.done s₁ (fun r s' => r = none ∧ ∃ h' tk, s' = { s₁ with heap := h', toks := tk } ∧ (∀ b o, b ∉ [I] → s₁.heap.get? b = some o → h'.get? b = some o)) _ st₁ fun h' tk q => ⟨rfl, h', tk, rfl, q⟩)) (fun r s' q => ?_) fun _ _ q => q
    refine xA q ?_; clear q; rintro ⟨rfl, h', tk, rfl, q⟩ le
    exact ⟨rfl, .iter hI O₁ (fun b o nb e => q b o (by simpa using nb) e) le.2⟩
  | succ k ih =>
    intro i s hk hi f st T O l
    have hlt : i < ds.length := by lia
    rw [List.drop_eq_getElem_cons hlt]
    intro s₁ W x h
    have st₁ := Wk.frame _ _ _ st fun b hb o e => kept_by T x h ((hfp _ f b hb).imp (fun q => ⟨q, hI⟩) id) e
    have O₁ := x.off I l T O
    have T₁ := x.tabs T
    have f₁ := hF _ _ _ T f x fun b r => (h b r).2
    have l₁ := Nat.lt_of_lt_of_le l x.size
    refine wpAny_mono (wpAny_le (Wk.item i s₁ (fun r s' => ∃ v h' tk, r = some v ∧ s' = { s₁ with heap := h', toks := tk } ∧ Pv i v ∧ St (i + 1) h' ∧ (∀ b o, b ∉ [I] → s₁.heap.get? b = some o → h'.get? b = some o)) _ (by lia) st₁ fun v h' tk a b c => ⟨v, h', tk, rfl, rfl, a, b, c⟩)) (fun r s' q => ?_) fun _ _ q => q
    refine xA q ?_; clear q; rintro ⟨v, h', tk, rfl, rfl, a, b, c⟩ le
    have y : Step (fun b => b = I) s₁ { s₁ with heap := h', toks := tk } := .iter hI O₁ (fun b o nb e => c b o (by simpa using nb) e) le.2
    have f₂ := hF _ _ _ T₁ f₁ y fun b r _ => r ▸ hP
    exact ⟨v, rfl, y, hv _ i v _ f₂ a (List.getElem?_eq_getElem hlt), fun t => hown i v _ a b t A, ih (i + 1) _ (by lia) hlt f₂ b (y.tabs T₁) (y.off I l₁ T₁ O₁) (Nat.lt_of_lt_of_le l₁ y.size)⟩
theorem its_walk (Wk : ∀ A : Around, A.handled = none → Walks prog w A I fp [I] n Pv St) (hI : 37 < I) (hP : ¬ P I) (ds : List DV) (hn : ds.length = n) (F : Heap → Prop)
    (hF : ∀ s s' W, Tabs s.heap → F s.heap → Step W s s' → (∀ b, W b → b < s.heap.objs.size → ¬ P b) → F s'.heap)
    (hfp : ∀ h, F h → ∀ b ∈ fp, b = I ∨ (P b ∧ b ≠ T1 ∧ b ≠ T2)) (hv : ∀ h i v d, F h → Pv i v → ds[i]? = some d → Rep P h v d)
    (hown : ∀ (i : Nat) (v : Value) (s : Shared), Pv i v → St (i + 1) s.heap → ∀ (t : Expr) (A : Around), Ok (model prog w) A (letOwnedTupleGo t (.ref I) v) (fun _ s'' => s'' = s) s)
    {s : Shared} (f : F s.heap) (st : St 0 s.heap) (T : Tabs s.heap) (O : TabOff I s.heap) (l : I < s.heap.objs.size) : Its prog w P I ds s where
  next := fun A hh => by
    have := nexts_walk (Wk A hh) hI hP ds hn F hF hfp hv hown _ 0 s rfl (Nat.zero_le _) f st T O l
    rwa [List.drop_zero] at this
  self := fun A hh s' W Q E x h q => (Wk A hh).self 0 s' Q E ((Wk A hh).frame _ _ _ st fun b hb o e => kept_by T x h ((hfp _ f b hb).imp (fun q => ⟨q, hI⟩) id) e) q
  lt := l
end
theorem own_scalar {prog : Program} {w : World} {A : Around} {s : Shared} {I : Addr} {v : Value} (t : Expr) (h : ∀ a, v ≠ .ref a) : Ok (model prog w) A (letOwnedTupleGo t (.ref I) v) (fun _ s'' => s'' = s) s := by
  unfold letOwnedTupleGo
  cases t <;> first | exact wpAny_pure rfl | skip
  all_goals cases v <;> first | exact wpAny_pure rfl | exact absurd rfl (h _)
theorem own_class {prog : Program} {w : World} {A : Around} {s : Shared} {I : Addr} {v : Value} {o : Obj} {n : String} (t : Expr) (ho : s.heap.get? I = some o) (hc : o.cls = .type n)
    (hn : ["enumerate", "zip", "dict_itemiterator", "dict_reverseitemiterator", "odict_iterator", "itertools.zip_longest", "itertools.pairwise"].contains n = false) : Ok (model prog w) A (letOwnedTupleGo t (.ref I) v) (fun _ s'' => s'' = s) s := by
  have key : ∀ a, wpAny (model prog w) A (do
      let o ← load I
      match o.cls, o.data with
      | .type n, .fields vs =>
        if ["enumerate", "zip", "dict_itemiterator", "dict_reverseitemiterator", "odict_iterator", "itertools.zip_longest", "itertools.pairwise"].contains n && vs[0]? == some (rawInt a) then do
          rule "for.unpacks-the-owned-tuple"
          updateField I 0 .none
      | _, _ => pure ()) (fun _ s'' => s'' = s) (fun _ _ => False) s := fun a => by
    refine wpAny_bind (wpAny_load ho ?_)
    rw [hc]
    cases o.data <;> first | exact wpAny_pure rfl | skip
    simp only [hn, Bool.false_and, Bool.false_eq_true, if_false]
    exact wpAny_pure rfl
  unfold letOwnedTupleGo
  cases t <;> first | exact wpAny_pure rfl | skip
  all_goals cases v <;> first | exact wpAny_pure rfl | exact key _
theorem tabOff_new {h : Heap} {I : Addr} (T : Tabs h) (hI : h.objs.size ≤ I) : TabOff I h := by
  refine xA T ?_; clear T; rintro ⟨ps1, e1, r1⟩ ⟨ps2, e2, r2⟩
  have key : ∀ {ps ps' : Array Value} {a : Addr} {q : Str} {l c : Nat}, h.get? a = some (tabObj ps) → (ps = #[] ∨ ∃ c', ps = #[rawInt l, rawInt c, .ref c'] ∧ h.CodeRec (.ref c') q) → h.get? a = some (tabObj ps') → Value.ref I ∉ ps'.toList := by
    intro ps ps' a q l c e r e'
    rw [e] at e'
    have : ps = ps' := by
      have := congrArg Obj.data (Option.some.inj e')
      exact (Data.fields.inj this)
    subst this
    rcases r with rfl | ⟨c', rfl, c₂, o, vs, t, q2, ho, _⟩
    · simp
    · cases q2
      have := Heap.lt_size ho
      intro m
      simp [rawInt] at m
      rw [m] at hI
      exact absurd this (Nat.not_lt.mpr hI)
  rintro ps (q | q)
  · exact key e1 r1 q
  · exact key e2 r2 q
noncomputable def IterV (prog : Program) (w : World) (P : Addr → Prop) (s₀ : Shared) (ds : List DV) (x : Value) (s : Shared) : Prop :=
  ∀ A : Around, A.handled = none → Ok (model prog w) A (pyIter x) (fun it s' => Step none' s s' ∧ ∃ I, it = .ref I ∧ s₀.heap.objs.size ≤ I ∧ I < s'.heap.objs.size ∧ ∀ P' : Addr → Prop, (∀ b, b < I → P b → P' b) → ¬ P' I → Its prog w P' I ds s') s
section
variable {prog : Program} {w : World} {P : Addr → Prop} {s₀ s : Shared}
theorem repL_push {h : Heap} {o : Obj} {vs : List Value} {ds : List DV} (r : RepL P h vs ds) : RepL P (h.push o) vs ds := r.mono fun _ _ p e _ => ⟨p, Heap.get?_push_of_some _ e⟩
theorem tabs_push {h : Heap} (o : Obj) (T : Tabs h) : Tabs (h.push o) := T.mono fun _ _ _ e _ => Heap.get?_push_of_some _ e
theorem list_ne_tab {h : Heap} {a : Addr} {v : Array Value} (T : Tabs h) (l : h.IsList a v) : a ≠ T1 ∧ a ≠ T2 := by
  obtain ⟨o, ho, _, k, hd⟩ := l
  exact T.ne ho (fun vs q => by rw [hd] at q; cases q)
theorem iter_list {a : Addr} {items : Array Value} {ds : List DV} (hs : s₀.heap.objs.size ≤ s.heap.objs.size) (h37 : 37 < s.heap.objs.size) (T : Tabs s.heap) (p : P a) (l : s.heap.IsList a items) (r : RepL P s.heap items.toList ds) :
    IterV prog w P s₀ ds (.ref a) s := fun A hh => by
  refine xA (list_ne_tab T l) ?_; intro n1 n2
  have la : a < s.heap.objs.size := let ⟨_, e, _⟩ := l; Heap.lt_size e
  have ne : a ≠ s.heap.objs.size := Nat.ne_of_lt la
  have lt : s.heap.objs.size < (s.heap.push { cls := .type "list_iterator", data := .fields #[.ref a, .int 0 0] }).objs.size := by rw [Heap.size_push]; exact Nat.lt_succ_self _
  refine wpAny_pyIter_list l ⟨.push (tk := s.toks), _, rfl, hs, lt, fun P' hP hPI => ?_⟩
  refine its_walk (fun A hh => Walks.list hh s.heap.objs.size a ne items) h37 hPI ds (by rw [← r.length]; simp) (fun h => h.IsList a items ∧ RepL P' h items.toList ds)
    ?_ ?_ ?_ (fun i v s _ st t A => let ⟨o, ho, hc, _⟩ := st.1; own_class t ho hc (by decide)) ⟨l.push _, ?_⟩ ⟨⟨_, Heap.get?_push_size _ rfl, rfl, rfl⟩, l.push _⟩ (tabs_push _ T) ?_ lt
  · intro s' s'' W T' f x h
    exact ⟨list_step T' x (fun q => h a q (let ⟨_, e, _⟩ := f.1; Heap.lt_size e) (hP a la p)) f.1, f.2.mono fun b o pb e hc => ⟨pb, by
      by_cases h1 : b = T1
      · refine xA T' ?_; clear T'; rintro ⟨ps, h2, _⟩ _; rw [h1, h2] at e; (have zz := Option.some.inj e; clear e; subst zz); rcases hc with q | q <;> cases q
      · by_cases h2 : b = T2
        · refine xA T' ?_; clear T'; rintro _ ⟨ps, h3, _⟩; rw [h2, h3] at e; (have zz := Option.some.inj e; clear e; subst zz); rcases hc with q | q <;> cases q
        · exact x.keep b o (fun q => h b q (Heap.lt_size e) pb) h1 h2 e⟩⟩
  · intro h f b hb
    simp only [List.mem_cons, List.not_mem_nil, or_false] at hb
    rcases hb with rfl | rfl
    · exact .inl rfl
    · exact .inr ⟨hP _ la p, n1, n2⟩
  · intro h i v d f hv hd
    refine xEA (f.2.get hd) ?_; intro v' e1 e2
    have : items[i]? = some v' := by simpa using e1
    rw [this] at hv; (have zz := Option.some.inj hv; clear hv; subst zz)
    exact e2
  · exact repL_push (r.weak fun b pb lb => hP b lb pb)
  · exact (tabOff_new T (Nat.le_refl _)).keep T (fun o e => Heap.get?_push_of_some _ e) (fun o e => Heap.get?_push_of_some _ e)
theorem iter_str {x : List Nat} {t : Tok} (hs : s₀.heap.objs.size ≤ s.heap.objs.size) (h37 : 37 < s.heap.objs.size) (T : Tabs s.heap) :
    IterV prog w P s₀ (x.map fun c => .str [c]) (.str (strOf x) t) s := fun A hh => by
  refine wpAny_pyIter_str fun o St Wk st => ⟨.push (tk := s.toks), _, rfl, hs, by show _ < (s.heap.push _).objs.size; rw [Heap.size_push]; exact Nat.lt_succ_self _, fun P' hP hPI => ?_⟩
  refine its_walk Wk h37 hPI _ (by simp) (fun _ => True) (fun _ _ _ _ _ _ _ => trivial) (fun h _ b hb => .inl (by simpa using hb)) ?_ (fun i v s hv _ t A => own_scalar t fun a q => by (refine xEEA hv ?_; clear hv; rintro c u _ rfl); cases q) trivial st (tabs_push _ T) ?_ ?_
  · rintro h i v d _ ⟨c, u, hc, rfl⟩ hd
    rw [List.getElem?_map] at hd
    have : x[i]? = some c := by simpa using hc
    rw [this] at hd
    (have zz := Option.some.inj hd; clear hd; subst zz)
    exact .str [c] u
  · exact (tabOff_new T (Nat.le_refl _)).keep T (fun o e => Heap.get?_push_of_some _ e) (fun o e => Heap.get?_push_of_some _ e)
  · show _ < (s.heap.push _).objs.size
    rw [Heap.size_push]; exact Nat.lt_succ_self _
noncomputable def rangeL (a b : Int) : List Int := (List.range (b - a).toNat).map fun (k : Nat) => a + (k : Int)
theorem iter_range {r : Addr} {a b : Int} {t u v : Tok} (hr : IsRange s.heap r a b 1 t u v) (h1 : -1000000000 ≤ a ∧ a ≤ 1000000000) (h2 : -1000000000 ≤ b ∧ b ≤ 1000000000)
    (hs : s₀.heap.objs.size ≤ s.heap.objs.size) (h37 : 37 < s.heap.objs.size) (T : Tabs s.heap) : IterV prog w P s₀ ((rangeL a b).map PV.int) (.ref r) s := fun A hh => by
  refine wpAny_pyIter_range hr (small_one (by lia) (by lia) (by lia) (by lia)) ⟨.push (tk := s.toks), _, rfl, hs, by show _ < (s.heap.push _).objs.size; rw [Heap.size_push]; exact Nat.lt_succ_self _, fun P' hP hPI => ?_⟩
  have hn : Builtin.Range.rangeSize a b 1 = ((b - a).toNat : Int) := by rw [rangeSize_one]; split <;> lia
  refine its_walk (fun A hh => Walks.range hh _ a 1 (b - a).toNat) h37 hPI _ (by simp [rangeL]) (fun _ => True) (fun _ _ _ _ _ _ _ => trivial) (fun h _ b hb => .inl (by simpa using hb)) ?_ (fun i v s hv _ t A => own_scalar t fun a q => by (refine xE hv ?_; clear hv; rintro u rfl); cases q) trivial ?_ (tabs_push _ T) ?_ ?_
  · rintro h i v d _ ⟨u, rfl⟩ hd
    rw [List.getElem?_map] at hd
    refine xMap hd ?_; rintro z hz rfl
    unfold rangeL at hz
    rw [List.getElem?_map] at hz
    refine xMap hz ?_; rintro j hj rfl
    have : j = i := by
      rw [List.getElem?_range] at hj
      · exact (Option.some.inj hj).symm
      · cases hlt : decide (i < (b - a).toNat) with
        | true => simpa using hlt
        | false => rw [List.getElem?_eq_none (by simpa using hlt)] at hj; exact nS hj
    subst this
    rw [Int.mul_one]
    exact .int _ u
  · show IsRangeIter _ _ _ _ _
    rw [hn]
    simpa using Heap.get?_push_size _ rfl
  · exact (tabOff_new T (Nat.le_refl _)).keep T (fun o e => Heap.get?_push_of_some _ e) (fun o e => Heap.get?_push_of_some _ e)
  · show _ < (s.heap.push _).objs.size
    rw [Heap.size_push]; exact Nat.lt_succ_self _
theorem iter_rev {a : Addr} {items : Array Value} {ds : List DV} (hs : s₀.heap.objs.size ≤ s.heap.objs.size) (h37 : 37 < s.heap.objs.size) (T : Tabs s.heap) (p : P a) (l : s.heap.IsList a items) (r : RepL P s.heap items.toList ds) {tk : Tok} :
    IterV prog w P s₀ ds.reverse (.ref s.heap.objs.size) { s with heap := s.heap.push (revObj a ((items.size : Int) - 1)), toks := tk } := fun A hh => by
  refine xA (list_ne_tab T l) ?_; intro n1 n2
  have la : a < s.heap.objs.size := let ⟨_, e, _⟩ := l; Heap.lt_size e
  have ne : a ≠ s.heap.objs.size := Nat.ne_of_lt la
  have hlen : ds.length = items.size := by rw [← r.length]; simp
  have lt : s.heap.objs.size < (s.heap.push (revObj a ((items.size : Int) - 1))).objs.size := by rw [Heap.size_push]; exact Nat.lt_succ_self _
  have st : 0 ≤ items.size ∧ (s.heap.push (revObj a ((items.size : Int) - 1))).IsRevIter s.heap.objs.size a ((items.size : Int) - 1 - ((0 : Nat) : Int)) ∧ (s.heap.push (revObj a ((items.size : Int) - 1))).IsList a items :=
    ⟨Nat.zero_le _, ⟨_, Heap.get?_push_size _ rfl, rfl, by simp [revObj]⟩, l.push _⟩
  have its : ∀ P' : Addr → Prop, (∀ b, b < s.heap.objs.size → P b → P' b) → ¬ P' s.heap.objs.size → Its prog w P' s.heap.objs.size ds.reverse { s with heap := s.heap.push (revObj a ((items.size : Int) - 1)), toks := tk } := by
    intro P' hP hPI
    refine its_walk (fun A hh => Walks.listRev hh s.heap.objs.size a ne items) h37 hPI _ (by rw [List.length_reverse]; exact hlen) (fun h => h.IsList a items ∧ RepL P' h items.toList ds)
      ?_ ?_ ?_ (fun i v s _ st t A => let ⟨o, ho, hc, _⟩ := st.2.1; own_class t ho hc (by decide)) ⟨l.push _, ?_⟩ st (tabs_push _ T) ?_ lt
    · intro s' s'' W T' f x h
      exact ⟨list_step T' x (fun q => h a q (let ⟨_, e, _⟩ := f.1; Heap.lt_size e) (hP a la p)) f.1, f.2.mono fun b o pb e hc => ⟨pb, by
        by_cases h1 : b = T1
        · refine xA T' ?_; clear T'; rintro ⟨ps, h2, _⟩ _; rw [h1, h2] at e; (have zz := Option.some.inj e; clear e; subst zz); rcases hc with q | q <;> cases q
        · by_cases h2 : b = T2
          · refine xA T' ?_; clear T'; rintro _ ⟨ps, h3, _⟩; rw [h2, h3] at e; (have zz := Option.some.inj e; clear e; subst zz); rcases hc with q | q <;> cases q
          · exact x.keep b o (fun q => h b q (Heap.lt_size e) pb) h1 h2 e⟩⟩
    · intro h f b hb
      simp only [List.mem_cons, List.not_mem_nil, or_false] at hb
      rcases hb with rfl | rfl
      · exact .inl rfl
      · exact .inr ⟨hP _ la p, n1, n2⟩
    · intro h i v d f hv hd
      have hi : i < ds.length := by
        cases hlt : decide (i < ds.length) with
        | true => simpa using hlt
        | false => rw [List.getElem?_eq_none (by simpa using hlt)] at hd; exact nS hd
      rw [List.getElem?_reverse hi] at hd
      refine xEA (f.2.get hd) ?_; intro v' e1 e2
      have : items[items.size - 1 - i]? = some v' := by rw [← hlen]; simpa using e1
      rw [this] at hv; (have zz := Option.some.inj hv; clear hv; subst zz)
      exact e2
    · exact repL_push (r.weak fun b pb lb => hP b lb pb)
    · exact (tabOff_new T (Nat.le_refl _)).keep T (fun o e => Heap.get?_push_of_some _ e) (fun o e => Heap.get?_push_of_some _ e)
  exact (its (fun b => P b ∧ b < s.heap.objs.size) (fun b lb pb => ⟨pb, lb⟩) (fun q => Nat.lt_irrefl _ q.2)).self A hh _ none' _ _ (.refl _ _) (fun _ q => q.elim) ⟨.refl _ _, _, rfl, hs, lt, its⟩
end
inductive Gc | lim | mark | endm
noncomputable def Gc.nm : Gc → Str
  | .lim => "_DIV_LIMIT" | .mark => "ELLIPSIS_MARKER" | .endm => "ENDMARKER"
inductive Fn | len | abs | sum | max | divmod
noncomputable def Fn.nm : Fn → Str
  | .len => "len" | .abs => "abs" | .sum => "sum" | .max => "max" | .divmod => "divmod"
noncomputable def Fn.bid : Fn → String
  | .len => "len" | .abs => "abs" | .sum => "sum" | .max => "max" | .divmod => "divmod"
noncomputable def ufNames : List Str := ["_div2n1n", "_div3n2n", "_int2digits", "_digits2int", "_divmod_pos", "int_divmod", "_ellipsis_match", "_iter_escaped_chars", "_strip_quoted_realnames", "_check_parenthesis", "_law_cells", "_law_rows", "_law_weights", "_law_steps", "_law_flows", "_law_balanced", "_law_once", "_law_hidden", "_law_waiting", "_law_brackets"]
noncomputable def ufName (f : Nat) : Str := (ufNames[f]?).getD Str.empty
inductive Tg
  | one (i : Nat) (p : Pos)
  | many (is : List (Nat × Pos)) (k : Nat) (p : Pos)
inductive Ix
  | int (i : Int) (k : Nat) (p : Pos)
  | str (s : List Nat) (k : Nat) (p : Pos)
  | non (k : Nat) (p : Pos)
  | bool (b : Bool) (k : Nat) (p : Pos)
  | var (i : Nat) (p : Pos)
  | gc (g : Gc) (p : Pos)
  | bin (a : Ix) (op : Operator) (b : Ix) (p : Pos)
  | un (op : UnaryOp) (a : Ix) (p : Pos)
  | cmp (a : Ix) (op : CmpOp) (b : Ix) (p : Pos)
  | ife (t a b : Ix) (p : Pos)
  | not (a : Ix) (p : Pos)
  | or (a b : Ix) (p : Pos)
  | tup (xs : List Ix) (k : Nat) (p : Pos)
  | lst (xs : List Ix) (p : Pos)
  | rep (x n : Ix) (p q : Pos)
  | sub (a i : Ix) (p : Pos)
  | subs (a lo hi : Ix) (p q : Pos)
  | tok (e : Ix) (p q : Pos)
  | fn (f : Fn) (xs : List Ix) (p q : Pos)
  | meth (m : Mt) (o : Ix) (xs : List Ix) (ap q : Pos)
  | repl (o : Ix) (y z : List Nat) (ky kz : Nat) (py pz ap q : Pos)
  | user (f : Nat) (xs : List Ix) (p q : Pos)
  | rng (xs : List Ix) (p q : Pos)
  | rev (x : Ix) (p q : Pos)
  | comp (elt cls : Ix) (nm : Names) (link : List (Option Nat)) (p : Pos)
  | cl (t : Tg) (it : Ix) (ifs : List Ix) (rest : Ix)
  | endc
  | absent
noncomputable def nmAt (nm : Names) (i : Nat) : Str := match nm[i]? with | some x => x.1 | none => Str.empty
noncomputable def Tg.dec (nm : Names) : Tg → Expr
  | .one i p => .Name (nmAt nm i) p
  | .many is k p => .Tuple (is.map fun x => .Name (nmAt nm x.1) x.2) k p
noncomputable def compScope (nm : Names) : Scope := { kind := .function, names := nm, isGenerator := false, isCoroutine := false, more := [] }
noncomputable def partD (e : Expr) : Ix → Option Expr
  | .absent => none
  | _ => some e
noncomputable def partE {α : Type} (v : Option α) : Ix → Option (Option α)
  | .absent => some none
  | _ => v.map some
mutual
noncomputable def Ix.dec (nm : Names) : Ix → Expr
  | .int i k p => .Constant (.int i) k p
  | .str s k p => .Constant (.str (strOf s)) k p
  | .non k p => .Constant .none k p
  | .bool b k p => .Constant (.bool b) k p
  | .var i p => .Name (nmAt nm i) p
  | .gc g p => .Name g.nm p
  | .bin a op b p => .BinOp (a.dec nm) op (b.dec nm) p
  | .un op a p => .UnaryOp op (a.dec nm) p
  | .cmp a op b p => .Compare (a.dec nm) [op] [b.dec nm] p
  | .ife t a b p => .IfExp (t.dec nm) (a.dec nm) (b.dec nm) p
  | .not a p => .UnaryOp .Not (a.dec nm) p
  | .or a b p => .BoolOp .Or [a.dec nm, b.dec nm] p
  | .tup xs k p => .Tuple (decL nm xs) k p
  | .lst xs p => .List (decL nm xs) p
  | .rep x n p q => .BinOp (.List [x.dec nm] p) .Mult (n.dec nm) q
  | .sub a i p => .Subscript (a.dec nm) (i.dec nm) p
  | .subs a lo hi p q => .Subscript (a.dec nm) (.Slice (partD (lo.dec nm) lo) (partD (hi.dec nm) hi) none p) q
  | .tok e p q => .Subscript (.Name "EXACT_TOKEN_TYPES" p) (e.dec nm) q
  | .fn f xs p q => .Call (.Name f.nm p) (decL nm xs) [] q
  | .meth m o xs ap q => .Call (.Attribute (o.dec nm) m.nm ap) (decL nm xs) [] q
  | .repl o y z ky kz py pz ap q => .Call (.Attribute (o.dec nm) "replace" ap) [.Constant (.str (strOf y)) ky py, .Constant (.str (strOf z)) kz pz] [] q
  | .user f xs p q => .Call (.Name (ufName f) p) (decL nm xs) [] q
  | .rng xs p q => .Call (.Name "range" p) (decL nm xs) [] q
  | .rev x p q => .Call (.Name "reversed" p) [x.dec nm] [] q
  | .comp elt cls nm' _ p => .ListComp (elt.dec nm') (cls.gens nm nm') (compScope nm') p
  | .cl .. => .Constant .none 0 ⟨0, 0, 0, 0⟩
  | .endc => .Constant .none 0 ⟨0, 0, 0, 0⟩
  | .absent => .Constant .none 0 ⟨0, 0, 0, 0⟩
noncomputable def Ix.gens (nm0 nm : Names) : Ix → List Comprehension
  | .cl t it ifs r => ⟨t.dec nm, it.dec nm0, decL nm ifs, 0⟩ :: r.gens nm nm
  | _ => []
noncomputable def decL (nm : Names) : List Ix → List Expr
  | [] => []
  | x :: r => x.dec nm :: decL nm r
end
section
variable {α : Type}
noncomputable def look : Names → List (Option α) → Str → Option α
  | [], _, _ => none
  | n :: nm, ρ, x => match ρ with | [] => none | o :: ρ => if n.1 = x then o else look nm ρ x
theorem look_cons {n x : Str} {k : NameKind} {nm : Names} {o : Option α} {ρ : List (Option α)} : look ((n, k) :: nm) (o :: ρ) x = if n = x then o else look nm ρ x := rfl
theorem look_at : ∀ {nm : Names} {ρ : List (Option α)} {i : Nat} {x : Str} {k : NameKind}, (nm.map (·.1)).Nodup → nm[i]? = some (x, k) → look nm ρ x = (ρ[i]?).join
  | [], _, _, _, _, _, e => by simp at e
  | (n, k') :: nm, [], i, x, k, _, _ => by simp [look]
  | (n, k') :: nm, o :: ρ, 0, x, k, _, e => by simp at e; simp [look, e.1]
  | (n, k') :: nm, o :: ρ, i + 1, x, k, hd, e => by
    rw [List.map_cons, List.nodup_cons] at hd
    have hx : n ≠ x := fun q => hd.1 (by
      have := List.mem_of_getElem? (show nm[i]? = some (x, k) by simpa using e)
      exact q ▸ List.mem_map_of_mem (f := (·.1)) this)
    have ih := look_at (ρ := ρ) hd.2 (show nm[i]? = some (x, k) by simpa using e)
    simp only [look, if_neg hx, ih, List.getElem?_cons_succ]
theorem look_set : ∀ {nm : Names} {ρ : List (Option α)} {i : Nat} {x : Str} {k : NameKind} {d : Option α}, (nm.map (·.1)).Nodup → nm[i]? = some (x, k) → i < ρ.length → ∀ y, look nm (ρ.set i d) y = if y = x then d else look nm ρ y
  | [], _, _, _, _, _, _, e, _, _ => by simp at e
  | (n, k') :: nm, [], i, x, k, _, _, _, hl, _ => absurd hl (Nat.not_lt_zero _)
  | (n, k') :: nm, o :: ρ, 0, x, k, d, _, e, _, y => by
    simp at e
    simp only [List.set_cons_zero, look, e.1]
    by_cases q : x = y
    · rw [if_pos q, if_pos q.symm]
    · rw [if_neg q, if_neg (fun z => q z.symm), if_neg q]
  | (n, k') :: nm, o :: ρ, i + 1, x, k, d, hd, e, hl, y => by
    rw [List.map_cons, List.nodup_cons] at hd
    have hm : nm[i]? = some (x, k) := by simpa using e
    have hx : n ≠ x := fun q => hd.1 (by
      have := List.mem_of_getElem? hm
      exact q ▸ List.mem_map_of_mem (f := (·.1)) this)
    have ih := look_set (ρ := ρ) (d := d) hd.2 hm (by simpa using hl) y
    simp only [List.set_cons_succ, look]
    by_cases q : n = y
    · rw [if_pos q, if_pos q, if_neg (fun z => hx (q.trans z))]
    · rw [if_neg q, if_neg q, ih]
theorem lookup_at : ∀ {nm : Names} {i : Nat} {x : Str} {k : NameKind}, (nm.map (·.1)).Nodup → nm[i]? = some (x, k) → nm.lookup x = some k
  | [], _, _, _, _, e => by simp at e
  | (n, k') :: nm, 0, x, k, _, e => by simp at e; simp [List.lookup, e.1, e.2]
  | (n, k') :: nm, i + 1, x, k, hd, e => by
    rw [List.map_cons, List.nodup_cons] at hd
    have hm : nm[i]? = some (x, k) := by simpa using e
    have hx : n ≠ x := fun q => hd.1 (by
      have := List.mem_of_getElem? hm
      exact q ▸ List.mem_map_of_mem (f := (·.1)) this)
    have : (x == n) = false := by simpa using fun q => hx (Eq.symm q)
    simp only [List.lookup, this]
    exact lookup_at hd.2 hm
end
noncomputable def denR (dm : Dom) (nm : Names) (ρ : List (Option dm.V)) : Str → Option DV := fun x => (look nm ρ x).map dm.dv
section
variable (dm : Dom) (tab : Nat → List dm.V → Option dm.V)
noncomputable abbrev Ev (dm : Dom) := Bool → Ix → List (Option dm.V) → Option dm.V
noncomputable def evL {dm : Dom} (g : Ix → Option dm.V) : List Ix → Option (List dm.V)
  | [] => some []
  | x :: r => (g x).bind fun v => (evL g r).map fun vs => v :: vs
noncomputable def setAll {dm : Dom} : List (Nat × Pos) → List dm.V → List (Option dm.V) → Option (List (Option dm.V))
  | [], vs, ρ => o0 vs (some ρ)
  | i :: is, vs, ρ => oC vs fun v vs => if i.1 < ρ.length then setAll is vs (ρ.set i.1 (some v)) else none
noncomputable def setT {dm : Dom} (t : Tg) (v : dm.V) (ρ : List (Option dm.V)) : Option (List (Option dm.V)) := match t with
  | .one i _ => if i < ρ.length then some (ρ.set i (some v)) else none
  | .many is _ _ => oT v fun vs => setAll is vs ρ
noncomputable def fitR (k : Int) : Bool := decide (-1000000000 ≤ k) && decide (k ≤ 1000000000)
noncomputable def dmInt (k : Int) : dm.V := .int (dm.lit k)
noncomputable def rangeV (l : List dm.V) : Option (List dm.V) := oC l fun a r => match r with
  | [] => oI a fun n => (dm.val n).bind fun n => if fitR n then some ((rangeL 0 n).map (dmInt dm)) else none
  | b :: r => o0 r (oI a fun a => oI b fun b => (dm.val a).bind fun a => (dm.val b).bind fun b => if fitR a && fitR b then some ((rangeL a b).map (dmInt dm)) else none)
noncomputable def itemsV : dm.V → Option (List dm.V)
  | .list xs => some xs
  | .arr xs => some xs
  | .str x => some (x.map fun c => .str [c])
  | _ => none
noncomputable def evIt (g : Ix → Option dm.V) : Ix → Option (List dm.V)
  | .rng xs _ _ => (evL g xs).bind (rangeV dm)
  | .rev x _ _ => (g x).bind fun v => oL v fun xs => some xs.reverse
  | e => (g e).bind (itemsV dm)
noncomputable def catM {dm : Dom} (f : dm.V → Option (List dm.V)) : List dm.V → Option (List dm.V)
  | [] => some []
  | x :: r => (f x).bind fun a => (catM f r).map fun b => a ++ b
noncomputable def evIfs {dm : Dom} (g : Ix → Option dm.V) : List Ix → Option Bool
  | [] => some true
  | c :: r => (g c).bind fun v => oB v fun b => match b with | true => evIfs g r | false => some false
noncomputable def clsOf : Ix → List (Tg × Ix × List Ix)
  | .cl t it ifs r => (t, it, ifs) :: clsOf r
  | _ => []
noncomputable def Tg.idx : Tg → List Nat
  | .one i _ => [i]
  | .many is _ _ => is.map (·.1)
noncomputable def freeT {α : Type} (t : Tg) (ρ : List (Option α)) : Bool := t.idx.all fun i => match (ρ[i]?).join with | none => true | some _ => false
noncomputable def evC (ih : Ev dm) (elt : Ix) : List (Tg × Ix × List Ix) → List (Option dm.V) → List dm.V → Option (List dm.V)
  | [], _, _ => none
  | (t, _, ifs) :: [], ρ, xs => if freeT t ρ then catM (fun x => (setT t x ρ).bind fun ρ' => (evIfs (fun e => ih true e ρ') ifs).bind fun c => if c then (ih false elt ρ').map fun v => [v] else some []) xs else none
  | (t, _, ifs) :: (c2 :: r), ρ, xs => if freeT t ρ then catM (fun x => (setT t x ρ).bind fun ρ' => (evIfs (fun e => ih true e ρ') ifs).bind fun c => if c then (evIt dm (fun e => ih false e ρ') c2.2.1).bind fun ys => evC ih elt (c2 :: r) ρ' ys else some []) xs else none
noncomputable def linkR {dm : Dom} (link : List (Option Nat)) (ρ : List (Option dm.V)) : List (Option dm.V) := link.map fun o => o.bind fun j => (ρ[j]?).join
noncomputable def gcV : Gc → Option dm.V
  | .lim => some (.int (dm.lit 4000))
  | .mark => (dm.slit [46, 46, 46]).map .str
  | .endm => some (.int (dm.lit 0))
noncomputable def partP (o : Option dm.V) : Option (Option Int) := match o with
  | none => some none
  | some v => oI v fun d => (dm.val d).map some
noncomputable def fnP (f : Fn) (xs : List dm.V) : Option dm.V := match f with
  | .len => o1 xs (lenP dm)
  | .abs => o1 xs (absP dm)
  | .sum => o1 xs (sumP dm)
  | .max => o1 xs (maxP dm)
  | .divmod => o2 xs (divmodP dm)
noncomputable def tokP (tok : Nat → Option dm.D) (v : dm.V) : Option dm.V := oS v fun s => o1 s fun c => (tok c).map .int
noncomputable def repP (x n : dm.V) : Option dm.V := oI n fun n => (dm.val n).bind fun n => if decide (-1000000000 ≤ n) && decide (n ≤ 10000000) then some (.list (List.replicate n.toNat x)) else none
noncomputable def replP (x : dm.V) (y z : List Nat) : Option dm.V := oS x fun x => if x.length + (x.length + 1) * z.length ≤ fitLen ∧ y ≠ z then (dm.slit y).bind fun y' => (dm.slit z).map fun z' => .str (replaceL x y' z') else none
noncomputable def evStep (tok : Nat → Option dm.D) (ih : Ev dm) : Ev dm := fun mode e ρ => match mode with
  | true => match e with
    | .not a _ => (ih true a ρ).bind fun v => oB v fun b => some (.bool (!b))
    | .or a b _ => (ih true a ρ).bind fun v => oB v fun c => match c with | true => some (.bool true) | false => ih true b ρ
    | .cmp a op b _ => (ih false a ρ).bind fun x => (ih false b ρ).bind fun y => (cmpP dm op x y).map .bool
    | .ife .. => none
    | .un .. => none
    | e => (ih false e ρ).bind fun v => (truthP dm v).map .bool
  | false => match e with
    | .int i _ _ => some (.int (dm.lit i))
    | .str s _ _ => (dm.slit s).map .str
    | .non _ _ => some .none
    | .bool b _ _ => some (.bool b)
    | .var i _ => (ρ[i]?).join
    | .gc g _ => gcV dm g
    | .bin a op b _ => (ih false a ρ).bind fun x => (ih false b ρ).bind fun y => binP dm op x y
    | .un op a _ => (ih false a ρ).bind fun x => unP dm op x
    | .cmp a op b _ => (ih false a ρ).bind fun x => (ih false b ρ).bind fun y => (cmpP dm op x y).map .bool
    | .ife t a b _ => (ih true t ρ).bind fun v => oB v fun c => match c with | true => ih false a ρ | false => ih false b ρ
    | .tup xs _ _ => (evL (fun e => ih false e ρ) xs).bind fun vs => if vs.length ≤ fitLen then some (.tuple vs) else none
    | .lst xs _ => (evL (fun e => ih false e ρ) xs).bind fun vs => if vs.length ≤ fitLen then some (.list vs) else none
    | .rep x n _ _ => (ih false x ρ).bind fun x => (ih false n ρ).bind fun n => repP dm x n
    | .sub a i _ => (ih false a ρ).bind fun x => (ih false i ρ).bind fun y => getP dm x y
    | .subs a lo hi _ _ => (ih false a ρ).bind fun x => ((partE (ih false lo ρ) lo).bind (partP dm)).bind fun l =>
        ((partE (ih false hi ρ) hi).bind (partP dm)).bind fun h => sliceP dm x l h
    | .tok e _ _ => (ih false e ρ).bind (tokP dm tok)
    | .fn f xs _ _ => (evL (fun e => ih false e ρ) xs).bind (fnP dm f)
    | .meth m o xs _ _ => (ih false o ρ).bind fun x => (evL (fun e => ih false e ρ) xs).bind fun ys => methP dm m x ys
    | .repl o y z _ _ _ _ _ _ => (ih false o ρ).bind fun x => replP dm x y z
    | .user f xs _ _ => (evL (fun e => ih false e ρ) xs).bind (tab f)
    | .comp elt cls _ link _ => match clsOf cls with
      | [] => none
      | c :: r => (evIt dm (fun e => ih false e ρ) c.2.1).bind fun xs => (evC dm ih elt (c :: r) (linkR link ρ) xs).bind fun ys => if ys.length ≤ fitLen then some (.list ys) else none
    | _ => none
noncomputable def ev (tok : Nat → Option dm.D) (n : Nat) : Ev dm := Nat.rec (fun _ _ _ => none) (fun _ ih => evStep dm tab tok ih) n
end
noncomputable def isGl (nm : Names) (x : Str) : Bool := nm.lookup x == some .globalImplicit
noncomputable def wfVar (nm : Names) (i : Nat) : Bool := match nm[i]? with
  | some (x, k) => isVar (some k) && !(x == ("__classdict__" : Str)) && !(x == ("__debug__" : Str))
  | none => false
noncomputable def wfSt (nm : Names) (i : Nat) : Bool := match nm[i]? with
  | some (_, k) => k == .local || k == .cell
  | none => false
noncomputable def Tg.wf (nm : Names) : Tg → Bool
  | .one i _ => wfSt nm i
  | .many is _ _ => is.all fun x => wfSt nm x.1
noncomputable def okL1 (nm : Names) (o : Option Nat) (x : Str) (k : NameKind) : Bool := match k with
  | .free => (match o with
    | some j => (match nm[j]? with | some y => y.1 == x && (y.2 == .cell || y.2 == .free) | none => false)
    | none => false)
  | .globalExplicit => false
  | _ => o.isNone
noncomputable def okLink (nm nm' : Names) : List (Option Nat) → Names → Bool
  | [], [] => true
  | o :: os, y :: r => okL1 nm o y.1 y.2 && okLink nm nm' os r
  | _, _ => false
noncomputable def okBase : Ix → Bool
  | .var .. => true
  | .str .. => true
  | .meth .. => true
  | .repl .. => true
  | _ => false
mutual
noncomputable def Ix.wf (nm : Names) : Ix → Bool
  | .int .. => true
  | .str .. => true
  | .non .. => true
  | .bool .. => true
  | .var i _ => wfVar nm i
  | .gc g _ => isGl nm g.nm
  | .bin a _ b _ => a.wf nm && b.wf nm
  | .un _ a _ => a.wf nm
  | .cmp a _ b _ => a.wf nm && b.wf nm
  | .ife t a b _ => t.wf nm && a.wf nm && b.wf nm
  | .not a _ => a.wf nm
  | .or a b _ => a.wf nm && b.wf nm
  | .tup xs _ _ => wfL nm xs
  | .lst xs _ => wfL nm xs
  | .rep x n _ _ => x.wf nm && n.wf nm
  | .sub a i _ => a.wf nm && i.wf nm
  | .subs a lo hi _ _ => a.wf nm && lo.wf nm && hi.wf nm
  | .tok e _ _ => isGl nm "EXACT_TOKEN_TYPES" && e.wf nm
  | .fn f xs _ _ => isGl nm f.nm && wfL nm xs
  | .meth _ o xs ap q => o.wf nm && wfL nm xs && okBase o && (ap.endLine == q.line) && decide (xs.length < 20)
  | .repl o _ _ _ _ _ _ ap q => o.wf nm && okBase o && (ap.endLine == q.line)
  | .user f xs _ _ => isGl nm (ufName f) && wfL nm xs
  | .rng xs _ _ => isGl nm "range" && wfL nm xs
  | .rev x _ _ => isGl nm "reversed" && x.wf nm
  | .comp elt cls nm' link _ => elt.wf nm' && cls.wfC nm nm' && okLink nm nm' link nm' && decide ((nm'.map (·.1)).Nodup)
  | .cl .. => false
  | .endc => false
  | .absent => true
noncomputable def Ix.wfC (nm0 nm : Names) : Ix → Bool
  | .cl t it ifs r => t.wf nm && it.wf nm0 && wfL nm ifs && r.wfC nm nm
  | .endc => true
  | _ => false
noncomputable def wfL (nm : Names) : List Ix → Bool
  | [] => true
  | x :: r => x.wf nm && wfL nm r
end
theorem dec_noSlice (nm : Names) (e : Ix) : noSlice (e.dec nm) = true := by cases e <;> rfl
theorem dec_noMarks (nm : Names) (op : CmpOp) (e : Ix) : behindInMarks op (e.dec nm) = false := by cases e <;> rfl
theorem dec_noFold (nm : Names) (e : Ix) (env : Env) (x : Value) : foldedSetIterable (e.dec nm) env x = pure x := by cases e <;> rfl
theorem dec_star (nm : Names) (e : Ix) (r : List Expr) (env : Env) : starEach (e.dec nm :: r) env = (false, eval (e.dec nm) env) :: starEach r env := by cases e <;> rfl
theorem decL_plain (nm : Names) (env : Env) (pos : Pos) : ∀ xs : List Ix, (backTo pos (starEach (decL nm xs) env)).any (·.1) = false
  | [] => rfl
  | x :: r => by rw [decL, dec_star]; exact decL_plain nm env pos r
theorem decL_all (nm : Names) (env : Env) (pos : Pos) : ∀ xs : List Ix, (backTo pos (starEach (decL nm xs) env)).all (fun x => !x.1) = true
  | [] => rfl
  | x :: r => by rw [decL, dec_star]; exact decL_all nm env pos r
theorem decL_length (nm : Names) : ∀ xs : List Ix, (decL nm xs).length = xs.length
  | [] => rfl
  | x :: r => by rw [decL, List.length_cons, List.length_cons, decL_length nm r]
theorem dec_base {nm : Names} {o : Ix} (h : okBase o = true) (attr : Str) (env : Env) (m : Sem Value) : attributeBase (o.dec nm) attr env m = m := by
  cases o <;> first | rfl | exact bF h
noncomputable def plainT : Ix → Prop
  | .not .. => False
  | .or .. => False
  | .cmp .. => False
  | .ife .. => False
  | .un .. => False
  | _ => True
theorem dec_plainTest {nm : Names} {e : Ix} {env : Env} {m : Sem Value} (h : plainT e) :
    isTrue (e.dec nm) env m = (do let v ← m; standAt (e.dec nm).pos; holding [v] (truthy v)) := by
  cases e <;> first | rfl | exact h.elim
noncomputable def gcVal (g : Gc) (t : Tok) : Value := match g with
  | .lim => .int 4000 t
  | .mark => .str (strOf [46, 46, 46]) t
  | .endm => .int 0 t
structure UserOk (prog : Program) (w : World) (dm : Dom) (H : Heap) (r : Nat) (f : Nat) (F : List dm.V → Option dm.V) : Prop where
  ok : ∃ a, GlobIs H (ufName f) (.ref a) ∧ (∃ o fd, o.data = .func fd ∧ ∀ s, Inv H s → s.heap.get? a = some o) ∧
    ∀ xs d, F xs = some d → ∀ (A : Around) (s : Shared) (P : Addr → Prop) (vs : List Value), Room r A → Inv H s → (∀ b, s.heap.objs.size ≤ b → P b) → RepL P s.heap vs (dm.dvs xs) → Ok (model prog w) A (call (.ref a) vs) (Post P s (dm.dv d)) s
structure Cx (prog : Program) (w : World) (dm : Dom) (H : Heap) (tab : Nat → List dm.V → Option dm.V) (tok : Nat → Option dm.D) (r : Nat) : Prop where
  fn : ∀ f : Fn, GlobIs H f.nm (.builtin f.bid)
  gc : ∀ g : Gc, ∃ t, GlobIs H g.nm (gcVal g t)
  rng : GlobIs H "range" (.type "range")
  rev : GlobIs H "reversed" (.type "reversed")
  big : 37 < H.objs.size
  tok : ∃ a, GlobIs H "EXACT_TOKEN_TYPES" (.ref a) ∧ ∀ (A : Around) (E : Value → Shared → Prop) (s : Shared) (x : Nat) (d : dm.D) (t : Tok) (value slice : Expr) (Q : Value → Shared → Prop), Inv H s → noSlice slice = true → tok x = some d →
    (∀ t, Q (.int (dm.den d) t) { s with toks := s.toks + 1 }) → wpAny (model prog w) A (subscriptTail value slice (.ref a) (.str (strOf [dm.chr x]) t)) Q E s
  user : ∀ f, (∃ xs d, tab f xs = some d) → UserOk prog w dm H r f (tab f)
structure EvOk (prog : Program) (w : World) (dm : Dom) (H : Heap) (r : Nat) (ih : Ev dm) : Prop where
  val : ∀ (e : Ix) (d : dm.V) (ρ : List (Option dm.V)) (nm : Names) (env : Env) (P : Addr → Prop) (s : Shared) (A : Around), e.wf nm = true → ih false e ρ = some d → Room r A → Inv H s → View nm env P (denR dm nm ρ) s.heap →
    Ok (model prog w) A (eval (e.dec nm) env) (Post P s (dm.dv d)) s
  test : ∀ (e : Ix) (d : dm.V) (ρ : List (Option dm.V)) (nm : Names) (env : Env) (P : Addr → Prop) (s : Shared) (A : Around), e.wf nm = true → ih true e ρ = some d → Room r A → Inv H s → View nm env P (denR dm nm ρ) s.heap →
    Ok (model prog w) A (isTrue (e.dec nm) env (eval (e.dec nm) env)) (fun c s' => d = .bool c ∧ Step none' s s') s
section
variable {prog : Program} {w : World} {dm : Dom} {H : Heap} {r : Nat} {ih : Ev dm} {A : Around} {E : Value → Shared → Prop} {s : Shared} {nm : Names} {env : Env} {P : Addr → Prop} {ρ : List (Option dm.V)}
structure On (H : Heap) (nm : Names) (env : Env) (P : Addr → Prop) (δ : Str → Option DV) (s₀ s : Shared) : Prop where
  step : Step none' s₀ s
  inv : Inv H s
  view : View nm env P δ s.heap
  le : LeS s₀ s
theorem On.start {δ : Str → Option DV} (I : Inv H s) (V : View nm env P δ s.heap) : On H nm env P δ s s := ⟨.refl _ _, I, V, .refl _⟩
theorem On.go {δ : Str → Option DV} {s₀ s₁ : Shared} (x : On H nm env P δ s₀ s) (y : Step none' s s₁) (l : LeS s s₁) : On H nm env P δ s₀ s₁ :=
  ⟨x.step.then y, x.inv.step0 y l, x.view.step0 x.inv.tabs y, x.le.trans l⟩
theorem On.push {δ : Str → Option DV} {s₀ : Shared} (x : On H nm env P δ s₀ s) (o : Obj) {tk : Nat} (h : s.toks ≤ tk) : On H nm env P δ s₀ { s with heap := s.heap.push o, toks := tk } := x.go .push ⟨h, Nat.le_trans (Nat.le_succ _) (Nat.le_of_eq (Heap.size_push ..).symm)⟩
theorem rep_on {v : Value} {d : DV} {s' : Shared} (T : Tabs s.heap) (y : Step none' s s') (q : Rep P s.heap v d) : Rep P s'.heap v d := rep_step T y (fun _ _ z => z) q
theorem EvOk.go {s₀ : Shared} {e : Ix} {d : dm.V} {Q : Value → Shared → Prop} (O : EvOk prog w dm H r ih) (hw : e.wf nm = true) (he : ih false e ρ = some d) (R : Room r A) (x : On H nm env P (denR dm nm ρ) s₀ s)
    (k : ∀ v s', On H nm env P (denR dm nm ρ) s₀ s' → Step none' s s' → Rep P s'.heap v (dm.dv d) → Q v s') : wpAny (model prog w) A (eval (e.dec nm) env) Q E s :=
  Ok.any ((O.val e d ρ nm env P s A hw he R x.inv x.view).le.mono fun v s' q => k v s' (x.go q.1.1 q.2) q.1.1 q.1.2)
theorem EvOk.goT {s₀ : Shared} {e : Ix} {b : Bool} {Q : Bool → Shared → Prop} (O : EvOk prog w dm H r ih) (hw : e.wf nm = true) (he : ih true e ρ = some (.bool b)) (R : Room r A) (x : On H nm env P (denR dm nm ρ) s₀ s)
    (k : ∀ s', On H nm env P (denR dm nm ρ) s₀ s' → Q b s') : wpAny (model prog w) A (isTrue (e.dec nm) env (eval (e.dec nm) env)) Q E s :=
  Ok.any ((O.test e _ ρ nm env P s A hw he R x.inv x.view).le.mono fun c s' q => by
    refine xA q ?_; clear q; rintro ⟨e1, e2⟩ l
    cases e1
    exact k s' (x.go e2 l))
theorem evL_ok {s₀ : Shared} {pos : Pos} (O : EvOk prog w dm H r ih) (R : Room r A) : ∀ {xs : List Ix} {vs : List dm.V} {s : Shared} {Q : List Value → Shared → Prop}, wfL nm xs = true → evL (fun e => ih false e ρ) xs = some vs → On H nm env P (denR dm nm ρ) s₀ s →
    (∀ us s', On H nm env P (denR dm nm ρ) s₀ s' → Step none' s s' → RepL P s'.heap us (dm.dvs vs) → Q us s') → wpAny (model prog w) A (spliced (backTo pos (starEach (decL nm xs) env))) Q E s
  | [], vs, s, Q, _, e, x, k => by (have zz := Option.some.inj e; clear e; subst zz); exact args_nil (k [] s x (.refl _ _) .nil)
  | e :: xs, vs, s, Q, hw, he, x, k => by
    rw [wfL, Bool.and_eq_true] at hw
    refine xBind he ?_; clear he; intro v h1 he
    refine xMap he ?_; rintro vs' h2 rfl
    rw [decL]
    refine args_cons ?_ (dec_star _ _ _ _)
    refine O.go hw.1 h1 R x fun u s₁ x₁ y₁ r₁ => ?_
    refine evL_ok O R hw.2 h2 x₁ fun us s₂ x₂ y₂ r₂ => ?_
    exact k (u :: us) s₂ x₂ (y₁.then y₂) (.cons (rep_on x₁.inv.tabs y₂ r₁) r₂)
theorem post_go {s₀ : Shared} {d : dm.V} {δ : Str → Option DV} (x : On H nm env P δ s₀ s) {v : Value} {s' : Shared} (q : Post P s (dm.dv d) v s') : Post P s₀ (dm.dv d) v s' := ⟨x.step.then q.1, q.2⟩
end
section
variable {prog : Program} {w : World} {dm : Dom} {H : Heap} {tab : Nat → List dm.V → Option dm.V} {tok : Nat → Option dm.D} {r : Nat} {ih : Ev dm} {A : Around} {E : Value → Shared → Prop} {s : Shared} {nm : Names} {env : Env} {P : Addr → Prop} {ρ : List (Option dm.V)}
theorem room_h (R : Room r A) : A.handled = none := R.handled
theorem isGl_ok {x : Str} (h : isGl nm x = true) : nm.lookup x = some .globalImplicit := by
  unfold isGl at h
  simpa using h
theorem glob_go {s₀ : Shared} {δ : Str → Option DV} {x : Str} {v : Value} {p : Pos} {Q : Value → Shared → Prop} (X : On H nm env P δ s₀ s) (hg : isGl nm x = true) (G : GlobIs H x v) (hd : (x == ("__debug__" : Str)) = false) (h : Q v s) :
    wpAny (model prog w) A (eval (.Name x p) env) Q E s := wpAny_Name (X.view.global X.inv (isGl_ok hg) G h) hd
theorem fn_ok {f : Fn} {xs : List dm.V} {d : dm.V} {vs : List Value} {Q : Value → Shared → Prop} (hh : A.handled = none) (hf : ∀ c, s.heap.objs.size ≤ c → P c) (e : fnP dm f xs = some d) (q : RepL P s.heap vs (dm.dvs xs)) (h : ∀ v s', Post P s (dm.dv d) v s' → Q v s') :
    wpAny (model prog w) A (call (.builtin f.bid) vs) Q E s := by
  cases f with
  | len => refine o1_i e ?_; clear e; rintro x rfl e; refine q.c1 ?_; rintro v rfl q; exact len_ok e q h
  | abs => refine o1_i e ?_; clear e; rintro x rfl e; refine q.c1 ?_; rintro v rfl q; exact abs_ok e q h
  | sum => refine o1_i e ?_; clear e; rintro x rfl e; refine q.c1 ?_; rintro v rfl q; exact sum_ok hh e q h
  | max => refine o1_i e ?_; clear e; rintro x rfl e; refine q.c1 ?_; rintro v rfl q; exact max_ok hh e q h
  | divmod => refine o2_i e ?_; clear e; rintro x y rfl e; refine q.c2 ?_; rintro v u rfl q1 q2; exact divmod_ok hf e q1 q2 h
theorem dvs_rep (n : Nat) (x : dm.V) : dm.dvs (List.replicate n x) = List.replicate n (dm.dv x) := by
  show PV.denL dm.den dm.chr _ = _
  rw [PV.denL_eq, List.map_replicate]
theorem repL_replicate {h : Heap} {v : Value} {d : DV} (q : Rep P h v d) : ∀ n : Nat, RepL P h (List.replicate n v) (List.replicate n d)
  | 0 => .nil
  | n + 1 => by rw [List.replicate_succ, List.replicate_succ]; exact .cons q (repL_replicate q n)
theorem foldl_rep1 (v : Value) : ∀ (n : Nat) (a : Array Value), List.foldl (fun x1 x2 => x1 ++ x2) a (List.replicate n #[v]) = a ++ (List.replicate n v).toArray
  | 0, a => by simp
  | n + 1, a => by
    rw [List.replicate_succ, List.foldl_cons, foldl_rep1 v n, List.replicate_succ]
    apply Array.ext'
    simp
theorem rep_exact {a : Addr} {v : Value} {k : Nat} {n : Int} {u : Tok} {Q : Value → Shared → Prop} (hl : s.heap.get? a = some { cls := .type "list", dict := none, data := .seq #[v] k, slots := #[] })
    (h1 : -1000000000 ≤ n) (h2 : n ≤ 10000000) (h : Q (.ref s.heap.objs.size) { s with heap := s.heap.push { cls := .type "list", data := .seq (List.replicate n.toNat v).toArray } }) :
    wpAny (model prog w) A (binaryOp .Mult (.ref a) (.int n u)) Q E s :=
  wpAny_binaryOp_repeat_ref (T := "list") (U := "int") (by decide) ⟨_, hl, rfl⟩ (fun s' => typeIs_int s' n u) noFill_list_mul F.fills_int_mul F.slot_int_rmul repeat_list F.slot_int_index.lookup
    (call_meets F.slot_int_rmul (typeIs_int s n u) F.entry_int_rmul (F.args_int_rmul_2 _ _) (int___rmul___int_list n u a #[v] k)
      ⟨hl, rfl, ⟨_, hl, rfl⟩, call_meets F.slot_list_mul ⟨_, hl, rfl⟩ F.entry_list_mul (F.args_list_mul_2 _ _)
        (AutoListH.list___mul___list_int_3 a #[v] k n u (by simp [Builtin.List.listFitsIndex]; lia) (by simp; lia) (by simp [Builtin.List.listTooLong, sizeLine]; lia))
        ⟨hl, by
          have e : List.foldl (fun x1 x2 => x1 ++ x2) #[] (List.replicate (if (#[v] : Array Value).isEmpty = true then 0 else n.toNat) #[v]) = (List.replicate n.toNat v).toArray := by
            rw [if_neg (by simp), foldl_rep1]; simp
          rw [e]; exact h⟩⟩)
theorem repl_ok {o c : dm.V} {y z : List Nat} {ov : Value} {t u : Tok} {Q : Value → Shared → Prop} (e : replP dm o y z = some c) (ra : Rep P s.heap ov (dm.dv o)) (h1 : t ≠ 0) (h2 : u ≠ 0) (h3 : t ≠ u)
    (h : ∀ v s', Post P s (dm.dv c) v s' → Q v s') : s.TypeIs ov "str" ∧ (∀ a, ov ≠ .ref a) ∧ wpAny (model prog w) A (call (.builtin "str.replace") [ov, .str (strOf y) t, .str (strOf z) u]) Q E s := by
  refine oS_i e ?_; clear e; rintro x rfl e
  refine ifS e fun hz e => ?_
  refine xBind e ?_; clear e; intro y' hy e
  refine xMap e ?_; clear e; rintro z' hz' rfl
  have ey := dm.slit_ok _ _ hy
  have ez := dm.slit_ok _ _ hz'
  (refine xE (Rep.inv ra) ?_; clear ra; intro zt zq; subst zq)
  refine ⟨typeIs_str _ _ _, (fun a q => nomatch q), ?_⟩
  refine SC.replace h1 h2 h3 ?_ (by rw [strOf_length, strOf_length, List.length_map]; exact hz.1) fun t' k => ?_
  · rw [beq_strOf]; simpa using hz.2
  · rw [replace_list, ← ey, ← ez]
    have : replaceL (x.map dm.chr) (y'.map dm.chr) (z'.map dm.chr) = (replaceL x y' z').map dm.chr := by
      unfold replaceL
      rw [occL_map dm.chr_inj, List.length_map, List.length_map, List.length_map, partsL_map, gluedL_map]
      split <;> rfl
    rw [this]
    exact h _ _ ⟨.toks k, .str _ t'⟩
theorem method_go {o : Expr} {name : Str} {id : String} {T : String} {apos pos : Pos} {args : List Expr} {Q : Value → Shared → Prop}
    (hbase : attributeBase o name env (eval o env) = eval o env)
    (hall : (backTo pos (starEach args env)).all (fun x => !x.1) = true) (hlen : args.length < 20)
    (hline : (apos.endLine == pos.line) = true) (pa : PlainAttrs T) (sl : Slot T name id) (ty : typeOf (.builtin id) = pure (.type "method_descriptor"))
    (h : wpAny (model prog w) A (eval o env) (fun ov s₁ => (s₁.TypeIs ov T ∧ (∀ a, ov = .ref a → ∃ ob, s₁.heap.get? a = some ob ∧ ob.dict = none)) ∧ wpAny (model prog w) A (callWith pos (.builtin id) [ov] (backTo pos (starEach args env)) []) Q E s₁) E s) :
    wpAny (model prog w) A (eval (.Call (.Attribute o name apos) args [] pos) env) Q E s := by
  refine wpAny_Call_method_lateS hbase ?_ hline (wpAny_mono h (fun ov s₁ q => ⟨T, id, pa, sl, ty, q.1.1, q.1.2, q.2⟩) fun _ _ e => e)
  rw [hall, show keywordEach [] env = [] from rfl]
  simp only [backToKw, List.map_nil, List.all_nil, Bool.true_and, List.length_nil, List.isEmpty_nil, if_true, Nat.add_zero, decide_eq_true_eq]
  lia
theorem const_str {x : Str} {k : Nat} {p : Pos} {Q : Value → Shared → Prop} (h : Q (.str x s.toks) { s with toks := s.toks + 1 }) : wpAny (model prog w) A (eval (.Constant (.str x) k p) env) Q E s := fun _ _ _ => h
theorem args_dec {f : Value} {pos : Pos} {xs : List Ix} {Q : Args → Shared → Prop} (h : wpAny (model prog w) A (spliced (backTo pos (starEach (decL nm xs) env))) (fun vs s₁ => Q ⟨vs, []⟩ s₁) E s) :
    wpAny (model prog w) A (evalArgs f true (backTo pos (starEach (decL nm xs) env)) []) Q E s := by
  cases xs with
  | nil =>
    unfold evalArgs
    show wpAny _ A (spliced [] >>= _) Q E s
    refine wpAny_bind (wpAny_mono (show wpAny _ A (spliced []) _ E s from h) (fun vs s' h' => wpAny_bind (wpAny_pure ?_)) fun _ _ x => x)
    refine wpAny_holding ?_
    exact wpAny_bind (wpAny_pure (wpAny_bind (wpAny_pure (wpAny_pure h'))))
  | cons x r =>
    rw [decL, dec_star] at h ⊢
    exact evalArgs_plain h
theorem list_exact {a : Addr} {its : Array Value} {k : Nat} {s₀ s' : Shared} (T : Tabs s₀.heap) (y : Step none' s₀ s')
    (e : s₀.heap.get? a = some { cls := .type "list", dict := none, data := .seq its k, slots := #[] }) : s'.heap.get? a = some { cls := .type "list", dict := none, data := .seq its k, slots := #[] } := by
  refine xA (T.ne e (fun vs q => by cases q)) ?_; intro n1 n2
  exact y.keep a _ (fun q => q) n1 n2 e
theorem ufName_plain (f : Nat) : (ufName f == ("__debug__" : Str)) = false := by
  unfold ufName
  rcases Nat.lt_or_ge f 20 with h | h
  · have : ∀ g, g < 20 → ((ufNames[g]?).getD Str.empty == ("__debug__" : Str)) = false := by decide +kernel
    exact this f h
  · rw [List.getElem?_eq_none (by simpa [ufNames] using h)]; decide +kernel
noncomputable def LstK (dm : Dom) (H : Heap) (nm : Names) (env : Env) (P : Addr → Prop) (ρ : List (Option dm.V)) (s₀ s : Shared) (xs : List dm.V) (Q : Value → Shared → Prop) : Prop :=
  ∀ a items s', On H nm env P (denR dm nm ρ) s₀ s' → Step none' s s' → s.heap.objs.size ≤ a → IsLx s'.heap a items → RepL (fun b => P b ∧ b ≠ a) s'.heap items.toList (dm.dvs xs) → Q (.ref a) s'
theorem lst_go {s₀ : Shared} (O : EvOk prog w dm H r ih) {es : List Ix} {p : Pos} {d : dm.V} {Q : Value → Shared → Prop} (hw : (Ix.lst es p).wf nm = true) (he : evStep dm tab tok ih false (.lst es p) ρ = some d) (R : Room r A) (X : On H nm env P (denR dm nm ρ) s₀ s)
    (k : ∀ xs, d = .list xs → LstK dm H nm env P ρ s₀ s xs Q) : wpAny (model prog w) A (eval ((Ix.lst es p).dec nm) env) Q E s := by
  refine xBind he ?_; clear he; intro vs h1 he
  refine ifS he fun hz he => ?_
  refine wpAny_List (evL_ok O R hw h1 X fun us s₁ x₁ y₁ r₁ => ?_)
  refine ⟨by rw [r₁.length, sizeLine_eq, denL_length]; exact hz, k vs (Option.some.inj he).symm _ us.toArray _ (x₁.push _ (Nat.le_refl _)) (y₁.then .push) y₁.size ⟨_, Heap.get?_push_size _ rfl⟩ ?_⟩
  rw [List.toList_toArray]
  exact repL_push (r₁.weak fun b pb lb => ⟨pb, Nat.ne_of_lt lb⟩)
theorem rep_go {s₀ : Shared} (O : EvOk prog w dm H r ih) {x n : Ix} {p q : Pos} {d : dm.V} {Q : Value → Shared → Prop} (hw : (Ix.rep x n p q).wf nm = true) (he : evStep dm tab tok ih false (.rep x n p q) ρ = some d) (R : Room r A) (X : On H nm env P (denR dm nm ρ) s₀ s)
    (k : ∀ xs, d = .list xs → LstK dm H nm env P ρ s₀ s xs Q) : wpAny (model prog w) A (eval ((Ix.rep x n p q).dec nm) env) Q E s := by
  replace hw := and2 hw
  refine xBind he ?_; clear he; intro v h1 he
  refine xBind he ?_; clear he; intro m h2 he
  refine oI_i he ?_; clear he; rintro n' rfl he
  refine xBind he ?_; clear he; intro i hi he
  refine ifS he fun hz he => ?_
  replace hz := and2 hz
  have ei := dm.val_den _ _ hi
  refine wpAny_BinOp (wpAny_List (args_cons (O.go hw.1 h1 R X fun u s₁ x₁ y₁ r₁ => args_nil ⟨by rw [sizeLine_eq]; exact Nat.le_of_ble_eq_true rfl, ?_⟩) (dec_star _ _ _ _)))
  have st : Step none' s₁ { s₁ with heap := s₁.heap.push { cls := .type "list", data := .seq [u].toArray } } := .push (tk := s₁.toks)
  have x₁' := x₁.push { cls := .type "list", data := .seq [u].toArray } (Nat.le_refl _)
  refine O.go hw.2 h2 R x₁' fun vn s₂ x₂ y₂ r₂ => ?_
  (refine xE (Rep.inv r₂) ?_; clear r₂; intro zt zq; subst zq)
  have ru := rep_on x₁'.inv.tabs y₂ (rep_on x₁.inv.tabs st r₁)
  have hl := list_exact x₁'.inv.tabs y₂ (Heap.get?_push_size _ rfl)
  rw [ei]
  refine rep_exact hl (of_decide_eq_true hz.1) (of_decide_eq_true hz.2) (k _ (Option.some.inj he).symm _ (List.replicate i.toNat u).toArray _ (x₂.push _ (Nat.le_refl _)) ((y₁.then st).then (y₂.then .push)) ((y₁.then st).then y₂).size ⟨_, Heap.get?_push_size _ rfl⟩ ?_)
  rw [dvs_rep, List.toList_toArray]
  exact repL_push (repL_replicate (ru.weak fun b pb lb => ⟨pb, Nat.ne_of_lt lb⟩) _)
theorem lst_post (V : View nm env P (denR dm nm ρ) s.heap) {d : dm.V} (xs : List dm.V) (e : d = .list xs) : LstK dm H nm env P ρ s s xs (Post P s (dm.dv d)) := fun _ _ _ x _ ha l q => e ▸ ⟨x.step, .list (V.fresh _ ha) l (q.weak fun _ pb _ => pb.1)⟩
theorem val_case (C : Cx prog w dm H tab tok r) (O : EvOk prog w dm H r ih) {e : Ix} {d : dm.V} (hne : ∀ elt cls nm' link p, e ≠ .comp elt cls nm' link p) (hw : e.wf nm = true) (he : evStep dm tab tok ih false e ρ = some d)
    (R : Room r A) (I : Inv H s) (V : View nm env P (denR dm nm ρ) s.heap) : Ok (model prog w) A (eval (e.dec nm) env) (Post P s (dm.dv d)) s := by
  have X := On.start I V
  have hh := R.handled
  have R0 : Room 0 A := R.le (Nat.zero_le _)
  cases e with
  | int i k p => (have zz := Option.some.inj he; clear he; subst zz); exact wpAny_Constant_int (lit_post (P := P) (dm := dm) fun v s' q => q)
  | str x k p =>
    refine xMap he ?_; rintro y hy rfl
    have q := dm.slit_ok _ _ hy
    refine const_str ⟨.toks _, ?_⟩
    show Rep _ _ _ (.str (y.map dm.chr))
    rw [q]; exact .str _ _
  | non k p => (have zz := Option.some.inj he; clear he; subst zz); exact Constant_none ⟨.refl _ _, .none⟩
  | bool b k p => (have zz := Option.some.inj he; clear he; subst zz); exact Constant_bool ⟨.refl _ _, .bool b⟩
  | var i p =>
    replace hw : wfVar nm i = true := hw
    unfold wfVar at hw
    cases hn : nm[i]? with
    | none => rw [hn] at hw; exact bF hw
    | some xk =>
      obtain ⟨x, k⟩ := xk
      rw [hn] at hw
      simp only [Bool.and_eq_true, Bool.not_eq_true'] at hw
      have en : nmAt nm i = x := by unfold nmAt; rw [hn]
      show wpAny _ _ (eval (.Name (nmAt nm i) p) env) _ _ _
      rw [en]
      have hl := lookup_at V.nodup hn
      refine wpAny_Name (V.load (by rw [hl]; exact hw.1.1) (d := dm.dv d) ?_ hw.1.2 fun v q => ⟨.refl _ _, q⟩) hw.2
      show (look nm ρ x).map dm.dv = _
      rw [look_at V.nodup hn]
      have he' : (ρ[i]?).join = some d := he
      rw [he']; rfl
  | gc g p =>
    refine xE (C.gc g) ?_; intro t G
    refine glob_go X hw G (by cases g <;> decide) ?_
    cases g with
    | lim => (have zz := Option.some.inj he; clear he; subst zz); exact ⟨.refl _ _, by show Rep _ _ _ (.int (dm.den (dm.lit 4000))); rw [dm.lit_den]; exact .int _ _⟩
    | mark =>
      refine xMap he ?_; rintro y hy rfl
      have q := dm.slit_ok _ _ hy
      exact ⟨.refl _ _, by show Rep _ _ _ (.str (y.map dm.chr)); rw [q]; exact .str _ _⟩
    | endm => (have zz := Option.some.inj he; clear he; subst zz); exact ⟨.refl _ _, by show Rep _ _ _ (.int (dm.den (dm.lit 0))); rw [dm.lit_den]; exact .int _ _⟩
  | bin a op b p =>
    replace hw := and2 hw
    refine xBind he ?_; clear he; intro x h1 he
    refine xBind he ?_; clear he; intro y h2 he
    refine wpAny_BinOp (O.go hw.1 h1 R X fun u s₁ x₁ y₁ r₁ => O.go hw.2 h2 R x₁ fun v s₂ x₂ y₂ r₂ => ?_)
    exact bin_ok x₂.view.fresh he (rep_on x₁.inv.tabs y₂ r₁) r₂ fun v s' q => post_go x₂ q
  | un op a p =>
    refine xBind he ?_; clear he; intro x h1 he
    exact UnaryOp_ (O.go hw h1 R X fun u s₁ x₁ y₁ r₁ => un_ok he r₁ fun v s' q => post_go x₁ q)
  | cmp a op b p =>
    replace hw := and2 hw
    refine xBind he ?_; clear he; intro x h1 he
    refine xBind he ?_; clear he; intro y h2 he
    refine xMap he ?_; rintro c hc rfl
    refine wpAny_Compare1 (O.go hw.1 h1 R X fun u s₁ x₁ y₁ r₁ => O.go hw.2 h2 R x₁ fun v s₂ x₂ y₂ r₂ => ?_) (dec_noMarks _ _ _)
    exact cmp_ok R0 hc (rep_on x₁.inv.tabs y₂ r₁) r₂ ⟨x₂.step, .bool c⟩
  | ife t a b p =>
    replace hw := and3 hw
    refine xBind he ?_; clear he; intro x h1 he
    refine oB_i he ?_; clear he; rintro c rfl he
    refine IfExp_ (O.goT hw.1.1 h1 R X fun s₁ x₁ => ?_)
    cases c with
    | true => exact O.go hw.1.2 he R x₁ fun v s₂ x₂ y₂ r₂ => ⟨x₂.step, r₂⟩
    | false => exact O.go hw.2 he R x₁ fun v s₂ x₂ y₂ r₂ => ⟨x₂.step, r₂⟩
  | not a p => exact nS he
  | or a b p => exact nS he
  | tup xs k p =>
    refine xBind he ?_; clear he; intro vs h1 he
    refine ifS he fun hz he => ?_
    (have zz := Option.some.inj he; clear he; subst zz)
    refine wpAny_Tuple (evL_ok O R hw h1 X fun us s₁ x₁ y₁ r₁ => ?_)
    refine ⟨by rw [r₁.length, sizeLine_eq, denL_length]; exact hz, x₁.step.then .push, ?_⟩
    refine .tuple (items := us.toArray) (x₁.view.fresh _ (Nat.le_refl _)) ⟨_, Heap.get?_push_size _ rfl, rfl, _, rfl⟩ ?_
    rw [List.toList_toArray]; exact repL_push r₁
  | lst xs p => exact lst_go O hw he R X (lst_post V)
  | rep x n p q => exact rep_go O hw he R X (lst_post V)
  | sub a i p =>
    replace hw := and2 hw
    refine xBind he ?_; clear he; intro x h1 he
    refine xBind he ?_; clear he; intro y h2 he
    refine Subscript_ (O.go hw.1 h1 R X fun u s₁ x₁ y₁ r₁ => O.go hw.2 h2 R x₁ fun v s₂ x₂ y₂ r₂ => ?_)
    exact get_ok (dec_noSlice _ _) he (rep_on x₁.inv.tabs y₂ r₁) r₂ fun v s' q => post_go x₂ q
  | subs a lo hi p q =>
    replace hw := and3 hw
    refine xBind he ?_; clear he; intro x h1 he
    refine xBind he ?_; clear he; intro l h2 he
    refine xBind he ?_; clear he; intro h h3 he
    refine Subscript_ (O.go hw.1.1 h1 R X fun u s₁ x₁ y₁ r₁ => wpAny_Slice ?_)
    have part : ∀ {e : Ix} {l : Option Int} {s₁ : Shared} {Q : Value → Shared → Prop}, e.wf nm = true → ((partE (ih false e ρ) e).bind (partP dm)) = some l → On H nm env P (denR dm nm ρ) s s₁ →
        (∀ v s₂, On H nm env P (denR dm nm ρ) s s₂ → Step none' s₁ s₂ → IsPart v l → Q v s₂) → wpAny (model prog w) A (evalPart (partD (e.dec nm) e) env) Q (fun _ _ => False) s₁ := by
      intro e l s₁ Q hw he x₁ k
      have gen : ∀ (he : ((ih false e ρ).map some).bind (partP dm) = some l), wpAny (model prog w) A (evalPart (some (e.dec nm)) env) Q (fun _ _ => False) s₁ := by
        intro he
        refine xBind he ?_; clear he; intro o ho he
        refine xMap ho ?_; rintro y hy rfl
        refine wpAny_evalPart_some (O.go hw hy R x₁ fun v s₂ x₂ y₂ r₂ => k v s₂ x₂ y₂ ?_)
        refine oI_i he ?_; clear he; rintro dd rfl he
        refine xMap he ?_; clear he; rintro i hi rfl
        have ei := dm.val_den _ _ hi
        (refine xE (Rep.inv r₂) ?_; clear r₂; intro zt zq; subst zq)
        rw [ei]
        exact .int i _
      cases e with
      | absent => (have zz := Option.some.inj he; clear he; subst zz); exact wpAny_evalPart_none (k .none s₁ x₁ (.refl _ _) .none)
      | _ => exact gen he
    refine part hw.1.2 h2 x₁ fun vl s₂ x₂ y₂ pl => part hw.2 h3 x₂ fun vu s₃ x₃ y₃ pu => wpAny_evalPart_none ?_
    exact slice_ok x₃.view.fresh rfl he (rep_on x₂.inv.tabs y₃ (rep_on x₁.inv.tabs y₂ r₁)) pl pu fun v s' q => post_go x₃ q
  | tok e p q =>
    replace hw := and2 hw
    refine xBind he ?_; clear he; intro x h1 he
    refine xEA C.tok ?_; intro a G K
    refine Subscript_ (glob_go X hw.1 G (by decide) (O.go hw.2 h1 R X fun v s₁ x₁ y₁ r₁ => ?_))
    refine oS_i he ?_; clear he; rintro c rfl he
    refine o1_i he ?_; clear he; rintro c rfl he
    refine xMap he ?_; clear he; rintro y hy rfl
    (refine xE (Rep.inv r₁) ?_; clear r₁; intro zt zq; subst zq)
    exact K _ _ _ _ _ _ _ _ _ x₁.inv (dec_noSlice _ _) hy fun t => ⟨x₁.step.then (.toks _), .int _ t⟩
  | fn f xs p q =>
    replace hw := and2 hw
    refine xBind he ?_; clear he; intro vs h1 he
    refine Call_ (glob_go X hw.1 (C.fn f) (by cases f <;> decide) (callWith_builtin (decL_plain _ _ _ _) (args_dec (evL_ok O R hw.2 h1 X fun us s₁ x₁ y₁ r₁ => ?_))))
    exact fn_ok hh x₁.view.fresh he r₁ fun v s' q => post_go x₁ q
  | meth m o xs ap q =>
    have hl := and2 hw
    replace hw := and3 hl.1
    have ho := and2 hw.1.1
    refine xBind he ?_; clear he; intro x h1 he
    refine xBind he ?_; clear he; intro vs h2 he
    refine method_go (dec_base hw.1.2 _ _ _) (decL_all _ _ _ _) (by rw [decL_length]; exact of_decide_eq_true hl.2) hw.2 m.plain m.slot m.tof (O.go ho.1 h1 R X fun ov s₁ x₁ y₁ r₁ => ⟨Mt.typeIs he r₁, ?_⟩)
    refine callWith_builtin (decL_plain _ _ _ _) (args_dec (evL_ok O R ho.2 h2 x₁ fun us s₂ x₂ y₂ r₂ => ?_))
    exact meth_ok x₂.view.fresh he (rep_on x₁.inv.tabs y₂ r₁) r₂ fun v s' q => post_go x₂ q
  | repl o y z ky kz py pz ap q =>
    replace hw := and3 hw
    refine xBind he ?_; clear he; intro x h1 he
    refine method_go (dec_base hw.1.2 _ _ _) rfl (by simp) hw.2 F.plainAttrs_str F.slot_str_replace F.type_str_replace (O.go hw.1.1 h1 R X fun ov s₁ x₁ y₁ r₁ => ?_)
    have one := x₁.inv.toks
    have st : Step none' s₁ { s₁ with toks := s₁.toks + 1 + 1 } := .toks _
    have le : LeS s₁ { s₁ with toks := s₁.toks + 1 + 1 } := ⟨by show s₁.toks ≤ s₁.toks + 1 + 1; lia, Nat.le_refl _⟩
    have x₂ := x₁.go st le
    refine xAA (repl_ok (prog := prog) (w := w) (A := A) (E := fun _ _ => True) (Q := fun _ _ => True) (t := 1) (u := 2) he r₁ (by decide) (by decide) (by decide) (fun _ _ _ => trivial)) ?_; intro ty nr _
    refine ⟨⟨ty, fun a q => absurd q (nr a)⟩, ?_⟩
    refine callWith_builtin rfl (evalArgs_plain (spliced_cons (const_str (k := ky) (p := py) (spliced_cons (const_str (k := kz) (p := pz) (spliced_nil ?_))))))
    exact (repl_ok (t := s₁.toks) (u := s₁.toks + 1) he (rep_on x₁.inv.tabs st r₁) (Nat.ne_of_gt one) (Nat.succ_ne_zero _) (Nat.ne_of_lt (Nat.lt_succ_self _)) fun v s' q => post_go x₂ q).2.2
  | user f xs p q =>
    replace hw := and2 hw
    refine xBind he ?_; clear he; intro vs h1 he
    obtain ⟨⟨a, G, ⟨o, fd, hd, ho⟩, K⟩⟩ := C.user f ⟨_, _, he⟩
    refine Call_ (glob_go X hw.1 G ?_ (callWith_function (o := o) (fd := fd) (args_dec (evL_ok O R hw.2 h1 X fun us s₁ x₁ y₁ r₁ => ⟨⟨ho _ x₁.inv, hd⟩, ?_⟩))))
    · have := isGl_ok hw.1
      exact ufName_plain f
    · exact (K vs d he A s₁ P us R x₁.inv x₁.view.fresh r₁).mono fun v s' q => post_go x₁ q
  | rng xs p q => exact nS he
  | rev x p q => exact nS he
  | comp elt cls nm' link p => exact absurd rfl (hne _ _ _ _ _)
  | cl t it ifs r => exact nS he
  | endc => exact nS he
  | absent => exact nS he
end
noncomputable def stOf (nm : Names) (x : Str) : Bool := match nm.lookup x with
  | some .local => true
  | some .cell => true
  | _ => false
noncomputable abbrev Fram (dm : Dom) (nm : Names) (env : Env) (P W : Addr → Prop) (ρ : List (Option dm.V)) (ω : Str → Option (List DV)) (B : Nat) (h : Heap) : Prop := Frame nm (stOf nm) env P W (denR dm nm ρ) ω B h
theorem denR_set {dm : Dom} {nm : Names} {ρ : List (Option dm.V)} {i : Nat} {x : Str} {k : NameKind} {d : dm.V} (hd : (nm.map (·.1)).Nodup) (hn : nm[i]? = some (x, k)) (hl : i < ρ.length) : denR dm nm (ρ.set i (some d)) = upd (denR dm nm ρ) x (dm.dv d) := by
  funext y
  unfold denR upd
  rw [look_set hd hn hl]
  by_cases q : y = x
  · rw [if_pos q, if_pos q]; rfl
  · rw [if_neg q, if_neg q]
section
variable {prog : Program} {w : World} {dm : Dom} {H : Heap} {tab : Nat → List dm.V → Option dm.V} {tok : Nat → Option dm.D} {r : Nat} {ih : Ev dm} {A : Around} {E : Value → Shared → Prop} {s : Shared} {nm : Names} {env : Env} {P W : Addr → Prop} {ρ ρ' : List (Option dm.V)} {ω : Str → Option (List DV)} {B : Nat}
theorem wfSt_ok {i : Nat} (h : wfSt nm i = true) : ∃ x k, nm[i]? = some (x, k) ∧ (k = .local ∨ k = .cell) := by
  unfold wfSt at h
  cases e : nm[i]? with
  | none => rw [e] at h; exact bF h
  | some xk =>
    obtain ⟨x, k⟩ := xk
    rw [e] at h
    refine ⟨x, k, rfl, ?_⟩
    cases k <;> first | exact .inl rfl | exact .inr rfl | exact bF h
theorem set1_ok {i : Nat} {v : Value} {d : dm.V} (hw : wfSt nm i = true) (hl : i < ρ.length) (hω : ω (nmAt nm i) = none) (F : Fram dm nm env P W ρ ω B s.heap) (q : Rep P s.heap v (dm.dv d)) :
    Ok (model prog w) A (bindName env (nmAt nm i) v) (fun _ s' => Step W s s' ∧ Fram dm nm env P W (ρ.set i (some d)) ω B s'.heap) s := by
  refine xEEA (wfSt_ok hw) ?_; intro x k hn hk
  have ex : nmAt nm i = x := by unfold nmAt; rw [hn]
  rw [ex] at hω ⊢
  have hlk := lookup_at F.view.nodup hn
  refine F.bind (by unfold stOf; rw [hlk]; rcases hk with rfl | rfl <;> rfl) (by rw [hlk]; rcases hk with rfl | rfl <;> simp) hω q fun s' y F' => ⟨y, ?_⟩
  unfold Fram
  rw [denR_set F.view.nodup hn hl]
  exact F'
theorem setAll_ok {is : List (Nat × Pos)} : ∀ {ds : List dm.V} {vs : List Value} {ρ ρ' : List (Option dm.V)} {s : Shared}, is.all (fun x => wfSt nm x.1) = true → (∀ x, x ∈ is → ω (nmAt nm x.1) = none) → setAll is ds ρ = some ρ' → Inv H s → (∀ b, W b → H.objs.size ≤ b) →
    Fram dm nm env P W ρ ω B s.heap → RepL P s.heap vs (dm.dvs ds) →
    Ok (model prog w) A (assignInOrder ((assignEach (is.map fun x => .Name (nmAt nm x.1) x.2) env).map (·.2)) vs) (fun _ s' => Step W s s' ∧ Inv H s' ∧ Fram dm nm env P W ρ' ω B s'.heap) s := by
  induction is with
  | nil =>
    intro ds vs ρ ρ' s _ _ he I _ F q
    refine o0_i he ?_; clear he; rintro rfl he
    (have zz := Option.some.inj he; clear he; subst zz); cases q.c0
    exact wpAny_pure ⟨.refl _ _, I, F⟩
  | cons i is ih =>
    intro ds vs ρ ρ' s hw hω he I hW F q
    refine oC_i he ?_; clear he; rintro d ds rfl he
    refine ifS he fun hl he => ?_
    have hw := and2 hw
    refine q.cc ?_; clear q; rintro v vs rfl q1 q2
    refine wpAny_bind (wpAny_holding (wpAny_bind (wpAny_standAt ((set1_ok hw.1 hl (hω i List.mem_cons_self) F q1).le.mono fun _ s' z => ?_))))
    have I' := I.step z.1.1 hW z.2
    exact (ih hw.2 (fun x hx => hω x (List.mem_cons_of_mem _ hx)) he I' hW z.1.2 (repL_step I.tabs z.1.1 F.disj q2)).mono fun _ s'' y => ⟨z.1.1.trans y.1 fun b hb => .inl hb, y.2⟩
theorem each_length (env : Env) (nm : Names) : ∀ is : List (Nat × Pos), (assignEach (is.map fun x => .Name (nmAt nm x.1) x.2) env).length = is.length
  | [] => rfl
  | i :: is => by rw [List.map_cons]; exact congrArg (· + 1) (each_length env nm is)
theorem each_star (env : Env) (nm : Names) : ∀ is : List (Nat × Pos), (assignEach (is.map fun x => .Name (nmAt nm x.1) x.2) env).findIdx? (·.1) = none
  | [] => rfl
  | i :: is => by
    rw [List.map_cons]
    show ((false, assign (.Name (nmAt nm i.1) i.2) env) :: assignEach (is.map fun x => .Name (nmAt nm x.1) x.2) env).findIdx? (·.1) = none
    rw [List.findIdx?_cons, each_star env nm is]; rfl
theorem setAll_len {is : List (Nat × Pos)} : ∀ {ds : List dm.V} {ρ ρ' : List (Option dm.V)}, setAll is ds ρ = some ρ' → is.length = ds.length ∧ ρ'.length = ρ.length := by
  induction is with
  | nil => intro ds ρ ρ' he; refine o0_i he ?_; clear he; rintro rfl he; (have zz := Option.some.inj he; clear he; subst zz); exact ⟨rfl, rfl⟩
  | cons i is ih =>
    intro ds ρ ρ' he
    refine oC_i he ?_; clear he; rintro d ds rfl he
    refine ifS he fun hl he => ?_
    exact ⟨congrArg (· + 1) (ih he).1, (ih he).2.trans (List.length_set ..)⟩
theorem ext_step {h' : Heap} (he : Heap.ExtBut s.heap.objs.size s.heap h') (z : s.heap.objs.size ≤ h'.objs.size) : Step none' s { s with heap := h' } :=
  Step.grown (tk := s.toks) (fun b o e => he b o (Nat.ne_of_lt (Heap.lt_size e)) e) z
theorem setT_ok {t : Tg} {v : Value} {d : dm.V} (hw : t.wf nm = true) (he : setT t d ρ = some ρ') (hω : ∀ i, i ∈ t.idx → ω (nmAt nm i) = none) (hh : A.handled = none) (I : Inv H s) (hW : ∀ b, W b → H.objs.size ≤ b)
    (F : Fram dm nm env P W ρ ω B s.heap) (q : Rep P s.heap v (dm.dv d)) :
    Ok (model prog w) A (assign (t.dec nm) env v) (fun _ s' => Step W s s' ∧ Inv H s' ∧ Fram dm nm env P W ρ' ω B s'.heap) s := by
  cases t with
  | one i p =>
    refine ifS he fun hl he => ?_
    (have zz := Option.some.inj he; clear he; subst zz)
    exact wpAny_bind (wpAny_standAt ((set1_ok hw hl (hω i List.mem_cons_self) F q).le.mono fun _ s' z => ⟨z.1.1, I.step z.1.1 hW z.2, z.1.2⟩))
  | many is k p =>
    refine oT_i he ?_; clear he; rintro xs rfl he
    refine xEEAAA (Rep.inv q) ?_; rintro a items rfl pa l q'
    have hlen : is.length = items.size := by rw [(setAll_len he).1, size_of_repL q']
    rw [Tg.dec, assign_Tuple]
    refine wpAny_bind (wpAny_standAt ?_)
    unfold unpack
    rw [each_length, each_star, hlen]
    refine wpAny_bind (wpAny_holding (wpAny_mono (wpAny_le (unpackItems_tuple (Q := fun vs s' => vs = items.toList ∧ ∃ h', s' = { s with heap := h' } ∧ Heap.ExtBut s.heap.objs.size s.heap h') hh l fun h' he₁ => ⟨rfl, h', rfl, he₁⟩)) (fun vs s' z => ?_) fun _ _ z => z))
    refine xA z ?_; clear z; rintro ⟨rfl, h', rfl, he₁⟩ le
    have y := ext_step he₁ le.2
    have I' := I.step0 y le
    exact (setAll_ok hw (fun x hx => hω x.1 (List.mem_map_of_mem hx)) he I' hW (F.step0 I.tabs y) (repL_step I.tabs y (fun _ _ z => z) q')).mono fun _ s' z => ⟨(y.mono fun _ z => z.elim).trans z.1 fun b hb => .inl hb, z.2⟩
theorem test_case (_ : Cx prog w dm H tab tok r) (O : EvOk prog w dm H r ih) {e : Ix} {d : dm.V} (hw : e.wf nm = true) (he : evStep dm tab tok ih true e ρ = some d)
    (R : Room r A) (I : Inv H s) (V : View nm env P (denR dm nm ρ) s.heap) : Ok (model prog w) A (isTrue (e.dec nm) env (eval (e.dec nm) env)) (fun c s' => d = .bool c ∧ Step none' s s') s := by
  have X := On.start I V
  have gen : ∀ (hp : plainT e) (he : ((ih false e ρ).bind fun v => (truthP dm v).map .bool) = some d),
      Ok (model prog w) A (isTrue (e.dec nm) env (eval (e.dec nm) env)) (fun c s' => d = .bool c ∧ Step none' s s') s := by
    intro hp he
    refine xBind he ?_; clear he; intro v h1 he
    refine xMap he ?_; rintro c h2 rfl
    exact isTrue_plain (O.go hw h1 R X fun u s₁ x₁ y₁ r₁ => truth_ok h2 r₁ fun s₂ y₂ => ⟨rfl, x₁.step.then y₂⟩) (dec_plainTest hp)
  cases e with
  | not a p =>
    refine xBind he ?_; clear he; intro x h1 he
    refine oB_i he ?_; clear he; rintro c rfl he
    (have zz := Option.some.inj he; clear he; subst zz)
    exact isTrue_not (O.goT hw h1 R X fun s₁ x₁ => ⟨rfl, x₁.step⟩)
  | or a b p =>
    replace hw := and2 hw
    refine xBind he ?_; clear he; intro x h1 he
    refine oB_i he ?_; clear he; rintro c rfl he
    refine isTrue_or (O.goT hw.1 h1 R X fun s₁ x₁ => ?_)
    cases c with
    | true => (have zz := Option.some.inj he; clear he; subst zz); exact ⟨rfl, x₁.step⟩
    | false =>
      refine isTrue_or (Ok.any ((O.test b d ρ nm env P s₁ A hw.2 he R x₁.inv x₁.view).mono fun c s₂ z => ?_))
      refine xA z ?_; clear z; rintro rfl z
      cases c with
      | true => exact ⟨rfl, x₁.step.then z⟩
      | false => exact isTrue_or_nil ⟨rfl, x₁.step.then z⟩
  | cmp a op b p =>
    replace hw := and2 hw
    refine xBind he ?_; clear he; intro x h1 he
    refine xBind he ?_; clear he; intro y h2 he
    refine xMap he ?_; rintro c hc rfl
    refine wpAny_isTrue_Compare1 (O.go hw.1 h1 R X fun u s₁ x₁ y₁ r₁ => O.go hw.2 h2 R x₁ fun v s₂ x₂ y₂ r₂ => ?_) (dec_noMarks _ _ _)
    exact cmp_ok (R.le (Nat.zero_le _)) hc (rep_on x₁.inv.tabs y₂ r₁) r₂ (wpAny_truthy_bool ⟨rfl, x₂.step⟩)
  | ife t a b p => exact nS he
  | un op a p => exact nS he
  | _ => exact gen trivial he
theorem evIfs_skip {l : List Expr} : ∀ {s₁ : Shared} {Q : Bool → Shared → Prop}, Q false s₁ → wpAny (model prog w) A (forIn l false fun c r => if r = true then do let ok ← isTrue c env (eval c env); pure (ForInStep.yield ok) else pure (ForInStep.yield r)) Q E s₁ := by
  induction l with
  | nil => exact fun h => wpAny_pure h
  | cons c l ih =>
    intro s₁ Q h
    rw [List.forIn_cons]
    exact wpAny_bind (wpAny_pure (ih h))
theorem evIfs_ok {s₀ : Shared} (O : EvOk prog w dm H r ih) (R : Room r A) {ifs : List Ix} : ∀ {b : Bool} {s : Shared} {Q : Bool → Shared → Prop}, wfL nm ifs = true → evIfs (fun e => ih true e ρ) ifs = some b → On H nm env P (denR dm nm ρ) s₀ s →
    (∀ s', On H nm env P (denR dm nm ρ) s₀ s' → Step none' s s' → Q b s') →
    wpAny (model prog w) A (forIn (decL nm ifs) true fun c r => if r = true then do let ok ← isTrue c env (eval c env); pure (ForInStep.yield ok) else pure (ForInStep.yield r)) Q E s := by
  induction ifs with
  | nil => intro b s Q _ he x k; (have zz := Option.some.inj he; clear he; subst zz); exact wpAny_pure (k s x (.refl _ _))
  | cons e ifs ih' =>
    intro b s Q hw he x k
    have hw := and2 hw
    refine xBind he ?_; clear he; intro v h1 he
    refine oB_i he ?_; clear he; rintro c rfl he
    rw [decL, List.forIn_cons]
    refine wpAny_bind (wpAny_bind (Ok.any ((O.test e _ ρ nm env P s A hw.1 h1 R x.inv x.view).le.mono fun c' s₁ z => ?_)))
    cases PV.bool.inj z.1.1
    have x' := x.go z.1.2 z.2
    cases c with
    | true => exact wpAny_pure (ih' hw.2 he x' fun s' x' y' => k s' x' (z.1.2.then y'))
    | false => (have zz := Option.some.inj he; clear he; subst zz); exact wpAny_pure (evIfs_skip (k s₁ x' z.1.2))
theorem dvs_ints (l : List Int) : dm.dvs (l.map (dmInt dm)) = l.map PV.int := by
  show PV.denL dm.den dm.chr _ = _
  rw [PV.denL_eq, List.map_map]
  exact List.map_congr_left fun i _ => by show PV.int (dm.den (dm.lit i)) = _; rw [dm.lit_den]
theorem dvs_chars (x : List Nat) : dm.dvs (x.map fun c => .str [c]) = (x.map dm.chr).map fun c => .str [c] := by
  show PV.denL dm.den dm.chr _ = _
  rw [PV.denL_eq, List.map_map, List.map_map]; rfl
theorem dvs_reverse (x : List dm.V) : dm.dvs x.reverse = (dm.dvs x).reverse := by
  show PV.denL dm.den dm.chr _ = (PV.denL dm.den dm.chr _).reverse
  rw [PV.denL_eq, PV.denL_eq, List.map_reverse]
theorem items_ok {v : Value} {d : dm.V} {xs : List dm.V} {s₀ : Shared} (he : itemsV dm d = some xs) (q : Rep P s.heap v (dm.dv d)) (hs : s₀.heap.objs.size ≤ s.heap.objs.size) (h37 : 37 < s.heap.objs.size) (T : Tabs s.heap) : IterV prog w P s₀ (dm.dvs xs) v s := by
  cases d with
  | list x =>
    (have zz := Option.some.inj he; clear he; subst zz)
    refine xEEAAA (Rep.inv q) ?_; rintro _ _ rfl p l r
    exact iter_list hs h37 T p l.list r
  | arr x =>
    (have zz := Option.some.inj he; clear he; subst zz)
    refine xEEAAA (Rep.inv q) ?_; rintro _ _ rfl p l r
    exact iter_list hs h37 T p l r
  | str x =>
    (have zz := Option.some.inj he; clear he; subst zz); (refine xE (Rep.inv q) ?_; clear q; intro zt zq; subst zq)
    rw [dvs_chars]
    exact iter_str hs h37 T
  | _ => exact nS he
theorem big_of (C : Cx prog w dm H tab tok r) (I : Inv H s) : 37 < s.heap.objs.size := Nat.lt_of_lt_of_le C.big I.size
theorem iter_ok {s₀ : Shared} (C : Cx prog w dm H tab tok r) (O : EvOk prog w dm H r ih) {e : Ix} {xs : List dm.V} {Q : Value → Shared → Prop} (hw : e.wf nm = true) (he : evIt dm (fun e => ih false e ρ) e = some xs) (R : Room r A) (X : On H nm env P (denR dm nm ρ) s₀ s)
    (k : ∀ v s', On H nm env P (denR dm nm ρ) s₀ s' → Step none' s s' → IterV prog w P s (dm.dvs xs) v s' → Q v s') : wpAny (model prog w) A (eval (e.dec nm) env) Q E s := by
  have gen : ((ih false e ρ).bind (itemsV dm)) = some xs → wpAny (model prog w) A (eval (e.dec nm) env) Q E s := by
    intro he
    refine xBind he ?_; clear he; intro d h1 he
    exact O.go hw h1 R X fun v s' x' y' q => k v s' x' y' (items_ok he q y'.size (big_of C x'.inv) x'.inv.tabs)
  cases e with
  | rng es p q =>
    replace hw := and2 hw
    refine xBind he ?_; clear he; intro vs h1 he
    refine Call_ (glob_go X hw.1 C.rng (by decide) (PyProof.Rows.callWith_type (decL_plain _ _ _ _) (args_dec (evL_ok O R hw.2 h1 X fun us s₁ x₁ y₁ r₁ => ?_))))
    refine oC_i he ?_; clear he; rintro a l rfl he
    refine r₁.cc ?_; clear r₁; rintro va us rfl q1 q2
    cases l with
    | nil =>
      refine oI_i he ?_; clear he; rintro n rfl he
      refine xBind he ?_; clear he; intro i hi he
      refine ifS he fun hf he => ?_
      (have zz := Option.some.inj he; clear he; subst zz)
      cases dm.val_den _ _ hi
      have hf := and2 hf
      have h1 := of_decide_eq_true hf.1
      have h2 := of_decide_eq_true hf.2
      cases q2.c0
      refine xE (Rep.inv q1) ?_; rintro t1 rfl
      refine call_range_1 ?_
      have x₂ := x₁.push { cls := .type "range", data := .fields #[.int 0 s₁.toks, .int (dm.den n) t1, .int 1 (s₁.toks + 1)] } (Nat.le_succ_of_le (Nat.le_succ _))
      refine k _ _ x₂ (y₁.then .push) ?_
      rw [dvs_ints]
      exact iter_range (IsRange.new _ _ _ _ _ _ _) ⟨by lia, by lia⟩ ⟨h1, h2⟩ (y₁.then .push).size (big_of C x₂.inv) x₂.inv.tabs
    | cons b l =>
      refine o0_i he ?_; clear he; rintro rfl he
      refine oI_i he ?_; clear he; rintro a rfl he
      refine oI_i he ?_; clear he; rintro b rfl he
      refine xBind he ?_; clear he; intro i hi he
      refine xBind he ?_; clear he; intro j hj he
      refine ifS he fun hf he => ?_
      (have zz := Option.some.inj he; clear he; subst zz)
      cases dm.val_den _ _ hi
      cases dm.val_den _ _ hj
      have hf := and2 hf
      have ha := and2 hf.1
      have hb := and2 hf.2
      refine q2.c1 ?_; clear q2; rintro vb rfl q2
      refine xE (Rep.inv q1) ?_; rintro t1 rfl
      refine xE (Rep.inv q2) ?_; rintro t2 rfl
      refine call_range_2 ?_
      have x₂ := x₁.push { cls := .type "range", data := .fields #[.int (dm.den a) t1, .int (dm.den b) t2, .int 1 s₁.toks] } (Nat.le_succ _)
      refine k _ _ x₂ (y₁.then .push) ?_
      rw [dvs_ints]
      exact iter_range (IsRange.new _ _ _ _ _ _ _) ⟨of_decide_eq_true ha.1, of_decide_eq_true ha.2⟩ ⟨of_decide_eq_true hb.1, of_decide_eq_true hb.2⟩ (y₁.then .push).size (big_of C x₂.inv) x₂.inv.tabs
  | rev e p q =>
    replace hw := and2 hw
    refine xBind he ?_; clear he; intro d h1 he
    refine oL_i he ?_; clear he; rintro ys rfl he
    (have zz := Option.some.inj he; clear he; subst zz)
    refine Call_ (glob_go X hw.1 C.rev (by decide) (PyProof.Rows.callWith_type (decL_plain nm env q [e]) (args_dec (xs := [e]) (evL_ok (vs := [.list ys]) O R (by rw [wfL, wfL]; simpa using hw.2) (by simp [evL, h1]) X fun us s₁ x₁ y₁ r₁ => ?_))))
    refine r₁.c1 ?_; clear r₁; rintro v rfl q1
    refine xEEAAA (Rep.inv q1) ?_; rintro a items rfl pa l rr
    refine call_reversed_list l.list ?_
    have x₂ := x₁.push (revObj a ((items.size : Int) - 1)) (Nat.le_refl _)
    refine k _ _ x₂ (y₁.then .push) ?_
    rw [dvs_reverse]
    exact iter_rev y₁.size (big_of C x₁.inv) x₁.inv.tabs pa l.list rr
  | _ => exact gen he
end
noncomputable def LeR {α : Type} (ρ₀ ρ : List (Option α)) : Prop := ρ₀.length = ρ.length ∧ ∀ (i : Nat) (d : α), (ρ₀[i]?).join = some d → (ρ[i]?).join = some d
theorem LeR.refl {α : Type} (ρ : List (Option α)) : LeR ρ ρ := ⟨rfl, fun _ _ e => e⟩
theorem LeR.trans {α : Type} {a b c : List (Option α)} (x : LeR a b) (y : LeR b c) : LeR a c := ⟨x.1.trans y.1, fun i d e => y.2 i d (x.2 i d e)⟩
theorem look_mono {α : Type} {x : Str} {d : α} {nm : Names} : ∀ {ρ₀ ρ : List (Option α)}, LeR ρ₀ ρ → look nm ρ₀ x = some d → look nm ρ x = some d := by
  induction nm with
  | nil => intro _ _ _ e; exact nS e
  | cons n nm ih =>
    intro ρ₀ ρ h e
    cases ρ₀ with
    | nil => exact nS e
    | cons o ρ₀ => cases ρ with
      | nil => cases h.1
      | cons o' ρ =>
        by_cases q : n.1 = x
        · exact (if_pos q).trans (h.2 0 d ((if_pos q).symm.trans e))
        · exact (if_neg q).trans (ih ⟨Nat.succ.inj h.1, fun i d e => h.2 (i + 1) d e⟩ ((if_neg q).symm.trans e))
theorem denR_mono {dm : Dom} {nm : Names} {ρ₀ ρ : List (Option dm.V)} (h : LeR ρ₀ ρ) {x : Str} {d : DV} (e : denR dm nm ρ₀ x = some d) : denR dm nm ρ x = some d :=
  xMap e fun v h1 h2 => (congrArg (Option.map dm.dv) (look_mono h h1)).trans (congrArg some h2)
theorem leR_set {α : Type} {ρ₀ ρ : List (Option α)} {i : Nat} {v : Option α} (h : LeR ρ₀ ρ) (hn : (ρ₀[i]?).join = none) : LeR ρ₀ (ρ.set i v) := by
  refine ⟨by simpa using h.1, fun j d e => ?_⟩
  by_cases q : i = j
  · subst q; rw [hn] at e; exact nS e
  · rw [List.getElem?_set, if_neg q]; exact h.2 j d e
theorem leR_setAll {dm : Dom} {ρ₀ : List (Option dm.V)} {is : List (Nat × Pos)} : ∀ {vs : List dm.V} {ρ ρ' : List (Option dm.V)}, setAll is vs ρ = some ρ' → LeR ρ₀ ρ → (∀ x, x ∈ is → (ρ₀[x.1]?).join = none) → LeR ρ₀ ρ' := by
  induction is with
  | nil => intro vs ρ ρ' e h _; refine o0_i e ?_; clear e; rintro rfl e; (have zz := Option.some.inj e; clear e; subst zz); exact h
  | cons i is ih =>
    intro vs ρ ρ' e h hn
    refine oC_i e ?_; clear e; rintro v vs rfl e
    exact ifS e fun _ e => ih e (leR_set h (hn i List.mem_cons_self)) fun x hx => hn x (List.mem_cons_of_mem _ hx)
theorem freeT_ok {α : Type} {t : Tg} {ρ : List (Option α)} (h : freeT t ρ = true) : ∀ i, i ∈ t.idx → (ρ[i]?).join = none := fun i hi => by
  unfold freeT at h
  have := List.all_eq_true.mp h i hi
  cases e : (ρ[i]?).join with
  | none => rfl
  | some d => rw [e] at this; exact bF this
theorem leR_setT {dm : Dom} {t : Tg} {v : dm.V} {ρ ρ' : List (Option dm.V)} (hf : freeT t ρ = true) (e : setT t v ρ = some ρ') : LeR ρ ρ' := by
  have hf := freeT_ok hf
  cases t with
  | one i p =>
    refine ifS e fun _ e => ?_
    (have zz := Option.some.inj e; clear e; subst zz)
    exact leR_set (LeR.refl _) (hf i List.mem_cons_self)
  | many is k p =>
    exact oT_i e fun _ _ e => leR_setAll e (LeR.refl _) fun x hx => hf x.1 (List.mem_map_of_mem (f := (·.1)) hx)
section
variable {prog : Program} {w : World} {dm : Dom} {H : Heap} {tab : Nat → List dm.V → Option dm.V} {tok : Nat → Option dm.D} {r : Nat} {ih : Ev dm} {A : Around} {E : Value → Shared → Prop} {s : Shared} {nm : Names} {env : Env} {P W : Addr → Prop} {ρ ρ' : List (Option dm.V)} {B : Nat}
noncomputable abbrev noOwn : Str → Option (List DV) := fun _ => none
theorem View.forget {δ δ' : Str → Option DV} {h : Heap} (V : View nm env P δ' h) (hle : ∀ x d, δ x = some d → δ' x = some d) : View nm env P δ h :=
  { V with
    loc := fun y d hd hk => V.loc y d (hle y d hd) hk
    cell := fun y hk => let ⟨c, cv, a, b, q⟩ := V.cell y hk; ⟨c, cv, a, b, fun d hd => q d (hle y d hd)⟩ }
theorem Frame.forget {st : Str → Bool} {δ δ' : Str → Option DV} {h : Heap} (F : Frame nm st env P W δ' noOwn B h) (hle : ∀ x d, δ x = some d → δ' x = some d) : Frame nm st env P W δ noOwn B h :=
  { F with
    view := F.view.forget hle
    own := fun _ _ e => by exact nS e
    ownInj := fun _ _ _ _ _ _ e => by exact nS e }
theorem Fram.forget {h : Heap} (F : Fram dm nm env P W ρ' noOwn B h) (hle : LeR ρ ρ') : Fram dm nm env P W ρ noOwn B h := Frame.forget F fun _ _ e => denR_mono hle e
theorem View.beside {δ : Str → Option DV} {W0 : Addr → Prop} {s' : Shared} (V : View nm env P δ s.heap) (T : Tabs s.heap) (x : Step W0 s s') (hP : ∀ b, P b → ¬ W0 b) (hL : ¬ W0 env.locals)
    (hC : ∀ n c, (nm.lookup n = some .cell ∨ nm.lookup n = some .free) → env.cells.lookup n = some c → ¬ W0 c) : View nm env P δ s'.heap :=
  { V with
    loc := fun y d hd hk => let ⟨m, v, a, b, c⟩ := V.loc y d hd hk; ⟨m, v, ns_step T x hL a, b, rep_step T x hP c⟩
    cell := fun y hk => let ⟨c, cv, a, b, q⟩ := V.cell y hk; ⟨c, cv, a, cell_step T x (hC y c hk a) b, fun d hd => let ⟨v, e, z⟩ := q d hd; ⟨v, e, rep_step T x hP z⟩⟩
    fresh := fun b hb => V.fresh b (Nat.le_trans x.size hb) }
theorem Frame.beside {st : Str → Bool} {δ : Str → Option DV} {W0 : Addr → Prop} {s' : Shared} (F : Frame nm st env P W δ noOwn B s.heap) (T : Tabs s.heap) (x : Step W0 s s') (hP : ∀ b, P b → ¬ W0 b) (hL : ¬ W0 env.locals)
    (hC : ∀ n c, (nm.lookup n = some .cell ∨ nm.lookup n = some .free) → env.cells.lookup n = some c → ¬ W0 c) : Frame nm st env P W δ noOwn B s'.heap :=
  { F with
    view := F.view.beside T x hP hL hC
    ns := let ⟨m, n⟩ := F.ns; ⟨m, ns_step T x hL n⟩
    own := fun _ _ e => by exact nS e
    ownInj := fun _ _ _ _ _ _ e => by exact nS e }
theorem View.less {δ : Str → Option DV} {I : Addr} {s' : Shared} (V : View nm env P δ s.heap) (T : Tabs s.heap) (x : Step none' s s') (h1 : s.heap.objs.size ≤ I) (h2 : I < s'.heap.objs.size) : View nm env (fun b => P b ∧ b ≠ I) δ s'.heap :=
  { V with
    loc := fun y d hd hk => let ⟨m, v, a, b, c⟩ := V.loc y d hd hk; ⟨m, v, ns_step T x (fun q => q) a, b, rep_step T x (fun _ _ q => q) (c.weak fun b pb lb => ⟨pb, fun q => absurd (q ▸ lb) (Nat.not_lt.mpr h1)⟩)⟩
    cell := fun y hk => let ⟨c, cv, a, b, q⟩ := V.cell y hk; ⟨c, cv, a, cell_step T x (fun q => q) b, fun d hd => let ⟨v, e, z⟩ := q d hd; ⟨v, e, rep_step T x (fun _ _ q => q) (z.weak fun b pb lb => ⟨pb, fun q => absurd (q ▸ lb) (Nat.not_lt.mpr h1)⟩)⟩⟩
    fresh := fun b hb => ⟨V.fresh b (Nat.le_trans x.size hb), fun q => absurd h2 (Nat.not_lt.mpr (q ▸ hb))⟩ }
theorem Frame.less {st : Str → Bool} {δ : Str → Option DV} {I : Addr} {s' : Shared} (F : Frame nm st env P W δ noOwn B s.heap) (T : Tabs s.heap) (x : Step none' s s') (h1 : s.heap.objs.size ≤ I) (h2 : I < s'.heap.objs.size) :
    Frame nm st env (fun b => P b ∧ b ≠ I) W δ noOwn B s'.heap :=
  { F with
    view := F.view.less T x h1 h2
    disj := fun b q => F.disj b q.1
    ns := let ⟨m, n⟩ := F.ns; ⟨m, ns_step T x id n⟩
    own := fun _ _ e => by exact nS e
    ownInj := fun _ _ _ _ _ _ e => by exact nS e }
theorem Frame.back {st : Str → Bool} {δ : Str → Option DV} {I : Addr} {h : Heap} (F : Frame nm st env (fun b => P b ∧ b ≠ I) W δ noOwn B h) (hI : ¬ W I) : Frame nm st env P W δ noOwn B h :=
  { F with
    view := { F.view with
      loc := fun y d hd hk => let ⟨m, v, a, b, c⟩ := F.view.loc y d hd hk; ⟨m, v, a, b, c.weak fun _ pb _ => pb.1⟩
      cell := fun y hk => let ⟨c, cv, a, b, q⟩ := F.view.cell y hk; ⟨c, cv, a, b, fun d hd => let ⟨v, e, z⟩ := q d hd; ⟨v, e, z.weak fun _ pb _ => pb.1⟩⟩
      fresh := fun b hb => (F.view.fresh b hb).1 }
    disj := fun b pb wb => by
      by_cases q : b = I
      · exact hI (q ▸ wb)
      · exact F.disj b ⟨pb, q⟩ wb
    own := fun _ _ e => by exact nS e
    ownInj := fun _ _ _ _ _ _ e => by exact nS e }
theorem mapSeq_list (f : Array Value → Array Value) (its : Array Value) (n : Nat) : ∃ n', Obj.mapSeq f { cls := .type "list", data := .seq its n } = { cls := .type "list", data := .seq (f its) n' } := ⟨_, rfl⟩
theorem append_exact {l : Addr} {items : Array Value} {x : Value} {Q : Value → Shared → Prop} (hl : IsLx s.heap l items) (hsz : items.size ≤ sizeLine)
    (hQ : ∀ h', IsLx h' l (items.push x) → Heap.SameBut l s.heap h' → Q .none { s with heap := h' }) :
    wpAny (model prog w) A (call (.builtin "list.append") [.ref l, x]) Q E s := by
  refine xE (id hl) ?_; intro n ho
  refine wpAny_call_entry slot_list_append hl.list.typeIs entry_list_append ?_ (args_list_append _ _)
  show wpAny _ _ (updateSeq l (·.push x) >>= fun _ => ret .none) _ _ s
  refine wpAny_bind ?_
  refine wpAny_updateSeq ho rfl (wpAny_pure ⟨.none, rfl, hQ _ ?_ (Heap.SameBut.update ..)⟩)
  refine xE (mapSeq_list (·.push x) items n) ?_; intro n' e
  exact ⟨n', by show (s.heap.update l _).get? l = some _; rw [Heap.get?_update_self _ ho (by rw [e]; rfl), e]⟩
theorem lx_step1 {l : Addr} {items : Array Value} {h' : Heap} {tk : Tok} {W : Addr → Prop} (hl : IsLx s.heap l items) (hs : Heap.SameBut l s.heap h') (hW : W l ∨ s.heap.objs.size ≤ l) : Step W s { s with heap := h', toks := tk } := by
  refine xE hl ?_; clear hl; intro n ho
  exact .same hs hW ho fun vs q => by cases q
noncomputable def Turn2 (prog : Program) (w : World) (A : Around) (env : Env) (elt : Expr) (gs : List Comprehension) (scope : Scope) (pos : Pos) (d : Nat) (acc : Value) (E : Value → Shared → Prop) (Q : Shared → Prop) (s₄ : Shared) : Prop := match gs[d + 1]? with
  | some g' => wpAny (model prog w) A (eval g'.iter env) (fun x s₅ => g'.is_async = 0 ∧ foldedSetIterable g'.iter env x = pure x ∧ wpAny (model prog w) A (pyIter x) (fun it' s₆ =>
      wpAny (model prog w) A (runOwn (.compStart (.ListComp elt gs scope pos) (d + 1) it' acc env) env) (fun _ s₇ => Q s₇) E s₆) E s₅) E s₄
  | none => wpAny (model prog w) A (eval elt env) (fun x s₅ => wpAny (model prog w) A (call (.builtin "list.append") [acc, x]) (fun _ s₆ => Q s₆) E s₅) E s₄
noncomputable def Turn1 (prog : Program) (w : World) (A : Around) (env : Env) (elt : Expr) (gs : List Comprehension) (scope : Scope) (pos : Pos) (d : Nat) (t : Expr) (ifs : List Expr) (it acc : Value) (E : Value → Shared → Prop) (Q : Fin → Shared → Prop) (r : Option Value) (s₁ : Shared) : Prop := match r with
  | none => Q (.done .next) s₁
  | some v => wpAny (model prog w) A (letOwnedTupleGo t it v) (fun _ s₂ => wpAny (model prog w) A (assign t env v) (fun _ s₃ =>
      wpAny (model prog w) A (forIn ifs true fun c r => if r = true then do let ok ← isTrue c env (eval c env); pure (ForInStep.yield ok) else pure (ForInStep.yield r)) (fun ok s₄ =>
        match ok with
        | true => Turn2 prog w A env elt gs scope pos d acc E (Q (.again (.compLoop (.ListComp elt gs scope pos) d it acc env))) s₄
        | false => Q (.again (.compLoop (.ListComp elt gs scope pos) d it acc env)) s₄) E s₃) E s₂) E s₁
theorem compTurn_ok {elt : Expr} {gs : List Comprehension} {scope : Scope} {pos : Pos} {d : Nat} {t itE : Expr} {ifs : List Expr} {it acc : Value} {Q : Fin → Shared → Prop} (hg : gs[d]? = some ⟨t, itE, ifs, 0⟩)
    (h : wpAny (model prog w) A (pyNext it) (Turn1 prog w A env elt gs scope pos d t ifs it acc E Q) E s) :
    wpAny (model prog w) A (compTurn (.ListComp elt gs scope pos) d it acc env) Q E s := by
  unfold compTurn
  dsimp only
  rw [hg]
  dsimp only
  refine wpAny_bind (wpAny_standAt ?_)
  rw [if_neg (by decide)]
  refine wpAny_bind (wpAny_mono h (fun r s₁ h₁ => ?_) fun _ _ e => e)
  cases r with
  | none => exact wpAny_pure h₁
  | some v =>
    refine wpAny_bind (wpAny_mono h₁ (fun _ s₂ h₂ => wpAny_bind (wpAny_mono h₂ (fun _ s₃ h₃ => wpAny_bind (wpAny_mono h₃ (fun ok s₄ h₄ => ?_) fun _ _ e => e)) fun _ _ e => e)) fun _ _ e => e)
    cases ok with
    | false => exact wpAny_pure h₄
    | true =>
      rw [if_pos rfl]
      replace h₄ : Turn2 _ _ _ _ _ _ _ _ _ _ _ _ _ := h₄
      unfold Turn2 at h₄
      cases hg' : gs[d + 1]? with
      | none =>
        rw [hg'] at h₄
        exact wpAny_bind (wpAny_bind (wpAny_mono h₄ (fun x s₅ h₅ => wpAny_bind (wpAny_mono h₅ (fun _ s₆ h₆ => wpAny_pure (wpAny_pure h₆)) fun _ _ e => e)) fun _ _ e => e))
      | some g' =>
        rw [hg'] at h₄
        refine wpAny_bind (wpAny_mono h₄ (fun x s₅ h₅ => ?_) fun _ _ e => e)
        refine wpAny_bind (wpAny_standAt ?_)
        have hb : (g'.is_async != 0) = false := by rw [h₅.1]; rfl
        simp only [hb, Bool.false_eq_true, if_false]
        refine wpAny_bind (wpAny_of_eq h₅.2.1 ?_)
        refine wpAny_bind (wpAny_holding (wpAny_mono h₅.2.2 (fun it' s₆ h₆ => ?_) fun _ _ e => e))
        exact wpAny_bind (wpAny_mono h₆ (fun _ s₇ h₇ => wpAny_pure h₇) fun _ _ e => e)
theorem compStart_ok {elt : Expr} {gs : List Comprehension} {scope : Scope} {pos : Pos} {d : Nat} {t itE : Expr} {ifs : List Expr} {it acc : Value} {R : Result → Shared → Prop} (hg : gs[d]? = some ⟨t, itE, ifs, 0⟩)
    (h0 : codeAny (model prog w) A (.compLoop (.ListComp elt gs scope pos) d it acc env) R s)
    (h : ∀ E, wpAny (model prog w) A (pyIter it) (fun it' s' => codeAny (model prog w) A (.compLoop (.ListComp elt gs scope pos) d it' acc env) R s') E s) :
    codeAny (model prog w) A (.compStart (.ListComp elt gs scope pos) d it acc env) R s := by
  refine codeAny_of_tree ?_
  show wpAny _ _ ((compStart (.ListComp elt gs scope pos) d it acc env).onRaise (fun x => do noteFrame x env; standAt theWindowsPlace)) _ _ s
  refine wpAny_notedAt ?_
  unfold compStart
  have hc : (clausesOf (.ListComp elt gs scope pos))[d]? = some ⟨t, itE, ifs, 0⟩ := hg
  rw [hc]
  show wpAny _ _ (ask >>= _) _ _ s
  refine wpAny_bind (wpAny_askSetting (wpAny_ite ?_))
  split
  · first
      | exact wpAny_bind (wpAny_pure (wpAny_pure (And.intro rfl h0)))
      | exact wpAny_pure (And.intro rfl h0)
  · first
      | exact wpAny_bind (wpAny_rule (wpAny_bind (wpAny_standAt (wpAny_bind (wpAny_mono (h _) (fun it' s' h' => wpAny_pure (And.intro rfl h')) fun _ _ x => x)))))
      | (refine wpAny_bind (wpAny_rule ?_); show wpAny _ _ (standAt itE.pos >>= _) _ _ s; exact wpAny_bind (wpAny_standAt (wpAny_bind (wpAny_mono (h _) (fun it' s' h' => wpAny_pure (And.intro rfl h')) fun _ _ x => x))))
end
noncomputable def GensAt (nm : Names) (gs : List Comprehension) : Nat → List (Tg × Ix × List Ix) → Prop
  | d, [] => gs[d]? = none
  | d, c :: r => (∃ itE, gs[d]? = some ⟨c.1.dec nm, itE, decL nm c.2.2, 0⟩ ∧ (0 < d → itE = c.2.1.dec nm)) ∧ GensAt nm gs (d + 1) r
theorem dvs_append {dm : Dom} (a b : List dm.V) : dm.dvs (a ++ b) = dm.dvs a ++ dm.dvs b := denL_append _ _ _ _
section
variable {prog : Program} {w : World} {dm : Dom} {H : Heap} {tab : Nat → List dm.V → Option dm.V} {tok : Nat → Option dm.D} {r : Nat} {ih : Ev dm} {A : Around} {nm : Names} {env : Env} {W : Addr → Prop} {B : Nat} {D : Addr} {N : Nat}
structure CI (dm : Dom) (H : Heap) (nm : Names) (env : Env) (W : Addr → Prop) (B : Nat) (D : Addr) (P : Addr → Prop) (ρ : List (Option dm.V)) (vs : List dm.V) (s : Shared) : Prop where
  inv : Inv H s
  fr : Fram dm nm env P W ρ noOwn B s.heap
  acc : ∃ items, IsLx s.heap D items ∧ RepL P s.heap items.toList (dm.dvs vs)
structure Lay (H : Heap) (nm : Names) (env : Env) (W : Addr → Prop) (D : Addr) (N : Nat) : Prop where
  hWH : ∀ b, W b → H.objs.size ≤ b
  hDH : H.objs.size ≤ D
  hWN : ∀ b, W b → b < N
  hDN : D < N
  hDW : ¬ W D
  cN : ∀ n c, (nm.lookup n = some .cell ∨ nm.lookup n = some .free) → env.cells.lookup n = some c → c < N ∧ c ≠ D
structure IOk (H : Heap) (nm : Names) (env : Env) (W : Addr → Prop) (D I : Addr) : Prop where
  hIH : H.objs.size ≤ I
  hWI : ¬ W I
  hDI : D ≠ I
  hcI : ∀ n c, (nm.lookup n = some .cell ∨ nm.lookup n = some .free) → env.cells.lookup n = some c → c ≠ I
theorem Lay.iok (L : Lay H nm env W D N) {I : Addr} (hNI : N ≤ I) : IOk H nm env W D I :=
  ⟨Nat.le_trans L.hDH (Nat.le_trans (Nat.le_of_lt L.hDN) hNI), fun q => absurd (L.hWN I q) (Nat.not_lt.mpr hNI), fun q => absurd L.hDN (Nat.not_lt.mpr (q ▸ hNI)), fun n c' hk hc q => absurd (L.cN n c' hk hc).1 (Nat.not_lt.mpr (q ▸ hNI))⟩
theorem catM_cons {f : dm.V → Option (List dm.V)} {x : dm.V} {xs ys : List dm.V} (h : catM f (x :: xs) = some ys) : ∃ a b, f x = some a ∧ catM f xs = some b ∧ ys = a ++ b := by
  refine xBind h ?_; clear h; intro a h1 h
  refine xMap h ?_; rintro b h2 rfl
  exact ⟨a, b, h1, h2, rfl⟩
theorem CI.on {P : Addr → Prop} {ρ : List (Option dm.V)} {vs : List dm.V} {s s' : Shared} (c : CI dm H nm env W B D P ρ vs s) (y : Step none' s s') (l : LeS s s') : CI dm H nm env W B D P ρ vs s' :=
  ⟨c.inv.step0 y l, c.fr.step0 c.inv.tabs y, let ⟨items, a, b⟩ := c.acc; ⟨items, lx_step c.inv.tabs y id a, repL_step c.inv.tabs y (fun _ _ q => q) b⟩⟩
theorem CI.beside {P W0 : Addr → Prop} {ρ : List (Option dm.V)} {vs : List dm.V} {s s' : Shared} (c : CI dm H nm env W B D P ρ vs s) (y : Step W0 s s') (l : LeS s s') (hH : ∀ b, W0 b → H.objs.size ≤ b) (hP : ∀ b, P b → ¬ W0 b) (hL : ¬ W0 env.locals)
    (hC : ∀ n c, (nm.lookup n = some .cell ∨ nm.lookup n = some .free) → env.cells.lookup n = some c → ¬ W0 c) (hD : ¬ W0 D) : CI dm H nm env W B D P ρ vs s' :=
  ⟨c.inv.step y hH l, Frame.beside c.fr c.inv.tabs y hP hL hC, let ⟨items, a, b⟩ := c.acc; ⟨items, lx_step c.inv.tabs y hD a, repL_step c.inv.tabs y hP b⟩⟩
theorem CI.forget {P : Addr → Prop} {ρ ρ' : List (Option dm.V)} {vs : List dm.V} {s : Shared} (c : CI dm H nm env W B D P ρ' vs s) (h : LeR ρ ρ') : CI dm H nm env W B D P ρ vs s := ⟨c.inv, Fram.forget c.fr h, c.acc⟩
noncomputable def ItemOk (prog : Program) (w : World) (dm : Dom) (H : Heap) (A : Around) (nm : Names) (env : Env) (W : Addr → Prop) (B : Nat) (D I : Addr) (N : Nat) (P : Addr → Prop) (gs : List Comprehension) (elt : Expr) (scope : Scope) (pos : Pos) (d : Nat) (ρ ρ' : List (Option dm.V)) (a : List dm.V) : Prop :=
  ∀ (s : Shared) (vs : List dm.V) (Q : Shared → Prop) (E : Value → Shared → Prop), N ≤ s.heap.objs.size → I < s.heap.objs.size → (vs ++ a).length ≤ fitLen → CI dm H nm env W B D P ρ' vs s →
    (∀ s', Step (fun b => W b ∨ b = D) s s' → CI dm H nm env W B D P ρ (vs ++ a) s' → Q s') →
    Turn2 prog w A env elt gs scope pos d (.ref D) E Q s
theorem nexts_later {P : Addr → Prop} {I : Addr} {ds : List DV} {s s' : Shared} {W0 : Addr → Prop} (x : Nexts prog w A P I ds s) (y : Step W0 s s') (b : Beside P I s W0) : Nexts prog w A P I ds s' := by
  have key : ∀ s'' W1, Step W1 s' s'' → Beside P I s' W1 → Step (fun b => W0 b ∨ W1 b) s s'' ∧ Beside P I s (fun b => W0 b ∨ W1 b) := fun s'' W1 z q =>
    ⟨(y.mono fun b h => .inl (.inl h)).trans z fun b h => .inl (.inr h), fun a h => h.elim (b a) fun h => ⟨(q a h).1, fun l => (q a h).2 (Nat.lt_of_lt_of_le l y.size)⟩⟩
  cases ds with
  | nil => exact fun s'' W1 z q => x s'' _ (key s'' W1 z q).1 (key s'' W1 z q).2
  | cons d ds => exact fun s'' W1 z q => x s'' _ (key s'' W1 z q).1 (key s'' W1 z q).2
noncomputable def LPost (dm : Dom) (H : Heap) (nm : Names) (env : Env) (W : Addr → Prop) (B : Nat) (D I : Addr) (P : Addr → Prop) (ρ : List (Option dm.V)) (s : Shared) (vs : List dm.V) (res : Result) (s' : Shared) : Prop :=
  res = .ok .next ∧ Step (fun b => W b ∨ b = D ∨ b = I) s s' ∧ CI dm H nm env W B D P ρ vs s'
theorem items_loop (L : Lay H nm env W D N) (O : EvOk prog w dm H r ih) (R : Room r A) {elt : Expr} {gs : List Comprehension} {scope : Scope} {pos : Pos} {d : Nat} {t : Tg} {ifs : List Ix} {itE : Expr}
    (hg : gs[d]? = some ⟨t.dec nm, itE, decL nm ifs, 0⟩) (ht : t.wf nm = true) (hifs : wfL nm ifs = true) {P : Addr → Prop} {ρ : List (Option dm.V)} (hfree : freeT t ρ = true) {I : Addr} (hNI : IOk H nm env W D I) (hPI : ¬ P I) (hPD : ¬ P D)
    {f : List (Option dm.V) → Option (List dm.V)} (hf : ∀ ρ' a, LeR ρ ρ' → f ρ' = some a → ItemOk prog w dm H A nm env W B D I N P gs elt scope pos d ρ ρ' a) :
    ∀ (xs ys : List dm.V) (s : Shared) (vs : List dm.V), catM (fun x => (setT t x ρ).bind fun ρ' => (evIfs (fun e => ih true e ρ') ifs).bind fun c => if c then f ρ' else some []) xs = some ys →
      N ≤ s.heap.objs.size → I < s.heap.objs.size → (vs ++ ys).length ≤ fitLen → Nexts prog w A P I (dm.dvs xs) s → CI dm H nm env W B D P ρ vs s →
      codeAny (model prog w) A (.compLoop (.ListComp elt gs scope pos) d (.ref I) (.ref D) env) (LPost dm H nm env W B D I P ρ s (vs ++ ys)) s := by
  have hh := R.handled
  have hIH := hNI.hIH
  have hWI := hNI.hWI
  have hDI := hNI.hDI
  intro xs
  induction xs with
  | nil =>
    intro ys s vs he hN hI hfit nx c
    (have zz := Option.some.inj he; clear he; subst zz)
    refine codeAny_of_tree ?_
    show wpAny _ _ ((compTurn (.ListComp elt gs scope pos) d (.ref I) (.ref D) env).onRaise (fun x => do noteFrame x env; theTreesLotGoes x)) _ _ s
    refine wpAny_noted (compTurn_ok hg (Ok.any ((nx s none' (.refl _ _) (fun _ q => q.elim)).le.mono fun o s₁ z => ?_)))
    refine xA z ?_; clear z; rintro ⟨rfl, y⟩ le
    refine ⟨rfl, y.mono fun b q => .inl (.inr (.inr q)), ?_⟩
    rw [List.append_nil]
    exact c.beside y le (fun b q => q ▸ hIH) (fun b p q => hPI (q ▸ p)) (fun q => hWI (q ▸ c.fr.wl)) (fun n c' hk hc q => hNI.hcI n c' hk hc q) hDI
  | cons x xs ihx =>
    intro ys s vs he hN hI hfit nx c
    refine xEEAA (catM_cons he) ?_; rintro a b h1 h2 rfl
    refine xBind h1 ?_; clear h1; intro ρ' h3 h1
    refine xBind h1 ?_; clear h1; intro cnd h4 h1
    have hle := leR_setT hfree h3
    refine codeAny_of_tree ?_
    show wpAny _ _ ((compTurn (.ListComp elt gs scope pos) d (.ref I) (.ref D) env).onRaise (fun x => do noteFrame x env; theTreesLotGoes x)) _ _ s
    refine wpAny_noted (compTurn_ok hg (Ok.any ((nx s none' (.refl _ _) (fun _ q => q.elim)).le.mono fun o s₁ z => ?_)))
    refine xA z ?_; clear z; rintro ⟨v, rfl, y₁, rv, own, nx'⟩ le₁
    have c₁ : CI dm H nm env W B D P ρ vs s₁ := c.beside y₁ le₁ (fun b q => q ▸ hIH) (fun b p q => hPI (q ▸ p)) (fun q => hWI (q ▸ c.fr.wl)) (fun n c' hk hc q => hNI.hcI n c' hk hc q) hDI
    have hI₁ : I < s₁.heap.objs.size := Nat.lt_of_lt_of_le hI y₁.size
    have hN₁ : N ≤ s₁.heap.objs.size := Nat.le_trans hN y₁.size
    refine Ok.any ((own (t.dec nm)).mono fun _ sx e => ?_)
    rw [e]
    refine xEA c₁.acc ?_; intro items la ra
    refine Ok.any ((setT_ok ht h3 (fun _ _ => rfl) hh c₁.inv L.hWH c₁.fr rv).le.mono fun _ s₂ z => ?_)
    refine xA z ?_; clear z; rintro ⟨y₂, I₂, F₂⟩ le₂
    have la₂ := lx_step c₁.inv.tabs y₂ L.hDW la
    have ra₂ := repL_step c₁.inv.tabs y₂ F₂.disj ra
    have c₂ : CI dm H nm env W B D P ρ' vs s₂ := ⟨I₂, F₂, items, la₂, ra₂⟩
    refine evIfs_ok O R hifs h4 (On.start I₂ F₂.view) fun s₃ x₃ y₃ => ?_
    have c₃ := c₂.on y₃ x₃.le
    have hI₃ : I < s₃.heap.objs.size := Nat.lt_of_lt_of_le hI₁ (Nat.le_trans y₂.size y₃.size)
    have hN₃ : N ≤ s₃.heap.objs.size := Nat.le_trans hN₁ (Nat.le_trans y₂.size y₃.size)
    have s13 : Step W s₁ s₃ := y₂.then y₃
    have fin : ∀ s₇, Step (fun b => W b ∨ b = D) s₁ s₇ → CI dm H nm env W B D P ρ (vs ++ a) s₇ →
        (Code.compLoop (.ListComp elt gs scope pos) d (.ref I) (.ref D) env).quiet = true ∧ codeAny (model prog w) A (.compLoop (.ListComp elt gs scope pos) d (.ref I) (.ref D) env) (LPost dm H nm env W B D I P ρ s (vs ++ (a ++ b))) s₇ := by
      intro s₇ y c₇
      refine ⟨rfl, ?_⟩
      have be : Beside P I s₁ (fun b => W b ∨ b = D) := fun b q => by
        rcases q with q | q
        · exact ⟨fun e => hWI (e ▸ q), fun _ p => c₁.fr.disj b p q⟩
        · exact ⟨fun e => hDI (q.symm.trans e), fun _ p => hPD (q ▸ p)⟩
      have hN₇ : N ≤ s₇.heap.objs.size := Nat.le_trans hN₁ y.size
      have hI₇ : I < s₇.heap.objs.size := Nat.lt_of_lt_of_le hI₁ y.size
      refine codeAny_mono (ihx b s₇ (vs ++ a) h2 hN₇ hI₇ (by rw [List.append_assoc]; exact hfit) (nexts_later nx' y be) c₇) fun res s' z => ?_
      refine xAA z ?_; clear z; rintro rfl y' c'
      rw [List.append_assoc] at c'
      exact ⟨rfl, (y₁.mono fun b q => .inl (.inr (.inr q))).trans ((y.mono fun b q => .inl (q.elim .inl fun q => .inr (.inl q))).trans y' fun b q => .inl q) fun b q => .inl q, c'⟩
    cases cnd with
    | false =>
      (have zz := Option.some.inj h1; clear h1; subst zz)
      exact fin s₃ (s13.mono fun b q => .inl (.inl q)) (by rw [List.append_nil]; exact c₃.forget hle)
    | true =>
      exact hf ρ' a hle h1 s₃ vs (fun s₇ => (Code.compLoop (.ListComp elt gs scope pos) d (.ref I) (.ref D) env).quiet = true ∧ codeAny (model prog w) A (.compLoop (.ListComp elt gs scope pos) d (.ref I) (.ref D) env) (LPost dm H nm env W B D I P ρ s (vs ++ (a ++ b))) s₇)
        (notedBy (model prog w) A env fun e s' => LPost dm H nm env W B D I P ρ s (vs ++ (a ++ b)) (.error e) s') hN₃ hI₃ (by rw [← List.append_assoc, List.length_append] at hfit; exact Nat.le_trans (Nat.le_add_right _ _) hfit) c₃
        (fun s₇ y c₇ => fin s₇ ((s13.mono fun b q => .inl (.inl q)).trans y fun b q => .inl q) c₇)
theorem ItemOk.leaf (L : Lay H nm env W D N) (O : EvOk prog w dm H r ih) (R : Room r A) {e : Ix} (hw : e.wf nm = true) {gs : List Comprehension} {scope : Scope} {pos : Pos} {d : Nat} (hg : gs[d + 1]? = none) {P : Addr → Prop} {ρ ρ' : List (Option dm.V)} {I : Addr} {v : dm.V}
    (hPD : ¬ P D) (hle : LeR ρ ρ') (he : ih false e ρ' = some v) : ItemOk prog w dm H A nm env W B D I N P gs (e.dec nm) scope pos d ρ ρ' [v] := by
  intro s vs Q E hN hI hfit c k
  unfold Turn2; rw [hg]
  refine O.go hw he R (On.start c.inv c.fr.view) fun x s₁ x₁ y₁ rx => ?_
  have c₁ := c.on y₁ x₁.le
  refine xEA c₁.acc ?_; intro items la ra
  have hsz : items.size ≤ sizeLine := by
    rw [List.length_append, List.length_singleton] at hfit
    rw [size_of_repL ra, sizeLine_eq]
    unfold fitLen at hfit
    lia
  refine append_exact la hsz fun h' la' hs => ?_
  have y₂ : Step (fun b => b = D) s₁ { s₁ with heap := h' } := lx_step1 (tk := s₁.toks) la hs (.inl rfl)
  have l₂ : LeS s₁ { s₁ with heap := h' } := ⟨Nat.le_refl _, Nat.le_of_eq hs.1.symm⟩
  refine k _ ((y₁.mono fun _ q => q.elim).trans y₂ fun b q => .inl (.inr q)) ⟨c₁.inv.step y₂ (fun b q => q ▸ L.hDH) l₂, ?_, items.push x, la', ?_⟩
  · refine Frame.beside (Fram.forget c₁.fr hle) c₁.inv.tabs y₂ (fun b p q => hPD (q ▸ p)) (fun q => L.hDW (q ▸ c₁.fr.wl)) fun n c' hk hc q => (L.cN n c' hk hc).2 q
  · rw [Array.toList_push, dvs_append]
    exact (repL_step c₁.inv.tabs y₂ (fun b p q => hPD (q ▸ p)) ra).append (.cons (rep_step c₁.inv.tabs y₂ (fun b p q => hPD (q ▸ p)) rx) .nil)
theorem chain_loop (C : Cx prog w dm H tab tok r) (O : EvOk prog w dm H r ih) (R : Room r A) (L : Lay H nm env W D N) {elt : Ix} (helt : elt.wf nm = true) {gs : List Comprehension} {scope : Scope} {pos : Pos} :
    ∀ (cs : List (Tg × Ix × List Ix)) (d : Nat) (P : Addr → Prop) (ρ : List (Option dm.V)) (xs ys : List dm.V) (I : Addr) (s : Shared) (vs : List dm.V), GensAt nm gs d cs → (∀ c, c ∈ cs → c.1.wf nm = true ∧ wfL nm c.2.2 = true) → (∀ c, c ∈ cs.tail → c.2.1.wf nm = true) →
      evC dm ih elt cs ρ xs = some ys → IOk H nm env W D I → ¬ P I → ¬ P D → N ≤ s.heap.objs.size → I < s.heap.objs.size → (vs ++ ys).length ≤ fitLen → Nexts prog w A P I (dm.dvs xs) s → CI dm H nm env W B D P ρ vs s →
      codeAny (model prog w) A (.compLoop (.ListComp (elt.dec nm) gs scope pos) d (.ref I) (.ref D) env) (LPost dm H nm env W B D I P ρ s (vs ++ ys)) s := by
  intro cs
  induction cs with
  | nil => intro d P ρ xs ys I s vs _ _ _ he; exact nS he
  | cons c1 cs ihc =>
    intro d P ρ xs ys I s vs G hw hwi he hNI hPI hPD hN hI hfit nx c
    refine xA G ?_; clear G; rintro ⟨itE, hg, _⟩ G'
    obtain ⟨t, it, ifs⟩ := c1
    have w1 := hw _ List.mem_cons_self
    cases cs with
    | nil =>
      refine ifS he fun hfree he => ?_
      refine items_loop L O R hg w1.1 w1.2 hfree hNI hPI hPD (f := fun ρ' => (ih false elt ρ').map fun v => [v]) ?_ xs ys s vs he hN hI hfit nx c
      intro ρ' a hle ha
      refine xMap ha ?_; rintro v hv rfl
      exact ItemOk.leaf L O R helt G' hPD hle hv
    | cons c2 cs =>
      refine ifS he fun hfree he => ?_
      · refine items_loop L O R hg w1.1 w1.2 hfree hNI hPI hPD (f := fun ρ' => (evIt dm (fun e => ih false e ρ') c2.2.1).bind fun ys => evC dm ih elt (c2 :: cs) ρ' ys) ?_ xs ys s vs he hN hI hfit nx c
        intro ρ' a hle ha
        refine xBind ha ?_; clear ha; intro zs hz ha
        refine xA G' ?_; clear G'; rintro ⟨itE2, hg2, hit2⟩ G2
        have e2 := hit2 (Nat.succ_pos _)
        subst e2
        intro s vs Q E hN hI hfit c k
        unfold Turn2; rw [hg2]
        refine iter_ok C O (hwi c2 (by simp)) hz R (On.start c.inv c.fr.view) fun x s₁ x₁ y₁ hx => ⟨rfl, dec_noFold _ _ _ _, ?_⟩
        refine Ok.any ((hx A R.handled).le.mono fun it' s₂ z => ?_)
        refine xA z ?_; clear z; rintro ⟨y₂, I₂, rfl, hI₂, I₂lt, its⟩ le₂
        have its := its (fun b => P b ∧ b ≠ I₂) (fun b lb pb => ⟨pb, Nat.ne_of_lt lb⟩) (fun q => q.2 rfl)
        have y02 := y₁.then y₂
        have hNI₂ : N ≤ I₂ := Nat.le_trans hN hI₂
        have le02 := x₁.le.trans le₂
        have hWI₂ : ¬ W I₂ := fun q => absurd (L.hWN I₂ q) (Nat.not_lt.mpr hNI₂)
        have c₂ : CI dm H nm env W B D (fun b => P b ∧ b ≠ I₂) ρ' vs s₂ := by
          refine xEA c.acc ?_; intro items la ra
          exact ⟨c.inv.step0 y02 le02, Frame.less c.fr c.inv.tabs y02 hI₂ I₂lt, items, lx_step c.inv.tabs y02 id la,
            repL_step c.inv.tabs y02 (fun _ _ q => q) (ra.weak fun b pb lb => ⟨pb, fun q => absurd (q ▸ lb) (Nat.not_lt.mpr hI₂)⟩)⟩
        have loop : codeAny (model prog w) A (.compLoop (.ListComp (elt.dec nm) gs scope pos) (d + 1) (.ref I₂) (.ref D) env) (LPost dm H nm env W B D I₂ (fun b => P b ∧ b ≠ I₂) ρ' s₂ (vs ++ a)) s₂ :=
          ihc (d + 1) _ ρ' zs a I₂ s₂ vs ⟨⟨_, hg2, fun _ => rfl⟩, G2⟩ (fun c hc => hw c (List.mem_cons_of_mem _ hc)) (fun c hc => hwi c (List.mem_cons_of_mem _ hc)) ha (L.iok hNI₂) (fun q => q.2 rfl) (fun q => hPD q.1)
            (Nat.le_trans hN y02.size) I₂lt hfit (its.next A R.handled) c₂
        have done : ∀ (res : Result) (s₃ : Shared), (res = .ok .next ∧ Step (fun b => W b ∨ b = D ∨ b = I₂) s₂ s₃ ∧ CI dm H nm env W B D (fun b => P b ∧ b ≠ I₂) ρ' (vs ++ a) s₃) → res = .ok .next ∧ Q s₃ := by
          rintro res s₃ ⟨rfl, y₃, c₃⟩
          refine ⟨rfl, k s₃ ?_ ?_⟩
          · refine ((y02.mono fun _ q => q.elim).trans y₃ fun b q => .inl q).mono fun b q => ?_
            rcases q with q | q | q
            · exact .inl (.inl q)
            · exact .inl (.inr q)
            · exact .inr (q ▸ hI₂)
          · refine xEA c₃.acc ?_; intro items la ra
            exact ⟨c₃.inv, Frame.back (Fram.forget c₃.fr hle) hWI₂, items, la, ra.weak fun _ pb _ => pb.1⟩
        refine wpAny_runOwn (Q := fun _ s₇ => Q s₇) ?_
        rw [Around.mark_none]
        refine codeAny_mono (compStart_ok (R := fun res s₃ => res = .ok .next ∧ Q s₃) hg2 (codeAny_mono loop done) fun E' => its.self A R.handled s₂ none' _ _ (.refl _ _) (fun _ q => q.elim) (codeAny_mono loop done)) fun res s₃ z => ?_
        refine xA z ?_; clear z; rintro rfl z
        exact z
end
theorem cellsFrom_append : ∀ (names : Names) (k : Nat) (acc : List (Str × Addr)), cellsFrom k names acc = cellsFrom k names [] ++ acc
  | [], k, acc => rfl
  | (n, kd) :: r, k, acc => by
    unfold cellsFrom
    split
    · rw [cellsFrom_append r (k + 1) ((n, k) :: acc), cellsFrom_append r (k + 1) [(n, k)]]
      simp
    · exact cellsFrom_append r k acc
theorem cellsFrom_names : ∀ (names : Names) (k : Nat) {x : Str} {c : Addr}, (x, c) ∈ cellsFrom k names [] → (x, NameKind.cell) ∈ names
  | [], k, x, c, h => by cases h
  | (n, kd) :: r, k, x, c, h => by
    unfold cellsFrom at h
    split at h
    · rename_i hk
      rw [cellsFrom_append, List.mem_append] at h
      rcases h with h | h
      · exact List.mem_cons_of_mem _ (cellsFrom_names r _ h)
      · rw [List.mem_singleton] at h; cases h
        have : kd = .cell := by simpa using hk
        rw [this]; exact List.mem_cons_self
    · exact List.mem_cons_of_mem _ (cellsFrom_names r _ h)
theorem cellsFrom_has : ∀ (names : Names) (k : Nat) {x : Str}, (x, NameKind.cell) ∈ names → ∃ c, (cellsFrom k names []).lookup x = some c
  | [], k, x, h => by cases h
  | (n, kd) :: r, k, x, h => by
    unfold cellsFrom
    rcases List.mem_cons.mp h with e | h
    · cases e
      rw [if_pos (by rfl), cellsFrom_append, List.lookup_append]
      cases e2 : (cellsFrom (k + 1) r []).lookup n with
      | some c => exact ⟨c, rfl⟩
      | none => exact ⟨k, by simp⟩
    · split
      · rw [cellsFrom_append, List.lookup_append]
        refine xE (cellsFrom_has r (k + 1) h) ?_; intro c e
        exact ⟨c, by rw [e]; rfl⟩
      · exact cellsFrom_has r k h
theorem pushCells_size : ∀ (names : Names) (h : Heap), h.objs.size ≤ (pushCells h names).objs.size
  | [], h => Nat.le_refl _
  | (n, kd) :: r, h => by
    unfold pushCells
    split
    · exact Nat.le_trans (by rw [Heap.size_push]; exact Nat.le_succ _) (pushCells_size r _)
    · exact pushCells_size r h
noncomputable def closL (cells : List (Str × Addr)) : Names → List (Str × Addr) → List (Str × Addr)
  | [], acc => acc
  | (n, k) :: r, acc => if k == .free then closL cells r ((n, (cells.lookup n).getD 0) :: acc) else closL cells r acc
theorem closL_mem {cells : List (Str × Addr)} : ∀ {names : Names} {acc : List (Str × Addr)} {x : Str} {c : Addr}, (x, c) ∈ closL cells names acc → (x, c) ∈ acc ∨ ((x, NameKind.free) ∈ names ∧ c = (cells.lookup x).getD 0)
  | [], acc, x, c, h => .inl h
  | (n, k) :: r, acc, x, c, h => by
    unfold closL at h
    split at h
    · rename_i hk
      have hk : k = .free := by simpa using hk
      rcases closL_mem h with h | ⟨h, e⟩
      · rcases List.mem_cons.mp h with q | q
        · cases q; exact .inr ⟨by rw [hk]; exact List.mem_cons_self, rfl⟩
        · exact .inl q
      · exact .inr ⟨List.mem_cons_of_mem _ h, e⟩
    · rcases closL_mem h with h | ⟨h, e⟩
      · exact .inl h
      · exact .inr ⟨List.mem_cons_of_mem _ h, e⟩
theorem closL_other {cells : List (Str × Addr)} : ∀ {names : Names} {acc : List (Str × Addr)} {x : Str}, x ∉ names.map (·.1) → (closL cells names acc).lookup x = acc.lookup x
  | [], acc, x, _ => rfl
  | (n, k) :: r, acc, x, h => by
    rw [List.map_cons, List.mem_cons, not_or] at h
    unfold closL
    split
    · rw [closL_other h.2, List.lookup_cons]
      have : (x == n) = false := by simpa using h.1
      rw [this]
    · exact closL_other h.2
theorem closL_free {cells : List (Str × Addr)} : ∀ {names : Names} {acc : List (Str × Addr)} {x : Str}, (names.map (·.1)).Nodup → (x, NameKind.free) ∈ names → (closL cells names acc).lookup x = some ((cells.lookup x).getD 0)
  | [], acc, x, _, h => by cases h
  | (n, k) :: r, acc, x, hd, h => by
    rw [List.map_cons, List.nodup_cons] at hd
    unfold closL
    rcases List.mem_cons.mp h with e | h
    · cases e
      rw [if_pos (by rfl), closL_other hd.1, List.lookup_cons]
      simp
    · split
      · exact closL_free hd.2 h
      · exact closL_free hd.2 h
theorem closureFor_eq {scope : Scope} {env : Env} (h : ∀ n, (n, NameKind.free) ∈ scope.names → ∃ c, env.cells.lookup n = some c) : closureFor scope env = pure (closL env.cells scope.names []) := by
  have go : ∀ (names : Names) (acc : List (Str × Addr)), (∀ n, (n, NameKind.free) ∈ names → ∃ c, env.cells.lookup n = some c) →
      (forIn names acc fun (x : Str × NameKind) (cs : List (Str × Addr)) => (if (x.2 == NameKind.free) = true then do let a ← cellOf env x.1; pure (ForInStep.yield ((x.1, a) :: cs)) else pure (ForInStep.yield cs) : Sem (ForInStep (List (Str × Addr))))) = pure (closL env.cells names acc) := by
    intro names
    induction names with
    | nil => intro acc _; rfl
    | cons x r ih =>
      intro acc hf
      obtain ⟨n, k⟩ := x
      rw [List.forIn_cons]
      unfold closL
      by_cases q : (k == NameKind.free) = true
      · have hk : k = .free := by simpa using q
        refine xE (hf n (by rw [hk]; exact List.mem_cons_self)) ?_; intro c hc
        have e : cellOf env n = pure c := by unfold cellOf; rw [hc]
        simp only [q, if_true, e, pure_bind, hc, Option.getD_some]
        exact ih _ fun m hm => hf m (List.mem_cons_of_mem _ hm)
      · simp only [q, if_false, pure_bind]
        exact ih _ fun m hm => hf m (List.mem_cons_of_mem _ hm)
  have := go scope.names [] h
  unfold closureFor
  first
    | exact this
    | (rw [this]; rfl)
    | (simp only [this, pure_bind])
section
variable {M : Model} {A : Around} {E : Value → Shared → Prop} {s : Shared}
theorem newCompEnv {scope : Scope} {globals : Addr} {cl : List (Str × Addr)} {qual : Str} {env : Env} {Q : Env → Shared → Prop}
    (hQ : Q (newEnv scope s.heap.objs.size globals (cellsFrom (s.heap.objs.size + 1) scope.names cl) qual none .none (some env) builtinsNs) { s with heap := pushCells (s.heap.push { cls := .type "dict", data := .dict #[] }) scope.names }) :
    wpAny M A (newFunctionEnv scope globals cl [] qual none .none (some env)) Q E s := by
  simp only [newFunctionEnv, Option.isSome_some, if_true]
  refine wpAny_bind (wpAny_alloc ?_)
  refine wpAny_bind (wpAny_layCells _ (fun name kind cells => by cases hkc : kind == NameKind.cell <;> simp [hkc]) _ _ _ _ ?_)
  rw [show ({ s with heap := s.heap.push { cls := .type "dict", data := .dict #[] } } : Shared).heap.objs.size = s.heap.objs.size + 1 from Heap.size_push ..]
  first
    | exact wpAny_bind (wpAny_pure hQ)
    | exact wpAny_pure hQ
    | (rw [List.forIn_nil]; exact wpAny_bind (wpAny_pure (wpAny_pure hQ)))
end
theorem relabel_lookup {cond : Str → NameKind → Bool} {x : Str} {k : NameKind} {names : Names} : names.lookup x = some k → (names.map fun y => if cond y.1 y.2 = true then (y.1, NameKind.cell) else (y.1, y.2)).lookup x = some (if cond x k then .cell else k) := by
  induction names with
  | nil => intro h; exact nS h
  | cons y r ih =>
    intro h
    have e : ∀ c : Bool, (if c = true then (y.1, NameKind.cell) else (y.1, y.2)) = (y.1, if c = true then NameKind.cell else y.2) := fun c => by cases c <;> rfl
    rw [List.map_cons, e, List.lookup_cons]
    rw [List.lookup_cons] at h
    cases q : x == y.1 with
    | true =>
      rw [q] at h
      (have zz := Option.some.inj h; clear h; subst zz)
      rw [eq_of_beq q]
    | false => rw [q] at h; exact ih h
theorem mem_lookup {nm : Names} {x : Str} {k : NameKind} (hd : (nm.map (·.1)).Nodup) (h : (x, k) ∈ nm) : nm.lookup x = some k := by
  obtain ⟨i, hi, e⟩ := List.mem_iff_getElem.mp h
  exact lookup_at hd (by rw [List.getElem?_eq_getElem hi, e])
theorem cls_gens : ∀ e : Ix, clsOf e = [] → ∀ nm0 nm, e.gens nm0 nm = [] := by
  intro e h nm0 nm
  cases e <;> first | rfl | cases h
theorem cls_cl {P : Ix → Prop} (h1 : ∀ t it ifs r, P (.cl t it ifs r)) (h2 : ∀ e, clsOf e = [] → P e) (e : Ix) : P e := by
  cases e <;> first | exact h1 _ _ _ _ | exact h2 _ rfl
theorem ix_cl (e : Ix) : (∃ t it ifs r, e = .cl t it ifs r) ∨ (clsOf e = [] ∧ ∀ nm0 nm, e.gens nm0 nm = []) :=
  cls_cl (P := fun e => (∃ t it ifs r, e = .cl t it ifs r) ∨ (clsOf e = [] ∧ ∀ nm0 nm, e.gens nm0 nm = [])) (fun _ _ _ _ => .inl ⟨_, _, _, _, rfl⟩) (fun e h => .inr ⟨h, cls_gens e h⟩) e
theorem clsOf_wf {nm : Names} (n : Nat) : ∀ {e : Ix} {nm0 : Names}, (clsOf e).length ≤ n → e.wfC nm0 nm = true → ∀ c, c ∈ clsOf e → c.1.wf nm = true ∧ wfL nm c.2.2 = true ∧ (nm0 = nm → c.2.1.wf nm = true) := by
  induction n with
  | zero =>
    intro e nm0 hn h c hc
    rw [List.length_eq_zero_iff.mp (Nat.le_zero.mp hn)] at hc; cases hc
  | succ n ih =>
    intro e nm0 hn h c hc
    rcases ix_cl e with ⟨t, it, ifs, r, rfl⟩ | ⟨q, _⟩
    · replace h := and3 h
      have h1 := and2 h.1.1
      rcases List.mem_cons.mp hc with rfl | hc
      · exact ⟨h1.1, h.1.2, fun q => q ▸ h1.2⟩
      · exact ⟨(ih (Nat.le_of_succ_le_succ hn) h.2 c hc).1, (ih (Nat.le_of_succ_le_succ hn) h.2 c hc).2.1, fun _ => (ih (Nat.le_of_succ_le_succ hn) h.2 c hc).2.2 rfl⟩
    · rw [q] at hc; cases hc
theorem gens_tail {nm : Names} (n : Nat) : ∀ {e : Ix} {pre : List Comprehension}, (clsOf e).length ≤ n → GensAt nm (pre ++ e.gens nm nm) pre.length (clsOf e) := by
  induction n with
  | zero =>
    intro e pre hn
    rcases ix_cl e with ⟨t, it, ifs, r, rfl⟩ | ⟨q, g⟩
    · exact absurd hn (Nat.not_succ_le_zero _)
    · rw [q, g, List.append_nil]
      exact List.getElem?_eq_none (Nat.le_refl _)
  | succ n ih =>
    intro e pre hn
    rcases ix_cl e with ⟨t, it, ifs, r, rfl⟩ | ⟨q, g⟩
    · refine ⟨⟨it.dec nm, (List.getElem?_append_right (Nat.le_refl _)).trans (by rw [Nat.sub_self]; rfl), fun _ => rfl⟩, ?_⟩
      have := ih (pre := pre ++ [⟨t.dec nm, it.dec nm, decL nm ifs, 0⟩]) (Nat.le_of_succ_le_succ hn)
      rw [List.append_assoc, List.length_append] at this
      exact this
    · rw [q, g, List.append_nil]
      exact List.getElem?_eq_none (Nat.le_refl _)
theorem okLink_at {nm nm' : Names} {link : List (Option Nat)} : ∀ {names : Names} {i : Nat} {x : Str} {k : NameKind}, okLink nm nm' link names = true → names[i]? = some (x, k) →
    (k = .free ∧ ∃ j k2, link[i]? = some (some j) ∧ nm[j]? = some (x, k2) ∧ (k2 = .cell ∨ k2 = .free)) ∨ (k ≠ .free ∧ link[i]? = some none) := by
  induction link with
  | nil =>
    intro names i x k h e
    cases names with
    | nil => exact nS e
    | cons => exact bF h
  | cons o os ih =>
    intro names i x k h e
    cases names with
    | nil => exact bF h
    | cons y names =>
      replace h := and2 h
      cases i with
      | succ i => exact ih h.2 e
      | zero =>
        cases Option.some.inj e
        replace h := h.1
        cases k with
        | free =>
          cases o with
          | none => exact bF h
          | some j =>
            refine .inl ⟨rfl, j, ?_⟩
            replace h : (match nm[j]? with | some y => y.1 == x && (y.2 == .cell || y.2 == .free) | none => false) = true := h
            cases hj : nm[j]? with
            | none => rw [hj] at h; exact bF h
            | some z =>
              rw [hj] at h
              replace h := and2 h
              exact ⟨z.2, rfl, by rw [← eq_of_beq h.1], (Bool.or_eq_true_iff.mp h.2).imp eq_of_beq eq_of_beq⟩
        | globalExplicit => exact bF h
        | _ => exact .inr ⟨(fun q => nomatch q), by cases o with | none => rfl | some _ => exact bF h⟩
section
variable {prog : Program} {w : World} {dm : Dom} {H : Heap} {tab : Nat → List dm.V → Option dm.V} {tok : Nat → Option dm.D} {r : Nat} {ih : Ev dm} {A : Around} {s : Shared} {nm : Names} {env : Env} {P : Addr → Prop} {ρ : List (Option dm.V)}
theorem comp_core (C : Cx prog w dm H tab tok r) (O : EvOk prog w dm H r ih) {elt it rest : Ix} {t : Tg} {ifs : List Ix} {nm' : Names} {link : List (Option Nat)} {p pos : Pos} {xs ys : List dm.V} {use : Option (Value → Sem Unit)} {Q : Value → Shared → Prop}
    (helt : elt.wf nm' = true) (hcls : (Ix.cl t it ifs rest).wfC nm nm' = true) (hlink : okLink nm nm' link nm' = true) (hnd : (nm'.map (·.1)).Nodup)
    (hxs : evIt dm (fun e => ih false e ρ) it = some xs) (hys : evC dm ih elt (clsOf (.cl t it ifs rest)) (linkR link ρ) xs = some ys) (hfit : ys.length ≤ fitLen)
    (R : Room r A) (I₀ : Inv H s) (V : View nm env P (denR dm nm ρ) s.heap)
    (hK : ∀ (Da Ca : Addr) (s' : Shared) (m : Str → Option Value), Step none' s s' → Inv H s' → s.heap.objs.size ≤ Da → s.heap.objs.size ≤ Ca → Rep (fun b => P b ∧ b ≠ Ca) s'.heap (.ref Da) (dm.dv (.list ys)) → s'.heap.Ns Ca m → compPost (model prog w) A (fun _ _ => False) use Q (.ref Da) Ca (.ok .next) s') :
    Ok (model prog w) A (comprehension ((Ix.comp elt (.cl t it ifs rest) nm' link p).dec nm) (compScope nm') env pos (newList []) false (eval (it.dec nm) env) use) Q s := by
  have hcls' := and3 hcls
  have hcl2 := and2 hcls'.1.1
  have hh := R.handled
  have X := On.start I₀ V
  -- the names handed on
  have hfree : ∀ n, (n, NameKind.free) ∈ nm' → ∃ k2, nm.lookup n = some k2 ∧ (k2 = .cell ∨ k2 = .free) := fun n hn => by
    obtain ⟨i, hi, e⟩ := List.mem_iff_getElem.mp hn
    rcases okLink_at hlink (i := i) (by rw [List.getElem?_eq_getElem hi, e]) with ⟨_, j, k2, _, e2, e3⟩ | ⟨q, _⟩
    · exact ⟨k2, lookup_at V.nodup e2, e3⟩
    · exact absurd rfl q
  have hcell : ∀ n, (n, NameKind.free) ∈ nm' → ∃ c, env.cells.lookup n = some c := fun n hn => by
    refine xEA (hfree n hn) ?_; intro k2 e hk
    obtain ⟨c, _, a, _⟩ := V.cell n (hk.imp (fun q => by rw [e, q]) (fun q => by rw [e, q]))
    exact ⟨c, a⟩
  have hclos : closureFor (compScope nm') env = pure (closL env.cells nm' []) := closureFor_eq hcell
  refine wpAny_comprehension_free (use := use) (cl := closL env.cells nm' []) (g := ⟨t.dec nm', it.dec nm, decL nm' ifs, 0⟩) (gs := rest.gens nm' nm') rfl (fun x => dec_noFold _ _ _ _) hclos rfl (fun x hx hk => ?_) ?_
  · obtain ⟨n, k⟩ := x
    exact hk ▸ mem_lookup hnd hx
  show wpAny _ _ (eval (it.dec nm) env) _ _ s
  refine iter_ok C O hcl2.2 hxs R X fun x s₁ x₁ y₁ hx => ?_
  refine Ok.any ((hx A hh).le.mono fun itv s₂ z => ?_)
  refine xA z ?_; clear z; rintro ⟨y₂, I, rfl, hI, hIlt, its⟩ le₂
  have x₂ := x₁.go y₂ le₂
  have T₂ := x₂.inv.tabs
  refine wpAny_newObj_type ?_
  refine newCompEnv ?_
  -- the new objects
  generalize hh₂ : s₂.heap.push { cls := .type "list", dict := none, data := .seq ([] : List Value).toArray } = h₃
  have e3 : h₃.objs.size = s₂.heap.objs.size + 1 := by rw [← hh₂, Heap.size_push]
  generalize hh₃ : h₃.push { cls := .type "dict", data := .dict #[] } = h₃'
  have e3' : h₃'.objs.size = s₂.heap.objs.size + 2 := by rw [← hh₃, Heap.size_push, e3]
  have k3 : ∀ b o, s₂.heap.get? b = some o → h₃'.get? b = some o := fun b o e => hh₃ ▸ Heap.get?_push_of_some _ (hh₂ ▸ Heap.get?_push_of_some _ e)
  have hD3 : h₃'.get? s₂.heap.objs.size = some { cls := .type "list", dict := none, data := .seq ([] : List Value).toArray } := hh₃ ▸ Heap.get?_push_of_some _ (hh₂ ▸ Heap.get?_push_size _ rfl)
  have hC3 : h₃'.Ns h₃.objs.size fun _ => none := hh₃ ▸ Heap.Ns.new h₃ (.type "dict")
  have ok := cellsFrom_ok nm' h₃' (s₂.heap.objs.size + 2) [] ⟨fun _ _ hm => (nomatch hm), List.Pairwise.nil⟩ (by rw [e3']; exact Nat.le_refl _)
  rw [e3'] at ok
  have eC : h₃.objs.size + 1 = s₂.heap.objs.size + 2 := by rw [e3]
  change codeAny (model prog w) A (.compStart (.ListComp (elt.dec nm') (⟨t.dec nm', it.dec nm, decL nm' ifs, 0⟩ :: rest.gens nm' nm') (compScope nm') p) 0 (.ref I) (.ref s₂.heap.objs.size)
    (compEnvC (compScope nm') (cellsFrom (h₃.objs.size + 1) nm' (closL env.cells nm' [])) h₃.objs.size env)) (compPost (model prog w) A _ use _ _ h₃.objs.size) { s₂ with heap := pushCells h₃' nm' }
  rw [eC, cellsFrom_append]
  have kp := pushCells_keeps nm' h₃'
  have zp := pushCells_size nm' h₃'
  have ownN : ∀ {x : Str} {c : Addr}, (x, c) ∈ cellsFrom (s₂.heap.objs.size + 2) nm' [] → (x, NameKind.cell) ∈ nm' := fun h => cellsFrom_names _ _ h
  have ownH : ∀ {x : Str}, (x, NameKind.cell) ∈ nm' → ∃ c, (cellsFrom (s₂.heap.objs.size + 2) nm' []).lookup x = some c := fun h => cellsFrom_has _ _ h
  generalize pushCells h₃' nm' = h₄ at ok kp zp ⊢
  generalize cellsFrom (s₂.heap.objs.size + 2) nm' [] = own at ok ownN ownH ⊢
  -- where things lie
  have hC : h₃.objs.size = s₂.heap.objs.size + 1 := e3
  generalize hCd : h₃.objs.size = Cd at hC hC3 ⊢
  generalize hDd : s₂.heap.objs.size = Dd at hC hD3 ok hIlt e3' ⊢
  have hk4 : ∀ b o, s₂.heap.get? b = some o → h₄.get? b = some o := fun b o e => kp b o (k3 b o e)
  have z4 : Dd + 2 ≤ h₄.objs.size := by rw [← e3']; exact zp
  have y₄ : Step none' s₂ { s₂ with heap := h₄ } := .grown (tk := s₂.toks) hk4 (by rw [hDd]; exact Nat.le_trans (Nat.le_add_right _ _) z4)
  have l₄ : LeS s₂ { s₂ with heap := h₄ } := ⟨Nat.le_refl _, by show s₂.heap.objs.size ≤ h₄.objs.size; rw [hDd]; exact Nat.le_trans (Nat.le_add_right _ _) z4⟩
  have x₄ := x₂.go y₄ l₄
  have sD : s.heap.objs.size ≤ Dd := hDd ▸ x₂.step.size
  have HD : H.objs.size ≤ Dd := Nat.le_trans I₀.size sD
  have ownLt' : ∀ {x : Str} {c : Nat}, (x, c) ∈ own → Dd + 2 ≤ c ∧ c < h₄.objs.size := fun h => ⟨(ok.empty _ _ h).2, (ok.empty _ _ h).1.lt⟩
  obtain ⟨J, eJ⟩ : ∃ n : Nat, n = I := ⟨I, rfl⟩
  subst eJ
  replace hI : s.heap.objs.size ≤ J := hI
  replace hIlt : J < Dd := hIlt
  have clIn : ∀ {x : Str} {c : Addr}, (x, c) ∈ closL env.cells nm' [] → (x, NameKind.free) ∈ nm' ∧ env.cells.lookup x = some c ∧ c < s.heap.objs.size := fun {x c} h => by
    rcases closL_mem h with q | ⟨q, e⟩
    · cases q
    · refine xE (hcell x q) ?_; intro c' hc'
      rw [hc', Option.getD_some] at e
      subst e
      refine xEA (hfree x q) ?_; intro k2 e hk
      obtain ⟨c'', _, a, ic, _⟩ := V.cell x (hk.imp (fun q => by rw [e, q]) (fun q => by rw [e, q]))
      rw [hc'] at a; (have zz := Option.some.inj a; clear a; subst zz)
      exact ⟨q, hc', ic.lt⟩
  have cellIn : ∀ {x : Str} {c : Addr}, (own ++ closL env.cells nm' []).lookup x = some c → (x, c) ∈ own ∨ ((x, NameKind.free) ∈ nm' ∧ env.cells.lookup x = some c ∧ c < s.heap.objs.size) := fun h => by
    rcases List.mem_append.mp (mem_of_lookup h) with q | q
    · exact .inl q
    · exact .inr (clIn q)
  have inFree : ∀ {x : Str}, nm'.lookup x = some .free → (x, NameKind.free) ∈ nm' := fun h => mem_of_lookup h
  have ownNo : ∀ {x : Str} {c : Addr}, (x, c) ∈ own → nm'.lookup x = some .cell := fun h => mem_lookup hnd (ownN h)
  have atIdx : ∀ {x : Str} {k : NameKind}, nm'.lookup x = some k → ∃ i : Nat, nm'[i]? = some (x, k) := fun h => by
    obtain ⟨i, hi, e⟩ := List.mem_iff_getElem.mp (mem_of_lookup h)
    exact ⟨i, by rw [List.getElem?_eq_getElem hi, e]⟩
  have dLoc : ∀ {x : Str} {k : NameKind} {d : DV}, nm'.lookup x = some k → k ≠ .free → denR dm nm' (linkR link ρ) x ≠ some d := fun {x k d} h hk e => by
    refine xE (atIdx h) ?_; intro i hi
    unfold denR at e
    rw [look_at hnd hi] at e
    rcases okLink_at hlink hi with ⟨q, _⟩ | ⟨_, q⟩
    · exact hk q
    · have : (linkR link ρ)[i]? = some none := by unfold linkR; rw [List.getElem?_map, q]; rfl
      rw [this] at e
      exact nS e
  have dFree : ∀ {x : Str} {d : DV}, nm'.lookup x = some .free → denR dm nm' (linkR link ρ) x = some d → denR dm nm ρ x = some d := fun {x d} h e => by
    refine xE (atIdx h) ?_; intro i hi
    unfold denR at e ⊢
    rw [look_at hnd hi] at e
    rcases okLink_at hlink hi with ⟨_, j, k2, e1, e2, _⟩ | ⟨q, _⟩
    · have : (linkR link ρ)[i]? = some ((ρ[j]?).join) := by unfold linkR; rw [List.getElem?_map, e1]; rfl
      rw [this] at e
      rw [look_at V.nodup e2]
      exact e
    · exact absurd rfl q
  -- what the loop may turn
  let W : Addr → Prop := fun b => b = Cd ∨ ∃ x, (x, b) ∈ own
  let P' : Addr → Prop := fun b => P b ∧ b ≠ J ∧ b ≠ Dd ∧ ¬ W b
  have WD : ∀ b : Nat, W b → Dd + 1 ≤ b ∧ b < h₄.objs.size := fun b q => by
    rcases q with q | ⟨x, q⟩
    · have q : b = Cd := q
      lia
    · have := ownLt' q; lia
  have old : ∀ b : Nat, b < s.heap.objs.size → P b → P' b := fun b lb pb => ⟨pb, Nat.ne_of_lt (by lia), Nat.ne_of_lt (by lia), fun q => by have := WD b q; lia⟩
  have oldI : ∀ b : Nat, b < J → P b → P' b := fun b lb pb => ⟨pb, Nat.ne_of_lt lb, Nat.ne_of_lt (by lia), fun q => by have := WD b q; lia⟩
  have V' : View nm' (compEnvC (compScope nm') (own ++ closL env.cells nm' []) Cd env) P' (denR dm nm' (linkR link ρ)) h₄ := by
    refine ⟨rfl, V.glob, V.blt, fun x k hk => ?_, fun x d hd hk => absurd hd (dLoc hk (by simp)), fun x hk => ?_, fun (b : Nat) (hb : h₄.objs.size ≤ b) => ⟨x₄.view.fresh b hb, Nat.ne_of_gt (by lia), Nat.ne_of_gt (by lia), fun q => by have := WD b q; lia⟩, fun x y (c : Nat) hx hy => ?_, hnd⟩
    · have := relabel_lookup (cond := fun n k => (k == NameKind.free && env.scope.kind == .function && env.kindOf n == some .cell)) hk
      by_cases c : (k == NameKind.free && env.scope.kind == .function && env.kindOf x == some .cell) = true
      · rw [if_pos c] at this
        simp only [Bool.and_eq_true] at c
        exact .inr ⟨by simpa using c.1.1, this⟩
      · rw [if_neg c] at this
        exact .inl this
    · rcases hk with hk | hk
      · refine xE (ownH (mem_of_lookup hk)) ?_; intro c hc
        exact ⟨c, none, by show (own ++ closL env.cells nm' []).lookup x = _; rw [List.lookup_append, hc]; rfl, (ok.empty _ _ (mem_of_lookup hc)).1, fun d hd => absurd hd (dLoc hk (by simp))⟩
      · have hno : own.lookup x = none := by
          cases e : own.lookup x with
          | none => rfl
          | some c' => have := ownNo (mem_of_lookup e); rw [hk] at this; cases this
        refine xEA (hfree x (inFree hk)) ?_; intro k2 e hk2
        obtain ⟨c, cv, a, ic, q⟩ := V.cell x (hk2.imp (fun q => by rw [e, q]) (fun q => by rw [e, q]))
        refine ⟨c, cv, ?_, cell_step I₀.tabs x₄.step id ic, fun d hd => ?_⟩
        · show (own ++ closL env.cells nm' []).lookup x = _
          rw [List.lookup_append, hno, closL_free hnd (inFree hk), a]; rfl
        · refine xEA (q d (dFree hk hd)) ?_; intro v e1 e2
          exact ⟨v, e1, rep_step I₀.tabs x₄.step (fun _ _ z => z) (e2.weak fun b pb lb => old b lb pb)⟩
    · rcases cellIn hx with hx | ⟨_, ex, lx⟩ <;> rcases cellIn hy with hy | ⟨_, ey, ly⟩
      · exact name_of_addr ok.apart hx hy
      · have := ownLt' (c := c) hx; have l : c < s.heap.objs.size := ly; lia
      · have := ownLt' (c := c) hy; have l : c < s.heap.objs.size := lx; lia
      · exact V.cinj x y c ex ey
  have F' : Fram dm nm' (compEnvC (compScope nm') (own ++ closL env.cells nm' []) Cd env) P' W (linkR link ρ) noOwn 0 h₄ := by
    refine ⟨V', fun b q => q.2.2.2, fun _ _ => Nat.zero_le _, .inl rfl, ⟨_, hC3.keeps kp⟩, fun x c _ hk hc => ?_, (fun _ _ e => by exact nS e), (fun _ _ _ _ _ _ e => by exact nS e)⟩
    rcases cellIn hc with q | ⟨q, _⟩
    · exact .inr ⟨x, q⟩
    · have := mem_lookup hnd q; rw [hk] at this; cases this
  have cellAt : ∀ n (c : Nat), (nm'.lookup n = some .cell ∨ nm'.lookup n = some .free) → (compEnvC (compScope nm') (own ++ closL env.cells nm' []) Cd env).cells.lookup n = some c → c < h₄.objs.size ∧ c ≠ Dd ∧ c ≠ J := fun n (c : Nat) _ hc => by
    rcases cellIn hc with q | ⟨_, _, q⟩
    · have := ownLt' (c := c) q; exact ⟨this.2, Nat.ne_of_gt (by lia), Nat.ne_of_gt (by lia)⟩
    · have l : c < s.heap.objs.size := q; exact ⟨Nat.lt_of_lt_of_le l (by lia), Nat.ne_of_lt (by lia), Nat.ne_of_lt (by lia)⟩
  have L : Lay H nm' (compEnvC (compScope nm') (own ++ closL env.cells nm' []) Cd env) W Dd h₄.objs.size :=
    ⟨fun (b : Nat) q => by have := WD b q; show H.objs.size ≤ b; lia, HD, fun b q => (WD b q).2, by show Dd < h₄.objs.size; lia, fun q => by have := WD _ q; lia, fun n c hk hc => ⟨(cellAt n c hk hc).1, (cellAt n c hk hc).2.1⟩⟩
  have IO : IOk H nm' (compEnvC (compScope nm') (own ++ closL env.cells nm' []) Cd env) W Dd J :=
    ⟨Nat.le_trans I₀.size hI, fun q => by have := WD _ q; lia, Nat.ne_of_gt hIlt, fun n c hk hc => (cellAt n c hk hc).2.2⟩
  have nx : Nexts prog w A P' J (dm.dvs xs) { s₂ with heap := h₄ } :=
    nexts_later ((its P' oldI (fun q => q.2.1 rfl)).next A hh) y₄ fun _ q => q.elim
  have ci : CI dm H nm' (compEnvC (compScope nm') (own ++ closL env.cells nm' []) Cd env) W 0 Dd P' (linkR link ρ) [] { s₂ with heap := h₄ } := ⟨x₄.inv, F', #[], ⟨_, kp _ _ hD3⟩, .nil⟩
  have loop := chain_loop (scope := compScope nm') (pos := p) C O R L helt (clsOf (.cl t it ifs rest)) 0 P' (linkR link ρ) xs ys J { s₂ with heap := h₄ } []
    (gs := ⟨t.dec nm', it.dec nm, decL nm' ifs, 0⟩ :: rest.gens nm' nm') ⟨⟨it.dec nm, rfl, fun h => absurd h (Nat.lt_irrefl _)⟩, gens_tail _ (pre := [⟨t.dec nm', it.dec nm, decL nm' ifs, 0⟩]) (Nat.le_refl _)⟩
    (fun c hc => ⟨(clsOf_wf _ (Nat.le_refl _) hcls c hc).1, (clsOf_wf _ (Nat.le_refl _) hcls c hc).2.1⟩) (fun c hc => (clsOf_wf _ (Nat.le_refl _) hcls'.2 c hc).2.2 rfl) hys IO (fun q => q.2.1 rfl) (fun q => q.2.2.1 rfl) (Nat.le_refl _) (by show J < h₄.objs.size; lia) hfit nx ci
  have done : ∀ (res : Result) (s' : Shared), LPost dm H nm' (compEnvC (compScope nm') (own ++ closL env.cells nm' []) Cd env) W 0 Dd J P' (linkR link ρ) { s₂ with heap := h₄ } ([] ++ ys) res s' →
      compPost (model prog w) A (fun _ _ => False) use Q (.ref Dd) Cd res s' := by
    rintro res s' ⟨rfl, y, c⟩
    refine xE c.fr.ns ?_; intro m n
    refine xEA c.acc ?_; intro items la ra
    refine hK Dd Cd s' m ?_ c.inv sD (by show s.heap.objs.size ≤ Cd; lia) ?_ n
    · refine ((x₄.step.mono fun _ q => q.elim).trans (W := fun b => W b ∨ b = Dd ∨ b = J) y fun b q => .inl q).mono fun (b : Nat) q => ?_
      right
      show s.heap.objs.size ≤ b
      rcases q with q | q | q
      · have := WD b q; lia
      · have q : b = Dd := q; lia
      · have q : b = J := q; lia
    · show Rep _ s'.heap _ (.list (dm.dvs ys))
      exact .list ⟨V.fresh Dd sD, Nat.ne_of_lt (by lia)⟩ la (ra.weak fun b q _ => ⟨q.1, fun e => q.2.2.2 (.inl e)⟩)
  exact compStart_ok (t := t.dec nm') (itE := it.dec nm) (ifs := decL nm' ifs) rfl (codeAny_mono loop done) fun E' =>
    (its P' oldI (fun q => q.2.1 rfl)).self A hh _ none' _ _ y₄ (fun _ q => q.elim) (codeAny_mono loop done)
theorem comp_case (C : Cx prog w dm H tab tok r) (O : EvOk prog w dm H r ih) {elt cls : Ix} {nm' : Names} {link : List (Option Nat)} {p : Pos} {d : dm.V} (hw : (Ix.comp elt cls nm' link p).wf nm = true) (he : evStep dm tab tok ih false (.comp elt cls nm' link p) ρ = some d)
    (R : Room r A) (I₀ : Inv H s) (V : View nm env P (denR dm nm ρ) s.heap) : Ok (model prog w) A (eval ((Ix.comp elt cls nm' link p).dec nm) env) (Post P s (dm.dv d)) s := by
  have hnd := of_decide_eq_true (and2 hw).2
  replace hw := and3 (and2 hw).1
  have ⟨⟨helt, hcls⟩, hlink⟩ := hw
  obtain ⟨t, it, ifs, rest, rfl⟩ : ∃ t it ifs r, cls = .cl t it ifs r := (ix_cl cls).resolve_right fun q => by
    have : evStep dm tab tok ih false (.comp elt cls nm' link p) ρ = none := by show (match clsOf cls with | [] => none | c :: r => _) = none; rw [q.1]
    rw [this] at he; exact nS he
  refine xBind (show ((evIt dm (fun e => ih false e ρ) it).bind fun xs => (evC dm ih elt (clsOf (.cl t it ifs rest)) (linkR link ρ) xs).bind fun ys => if ys.length ≤ fitLen then some (.list ys) else none) = some d from he) ?_; intro xs hxs he
  refine xBind he ?_; clear he; intro ys hys he
  refine ifS he fun hfit he => ?_
  (have zz := Option.some.inj he; clear he; subst zz)
  rw [show Ix.dec nm (Ix.comp elt (.cl t it ifs rest) nm' link p) = .ListComp (elt.dec nm') (⟨t.dec nm', it.dec nm, decL nm' ifs, 0⟩ :: rest.gens nm' nm') (compScope nm') p from rfl, eval_ListComp]
  have := comp_core (pos := it.dec nm |>.pos) (p := p) (use := none) (Q := Post P s (dm.dv (.list ys))) C O helt hcls hlink hnd hxs hys hfit R I₀ V ?_
  · exact this
  · intro Da Ca s' m y _ hDa hCa rp n
    refine ⟨m, n, fun h' hs => ?_⟩
    refine xEEEAA (id n) ?_; intro o es ep ho hd _
    have y' : Step (fun b => b = Ca) s' { s' with heap := h' } := .same (tk := s'.toks) hs (.inl rfl) ho fun vs q => by rw [hd] at q; cases q
    refine ⟨((y.mono fun _ q => q.elim).trans (W := fun b => b = Ca) y' fun b q => .inl q).mono fun b q => .inr (q ▸ hCa), ?_⟩
    exact (rep_same hs (fun q => q.2 rfl) rp).weak fun b q _ => q.1
end
section
variable {prog : Program} {w : World} {dm : Dom} {H : Heap} {tab : Nat → List dm.V → Option dm.V} {tok : Nat → Option dm.D} {r : Nat}
theorem ev_ok (C : Cx prog w dm H tab tok r) (n : Nat) : EvOk prog w dm H r (ev dm tab tok n) := by
  induction n with
  | zero => exact ⟨(fun _ _ _ _ _ _ _ _ _ he => nomatch he), (fun _ _ _ _ _ _ _ _ _ he => nomatch he)⟩
  | succ n O =>
    refine ⟨fun e d ρ nm env P s A hw he R I V => ?_, fun e d ρ nm env P s A hw he R I V => test_case C O hw he R I V⟩
    by_cases q : ∃ elt cls nm' link p, e = .comp elt cls nm' link p
    · obtain ⟨_, _, _, _, _, rfl⟩ := q
      exact comp_case C O hw he R I V
    · exact val_case C O (fun elt cls nm' link p h => q ⟨elt, cls, nm', link, p, h⟩) hw he R I V
end
inductive St
  | asg (i : Nat) (p : Pos) (e : Ix) (q : Pos)
  | own (i : Nat) (p : Pos) (e : Ix) (q : Pos)
  | own2 (i1 : Nat) (p1 : Pos) (i2 : Nat) (p2 : Pos) (k : Nat) (pt : Pos) (e1 e2 : Ix) (k2 : Nat) (pe q : Pos)
  | asgT (is : List (Nat × Pos)) (k : Nat) (pt : Pos) (es : List Ix) (k2 : Nat) (pe q : Pos)
  | unp (is : List (Nat × Pos)) (k : Nat) (pt : Pos) (e : Ix) (q : Pos)
  | aug (i : Nat) (p : Pos) (op : Operator) (e : Ix) (q : Pos)
  | augI (i : Nat) (p : Pos) (ix : Ix) (ps : Pos) (op : Operator) (e : Ix) (q : Pos)
  | app (i : Nat) (p ap : Pos) (e : Ix) (pc q : Pos)
  | rvs (i : Nat) (p ap pc q : Pos)
  | del (i : Nat) (p : Pos) (ix : Ix) (ps q : Pos)
  | ite (t : Ix) (a b : List St) (q : Pos)
  | whl (t : Ix) (b : List St) (q : Pos)
  | for (t : Tg) (it : Ix) (b : List St) (q : Pos)
  | ret (e : Ix) (q : Pos)
  | asrt (t : Ix) (q : Pos)
  | any (s : Stmt)
noncomputable def names' (nm : Names) (is : List (Nat × Pos)) : List Expr := is.map fun x => .Name (nmAt nm x.1) x.2
mutual
noncomputable def St.dec (nm : Names) : St → Stmt
  | .asg i p e q => .Assign [.Name (nmAt nm i) p] (e.dec nm) q
  | .own i p e q => .Assign [.Name (nmAt nm i) p] (e.dec nm) q
  | .own2 i1 p1 i2 p2 k pt e1 e2 k2 pe q => .Assign [.Tuple [.Name (nmAt nm i1) p1, .Name (nmAt nm i2) p2] k pt] (.Tuple [e1.dec nm, e2.dec nm] k2 pe) q
  | .asgT is k pt es k2 pe q => .Assign [.Tuple (names' nm is) k pt] (.Tuple (decL nm es) k2 pe) q
  | .unp is k pt e q => .Assign [.Tuple (names' nm is) k pt] (e.dec nm) q
  | .aug i p op e q => .AugAssign (.Name (nmAt nm i) p) op (e.dec nm) q
  | .augI i p ix ps op e q => .AugAssign (.Subscript (.Name (nmAt nm i) p) (ix.dec nm) ps) op (e.dec nm) q
  | .app i p ap e pc q => .Expr (.Call (.Attribute (.Name (nmAt nm i) p) "append" ap) [e.dec nm] [] pc) q
  | .rvs i p ap pc q => .Expr (.Call (.Attribute (.Name (nmAt nm i) p) "reverse" ap) [] [] pc) q
  | .del i p ix ps q => .Delete [.Subscript (.Name (nmAt nm i) p) (ix.dec nm) ps] q
  | .ite t a b q => .If (t.dec nm) (decS nm a) (decS nm b) q
  | .whl t b q => .While (t.dec nm) (decS nm b) [] q
  | .for t it b q => .For (t.dec nm) (it.dec nm) (decS nm b) [] q
  | .ret e q => .Return (some (e.dec nm)) q
  | .asrt t q => .Assert (t.dec nm) none q
  | .any s => s
noncomputable def decS (nm : Names) : List St → List Stmt
  | [] => []
  | x :: r => x.dec nm :: decS nm r
end
noncomputable def freshE : Ix → Bool
  | .lst .. => true
  | .rep .. => true
  | .meth .split _ [_] _ _ => true
  | _ => false
noncomputable def isLoc (nm : Names) (i : Nat) : Bool := match nm[i]? with
  | some (x, k) => k == .local && !(x == ("__debug__" : Str))
  | none => false
noncomputable def sameLine : List (Nat × Pos) → Bool
  | [] => true
  | i :: r => r.all fun j => j.2.line == i.2.line
noncomputable def noConst (es : List Expr) : Bool := !es.all (foldedForSure 8) && !es.all (constantsAlone 8)
noncomputable def swapOk (nm : Names) (is : List (Nat × Pos)) (es : List Expr) : Bool :=
  (is.length == 2 || is.length == 3) && es.length == is.length && !(es.any fun | .Starred .. => true | _ => false) && (is.all fun i => isLoc nm i.1) && sameLine is &&
    (is.map fun i => nmAt nm i.1).eraseDups.length == is.length && noConst es
noncomputable def okUnp : Ix → Bool
  | .tup .. => false
  | .comp .. => false
  | _ => true
mutual
noncomputable def St.wf (nm : Names) : St → Bool
  | .asg i _ e _ => wfSt nm i && e.wf nm
  | .own i _ e _ => isLoc nm i && e.wf nm && freshE e
  | .own2 i1 p1 i2 p2 _ _ e1 e2 _ _ _ => isLoc nm i1 && isLoc nm i2 && e1.wf nm && e2.wf nm && freshE e1 && freshE e2 && (i1 != i2) && swapOk nm [(i1, p1), (i2, p2)] [e1.dec nm, e2.dec nm]
  | .asgT is _ _ es _ _ _ => wfL nm es && swapOk nm is (decL nm es)
  | .unp is _ _ e _ => (is.all fun x => wfSt nm x.1) && e.wf nm && okUnp e
  | .aug i _ _ e _ => wfSt nm i && wfVar nm i && e.wf nm
  | .augI i _ ix _ _ e _ => isLoc nm i && ix.wf nm && e.wf nm
  | .app i _ ap e pc _ => isLoc nm i && e.wf nm && (ap.endLine == pc.line)
  | .rvs i _ ap pc _ => isLoc nm i && (ap.endLine == pc.line)
  | .del i _ ix _ _ => isLoc nm i && ix.wf nm
  | .ite t a b _ => t.wf nm && wfS nm a && wfS nm b
  | .whl t b _ => t.wf nm && wfS nm b
  | .for t it b _ => t.wf nm && it.wf nm && wfS nm b
  | .ret e _ => e.wf nm
  | .asrt t _ => t.wf nm
  | .any _ => true
noncomputable def wfS (nm : Names) : List St → Bool
  | [] => true
  | x :: r => x.wf nm && wfS nm r
end
noncomputable abbrev Sg (dm : Dom) := List (Option dm.V) × List (Option (List dm.V))
inductive Out (dm : Dom)
  | next (σ : Sg dm)
  | ret (d : dm.V)
noncomputable def frz {dm : Dom} : List (Option dm.V) → List (Option (List dm.V)) → List (Option dm.V)
  | [], _ => []
  | o :: ρ, ω => match ω with | [] => o :: ρ | w :: ω => (match w with | some xs => some (.list xs) | none => o) :: frz ρ ω
noncomputable def nones {dm : Dom} (ω : List (Option (List dm.V))) : List (Option (List dm.V)) := ω.map fun _ => none
noncomputable def frozen {dm : Dom} (σ : Sg dm) : Sg dm := (frz σ.1 σ.2, nones σ.2)
noncomputable def scal {dm : Dom} : dm.V → Bool
  | .none => true
  | .bool _ => true
  | .int _ => true
  | .str _ => true
  | _ => false
noncomputable def ownAt {dm : Dom} (σ : Sg dm) (i : Nat) : Option (List dm.V) := (σ.2[i]?).join
section
variable {dm : Dom} (evn : Ev dm)
noncomputable def orE {α β : Type} (x : Option α) (f : α → β) (y : Option β) : Option β := match x with
  | some d => some (f d)
  | none => y
theorem orE_i {α β : Type} {x : Option α} {f : α → β} {y : Option β} {b : β} {G : Prop} (e : orE x f y = some b) (h1 : ∀ d, x = some d → f d = b → G) (h2 : y = some b → G) : G := by
  cases x with | some d => exact h1 d rfl (Option.some.inj e) | none => exact h2 e
noncomputable def evX (e : Ix) (σ : Sg dm) : Option (dm.V × Sg dm) := orE (evn false e σ.1) (fun d => (d, σ)) ((evn false e (frz σ.1 σ.2)).map fun d => if scal d then (d, σ) else (d, frozen σ))
noncomputable def isComp : Ix → Bool
  | .comp .. => true
  | _ => false
noncomputable def evA (e : Ix) (σ : Sg dm) : Option (dm.V × Sg dm) := match isComp e with
  | true => (evn false e σ.1).map fun d => (d, σ)
  | false => evX evn e σ
noncomputable def asB (o : Option dm.V) : Option Bool := o.bind fun v => oB v some
noncomputable def evB (e : Ix) (σ : Sg dm) : Option Bool := orE (asB (evn true e σ.1)) (fun b => b) (asB (evn true e (frz σ.1 σ.2)))
theorem asB_i {o : Option dm.V} {b : Bool} (e : asB o = some b) : o = some (.bool b) := xBind e fun v h e => oB_i e fun c q e => by rw [h, q, Option.some.inj e]
noncomputable def evI (e : Ix) (σ : Sg dm) : Option (List dm.V × Sg dm) := orE (evIt dm (fun e => evn false e σ.1) e) (fun xs => (xs, σ)) ((evIt dm (fun e => evn false e (frz σ.1 σ.2)) e).map fun xs => (xs, frozen σ))
noncomputable def freeAt (σ : Sg dm) (i : Nat) : Bool := decide (i < σ.1.length) && (match ownAt σ i with | none => true | some _ => false)
noncomputable def setV (σ : Sg dm) (i : Nat) (d : dm.V) : Option (Sg dm) := if freeAt σ i then some (σ.1.set i (some d), σ.2) else none
noncomputable def setO (σ : Sg dm) (i : Nat) (xs : List dm.V) : Sg dm := (σ.1.set i none, σ.2.set i (some xs))
noncomputable def setG (σ : Sg dm) (t : Tg) (d : dm.V) : Option (Sg dm) := if t.idx.all (freeAt σ) then (setT t d σ.1).map fun ρ => (ρ, σ.2) else none
noncomputable def augOp : Operator → Bool
  | .Add | .Sub | .Mult | .LShift | .RShift => true
  | _ => false
noncomputable def forL (f : Sg dm → Option (Out dm)) (t : Tg) : List dm.V → Sg dm → Option (Out dm)
  | [], σ => some (.next σ)
  | x :: xs, σ => (setG σ t x).bind fun σ' => (f σ').bind fun o => match o with | .next σ'' => forL f t xs σ'' | .ret d => some (.ret d)
noncomputable def whileL (tst : Sg dm → Option Bool) (f : Sg dm → Option (Out dm)) : Nat → Sg dm → Option (Out dm)
  | 0, _ => none
  | n + 1, σ => (tst σ).bind fun c => if c then (f σ).bind fun o => match o with | .next σ'' => whileL tst f n σ'' | .ret d => some (.ret d) else some (.next σ)
noncomputable def sxL (f : St → Sg dm → Option (Out dm)) : List St → Sg dm → Option (Out dm)
  | [], σ => some (.next σ)
  | s :: r, σ => (f s σ).bind fun o => match o with | .next σ' => sxL f r σ' | .ret d => some (.ret d)
noncomputable def sxStep (wf : Nat) (sx : List St → Sg dm → Option (Out dm)) : St → Sg dm → Option (Out dm)
  | .asg i _ e _, σ => (evA evn e σ).bind fun x => (setV x.2 i x.1).map .next
  | .own i _ e _, σ => (evn false e σ.1).bind fun d => oL d fun xs => if freeAt σ i then some (.next (setO σ i xs)) else none
  | .own2 i1 _ i2 _ _ _ e1 e2 _ _ _, σ => (evn false e1 σ.1).bind fun d1 => (evn false e2 σ.1).bind fun d2 => oL d1 fun xs => oL d2 fun ys => if freeAt σ i1 && freeAt σ i2 then some (.next (setO (setO σ i2 ys) i1 xs)) else none
  | .asgT is _ _ es _ _ _, σ => (evL (fun e => evn false e σ.1) es).bind fun vs => if is.all (fun x => freeAt σ x.1) && decide (vs.length ≤ fitLen) && decide (is.length = vs.length) then (setAll is.reverse vs.reverse σ.1).map fun ρ => .next (ρ, σ.2) else none
  | .unp is k pt e _, σ => (evX evn e σ).bind fun x => (setG x.2 (.many is k pt) x.1).map .next
  | .aug i _ op e _, σ => ((σ.1[i]?).join).bind fun a => (evX evn e σ).bind fun x => oI a fun a => oI x.1 fun b => if augOp op then (dm.bin op a b).bind fun c => (setV x.2 i (.int c)).map .next else none
  | .augI i _ ix _ op e _, σ => (ownAt σ i).bind fun xs => (evX evn ix σ).bind fun y => oI y.1 fun k => (dm.val k).bind fun k => if decide (0 ≤ k) && decide (k < xs.length) && decide (xs.length ≤ fitLen) then (xs[k.toNat]?).bind fun a => (evX evn e σ).bind fun x => oI a fun a => oI x.1 fun b => if augOp op then (dm.bin op a b).map fun c => .next (setO σ i (xs.set k.toNat (.int c))) else none
        else none
  | .app i _ _ e _ _, σ => (ownAt σ i).bind fun xs => (evn false e σ.1).bind fun d => if xs.length ≤ fitLen then some (.next (setO σ i (xs ++ [d]))) else none
  | .rvs i _ _ _ _, σ => (ownAt σ i).bind fun xs => if xs.length ≤ fitLen then some (.next (setO σ i xs.reverse)) else none
  | .del i _ ix _ _, σ => (ownAt σ i).bind fun xs => (evn false ix σ.1).bind fun y => oI y fun k => (dm.val k).bind fun k => if fitI k && decide (xs.length ≤ fitLen) then (seqIndex? k xs.length).map fun j => .next (setO σ i (xs.eraseIdx j)) else none
  | .ite t a b _, σ => (evB evn t σ).bind fun c => sx (if c then a else b) σ
  | .whl t b _, σ => whileL (evB evn t) (sx b) wf σ
  | .for t it b _, σ => (evI evn it σ).bind fun x => forL (sx b) t x.1 x.2
  | .ret e _, σ => (evX evn e σ).map fun x => .ret x.1
  | .asrt t _, σ => (evB evn t σ).bind fun c => if c then some (.next σ) else none
  | .any _, _ => none
noncomputable def sx (wf : Nat) (n : Nat) : List St → Sg dm → Option (Out dm) := Nat.rec (fun _ _ => none) (fun _ ih => sxL (sxStep evn wf ih)) n
end
noncomputable def denO (dm : Dom) (nm : Names) (ω : List (Option (List dm.V))) : Str → Option (List DV) := fun x => (look nm ω x).map dm.dvs
theorem look_frz {dm : Dom} {x : Str} {nm : Names} : ∀ {ρ : List (Option dm.V)} {ω : List (Option (List dm.V))}, ρ.length = ω.length → look nm (frz ρ ω) x = (match look nm ω x with | some xs => some (.list xs) | none => look nm ρ x) := by
  induction nm with
  | nil => intro _ _ _; rfl
  | cons n nm ih =>
    intro ρ ω h
    cases ρ with
    | nil => cases ω with | nil => rfl | cons => cases h
    | cons o ρ => cases ω with
      | nil => cases h
      | cons w ω =>
        by_cases q : n.1 = x
        · rw [show look (n :: nm) (w :: ω) x = w from if_pos q]
          refine (if_pos q).trans ?_
          cases w with | some xs => rfl | none => exact (if_pos q).symm
        · rw [show look (n :: nm) (w :: ω) x = look nm ω x from if_neg q, show look (n :: nm) (o :: ρ) x = look nm ρ x from if_neg q]
          exact (if_neg q).trans (ih (Nat.succ.inj h))
theorem frz_length {dm : Dom} {ρ : List (Option dm.V)} : ∀ {ω : List (Option (List dm.V))}, ρ.length = ω.length → (frz ρ ω).length = ρ.length := by
  induction ρ with
  | nil => intro _ _; rfl
  | cons o ρ ih => intro ω h; cases ω with | nil => cases h | cons w ω => exact congrArg (· + 1) (ih (Nat.succ.inj h))
theorem look_nones {dm : Dom} {x : Str} {nm : Names} : ∀ {ω : List (Option (List dm.V))}, look nm (nones ω) x = none := by
  induction nm with
  | nil => intro _; rfl
  | cons n nm ih =>
    intro ω
    cases ω with
    | nil => rfl
    | cons w ω =>
      by_cases q : n.1 = x
      · exact if_pos q
      · exact (if_neg q).trans ih
noncomputable def Grow (P W : Addr → Prop) (n : Nat) (P' W' : Addr → Prop) : Prop := (∀ b : Nat, b < n → P b → P' b) ∧ (∀ b : Nat, b < n → W' b → W b) ∧ (∀ b : Nat, b < n → P' b → P b ∨ W b)
theorem Grow.refl (P W : Addr → Prop) (n : Nat) : Grow P W n P W := ⟨fun _ _ p => p, fun _ _ q => q, fun _ _ p => .inl p⟩
theorem Grow.trans {P W P1 W1 P2 W2 : Addr → Prop} {n m : Nat} (x : Grow P W n P1 W1) (y : Grow P1 W1 m P2 W2) (h : n ≤ m) : Grow P W n P2 W2 :=
  ⟨fun b l p => y.1 b (Nat.lt_of_lt_of_le l h) (x.1 b l p), fun b l q => x.2.1 b l (y.2.1 b (Nat.lt_of_lt_of_le l h) q), fun b l p => (y.2.2 b (Nat.lt_of_lt_of_le l h) p).elim (x.2.2 b l) fun q => .inr (x.2.1 b l q)⟩
theorem Grow.at {P W P' W' : Addr → Prop} {n m : Nat} (G : Grow P W m P' W') (h : n ≤ m) : Grow P W n P' W' := ⟨fun b l => G.1 b (Nat.lt_of_lt_of_le l h), fun b l => G.2.1 b (Nat.lt_of_lt_of_le l h), fun b l => G.2.2 b (Nat.lt_of_lt_of_le l h)⟩
structure SI (dm : Dom) (H : Heap) (nm : Names) (env : Env) (B : Nat) (P W : Addr → Prop) (σ : Sg dm) (s : Shared) : Prop where
  inv : Inv H s
  fr : Fram dm nm env P W σ.1 (denO dm nm σ.2) B s.heap
  hB : H.objs.size ≤ B
  len : σ.1.length = σ.2.length
  wlt : ∀ b : Nat, W b → b < s.heap.objs.size
section
variable {prog : Program} {w : World} {dm : Dom} {H : Heap} {tab : Nat → List dm.V → Option dm.V} {tok : Nat → Option dm.D} {r : Nat} {ih : Ev dm} {A : Around} {E : Value → Shared → Prop} {s s' : Shared} {nm : Names} {env : Env} {P W : Addr → Prop} {σ σ' : Sg dm} {B : Nat}
theorem SI.hW (S : SI dm H nm env B P W σ s) : ∀ b, W b → H.objs.size ≤ b := fun b q => Nat.le_trans S.hB (S.fr.above b q)
theorem SI.step0 (S : SI dm H nm env B P W σ s) (y : Step none' s s') (l : LeS s s') : SI dm H nm env B P W σ s' :=
  ⟨S.inv.step0 y l, S.fr.step0 S.inv.tabs y, S.hB, S.len, fun b q => Nat.lt_of_lt_of_le (S.wlt b q) y.size⟩
theorem SI.lessI (S : SI dm H nm env B P W σ s) (y : Step none' s s') (I' : Inv H s') {I : Addr} (h1 : s.heap.objs.size ≤ I) (h2 : I < s'.heap.objs.size) : SI dm H nm env B (fun b => P b ∧ b ≠ I) W σ s' where
  inv := I'
  fr := { S.fr with
    view := S.fr.view.less S.inv.tabs y h1 h2
    disj := fun b q => S.fr.disj b q.1
    ns := let ⟨m, n⟩ := S.fr.ns; ⟨m, ns_step S.inv.tabs y id n⟩
    own := fun y' xs hy => let ⟨a, b, m, c, items, n, e, w, l, q⟩ := S.fr.own y' xs hy
      ⟨a, b, m, c, items, ns_step S.inv.tabs y id n, e, w, lx_step S.inv.tabs y id l, repL_step S.inv.tabs y (fun _ _ q => q) (q.weak fun _ pb lb => ⟨pb, fun q => absurd (q ▸ lb) (Nat.not_lt.mpr h1)⟩)⟩
    ownInj := (S.fr.step0 S.inv.tabs y).ownInj }
  hB := S.hB
  len := S.len
  wlt := fun b q => Nat.lt_of_lt_of_le (S.wlt b q) y.size
theorem SI.less (S : SI dm H nm env B P W σ s) (y : Step none' s s') (l : LeS s s') {I : Addr} (h1 : s.heap.objs.size ≤ I) (h2 : I < s'.heap.objs.size) : SI dm H nm env B (fun b => P b ∧ b ≠ I) W σ s' := S.lessI y (S.inv.step0 y l) h1 h2
theorem SI.beside {W0 : Addr → Prop} (S : SI dm H nm env B P W σ s) (y : Step W0 s s') (I' : Inv H s') (hP : ∀ b, P b → ¬ W0 b) (hW : ∀ b, W b → ¬ W0 b)
    (hC : ∀ n c, (nm.lookup n = some .cell ∨ nm.lookup n = some .free) → env.cells.lookup n = some c → ¬ W0 c) : SI dm H nm env B P W σ s' where
  inv := I'
  fr := { S.fr with
    view := S.fr.view.beside S.inv.tabs y hP (hW _ S.fr.wl) hC
    ns := let ⟨m, n⟩ := S.fr.ns; ⟨m, ns_step S.inv.tabs y (hW _ S.fr.wl) n⟩
    own := fun y' xs hy => let ⟨a, b, m, c, items, n, e, w, l, q⟩ := S.fr.own y' xs hy
      ⟨a, b, m, c, items, ns_step S.inv.tabs y (hW _ S.fr.wl) n, e, w, lx_step S.inv.tabs y (hW _ w) l, repL_step S.inv.tabs y hP q⟩
    ownInj := fun z z' xs ys m a hy hz n e1 e2 => by
      refine xE S.fr.ns ?_; intro m₀ n₀
      have q := (ns_step S.inv.tabs y (hW _ S.fr.wl) n₀).agree n
      exact S.fr.ownInj z z' xs ys m₀ a hy hz n₀ ((q z).trans e1) ((q z').trans e2) }
  hB := S.hB
  len := S.len
  wlt := fun b q => Nat.lt_of_lt_of_le (S.wlt b q) y.size
noncomputable def OwnA (dm : Dom) (nm : Names) (env : Env) (σ : Sg dm) (h : Heap) (b : Addr) : Prop := ∃ x xs m, denO dm nm σ.2 x = some xs ∧ h.Ns env.locals m ∧ m x = some (.ref b)
theorem ownA_in (S : SI dm H nm env B P W σ s) {b : Addr} (q : OwnA dm nm env σ s.heap b) : W b ∧ ∃ items, IsLx s.heap b items := by
  refine xEEEAA q ?_; clear q; intro x xs m h1 n e
  obtain ⟨_, _, m', a, items, n', e', wa, l, _⟩ := S.fr.own x xs h1
  have : m' x = m x := n'.agree n x
  rw [e', e] at this
  cases this
  exact ⟨wa, items, l⟩
theorem SI.freeze (S : SI dm H nm env B P W σ s) : SI dm H nm env B (fun b => P b ∨ OwnA dm nm env σ s.heap b) (fun b => W b ∧ ¬ OwnA dm nm env σ s.heap b) (frozen σ) s ∧
    Grow P W s.heap.objs.size (fun b => P b ∨ OwnA dm nm env σ s.heap b) (fun b => W b ∧ ¬ OwnA dm nm env σ s.heap b) := by
  have V := S.fr.view
  have hno : ∀ x, denO dm nm (frozen σ).2 x = none := fun x => by unfold denO frozen; rw [look_nones]; rfl
  have dl : ∀ x d, denR dm nm (frozen σ).1 x = some d → (∃ xs, denO dm nm σ.2 x = some xs ∧ d = .list xs) ∨ (denR dm nm σ.1 x = some d) := fun x d e => by
    unfold denR frozen at e
    dsimp only at e
    rw [look_frz S.len] at e
    cases q : look nm σ.2 x with
    | some xs =>
      rw [q] at e
      left
      refine ⟨dm.dvs xs, by unfold denO; rw [q]; rfl, ?_⟩
      (have zz := Option.some.inj e; clear e; subst zz); rfl
    | none => rw [q] at e; exact .inr e
  refine ⟨⟨S.inv, ?_, S.hB, ?_, fun b q => S.wlt b q.1⟩, ⟨fun b _ p => .inl p, fun b _ q => q.1, fun b _ p => p.imp id fun q => (ownA_in S q).1⟩⟩
  · refine ⟨{ V with loc := ?_, cell := ?_, fresh := fun b hb => .inl (V.fresh b hb) }, ?_, fun b q => S.fr.above b q.1, ⟨S.fr.wl, fun q => ?_⟩, S.fr.ns, fun x c hs hk hc => ⟨S.fr.wc x c hs hk hc, fun q => ?_⟩, (fun x xs e => by rw [hno] at e; exact nS e), (fun x _ xs _ _ _ e => by rw [hno] at e; exact nS e)⟩
    · intro x d e hk
      rcases dl x d e with ⟨xs, h1, rfl⟩ | e
      · obtain ⟨_, _, m, a, items, n, ex, wa, l, q⟩ := S.fr.own x xs h1
        exact ⟨m, .ref a, n, ex, .list (.inr ⟨x, xs, m, h1, n, ex⟩) l (q.weak fun b pb _ => .inl pb)⟩
      · obtain ⟨m, v, a, b, c⟩ := V.loc x d e hk
        exact ⟨m, v, a, b, c.weak fun b pb _ => .inl pb⟩
    · intro x hk
      obtain ⟨c, cv, a, b, q⟩ := V.cell x hk
      refine ⟨c, cv, a, b, fun d e => ?_⟩
      rcases dl x d e with ⟨xs, h1, rfl⟩ | e
      · have := (S.fr.own x xs h1).loc
        rw [this] at hk; rcases hk with hk | hk <;> cases hk
      · refine xEA (q d e) ?_; intro v e1 e2
        exact ⟨v, e1, e2.weak fun b pb _ => .inl pb⟩
    · intro b p q
      rcases p with p | p
      · exact S.fr.disj b p q.1
      · exact q.2 p
    · refine xE ((ownA_in S q).2) ?_; intro items l
      refine xE S.fr.ns ?_; intro m n
      exact ns_ne_list n l.list rfl
    · refine xE ((ownA_in S q).2) ?_; intro items l
      obtain ⟨c', cv, a, b, _⟩ := V.cell x (.inl hk)
      rw [hc] at a; (have zz := Option.some.inj a; clear a; subst zz)
      exact cell_ne_list b l.list rfl
  · show (frz σ.1 σ.2).length = (nones σ.2).length
    rw [frz_length S.len]; unfold nones; rw [List.length_map]; exact S.len
theorem scal_rep {P' : Addr → Prop} {h : Heap} {d : dm.V} {v : Value} (hs : scal d = true) (q : Rep P h v (dm.dv d)) : Rep P' h v (dm.dv d) := by
  cases d with
  | none => (have zq : _ = _ := Rep.inv q; clear q; subst zq); exact .none
  | bool b => (have zq : _ = _ := Rep.inv q; clear q; subst zq); exact .bool b
  | int i => (refine xE (Rep.inv q) ?_; clear q; intro zt zq; subst zq); exact .int _ _
  | str x => (refine xE (Rep.inv q) ?_; clear q; intro zt zq; subst zq); exact .str _ _
  | tuple xs => exact bF hs
  | list xs => exact bF hs
  | arr xs => exact bF hs
theorem evX_ok {e : Ix} {d : dm.V} {Q : Value → Shared → Prop} (O : EvOk prog w dm H r ih) (hw : e.wf nm = true) (he : evX ih e σ = some (d, σ')) (R : Room r A) (S : SI dm H nm env B P W σ s)
    (k : ∀ v s' P' W', Step none' s s' → LeS s s' → Grow P W s.heap.objs.size P' W' → SI dm H nm env B P' W' σ' s' → Rep P' s'.heap v (dm.dv d) → Q v s') : wpAny (model prog w) A (eval (e.dec nm) env) Q E s := by
  refine orE_i he (fun d' h1 he => ?_) fun he => ?_
  · cases he
    exact O.go hw h1 R (On.start S.inv S.fr.view) fun v s' x y q => k v s' P W y x.le (.refl _ _ _) (S.step0 y x.le) q
  · refine xMap he fun d' h1 he => ?_
    have ⟨F, G⟩ := S.freeze
    refine O.go hw h1 R (On.start F.inv F.fr.view) fun v s' x y q => ?_
    by_cases hs : scal d' = true
    · rw [if_pos hs] at he
      cases he
      exact k v s' P W y x.le (.refl _ _ _) (S.step0 y x.le) (scal_rep hs q)
    · rw [if_neg hs] at he
      cases he
      exact k v s' _ _ y x.le G (F.step0 y x.le) q
theorem evB_ok {e : Ix} {b : Bool} {Q : Bool → Shared → Prop} (O : EvOk prog w dm H r ih) (hw : e.wf nm = true) (he : evB ih e σ = some b) (R : Room r A) (S : SI dm H nm env B P W σ s)
    (k : ∀ s', Step none' s s' → LeS s s' → SI dm H nm env B P W σ s' → Q b s') : wpAny (model prog w) A (isTrue (e.dec nm) env (eval (e.dec nm) env)) Q E s := by
  refine orE_i he (fun b' h1 he => ?_) fun h1 => ?_
  · cases he
    exact O.goT hw (asB_i h1) R (On.start S.inv S.fr.view) fun s' x => k s' x.step x.le (S.step0 x.step x.le)
  · exact O.goT hw (asB_i h1) R (On.start S.freeze.1.inv S.freeze.1.fr.view) fun s' x => k s' x.step x.le (S.step0 x.step x.le)
theorem evI_ok {e : Ix} {xs : List dm.V} {Q : Value → Shared → Prop} (C : Cx prog w dm H tab tok r) (O : EvOk prog w dm H r ih) (hw : e.wf nm = true) (he : evI ih e σ = some (xs, σ')) (R : Room r A) (S : SI dm H nm env B P W σ s)
    (k : ∀ v s' P' W', Step none' s s' → LeS s s' → Grow P W s.heap.objs.size P' W' → SI dm H nm env B P' W' σ' s → IterV prog w P' s (dm.dvs xs) v s' → Q v s') : wpAny (model prog w) A (eval (e.dec nm) env) Q E s := by
  refine orE_i he (fun d' h1 he => ?_) fun he => ?_
  · cases he
    exact iter_ok C O hw h1 R (On.start S.inv S.fr.view) fun v s' x y q => k v s' P W y x.le (.refl _ _ _) S q
  · refine xMap he fun d' h1 he => ?_
    have ⟨F, G⟩ := S.freeze
    cases he
    exact iter_ok C O hw h1 R (On.start F.inv F.fr.view) fun v s' x y q => k v s' _ _ y x.le G F q
end
section
variable {prog : Program} {w : World} {dm : Dom} {H : Heap} {tab : Nat → List dm.V → Option dm.V} {tok : Nat → Option dm.D} {r : Nat} {ih : Ev dm} {A : Around} {E : Value → Shared → Prop} {s s' : Shared} {nm : Names} {env : Env} {P W : Addr → Prop} {σ σ' : Sg dm} {B : Nat}
theorem denO_at {ω : List (Option (List dm.V))} {i : Nat} {x : Str} {k : NameKind} (hd : (nm.map (·.1)).Nodup) (hn : nm[i]? = some (x, k)) : denO dm nm ω x = ((ω[i]?).join).map dm.dvs := by unfold denO; rw [look_at hd hn]
theorem freeAt_ok {i : Nat} (h : freeAt σ i = true) : i < σ.1.length ∧ (σ.2[i]?).join = none := by
  replace h := and2 h
  refine ⟨of_decide_eq_true h.1, ?_⟩
  cases e : ownAt σ i with
  | none => exact e
  | some _ => rw [e] at h; cases h.2
theorem free_none {i : Nat} (hw : wfSt nm i = true) (hd : (nm.map (·.1)).Nodup) (h : freeAt σ i = true) : denO dm nm σ.2 (nmAt nm i) = none := by
  refine xEEA (wfSt_ok hw) ?_; intro x k hn _
  rw [show nmAt nm i = x from by unfold nmAt; rw [hn], denO_at hd hn, (freeAt_ok h).2]; rfl
theorem setV_ok {i : Nat} {v : Value} {d : dm.V} (hw : wfSt nm i = true) (he : setV σ i d = some σ') (S : SI dm H nm env B P W σ s) (q : Rep P s.heap v (dm.dv d)) :
    Ok (model prog w) A (bindName env (nmAt nm i) v) (fun _ s' => Step W s s' ∧ SI dm H nm env B P W σ' s') s := by
  refine ifS he fun hf he => ?_
  (have zz := Option.some.inj he; clear he; subst zz)
  exact (set1_ok hw (freeAt_ok hf).1 (free_none hw S.fr.view.nodup hf) S.fr q).le.mono fun _ s' z => ⟨z.1.1, S.inv.step z.1.1 S.hW z.2, z.1.2, S.hB, (List.length_set ..).trans S.len, fun b wb => Nat.lt_of_lt_of_le (S.wlt b wb) z.1.1.size⟩
theorem tg_all {t : Tg} (hw : t.wf nm = true) : ∀ i, i ∈ t.idx → wfSt nm i = true := by
  cases t with
  | one i p => intro j hj; cases List.mem_singleton.mp hj; exact hw
  | many is k p =>
    intro j hj
    refine xEA (List.mem_map.mp hj) ?_; rintro x hx rfl
    exact List.all_eq_true.mp hw x hx
theorem setT_len {t : Tg} {d : dm.V} {ρ ρ' : List (Option dm.V)} (h : setT t d ρ = some ρ') : ρ'.length = ρ.length := by
  cases t with
  | one i p =>
    refine ifS h fun _ h => ?_
    (have zz := Option.some.inj h; clear h; subst zz); exact List.length_set ..
  | many is k p => exact oT_i h fun _ _ h => (setAll_len h).2
theorem setG_ok {t : Tg} {v : Value} {d : dm.V} (hw : t.wf nm = true) (he : setG σ t d = some σ') (hh : A.handled = none) (S : SI dm H nm env B P W σ s) (q : Rep P s.heap v (dm.dv d)) :
    Ok (model prog w) A (assign (t.dec nm) env v) (fun _ s' => Step W s s' ∧ SI dm H nm env B P W σ' s') s := by
  refine ifS he fun hf he => ?_
  refine xMap he ?_; clear he; rintro ρ h1 rfl
  exact (setT_ok hw h1 (fun i hi => free_none (tg_all hw i hi) S.fr.view.nodup (List.all_eq_true.mp hf i hi)) hh S.inv S.hW S.fr q).mono fun _ s' z => ⟨z.1, z.2.1, z.2.2, S.hB, (setT_len h1).trans S.len, fun b wb => Nat.lt_of_lt_of_le (S.wlt b wb) z.1.size⟩
theorem bindAll_ok {ω : Str → Option (List DV)} {is : List (Nat × Pos)} : ∀ {ds : List dm.V} {vs : List Value} {ρ ρ' : List (Option dm.V)} {s : Shared}, (∀ x, x ∈ is → wfSt nm x.1 = true ∧ ω (nmAt nm x.1) = none) → setAll is ds ρ = some ρ' → Inv H s → (∀ b, W b → H.objs.size ≤ b) →
    Fram dm nm env P W ρ ω B s.heap → RepL P s.heap vs (dm.dvs ds) →
    Ok (model prog w) A (assignInOrder (is.map fun x => bindName env (nmAt nm x.1)) vs) (fun _ s' => Step W s s' ∧ Inv H s' ∧ Fram dm nm env P W ρ' ω B s'.heap) s := by
  induction is with
  | nil =>
    intro ds vs ρ ρ' s _ he I _ F q
    refine o0_i he ?_; clear he; rintro rfl he
    (have zz := Option.some.inj he; clear he; subst zz); cases q.c0
    exact wpAny_pure ⟨.refl _ _, I, F⟩
  | cons i is ih =>
    intro ds vs ρ ρ' s hω he I hW F q
    refine oC_i he ?_; clear he; rintro d ds rfl he
    refine ifS he fun hl he => ?_
    refine q.cc ?_; clear q; rintro v vs rfl q1 q2
    have h0 := hω i List.mem_cons_self
    refine wpAny_bind (wpAny_holding ((set1_ok h0.1 hl h0.2 F q1).le.mono fun _ s' z => ?_))
    have I' := I.step z.1.1 hW z.2
    exact (ih (fun x hx => hω x (List.mem_cons_of_mem _ hx)) he I' hW z.1.2 (repL_step I.tabs z.1.1 F.disj q2)).mono fun _ s'' y => ⟨z.1.1.trans y.1 fun b hb => .inl hb, y.2⟩
theorem isLoc_ok {i : Nat} (h : isLoc nm i = true) : ∃ x, nm[i]? = some (x, .local) ∧ (x == ("__debug__" : Str)) = false ∧ nmAt nm i = x := by
  unfold isLoc at h
  cases e : nm[i]? with
  | none => rw [e] at h; exact bF h
  | some y =>
    obtain ⟨x, k⟩ := y
    rw [e] at h
    simp only [Bool.and_eq_true, beq_iff_eq, Bool.not_eq_true'] at h
    refine xA h ?_; clear h; rintro rfl h
    exact ⟨x, rfl, h, by unfold nmAt; rw [e]⟩
theorem isLoc_wf {i : Nat} (h : isLoc nm i = true) : wfSt nm i = true := by
  refine xEA (isLoc_ok h) ?_; intro x e _
  unfold wfSt; rw [e]; rfl
theorem denR_unset {ρ : List (Option dm.V)} {i : Nat} {x : Str} {k : NameKind} (hd : (nm.map (·.1)).Nodup) (hn : nm[i]? = some (x, k)) (hl : i < ρ.length) (y : Str) : denR dm nm (ρ.set i none) y = if y = x then none else denR dm nm ρ y := by
  unfold denR
  rw [look_set hd hn hl]
  by_cases q : y = x
  · rw [if_pos q, if_pos q]; rfl
  · rw [if_neg q, if_neg q]
theorem denO_set {ω : List (Option (List dm.V))} {i : Nat} {x : Str} {k : NameKind} {xs : List dm.V} (hd : (nm.map (·.1)).Nodup) (hn : nm[i]? = some (x, k)) (hl : i < ω.length) (y : Str) : denO dm nm (ω.set i (some xs)) y = if y = x then some (dm.dvs xs) else denO dm nm ω y := by
  unfold denO
  rw [look_set hd hn hl]
  by_cases q : y = x
  · rw [if_pos q, if_pos q]; rfl
  · rw [if_neg q, if_neg q]
theorem newOwn' {i : Nat} {a : Addr} {items : Array Value} {xs : List dm.V} {s₁ : Shared} (hl : isLoc nm i = true) (hf : freeAt σ i = true) (S₁ : SI dm H nm env B P W σ s₁) (haP : ¬ P a) (haW : ¬ W a) (haB : B ≤ a)
    (la : IsLx s₁.heap a items) (ra : RepL P s₁.heap items.toList (dm.dvs xs)) :
    Ok (model prog w) A (bindName env (nmAt nm i) (.ref a)) (fun _ s' => Step W s₁ s' ∧ SI dm H nm env B P (fun b => W b ∨ b = a) (setO σ i xs) s') s₁ := by
  have alt : a < s₁.heap.objs.size := let ⟨_, e⟩ := la; Heap.lt_size e
  have V := S₁.fr.view
  refine xEAA (isLoc_ok hl) ?_; intro x hn hdb ex
  rw [ex]
  have hlk := lookup_at V.nodup hn
  have hl' : env.kindOf x = some .local := (V.names x _ hlk).resolve_right fun q => by cases q.1
  refine xA (freeAt_ok hf) ?_; intro hi hnone
  have hi2 : i < σ.2.length := S₁.len ▸ hi
  refine xE S₁.fr.ns ?_; intro m₀ n₀
  refine wpAny_bindName (wpAny_mono (wpAny_le (wpAny_storeName_local (Q := fun _ s' => ∃ h' tk, s' = { s₁ with heap := h', toks := tk } ∧ h'.Ns env.locals (fun z => if z = x then some (.ref a) else m₀ z) ∧ Heap.SameBut env.locals s₁.heap h') hl' n₀ (fun h' hn' hs => ⟨h', _, rfl, hn', hs⟩) (by rw [V.kind]; rfl))) (fun _ s' z => ?_) fun _ _ q => q)
  refine xA z ?_; clear z; rintro ⟨h', tk, rfl, hn', hs⟩ le
  refine xEEEAA (id n₀) ?_; intro o es ep ho hd _
  have y' : Step W s₁ { s₁ with heap := h', toks := tk } := .same hs (.inl S₁.fr.wl) ho fun vs q => by rw [hd] at q; cases q
  have hLa : a ≠ env.locals := fun q => ns_ne_list n₀ la.list q.symm
  have la' : IsLx h' a items := let ⟨k, e⟩ := la; ⟨k, (hs.2 a hLa).trans e⟩
  have hLP : ¬ P env.locals := fun q => S₁.fr.disj _ q S₁.fr.wl
  refine ⟨y', S₁.inv.step y' S₁.hW le, ?_, S₁.hB, by simpa [setO] using S₁.len, fun b q => ?_⟩
  · refine ⟨⟨V.kind, V.glob, V.blt, V.names, fun z e hz hzk => ?_, fun z hzk => ?_, fun b hb => V.fresh b (by rw [← hs.1]; exact hb), V.cinj, V.nodup⟩, ?_, ?_, .inl S₁.fr.wl, ⟨_, hn'⟩, fun z c a b q => .inl (S₁.fr.wc z c a b q), fun z zs hz => ?_, fun z z' zs zs' m b hz hz' n e1 e2 => ?_⟩
    · unfold setO at hz
      dsimp only at hz
      rw [denR_unset V.nodup hn hi] at hz
      by_cases q : z = x
      · rw [if_pos q] at hz; exact nS hz
      · rw [if_neg q] at hz
        obtain ⟨m, v, n, hv, q'⟩ := V.loc z e hz hzk
        exact ⟨_, v, hn', by rw [if_neg q, n₀.agree n z]; exact hv, rep_same hs hLP q'⟩
    · obtain ⟨c, cv, a', b, q'⟩ := V.cell z hzk
      refine ⟨c, cv, a', b.sameBut hs (fun q => ns_ne_cell n₀ b q.symm), fun e hz => ?_⟩
      unfold setO at hz
      dsimp only at hz
      rw [denR_unset V.nodup hn hi] at hz
      by_cases q : z = x
      · rw [if_pos q] at hz; exact nS hz
      · rw [if_neg q] at hz
        refine xEA (q' e hz) ?_; intro v e1 e2
        exact ⟨v, e1, rep_same hs hLP e2⟩
    · rintro b p (q' | q')
      · exact S₁.fr.disj b p q'
      · exact haP (q' ▸ p)
    · rintro b (q | q)
      · exact S₁.fr.above b q
      · rw [q]; exact haB
    · unfold setO at hz
      dsimp only at hz
      rw [denO_set V.nodup hn hi2] at hz
      by_cases q : z = x
      · rw [if_pos q] at hz
        (have zz := Option.some.inj hz; clear hz; subst zz)
        subst q
        refine ⟨hlk, by unfold setO; dsimp only; rw [denR_unset V.nodup hn hi, if_pos rfl], _, a, items, hn', if_pos rfl, .inr rfl, la', repL_same hs hLP ra⟩
      · rw [if_neg q] at hz
        obtain ⟨a1, b1, m, c, its, n, e, wc, lc, qc⟩ := S₁.fr.own z zs hz
        refine ⟨a1, by unfold setO; dsimp only; rw [denR_unset V.nodup hn hi, if_neg q]; exact b1, _, c, its, hn', by rw [if_neg q, n₀.agree n z]; exact e, .inl wc, ?_, repL_same hs hLP qc⟩
        have lc' := lc.list
        refine xE lc ?_; clear lc; intro k e
        exact ⟨k, (hs.2 c fun q => ns_ne_list n₀ lc' q.symm).trans e⟩
    · unfold setO at hz hz'
      dsimp only at hz hz'
      rw [denO_set V.nodup hn hi2] at hz hz'
      have ag := hn'.agree n
      have e1' := (ag z).trans e1
      have e2' := (ag z').trans e2
      by_cases q : z = x <;> by_cases q' : z' = x
      · rw [q, q']
      · rw [if_pos q] at e1'
        rw [if_neg q'] at e2' hz'
        cases e1'
        obtain ⟨_, _, m, c, its, n2, e, wc, _⟩ := S₁.fr.own z' zs' hz'
        rw [n₀.agree n2, e] at e2'
        cases e2'
        exact absurd wc haW
      · rw [if_pos q'] at e2'
        rw [if_neg q] at e1' hz
        cases e2'
        obtain ⟨_, _, m, c, its, n2, e, wc, _⟩ := S₁.fr.own z zs hz
        rw [n₀.agree n2, e] at e1'
        cases e1'
        exact absurd wc haW
      · rw [if_neg q] at e1' hz
        rw [if_neg q'] at e2' hz'
        exact S₁.fr.ownInj z z' zs zs' m₀ b hz hz' n₀ e1' e2'
  · have z : s₁.heap.objs.size ≤ h'.objs.size := le.2
    rcases q with q | q
    · exact Nat.lt_of_lt_of_le (S₁.wlt b q) z
    · rw [q]; exact Nat.lt_of_lt_of_le alt z
theorem newOwn_ok {i : Nat} {a : Addr} {items : Array Value} {xs : List dm.V} {s₁ : Shared} (hl : isLoc nm i = true) (hf : freeAt σ i = true) (S : SI dm H nm env B P W σ s) (y : Step none' s s₁) (l : LeS s s₁) (ha : s.heap.objs.size ≤ a)
    (la : IsLx s₁.heap a items) (ra : RepL (fun b => P b ∧ b ≠ a) s₁.heap items.toList (dm.dvs xs)) :
    Ok (model prog w) A (bindName env (nmAt nm i) (.ref a)) (fun _ s' => Step W s s' ∧ SI dm H nm env B (fun b => P b ∧ b ≠ a) (fun b => W b ∨ b = a) (setO σ i xs) s') s₁ := by
  have alt : a < s₁.heap.objs.size := let ⟨_, e⟩ := la; Heap.lt_size e
  have hb : B ≤ a := Nat.le_trans (Nat.le_of_lt (Nat.lt_of_le_of_lt (S.fr.above _ S.fr.wl) (S.wlt _ S.fr.wl))) ha
  exact (newOwn' hl hf (S.less y l ha alt) (fun q => q.2 rfl) (fun q => absurd (S.wlt a q) (Nat.not_lt.mpr ha)) hb la ra).mono fun _ s' z => ⟨(y.mono fun _ q => q.elim).trans z.1 fun b q => .inl q, z.2⟩
theorem grow_own {a : Addr} {n : Nat} (ha : n ≤ a) : Grow P W n (fun b => P b ∧ b ≠ a) (fun b => W b ∨ b = a) :=
  ⟨fun b l p => ⟨p, fun q => absurd (q ▸ l : a < n) (Nat.not_lt.mpr ha)⟩, fun b l q => q.elim id fun q => absurd (q ▸ l : a < n) (Nat.not_lt.mpr ha), fun _ _ p => .inl p.1⟩
structure OwnAt (dm : Dom) (nm : Names) (env : Env) (P W : Addr → Prop) (s : Shared) (i : Nat) (xs : List dm.V) (a : Addr) (items : Array Value) : Prop where
  wa : W a
  la : IsLx s.heap a items
  ra : RepL P s.heap items.toList (dm.dvs xs)
  hm : ∀ m, s.heap.Ns env.locals m → m (nmAt nm i) = some (.ref a)
theorem OwnAt.keep {i : Nat} {xs : List dm.V} {a : Addr} {items : Array Value} (o : OwnAt dm nm env P W s i xs a items) (S : SI dm H nm env B P W σ s) (y : Step none' s s') : OwnAt dm nm env P W s' i xs a items :=
  ⟨o.wa, lx_step S.inv.tabs y id o.la, repL_step S.inv.tabs y (fun _ _ q => q) o.ra, fun m n => xE S.fr.ns fun m₀ n₀ => ((ns_step S.inv.tabs y id n₀).agree n _).symm.trans (o.hm m₀ n₀)⟩
theorem ownAt_ok {i : Nat} {xs : List dm.V} (hl : isLoc nm i = true) (ho : ownAt σ i = some xs) (S : SI dm H nm env B P W σ s) :
    ∃ a items, OwnAt dm nm env P W s i xs a items ∧ ∀ (A : Around) (E : Value → Shared → Prop) (Q : Value → Shared → Prop) (p : Pos), Q (.ref a) s → wpAny (model prog w) A (eval (.Name (nmAt nm i) p) env) Q E s := by
  refine xEAA (isLoc_ok hl) ?_; intro x hn hdb ex
  have V := S.fr.view
  have hd : denO dm nm σ.2 x = some (dm.dvs xs) := by
    rw [denO_at V.nodup hn]
    have : (σ.2[i]?).join = some xs := ho
    rw [this]; rfl
  obtain ⟨hlk, _, m, a, items, n, e, wa, la, ra⟩ := S.fr.own x _ hd
  have hl' : env.kindOf x = some .local := (V.names x _ hlk).resolve_right fun q => by cases q.1
  refine ⟨a, items, ⟨wa, la, ra, fun m' n' => ?_⟩, fun A E Q p h => ?_⟩
  · rw [ex, ← e]; exact (n.agree n' x).symm
  · rw [ex]; exact wpAny_Name (wpAny_loadName_local V.kind hl' n e h) hdb
theorem updOwn {i : Nat} {a : Addr} {xs xs' : List dm.V} {items items' : Array Value} {h' : Heap} {tk : Tok} (hl : isLoc nm i = true) (ho : ownAt σ i = some xs) (S : SI dm H nm env B P W σ s) (O : OwnAt dm nm env P W s i xs a items)
    (hs : Heap.SameBut a s.heap h') (la' : IsLx h' a items') (ra' : RepL P s.heap items'.toList (dm.dvs xs')) (htk : s.toks ≤ tk) :
    Step W s { s with heap := h', toks := tk } ∧ SI dm H nm env B P W (setO σ i xs') { s with heap := h', toks := tk } := by
  refine xEAA (isLoc_ok hl) ?_; intro x hn hdb ex
  have V := S.fr.view
  have wa := O.wa
  have la := O.la
  have hm := O.hm
  have hlk := lookup_at V.nodup hn
  have hd : denO dm nm σ.2 x = some (dm.dvs xs) := by
    rw [denO_at V.nodup hn]
    have : (σ.2[i]?).join = some xs := ho
    rw [this]; rfl
  have hi2 : i < σ.2.length := by
    rcases Nat.lt_or_ge i σ.2.length with q | q
    · exact q
    · have : (σ.2[i]?).join = some xs := ho
      rw [List.getElem?_eq_none q] at this; exact nS this
  have hi : i < σ.1.length := S.len ▸ hi2
  have hx := S.fr.own x _ hd
  have aP : ¬ P a := fun q => S.fr.disj a q wa
  have y : Step W s { s with heap := h', toks := tk } := lx_step1 la hs (.inl wa)
  refine xE S.fr.ns ?_; intro m₀ n₀
  have hLa : env.locals ≠ a := ns_ne_list n₀ la.list
  have nk : h'.Ns env.locals m₀ := n₀.sameBut hs hLa
  have rel : ∀ z, denR dm nm (setO σ i xs').1 z = denR dm nm σ.1 z := fun z => by
    unfold setO
    dsimp only
    rw [denR_unset V.nodup hn hi]
    by_cases q : z = x
    · rw [if_pos q, q]; exact hx.non.symm
    · rw [if_neg q]
  refine ⟨y, S.inv.step y S.hW ⟨htk, Nat.le_of_eq hs.1.symm⟩, ?_, S.hB, by simpa [setO] using S.len, fun b q => by show b < h'.objs.size; rw [hs.1]; exact S.wlt b q⟩
  refine ⟨⟨V.kind, V.glob, V.blt, V.names, fun z e hz hzk => ?_, fun z hzk => ?_, fun b hb => V.fresh b (by rw [← hs.1]; exact hb), V.cinj, V.nodup⟩, S.fr.disj, S.fr.above, S.fr.wl, ⟨_, nk⟩, S.fr.wc, fun z zs hz => ?_, fun z z' zs zs' m b hz hz' n e1 e2 => ?_⟩
  · rw [rel] at hz
    obtain ⟨m, v, n, hv, q'⟩ := V.loc z e hz hzk
    exact ⟨m, v, n.sameBut hs hLa, hv, rep_same hs aP q'⟩
  · obtain ⟨c, cv, a', b, q'⟩ := V.cell z hzk
    refine ⟨c, cv, a', b.sameBut hs (fun q => cell_ne_list b la.list q), fun e hz => ?_⟩
    rw [rel] at hz
    refine xEA (q' e hz) ?_; intro v e1 e2
    exact ⟨v, e1, rep_same hs aP e2⟩
  · unfold setO at hz
    dsimp only at hz
    rw [denO_set V.nodup hn hi2] at hz
    by_cases q : z = x
    · rw [if_pos q] at hz
      (have zz := Option.some.inj hz; clear hz; subst zz)
      subst q
      refine ⟨hlk, (rel z).trans hx.non, m₀, a, items', nk, by rw [← ex]; exact hm m₀ n₀, wa, la', repL_same hs aP ra'⟩
    · rw [if_neg q] at hz
      obtain ⟨a1, b1, m, c, its, n, e, wc, lc, qc⟩ := S.fr.own z zs hz
      refine ⟨a1, (rel z).trans b1, m, c, its, n.sameBut hs hLa, e, wc, ?_, repL_same hs aP qc⟩
      have hca : c ≠ a := fun q' => q (S.fr.ownInj z x zs _ m c hz hd n e (by rw [← ex, q']; exact hm m n))
      refine xE lc ?_; clear lc; intro k e'
      exact ⟨k, (hs.2 c hca).trans e'⟩
  · have back : ∀ z zs, denO dm nm (setO σ i xs').2 z = some zs → ∃ zs, denO dm nm σ.2 z = some zs := fun z zs hz => by
      unfold setO at hz
      dsimp only at hz
      rw [denO_set V.nodup hn hi2] at hz
      by_cases q : z = x
      · exact ⟨_, q ▸ hd⟩
      · rw [if_neg q] at hz; exact ⟨_, hz⟩
    refine xE (back z zs hz) ?_; intro ys h1
    refine xE (back z' zs' hz') ?_; intro ys' h2
    exact S.fr.ownInj z z' ys ys' m₀ b h1 h2 n₀ ((nk.agree n z).trans e1) ((nk.agree n z').trans e2)
end
noncomputable def SFin (dm : Dom) (H : Heap) (nm : Names) (env : Env) (B : Nat) (P W : Addr → Prop) (o : Out dm) (f : Flow) (s' : Shared) : Prop := match o with
  | .next σ' => (match f with | .next => SI dm H nm env B P W σ' s' | _ => False)
  | .ret d => (match f with | .ret v => Inv H s' ∧ Rep P s'.heap v (dm.dv d) | _ => False)
theorem SFin.nx {dm : Dom} {H : Heap} {nm : Names} {env : Env} {B : Nat} {P W : Addr → Prop} {σ : Sg dm} {f : Flow} {s : Shared} (q : SFin dm H nm env B P W (.next σ) f s) {G : Prop} (k : f = .next → SI dm H nm env B P W σ s → G) : G := by
  cases f with | next => exact k rfl q | _ => exact q.elim
theorem SFin.rt {dm : Dom} {H : Heap} {nm : Names} {env : Env} {B : Nat} {P W : Addr → Prop} {d : dm.V} {f : Flow} {s : Shared} (q : SFin dm H nm env B P W (.ret d) f s) {G : Prop} (k : ∀ v, f = .ret v → G) : G := by
  cases f with | ret v => exact k v rfl | _ => exact q.elim
noncomputable def SPost (dm : Dom) (H : Heap) (nm : Names) (env : Env) (B : Nat) (P W : Addr → Prop) (s : Shared) (o : Out dm) (f : Flow) (s' : Shared) : Prop :=
  ∃ P' W', Step W s s' ∧ Grow P W s.heap.objs.size P' W' ∧ SFin dm H nm env B P' W' o f s'
section
variable {prog : Program} {w : World} {dm : Dom} {H : Heap} {tab : Nat → List dm.V → Option dm.V} {tok : Nat → Option dm.D} {r : Nat} {A : Around} {s s' : Shared} {nm : Names} {env : Env} {P W : Addr → Prop} {σ σ' : Sg dm} {B : Nat} {N : Nat}
theorem swaps_plain {e : Ix} (h : isComp e = false) (t : Option Expr) (l : Nat) : swapsWith (e.dec nm) t l env = pure false := by
  cases e <;> first | rfl | cases h
theorem isComp_i {e : Ix} {P : Ix → Prop} (h1 : ∀ elt cls nm' link pc, P (.comp elt cls nm' link pc)) (h : isComp e = true) : P e := by
  cases e <;> first | exact h1 _ _ _ _ _ | exact bF h
theorem evA_i {evn : Ev dm} {e : Ix} {x : dm.V × Sg dm} {G : Prop} (he : evA evn e σ = some x) (h1 : ∀ elt cls nm' link pc, e = .comp elt cls nm' link pc → evn false e σ.1 = some x.1 → σ = x.2 → G) (h2 : evX evn e σ = some x → isComp e = false → G) : G := by
  unfold evA at he
  cases hc : isComp e with
  | true =>
    rw [hc] at he
    exact isComp_i (P := fun e' => e = e' → G) (fun elt cls nm' link pc q => xMap he fun d a b => by subst b; exact h1 elt cls nm' link pc q a rfl) hc rfl
  | false => rw [hc] at he; exact h2 he hc
theorem exec_asg {x : Str} {p : Pos} {value : Expr} {q : Pos} {Q : Flow → Shared → Prop} {E : Value → Shared → Prop} {M : Model} (hs : swapsWith value (some (.Name x p)) q.line env = pure false)
    (h : wpAny M A (eval value env) (fun v s₁ => wpAny M A (bindName env x v) (fun _ s₂ => Q .next s₂) E s₁) E s) : wpAny M A (exec (.Assign [.Name x p] value q) env) Q E s := by
  rw [exec_Assign_Name env x p value q hs]
  exact wpAny_bind (wpAny_standAt (wpAny_bind (wpAny_mono h (fun v s₁ h₁ => wpAny_bind (wpAny_standAt (wpAny_bind (wpAny_mono h₁ (fun _ s₂ h₂ => wpAny_pure h₂) fun _ _ x => x)))) fun _ _ x => x)))
theorem step_fresh {s₁ s₂ : Shared} {W' : Addr → Prop} (y : Step none' s s₁) (z : Step W' s₁ s₂) {P' : Addr → Prop} (G : Grow P W s.heap.objs.size P' W') : Step W s s₂ :=
  ((y.mono fun _ q => q.elim).trans z fun b q => .inl q).mono fun b q => by
    rcases Nat.lt_or_ge b s.heap.objs.size with l | l
    · exact .inl (G.2.1 b l q)
    · exact .inr l
theorem freshE_i {e : Ix} {P : Ix → Prop} (h1 : ∀ es p, P (.lst es p)) (h2 : ∀ x n p q, P (.rep x n p q)) (h3 : ∀ o a ap q, P (.meth .split o [a] ap q)) (h : freshE e = true) : P e := by
  cases e with
  | lst es p => exact h1 _ _
  | rep x n p q => exact h2 _ _ _ _
  | meth m o as ap q =>
    cases m <;> first | exact bF h | skip
    cases as with
    | nil => exact bF h
    | cons a as => cases as with | cons => exact bF h | nil => exact h3 _ _ _ _
  | _ => exact bF h
theorem fresh_ok (C : Cx prog w dm H tab tok r) {e : Ix} {ρ : List (Option dm.V)} {xs : List dm.V} {Q : Value → Shared → Prop} {E : Value → Shared → Prop} (hw : e.wf nm = true) (hfr : freshE e = true) (he : ev dm tab tok N false e ρ = some (.list xs)) (R : Room r A)
    {s₀ : Shared} (X : On H nm env P (denR dm nm ρ) s₀ s) (k : LstK dm H nm env P ρ s₀ s xs Q) :
    wpAny (model prog w) A (eval (e.dec nm) env) Q E s := by
  cases N with
  | zero => exact nS he
  | succ N =>
    have O := ev_ok C N
    refine freshE_i (P := fun e' => e = e' → _) ?_ ?_ ?_ hfr rfl
    · rintro es p rfl; exact lst_go (tab := tab) (tok := tok) O hw he R X fun ys q => PV.list.inj q ▸ k
    · rintro x n p q rfl; exact rep_go (tab := tab) (tok := tok) O hw he R X fun ys q => PV.list.inj q ▸ k
    ·     rintro o a ap q rfl; have hl := and2 hw
          replace hw := and3 hl.1
          have ho := and2 hw.1.1
          refine xBind he ?_; clear he; intro x h1 he
          refine xBind he ?_; clear he; intro vs h2 he
          refine method_go (dec_base hw.1.2 _ _ _) (decL_all _ _ _ _) (by rw [decL_length]; exact of_decide_eq_true hl.2) hw.2 (Mt.plain .split) (Mt.slot .split) (Mt.tof .split) (O.go ho.1 h1 R X fun ov s₁ x₁ y₁ r₁ => ⟨Mt.typeIs he r₁, ?_⟩)
          refine callWith_builtin (decL_plain _ _ _ _) (args_dec (evL_ok O R ho.2 h2 x₁ fun us s₂ x₂ y₂ r₂ => ?_))
          refine oSS_r (G := fun ov vs => wpAny _ _ (call _ (ov :: vs)) _ _ _) he (rep_on x₁.inv.tabs y₂ r₁) r₂ fun x' y' t u _ _ e => ?_
          refine ifS e fun hz e => ?_
          cases e
          refine wpAny_mono (wpAny_le (split_call (Q := fun v s' => ∃ l tk, v = .ref s₂.heap.objs.size ∧ s' = { s₂ with heap := s₂.heap.push { cls := .type "list", data := .seq l.toArray }, toks := tk } ∧ RepL (fun _ => False) s₂.heap l ((splitL (x'.map dm.chr) (y'.map dm.chr)).map PV.str))
            (by unfold splitOkL at hz ⊢; rw [List.length_map, List.isEmpty_map]; exact hz) fun l tk rl => ⟨l, tk, rfl, rfl, rl⟩)) (fun v s' z => ?_) fun _ _ q => q
          refine xA z ?_; clear z; rintro ⟨l, tk, rfl, rfl, rl⟩ le
          refine k _ l.toArray _ (x₂.go .push le) ((y₁.then y₂).then .push) (y₁.then y₂).size ⟨_, Heap.get?_push_size _ rfl⟩ ?_
          rw [show dm.dvs ((splitL x' y').map (dmStr dm)) = _ from denL_strs _, ← splitL_map dm.chr_inj, List.toList_toArray]
          exact rl.mono fun b o q _ _ => q.elim
theorem evA_ok {e : Ix} {d : dm.V} {i : Nat} {p q : Pos} (C : Cx prog w dm H tab tok r) (hi : wfSt nm i = true) (hw : e.wf nm = true) (he : evA (ev dm tab tok N) e σ = some (d, σ')) (R : Room r A) (S : SI dm H nm env B P W σ s) {σ2 : Sg dm} (hs : setV σ' i d = some σ2) :
    Ok (model prog w) A (exec (.Assign [.Name (nmAt nm i) p] (e.dec nm) q) env) (SPost dm H nm env B P W s (.next σ2)) s := by
  have O := ev_ok C N
  have plain : ∀ (hsw : swapsWith (e.dec nm) (some (.Name (nmAt nm i) p)) q.line env = pure false), evX (ev dm tab tok N) e σ = some (d, σ') → Ok (model prog w) A (exec (.Assign [.Name (nmAt nm i) p] (e.dec nm) q) env) (SPost dm H nm env B P W s (.next σ2)) s := by
    intro hsw he
    refine exec_asg hsw (evX_ok O hw he R S fun v s₁ P' W' y l G S' rv => ?_)
    refine (setV_ok hi hs S' rv).mono fun _ s₂ z => ⟨P', W', step_fresh y z.1 G, G, z.2⟩
  refine evA_i he ?_ fun he hc => plain (swaps_plain hc _ _) he
  · clear he; rintro elt cls nm' link pc rfl h1 rfl
    have hX : evX (ev dm tab tok N) (.comp elt cls nm' link pc) σ = some (d, σ) := by unfold evX; rw [show ev dm tab tok N false (.comp elt cls nm' link pc) σ.1 = some d from h1]; rfl
    obtain ⟨b, hb⟩ : ∃ b, swapsWith ((Ix.comp elt cls nm' link pc).dec nm) (some (.Name (nmAt nm i) p)) q.line env = pure b := ⟨_, rfl⟩
    cases b with
    | false => exact plain hb hX
    | true =>
      cases N with
      | zero => exact nS h1
      | succ N =>
      have h1 : evStep dm tab tok (ev dm tab tok N) false (.comp elt cls nm' link pc) σ.1 = some d := h1
      rcases ix_cl cls with ⟨t, it, ifs, rest, rfl⟩ | ⟨q, _⟩
      rotate_left
      · have : (match clsOf cls with | [] => none | c :: r => _) = some d := h1
        rw [q] at this; exact nS this
      have hnd := of_decide_eq_true (and2 hw).2
      replace hw := and3 (and2 hw).1
      refine xBind (show ((evIt dm (fun e => ev dm tab tok N false e σ.1) it).bind fun xs => (evC dm (ev dm tab tok N) elt (clsOf (.cl t it ifs rest)) (linkR link σ.1) xs).bind fun ys => if ys.length ≤ fitLen then some (.list ys) else none) = some d from h1) ?_; intro xs hxs h1
      refine xBind h1 ?_; clear h1; intro ys hys h1
      refine ifS h1 fun hfit h1 => ?_
      (have zz := Option.some.inj h1; clear h1; subst zz)
      rw [exec_Assign_Name_used _ _ _ _ hb]
      refine wpAny_bind (wpAny_standAt (wpAny_bind ?_))
      have O' := ev_ok C N
      have core := comp_core (pos := (it.dec nm).pos) (p := pc) (use := some (assign (.Name (nmAt nm i) p) env)) (Q := fun _ s' => SPost dm H nm env B P W s (.next σ2) .next s') C O' hw.1.1 hw.1.2 hw.2 hnd hxs hys hfit R S.inv S.fr.view ?_
      · show wpAny _ A (do let _ ← comprehension _ (compScope nm') env (it.dec nm).pos (newList []) false (eval (it.dec nm) env) (some (assign (.Name (nmAt nm i) p) env))) _ _ s
        exact wpAny_bind (wpAny_mono core (fun _ s' z => wpAny_pure (wpAny_pure z)) fun _ _ z => z)
      · intro Da Ca s₁ m y I₁ hDa hCa rp n
        have hClt : Ca < s₁.heap.objs.size := let ⟨_, _, _, e, _⟩ := n; Heap.lt_size e
        have S₁ := S.lessI y I₁ hCa hClt
        have hWC : ∀ b, W b → b ≠ Ca := fun b q e => absurd (e ▸ S.wlt b q : Ca < _) (Nat.not_lt.mpr hCa)
        show wpAny _ A (do standAt p; bindName env (nmAt nm i) (.ref Da)) _ _ s₁
        refine wpAny_bind (wpAny_standAt ((setV_ok hi hs S₁ rp).mono fun _ s₂ z => ?_))
        have n₂ := ns_step I₁.tabs z.1 (fun q => hWC Ca q rfl) n
        refine ⟨m, n₂, fun h' hsb => ?_⟩
        refine xEEEAA (id n₂) ?_; intro o es ep ho hd _
        have y' : Step (fun b => b = Ca) s₂ { s₂ with heap := h' } := .same (tk := s₂.toks) hsb (.inl rfl) ho fun vs q => by rw [hd] at q; cases q
        have G : Grow P W s.heap.objs.size (fun b => P b ∧ b ≠ Ca) W := ⟨fun b l pb => ⟨pb, fun q => absurd (q ▸ l : Ca < _) (Nat.not_lt.mpr hCa)⟩, fun _ _ q => q, fun _ _ q => .inl q.1⟩
        have z1 : Step (fun b => W b ∨ b = Ca) s₁ s₂ := z.1.mono fun b q => .inl (.inl q)
        refine ⟨_, W, (((y.mono fun _ q => q.elim).trans z1 fun b q => .inl q).trans y' fun b q => .inl (.inr q)).mono fun b q => (by
          rcases q with q | q
          · exact .inl q
          · exact .inr (by rw [show b = Ca from q]; exact hCa)), G, ?_⟩
        exact z.2.beside y' (z.2.inv.step y' (fun b q => q ▸ Nat.le_trans S.inv.size hCa) ⟨Nat.le_refl _, Nat.le_of_eq hsb.1.symm⟩) (fun b q e => q.2 e) (fun b q e => hWC b q e) fun k c hk hc e => by
          obtain ⟨c', cv, a, ic, _⟩ := z.2.fr.view.cell k hk
          rw [hc] at a; (have zz := Option.some.inj a; clear a; subst zz)
          exact ns_ne_cell n₂ ic e.symm
end
section
variable {prog : Program} {w : World} {dm : Dom} {H : Heap} {tab : Nat → List dm.V → Option dm.V} {tok : Nat → Option dm.D} {r : Nat} {A : Around} {E : Value → Shared → Prop} {s s' : Shared} {nm : Names} {env : Env} {P W : Addr → Prop} {σ σ' : Sg dm} {B : Nat} {N : Nat}
theorem store_of_bind {x : Str} {v : Value} {M : Model} {Q : Unit → Shared → Prop} (h : wpAny M A (bindName env x v) Q E s) : wpAny M A (storeName env x v) Q E s :=
  fun Γ p hΓ => by have := h Γ p hΓ; rw [Sem.wp_bindName] at this; exact this
theorem own_case {i : Nat} {p q : Pos} {e : Ix} {xs : List dm.V} (C : Cx prog w dm H tab tok r) (hl : isLoc nm i = true) (hw : e.wf nm = true) (hfr : freshE e = true) (he : ev dm tab tok N false e σ.1 = some (.list xs)) (hf : freeAt σ i = true) (R : Room r A) (S : SI dm H nm env B P W σ s) :
    Ok (model prog w) A (exec (.Assign [.Name (nmAt nm i) p] (e.dec nm) q) env) (SPost dm H nm env B P W s (.next (setO σ i xs))) s := by
  refine exec_asg (swaps_plain (freshE_i (P := fun e => isComp e = false) (fun _ _ => rfl) (fun _ _ _ _ => rfl) (fun _ _ _ _ => rfl) hfr) _ _) (fresh_ok C hw hfr he R (On.start S.inv S.fr.view) fun a items s₁ x₁ y₁ ha la ra => ?_)
  exact (newOwn_ok hl hf S y₁ x₁.le ha la ra).mono fun _ s₂ z => ⟨_, _, z.1, grow_own ha, z.2⟩
theorem kindOf_loc {i : Nat} {δ : Str → Option DV} {h : Heap} (V : View nm env P δ h) (hl : isLoc nm i = true) : env.kindOf (nmAt nm i) = some .local := by
  refine xEAA (isLoc_ok hl) ?_; intro x hn _ ex
  rw [ex]
  exact (V.names x _ (lookup_at V.nodup hn)).resolve_right fun q => by cases q.1
theorem block_fn (hk : env.scope.kind = .function) : env.blockKind = .function := by
  unfold Env.blockKind; rw [hk]; rfl
theorem names_map {δ : Str → Option DV} {h : Heap} (V : View nm env P δ h) {line : Nat} {is : List (Nat × Pos)} (h1 : is.all (fun i => isLoc nm i.1) = true) (h2 : (is.all fun j => j.2.line == line) = true) :
    (names' nm is).filterMap (fun | .Name y pos => if env.kindOf y == some .local && pos.line == line then some y else none | _ => none) = is.map fun i => nmAt nm i.1 := by
  induction is with
  | nil => rfl
  | cons i is ih =>
    have h1 := and2 h1
    have h2 := and2 h2
    have hk := kindOf_loc V h1.1
    rw [List.map_cons, ← ih h1.2 h2.2]
    refine (List.filterMap_cons_some ?_)
    dsimp only
    rw [hk]
    exact if_pos h2.1
theorem swapped_eq {δ : Str → Option DV} {h : Heap} (V : View nm env P δ h) {is : List (Nat × Pos)} {es : List Expr} {k k2 : Nat} {pt pe : Pos} (hs : swapOk nm is es = true) :
    swappedStores [.Tuple (names' nm is) k pt] (.Tuple es k2 pe) env = pure (some (is.map fun i => nmAt nm i.1)) := by
  unfold swapOk noConst at hs
  simp only [Bool.and_eq_true, Bool.not_eq_true', beq_iff_eq, Bool.or_eq_true] at hs
  refine xAA hs ?_; clear hs; rintro ⟨⟨⟨⟨⟨h1, h2⟩, h3⟩, h4⟩, h5⟩, h6⟩ h7 h8
  have hline : (is.all fun j => j.2.line == (((names' nm is).head?.map (·.pos.line)).getD 0)) = true := by
    cases is with
    | nil => simp at h1
    | cons i is =>
      unfold sameLine at h5
      rw [List.all_cons, Bool.and_eq_true]
      exact ⟨beq_self_eq_true _, h5⟩
  have hn := names_map V h4 hline
  have hl : (names' nm is).length = is.length := by unfold names'; rw [List.length_map]
  have hb := block_fn V.kind
  unfold swappedStores
  dsimp only
  rw [hl, h2, hb]
  have e1 : (!(is.length == 2 || is.length == 3) || is.length != is.length || ScopeKind.function != ScopeKind.function) = false := by
    rcases h1 with h1 | h1 <;> rw [h1] <;> rfl
  simp only [e1, Bool.false_eq_true, if_false]
  have key : ∀ (st : Bool) (L : List Str), st = false → L = (is.map fun i => nmAt nm i.1) → (if st = true then (pure none : Sem (Option (List Str))) else if (L.length != is.length || L.eraseDups.length != L.length) = true then pure none else
      if es.all (foldedForSure 8) = true then pure none else if es.all (constantsAlone 8) = true then (do unsupported "assign.tuple-of-constant-expressions:order-of-the-stores"; pure (some L)) else pure (some L)) = pure (some (is.map fun i => nmAt nm i.1)) := by
    rintro st L rfl rfl
    rw [if_neg (by simp), h6, List.length_map, h7, h8, if_neg (by simp), if_neg (by simp), if_neg (by simp)]
  exact key _ _ h3 hn
theorem setAll_list {is : List (Nat × Pos)} {vs : List dm.V} {ρ ρ' : List (Option dm.V)} (h : setAll is.reverse vs.reverse ρ = some ρ') : is.length = vs.length ∧ ρ'.length = ρ.length := by
  exact ⟨by have := (setAll_len h).1; rwa [List.length_reverse, List.length_reverse] at this, (setAll_len h).2⟩
theorem rev_map (f : Nat × Pos → Str) (is : List (Nat × Pos)) : ((is.map f).reverse.map fun n => bindName env n) = is.reverse.map fun x => bindName env (f x) := by
  rw [← List.map_reverse, List.map_map]; rfl
theorem asgT_case {is : List (Nat × Pos)} {k k2 : Nat} {pt pe q : Pos} {es : List Ix} {vs : List dm.V} {ρ' : List (Option dm.V)} (C : Cx prog w dm H tab tok r) (hs : swapOk nm is (decL nm es) = true) (hw : wfL nm es = true) (he : evL (fun e => ev dm tab tok N false e σ.1) es = some vs)
    (hf : is.all (fun x => freeAt σ x.1) = true) (hz : vs.length ≤ fitLen) (hset : setAll is.reverse vs.reverse σ.1 = some ρ') (R : Room r A) (S : SI dm H nm env B P W σ s) :
    Ok (model prog w) A (exec (.Assign [.Tuple (names' nm is) k pt] (.Tuple (decL nm es) k2 pe) q) env) (SPost dm H nm env B P W s (.next (ρ', σ.2))) s := by
  have hall : is.all (fun i => isLoc nm i.1) = true := by
    exact (and2 (and3 (and2 hs).1).1.1).2
  refine Assign_Tuple_swapped ?_ rfl (swapped_eq S.fr.view hs)
  refine wpAny_Tuple (evL_ok (ev_ok C N) R hw he (On.start S.inv S.fr.view) fun us s₁ x₁ y₁ r₁ => ?_)
  have hl : us.length = vs.length := r₁.length.trans (denL_length _ _ _)
  have hlen := (setAll_list hset).1
  refine ⟨by rw [hl, sizeLine_eq]; exact hz, ?_⟩
  have y₂ : Step none' s₁ { s₁ with heap := s₁.heap.push { cls := .type "tuple", data := .seq us.toArray } } := .push (tk := s₁.toks)
  have x₂ := x₁.push { cls := .type "tuple", data := .seq us.toArray } (Nat.le_refl _)
  have l : IsTup (s₁.heap.push { cls := .type "tuple", data := .seq us.toArray }) s₁.heap.objs.size us.toArray := ⟨_, Heap.get?_push_size _ rfl, rfl, _, rfl⟩
  rw [List.length_map, hlen, ← hl, show us.length = us.toArray.size from (List.size_toArray).symm]
  refine wpAny_mono (wpAny_le (unpackItems_tuple (Q := fun vs s' => vs = us ∧ ∃ h', s' = { s₁ with heap := h' } ∧ Heap.ExtBut (s₁.heap.push { cls := .type "tuple", data := .seq us.toArray }).objs.size (s₁.heap.push { cls := .type "tuple", data := .seq us.toArray }) h') R.handled l fun h' he₁ => ⟨by simp, h', rfl, he₁⟩)) (fun ws s₃ z => ?_) fun _ _ z => z
  refine xA z ?_; clear z; rintro ⟨rfl, h', rfl, he₁⟩ le
  have y₃ : Step none' { s₁ with heap := s₁.heap.push { cls := .type "tuple", data := .seq ws.toArray } } { s₁ with heap := h' } := ext_step he₁ le.2
  have x₃ := x₂.go y₃ le
  have S₃ := S.step0 x₃.step x₃.le
  rw [rev_map]
  refine (bindAll_ok (ω := denO dm nm σ.2) (fun x hx => ?_) hset S₃.inv S₃.hW S₃.fr (vs := ws.reverse) ?_).mono fun _ s₄ z => ⟨P, W, (x₃.step.mono fun _ q => q.elim).trans z.1 fun b q => .inl q, .refl _ _ _, z.2.1, z.2.2, S.hB, by rw [show ((ρ', σ.2) : Sg dm).1.length = σ.1.length from (setAll_list hset).2]; exact S.len, fun b wb => Nat.lt_of_lt_of_le (S₃.wlt b wb) z.1.size⟩
  · have hx' := List.mem_reverse.mp hx
    have := isLoc_wf (List.all_eq_true.mp hall x hx')
    exact ⟨this, free_none this S.fr.view.nodup (List.all_eq_true.mp hf x hx')⟩
  · rw [dvs_reverse]
    exact (repL_step x₁.inv.tabs (y₂.then y₃) (fun _ _ q => q) r₁).reverse
theorem swapped_none {is : List (Nat × Pos)} {k : Nat} {pt : Pos} {e : Ix} (h : okUnp e = true) : swappedStores [.Tuple (names' nm is) k pt] (e.dec nm) env = pure none := by
  cases e <;> first | rfl | exact bF h
theorem okUnp_nc {e : Ix} (h : okUnp e = true) : isComp e = false := by
  cases e <;> first | rfl | exact bF h
theorem unp_case {is : List (Nat × Pos)} {k : Nat} {pt q : Pos} {e : Ix} {d : dm.V} {σ2 : Sg dm} (C : Cx prog w dm H tab tok r) (his : (is.all fun x => wfSt nm x.1) = true) (hw : e.wf nm = true) (hne : okUnp e = true)
    (he : evX (ev dm tab tok N) e σ = some (d, σ')) (hset : setG σ' (.many is k pt) d = some σ2) (R : Room r A) (S : SI dm H nm env B P W σ s) :
    Ok (model prog w) A (exec (.Assign [.Tuple (names' nm is) k pt] (e.dec nm) q) env) (SPost dm H nm env B P W s (.next σ2)) s := by
  refine PyProof.Rows.Assign_Tuple (evX_ok (ev_ok C N) hw he R S fun v s₁ P' W' y l G S' rv => ?_) ?_ (swapped_none hne)
  · exact (setG_ok (t := .many is k pt) his hset R.handled S' rv).mono fun _ s₂ z => ⟨P', W', step_fresh y z.1 G, G, z.2⟩
  · exact swaps_plain (env := env) (e := e) (okUnp_nc hne) (some (.Tuple (names' nm is) k pt)) q.line
theorem own2_case {i1 i2 : Nat} {p1 p2 pt pe q : Pos} {k k2 : Nat} {e1 e2 : Ix} {xs ys : List dm.V} (C : Cx prog w dm H tab tok r) (hl1 : isLoc nm i1 = true) (hl2 : isLoc nm i2 = true) (hw1 : e1.wf nm = true) (hw2 : e2.wf nm = true) (hf1 : freshE e1 = true) (hf2 : freshE e2 = true)
    (hs : swapOk nm [(i1, p1), (i2, p2)] [e1.dec nm, e2.dec nm] = true) (hne : (i1 != i2) = true) (he1 : ev dm tab tok N false e1 σ.1 = some (.list xs)) (he2 : ev dm tab tok N false e2 σ.1 = some (.list ys)) (hr1 : freeAt σ i1 = true) (hr2 : freeAt σ i2 = true) (R : Room r A) (S : SI dm H nm env B P W σ s) :
    Ok (model prog w) A (exec (.Assign [.Tuple [.Name (nmAt nm i1) p1, .Name (nmAt nm i2) p2] k pt] (.Tuple [e1.dec nm, e2.dec nm] k2 pe) q) env) (SPost dm H nm env B P W s (.next (setO (setO σ i2 ys) i1 xs))) s := by
  refine Assign_Tuple_swapped (names := [nmAt nm i1, nmAt nm i2]) ?_ rfl (swapped_eq (is := [(i1, p1), (i2, p2)]) S.fr.view hs)
  refine wpAny_Tuple (args_cons (fresh_ok C hw1 hf1 he1 R (On.start S.inv S.fr.view) fun a1 it1 s₁ x₁ y₁ ha1 la1 ra1 => ?_) (dec_star _ _ _ _))
  have a1lt : a1 < s₁.heap.objs.size := let ⟨_, e⟩ := la1; Heap.lt_size e
  have S1 := S.less y₁ x₁.le ha1 a1lt
  refine args_cons (fresh_ok C hw2 hf2 he2 R (On.start S1.inv S1.fr.view) fun a2 it2 s₂ x₂ y₂ ha2 la2 ra2 => args_nil ⟨by rw [sizeLine_eq]; simp, ?_⟩) (dec_star _ _ _ _)
  have y₃ : Step none' s₂ { s₂ with heap := s₂.heap.push { cls := .type "tuple", data := .seq [Value.ref a1, Value.ref a2].toArray } } := .push (tk := s₂.toks)
  have x₃ := x₂.push { cls := .type "tuple", data := .seq [Value.ref a1, Value.ref a2].toArray } (Nat.le_refl _)
  have l : IsTup (s₂.heap.push { cls := .type "tuple", data := .seq [Value.ref a1, Value.ref a2].toArray }) s₂.heap.objs.size [Value.ref a1, Value.ref a2].toArray := ⟨_, Heap.get?_push_size _ rfl, rfl, _, rfl⟩
  rw [show [nmAt nm i1, nmAt nm i2].length = [Value.ref a1, Value.ref a2].toArray.size from rfl]
  refine wpAny_mono (wpAny_le (unpackItems_tuple (Q := fun vs s' => vs = [Value.ref a1, Value.ref a2] ∧ ∃ h', s' = { s₂ with heap := h' } ∧ Heap.ExtBut (s₂.heap.push { cls := .type "tuple", data := .seq [Value.ref a1, Value.ref a2].toArray }).objs.size (s₂.heap.push { cls := .type "tuple", data := .seq [Value.ref a1, Value.ref a2].toArray }) h') R.handled l fun h' he₁ => ⟨by simp, h', rfl, he₁⟩)) (fun ws s₄ z => ?_) fun _ _ z => z
  refine xA z ?_; clear z; rintro ⟨rfl, h', rfl, he₁⟩ le
  have y₄ : Step none' { s₂ with heap := s₂.heap.push { cls := .type "tuple", data := .seq [Value.ref a1, Value.ref a2].toArray } } { s₂ with heap := h' } := ext_step he₁ le.2
  have x₄ := x₃.go y₄ le
  have y24 := y₃.then y₄
  have a2lt : a2 < s₂.heap.objs.size := let ⟨_, e⟩ := la2; Heap.lt_size e
  have ne12 : a1 ≠ a2 := Nat.ne_of_lt (Nat.lt_of_lt_of_le a1lt ha2)
  have a2s : s.heap.objs.size ≤ a2 := Nat.le_trans y₁.size ha2
  have T₁ := S1.inv.tabs
  have T₂ := x₂.inv.tabs
  have S4 := S1.less x₄.step x₄.le ha2 (Nat.lt_of_lt_of_le a2lt y24.size)
  have lB : B ≤ s.heap.objs.size := Nat.le_of_lt (Nat.lt_of_le_of_lt (S.fr.above _ S.fr.wl) (S.wlt _ S.fr.wl))
  have nW : ∀ a, s.heap.objs.size ≤ a → ¬ W a := fun a h q => absurd (S.wlt a q) (Nat.not_lt.mpr h)
  have f1 : freeAt (setO σ i2 ys) i1 = true := by
    unfold freeAt ownAt setO
    dsimp only
    rw [List.length_set, List.getElem?_set, if_neg (fun e => by simp [e] at hne)]
    exact hr1
  show wpAny _ A (do holding _ (bindName env (nmAt nm i2) (.ref a2)); assignInOrder [bindName env (nmAt nm i1)] [.ref a1]) _ _ _
  refine wpAny_bind (wpAny_holding ((newOwn' hl2 hr2 S4 (fun q => q.2 rfl) (nW a2 a2s) (Nat.le_trans lB a2s) (lx_step T₂ y24 id la2) (repL_step T₂ y24 (fun _ _ q => q) ra2)).mono fun _ s₅ z => ?_))
  refine xA z ?_; clear z; intro y₅ S5
  have la1' : IsLx s₅.heap a1 it1 := lx_step x₄.inv.tabs y₅ (nW a1 ha1) (lx_step T₁ x₄.step id la1)
  have ra1' : RepL (fun b => (P b ∧ b ≠ a1) ∧ b ≠ a2) s₅.heap it1.toList (dm.dvs xs) := repL_step x₄.inv.tabs y₅ S4.fr.disj (repL_step T₁ x₄.step (fun _ _ q => q) (ra1.weak fun b pb lb => ⟨pb, Nat.ne_of_lt (Nat.lt_of_lt_of_le lb ha2)⟩))
  show wpAny _ A (do holding _ (bindName env (nmAt nm i1) (.ref a1)); assignInOrder [] []) _ _ _
  refine wpAny_bind (wpAny_holding ((newOwn' hl1 f1 S5 (fun q => q.1.2 rfl) (fun q => q.elim (nW a1 ha1) fun q => ne12 q) (Nat.le_trans lB ha1) la1' ra1').mono fun _ s₆ z => wpAny_pure ?_))
  refine xA z ?_; clear z; intro y₆ S6
  refine ⟨_, _, ?_, ?_, S6⟩
  · have t1 : Step W s s₅ := ((y₁.then x₄.step).mono fun _ q => q.elim).trans y₅ fun b q => .inl q
    refine ((t1.mono fun b q => .inl (.inl q)).trans (W := fun b => W b ∨ b = a2) y₆ fun b q => .inl q).mono fun b q => ?_
    rcases q with q | q
    · exact .inl q
    · exact .inr (by rw [show b = a2 from q]; exact a2s)
  · refine ⟨fun b l pb => ⟨⟨pb, Nat.ne_of_lt (Nat.lt_of_lt_of_le l ha1)⟩, Nat.ne_of_lt (Nat.lt_of_lt_of_le l a2s)⟩, fun b l q => ?_, fun b l q => .inl q.1.1⟩
    rcases q with (q | q) | q
    · exact q
    · exact absurd (show b = a2 from q) (Nat.ne_of_lt (Nat.lt_of_lt_of_le l a2s))
    · exact absurd (show b = a1 from q) (Nat.ne_of_lt (Nat.lt_of_lt_of_le l ha1))
end
section
variable {prog : Program} {w : World} {dm : Dom} {H : Heap} {tab : Nat → List dm.V → Option dm.V} {tok : Nat → Option dm.D} {r : Nat} {A : Around} {E : Value → Shared → Prop} {s s' : Shared} {nm : Names} {env : Env} {P W : Addr → Prop} {σ σ' : Sg dm} {B : Nat} {N : Nat}
theorem augOp_ok {op : Operator} (h : augOp op = true) : op = .Add ∨ op = .Sub ∨ op = .Mult ∨ op = .LShift ∨ op = .RShift := by
  cases op with
  | Add => exact .inl rfl
  | Sub => exact .inr (.inl rfl)
  | Mult => exact .inr (.inr (.inl rfl))
  | LShift => exact .inr (.inr (.inr (.inl rfl)))
  | RShift => exact .inr (.inr (.inr (.inr rfl)))
  | _ => exact bF h
theorem wfVar_ok {i : Nat} (h : wfVar nm i = true) : ∃ x k, nm[i]? = some (x, k) ∧ isVar (some k) = true ∧ (x == ("__classdict__" : Str)) = false ∧ (x == ("__debug__" : Str)) = false := by
  unfold wfVar at h
  cases hn : nm[i]? with
  | none => rw [hn] at h; exact bF h
  | some xk =>
    obtain ⟨x, k⟩ := xk
    rw [hn] at h
    simp only [Bool.and_eq_true, Bool.not_eq_true'] at h
    exact ⟨x, k, rfl, h.1.1, h.1.2, h.2⟩
theorem load_ok {i : Nat} {d : dm.V} {ρ : List (Option dm.V)} {Q : Value → Shared → Prop} (hw : wfVar nm i = true) (V : View nm env P (denR dm nm ρ) s.heap) (he : (ρ[i]?).join = some d) (h : ∀ v, Rep P s.heap v (dm.dv d) → Q v s) : wpAny (model prog w) A (loadName env (nmAt nm i)) Q E s := by
  refine xEEAAA (wfVar_ok hw) ?_; intro x k hn h1 h2 h3
  have en : nmAt nm i = x := by unfold nmAt; rw [hn]
  rw [en]
  refine V.load (by rw [lookup_at V.nodup hn]; exact h1) (d := dm.dv d) ?_ h2 h
  unfold denR
  rw [look_at V.nodup hn, he]; rfl
theorem evS_ok {ih : Ev dm} {e : Ix} {d : dm.V} {Q : Value → Shared → Prop} (O : EvOk prog w dm H r ih) (hw : e.wf nm = true) (he : evX ih e σ = some (d, σ')) (hs : scal d = true) (R : Room r A) (S : SI dm H nm env B P W σ s)
    (k : ∀ v s', Step none' s s' → LeS s s' → SI dm H nm env B P W σ s' → Rep P s'.heap v (dm.dv d) → σ' = σ → Q v s') : wpAny (model prog w) A (eval (e.dec nm) env) Q E s := by
  refine orE_i he (fun d' h1 he => ?_) fun he => ?_
  · cases he
    exact O.go hw h1 R (On.start S.inv S.fr.view) fun v s' x y q => k v s' y x.le (S.step0 y x.le) q rfl
  · refine xMap he fun d' h1 he => ?_
    by_cases hs' : scal d' = true
    · rw [if_pos hs'] at he
      cases he
      exact O.go hw h1 R (On.start S.freeze.1.inv S.freeze.1.fr.view) fun v s' x y q => k v s' y x.le (S.step0 y x.le) (scal_rep hs q) rfl
    · rw [if_neg hs'] at he
      cases he
      exact absurd hs hs'
theorem aug_case {i : Nat} {p q : Pos} {op : Operator} {e : Ix} {a b c : dm.D} {σ2 : Sg dm} (C : Cx prog w dm H tab tok r) (hi : wfSt nm i = true) (hv : wfVar nm i = true) (hw : e.wf nm = true) (ha : (σ.1[i]?).join = some (.int a)) (he : evX (ev dm tab tok N) e σ = some (.int b, σ')) (ho : augOp op = true)
    (hc : dm.bin op a b = some c) (hset : setV σ' i (.int c) = some σ2) (R : Room r A) (S : SI dm H nm env B P W σ s) : Ok (model prog w) A (exec (.AugAssign (.Name (nmAt nm i) p) op (e.dec nm) q) env) (SPost dm H nm env B P W s (.next σ2)) s := by
  refine wpAny_AugAssign_Name (load_ok hv S.fr.view ha fun v rv => evS_ok (ev_ok C N) hw he rfl R S fun u s₁ y l S' ru eσ => ?_)
  have rv' : Rep P s₁.heap v (dm.dv (.int a)) := by (refine xE (Rep.inv rv) ?_; clear rv; intro zt zq; subst zq); exact .int _ _
  refine wpAny_mono (wpAny_le (inplace_ok (P := P) (Q := fun x s' => Post P s₁ (dm.dv (.int c)) x s') hc (augOp_ok ho) rv' ru fun x s₂ z => z)) (fun x s₂ z => store_of_bind ?_) fun _ _ q => q
  have S2 := S'.step0 z.1.1 z.2
  subst eσ
  exact (setV_ok hi hset S2 z.1.2).mono fun _ s₃ z' => ⟨P, W, ((y.then z.1.1).mono fun _ q => q.elim).trans z'.1 fun b q => .inl q, .refl _ _ _, z'.2⟩
theorem IsLx.ty {a : Addr} {items : Array Value} (x : IsLx s.heap a items) : s.TypeIs (.ref a) "list" ∧ ∀ b, Value.ref a = .ref b → ∃ ob, s.heap.get? b = some ob ∧ ob.dict = none :=
  ⟨x.list.typeIs, fun b q => Value.ref.inj q ▸ x.elim fun n ho => ⟨_, ho, rfl⟩⟩
theorem setItem_exact {l : Addr} {items : Array Value} {k : Int} {t : Tok} {v : Value} {Q : Unit → Shared → Prop} (hl : IsLx s.heap l items) (h0 : 0 ≤ k) (hfit : k < 2 ^ 63) (hn : k < items.size)
    (hQ : ∀ h', IsLx h' l (items.setIfInBounds k.toNat v) → Heap.SameBut l s.heap h' → Q () { s with heap := h' }) :
    wpAny (model prog w) A (setItem (.ref l) (.int k t) v) Q E s := by
  refine xE (id hl) ?_; intro n ho
  have hll := hl.list
  unfold setItem
  try with_reducible refine wpAny_holding ?_
  first | refine wpAny_bind (wpAny_pure ?_) | skip
  refine wpAny_bind (wpAny_sequenceKey hll.typeIs (by decide) ?_)
  refine wpAny_bind (wpAny_callSpecial?_slot (name := Str.ofString "__setitem__") hll.typeIs slot_list_setitem
    (wpAny_call_entry slot_list_setitem hll.typeIs entry_list_setitem ?_ (args_list_setitem _ _ _)))
  show wpAny _ _ (Builtin.List.listSubscript? (.int k t) >>= _) _ _ s
  refine wpAny_bind (wpAny_listSubscript_int (fitsIndex_of h0 hfit) ?_)
  clear hfit
  refine xE (Int.eq_ofNat_of_zero_le h0) ?_; rintro j rfl
  have hj : j < items.size := by lia
  have hx' : items[j]? = some items[j] := Array.getElem?_eq_getElem hj
  show wpAny _ _ ((seqItemAt l j >>= fun r => pure (r.map (j, ·))) >>= _) _ _ s
  refine wpAny_bind (wpAny_bind (wpAny_seqItemAt ho rfl (wpAny_pure ?_)))
  rw [hx']
  show wpAny _ _ (setSeqItemAt l j v >>= _) _ _ s
  refine xE (mapSeq_list (·.setIfInBounds j v) items n) ?_; intro n' e
  have hfin : IsLx (s.heap.update l (Obj.mapSeq (·.setIfInBounds j v))) l (items.setIfInBounds j v) := ⟨n', by show (s.heap.update l _).get? l = some _; rw [Heap.get?_update_self _ ho (by rw [e]; rfl), e]⟩
  refine wpAny_bind (wpAny_setSeqItemAt ho rfl ?_)
  first
    | exact wpAny_bind (wpAny_pure (wpAny_pure ⟨.none, rfl, wpAny_pure (hQ _ hfin (Heap.SameBut.update ..))⟩))
    | exact wpAny_pure ⟨.none, rfl, wpAny_pure (hQ _ hfin (Heap.SameBut.update ..))⟩
theorem aug_plain {ix : Ix} (ov iv new : Value) : augStore (ix.dec nm) ov iv new = (do holding [new, ov, iv] (setItem ov iv new); release [new, ov, iv] []; pure .next) := by
  cases ix <;> rfl
theorem dvs_set (xs : List dm.V) (k : Nat) (d : dm.V) : dm.dvs (xs.set k d) = (dm.dvs xs).set k (dm.dv d) := by
  show PV.denL dm.den dm.chr _ = (PV.denL dm.den dm.chr _).set k _
  rw [PV.denL_eq, PV.denL_eq, List.map_set]
theorem repL_set {h : Heap} {v : Value} {d : DV} {ds : List DV} : ∀ {vs : List Value} {k : Nat}, RepL P h vs ds → Rep P h v d → RepL P h (vs.set k v) (ds.set k d) := by
  induction ds with
  | nil => intro vs k r _; cases r.c0; exact .nil
  | cons e ds ih =>
    intro vs k r q
    refine r.cc ?_; clear r; rintro u vs rfl q1 r
    cases k with
    | zero => exact .cons q r
    | succ k => exact .cons q1 (ih r q)
theorem seqIndex_nat {k : Int} {n : Nat} (h0 : 0 ≤ k) (h1 : k < n) : seqIndex? k n = some k.toNat := by
  have hn : ¬ k < 0 := by lia
  unfold seqIndex?
  simp only [hn, if_false]
  rw [if_pos (by simp only [Bool.and_eq_true, decide_eq_true_eq]; lia)]
theorem map_erase {α β : Type} (f : α → β) (l : List α) : ∀ k : Nat, (l.eraseIdx k).map f = (l.map f).eraseIdx k := by
  induction l with
  | nil => intro _; rfl
  | cons x l ih => intro k; cases k with | zero => rfl | succ k => exact congrArg (f x :: ·) (ih k)
theorem augI_case {i : Nat} {p ps q : Pos} {op : Operator} {ix e : Ix} {xs : List dm.V} {kd a b c : dm.D} {k : Int} {σ1 σ2 : Sg dm} (C : Cx prog w dm H tab tok r) (hl : isLoc nm i = true) (hwi : ix.wf nm = true) (hw : e.wf nm = true) (hown : ownAt σ i = some xs) (hix : evX (ev dm tab tok N) ix σ = some (.int kd, σ1))
    (hk : dm.val kd = some k) (h0 : 0 ≤ k) (hlt : k < xs.length) (hz : xs.length ≤ fitLen) (hx : xs[k.toNat]? = some (.int a)) (he : evX (ev dm tab tok N) e σ = some (.int b, σ2)) (ho : augOp op = true) (hc : dm.bin op a b = some c) (R : Room r A) (S : SI dm H nm env B P W σ s) :
    Ok (model prog w) A (exec (.AugAssign (.Subscript (.Name (nmAt nm i) p) (ix.dec nm) ps) op (e.dec nm) q) env) (SPost dm H nm env B P W s (.next (setO σ i (xs.set k.toNat (.int c))))) s := by
  have O := ev_ok C N
  refine xEEA (ownAt_ok (prog := prog) (w := w) hl hown S) ?_; intro a₀ it o₁ go
  refine wpAny_AugAssign_SubscriptAny (go _ _ _ _ (evS_ok O hwi hix rfl R S fun iv s₂ y₂ l₂ S₂ r₂ _ => ?_)) aug_plain
  have ek := dm.val_den _ _ hk
  (refine xE (Rep.inv r₂) ?_; clear r₂; intro zt zq; subst zq)
  have o₂ := o₁.keep S y₂
  refine xEA (get_rep o₂.ra hx) ?_; intro v hv1 hv2
  have hsz := size_of_repL o₂.ra
  unfold fitLen at hz
  refine list_item o₂.la.list (j := k.toNat) (by rw [ek]; unfold fitI; simp; lia) (by rw [ek]; exact seqIndex_nat h0 (by rw [hsz]; exact hlt)) hv1 ?_
  refine evS_ok O hw he rfl R S₂ fun u s₄ y₄ l₄ S₄ r₄ _ => ?_
  have rv' : Rep P s₄.heap v (dm.dv (.int a)) := rep_step S₂.inv.tabs y₄ (fun _ _ q => q) hv2
  refine wpAny_mono (wpAny_le (inplace_ok (P := P) (Q := fun x s' => Post P s₄ (dm.dv (.int c)) x s') hc (augOp_ok ho) rv' r₄ fun x s₂ z => z)) (fun x s₅ z => ?_) fun _ _ q => q
  have S₅ := S₄.step0 z.1.1 z.2
  have o₅ := o₂.keep S₂ (y₄.then z.1.1)
  refine setItem_exact o₅.la (by rw [ek]; exact h0) (by rw [ek]; lia) (by rw [ek, hsz]; exact hlt) fun h' lx' hs => ?_
  have t := updOwn (xs' := xs.set k.toNat (.int c)) (tk := s₅.toks) hl hown S₅ o₅ hs lx' (by
    rw [Array.toList_setIfInBounds, dvs_set, ek]
    exact repL_set o₅.ra z.1.2) (Nat.le_refl _)
  exact ⟨P, W, (((y₂.then y₄).then z.1.1).mono fun _ q => q.elim).trans t.1 fun b q => .inl q, .refl _ _ _, t.2⟩
theorem inter_fn (hk : env.scope.kind = .function) : interactive env = false := by unfold interactive; rw [hk]; rfl
theorem app_case {i : Nat} {p ap pc q : Pos} {e : Ix} {xs : List dm.V} {d : dm.V} (C : Cx prog w dm H tab tok r) (hl : isLoc nm i = true) (hw : e.wf nm = true) (hap : (ap.endLine == pc.line) = true) (hown : ownAt σ i = some xs) (he : ev dm tab tok N false e σ.1 = some d) (hz : xs.length ≤ fitLen)
    (R : Room r A) (S : SI dm H nm env B P W σ s) : Ok (model prog w) A (exec (.Expr (.Call (.Attribute (.Name (nmAt nm i) p) "append" ap) [e.dec nm] [] pc) q) env) (SPost dm H nm env B P W s (.next (setO σ i (xs ++ [d])))) s := by
  have O := ev_ok C N
  refine xEEA (ownAt_ok (prog := prog) (w := w) hl hown S) ?_; intro a it o go
  refine wpAny_Expr ?_ (inter_fn S.fr.view.kind) rfl
  refine method_go (T := "list") (id := "list.append") rfl (decL_all nm env pc [e]) (by simp) hap F.plainAttrs_list F.slot_list_append F.type_list_append (go _ _ _ _ ⟨o.la.ty, ?_⟩)
  refine callWith_builtin (decL_plain nm env pc [e]) (args_dec (xs := [e]) (evL_ok (vs := [d]) O R (by rw [wfL, wfL]; simpa using hw) (by simp [evL, he]) (On.start S.inv S.fr.view) fun us s₁ x₁ y₁ r₁ => ?_))
  refine r₁.c1 ?_; clear r₁; rintro v rfl q1
  have o₁ := o.keep S y₁
  refine append_exact o₁.la (by rw [size_of_repL o₁.ra, sizeLine_eq]; exact hz) fun h' lx' hs => ?_
  have t := updOwn (xs' := xs ++ [d]) (tk := s₁.toks) hl hown (S.step0 y₁ x₁.le) o₁ hs lx' (by
    rw [Array.toList_push, dvs_append]
    exact o₁.ra.append (.cons q1 .nil)) (Nat.le_refl _)
  exact ⟨P, W, (y₁.mono fun _ q => q.elim).trans t.1 fun b q => .inl q, .refl _ _ _, t.2⟩
theorem rvs_case {i : Nat} {p ap pc q : Pos} {xs : List dm.V} (hl : isLoc nm i = true) (hap : (ap.endLine == pc.line) = true) (hown : ownAt σ i = some xs) (hz : xs.length ≤ fitLen) (S : SI dm H nm env B P W σ s) :
    Ok (model prog w) A (exec (.Expr (.Call (.Attribute (.Name (nmAt nm i) p) "reverse" ap) [] [] pc) q) env) (SPost dm H nm env B P W s (.next (setO σ i xs.reverse))) s := by
  refine xEEA (ownAt_ok (prog := prog) (w := w) hl hown S) ?_; intro a it o go
  have hsz := size_of_repL o.ra
  refine wpAny_Expr ?_ (inter_fn S.fr.view.kind) rfl
  refine method_go (T := "list") (id := "list.reverse") rfl rfl (by simp) hap F.plainAttrs_list F.slot_list_reverse F.type_list_reverse (go _ _ _ _ ⟨o.la.ty, ?_⟩)
  refine callWith_builtin rfl (args_dec (nm := nm) (xs := []) (args_nil ?_))
  refine xE (id o.la) ?_; intro n ho
  refine call_meets F.slot_list_reverse ⟨_, ho, rfl⟩ F.entry_list_reverse (F.args_list_reverse_1 _) (AutoSeq1.list_reverse_list_0 a it n (by rw [hsz, sizeLine_eq]; exact hz)) ⟨ho, ?_⟩
  refine xE (mapSeq_list (fun x => x.reverse) it n) ?_; intro n' e
  have lx' : IsLx (s.heap.update a (Obj.mapSeq fun x => x.reverse)) a it.reverse := ⟨n', by show (s.heap.update a _).get? a = some _; rw [Heap.get?_update_self _ ho (by rw [e]; rfl), e]⟩
  have t := updOwn (xs' := xs.reverse) (tk := s.toks) hl hown S o (Heap.SameBut.update ..) lx' (by
    rw [Array.toList_reverse, dvs_reverse]
    exact o.ra.reverse) (Nat.le_refl _)
  exact ⟨P, W, t.1, .refl _ _ _, t.2⟩
theorem dvs_erase (xs : List dm.V) (k : Nat) : dm.dvs (xs.eraseIdx k) = (dm.dvs xs).eraseIdx k := by
  show PV.denL dm.den dm.chr _ = (PV.denL dm.den dm.chr _).eraseIdx k
  rw [PV.denL_eq, PV.denL_eq, map_erase]
theorem repL_erase {h : Heap} {ds : List DV} : ∀ {vs : List Value} {k : Nat}, RepL P h vs ds → RepL P h (vs.eraseIdx k) (ds.eraseIdx k) := by
  induction ds with
  | nil => intro vs k r; cases r.c0; exact .nil
  | cons e ds ih =>
    intro vs k r
    refine r.cc ?_; clear r; rintro u vs rfl q1 r
    cases k with
    | zero => exact r
    | succ k => exact .cons q1 (ih r)
theorem del_case {i : Nat} {p ps q : Pos} {ix : Ix} {xs : List dm.V} {kd : dm.D} {k : Int} {j : Nat} (C : Cx prog w dm H tab tok r) (hl : isLoc nm i = true) (hwi : ix.wf nm = true) (hown : ownAt σ i = some xs) (hix : ev dm tab tok N false ix σ.1 = some (.int kd))
    (hk : dm.val kd = some k) (hf : fitI k = true) (hz : xs.length ≤ fitLen) (hj : seqIndex? k xs.length = some j) (R : Room r A) (S : SI dm H nm env B P W σ s) :
    Ok (model prog w) A (exec (.Delete [.Subscript (.Name (nmAt nm i) p) (ix.dec nm) ps] q) env) (SPost dm H nm env B P W s (.next (setO σ i (xs.eraseIdx j)))) s := by
  have O := ev_ok C N
  refine xEEA (ownAt_ok (prog := prog) (w := w) hl hown S) ?_; intro a it o go
  refine wpAny_Delete (wpAny_deleteEach_cons (wpAny_delete_Subscript (go _ _ _ _ (O.go hwi hix R (On.start S.inv S.fr.view) fun iv s₁ x₁ y₁ r₁ => ?_))))
  have ek := dm.val_den _ _ hk
  (refine xE (Rep.inv r₁) ?_; clear r₁; intro zt zq; subst zq)
  have o₁ := o.keep S y₁
  have hsz := size_of_repL o₁.ra
  refine xE (id o₁.la) ?_; intro n ho
  refine xA (fitI_ok hf) ?_; intro f1 f2
  refine PySem.P.delItem_list (n := n) ho (k := j) (by rw [ek]; unfold Builtin.List.listFitsIndex; simp; lia) (by rw [ek, hsz]; exact hj) ?_ (by rw [hsz, sizeLine_eq]; exact hz)
  refine wpAny_deleteEach_nil ?_
  refine xE (mapSeq_list (fun x => x.eraseIdxIfInBounds j) it n) ?_; intro n' e
  have lx' : IsLx (s₁.heap.update a (Obj.mapSeq fun x => x.eraseIdxIfInBounds j)) a (it.eraseIdxIfInBounds j) := ⟨n', by show (s₁.heap.update a _).get? a = some _; rw [Heap.get?_update_self _ ho (by rw [e]; rfl), e]⟩
  have t := updOwn (xs' := xs.eraseIdx j) (tk := s₁.toks) hl hown (S.step0 y₁ x₁.le) o₁ (Heap.SameBut.update ..) lx' (by
    rw [Array.toList_eraseIdxIfInBounds, dvs_erase]
    exact repL_erase o₁.ra) (Nat.le_refl _)
  exact ⟨P, W, (y₁.mono fun _ q => q.elim).trans t.1 fun b q => .inl q, .refl _ _ _, t.2⟩
end
section
variable {prog : Program} {w : World} {dm : Dom} {H : Heap} {tab : Nat → List dm.V → Option dm.V} {tok : Nat → Option dm.D} {r : Nat} {A : Around} {s s' : Shared} {nm : Names} {env : Env} {P W : Addr → Prop} {σ σ' : Sg dm} {B : Nat} {N : Nat}
theorem step_next {s₁ s₂ : Shared} {W' P' : Addr → Prop} (y : Step W s s₁) (G : Grow P W s.heap.objs.size P' W') (z : Step W' s₁ s₂) : Step W s s₂ :=
  y.trans z fun b q => by
    rcases Nat.lt_or_ge b s.heap.objs.size with l | l
    · exact .inl (G.2.1 b l q)
    · exact .inr l
theorem SPost.next {o : Out dm} {s₁ s₂ : Shared} {P1 W1 : Addr → Prop} {f : Flow} (y : Step W s s₁) (G : Grow P W s.heap.objs.size P1 W1) (z : SPost dm H nm env B P1 W1 s₁ o f s₂) : SPost dm H nm env B P W s o f s₂ := by
  refine xEEAA z ?_; clear z; intro P' W' y' G' q
  exact ⟨P', W', step_next y G y', G.trans G' y.size, q⟩
theorem sxL_ok {f : St → Sg dm → Option (Out dm)} (hst : ∀ st σ o P W s, st.wf nm = true → f st σ = some o → SI dm H nm env B P W σ s → Ok (model prog w) A (exec (st.dec nm) env) (SPost dm H nm env B P W s o) s) :
    ∀ (l : List St) (σ : Sg dm) (o : Out dm) (P W : Addr → Prop) (s : Shared), wfS nm l = true → sxL f l σ = some o → SI dm H nm env B P W σ s → Ok (model prog w) A (execs (decS nm l) env) (SPost dm H nm env B P W s o) s := by
  intro l
  induction l with
  | nil => intro σ o P W s _ he S; (have zz := Option.some.inj he; clear he; subst zz); exact wpAny_execs_nil ⟨P, W, .refl _ _, .refl _ _ _, S⟩
  | cons st l ih =>
    intro σ o P W s hw he S
    have hw := and2 hw
    refine xBind he ?_; clear he; intro o1 h1 he
    refine wpAny_execs_cons ((hst st σ o1 P W s hw.1 h1 S).mono fun fl s₁ z => ?_)
    refine xEEAA z ?_; clear z; intro P' W' y G q
    cases o1 with
    | next σ' =>
      refine q.nx ?_; clear q; rintro rfl q
      exact (ih σ' o P' W' s₁ hw.2 he q).mono fun fl s₂ z => z.next y G
    | ret d =>
      (have zz := Option.some.inj he; clear he; subst zz)
      refine q.rt ?_; rintro v rfl
      exact ⟨P', W', y, G, q⟩
theorem while_ok {f : Sg dm → Option (Out dm)} {t : Ix} {b : List St} (C : Cx prog w dm H tab tok r) (R : Room r A) (ht : t.wf nm = true)
    (hb : ∀ σ o P W s, f σ = some o → SI dm H nm env B P W σ s → Ok (model prog w) A (execs (decS nm b) env) (SPost dm H nm env B P W s o) s) :
    ∀ (n : Nat) (σ : Sg dm) (o : Out dm) (P W : Addr → Prop) (s : Shared), whileL (evB (ev dm tab tok N) t) f n σ = some o → SI dm H nm env B P W σ s →
      codeAny (model prog w) A (.whileLoop (t.dec nm) (decS nm b) [] env) (fun res s' => ∃ fl, res = .ok fl ∧ SPost dm H nm env B P W s o fl s') s := by
  intro n
  induction n with
  | zero => intro σ o P W s he; exact nS he
  | succ n ihn =>
    intro σ o P W s he S
    refine xBind he ?_; clear he; intro c hc he
    refine codeAny_of_tree ?_
    show wpAny _ A ((whileTurn (t.dec nm) (decS nm b) [] env).onRaise (fun x => do noteFrame x env; theTreesLotGoes x)) _ _ s
    refine wpAny_noted ?_
    simp only [whileTurn]
    refine wpAny_bind (evB_ok (ev_ok C N) ht hc R S fun s₁ y l S₁ => ?_)
    cases c with
    | false =>
      (have zz := Option.some.inj he; clear he; subst zz)
      refine wpAny_bind (wpAny_execs_nil (wpAny_pure ?_))
      exact ⟨.next, rfl, P, W, y.mono fun _ q => q.elim, .refl _ _ _, S₁⟩
    | true =>
      refine xBind he ?_; clear he; intro o1 h1 he
      refine wpAny_bind (Ok.any ((hb σ o1 P W s₁ h1 S₁).mono fun fl s₂ z => ?_))
      refine xEEAA z ?_; clear z; intro P' W' y2 G q
      have y02 : Step W s s₂ := (y.mono fun _ q => q.elim).trans y2 fun b q => .inl q
      have G' := G.at y.size
      cases o1 with
      | next σ' =>
        refine q.nx ?_; clear q; rintro rfl q
        exact wpAny_pure ⟨rfl, codeAny_mono (ihn σ' o P' W' s₂ he q) fun res s₃ z => z.elim fun fl z => ⟨fl, z.1, z.2.next y02 G'⟩⟩
      | ret d =>
        (have zz := Option.some.inj he; clear he; subst zz)
        refine q.rt ?_; rintro v rfl
        exact wpAny_pure ⟨.ret v, rfl, P', W', y02, G', q⟩
noncomputable def ForPost (dm : Dom) (H : Heap) (nm : Names) (env : Env) (B : Nat) (P W : Addr → Prop) (I : Addr) (s : Shared) (o : Out dm) (res : Result) (s' : Shared) : Prop :=
  ∃ fl, res = .ok fl ∧ ∃ P' W', Step (fun b => W b ∨ b = I) s s' ∧ Grow P W s.heap.objs.size P' W' ∧ SFin dm H nm env B P' W' o fl s'
theorem for_ok {f : Sg dm → Option (Out dm)} {t : Tg} {b : List St} (R : Room r A) (ht : t.wf nm = true)
    (hb : ∀ σ o P W s, f σ = some o → SI dm H nm env B P W σ s → Ok (model prog w) A (execs (decS nm b) env) (SPost dm H nm env B P W s o) s)
    {I n₀ : Nat} {Pb W0 : Addr → Prop} (hIn : I < n₀) (hIH : H.objs.size ≤ I) (hPb : ∀ b : Nat, Pb b → b < I) (hPW : ∀ b : Nat, b < n₀ → W0 b → ¬ Pb b) (hWI : ¬ W0 I) (hcell : ∀ n c, (nm.lookup n = some .cell ∨ nm.lookup n = some .free) → env.cells.lookup n = some c → c ≠ I) :
    ∀ (xs : List dm.V) (σ : Sg dm) (o : Out dm) (P W : Addr → Prop) (s sb : Shared) (Wa : Addr → Prop), forL f t xs σ = some o → Nexts prog w A Pb I (dm.dvs xs) sb → Step Wa sb s → Beside Pb I sb Wa → n₀ ≤ sb.heap.objs.size → SI dm H nm env B P W σ s →
      (∀ b : Nat, b < n₀ → Pb b → P b) → (∀ b : Nat, b < n₀ → W b → W0 b) → ¬ P I →
      codeAny (model prog w) A (.forLoop (t.dec nm) (.ref I) (decS nm b) [] env) (ForPost dm H nm env B P W I s o) s := by
  intro xs
  have hh := R.handled
  induction xs with
  | nil =>
    intro σ o P W s sb Wa he nx ya ba hn S hP hW hPI
    (have zz := Option.some.inj he; clear he; subst zz)
    refine codeAny_of_tree ?_
    show wpAny _ A ((forTurn (t.dec nm) (.ref I) (decS nm b) [] env).onRaise (fun x => do noteFrame x env; theTreesLotGoes x)) _ _ s
    refine wpAny_noted ?_
    simp only [forTurn]
    refine wpAny_bind (wpAny_standAt (wpAny_bind (wpAny_onRaise (Ok.any ((nx s Wa ya ba).le.mono fun res s₁ z => ?_)))))
    refine xA z ?_; clear z; rintro ⟨rfl, y⟩ le
    refine wpAny_pure ⟨rfl, codeAny_block (wpAny_execs_nil ⟨.next, rfl, P, W, y.mono fun b q => .inl (.inr q), .refl _ _ _, ?_⟩)⟩
    exact S.beside y (S.inv.step y (fun b q => q ▸ hIH) le) (fun b p q => hPI (q ▸ p)) (fun b q e => hWI (hW I hIn (e ▸ q))) fun n c hk hc e => hcell n c hk hc e
  | cons x xs ihx =>
    intro σ o P W s sb Wa he nx ya ba hn S hP hW hPI
    refine xBind he ?_; clear he; intro σ1 h1 he
    refine xBind he ?_; clear he; intro o1 h2 he
    refine codeAny_of_tree ?_
    show wpAny _ A ((forTurn (t.dec nm) (.ref I) (decS nm b) [] env).onRaise (fun x => do noteFrame x env; theTreesLotGoes x)) _ _ s
    refine wpAny_noted ?_
    simp only [forTurn]
    refine wpAny_bind (wpAny_standAt (wpAny_bind (wpAny_onRaise (Ok.any ((nx s Wa ya ba).le.mono fun res s₁ z => ?_)))))
    refine xA z ?_; clear z; rintro ⟨v, rfl, y, rv, own, nx'⟩ le
    have S₁ : SI dm H nm env B P W σ s₁ := S.beside y (S.inv.step y (fun b q => q ▸ hIH) le) (fun b p q => hPI (q ▸ p)) (fun b q e => hWI (hW I hIn (e ▸ q))) fun n c hk hc e => hcell n c hk hc e
    have hn₁ : n₀ ≤ s₁.heap.objs.size := Nat.le_trans hn (Nat.le_trans ya.size y.size)
    refine wpAny_bind (Ok.any ((own (t.dec nm)).mono fun _ sx e => ?_))
    rw [e]
    have rv' : Rep P s₁.heap v (dm.dv x) := rv.weak fun b pb _ => hP b (Nat.lt_trans (hPb b pb) hIn) pb
    refine wpAny_bind (Ok.any ((setG_ok ht h1 hh S₁ rv').mono fun _ s₂ z => ?_))
    refine xA z ?_; clear z; intro y₂ S₂
    refine wpAny_bind (Ok.any ((hb σ1 o1 P W s₂ h2 S₂).mono fun fl s₃ z => ?_))
    refine xEEAA z ?_; clear z; intro P' W' y3 G q
    have y13 : Step W s₁ s₃ := y₂.trans y3 fun b q => .inl q
    have y03 : Step (fun b => W b ∨ b = I) s s₃ := (y.mono fun b q => .inl (.inr q)).trans y13 fun b q => .inl (.inl q)
    have hs2 : s.heap.objs.size ≤ s₂.heap.objs.size := Nat.le_trans y.size y₂.size
    have G' := G.at hs2
    cases o1 with
    | next σ' =>
      refine q.nx ?_; clear q; rintro rfl q
      · have hn2 : n₀ ≤ s₂.heap.objs.size := Nat.le_trans hn₁ y₂.size
        have be : Beside Pb I s₁ W := fun b q => ⟨fun e => hWI (hW I hIn (e ▸ q)), fun _ p => hPW b (Nat.lt_trans (hPb b p) hIn) (hW b (Nat.lt_trans (hPb b p) hIn) q) p⟩
        refine wpAny_pure ⟨rfl, codeAny_mono (ihx σ' o P' W' s₃ s₁ W he nx' y13 be hn₁ q (fun b l p => G.1 b (Nat.lt_of_lt_of_le l hn2) (hP b l p)) (fun b l w' => hW b l (G.2.1 b (Nat.lt_of_lt_of_le l hn2) w')) (fun p => (G.2.2 I (Nat.lt_of_lt_of_le hIn hn2) p).elim hPI fun w' => hWI (hW I hIn w'))) fun res s₄ z => ?_⟩
        obtain ⟨fl, rfl, P'', W'', y4, G2, q⟩ := z
        refine ⟨fl, rfl, P'', W'', y03.trans y4 fun b q => ?_, G'.trans G2 y03.size, q⟩
        rcases q with q | q
        · rcases Nat.lt_or_ge b s.heap.objs.size with l | l
          · exact .inl (.inl (G'.2.1 b l q))
          · exact .inr l
        · exact .inl (.inr q)
    | ret d =>
      (have zz := Option.some.inj he; clear he; subst zz)
      refine q.rt ?_; rintro v rfl
      exact wpAny_pure ⟨.ret v, rfl, P', W', y03, G', q⟩
end
section
variable {prog : Program} {w : World} {dm : Dom} {H : Heap} {tab : Nat → List dm.V → Option dm.V} {tok : Nat → Option dm.D} {r : Nat} {A : Around} {nm : Names} {env : Env} {B : Nat} {N : Nat}
theorem st_ok {wf : Nat} {sxr : List St → Sg dm → Option (Out dm)} (C : Cx prog w dm H tab tok r) (R : Room r A)
    (hsx : ∀ l σ o P W s, wfS nm l = true → sxr l σ = some o → SI dm H nm env B P W σ s → Ok (model prog w) A (execs (decS nm l) env) (SPost dm H nm env B P W s o) s) :
    ∀ (st : St) (σ : Sg dm) (o : Out dm) (P W : Addr → Prop) (s : Shared), st.wf nm = true → sxStep (ev dm tab tok N) wf sxr st σ = some o → SI dm H nm env B P W σ s →
      Ok (model prog w) A (exec (st.dec nm) env) (SPost dm H nm env B P W s o) s := by
  intro st σ o P W s hw he S
  cases st with
  | asg i p e q =>
    replace hw := and2 hw
    refine xBind he ?_; clear he; intro x h1 he
    refine xMap he ?_; clear he; rintro σ2 h2 rfl
    exact evA_ok C hw.1 hw.2 h1 R S h2
  | own i p e q =>
    replace hw := and3 hw
    refine xBind he ?_; clear he; intro d h1 he
    refine oL_i he ?_; clear he; rintro d rfl he
    refine ifS he fun hf he => ?_
    (have zz := Option.some.inj he; clear he; subst zz)
    exact own_case C hw.1.1 hw.1.2 hw.2 h1 hf R S
  | own2 i1 p1 i2 p2 k pt e1 e2 k2 pe q =>
    replace hw := and3 hw
    have ha := and3 hw.1.1
    have hb := and3 ha.1.1
    refine xBind he ?_; clear he; intro d1 h1 he
    refine xBind he ?_; clear he; intro d2 h2 he
    refine oL_i he ?_; clear he; rintro d1 rfl he
    refine oL_i he ?_; clear he; rintro d2 rfl he
    refine ifS he fun hf he => ?_
    (have zz := Option.some.inj he; clear he; subst zz)
    exact own2_case C (and2 hb.1.1).1 (and2 hb.1.1).2 hb.1.2 hb.2 ha.1.2 ha.2 hw.2 hw.1.2 h1 h2 (and2 hf).1 (and2 hf).2 R S
  | asgT is k pt es k2 pe q =>
    replace hw := and2 hw
    refine xBind he ?_; clear he; intro vs h1 he
    refine ifS he fun hf he => ?_
    have hf := and3 hf
    refine xMap he ?_; clear he; rintro ρ' h2 rfl
    exact asgT_case C hw.2 hw.1 h1 hf.1.1 (of_decide_eq_true hf.1.2) h2 R S
  | unp is k pt e q =>
    replace hw := and3 hw
    refine xBind he ?_; clear he; intro x h1 he
    refine xMap he ?_; clear he; rintro σ2 h2 rfl
    exact unp_case C hw.1.1 hw.1.2 hw.2 h1 h2 R S
  | aug i p op e q =>
    replace hw := and3 hw
    refine xBind he ?_; clear he; intro a h1 he
    refine xBind he ?_; clear he; intro x h2 he
    refine oI_i he ?_; clear he; rintro a rfl he
    refine oI_i he ?_; clear he; intro b hb he
    refine ifS he fun ho he => ?_
    refine xBind he ?_; clear he; intro c h3 he
    refine xMap he ?_; clear he; rintro σ2 h4 rfl
    exact aug_case C hw.1.1 hw.1.2 hw.2 h1 (h2.trans (congrArg (fun d => some (d, x.2)) hb)) ho h3 h4 R S
  | augI i p ix ps op e q =>
    replace hw := and3 hw
    refine xBind he ?_; clear he; intro xs h1 he
    refine xBind he ?_; clear he; intro y h2 he
    refine oI_i he ?_; clear he; intro kd hkd he
    refine xBind he ?_; clear he; intro k h3 he
    refine ifS he fun hk he => ?_
    have hk := and3 hk
    refine xBind he ?_; clear he; intro a h4 he
    refine xBind he ?_; clear he; intro x h5 he
    refine oI_i he ?_; clear he; rintro a rfl he
    refine oI_i he ?_; clear he; intro b hb he
    refine ifS he fun ho he => ?_
    refine xMap he ?_; clear he; rintro c h6 rfl
    exact augI_case C hw.1.1 hw.1.2 hw.2 h1 (h2.trans (congrArg (fun d => some (d, y.2)) hkd)) h3 (of_decide_eq_true hk.1.1) (of_decide_eq_true hk.1.2) (of_decide_eq_true hk.2) h4 (h5.trans (congrArg (fun d => some (d, x.2)) hb)) ho h6 R S
  | app i p ap e pc q =>
    replace hw := and3 hw
    refine xBind he ?_; clear he; intro xs h1 he
    refine xBind he ?_; clear he; intro d h2 he
    refine ifS he fun hz he => ?_
    (have zz := Option.some.inj he; clear he; subst zz)
    exact app_case C hw.1.1 hw.1.2 hw.2 h1 h2 hz R S
  | rvs i p ap pc q =>
    replace hw := and2 hw
    refine xBind he ?_; clear he; intro xs h1 he
    refine ifS he fun hz he => ?_
    (have zz := Option.some.inj he; clear he; subst zz)
    exact rvs_case hw.1 hw.2 h1 hz S
  | del i p ix ps q =>
    replace hw := and2 hw
    refine xBind he ?_; clear he; intro xs h1 he
    refine xBind he ?_; clear he; intro y h2 he
    refine oI_i he ?_; clear he; rintro kd rfl he
    refine xBind he ?_; clear he; intro k h3 he
    refine ifS he fun hk he => ?_
    have hk := and2 hk
    refine xMap he ?_; clear he; rintro j h4 rfl
    exact del_case C hw.1 hw.2 h1 h2 h3 hk.1 (of_decide_eq_true hk.2) h4 R S
  | ite t a b q =>
    replace hw := and3 hw
    refine xBind he ?_; clear he; intro c h1 he
    refine wpAny_If (evB_ok (ev_ok C N) hw.1.1 h1 R S fun s₁ y l S₁ => ?_)
    have G : Grow P W s.heap.objs.size P W := .refl _ _ _
    cases c with
    | true =>
      exact (hsx a σ o P W s₁ hw.1.2 he S₁).mono fun fl s₂ z => z.next (y.mono fun _ q => q.elim) G
    | false =>
      exact (hsx b σ o P W s₁ hw.2 he S₁).mono fun fl s₂ z => z.next (y.mono fun _ q => q.elim) G
  | whl t b q =>
    replace hw := and2 hw
    refine wpAny_While (codeAny_mono (while_ok C R hw.1 (fun σ o P W s h S => hsx b σ o P W s hw.2 h S) wf σ o P W s he S) fun res s' z => ?_)
    refine xEA z ?_; clear z; rintro fl rfl z
    exact z
  | «for» t it b q =>
    replace hw := and3 hw
    refine xBind he ?_; clear he; intro x h1 he
    refine wpAny_For (evI_ok C (ev_ok C N) hw.1.2 h1 R S fun v s₁ P' W' y l G S' hx => ?_) (fun x => dec_noFold _ _ _ _)
    refine Ok.any ((hx A R.handled).le.mono fun it' s₂ z => ?_)
    refine xA z ?_; clear z; rintro ⟨y₂, I, rfl, hI, hIlt, its⟩ l₂
    obtain ⟨J, eJ⟩ : ∃ n : Nat, n = I := ⟨I, rfl⟩
    subst eJ
    have y02 := y.then y₂
    have S₂ := S'.less y02 (l.trans l₂) hI hIlt
    have its := its (fun b => P' b ∧ b < J) (fun b lb pb => ⟨pb, lb⟩) (fun q => Nat.lt_irrefl _ q.2)
    have hWI : ¬ W' J := fun q => absurd (S'.wlt J q) (Nat.not_lt.mpr hI)
    have hc : ∀ n c, (nm.lookup n = some .cell ∨ nm.lookup n = some .free) → env.cells.lookup n = some c → c ≠ J := fun n c hk hc => by
      obtain ⟨c', cv, a, ic, _⟩ := S'.fr.view.cell n hk
      rw [hc] at a; (have zz := Option.some.inj a; clear a; subst zz)
      exact Nat.ne_of_lt (Nat.lt_of_lt_of_le ic.lt hI)
    have loop := for_ok (o := o) (n₀ := s₂.heap.objs.size) (Pb := fun b => P' b ∧ b < J) (W0 := W') R hw.1.1 (fun σ o P W s h S => hsx b σ o P W s hw.2 h S) hIlt (Nat.le_trans S.inv.size hI) (fun b p => p.2) (fun b _ q p => S'.fr.disj b p.1 q) hWI hc
      x.1 x.2 (fun b => P' b ∧ b ≠ J) W' s₂ s₂ none' he (its.next A R.handled) (.refl _ _) (fun _ q => q.elim) (Nat.le_refl _) S₂ (fun b _ p => ⟨p.1, Nat.ne_of_lt p.2⟩) (fun b _ q => q) (fun q => q.2 rfl)
    refine codeAny_mono loop fun res s₃ z => ?_
    obtain ⟨fl, rfl, P2, W2, y3, G3, q⟩ := z
    have Gs : Grow P' W' s.heap.objs.size (fun b => P' b ∧ b ≠ J) W' := ⟨fun b l p => ⟨p, Nat.ne_of_lt (Nat.lt_of_lt_of_le l hI)⟩, fun _ _ q => q, fun _ _ q => .inl q.1⟩
    refine ⟨P2, W2, ?_, (G.trans Gs (Nat.le_refl _)).trans G3 y02.size, q⟩
    refine ((y02.mono fun _ q => q.elim).trans (W := fun b => W' b ∨ b = J) y3 fun b q => .inl q).mono fun b q => ?_
    rcases q with q | q
    · rcases Nat.lt_or_ge b s.heap.objs.size with l | l
      · exact .inl (G.2.1 b l q)
      · exact .inr l
    · exact .inr (by rw [show b = J from q]; exact hI)
  | ret e q =>
    refine xMap he ?_; clear he; rintro x h1 rfl
    refine wpAny_Return_some (evX_ok (ev_ok C N) hw h1 R S fun v s₁ P' W' y l G S' rv => ?_)
    exact ⟨P', W', y.mono fun _ q => q.elim, G, S'.inv, rv⟩
  | asrt t q =>
    refine xBind he ?_; clear he; intro c h1 he
    cases c with
    | false => exact nS he
    | true =>
      (have zz := Option.some.inj he; clear he; subst zz)
      exact wpAny_Assert R.handled (evB_ok (ev_ok C N) hw h1 R S fun s₁ y l S₁ => ⟨P, W, y.mono fun _ q => q.elim, .refl _ _ _, S₁⟩)
  | any x => exact nS he
theorem sx_ok {wf : Nat} (C : Cx prog w dm H tab tok r) (R : Room r A) : ∀ (n : Nat) (l : List St) (σ : Sg dm) (o : Out dm) (P W : Addr → Prop) (s : Shared), wfS nm l = true → sx (ev dm tab tok N) wf n l σ = some o → SI dm H nm env B P W σ s →
    Ok (model prog w) A (execs (decS nm l) env) (SPost dm H nm env B P W s o) s
  | 0, l, σ, o, P, W, s, _, he, _ => nS he
  | n + 1, l, σ, o, P, W, s, hw, he, S => sxL_ok (st_ok C R (sx_ok C R n)) l σ o P W s hw he S
end
theorem look_some {α : Type} {x : Str} {d : α} {nm : Names} : ∀ {ρ : List (Option α)}, look nm ρ x = some d → ∃ (i : Nat) (k : NameKind), nm[i]? = some (x, k) ∧ (ρ[i]?).join = some d := by
  induction nm with
  | nil => intro _ e; exact nS e
  | cons n nm ih =>
    intro ρ e
    cases ρ with
    | nil => exact nS e
    | cons o ρ =>
      by_cases q : n.1 = x
      · exact ⟨0, n.2, by rw [← q]; rfl, (if_pos q).symm.trans e⟩
      · refine xEEA (ih ((if_neg q).symm.trans e)) ?_; intro i k' h1 h2
        exact ⟨i + 1, k', h1, h2⟩
theorem bindL_other {kindOf : Str → Option NameKind} {x : Str} {ps : List Str} : ∀ {vs : List Value} {base : Str → Option Value}, x ∉ ps → bindL kindOf (ps.zip vs) base x = base x := by
  induction ps with
  | nil => intro _ _ _; rfl
  | cons p ps ih =>
    intro vs base h
    cases vs with
    | nil => rfl
    | cons v vs =>
      rw [List.mem_cons, not_or] at h
      rw [List.zip_cons_cons, bindL, ih h.2]
      split
      · exact if_neg h.1
      · rfl
theorem bindC_other {kindOf : Str → Option NameKind} {x : Str} {ps : List Str} : ∀ {vs : List Value} {base : Str → Option Value}, x ∉ ps → bindC kindOf (ps.zip vs) base x = base x := by
  induction ps with
  | nil => intro _ _ _; rfl
  | cons p ps ih =>
    intro vs base h
    cases vs with
    | nil => rfl
    | cons v vs =>
      rw [List.mem_cons, not_or] at h
      rw [List.zip_cons_cons, bindC, ih h.2]
      split
      · rfl
      · exact if_neg h.1
theorem bind_at {kindOf : Str → Option NameKind} {x : Str} {v : Value} {ps : List Str} : ∀ {vs : List Value} {base base' : Str → Option Value} {i : Nat}, ps.Nodup → ps[i]? = some x → vs[i]? = some v → (kindOf x = some .local → bindL kindOf (ps.zip vs) base x = some v) ∧ (kindOf x ≠ some .local → bindC kindOf (ps.zip vs) base' x = some v) := by
  induction ps with
  | nil => intro vs base base' i _ e; exact nS e
  | cons p ps ih =>
    intro vs base base' i hd e1 e2
    have hd := List.nodup_cons.mp hd
    cases vs with
    | nil => exact nS e2
    | cons u vs =>
      rw [List.zip_cons_cons, bindL, bindC]
      cases i with
      | succ i => exact ih hd.2 e1 e2
      | zero =>
        cases Option.some.inj e1
        cases Option.some.inj e2
        rw [bindL_other hd.1, bindC_other hd.1]
        exact ⟨fun hk => by rw [if_pos hk]; exact if_pos rfl, fun hk => by rw [if_neg hk]; exact if_pos rfl⟩
structure FnOk (H : Heap) (a : Addr) (fd : FuncData) (nm : Names) (np : Nat) (l : List St) : Prop where
  obj : ∃ o, o.data = .func fd ∧ a ≠ T1 ∧ a ≠ T2 ∧ H.get? a = some o
  code : ∀ s, Inv H s → s.heap.CodeRec fd.code fd.qualname
  names : fd.scope.names = nm
  kind : fd.scope.kind = .function
  co : fd.scope.isCoroutine = false
  gen : fd.scope.isGenerator = false
  clo : fd.closure = []
  glob : fd.globals = mainGlobals
  blt : fd.builtins = builtinsNs
  body : fd.body = .stmts (decS nm l)
  bind : ∀ vs : List Value, vs.length = np → bindArgs fd ⟨vs, []⟩ = pure (((nm.take np).map (·.1)).zip vs)
  nodup : (nm.map (·.1)).Nodup
  kinds : (nm.take np).all (fun x => x.2 == .local || x.2 == .cell) = true
  npl : np ≤ nm.length
  noFree : ∀ x, nm.lookup x ≠ some .free
  wf : wfS nm l = true
noncomputable def sg0 (dm : Dom) (nm : Names) (xs : List dm.V) : Sg dm := (xs.map some ++ List.replicate (nm.length - xs.length) none, List.replicate nm.length none)
noncomputable def retV {dm : Dom} (o : Option (Out dm)) : Option dm.V := o.bind fun o => match o with | .ret d => some d | .next _ => none
theorem retV_i {dm : Dom} {o : Option (Out dm)} {d : dm.V} (e : retV o = some d) : o = some (.ret d) :=
  xBind e fun o' h e => by cases o' with | next => exact nS e | ret d' => rw [h, Option.some.inj e]
noncomputable def runF {dm : Dom} (evn : Ev dm) (wf n : Nat) (nm : Names) (np : Nat) (l : List St) (xs : List dm.V) : Option dm.V :=
  if xs.length = np then retV (sx evn wf n l (sg0 dm nm xs)) else none
section
variable {prog : Program} {w : World} {dm : Dom} {H : Heap} {tab : Nat → List dm.V → Option dm.V} {tok : Nat → Option dm.D} {r : Nat} {N : Nat}
theorem lt_depth {A : Around} (R : Room (r + 1) A) : A.depth < recursionLimit := by have := R.depth; lia
theorem UserOk.mono {r r' : Nat} {f : Nat} {F : List dm.V → Option dm.V} (x : UserOk prog w dm H r f F) (h : r ≤ r') : UserOk prog w dm H r' f F := by
  refine xEAA x.ok ?_; intro a G ho k
  exact ⟨a, G, ho, fun xs d he A s P vs R I hf q => k xs d he A s P vs (R.le h) I hf q⟩
noncomputable def EnvNew (prog : Program) (w : World) (a : Addr) (fd : FuncData) (binds : List (Str × Value)) (s : Shared) : Prop :=
  ∀ (A : Around) (E : Value → Shared → Prop) (Q : Env → Shared → Prop), (∀ s', InCallC s (callEnvC fd s.heap.objs.size a).locals (bindL (callEnvC fd s.heap.objs.size a).kindOf binds fun _ => none) (callEnvC fd s.heap.objs.size a).cells (bindC (callEnvC fd s.heap.objs.size a).kindOf binds fun _ => none) s' → LeS s s' → 1 ≤ s'.toks → Q (callEnvC fd s.heap.objs.size a) s') →
    wpAny (model prog w) A (newFunctionEnv fd.scope fd.globals [] binds (fd.qualname ++ ".<locals>.") (some a) fd.code none fd.builtins) Q E s
theorem call_core {a : Addr} {fd : FuncData} {nm : Names} {np : Nat} {l : List St} (run : Sg dm → Out dm → Prop) (K : FnOk H a fd nm np l) {xs : List dm.V} {d : dm.V} (hlen : xs.length = np) (hrun : run (sg0 dm nm xs) (.ret d))
    (hR : ∀ (A : Around) (env : Env) (B : Nat) (P W : Addr → Prop) (s : Shared) (σ : Sg dm) (o : Out dm), (env.code = fd.code ∧ env.qual = fd.qualname ++ ".<locals>." ∧ env.cells = cellsFrom (B + 1) nm []) → Room r A → run σ o → SI dm H nm env B P W σ s → Ok (model prog w) A (execs (decS nm l) env) (SPost dm H nm env B P W s o) s)
    {A : Around} {s : Shared} {P : Addr → Prop} {vs : List Value} (R : Room (r + 1) A) (I : Inv H { s with toks := s.toks + 1 }) (hlim : s.heap.NoLimit) (hcd : s.heap.CodeRec fd.code fd.qualname) (hf : ∀ b, s.heap.objs.size ≤ b → P b) (q : RepL P s.heap vs (dm.dvs xs)) (hnew : EnvNew prog w a fd (((nm.take np).map (·.1)).zip vs) s) :
    Ok (model prog w) A (call (.ref a) vs) (Post P s (dm.dv d)) s := by
  refine xEAAA K.obj ?_; intro o hd hT1 hT2 ho
  have hobj : s.heap.get? a = some o := I.keep a o hT1 hT2 ho
  have hvl : vs.length = np := by rw [← hlen, q.length]; exact denL_length _ _ _
  have hpn : ((nm.take np).map (·.1)).Nodup := by
    have := K.nodup
    rw [← List.take_append_drop np nm, List.map_append] at this
    exact (List.nodup_append.mp this).1
  have hps : ((nm.take np).map (·.1)).length = np := by rw [List.length_map, List.length_take]; exact Nat.min_eq_left K.npl
  have pk : ∀ i x k, i < np → nm[i]? = some (x, k) → (k = .local ∨ k = .cell) := fun i x k hi hx => by
    have := List.all_eq_true.mp K.kinds (x, k) (List.mem_of_getElem? (i := i) (by rw [List.getElem?_take, if_pos hi]; exact hx))
    simpa using this
  refine wpAny_call (codeAny_call_function (lt_depth R) hobj hd K.co K.gen K.body hcd ?_)
  rw [K.bind vs hvl, K.clo]
  refine wpAny_pure (hnew _ _ _ fun s₁ ic le htk => ?_)
  refine ⟨hlim.keeps ic.toInCall.keep, codeAny_func ?_⟩
  refine xEE ic.toInCall.same ?_; intro h₁ tk₁ e₁
  have y₁ : Step none' s s₁ := by rw [e₁] at le ic ⊢; exact Step.grown ic.toInCall.keep le.2
  have I₁ : Inv H s₁ := ⟨fun b o n1 n2 e => y₁.keep b o (fun q => q) n1 n2 (I.keep b o n1 n2 e), Nat.le_trans I.size y₁.size, y₁.tabs I.tabs, y₁.bare I.bare, htk⟩
  have zy0 := y₁.size
  have hker : ∀ x, (callEnvC fd s.heap.objs.size a).kindOf x = nm.lookup x := fun x => by
    show fd.scope.names.lookup x = _
    rw [K.names]
  have hcells : (callEnvC fd s.heap.objs.size a).cells = cellsFrom (s.heap.objs.size + 1) nm [] := by
    show cellsFrom (s.heap.objs.size + 1) fd.scope.names [] = _
    rw [K.names]
  have hloc : (callEnvC fd s.heap.objs.size a).locals = s.heap.objs.size := rfl
  have hcode : (callEnvC fd s.heap.objs.size a).code = fd.code := rfl
  have hqual : (callEnvC fd s.heap.objs.size a).qual = fd.qualname ++ ".<locals>." := rfl
  generalize hL : s.heap.objs.size = L at *
  generalize hEnv : callEnvC fd L a = env at *
  have hkind : env.scope.kind = .function := hEnv ▸ K.kind
  have hglob : env.globals = mainGlobals := hEnv ▸ K.glob
  have hblt : env.builtins = builtinsNs := hEnv ▸ K.blt
  have Llt : L < s₁.heap.objs.size := hloc ▸ ic.toInCall.ns.lt
  have cin : ∀ {x : Str} {c : Nat}, env.cells.lookup x = some c → (x, c) ∈ env.cells ∧ L < c ∧ c < s₁.heap.objs.size := fun h => ⟨mem_of_lookup h, by have := ic.above _ _ (mem_of_lookup h); rw [hloc] at this; exact this, (ic.cell _ _ h).lt⟩
  let W : Addr → Prop := fun b => b = L ∨ ∃ x, env.cells.lookup x = some b
  have WL : ∀ b : Nat, W b → L ≤ b ∧ b < s₁.heap.objs.size := fun b q => by
    rcases q with q | ⟨x, q⟩
    · have q : b = L := q
      lia
    · have := cin q; lia
  let P' : Addr → Prop := fun b => P b ∧ ¬ W b
  have old : ∀ b : Nat, b < L → P b → P' b := fun b l p => ⟨p, fun q => by have := WL b q; lia⟩
  have q1 : RepL P' s₁.heap vs (dm.dvs xs) := repL_step (s := s) I.tabs y₁ (fun _ _ z => z) (q.weak fun b p l => old b (hL ▸ l) p)
  have arg : ∀ {x : Str} {d : DV}, denR dm nm (sg0 dm nm xs).1 x = some d → ∃ (i : Nat) (k : NameKind) (v : Value), nm[i]? = some (x, k) ∧ i < np ∧ vs[i]? = some v ∧ Rep P' s₁.heap v d := fun {x d} h => by
    unfold denR at h
    refine xMap h ?_; rintro d' h1 rfl
    refine xEEA (look_some h1) ?_; intro i k h2 h3
    unfold sg0 at h3
    dsimp only at h3
    have hi : i < xs.length := by
      rcases Nat.lt_or_ge i xs.length with l | l
      · exact l
      · rw [List.getElem?_append_right (by simpa using l), List.getElem?_replicate] at h3
        split at h3 <;> exact nS h3
    rw [List.getElem?_append_left (by simpa using hi), List.getElem?_map] at h3
    have hx : xs[i]? = some d' := by
      cases e : xs[i]? with
      | none => rw [e] at h3; exact nS h3
      | some d2 => rw [e] at h3; (have zz := Option.some.inj h3; clear h3; subst zz); rfl
    have : (dm.dvs xs)[i]? = some (dm.dv d') := by
      show (PV.denL dm.den dm.chr xs)[i]? = _
      rw [denL_get, hx]; rfl
    refine xEA (q1.get this) ?_; intro v e1 e2
    exact ⟨i, k, v, h2, hlen ▸ hi, e1, e2⟩
  have noO : ∀ {xs' : List DV} (x : Str), denO dm nm (sg0 dm nm xs).2 x ≠ some xs' := fun x e => by
    unfold denO at e
    refine xMap e ?_; intro d' h1 _
    refine xEEA (look_some h1) ?_; intro i k _ h3
    unfold sg0 at h3
    dsimp only at h3
    rw [List.getElem?_replicate] at h3
    split at h3 <;> exact nS h3
  have psAt : ∀ {i : Nat} {x : Str} {k : NameKind}, nm[i]? = some (x, k) → i < np → ((nm.take np).map (·.1))[i]? = some x := fun {i x k} h hi => by
    rw [List.getElem?_map, List.getElem?_take, if_pos hi, h]; rfl
  have V : View nm env P' (denR dm nm (sg0 dm nm xs).1) s₁.heap := by
    refine ⟨hkind, hglob, hblt, fun x k h => .inl (by rw [hker]; exact h), fun x d hd hk => ?_, fun x hk => ?_, fun b hb => ⟨hf b (Nat.le_trans zy0 hb), fun q => by have := WL b q; lia⟩, fun x y c hx hy => name_of_addr ic.apart (cin hx).1 (cin hy).1, K.nodup⟩
    · obtain ⟨i, k, v, h1, hi, h2, h3⟩ := arg hd
      exact ⟨_, v, ic.toInCall.ns, (bind_at (base' := fun _ => none) hpn (psAt h1 hi) h2).1 (by rw [hker]; exact hk), h3⟩
    · rcases hk with hk | hk
      · refine xE (cellsFrom_has nm (L + 1) (mem_of_lookup hk)) ?_; intro c hc
        rw [← hcells] at hc
        refine ⟨c, _, hc, ic.cell x c hc, fun d hd => ?_⟩
        obtain ⟨i, k, v, h1, hi, h2, h3⟩ := arg hd
        exact ⟨v, (bind_at (base := fun _ => none) hpn (psAt h1 hi) h2).2 (by rw [hker, hk]; exact fun q => nomatch q), h3⟩
      · exact absurd hk (K.noFree x)
  have S : SI dm H nm env L P' W (sg0 dm nm xs) s₁ := by
    refine ⟨I₁, ⟨V, fun b p => p.2, fun b q => (WL b q).1, .inl hloc, ⟨_, ic.toInCall.ns⟩, fun x c _ _ hc => .inr ⟨x, hc⟩, (fun x xs' e => ?_), (fun x y xs' ys' m a' e => ?_)⟩, hL ▸ I.size, ?_, fun b q => (WL b q).2⟩
    · exact absurd e (noO x)
    · exact absurd e (noO x)
    · unfold sg0; simp; rw [hlen]; have := K.npl; lia
  refine wpAny_mono (hR (A.deeper env) env L P' W s₁ _ _ ⟨hcode, hqual, hcells⟩ (R.deeper env) hrun S) (fun fl s₂ z => ?_) fun _ _ z => z.elim
  refine xEEAA z ?_; clear z; intro P2 W2 y2 G2 z
  refine z.rt ?_; rintro v rfl
  · refine ⟨(y₁.mono fun _ q => q.elim : Step W s s₁).trans y2 (fun b q => .inl q) |>.mono fun b q => .inr (by rw [hL]; exact (WL b q).1), z.2.weak fun b p _ => ?_⟩
    rcases Nat.lt_or_ge b s₁.heap.objs.size with l | l
    · rcases G2.2.2 b l p with p | p
      · exact p.1
      · exact hf b (WL b p).1
    · exact hf b (Nat.le_trans zy0 l)
theorem fun_core {a : Addr} {fd : FuncData} {nm : Names} {np : Nat} {l : List St} {f : Nat} {F : List dm.V → Option dm.V} (run : Sg dm → Out dm → Prop) (K : FnOk H a fd nm np l) (hG : GlobIs H (ufName f) (.ref a))
    (hF : ∀ xs d, F xs = some d → xs.length = np ∧ run (sg0 dm nm xs) (.ret d))
    (hR : ∀ (A : Around) (env : Env) (B : Nat) (P W : Addr → Prop) (s : Shared) (σ : Sg dm) (o : Out dm), (env.code = fd.code ∧ env.qual = fd.qualname ++ ".<locals>." ∧ env.cells = cellsFrom (B + 1) nm []) → Room r A → run σ o → SI dm H nm env B P W σ s → Ok (model prog w) A (execs (decS nm l) env) (SPost dm H nm env B P W s o) s) :
    UserOk prog w dm H (r + 1) f F := by
  refine xEAAA K.obj ?_; intro o hd hT1 hT2 ho
  refine ⟨a, hG, ⟨o, fd, hd, fun s I => I.keep a o hT1 hT2 ho⟩, fun xs d he A s P vs R I hf q => ?_⟩
  refine xA (hF xs d he) ?_; intro hlen hrun
  refine xEEA hG ?_; clear hG; intro mg mb G _
  refine call_core run K hlen hrun hR R ⟨I.keep, I.size, I.tabs, I.bare, Nat.le_add_left 1 _⟩ (I.lim G) (K.code s I) hf q fun A E Q hQ => ?_
  have hz : ∀ y, y ∈ ((nm.take np).map (·.1)).zip vs → nm.lookup y.1 = some .local ∨ nm.lookup y.1 = some .cell := fun y hy => by
    obtain ⟨x, v⟩ := y
    have hm := List.of_mem_zip hy
    refine xEA (List.mem_map.mp hm.1) ?_; rintro ⟨x', k⟩ hm' e
    dsimp only at e
    subst e
    have := List.all_eq_true.mp K.kinds _ hm'
    have hl := mem_lookup K.nodup (List.mem_of_mem_take hm')
    simp only [Bool.or_eq_true, beq_iff_eq] at this
    rcases this with rfl | rfl
    · exact .inl hl
    · exact .inr hl
  refine wpAny_mono (Q := fun env s' => (env = callEnvC fd s.heap.objs.size a ∧ InCallC s env.locals (bindL env.kindOf (((nm.take np).map (·.1)).zip vs) fun _ => none) env.cells (bindC env.kindOf (((nm.take np).map (·.1)).zip vs) fun _ => none) s') ∧ LeS s s') (wpAny_le (wpAny_newFunctionEnv_cells K.kind ?_ fun env he s' x => ⟨he, x⟩)) (fun env s₁ z => ?_) fun _ _ z => z
  · intro x hx
    rw [K.names]
    rcases hz x hx with h | h
    · exact .inl h
    · refine xE (cellsFrom_has nm (s.heap.objs.size + 1) (mem_of_lookup h)) ?_; intro c hc
      exact .inr ⟨h, by rw [hc]; rfl⟩
  · refine xA z ?_; clear z; rintro ⟨rfl, ic⟩ le
    exact hQ _ ic le (Nat.le_trans I.toks le.1)
theorem fun_ok {a : Addr} {fd : FuncData} {nm : Names} {np : Nat} {l : List St} {f wf n : Nat} (C : Cx prog w dm H tab tok r) (K : FnOk H a fd nm np l) (hG : GlobIs H (ufName f) (.ref a)) :
    UserOk prog w dm H (r + 1) f (runF (ev dm tab tok N) wf n nm np l) := by
  refine fun_core (fun σ o => sx (ev dm tab tok N) wf n l σ = some o) K hG (fun xs d he => ?_) fun A env B P W s σ o _ R he S => sx_ok C R n l _ _ P W s K.wf he S
  exact ifS he fun hlen he => ⟨hlen, retV_i he⟩
end
noncomputable def mask (g : Nat) (s : Shared) : Shared := s.setGen g .finished
theorem bare_set {s : Shared} {g : Nat} {x : GenState} (h : AllBare s.gens) (hx : x.bare = true) : AllBare (s.setGen g x).gens := by
  intro y hy
  unfold Shared.setGen at hy
  rcases Array.mem_or_eq_of_mem_setIfInBounds hy with h1 | h1
  · exact h y h1
  · exact h1 ▸ hx
theorem gens_size {W : Addr → Prop} {s s' : Shared} (y : Step W s s') : s.gens.size ≤ s'.gens.size := by
  rcases Nat.lt_or_ge s'.gens.size s.gens.size with h | h
  · have := y.gens s'.gens.size _ (Array.getElem?_eq_getElem h)
    simp at this
  · exact h
theorem mask_size (g : Nat) (s : Shared) : (mask g s).gens.size = s.gens.size := by simp [mask, Shared.setGen]
theorem mask_ne {g i : Nat} {s : Shared} (h : i ≠ g) : (mask g s).gens[i]? = s.gens[i]? := by simp [mask, Shared.setGen, Ne.symm h]
theorem mask_at {g : Nat} {s : Shared} (h : g < s.gens.size) : (mask g s).gens[g]? = some .finished := by simp [mask, Shared.setGen, h]
theorem mask_set (g : Nat) (s : Shared) (x : GenState) : mask g (s.setGen g x) = mask g s := by
  unfold mask Shared.setGen
  simp
theorem Step.mask {W : Addr → Prop} {s s' : Shared} {g : Nat} (y : Step W s s') (hb : AllBare s'.gens) (hg : g < s.gens.size) : Step W (mask g s) (mask g s') := by
  refine ⟨y.keep, y.size, y.tabs, y.off, fun i x e => ?_, fun _ => bare_set hb rfl, y.os⟩
  by_cases q : i = g
  · subst q
    rw [mask_at hg] at e
    rw [mask_at (Nat.lt_of_lt_of_le hg (gens_size y))]
    exact e
  · rw [mask_ne q] at e ⊢
    exact y.gens i x e
theorem step_unmask {W0 W1 W : Addr → Prop} {s s₁ s' : Shared} {g : Nat} (y : Step W0 s s₁) (z : Step W1 (mask g s₁) (mask g s')) (hg : s.gens.size ≤ g) (hb : AllBare s'.gens) (h0 : ∀ b, W0 b → W b ∨ s.heap.objs.size ≤ b) (h1 : ∀ b, W1 b → W b ∨ s.heap.objs.size ≤ b) : Step W s s' := by
  refine ⟨fun b o n1 n2 n3 e => ?_, Nat.le_trans y.size z.size, fun t => z.tabs (y.tabs t), fun I l t o => z.off I (Nat.lt_of_lt_of_le l y.size) (y.tabs t) (y.off I l t o), fun i x e => ?_, fun _ => hb, z.os.trans y.os⟩
  · have hl := Heap.lt_size e
    exact z.keep b o (fun q => (h1 b q).elim n1 fun l => absurd hl (Nat.not_lt.mpr l)) n2 n3 (y.keep b o (fun q => (h0 b q).elim n1 fun l => absurd hl (Nat.not_lt.mpr l)) n2 n3 e)
  · have hi : i < s.gens.size := by
      rcases Nat.lt_or_ge i s.gens.size with h | h
      · exact h
      · rw [Array.getElem?_eq_none h] at e; exact nS e
    have q : i ≠ g := by lia
    have := z.gens i x (by rw [mask_ne q]; exact y.gens i x e)
    rwa [mask_ne q] at this
theorem Inv.mask {H : Heap} {s : Shared} {g : Nat} (I : Inv H s) : Inv H (mask g s) := ⟨I.keep, I.size, I.tabs, bare_set I.bare rfl, I.toks⟩
theorem Inv.unmask {H : Heap} {s : Shared} {g : Nat} (I : Inv H (Mine.mask g s)) (h : AllBare s.gens) : Inv H s := ⟨I.keep, I.size, I.tabs, h, I.toks⟩
theorem Inv.setGen {H : Heap} {s : Shared} {g : Nat} {x : GenState} (I : Inv H s) (hx : x.bare = true) : Inv H (s.setGen g x) := ⟨I.keep, I.size, I.tabs, bare_set I.bare hx, I.toks⟩
theorem Inv.gstep {H : Heap} {s s' : Shared} {g : Nat} {W : Addr → Prop} (I : Inv H s) (y : Step W (Mine.mask g s) (Mine.mask g s')) (hW : ∀ b, W b → H.objs.size ≤ b) (hb : AllBare s'.gens) (l : LeS s s') : Inv H s' := by
  exact ((I.mask (g := g)).step y hW l).unmask hb
section
variable {prog : Program} {w : World} {dm : Dom} {H : Heap} {tab : Nat → List dm.V → Option dm.V} {tok : Nat → Option dm.D} {r : Nat} {A : Around} {s s' : Shared} {nm : Names} {env : Env} {P W : Addr → Prop} {σ σ' : Sg dm} {B : Nat} {N : Nat}
theorem SI.here (S : SI dm H nm env B P W σ s) (I' : Inv H s') (e : s'.heap = s.heap) : SI dm H nm env B P W σ s' :=
  ⟨I', e ▸ S.fr, S.hB, S.len, e ▸ S.wlt⟩
theorem SI.lessZ {Z : Addr → Prop} (S : SI dm H nm env B P W σ s) (h : ∀ b, Z b → s.heap.objs.size ≤ b ∨ ¬ P b) (y : Step none' s s') (I' : Inv H s') (hZ : ∀ b : Nat, Z b → b < s'.heap.objs.size) : SI dm H nm env B (fun b => P b ∧ ¬ Z b) W σ s' := by
  have V := S.fr.view
  have key : ∀ {v d}, Rep P s.heap v d → Rep (fun b => P b ∧ ¬ Z b) s'.heap v d := fun q => rep_step S.inv.tabs y (fun _ _ q => q) (q.weak fun b pb lb => ⟨pb, fun z => (h b z).elim (fun l => absurd lb (Nat.not_lt.mpr l)) fun n => n pb⟩)
  have keyL : ∀ {v d}, RepL P s.heap v d → RepL (fun b => P b ∧ ¬ Z b) s'.heap v d := fun q => repL_step S.inv.tabs y (fun _ _ q => q) (q.weak fun b pb lb => ⟨pb, fun z => (h b z).elim (fun l => absurd lb (Nat.not_lt.mpr l)) fun n => n pb⟩)
  refine ⟨I', { S.fr with
    view := { V with
      loc := fun y' d hd hk => let ⟨m, v, a, b, c⟩ := V.loc y' d hd hk; ⟨m, v, ns_step S.inv.tabs y id a, b, key c⟩
      cell := fun y' hk => let ⟨c, cv, a, b, q⟩ := V.cell y' hk; ⟨c, cv, a, cell_step S.inv.tabs y id b, fun d hd => let ⟨v, e, z⟩ := q d hd; ⟨v, e, key z⟩⟩
      fresh := fun b hb => ⟨V.fresh b (Nat.le_trans y.size hb), fun z => absurd (hZ b z) (Nat.not_lt.mpr hb)⟩ }
    disj := fun b q => S.fr.disj b q.1
    ns := let ⟨m, n⟩ := S.fr.ns; ⟨m, ns_step S.inv.tabs y id n⟩
    own := fun y' xs hy => let ⟨a, b, m, c, items, n, e, w, l, q⟩ := S.fr.own y' xs hy
      ⟨a, b, m, c, items, ns_step S.inv.tabs y id n, e, w, lx_step S.inv.tabs y id l, keyL q⟩
    ownInj := (S.fr.step0 S.inv.tabs y).ownInj }, S.hB, S.len, fun b q => Nat.lt_of_lt_of_le (S.wlt b q) y.size⟩
noncomputable def GNexts (prog : Program) (w : World) (H : Heap) (A : Around) (g : Nat) (I : Addr) : List DV → (Addr → Prop) → Shared → Prop
  | [], Z, s₀ => ∀ s W, Step W s₀ s → (∀ b, W b → ¬ Z b) → Inv H s → Ok (model prog w) A (pyNext (.ref I)) (fun r s' => r = none ∧ Step Z (mask g s) (mask g s') ∧ AllBare s'.gens) s
  | d :: ds, Z, s₀ => ∀ s W, Step W s₀ s → (∀ b, W b → ¬ Z b) → Inv H s → Ok (model prog w) A (pyNext (.ref I)) (fun r s' => ∃ (v : Value) (Z' : Addr → Prop), r = some v ∧ (∀ b, Z b → Z' b) ∧ (∀ b : Nat, Z' b → Z b ∨ (s.heap.objs.size ≤ b ∧ b < s'.heap.objs.size)) ∧
      Step Z (mask g s) (mask g s') ∧ AllBare s'.gens ∧ Rep (fun b => s.heap.objs.size ≤ b ∧ ¬ Z' b) s'.heap v d ∧ (∀ t : Expr, Ok (model prog w) A (letOwnedTupleGo t (.ref I) v) (fun _ s'' => s'' = s') s') ∧ GNexts prog w H A g I ds Z' s') s
theorem step_le_mask {W : Addr → Prop} {g : Nat} (y : Step W (mask g s) (mask g s')) : s.gens.size ≤ s'.gens.size := by
  have := gens_size y; rwa [mask_size, mask_size] at this
noncomputable def GPost (dm : Dom) (H : Heap) (nm : Names) (env : Env) (B : Nat) (P W Z : Addr → Prop) (g : Nat) (s : Shared) (o : Out dm) (res : Result) (s' : Shared) : Prop :=
  ∃ fl, res = .ok fl ∧ AllBare s'.gens ∧ ∃ (P' W' Z' : Addr → Prop), (∀ b : Nat, Z' b → Z b ∨ s.heap.objs.size ≤ b) ∧ Step (fun b => W b ∨ Z b) (mask g s) (mask g s') ∧ Grow P W s.heap.objs.size P' W' ∧ SFin dm H nm env B P' W' o fl s'
theorem forG_ok {f : Sg dm → Option (Out dm)} {t : Tg} {b : List St} (R : Room r A) (ht : t.wf nm = true)
    (hb : ∀ σ o P W s, f σ = some o → SI dm H nm env B P W σ s → Ok (model prog w) A (execs (decS nm b) env) (SPost dm H nm env B P W s o) s) {g I : Nat} :
    ∀ (xs : List dm.V) (σ : Sg dm) (o : Out dm) (P W Z : Addr → Prop) (s sb : Shared) (Wa : Addr → Prop), forL f t xs σ = some o → GNexts prog w H A g I (dm.dvs xs) Z sb → Step Wa sb s → (∀ b, Wa b → ¬ Z b) → g < s.gens.size → SI dm H nm env B P W σ s →
      (∀ b, P b → ¬ Z b) → (∀ b, W b → ¬ Z b) → (∀ n c, (nm.lookup n = some .cell ∨ nm.lookup n = some .free) → env.cells.lookup n = some c → ¬ Z c ∧ c < s.heap.objs.size) → (∀ b : Nat, Z b → H.objs.size ≤ b ∧ b < s.heap.objs.size) →
      codeAny (model prog w) A (.forLoop (t.dec nm) (.ref I) (decS nm b) [] env) (GPost dm H nm env B P W Z g s o) s := by
  intro xs
  have hh := R.handled
  induction xs with
  | nil =>
    intro σ o P W Z s sb Wa he nx ya ba hg S hP hW hC hZ
    (have zz := Option.some.inj he; clear he; subst zz)
    refine codeAny_of_tree ?_
    show wpAny _ A ((forTurn (t.dec nm) (.ref I) (decS nm b) [] env).onRaise (fun x => do noteFrame x env; theTreesLotGoes x)) _ _ s
    refine wpAny_noted ?_
    simp only [forTurn]
    refine wpAny_bind (wpAny_standAt (wpAny_bind (wpAny_onRaise (Ok.any ((nx s Wa ya ba S.inv).le.mono fun res s₁ z => ?_)))))
    refine xA z ?_; clear z; rintro ⟨rfl, y, hbare⟩ le
    have I₁ := S.inv.gstep y (fun b q => (hZ b q).1) hbare le
    have S₁ : SI dm H nm env B P W σ s₁ := ((S.here (S.inv.mask (g := g)) rfl).beside y I₁.mask hP hW fun n c hk hc => (hC n c hk hc).1).here I₁ rfl
    refine wpAny_pure ⟨rfl, codeAny_block (wpAny_execs_nil ⟨.next, rfl, hbare, P, W, Z, fun _ q => .inl q, y.mono fun b q => .inl (.inr q), .refl _ _ _, S₁⟩)⟩
  | cons x xs ihx =>
    intro σ o P W Z s sb Wa he nx ya ba hg S hP hW hC hZ
    refine xBind he ?_; clear he; intro σ1 h1 he
    refine xBind he ?_; clear he; intro o1 h2 he
    refine codeAny_of_tree ?_
    show wpAny _ A ((forTurn (t.dec nm) (.ref I) (decS nm b) [] env).onRaise (fun x => do noteFrame x env; theTreesLotGoes x)) _ _ s
    refine wpAny_noted ?_
    simp only [forTurn]
    refine wpAny_bind (wpAny_standAt (wpAny_bind (wpAny_onRaise (Ok.any ((nx s Wa ya ba S.inv).le.mono fun res s₁ z => ?_)))))
    refine xA z ?_; clear z; rintro ⟨v, Z', rfl, hZ1, hZ2, y, hbare, rv, own, nx'⟩ le
    have I₁ := S.inv.gstep y (fun b q => (hZ b q).1) hbare le
    have S₁' : SI dm H nm env B P W σ s₁ := ((S.here (S.inv.mask (g := g)) rfl).beside y I₁.mask hP hW fun n c hk hc => (hC n c hk hc).1).here I₁ rfl
    have hZl : ∀ b : Nat, Z' b → b < s₁.heap.objs.size := fun b q => (hZ2 b q).elim (fun q => Nat.lt_of_lt_of_le (hZ b q).2 le.2) fun q => q.2
    have hg₁ : g < s₁.gens.size := Nat.lt_of_lt_of_le hg (step_le_mask y)
    -- what is new of the generator is none of ours
    have S₁ : SI dm H nm env B (fun b => P b ∧ ¬ Z' b) W σ s₁ := by
      have V := S.fr.view
      have S0 := (S.here (S.inv.mask (g := g)) rfl)
      have hPZ : ∀ b, P b → b < s.heap.objs.size → ¬ Z' b := fun b p l q => (hZ2 b q).elim (fun z => hP b p z) fun z => absurd l (Nat.not_lt.mpr z.1)
      have key : ∀ {v d}, Rep P s.heap v d → Rep (fun b => P b ∧ ¬ Z' b) s₁.heap v d := fun q => rep_step (s := mask g s) (s' := mask g s₁) S.inv.tabs y (fun b p => hP b p.1) (q.weak fun b pb lb => ⟨pb, hPZ b pb lb⟩)
      have keyL : ∀ {v d}, RepL P s.heap v d → RepL (fun b => P b ∧ ¬ Z' b) s₁.heap v d := fun q => repL_step (s := mask g s) (s' := mask g s₁) S.inv.tabs y (fun b p => hP b p.1) (q.weak fun b pb lb => ⟨pb, hPZ b pb lb⟩)
      have F₁ := S₁'.fr
      refine ⟨I₁, { F₁ with
        view := { F₁.view with
          loc := fun y' d hd hk => let ⟨m, v, a, b, c⟩ := V.loc y' d hd hk; ⟨m, v, ns_step (s := mask g s) (s' := mask g s₁) S.inv.tabs y (hW _ S.fr.wl) a, b, key c⟩
          cell := fun y' hk => let ⟨c, cv, a, b, q⟩ := V.cell y' hk; ⟨c, cv, a, cell_step (s := mask g s) (s' := mask g s₁) S.inv.tabs y (hC _ _ hk a).1 b, fun d hd => let ⟨v, e, z⟩ := q d hd; ⟨v, e, key z⟩⟩
          fresh := fun b hb => ⟨F₁.view.fresh b hb, fun z => absurd (hZl b z) (Nat.not_lt.mpr hb)⟩ }
        disj := fun b q => F₁.disj b q.1
        own := fun y' xs hy => let ⟨a, b, m, c, items, n, e, w, l, q⟩ := S.fr.own y' xs hy
          ⟨a, b, m, c, items, ns_step (s := mask g s) (s' := mask g s₁) S.inv.tabs y (hW _ S.fr.wl) n, e, w, lx_step (s := mask g s) (s' := mask g s₁) S.inv.tabs y (hW _ w) l, keyL q⟩ }, S₁'.hB, S₁'.len, S₁'.wlt⟩
    have hWZ : ∀ b : Nat, W b → ¬ Z' b := fun b q z => (hZ2 b z).elim (hW b q) fun z => absurd (S.wlt b q) (Nat.not_lt.mpr z.1)
    refine wpAny_bind (Ok.any ((own (t.dec nm)).mono fun _ sx e => ?_))
    rw [e]
    have rv' : Rep (fun b => P b ∧ ¬ Z' b) s₁.heap v (dm.dv x) := rv.weak fun b pb _ => ⟨S.fr.view.fresh b pb.1, pb.2⟩
    refine wpAny_bind (Ok.any ((setG_ok ht h1 hh S₁ rv').mono fun _ s₂ z => ?_))
    refine xA z ?_; clear z; intro y₂ S₂
    refine wpAny_bind (Ok.any ((hb σ1 o1 _ W s₂ h2 S₂).mono fun fl s₃ z => ?_))
    refine xEEAA z ?_; clear z; intro P' W' y3 G q
    have y13 : Step W s₁ s₃ := y₂.trans y3 fun b q => .inl q
    have hb₃ : AllBare s₃.gens := y13.bare hbare
    have y03 : Step (fun b => W b ∨ Z b) (mask g s) (mask g s₃) := (y.mono fun b q => .inl (.inr q)).trans (y13.mask hb₃ hg₁) fun b q => .inl (.inl q)
    have hs2 : s.heap.objs.size ≤ s₂.heap.objs.size := Nat.le_trans le.2 y₂.size
    have hPs : ∀ b : Nat, b < s.heap.objs.size → P b → P b ∧ ¬ Z' b := fun b l p => ⟨p, fun q => (hZ2 b q).elim (hP b p) fun z => absurd l (Nat.not_lt.mpr z.1)⟩
    have G' : Grow P W s.heap.objs.size P' W' := ⟨fun b l p => G.1 b (Nat.lt_of_lt_of_le l hs2) (hPs b l p), fun b l => G.2.1 b (Nat.lt_of_lt_of_le l hs2), fun b l p => (G.2.2 b (Nat.lt_of_lt_of_le l hs2) p).imp (fun z => z.1) id⟩
    cases o1 with
    | next σ' =>
      refine q.nx ?_; clear q; rintro rfl q
      · have hs23 : s₁.heap.objs.size ≤ s₂.heap.objs.size := y₂.size
        have hZ3 : ∀ b : Nat, Z' b → H.objs.size ≤ b ∧ b < s₃.heap.objs.size := fun b q => ⟨(hZ2 b q).elim (fun z => (hZ b z).1) fun z => Nat.le_trans S.inv.size z.1, Nat.lt_of_lt_of_le (hZl b q) y13.size⟩
        have hP3 : ∀ b, P' b → ¬ Z' b := fun b p z => by
          have l : b < s₂.heap.objs.size := Nat.lt_of_lt_of_le (hZl b z) hs23
          exact (G.2.2 b l p).elim (fun q => q.2 z) fun q => hWZ b q z
        have hW3 : ∀ b, W' b → ¬ Z' b := fun b p z => by
          have l : b < s₂.heap.objs.size := Nat.lt_of_lt_of_le (hZl b z) hs23
          exact hWZ b (G.2.1 b l p) z
        refine wpAny_pure ⟨rfl, codeAny_mono (ihx σ' o P' W' Z' s₃ s₁ W he nx' y13 hWZ (Nat.lt_of_lt_of_le hg₁ (gens_size y13)) q hP3 hW3 (fun n c hk hc => ?_) hZ3) fun res s₄ z => ?_⟩
        · refine xA (hC n c hk hc) ?_; intro h3 h4
          exact ⟨fun z => (hZ2 c z).elim h3 fun z => absurd h4 (Nat.not_lt.mpr z.1), Nat.lt_of_lt_of_le h4 y03.size⟩
        obtain ⟨fl, rfl, hb4, P'', W'', Z'', hZ4, y4, G2, q⟩ := z
        refine ⟨fl, rfl, hb4, P'', W'', Z'', fun b q => ?_, y03.trans y4 fun b q => ?_, G'.trans G2 y03.size, q⟩
        · rcases hZ4 b q with q | q
          · exact (hZ2 b q).imp id fun z => z.1
          · exact .inr (Nat.le_trans y03.size q)
        · rcases q with q | q
          · rcases Nat.lt_or_ge b s.heap.objs.size with l | l
            · exact .inl (.inl (G'.2.1 b l q))
            · exact .inr l
          · exact (hZ2 b q).imp .inr fun z => z.1
    | ret d =>
      (have zz := Option.some.inj he; clear he; subst zz)
      refine q.rt ?_; rintro v rfl
      exact wpAny_pure ⟨.ret v, rfl, hb₃, P', W', Z, fun _ q => .inl q, y03, G', q⟩
end
section
variable {M : Model} {A : Around} {R : GenEnd} {Y : Protocol} {n : Nat} {s₀ : Shared} {c : Code} {fs : List PySem.Frame} {s : Shared} {env : Env} {K : Flow → Sem Fin} {H : Value → Sem Fin} {gd : Bool → Bool} {lv : List Value → List Value}
theorem seg_If {test : Expr} {body orelse : List Stmt} {pos : Pos}
    (h : Ok M (A.over c fs) (isTrue test env (eval test env)) (fun b s' => Seg M A R Y n s₀ c ((if b = true then execs body env else execs orelse env).wrap K H gd lv) fs s') s) :
    Seg M A R Y n s₀ c ((exec (.If test body orelse pos) env).wrap K H gd lv) fs s := by
  rw [exec_If]
  exact seg_bind_wrap (wpAny_standAt (seg_bind_wrap (Ok.any h)))
noncomputable abbrev ownK (K : Flow → Sem Fin) (H : Value → Sem Fin) (gd : Bool → Bool) (lv : List Value → List Value) (env : Env) : Result → Sem Fin := fun r =>
  ((match r with | .ok f => (.pure f : Sem Flow) | .error e => .raise e).onRaise fun (x : Value) => do
        if (← field x 1) == Value.none then unsupported "frame.own-activation:exception-without-traceback"
        setFlight x env.frame).wrap K H gd lv
theorem seg_For {target iter : Expr} {body orelse : List Stmt} {pos : Pos}
    (h : Ok M (A.over c fs) (eval iter env) (fun x s₁ => Ok M (A.over c fs) (pyIter x) (fun it s₂ => ∀ p, Seg M A R Y n s₀ (.forLoop target it body orelse env) (M.den (.forLoop target it body orelse env))
      (.ret (ownK K H gd lv env) none (gd false) (lv []) c p [] :: fs) s₂) s₁) s)
    (hs : ∀ x, foldedSetIterable iter env x = pure x := by intro _; rfl) : Seg M A R Y n s₀ c ((exec (.For target iter body orelse pos) env).wrap K H gd lv) fs s := by
  rw [exec_For]
  refine seg_bind_wrap (wpAny_standAt (seg_bind_wrap (Ok.any (h.mono fun x s₁ h₁ => ?_))))
  refine seg_bind_wrap (wpAny_of_eq (hs x) (seg_bind_wrap (wpAny_standAt (seg_bind_wrap (wpAny_holding (Ok.any (h₁.mono fun it s₂ h₂ => ?_)))))))
  exact seg_call h₂
end
section
variable {prog : Program} {w : World} {A : Around} {R : GenEnd} {Y : Protocol} {n : Nat} {s₀ : Shared} {fs : List PySem.Frame} {s : Shared} {env : Env}
noncomputable abbrev loopH (env : Env) : Value → Sem Fin := fun e => (do noteFrame e env; theTreesLotGoes e : Sem Unit).wrap (fun _ => .raise e) .raise id id
noncomputable abbrev loopK (c : Code) : Flow → Sem Fin := fun f => match f with
  | .next | .cont => .pure (.again c)
  | .brk => .pure (.done .next)
  | .ret v => .pure (.done (.ret v))
theorem seg_forLoop {target : Expr} {it : Value} {body : List Stmt}
    (h : Ok (model prog w) (A.over (.forLoop target it body [] env) fs) (pyNext it) (fun r s₁ => match r with
      | none => Seg (model prog w) A R Y n s₀ (.forLoop target it body [] env) (.pure (.again (.block [] env))) fs s₁
      | some v => Ok (model prog w) (A.over (.forLoop target it body [] env) fs) (letOwnedTupleGo target it v) (fun _ s₂ => Ok (model prog w) (A.over (.forLoop target it body [] env) fs) (assign target env v) (fun _ s₃ =>
          Seg (model prog w) A R Y n s₀ (.forLoop target it body [] env) ((execs body env).wrap (loopK (.forLoop target it body [] env)) (loopH env) id id) fs s₃) s₂) s₁) s) :
    Seg (model prog w) A R Y n s₀ (.forLoop target it body [] env) ((model prog w).den (.forLoop target it body [] env)) fs s := by
  show Seg _ A R Y n s₀ _ ((forTurn target it body [] env).onRaise (fun x => do noteFrame x env; theTreesLotGoes x)) fs s
  unfold forTurn
  rw [Sem.onRaise_eq_wrap]
  refine seg_bind_wrap (wpAny_standAt (seg_bind_wrap (wpAny_onRaise (Ok.any (h.mono fun r s₁ h₁ => ?_)))))
  cases r with
  | none => exact h₁
  | some v =>
    refine seg_bind_wrap (Ok.any (h₁.mono fun _ s₂ h₂ => ?_))
    refine seg_bind_wrap (Ok.any (h₂.mono fun _ s₃ h₃ => ?_))
    rw [Sem.bind_eq_wrap', Sem.wrap_wrap]
    rw [Sem.wrap_congr (execs body env) _ _ (K' := loopK (.forLoop target it body [] env)) (H' := loopH env) (fun f => by cases f <;> rfl)
      (fun e => by first | exact Sem.bind_eq_wrap _ _ | (show (do noteFrame e env; theTreesLotGoes e : Sem Unit).bind (fun _ => .raise e) = _; rw [Sem.bind_eq_wrap]))]
    exact h₃
theorem seg_block_nil {k : Result → Sem Fin} {h : Option Value} {g : Bool} {l : List Value} {c₁ : Code} {p₁ : Pos} {kp : List Value} (hk : Seg (model prog w) A R Y n s₀ c₁ (k (.ok .next)) fs s) :
    Seg (model prog w) A R Y n s₀ (.block [] env) ((model prog w).den (.block [] env)) (.ret k h g l c₁ p₁ kp :: fs) s :=
  seg_leaf (.ok .next) hk
theorem pyNext_gen {E : Value → Shared → Prop} {a : Addr} {g n : Nat} {gs : GenState} {P : Nat → Shared → Shared → Prop} {Y : Protocol} {Q : Option Value → Shared → Prop} (hh : A.handled = none)
    (hl : s.heap.NoLimit) (hroom : A.depth < recursionLimit) (hg : s.heap.IsGen a g) (hgs : s.gens[g]? = some gs)
    (hgo : gs.Goes (model prog w) A.in1 (fun n s₀ r s₁ => r = .ok (.ret .none) ∧ P n s₀ s₁) Y n (.send .none) (s.setGen g .running))
    (hY : ∀ v s₁ gs', gs'.bare = true → Y (n - 1) (s.setGen g .running) v s₁ (fun r' s'' => match n with
        | 0 => False
        | m + 1 => gs'.Goes (model prog w) A.in1 (fun n s₀ r s₁ => r = .ok (.ret .none) ∧ P n s₀ s₁) Y m r' s'') → Q (some v) (s₁.setGen g gs'))
    (hP : ∀ s₁, P n (s.setGen g .running) s₁ → ∀ h', (∀ b o, s₁.heap.get? b = some o → h'.get? b = some o) → s₁.heap.objs.size ≤ h'.objs.size → Q none { s₁.setGen g .finished with heap := h' }) :
    wpAny (model prog w) A (pyNext (.ref a)) Q E s := by
  unfold pyNext
  refine wpAny_bind (wpAny_attempt (wpAny_callSpecial?_slot (name := Str.ofString "__next__") hg.typeIs slot_gen_next
    (wpAny_call_entry slot_gen_next hg.typeIs entry_gen_next ?_ (args_gen_next _))))
  show wpAny _ A.in1 (Builtin.Generator.genWake (.ref a) (.send .none)) _ _ s
  unfold Builtin.Generator.genWake
  refine wpAny_bind (wpAny_holding (wpAny_genNumber hg (wpAny_bind (wpAny_genState hgs ?_))))
  cases gs with
  | running => exact hgo.elim
  | finished => exact hgo.elim
  | _ =>
    refine wpAny_bind (wpAny_roomToWake hl hroom ?_)
    show wpAny _ A.in1 (.resume g (.send .none) [] _) _ _ s
    refine wpAny_resumeQ hgs hgo (fun x s₁ hx => ?_) (fun v s₁ gs' hb hv => ?_)
    · refine xA hx ?_; clear hx; rintro rfl hp
      show wpAny _ A.in1 (newExc (.type "StopIteration") [] >>= _) _ _ _
      refine wpAny_bind ?_
      simp only [newExc, newTuple]
      refine wpAny_bind (wpAny_newObj_type ?_ (by size_fits))
      refine wpAny_bind (m := firstArgMember _ _) (wpAny_of_eq (a := Value.none) (by first | rfl | (simp only [firstArgMember]; rfl)) ?_)
      refine wpAny_newObj_type ?_ (by size_fits)
      simp only [raiseNew]
      refine wpAny_bind (wpAny_bind (wpAny_handled ?_))
      first | rw [show A.in1.handled = none from hh] | rw [hh]
      refine wpAny_throw ?_
      refine wpAny_bind (wpAny_isInstance (T := "StopIteration") (b := true) ⟨_, Heap.get?_push_size _ rfl, rfl⟩ isSubtype_stop ?_)
      exact wpAny_pure (hP s₁ hp _ (fun b o hb => Heap.get?_push_of_some _ (Heap.get?_push_of_some _ hb)) (by rw [Heap.size_push, Heap.size_push]; show s₁.heap.objs.size ≤ _; exact Nat.le_succ_of_le (Nat.le_succ _)))
    · exact wpAny_pure ⟨v, rfl, wpAny_pure (hY v s₁ gs' hb hv)⟩
end
noncomputable def nm_iec : Names := [("addr", .«local»), ("pos", .«local»), ("escape", .«local»), ("ch", .«local»), ("enumerate", .globalImplicit)]
noncomputable def iec_i1 : St := .asg 1 ⟨108, 4, 108, 7⟩ (.int 0 0 ⟨108, 10, 108, 11⟩) ⟨108, 4, 108, 11⟩
noncomputable def iec_i2 : St := .asg 2 ⟨109, 4, 109, 10⟩ (.bool false 0 ⟨109, 13, 109, 18⟩) ⟨109, 4, 109, 18⟩
noncomputable def iec_s1 : St := .asg 2 ⟨113, 12, 113, 18⟩ (.bool false 0 ⟨113, 21, 113, 26⟩) ⟨113, 12, 113, 26⟩
noncomputable def iec_s2 : St := .asg 2 ⟨115, 12, 115, 18⟩ (.bool true 0 ⟨115, 21, 115, 25⟩) ⟨115, 12, 115, 25⟩
noncomputable def iec_t1 : Ix := (.var 2 ⟨111, 11, 111, 17⟩)
noncomputable def iec_y1 : Ix := (.tup [(.var 1 ⟨112, 19, 112, 22⟩), (.bin (.str [92] 0 ⟨112, 24, 112, 28⟩) .Add (.var 3 ⟨112, 31, 112, 33⟩) ⟨112, 24, 112, 33⟩)] 0 ⟨112, 18, 112, 34⟩)
noncomputable def iec_t2 : Ix := (.cmp (.var 3 ⟨114, 13, 114, 15⟩) .Eq (.str [92] 0 ⟨114, 19, 114, 23⟩) ⟨114, 13, 114, 23⟩)
noncomputable def iec_y2 : Ix := (.tup [(.var 1 ⟨117, 19, 117, 22⟩), (.var 3 ⟨117, 24, 117, 26⟩)] 0 ⟨117, 18, 117, 27⟩)
noncomputable def iec_t3 : Ix := (.var 2 ⟨118, 7, 118, 13⟩)
noncomputable def iec_y3 : Ix := (.tup [(.var 1 ⟨119, 15, 119, 18⟩), (.str [92] 0 ⟨119, 20, 119, 24⟩)] 0 ⟨119, 14, 119, 25⟩)
noncomputable def iec_tg : Tg := (.many [(1, ⟨110, 8, 110, 11⟩), (3, ⟨110, 13, 110, 15⟩)] 0 ⟨110, 8, 110, 15⟩)
noncomputable def iec_it : Expr := .Call (.Name "enumerate" ⟨110, 19, 110, 28⟩) [.Name "addr" ⟨110, 29, 110, 33⟩] [] ⟨110, 19, 110, 34⟩
noncomputable def iec_lb : List Stmt := [.If (iec_t1.dec nm_iec) [.Expr (.Yield (some (iec_y1.dec nm_iec)) ⟨112, 12, 112, 34⟩) ⟨112, 12, 112, 34⟩, iec_s1.dec nm_iec] [.If (iec_t2.dec nm_iec) [iec_s2.dec nm_iec] [.Expr (.Yield (some (iec_y2.dec nm_iec)) ⟨117, 12, 117, 27⟩) ⟨117, 12, 117, 27⟩] ⟨114, 8, 117, 27⟩] ⟨111, 8, 117, 27⟩]
noncomputable def iec_fin : Stmt := .If (iec_t3.dec nm_iec) [.Expr (.Yield (some (iec_y3.dec nm_iec)) ⟨119, 8, 119, 25⟩) ⟨119, 8, 119, 25⟩] [] ⟨118, 4, 119, 25⟩
noncomputable def iec_for : Stmt := .For (iec_tg.dec nm_iec) iec_it iec_lb [] ⟨110, 4, 117, 27⟩
noncomputable def iec_body : List Stmt := [iec_i1.dec nm_iec, iec_i2.dec nm_iec, iec_for, iec_fin]
noncomputable def escGo (esc : Bool) (i : Nat) : List Nat → List DV
  | [] => if esc then [.tuple [.int ((i : Int) - 1), .str [92]]] else []
  | c :: r => if esc then .tuple [.int i, .str [92, c]] :: escGo false (i + 1) r else if c = 92 then escGo true (i + 1) r else .tuple [.int i, .str [c]] :: escGo false (i + 1) r
theorem denD (d : DV) : intDom.dv d = d := PV.den_id d
structure GI (H : Heap) (C : Addr) (ρ : List (Option intDom.V)) (s : Shared) : Prop where
  inv : Inv H s
  ns : ∃ m, s.heap.Ns C m ∧ ∀ x d, denR intDom nm_iec ρ x = some d → ∃ v, m x = some v ∧ ∀ P h, Rep P h v d
structure GEnv (env : Env) (C : Addr) : Prop where
  kind : env.scope.kind = .function
  glob : env.globals = mainGlobals
  blt : env.builtins = builtinsNs
  loc : env.locals = C
  names : ∀ x k, nm_iec.lookup x = some k → env.kindOf x = some k
  cells : env.cells = []
  co : env.scope.isCoroutine = false
noncomputable abbrev none5 : List (Option (List intDom.V)) := [none, none, none, none, none]
theorem none5_o (x : Str) : denO intDom nm_iec none5 x = none := by
  unfold denO
  cases q : look nm_iec none5 x with
  | none => rfl
  | some d =>
    refine xEEA (look_some q) ?_; intro i k _ h
    exfalso
    have : (none5[i]?).join = none := by
      match i with
      | 0 | 1 | 2 | 3 | 4 => rfl
      | _ + 5 => rfl
    rw [this] at h; exact nS h
theorem iec_noCell {x : Str} (h : nm_iec.lookup x = some .cell ∨ nm_iec.lookup x = some .free) : False := by
  have key : ∀ k, nm_iec.lookup x = some k → k = .local ∨ k = .globalImplicit := fun k h => by
    have := mem_of_lookup h
    simp [nm_iec] at this
    rcases this with ⟨_, rfl⟩ | ⟨_, rfl⟩ | ⟨_, rfl⟩ | ⟨_, rfl⟩ | ⟨_, rfl⟩ <;> simp
  rcases h with h | h
  · rcases key _ h with q | q <;> cases q
  · rcases key _ h with q | q <;> cases q
section
variable {prog : Program} {w : World} {H : Heap} {tab : Nat → List intDom.V → Option intDom.V} {tok : Nat → Option intDom.D} {r : Nat} {A : Around} {s s' : Shared} {env : Env} {C : Nat} {ρ ρ' : List (Option intDom.V)} {N : Nat}
theorem ns_tab {h : Heap} {C : Addr} {m : Str → Option Value} (T : Tabs h) (n : h.Ns C m) : C ≠ T1 ∧ C ≠ T2 := by
  refine xEEEAA n ?_; clear n; intro o es ep ho hd _
  exact T.ne ho (fun vs q => by rw [hd] at q; cases q)
theorem GI.si {P : Addr → Prop} (G : GI H C ρ s) (V : GEnv env C) (hC : H.objs.size ≤ C) (hl : ρ.length = 5) (hf : ∀ b : Nat, s.heap.objs.size ≤ b → P b) (hP : ¬ P C) : SI intDom H nm_iec env C P (fun b => b = C) (ρ, none5) s := by
  refine xEA G.ns ?_; intro m n hm
  refine ⟨G.inv, ⟨⟨V.kind, V.glob, V.blt, fun x k h => .inl (V.names x k h), fun x d hd _ => ?_, fun x h => (iec_noCell h).elim, hf, (fun x y c h => by rw [V.cells] at h; exact nS h), by decide⟩, fun b p q => hP (q ▸ p), fun b q => Nat.le_of_eq (show b = C from q).symm, V.loc, ⟨m, V.loc ▸ n⟩, fun x c _ h => (iec_noCell (.inl h)).elim, fun x xs h => ?_, fun x y xs ys m a h => ?_⟩, hC, hl, fun b q => by rw [show b = C from q]; exact n.lt⟩
  · refine xEA (hm x d hd) ?_; intro v e q
    exact ⟨m, v, V.loc ▸ n, e, q _ _⟩
  · rw [show ((ρ, none5) : Sg intDom).2 = none5 from rfl, none5_o] at h; exact nS h
  · rw [show ((ρ, none5) : Sg intDom).2 = none5 from rfl, none5_o] at h; exact nS h
theorem scal_all {P : Addr → Prop} {h : Heap} {d : intDom.V} {v : Value} (hs : scal d = true) (q : Rep P h v (intDom.dv d)) : ∀ P' h', Rep P' h' v (intDom.dv d) := by
  intro P' h'
  cases d with
  | none => (have zq : _ = _ := Rep.inv q; clear q; subst zq); exact .none
  | bool b => (have zq : _ = _ := Rep.inv q; clear q; subst zq); exact .bool b
  | int i => (refine xE (Rep.inv q) ?_; clear q; intro zt zq; subst zq); exact .int _ _
  | str x => (refine xE (Rep.inv q) ?_; clear q; intro zt zq; subst zq); exact .str _ _
  | tuple xs => exact bF hs
  | list xs => exact bF hs
  | arr xs => exact bF hs
theorem GI.of {P W : Addr → Prop} (S : SI intDom H nm_iec env C P W (ρ, none5) s) (V : GEnv env C) (h4 : (ρ[4]?).join = none) (hs : ∀ d, some d ∈ ρ → scal d = true) : GI H C ρ s := by
  refine xE S.fr.ns ?_; intro m n
  refine ⟨S.inv, m, V.loc ▸ n, fun x d hd => ?_⟩
  have hd' := hd
  unfold denR at hd
  refine xMap hd ?_; rintro d' h1 rfl
  refine xEEA (look_some h1) ?_; intro i k h2 h3
  have hk : k = .local := by
    match i, h2, h3 with
    | 0, h2, _ => simp [nm_iec] at h2; exact h2.2.symm
    | 1, h2, _ => simp [nm_iec] at h2; exact h2.2.symm
    | 2, h2, _ => simp [nm_iec] at h2; exact h2.2.symm
    | 3, h2, _ => simp [nm_iec] at h2; exact h2.2.symm
    | 4, _, h3 => rw [h4] at h3; exact nS h3
    | _ + 5, h2, _ => simp [nm_iec] at h2
  subst hk
  obtain ⟨m', v, n', e, q⟩ := S.fr.view.loc x _ hd' (by rw [lookup_at (by decide) h2])
  have : m' x = m x := n'.agree n x
  refine ⟨v, by rw [← this]; exact e, scal_all (hs d' ?_) q⟩
  cases hi : ρ[i]? with
  | none => rw [hi] at h3; exact nS h3
  | some o => rw [hi] at h3; cases o with
    | none => exact nS h3
    | some d2 => (have zz := Option.some.inj h3; clear h3; subst zz); exact List.mem_of_getElem? hi
theorem GI.far (G : GI H C ρ s) (I : Inv H s') (k : ∀ o, s.heap.get? C = some o → s'.heap.get? C = some o) : GI H C ρ s' := by
  refine xEA G.ns ?_; intro m n hm
  refine ⟨I, m, n.at' k, hm⟩
theorem gi_st {st : St} {wf : Nat} (K : Cx prog w intDom H tab tok r) (R : Room r A) (V : GEnv env C) (hC : H.objs.size ≤ C) (G : GI H C ρ s) (hl : ρ.length = 5) (hw : st.wf nm_iec = true) (he : sxStep (ev intDom tab tok N) wf (fun _ _ => none) st (ρ, none5) = some (.next (ρ', none5)))
    (h4 : (ρ'[4]?).join = none) (hs : ∀ d, some d ∈ ρ' → scal d = true) : Ok (model prog w) A (exec (st.dec nm_iec) env) (fun f s' => f = .next ∧ Step (fun b => b = C) s s' ∧ GI H C ρ' s') s := by
  refine xEA (id G.ns) ?_; intro m n _
  have S := G.si (P := fun b => s.heap.objs.size ≤ b) V hC hl (fun b h => h) (fun h => Nat.lt_irrefl _ (Nat.lt_of_lt_of_le n.lt h))
  refine (st_ok (sxr := fun _ _ => none) K R (fun _ _ _ _ _ _ _ h => by exact nS h) st _ _ _ _ s hw he S).mono fun f s' z => ?_
  refine xEEAA z ?_; clear z; intro P' W' y _ q
  cases f with
  | next => exact ⟨rfl, y, GI.of q V h4 hs⟩
  | cont => exact q.elim
  | brk => exact q.elim
  | ret v => exact q.elim
theorem gi_test {e : Ix} {b : Bool} (K : Cx prog w intDom H tab tok r) (R : Room r A) (V : GEnv env C) (hC : H.objs.size ≤ C) (G : GI H C ρ s) (hl : ρ.length = 5) (hw : e.wf nm_iec = true) (he : ev intDom tab tok N true e ρ = some (.bool b)) :
    Ok (model prog w) A (isTrue (e.dec nm_iec) env (eval (e.dec nm_iec) env)) (fun c s' => c = b ∧ Step none' s s' ∧ GI H C ρ s') s := by
  refine xEA (id G.ns) ?_; intro m n _
  have S := G.si (P := fun b => s.heap.objs.size ≤ b) V hC hl (fun b h => h) (fun h => Nat.lt_irrefl _ (Nat.lt_of_lt_of_le n.lt h))
  refine ((ev_ok K N).test e _ ρ nm_iec env _ s A hw he R S.inv S.fr.view).le.mono fun c s' z => ?_
  refine xA z ?_; clear z; rintro ⟨e1, y⟩ l
  cases e1
  have nc := ns_tab G.inv.tabs n
  exact ⟨rfl, y, G.far (G.inv.step0 y l) fun o e => y.keep C o (fun q => q) nc.1 nc.2 e⟩
theorem gi_val {e : Ix} {d : intDom.V} (K : Cx prog w intDom H tab tok r) (R : Room r A) (V : GEnv env C) (hC : H.objs.size ≤ C) (G : GI H C ρ s) (hl : ρ.length = 5) (hw : e.wf nm_iec = true) (he : ev intDom tab tok N false e ρ = some d) :
    Ok (model prog w) A (eval (e.dec nm_iec) env) (fun v s' => Step none' s s' ∧ GI H C ρ s' ∧ Rep (fun b => s.heap.objs.size ≤ b) s'.heap v (intDom.dv d)) s := by
  refine xEA (id G.ns) ?_; intro m n _
  have S := G.si (P := fun b => s.heap.objs.size ≤ b) V hC hl (fun b h => h) (fun h => Nat.lt_irrefl _ (Nat.lt_of_lt_of_le n.lt h))
  refine ((ev_ok K N).val e _ ρ nm_iec env _ s A hw he R S.inv S.fr.view).le.mono fun v s' z => ?_
  refine xA z ?_; clear z; rintro ⟨y, q⟩ l
  have nc := ns_tab G.inv.tabs n
  exact ⟨y, G.far (G.inv.step0 y l) fun o e => y.keep C o (fun q => q) nc.1 nc.2 e, q⟩
end
theorem Step.iters {s : Shared} {h' : Heap} {tk : Nat} {W : Addr → Prop} (hW : ∀ b : Nat, W b → 37 < b ∧ TabOff b s.heap) (k : ∀ b o, ¬ W b → s.heap.get? b = some o → h'.get? b = some o) (z : s.heap.objs.size ≤ h'.objs.size) :
    Step W s { s with heap := h', toks := tk } := by
  have n1 : ¬ W T1 := fun q => absurd (hW _ q).1 (by decide)
  have n2 : ¬ W T2 := fun q => absurd (hW _ q).1 (by decide)
  refine ⟨fun b o n _ _ e => k b o n e, z, fun t => ?_, fun J _ t x => x.keep t (fun o => k _ o n1) (fun o => k _ o n2), fun _ _ e => e, id, rfl⟩
  refine xA t ?_; clear t; rintro ⟨ps1, e1, r1⟩ ⟨ps2, e2, r2⟩
  refine ⟨⟨ps1, k _ _ n1 e1, r1.imp id ?_⟩, ⟨ps2, k _ _ n2 e2, r2.imp id ?_⟩⟩
  · rintro ⟨c', e, c₂, o, vs, t, q, ho, hd, hv⟩
    cases q
    refine ⟨c', e, c', o, vs, t, rfl, k _ _ (fun q => ?_) ho, hd, hv⟩
    exact (hW _ q).2 ps1 (.inl e1) (by rw [e]; simp)
  · rintro ⟨c', e, c₂, o, vs, t, q, ho, hd, hv⟩
    cases q
    refine ⟨c', e, c', o, vs, t, rfl, k _ _ (fun q => ?_) ho, hd, hv⟩
    exact (hW _ q).2 ps2 (.inr e2) (by rw [e]; simp)
noncomputable abbrev FC (env : Env) : Code := .func iec_body env
noncomputable abbrev LC (env : Env) (e : Addr) : Code := .forLoop (iec_tg.dec nm_iec) (.ref e) iec_lb [] env
noncomputable abbrev FK : Flow → Sem Fin := fun f => .pure (.done (.ret (match f with | .ret v => v | _ => .none)))
noncomputable abbrev FH (env : Env) : Value → Sem Fin := fun e => (leaving env e).wrap (fun _ => .raise e) .raise id id
noncomputable abbrev KF (env : Env) : Flow → Sem Fin := fun f => match f with | .next => (execs [iec_fin] env).wrap FK (FH env) id id | f => FK f
noncomputable abbrev fr (env : Env) (p : Pos) : PySem.Frame := .ret (ownK (KF env) (FH env) id id env) none (id false) (id []) (FC env) p []
theorem room_fc {r : Nat} {A : Around} {env : Env} (R : Room (r + 1) A) : Room r (A.over (FC env) []) := by
  refine ⟨R.handled, ?_, ?_⟩
  · have := R.depth; show A.depth + 0 + 1 + r < _; lia
  · have := R.units; show A.units + 0 + 3 + 8 * r + 80 < _; lia
theorem room_lc {r : Nat} {A : Around} {env : Env} {e : Addr} {p : Pos} (R : Room (r + 1) A) : Room r (A.over (LC env e) [fr env p]) := by
  refine ⟨R.handled, ?_, ?_⟩
  · have := R.depth; show A.depth + (1 + 0) + 0 + r < _; lia
  · have := R.units; show A.units + (3 + 0) + 0 + 8 * r + 80 < _; lia
section
variable {prog : Program} {w : World} {H : Heap} {tab : Nat → List intDom.V → Option intDom.V} {tok : Nat → Option intDom.D} {r : Nat} {A : Around} {s s' s₀ : Shared} {env : Env}
structure GP where
  C : Nat
  a : Nat
  e : Nat
  it : Nat
  g : Nat
  x : List Nat
  St : Nat → Heap → Prop
noncomputable def GP.M (G : GP) (b : Addr) : Prop := b = G.C ∨ b = G.e ∨ b = G.it
noncomputable def GP.Z (G : GP) (b : Addr) : Prop := b = G.C ∨ b = G.a ∨ b = G.e ∨ b = G.it
structure GPOk (prog : Program) (w : World) (H : Heap) (G : GP) : Prop where
  hC : H.objs.size ≤ G.C
  ha : H.objs.size ≤ G.a
  he : H.objs.size ≤ G.e
  hi : H.objs.size ≤ G.it
  big : 37 < H.objs.size
  ei : G.e ≠ G.it
  Ce : G.C ≠ G.e
  Ci : G.C ≠ G.it
  aC : G.a ≠ G.C
  ae : G.a ≠ G.e
  ai : G.a ≠ G.it
  D : ∀ A : Around, A.handled = none → Draws prog w A G.it [G.it] G.x.length (fun i v => ∃ c u, G.x[i]? = some c ∧ v = .str (strOf [c]) u) G.St
noncomputable def Since (G : GP) (s₀ s : Shared) : Prop := Step G.M (mask G.g s₀) (mask G.g s) ∧ AllBare s.gens ∧ G.g < s.gens.size
theorem Since.step {G : GP} {W : Addr → Prop} (x : Since G s₀ s) (y : Step W s s') (hW : ∀ b, W b → G.M b) : Since G s₀ s' :=
  ⟨x.1.trans (y.mask (y.bare x.2.1) x.2.2) fun b q => .inl (hW b q), y.bare x.2.1, Nat.lt_of_lt_of_le x.2.2 (gens_size y)⟩
theorem Since.refl {G : GP} (hb : AllBare s.gens) (hg : G.g < s.gens.size) : Since G s s := ⟨.refl _ _, hb, hg⟩
structure LI (G : GP) (i : Nat) (s : Shared) : Prop where
  en : ∃ old, IsEnum s.heap G.e G.it (i : Int) old
  st : G.St i s.heap
  te : TabOff G.e s.heap
  ti : TabOff G.it s.heap
  lt : ∀ b : Nat, G.Z b → b < s.heap.objs.size
structure OutR (H : Heap) (G : GP) (s s'' : Shared) : Prop where
  keep : ∀ b o, G.Z b → s.heap.get? b = some o → s''.heap.get? b = some o
  inv : Inv H s''
  size : s.heap.objs.size ≤ s''.heap.objs.size
  off : ∀ I, I < s.heap.objs.size → Tabs s.heap → TabOff I s.heap → TabOff I s''.heap
  gs : G.g < s''.gens.size
theorem LI.out {G : GP} {i : Nat} {s'' : Shared} (L : LI G i s) (K : GPOk prog w H G) (hh : A.handled = none) (T : Tabs s.heap) (y : OutR H G s s'') : LI G i s'' where
  en := let ⟨old, q⟩ := L.en; ⟨old, y.keep _ _ (.inr (.inr (.inl rfl))) q⟩
  st := (K.D A hh).frame _ _ _ L.st fun b hb o e => y.keep b o (.inr (.inr (.inr (by simpa using hb)))) e
  te := y.off _ (L.lt _ (.inr (.inr (.inl rfl)))) T L.te
  ti := y.off _ (L.lt _ (.inr (.inr (.inr rfl)))) T L.ti
  lt := fun b q => Nat.lt_of_lt_of_le (L.lt b q) y.size
theorem LI.step {G : GP} {i : Nat} {W : Addr → Prop} (L : LI G i s) (K : GPOk prog w H G) (hh : A.handled = none) (T : Tabs s.heap) (y : Step W s s') (hW : ∀ b, W b → b = G.C) : LI G i s' := by
  have n : ∀ b : Nat, H.objs.size ≤ b → b ≠ T1 ∧ b ≠ T2 := fun b h => by
    have := K.big
    exact ⟨fun q => by have : b = 30 := q; lia, fun q => by have : b = 37 := q; lia⟩
  exact {
    en := let ⟨old, q⟩ := L.en; ⟨old, y.keep _ _ (fun z => K.Ce (hW _ z).symm) (n _ K.he).1 (n _ K.he).2 q⟩
    st := (K.D A hh).frame _ _ _ L.st fun b hb o e => by
      have hb : b = G.it := by simpa using hb
      subst hb
      exact y.keep _ _ (fun z => K.Ci (hW _ z).symm) (n _ K.hi).1 (n _ K.hi).2 e
    te := y.off _ (L.lt _ (.inr (.inr (.inl rfl)))) T L.te
    ti := y.off _ (L.lt _ (.inr (.inr (.inr rfl)))) T L.ti
    lt := fun b q => Nat.lt_of_lt_of_le (L.lt b q) y.size }
noncomputable def GR (G : GP) : GenEnd := fun n s₀ r s₁ => r = .ok (.ret .none) ∧ (n = 0 ∧ Since G s₀ s₁)
noncomputable def GY (H : Heap) (G : GP) : Protocol := fun m s₀ v s kap => ∃ d ds pre, List.length ds = m ∧ escGo false 0 G.x = pre ++ d :: ds ∧ Since G s₀ s ∧ Rep (fun b => s₀.heap.objs.size ≤ b ∧ ¬ G.Z b) s.heap v d ∧
  Inv H s ∧ (∀ b : Nat, G.Z b → b < s.heap.objs.size) ∧ ∀ s'', OutR H G s s'' → kap (.send .none) s''
theorem GEnv.inter {C : Addr} (V : GEnv env C) : interactive env = false := inter_fn V.kind
theorem seg_give {G : GP} {c : Code} {fs : List PySem.Frame} {K' : Flow → Sem Fin} {Hh : Value → Sem Fin} {ρ : List (Option intDom.V)} {y : Ix} {d : intDom.V} {ds pre : List DV} {yp ep : Pos} {n N : Nat}
    (K : Cx prog w intDom H tab tok r) (O : GPOk prog w H G) (R : Room r (A.over c fs)) (V : GEnv env G.C) (hl : ρ.length = 5) (hw : y.wf nm_iec = true) (hev : ev intDom tab tok N false y ρ = some d) (hn : ds.length = n) (hd : escGo false 0 G.x = pre ++ intDom.dv d :: ds)
    (hfs : splitAtGen fs = none) (hfg : fs.any PySem.Frame.guarded = false) (X : GI H G.C ρ s) (L : ∀ b : Nat, G.Z b → b < s.heap.objs.size) (J : Shared → Prop) (hJ1 : ∀ s', Step none' s s' → J s') (hJ2 : ∀ s' s'', J s' → Tabs s'.heap → OutR H G s' s'' → J s'') (S : Since G s₀ s)
    (cont : ∀ s'', GI H G.C ρ s'' → J s'' → Since G s'' s'' → Seg (model prog w) A (GR G) (GY H G) n s'' c (K' .next) fs s'') :
    Seg (model prog w) A (GR G) (GY H G) (n + 1) s₀ c ((exec (.Expr (.Yield (some (y.dec nm_iec)) yp) ep) env).wrap K' Hh id id) fs s := by
  have hh := R.handled
  refine seg_Expr_Yield hfs rfl hfg (Ok.any ((gi_val K R V O.hC X hl hw hev).mono fun v s' z kap hk => ?_)) V.co V.inter
  refine xAA z ?_; clear z; intro ys X' rep
  have L' : ∀ b : Nat, G.Z b → b < s'.heap.objs.size := fun b z => Nat.lt_of_lt_of_le (L b z) ys.size
  have S' := S.step ys fun _ q => q.elim
  refine ⟨_, ds, pre, hn, hd, S', rep.weak fun b hb _ => ⟨Nat.le_trans S.1.size hb, fun q => absurd (L b q) (Nat.not_lt.mpr hb)⟩, X'.inv, L', fun s'' out => hk .none s'' ?_⟩
  have X'' : GI H G.C ρ s'' := X'.far out.inv fun o e => out.keep _ _ (.inl rfl) e
  exact cont s'' X'' (hJ2 _ _ (hJ1 _ ys) X'.inv.tabs out) (Since.refl out.inv.bare out.gs)
end
noncomputable abbrev gρ (x : List Nat) (p : Int) (esc : Bool) (o : Option intDom.V) : List (Option intDom.V) := [some (.str x), some (.int p), some (.bool esc), o, none]
section
variable {prog : Program} {w : World} {H : Heap} {tab : Nat → List intDom.V → Option intDom.V} {tok : Nat → Option intDom.D} {r : Nat} {A : Around} {s s' s₀ : Shared} {env : Env} {x : List Nat} {p : Int} {esc : Bool} {o : Option intDom.V} {c : Nat}
theorem g_t1 : ev intDom tab tok 4 true iec_t1 (gρ x p esc o) = some (.bool esc) := rfl
theorem g_t3 : ev intDom tab tok 4 true iec_t3 (gρ x p esc o) = some (.bool esc) := rfl
theorem g_y1 : ev intDom tab tok 4 false iec_y1 (gρ x p esc (some (.str [c]))) = some (.tuple [.int p, .str [92, c]]) := rfl
theorem g_y2 : ev intDom tab tok 4 false iec_y2 (gρ x p esc (some (.str [c]))) = some (.tuple [.int p, .str [c]]) := rfl
theorem g_y3 : ev intDom tab tok 4 false iec_y3 (gρ x p esc o) = some (.tuple [.int p, .str [92]]) := rfl
theorem g_t2a : ev intDom tab tok 4 true iec_t2 (gρ x p esc (some (.str [92]))) = some (.bool true) := rfl
theorem g_t2b (h : c ≠ 92) : ev intDom tab tok 4 true iec_t2 (gρ x p esc (some (.str [c]))) = some (.bool false) := by
  show some (PV.bool ([c] == [92])) = _
  rw [show ([c] == [92]) = false from beq_eq_false_iff_ne.mpr fun q => h (List.cons.inj q).1]
theorem g_s1 : sxStep (ev intDom tab tok 4) 0 (fun _ _ => none) iec_s1 (gρ x p esc o, none5) = some (.next (gρ x p false o, none5)) := rfl
theorem g_s2 : sxStep (ev intDom tab tok 4) 0 (fun _ _ => none) iec_s2 (gρ x p esc o, none5) = some (.next (gρ x p true o, none5)) := rfl
theorem g_set {q : Int} : setG (gρ x p esc o, none5) iec_tg (.tuple [.int q, .str [c]] : intDom.V) = some (gρ x q esc (some (.str [c])), none5) := rfl
theorem g_scal (h : ∀ d, o = some d → scal d = true) : ∀ d, some d ∈ gρ x p esc o → scal d = true := fun d hd => by
  simp only [List.mem_cons, List.not_mem_nil, or_false] at hd
  rcases hd with q | q | q | q | q
  · (have zz := Option.some.inj q; clear q; subst zz); rfl
  · (have zz := Option.some.inj q; clear q; subst zz); rfl
  · (have zz := Option.some.inj q; clear q; subst zz); rfl
  · exact h d q.symm
  · cases q
theorem ok_wrap {M : Model} {R : GenEnd} {Y : Protocol} {n : Nat} {c : Code} {fs : List PySem.Frame} {α : Type} {m : Sem α} {K' : α → Sem Fin} {Hh : Value → Sem Fin} {gd lv} (h : Ok M (A.over c fs) m (fun a s' => Seg M A R Y n s₀ c (K' a) fs s') s) : Seg M A R Y n s₀ c (m.wrap K' Hh gd lv) fs s :=
  seg_wrap (Ok.any h)
theorem at_drop {x : List Nat} {i : Nat} (h : i < x.length) : x.drop i = x[i] :: x.drop (i + 1) := List.drop_eq_getElem_cons h
theorem iec_end {G : GP} (K : Cx prog w intDom H tab tok r) (O : GPOk prog w H G) (R : Room (r + 1) A) (V : GEnv env G.C) {i : Nat} {pre : List DV} (hp : esc = true → p = (i : Int) - 1) (ho : ∀ d, o = some d → scal d = true) (X : GI H G.C (gρ G.x p esc o) s) (L : ∀ b : Nat, G.Z b → b < s.heap.objs.size) (S : Since G s₀ s)
    (hd : escGo false 0 G.x = pre ++ escGo esc i []) : Seg (model prog w) A (GR G) (GY H G) (escGo esc i []).length s₀ (FC env) ((execs [iec_fin] env).wrap FK (FH env) id id) [] s := by
  have R' := room_fc (env := env) R
  refine seg_execs_cons (seg_If ((gi_test K R' V O.hC X rfl (by decide) g_t3).mono fun b s₁ z => ?_))
  refine xAA z ?_; clear z; rintro rfl y X₁
  have S₁ := S.step y fun _ q => q.elim
  have L₁ : ∀ b : Nat, G.Z b → b < s₁.heap.objs.size := fun b z => Nat.lt_of_lt_of_le (L b z) y.size
  cases b with
  | false => exact seg_execs_nil (env := env) (seg_execs_nil (env := env) (seg_end (.ok (.ret .none)) ⟨rfl, rfl, S₁⟩))
  | true =>
    refine seg_execs_cons (seg_give (d := .tuple [.int p, .str [92]]) (ds := []) (pre := pre) K O R' V rfl (by decide) g_y3 rfl ?_ rfl rfl X₁ L₁ (fun _ => True) (fun _ _ => trivial) (fun _ _ _ _ _ => trivial) S₁ fun s'' X'' _ S'' => ?_)
    · rw [hd, hp rfl]; exact congrArg (fun z => pre ++ [z]) (denD _).symm
    · exact seg_execs_nil (env := env) (seg_execs_nil (env := env) (seg_end (.ok (.ret .none)) ⟨rfl, rfl, S''⟩))
theorem iec_loop {G : GP} (K : Cx prog w intDom H tab tok r) (O : GPOk prog w H G) (R : Room (r + 1) A) (V : GEnv env G.C) {p0 : Pos} : ∀ (k i : Nat) (esc : Bool) (p : Int) (o : Option intDom.V) (s₀ s : Shared) (pre : List DV), G.x.length - i = k → i ≤ G.x.length → (esc = true → p = (i : Int) - 1) →
    (∀ d, o = some d → scal d = true) → GI H G.C (gρ G.x p esc o) s → LI G i s → Since G s₀ s → escGo false 0 G.x = pre ++ escGo esc i (G.x.drop i) →
    Seg (model prog w) A (GR G) (GY H G) (escGo esc i (G.x.drop i)).length s₀ (LC env G.e) ((model prog w).den (LC env G.e)) [fr env p0] s := by
  have R' : Room r (A.over (LC env G.e) [fr env p0]) := room_lc R
  have Wk := WalksT.enumerateD (O.D (A.over (LC env G.e) [fr env p0]).in1 R'.handled) G.e O.ei (by simpa using O.ei) (by simp)
  have hZ : ∀ b : Nat, b = G.e ∨ b = G.it → 37 < b := fun b q => by
    have := O.big; have := O.he; have := O.hi
    rcases q with rfl | rfl <;> lia
  intro k
  induction k with
  | zero =>
    intro i esc p o s₀ s pre hk hi hp ho X L S hd
    have : i = G.x.length := by lia
    subst this
    rw [List.drop_length] at hd ⊢
    refine seg_forLoop (wpAny_mono (wpAny_le (Wk.done s (fun r s' => r = none ∧ ∃ h' tk, s' = { s with heap := h', toks := tk } ∧ ∀ b o, b ∉ [G.e, G.it] → s.heap.get? b = some o → h'.get? b = some o) _ ⟨L.en, L.st⟩ fun h' tk q => ⟨rfl, h', tk, rfl, q⟩)) (fun rr s₁ z => ?_) fun _ _ q => q)
    refine xA z ?_; clear z; rintro ⟨rfl, h', tk, rfl, q⟩ le
    have y : Step (fun b => b = G.e ∨ b = G.it) s { s with heap := h', toks := tk } := .iters (fun b q => ⟨hZ b q, by rcases q with rfl | rfl <;> first | exact L.te | exact L.ti⟩) (fun b o nb e => q b o (by simpa using nb) e) le.2
    have S₁ := S.step y fun b q => by rcases q with q | q <;> simp [GP.M, q]
    have I₁ := X.inv.step y (fun b q => by rcases q with rfl | rfl <;> first | exact O.he | exact O.hi) le
    have X₁ : GI H G.C (gρ G.x p esc o) { s with heap := h', toks := tk } := X.far I₁ fun o e => q _ o (by simp; exact ⟨O.Ce, O.Ci⟩) e
    refine seg_again rfl (seg_block_nil ?_)
    exact iec_end K O R V hp ho X₁ (fun b q => Nat.lt_of_lt_of_le (L.lt b q) le.2) S₁ hd
  | succ k ih =>
    intro i esc p o s₀ s pre hk hi hp ho X L S hd
    have hlt : i < G.x.length := by lia
    obtain ⟨c, hc⟩ : ∃ c, G.x[i] = c := ⟨_, rfl⟩
    have hdrop := at_drop hlt
    rw [hc] at hdrop
    rw [hdrop] at hd ⊢
    refine seg_forLoop (wpAny_mono (wpAny_le (Wk.item i s (fun r s' => ∃ T vals h' tk, r = some (.ref T) ∧ s' = { s with heap := h', toks := tk } ∧ (∃ t xv, (∃ c u, G.x[i]? = some c ∧ xv = .str (strOf [c]) u) ∧ vals = #[.int i t, xv]) ∧ s.heap.objs.size ≤ T ∧ h'.IsTuple T vals ∧
      ((∃ x, IsEnumOut h' G.e G.it ((i : Int) + 1) x T) ∧ G.St (i + 1) h' ∧ T ≠ G.e ∧ T ≠ G.it) ∧ ∀ b o, b ∉ [G.e, G.it] → s.heap.get? b = some o → h'.get? b = some o) _ hlt ⟨L.en, L.st⟩ fun T vals h' tk a b c d q => ⟨T, vals, h', tk, rfl, rfl, a, b, c, d, q⟩)) (fun rr s₁ z => ?_) fun _ _ q => q)
    refine xA z ?_; clear z; rintro ⟨T, vals, h', tk, rfl, rfl, ⟨t, xv, ⟨c', u, hc', rfl⟩, rfl⟩, hT, tup, mid, q⟩ le
    rw [List.getElem?_eq_getElem hlt, hc] at hc'
    (have zz := Option.some.inj hc'; clear hc'; subst zz)
    have y : Step (fun b => b = G.e ∨ b = G.it) s { s with heap := h', toks := tk } := .iters (fun b q => ⟨hZ b q, by rcases q with rfl | rfl <;> first | exact L.te | exact L.ti⟩) (fun b o nb e => q b o (by simpa using nb) e) le.2
    have S₁ := S.step y fun b q => by rcases q with q | q <;> simp [GP.M, q]
    have I₁ := X.inv.step y (fun b q => by rcases q with rfl | rfl <;> first | exact O.he | exact O.hi) le
    have te₁ := y.off _ (L.lt _ (.inr (.inr (.inl rfl)))) X.inv.tabs L.te
    have ti₁ := y.off _ (L.lt _ (.inr (.inr (.inr rfl)))) X.inv.tabs L.ti
    refine wpAny_mono (wpAny_le (Wk.go _ _ _ i T { s with heap := h', toks := tk } (fun _ s' => ∃ h2, s' = { s with heap := h2, toks := tk } ∧ ((∃ old, IsEnum h2 G.e G.it ((i + 1 : Nat) : Int) old) ∧ G.St (i + 1) h2) ∧ ∀ b o, b ∉ [G.e, G.it] → h'.get? b = some o → h2.get? b = some o) _ mid fun h2 a b => ⟨h2, rfl, a, b⟩)) (fun _ s₂ z => ?_) fun _ _ q => q
    refine xA z ?_; clear z; rintro ⟨h2, rfl, st2, q2⟩ le2
    have y2 : Step (fun b => b = G.e ∨ b = G.it) { s with heap := h', toks := tk } { s with heap := h2, toks := tk } := .iters (s := { s with heap := h', toks := tk }) (fun b q => ⟨hZ b q, by rcases q with rfl | rfl <;> first | exact te₁ | exact ti₁⟩) (fun b o nb e => q2 b o (by simpa using nb) e) le2.2
    have S₂ := S₁.step y2 fun b q => by rcases q with q | q <;> simp [GP.M, q]
    have I₂ := I₁.step y2 (fun b q => by rcases q with rfl | rfl <;> first | exact O.he | exact O.hi) le2
    have hCn : G.C ∉ [G.e, G.it] := by simp; exact ⟨O.Ce, O.Ci⟩
    have X₂ : GI H G.C (gρ G.x p esc o) { s with heap := h2, toks := tk } := X.far I₂ fun o e => q2 _ o hCn (q _ o hCn e)
    have lt2 : ∀ b : Nat, G.Z b → b < h2.objs.size := fun b z => Nat.lt_of_lt_of_le (L.lt b z) (Nat.le_trans le.2 le2.2)
    have L₂ : LI G (i + 1) { s with heap := h2, toks := tk } := ⟨st2.1, st2.2, y2.off _ (Nat.lt_of_lt_of_le (L.lt _ (.inr (.inr (.inl rfl)))) le.2) I₁.tabs te₁, y2.off _ (Nat.lt_of_lt_of_le (L.lt _ (.inr (.inr (.inr rfl)))) le.2) I₁.tabs ti₁, lt2⟩
    have tup2 : IsTup h2 T #[.int i t, .str (strOf [c]) u] := by
      refine xEA tup ?_; clear tup; intro o e r
      exact ⟨o, q2 _ _ (by simp; exact mid.2.2) e, r⟩
    have SI2 := X₂.si (P := fun b => s.heap.objs.size ≤ b) V O.hC rfl (fun b h => Nat.le_trans (Nat.le_trans le.2 le2.2) h) (fun h => absurd (L.lt _ (.inl rfl)) (Nat.not_lt.mpr h))
    have rep : Rep (fun b => s.heap.objs.size ≤ b) h2 (.ref T) (intDom.dv (.tuple [.int (i : Int), .str [c]])) := by
      refine Eq.mpr (congrArg (Rep _ h2 (.ref T)) (denD _)) ?_
      exact .tuple hT tup2 (.cons (.int _ _) (.cons (.str _ _) .nil))
    refine (setG_ok (t := iec_tg) (by decide) g_set R'.handled SI2 rep).mono fun _ s₃ z => ?_
    refine xA z ?_; clear z; intro y3 SI3
    have X₃ : GI H G.C (gρ G.x i esc (some (.str [c]))) s₃ := GI.of SI3 V rfl (g_scal fun d e => by (have zz := Option.some.inj e; clear e; subst zz); rfl)
    have S₃ := S₂.step y3 fun b q => .inl q
    have L₃ := L₂.step O R'.handled I₂.tabs y3 fun _ q => q
    have hos : ∀ d, (some (.str [c]) : Option intDom.V) = some d → scal d = true := fun d e => by (have zz := Option.some.inj e; clear e; subst zz); rfl
    -- the body
    refine seg_execs_cons (seg_If ((gi_test K R' V O.hC X₃ rfl (by decide) g_t1).mono fun b s₄ z => ?_))
    refine xAA z ?_; clear z; rintro rfl y4 X₄
    have S₄ := S₃.step y4 fun _ q => q.elim
    have L₄ := L₃.step O R'.handled X₃.inv.tabs y4 fun _ q => q.elim
    cases b with
    | true =>
      have he : escGo true i (c :: G.x.drop (i + 1)) = .tuple [.int i, .str [92, c]] :: escGo false (i + 1) (G.x.drop (i + 1)) := rfl
      rw [he, List.length_cons]
      rw [he] at hd
      refine seg_execs_cons (seg_give (d := .tuple [.int (i : Int), .str [92, c]]) (ds := escGo false (i + 1) (G.x.drop (i + 1))) (pre := pre) K O R' V rfl (by decide) g_y1 rfl (hd.trans (congrArg (fun z => pre ++ z :: _) (denD _).symm)) rfl rfl X₄ L₄.lt (LI G (i + 1)) (fun s' y => L₄.step O R'.handled X₄.inv.tabs y fun _ q => q.elim) (fun s' s'' L T out => L.out (A := A) O R.handled T out) S₄ fun s₅ X₅ L₅ S₅ => ?_)
      refine seg_execs_cons (ok_wrap ((gi_st K R' V O.hC X₅ rfl (by decide) g_s1 rfl (g_scal hos)).mono fun f s₆ z => ?_))
      refine xAA z ?_; clear z; rintro rfl y6 X₆
      refine seg_execs_nil (env := env) (seg_execs_nil (env := env) (seg_again rfl ?_))
      exact ih (i + 1) false i _ s₅ s₆ (pre ++ [.tuple [.int i, .str [92, c]]]) (by lia) hlt (fun h => by exact bF h) hos X₆ (L₅.step O R'.handled X₅.inv.tabs y6 fun _ q => q) (S₅.step y6 fun b q => .inl q) (by rw [hd]; simp)
    | false =>
      by_cases hcc : c = 92
      · subst hcc
        have he : escGo false i (92 :: G.x.drop (i + 1)) = escGo true (i + 1) (G.x.drop (i + 1)) := rfl
        rw [he]
        rw [he] at hd
        refine seg_execs_cons (seg_If ((gi_test K R' V O.hC X₄ rfl (by decide) g_t2a).mono fun b s₅ z => ?_))
        refine xAA z ?_; clear z; rintro rfl y5 X₅
        refine seg_execs_cons (ok_wrap ((gi_st K R' V O.hC X₅ rfl (by decide) g_s2 rfl (g_scal hos)).mono fun f s₆ z => ?_))
        refine xAA z ?_; clear z; rintro rfl y6 X₆
        refine seg_execs_nil (env := env) (seg_execs_nil (env := env) (seg_execs_nil (env := env) (seg_again rfl ?_)))
        have L₅ := L₄.step O R'.handled X₄.inv.tabs y5 fun _ q => q.elim
        exact ih (i + 1) true i _ s₀ s₆ pre (by lia) hlt (fun _ => by push_cast; lia) hos X₆ (L₅.step O R'.handled X₅.inv.tabs y6 fun _ q => q) ((S₄.step y5 fun _ q => q.elim).step y6 fun b q => .inl q) hd
      · have he : escGo false i (c :: G.x.drop (i + 1)) = .tuple [.int i, .str [c]] :: escGo false (i + 1) (G.x.drop (i + 1)) := by
          show (if (false : Bool) = true then _ else if c = 92 then _ else _) = _
          rw [if_neg (by simp), if_neg hcc]
        rw [he, List.length_cons]
        rw [he] at hd
        refine seg_execs_cons (seg_If ((gi_test K R' V O.hC X₄ rfl (by decide) (g_t2b hcc)).mono fun b s₅ z => ?_))
        refine xAA z ?_; clear z; rintro rfl y5 X₅
        have L₅ := L₄.step O R'.handled X₄.inv.tabs y5 fun _ q => q.elim
        refine seg_execs_cons (seg_give (d := .tuple [.int (i : Int), .str [c]]) (ds := escGo false (i + 1) (G.x.drop (i + 1))) (pre := pre) K O R' V rfl (by decide) g_y2 rfl (hd.trans (congrArg (fun z => pre ++ z :: _) (denD _).symm)) rfl rfl X₅ L₅.lt (LI G (i + 1)) (fun s' y => L₅.step O R'.handled X₅.inv.tabs y fun _ q => q.elim) (fun s' s'' L T out => L.out (A := A) O R.handled T out) (S₄.step y5 fun _ q => q.elim) fun s₆ X₆ L₆ S₆ => ?_)
        refine seg_execs_nil (env := env) (seg_execs_nil (env := env) (seg_execs_nil (env := env) (seg_again rfl ?_)))
        exact ih (i + 1) false i _ s₆ s₆ (pre ++ [.tuple [.int i, .str [c]]]) (by lia) hlt (fun h => by exact bF h) hos X₆ L₆ S₆ (by rw [hd]; simp)
end
section
variable {prog : Program} {w : World} {H : Heap} {tab : Nat → List intDom.V → Option intDom.V} {tok : Nat → Option intDom.D} {r : Nat} {A : Around} {s s' s₀ : Shared} {env : Env} {x : List Nat} {p : Int} {esc : Bool} {o : Option intDom.V} {c : Nat} {C : Nat} {ρ : List (Option intDom.V)}
theorem gi_set {i : Nat} {y : Str} {v : Value} {d : intDom.V} {E : Value → Shared → Prop} (V : GEnv env C) (hC : H.objs.size ≤ C) (G : GI H C ρ s) (hl : ρ.length = 5) (hi : nm_iec[i]? = some (y, .local)) (hv : ∀ P h, Rep P h v (intDom.dv d)) {Q : Unit → Shared → Prop}
    (k : ∀ s', (∃ h' tk, s' = { s with heap := h', toks := tk }) → s'.heap.objs.size = s.heap.objs.size → Step (fun b => b = C) s s' → GI H C (ρ.set i (some d)) s' → Q () s') : wpAny (model prog w) A (bindName env y v) Q E s := by
  refine xEA G.ns ?_; intro m n hm
  have hk : env.kindOf y = some .local := V.names y _ (by rw [lookup_at (by decide) hi])
  refine wpAny_bindName (wpAny_storeName_local hk (by rw [V.loc]; exact n) (fun h' hn' hs => ?_) (by rw [V.kind]; rfl))
  rw [V.loc] at hn' hs
  have y1 : Step (fun b => b = C) s { s with heap := h', toks := s.toks + 1 } := by
    refine xEEEAA n ?_; clear n; intro o es ep ho hd _
    exact Step.same hs (.inl rfl) ho fun vs q => by rw [hd] at q; cases q
  refine k _ ⟨h', _, rfl⟩ hs.1 y1 ⟨G.inv.step y1 (fun b q => by rw [show b = C from q]; exact hC) ⟨Nat.le_succ _, Nat.le_of_eq hs.1.symm⟩, _, hn', fun z d' hz => ?_⟩
  rw [denR_set (by decide) hi (by rw [hl]; exact (List.getElem?_eq_some_iff.mp hi).1)] at hz
  unfold upd at hz
  by_cases q : z = y
  · rw [if_pos q] at hz; (have zz := Option.some.inj hz; clear hz; subst zz)
    exact ⟨v, by simp [q], hv⟩
  · rw [if_neg q] at hz
    refine xEA (hm z d' hz) ?_; intro v' e h
    exact ⟨v', by simp [q, e], h⟩
theorem iec_init (V : GEnv env C) (hC : H.objs.size ≤ C) (G : GI H C [some (.str x), none, none, none, none] s) :
    Ok (model prog w) A (exec (iec_i1.dec nm_iec) env) (fun f s₁ => f = .next ∧ Ok (model prog w) A (exec (iec_i2.dec nm_iec) env) (fun f s₂ => f = .next ∧ s₂.heap.objs.size = s.heap.objs.size ∧ Step (fun b => b = C) s s₂ ∧ GI H C (gρ x 0 false none) s₂) s₁) s := by
  refine exec_asg (swaps_plain (e := .int 0 0 _) rfl _ _) (wpAny_Constant_int ?_)
  have G0 : GI H C [some (.str x), none, none, none, none] { s with toks := s.toks + 1 } := ⟨⟨G.inv.keep, G.inv.size, G.inv.tabs, G.inv.bare, Nat.le_succ_of_le G.inv.toks⟩, G.ns⟩
  refine gi_set (i := 1) (d := .int (0 : Int)) V hC G0 rfl rfl (fun P h => .int _ _) fun s₁ _ z1 y1 G1 => ⟨rfl, ?_⟩
  refine exec_asg (swaps_plain (e := .bool false 0 _) rfl _ _) (Constant_bool ?_)
  refine gi_set (i := 2) (d := .bool false) V hC G1 rfl rfl (fun P h => .bool _) fun s₂ _ z2 y2 G2 => ⟨rfl, z2.trans z1, (Step.after (.toks _) y1).trans y2 fun b q => .inl q, G2⟩
noncomputable abbrev StS (x : List Nat) (it : Addr) (i : Nat) (h : Heap) : Prop := ∃ t, h.IsStrIter it (strIterType (strOf x)) (strOf x) t i
theorem D_str (x : List Nat) (it : Addr) : ∀ A : Around, A.handled = none → Draws prog w A it [it] x.length (fun i v => ∃ c u, x[i]? = some c ∧ v = .str (strOf [c]) u) (StS x it) := fun A hh => by
  have key : ∀ t : Tok, Draws prog w A it [it] x.length (fun i v => ∃ c u, x[i]? = some c ∧ v = .str (strOf [c]) u) (fun i h => h.IsStrIter it (strIterType (strOf x)) (strOf x) t i) := fun t => by
    have e : (strOf x).cps.size = x.length := by simp
    have e2 : (fun (i : Nat) (v : Value) => ∃ c u, (strOf x).cps[i]? = some c ∧ v = .str ⟨#[c]⟩ u) = fun i v => ∃ c u, x[i]? = some c ∧ v = .str (strOf [c]) u := by
      funext i v
      simp
    rw [← e, ← e2]
    unfold strIterType
    cases (strOf x).cps.all (· < 128) with
    | true => exact Draws.strAscii hh it _ t
    | false => exact Draws.strWide hh it _ t
  exact {
    live := fun i h ⟨t, q⟩ => (key t).live i h q
    frame := fun i h h' ⟨t, q⟩ k => ⟨t, (key t).frame i h h' q k⟩
    item := fun i s Q E hi ⟨t, q⟩ k => (key t).item i s Q E hi q fun x h' tk a b c => k x h' tk a ⟨t, b⟩ c
    done := fun s Q E ⟨t, q⟩ k => (key t).done s Q E q k }
theorem iec_enum {Q : Value → Shared → Prop} {E : Value → Shared → Prop} {t0 : List (Option intDom.V)} (V : GEnv env C) (hC : H.objs.size ≤ C) (hg : GlobIs H "enumerate" (.type "enumerate")) (G : GI H C (some (.str x) :: t0) s) (hl : t0.length = 4)
    (k : ∀ (t : Tok) (h' : Heap) tk, IsEnum h' (s.heap.objs.size + 1) s.heap.objs.size 0 .none → h'.IsStrIter s.heap.objs.size (strIterType (strOf x)) (strOf x) t 0 → h'.objs.size = s.heap.objs.size + 2 → (∀ b o, s.heap.get? b = some o → h'.get? b = some o) → Q (.ref (s.heap.objs.size + 1)) { s with heap := h', toks := tk }) :
    wpAny (model prog w) A (eval iec_it env) Q E s := by
  refine xEA (id G.ns) ?_; intro m n _
  have S := G.si (P := fun b => s.heap.objs.size ≤ b) V hC (by simp [hl]) (fun b h => h) (fun h => Nat.lt_irrefl _ (Nat.lt_of_lt_of_le n.lt h))
  refine Call_ (wpAny_Name (S.fr.view.global S.inv (by decide) hg ?_) (by decide))
  refine PyProof.Rows.callWith_type (decL_plain nm_iec env _ [.var 0 ⟨110, 29, 110, 33⟩]) (args_dec (nm := nm_iec) (xs := [.var 0 ⟨110, 29, 110, 33⟩]) ?_)
  refine args_cons (wpAny_Name (S.fr.view.load (x := "addr") (d := .str x) (by decide) ?_ (by decide) fun v q => ?_) (by decide)) (dec_star _ _ _ _)
  · show some (intDom.dv (.str x)) = _
    exact congrArg some (denD (.str x))
  · (refine xE (Rep.inv q) ?_; clear q; intro zt zq; subst zq)
    exact args_nil (call_enumerate_str fun h' a b c d => k _ h' _ a b c d)
theorem iec_start {G : GP} (K : Cx prog w intDom H tab tok r) (hg : GlobIs H "enumerate" (.type "enumerate")) (R : Room (r + 1) A) (V : GEnv env G.C) (hC : H.objs.size ≤ G.C) (ha : H.objs.size ≤ G.a) (aC : G.a ≠ G.C) (X : GI H G.C [some (.str G.x), none, none, none, none] s)
    (hal : G.a < s.heap.objs.size) (ei : G.it = s.heap.objs.size) (ee : G.e = s.heap.objs.size + 1) (hSt : G.St = StS G.x G.it)
    (S : Since G s s) : Seg (model prog w) A (GR G) (GY H G) (escGo false 0 G.x).length s (FC env) ((model prog w).den (FC env)) [] s := by
  have hClt : G.C < s.heap.objs.size := let ⟨m, n, _⟩ := X.ns; n.lt
  have hs := X.inv.size
  have O : GPOk prog w H G := ⟨hC, ha, by lia, by lia, K.big, by lia, by lia, by lia, aC, by lia, by lia, hSt ▸ D_str _ _⟩
  refine seg_func (seg_execs_cons (ok_wrap ((iec_init V hC X).mono fun f s₁ z => ?_)))
  refine xA z ?_; clear z; rintro rfl z
  refine seg_execs_cons (ok_wrap (z.mono fun f s₂ z => ?_))
  refine xAAA z ?_; clear z; rintro rfl hz y G2
  have S₂ := S.step y fun b q => .inl q
  have e1 : s₂.heap.objs.size = G.it := hz.trans ei.symm
  have e2 : s₂.heap.objs.size + 1 = G.e := by lia
  refine seg_execs_cons (seg_For ((Ok.le (iec_enum (Q := fun v s' => ∃ t h' tk, v = .ref G.e ∧ s' = { s₂ with heap := h', toks := tk } ∧ IsEnum h' G.e G.it 0 .none ∧ h'.IsStrIter G.it (strIterType (strOf G.x)) (strOf G.x) t 0 ∧ h'.objs.size = s₂.heap.objs.size + 2 ∧ (∀ b o, s₂.heap.get? b = some o → h'.get? b = some o)) V hC hg G2 rfl fun t h' tk he hi hsz hk => ?_)).mono fun v s₃ z => ?_))
  · rw [e2] at he ⊢
    rw [e1] at he hi
    exact ⟨t, h', tk, rfl, rfl, he, hi, hsz, hk⟩
  refine xA z ?_; clear z; rintro ⟨t, h', tk, rfl, rfl, he, hi, hsz, hk⟩ le
  have y3 : Step none' s₂ { s₂ with heap := h', toks := tk } := .grown hk (by lia)
  have S₃ := S₂.step y3 fun _ q => q.elim
  have G3 : GI H G.C (gρ G.x 0 false none) { s₂ with heap := h', toks := tk } := G2.far (G2.inv.step0 y3 le) fun o e => hk _ o e
  have hT := tabOff_new G2.inv.tabs (Nat.le_refl _)
  have off : ∀ I : Nat, s₂.heap.objs.size ≤ I → TabOff I h' := fun I hI => (tabOff_new G2.inv.tabs hI).keep G2.inv.tabs (fun o => hk _ o) (fun o => hk _ o)
  have L3 : LI G 0 { s₂ with heap := h', toks := tk } := ⟨⟨.none, he⟩, by rw [hSt]; exact ⟨t, hi⟩, off _ (by lia), off _ (by lia), fun b q => by
    show b < h'.objs.size
    rcases q with rfl | rfl | rfl | rfl <;> lia⟩
  refine wpAny_pyIter_enum he fun p => ?_
  exact iec_loop K O R V _ 0 false 0 none s _ [] rfl (Nat.zero_le _) (fun h => by exact bF h) (fun d h => by exact nS h) G3 L3 S₃ rfl
end
section
variable {prog : Program} {w : World} {H : Heap} {tab : Nat → List intDom.V → Option intDom.V} {tok : Nat → Option intDom.D} {r : Nat} {A : Around} {s s' s₀ : Shared} {env : Env} {x : List Nat}
structure GenS (prog : Program) (w : World) (H : Heap) (A : Around) (G : GP) (ds : List DV) (s : Shared) : Prop where
  suf : ∃ pre, escGo false 0 G.x = pre ++ ds
  gen : s.heap.IsGen G.a G.g
  lt : ∀ b : Nat, G.Z b → b < s.heap.objs.size
  tabs : Tabs s.heap
  go : ∃ gs, s.gens[G.g]? = some gs ∧ ∀ s'', OutR H G s s'' → gs.Goes (model prog w) A.in1 (GR G) (GY H G) ds.length (.send .none) s''
theorem gen_keep {h h' : Heap} {a g : Nat} (x : h.IsGen a g) (k : ∀ o, h.get? a = some o → h'.get? a = some o) : h'.IsGen a g := let ⟨o, nm, qn, ho, r⟩ := x; ⟨o, nm, qn, k _ ho, r⟩
theorem gen_ne {a : Nat} (T : 37 < a) : a ≠ T1 ∧ a ≠ T2 := ⟨fun q => by have : a = 30 := q; lia, fun q => by have : a = 37 := q; lia⟩
theorem own_gen {a g : Nat} (x : s.heap.IsGen a g) (v : Value) (t : Expr) : Ok (model prog w) A (letOwnedTupleGo t (.ref a) v) (fun _ s'' => s'' = s) s := by
  refine xEEEAA x ?_; clear x; intro o nm qn ho hc _
  exact own_class t ho hc (by decide)
theorem lt_of_gs {g : Nat} {gs : GenState} (h : s.gens[g]? = some gs) : g < s.gens.size := by
  rcases Nat.lt_or_ge g s.gens.size with h' | h'
  · exact h'
  · rw [Array.getElem?_eq_none h'] at h; exact nS h
theorem suffix_eq {α : Type} {l pre pre' : List α} {a b : List α} (h : l = pre ++ a) (h' : l = pre' ++ b) (hl : a.length = b.length) : a = b := (List.append_inj' (h.symm.trans h') hl).2
theorem gen_next {G : GP} (hh : A.handled = none) (hroom : A.depth < recursionLimit) (hlim : s.heap.NoLimit) (hgen : s.heap.IsGen G.a G.g) {gs : GenState} (hgs : s.gens[G.g]? = some gs) {ds pre : List DV} (hd : escGo false 0 G.x = pre ++ ds)
    (hgo : gs.Goes (model prog w) A.in1 (GR G) (GY H G) ds.length (.send .none) (s.setGen G.g .running)) (big : 37 < G.a) (aM : ¬ G.M G.a) :
    Ok (model prog w) A (pyNext (.ref G.a)) (fun rv s' => match ds with
      | [] => rv = none ∧ Step G.M (mask G.g s) (mask G.g s') ∧ AllBare s'.gens
      | d :: ds' => ∃ v, rv = some v ∧ Step G.M (mask G.g s) (mask G.g s') ∧ AllBare s'.gens ∧ Rep (fun b => s.heap.objs.size ≤ b ∧ ¬ G.Z b) s'.heap v d ∧ GenS prog w H A G ds' s') s := by
  refine pyNext_gen (P := fun n s₀ s₁ => n = 0 ∧ Since G s₀ s₁) hh hlim hroom hgen hgs hgo (fun v s₁ gs' hb hv => ?_) (fun s₁ hp h' hk hz => ?_)
  · obtain ⟨d, ds1, pre1, hl, hs, S, rep, I, lt, kap⟩ := hv
    have y := S.1
    rw [mask_set] at y
    cases ds with
    | nil => exact (kap s₁ ⟨fun _ _ _ e => e, I, Nat.le_refl _, fun _ _ _ o => o, S.2.2⟩).elim
    | cons d0 ds0 =>
      have e := suffix_eq hd hs (by rw [List.length_cons, List.length_cons, hl]; rfl)
      cases e
      refine ⟨v, rfl, by rw [mask_set]; exact y, bare_set S.2.1 hb, rep, ⟨pre ++ [d], by rw [hd]; simp⟩, ?_, lt, I.tabs, gs', setGen_self (Array.getElem?_eq_getElem S.2.2), fun s'' out => ?_⟩
      · have n := gen_ne big
        exact gen_keep hgen fun o e => y.keep _ _ aM n.1 n.2 e
      · exact kap s'' ⟨out.keep, out.inv, out.size, out.off, out.gs⟩
  · refine xA hp ?_; clear hp; intro h0 S
    cases ds with
    | cons d0 ds0 => rw [List.length_cons] at h0; cases h0
    | nil =>
      have y := S.1
      rw [mask_set] at y
      refine ⟨rfl, ?_, bare_set S.2.1 rfl⟩
      have y2 : Step none' s₁ { s₁ with heap := h' } := .grown (tk := s₁.toks) hk hz
      have y3 := y2.mask (g := G.g) S.2.1 S.2.2
      have e : mask G.g ({ s₁.setGen G.g .finished with heap := h' } : Shared) = mask G.g { s₁ with heap := h' } := by
        unfold mask Shared.setGen
        simp
      rw [e]
      exact y.then y3
theorem gnexts_susp {G : GP} (O : GPOk prog w H G) (hh : A.handled = none) (hroom : A.depth < recursionLimit) {mg mb : Str → Option Value} (Gl : Glo H mg mb) :
    ∀ (ds : List DV) (s : Shared), GenS prog w H A G ds s → GNexts prog w H A G.g G.a ds G.Z s := by
  have ge : ∀ b : Nat, G.Z b → b ≠ T1 ∧ b ≠ T2 := fun b z => by
    have := O.big; have := O.hC; have := O.ha; have := O.he; have := O.hi
    refine gen_ne ?_
    rcases z with rfl | rfl | rfl | rfl <;> lia
  have big : 37 < G.a := Nat.lt_of_lt_of_le O.big O.ha
  have aM : ¬ G.M G.a := fun q => by
    rcases q with q | q | q
    · exact O.aC q
    · exact O.ae q
    · exact O.ai q
  have MZ : ∀ b, G.M b → G.Z b := fun b q => by
    rcases q with q | q | q
    · exact .inl q
    · exact .inr (.inr (.inl q))
    · exact .inr (.inr (.inr q))
  intro ds
  induction ds with
  | nil =>
    intro s X s₁ W y hW I
    refine xE X.suf ?_; intro pre hd
    refine xEA X.go ?_; intro gs hgs hgo
    have hg₁ := y.gens _ _ hgs
    have hgen := gen_keep X.gen fun o e => y.keep _ _ (fun q => hW _ q (.inr (.inl rfl))) (ge _ (.inr (.inl rfl))).1 (ge _ (.inr (.inl rfl))).2 e
    refine (gen_next (H := H) hh hroom (I.lim Gl) hgen hg₁ hd (hgo _ ⟨fun b o z e => y.keep b o (fun q => hW b q z) (ge b z).1 (ge b z).2 e, I.setGen rfl, y.size, y.off, by simpa [Shared.setGen] using lt_of_gs hg₁⟩) big aM).mono fun rv s₂ z => ?_
    exact ⟨z.1, z.2.1.mono fun b q => .inl (MZ b q), z.2.2⟩
  | cons d ds ih =>
    intro s X s₁ W y hW I
    refine xE X.suf ?_; intro pre hd
    refine xEA X.go ?_; intro gs hgs hgo
    have hg₁ := y.gens _ _ hgs
    have hgen := gen_keep X.gen fun o e => y.keep _ _ (fun q => hW _ q (.inr (.inl rfl))) (ge _ (.inr (.inl rfl))).1 (ge _ (.inr (.inl rfl))).2 e
    refine (gen_next (H := H) hh hroom (I.lim Gl) hgen hg₁ hd (hgo _ ⟨fun b o z e => y.keep b o (fun q => hW b q z) (ge b z).1 (ge b z).2 e, I.setGen rfl, y.size, y.off, by simpa [Shared.setGen] using lt_of_gs hg₁⟩) big aM).mono fun rv s₂ z => ?_
    refine xEAAAA z ?_; clear z; rintro v rfl y2 hb rep X2
    exact ⟨v, G.Z, rfl, fun _ q => q, fun _ q => .inl q, y2.mono fun b q => .inl (MZ b q), hb, rep, fun t => own_gen X2.gen v t, ih s₂ X2⟩
theorem gnexts_fresh (K : Cx prog w intDom H tab tok r) (hge : GlobIs H "enumerate" (.type "enumerate")) (R : Room (r + 2) A) {C a g : Nat} (V : GEnv env C) (hC : H.objs.size ≤ C) (ha : H.objs.size ≤ a) (aC : a ≠ C)
    (X : GI H C [some (.str x), none, none, none, none] s) (hal : a < s.heap.objs.size) (hgen : s.heap.IsGen a g) (hgs : s.gens[g]? = some (.fresh (FC env))) : GNexts prog w H A g a (escGo false 0 x) (fun b => b = C ∨ b = a) s := by
  refine xEEA (id hge) ?_; intro mg mb Gl _
  have hCl : C < s.heap.objs.size := let ⟨m, n, _⟩ := X.ns; n.lt
  have ge : ∀ b : Nat, b = C ∨ b = a → b ≠ T1 ∧ b ≠ T2 := fun b z => by
    have := K.big
    refine gen_ne ?_
    rcases z with rfl | rfl <;> lia
  have big : 37 < a := Nat.lt_of_lt_of_le K.big ha
  have key : ∀ (s₁ : Shared) (W : Addr → Prop), Step W s s₁ → (∀ b, W b → ¬ (b = C ∨ b = a)) → Inv H s₁ → ∃ G : GP, GPOk prog w H G ∧ G.a = a ∧ G.g = g ∧ G.C = C ∧ G.x = x ∧ (G.e = s₁.heap.objs.size + 1 ∧ G.it = s₁.heap.objs.size) ∧ s₁.heap.IsGen a g ∧ ∃ gs, s₁.gens[g]? = some gs ∧ gs.Goes (model prog w) A.in1 (GR G) (GY H G) (escGo false 0 x).length (.send .none) (s₁.setGen g .running) := by
    intro s₁ W y hW I
    have hg₁ := y.gens _ _ hgs
    have hs := y.size
    have hH := I.size
    let G : GP := ⟨C, a, s₁.heap.objs.size + 1, s₁.heap.objs.size, g, x, StS x s₁.heap.objs.size⟩
    have O : GPOk prog w H G := ⟨hC, ha, by show H.objs.size ≤ s₁.heap.objs.size + 1; lia, by show H.objs.size ≤ s₁.heap.objs.size; lia, K.big, by show s₁.heap.objs.size + 1 ≠ s₁.heap.objs.size; lia, by show C ≠ s₁.heap.objs.size + 1; lia, by show C ≠ s₁.heap.objs.size; lia, aC, by show a ≠ s₁.heap.objs.size + 1; lia, by show a ≠ s₁.heap.objs.size; lia, D_str _ _⟩
    refine ⟨G, O, rfl, rfl, rfl, rfl, ⟨rfl, rfl⟩, gen_keep hgen fun o e => y.keep _ _ (fun q => hW _ q (.inr rfl)) (ge _ (.inr rfl)).1 (ge _ (.inr rfl)).2 e, _, hg₁, rfl, ?_⟩
    have X₁ : GI H C [some (.str x), none, none, none, none] (s₁.setGen g .running) := X.far (I.setGen rfl) fun o e => y.keep _ _ (fun q => hW _ q (.inl rfl)) (ge _ (.inl rfl)).1 (ge _ (.inl rfl)).2 e
    exact iec_start (G := G) K hge R.in1 V hC ha aC X₁ (Nat.lt_of_lt_of_le hal hs) rfl rfl rfl (Since.refl (bare_set I.bare rfl) (by simpa [Shared.setGen] using lt_of_gs hg₁))
  have aM : ∀ G : GP, GPOk prog w H G → ¬ G.M G.a := fun G O q => by
    rcases q with q | q | q
    · exact O.aC q
    · exact O.ae q
    · exact O.ai q
  have hroom : A.depth < recursionLimit := by have := R.depth; lia
  cases hds : escGo false 0 x with
  | nil =>
    intro s₁ W y hW I
    obtain ⟨G, O, rfl, rfl, rfl, rfl, hei, hg1, gs, hgs1, hgo⟩ := key s₁ W y hW I
    rw [hds] at hgo
    refine (gen_next (H := H) (pre := []) (ds := []) R.handled hroom (I.lim Gl) hg1 hgs1 hds hgo big (aM G O)).mono fun rv s₂ z => ?_
    refine ⟨z.1, z.2.1.mono fun b q => ?_, z.2.2⟩
    rcases q with q | q | q
    · exact .inl (.inl q)
    · exact .inr (by rw [show b = G.e from q, hei.1]; exact Nat.le_succ _)
    · exact .inr (by rw [show b = G.it from q, hei.2]; exact Nat.le_refl _)
  | cons d ds =>
    intro s₁ W y hW I
    obtain ⟨G, O, rfl, rfl, rfl, rfl, hei, hg1, gs, hgs1, hgo⟩ := key s₁ W y hW I
    rw [hds] at hgo
    refine (gen_next (H := H) (pre := []) (ds := d :: ds) R.handled hroom (I.lim Gl) hg1 hgs1 hds hgo big (aM G O)).mono fun rv s₂ z => ?_
    refine xEAAAA z ?_; clear z; rintro v rfl y2 hb rep X2
    refine ⟨v, G.Z, rfl, fun b q => q.elim .inl fun q => .inr (.inl q), fun b q => ?_, y2.mono fun b q => ?_, hb, rep, fun t => own_gen X2.gen v t, gnexts_susp O R.handled hroom Gl ds s₂ X2⟩
    · have hlt := X2.lt b q
      rcases q with q | q | q | q
      · exact .inl (.inl q)
      · exact .inl (.inr q)
      · exact .inr ⟨by rw [show b = G.e from q, hei.1]; exact Nat.le_succ _, hlt⟩
      · exact .inr ⟨by rw [show b = G.it from q, hei.2]; exact Nat.le_refl _, hlt⟩
    · rcases q with q | q | q
      · exact .inl (.inl q)
      · exact .inr (by rw [show b = G.e from q, hei.1]; exact Nat.le_succ _)
      · exact .inr (by rw [show b = G.it from q, hei.2]; exact Nat.le_refl _)
end
structure GFnOk (H : Heap) (a : Addr) (fd : FuncData) : Prop where
  obj : ∃ o, o.data = .func fd ∧ a ≠ T1 ∧ a ≠ T2 ∧ H.get? a = some o
  code : ∀ s, Inv H s → s.heap.CodeRec fd.code fd.qualname
  names : fd.scope.names = nm_iec
  kind : fd.scope.kind = .function
  co : fd.scope.isCoroutine = false
  gen : fd.scope.isGenerator = true
  clo : fd.closure = []
  glob : fd.globals = mainGlobals
  blt : fd.builtins = builtinsNs
  body : fd.body = .stmts iec_body
  bind : ∀ v : Value, bindArgs fd ⟨[v], []⟩ = pure [(("addr" : Str), v)]
section
variable {prog : Program} {w : World} {H : Heap} {tab : Nat → List intDom.V → Option intDom.V} {tok : Nat → Option intDom.D} {r : Nat} {A : Around} {s s' s₀ : Shared} {env : Env} {x : List Nat} {a : Addr} {fd : FuncData} {N : Nat}
theorem gen_call {t : Tok} (K : GFnOk H a fd) (hG : GlobIs H (ufName 7) (.ref a)) (R : Room (r + 1) A) (I : Inv H s) : Ok (model prog w) A (call (.ref a) [.str (strOf x) t]) (fun v s₁ => ∃ env, v = .ref (s.heap.objs.size + 1) ∧ Step none' s s₁ ∧ GEnv env s.heap.objs.size ∧
    GI H s.heap.objs.size [some (.str x), none, none, none, none] s₁ ∧ s₁.heap.IsGen (s.heap.objs.size + 1) s.gens.size ∧ s₁.gens[s.gens.size]? = some (.fresh (FC env)) ∧ s₁.heap.objs.size = s.heap.objs.size + 2) s := by
  refine xEAAA K.obj ?_; intro o hd hT1 hT2 ho
  have hobj : s.heap.get? a = some o := I.keep a o hT1 hT2 ho
  refine xEEA hG ?_; clear hG; intro mg mb G _
  have hlim := I.lim G
  refine wpAny_call (codeAny_call_generator (lt_depth R) hobj hd K.co K.gen K.body (K.code s I) ?_)
  rw [K.bind, K.clo]
  refine wpAny_pure (wpAny_newFunctionEnv (fun x hx => ?_) (fun x hx => ?_) (fun h' hn hs => ?_) K.kind)
  · rw [K.names] at hx
    simp [nm_iec] at hx
    rcases hx with rfl | rfl | rfl | rfl | rfl <;> simp
  · rw [K.names]
    simp at hx
    subst hx
    exact (by decide : nm_iec.lookup ("addr" : Str) = some NameKind.local)
  generalize hC : s.heap.objs.size = C at *
  have keep : ∀ b o, s.heap.get? b = some o → h'.get? b = some o := fun b o e => hs.extBut b o (fun q => by rw [q, ← hC] at e; exact absurd (Heap.lt_size e) (Nat.lt_irrefl _)) (Heap.get?_push_of_some _ e)
  have hz : h'.objs.size = C + 1 := by rw [hs.1, Heap.size_push, hC]
  have hz2 : ∀ o : Obj, (h'.push o).objs.size = C + 2 := fun o => by rw [Heap.size_push, hz]
  have keep2 : ∀ (ob : Obj) b o, s.heap.get? b = some o → (h'.push ob).get? b = some o := fun ob b o e => Heap.get?_push_of_some _ (keep b o e)
  refine ⟨hlim.keeps keep, newEnv fd.scope C fd.globals [] (fd.qualname ++ ".<locals>.") (some a) fd.code none fd.builtins, ?_, ?_, ⟨K.kind, K.glob, K.blt, rfl, fun x k h => ?_, rfl, K.co⟩, ?_, ?_, ?_, ?_⟩
  · show Value.ref h'.objs.size = _; rw [hz]
  · refine ⟨fun b o _ _ _ e => keep2 _ b o e, by rw [hz2]; lia, fun t => t.mono fun b o _ e _ => keep2 _ b o e, fun _ _ t o => o.keep t (keep2 _ _) (keep2 _ _), fun i g e => ?_, fun b => b.push rfl, rfl⟩
    have hi : i < s.gens.size := lt_of_gs e
    show (s.gens.push _)[i]? = _
    rw [Array.getElem?_push]
    rw [if_neg (by lia)]
    exact e
  · show fd.scope.names.lookup x = _
    rw [K.names]; exact h
  · refine ⟨⟨fun b o n1 n2 e => keep2 _ _ _ (I.keep b o n1 n2 e), by rw [hz2]; have := I.size; lia, I.tabs.mono fun b o _ e _ => keep2 _ b o e, I.bare.push rfl, by show 1 ≤ s.toks + 1 + 1 + 1; lia⟩, _, (hn.push _), fun y d hd => ?_⟩
    have hd' := hd
    unfold denR at hd
    refine xMap hd ?_; rintro d' h1 rfl
    refine xEEA (look_some h1) ?_; intro i k h2 h3
    match i, h2, h3 with
    | 0, h2, h3 =>
      (have zz := Option.some.inj h3; clear h3; subst zz)
      simp [nm_iec] at h2
      refine xA h2 ?_; clear h2; rintro rfl _
      refine ⟨_, rfl, fun P h => ?_⟩
      exact Eq.mpr (congrArg (Rep P h (.str (strOf x) t)) (denD (.str x))) (.str x t)
    | 1, _, h3 => exact nS h3
    | 2, _, h3 => exact nS h3
    | 3, _, h3 => exact nS h3
    | 4, _, h3 => exact nS h3
    | _ + 5, _, h3 => exact nS h3
  · rw [← hz]
    exact ⟨_, _, _, Heap.get?_push_size _ rfl, rfl, rfl, rfl⟩
  · show (s.gens.push _)[s.gens.size]? = _
    rw [Array.getElem?_push_size]
  · rw [hz2]
theorem dvs_id (xs : List DV) : intDom.dvs xs = xs := PV.denL_id xs
theorem forG_stmt {a7 : Addr} {fd7 : FuncData} {nm : Names} {P W : Addr → Prop} {σ : Sg intDom} {o : Out intDom} {B : Nat} {t : Tg} {e : Ix} {b : List St} {p1 p2 q : Pos} {f : Sg intDom → Option (Out intDom)}
    (K : Cx prog w intDom H tab tok r) (hge : GlobIs H "enumerate" (.type "enumerate")) (K7 : GFnOk H a7 fd7) (h7 : GlobIs H (ufName 7) (.ref a7)) (R : Room (r + 3) A) (ht : t.wf nm = true) (hw : e.wf nm = true) (hgl : isGl nm (ufName 7) = true)
    (hb : ∀ σ o P W s, f σ = some o → SI intDom H nm env B P W σ s → Ok (model prog w) A (execs (decS nm b) env) (SPost intDom H nm env B P W s o) s)
    (he : ev intDom tab tok N false e σ.1 = some (.str x)) (hrun : forL f t (escGo false 0 x) σ = some o) (S : SI intDom H nm env B P W σ s) :
    Ok (model prog w) A (exec (.For (t.dec nm) (.Call (.Name (ufName 7) p1) [e.dec nm] [] p2) (decS nm b) [] q) env) (SPost intDom H nm env B P W s o) s := by
  refine xEAAA K7.obj ?_; intro o7 hd7 hT1 hT2 ho7
  have X0 := On.start S.inv S.fr.view
  have R0 : Room r A := R.le (by lia)
  refine wpAny_For (Call_ (glob_go X0 hgl h7 (ufName_plain 7) (callWith_function (o := o7) (fd := fd7) (args_dec (nm := nm) (xs := [e]) (evL_ok (vs := [.str x]) (ev_ok K N) R0 (by rw [wfL, wfL]; simpa using hw) (by simp [evL, he]) X0 fun us s₁ x₁ y₁ r₁ => ⟨⟨x₁.inv.keep _ _ hT1 hT2 ho7, hd7⟩, ?_⟩))))) (fun _ => rfl)
  cases r₁ with
  | cons q1 q2 =>
  cases q2
  (refine xE (Rep.inv q1) ?_; clear q1; intro tk zq; subst zq)
  have hxx : (List.map intDom.chr x) = x := by show List.map (fun n => n) x = x; simp
  rw [hxx]
  refine Ok.any ((gen_call (r := r) (x := x) (t := tk) K7 h7 (R.le (by lia)) x₁.inv).le.mono fun v s₂ z => ?_)
  refine xA z ?_; clear z; rintro ⟨env7, rfl, y₂, V7, X7, hgen, hgs, hz⟩ l₂
  refine wpAny_pyIter_gen hgen ?_
  generalize hC : s₁.heap.objs.size = C at *
  have y02 := y₁.then y₂
  have l02 := x₁.le.trans l₂
  have S₂ := S.step0 y02 l02
  have hsC : s.heap.objs.size ≤ C := by have := y₁.size; lia
  have hHC : H.objs.size ≤ C := Nat.le_trans S.inv.size hsC
  let Z : Addr → Prop := fun b => b = C ∨ b = C + 1
  have Zn : ∀ b : Nat, Z b → C ≤ b ∧ b < C + 2 := fun b q => by
    rcases q with q | q
    · have q : b = C := q; lia
    · have q : b = C + 1 := q; lia
  have Sz : SI intDom H nm env B (fun b => P b ∧ ¬ Z b) W σ s₂ := S.lessZ (Z := Z) (fun b q => .inl (Nat.le_trans hsC (Zn b q).1)) y02 S₂.inv (fun b q => by rw [hz]; exact (Zn b q).2)
  have nx := gnexts_fresh (x := x) K hge (R.le (by lia)) V7 hHC (Nat.le_succ_of_le hHC) (Nat.succ_ne_self C) X7 (by rw [hz]; exact Nat.lt_succ_self _) hgen hgs
  have hW : ∀ b : Nat, W b → ¬ Z b := fun b q z => by have h1 := S.wlt b q; have h2 := Zn b z; lia
  refine codeAny_mono (forG_ok (g := s₁.gens.size) (I := C + 1) R0 ht hb (escGo false 0 x) σ o (fun b => P b ∧ ¬ Z b) W Z s₂ s₂ none' hrun (by rw [dvs_id]; exact nx) (.refl _ _) (fun _ q => q.elim) (lt_of_gs hgs) Sz (fun b p => p.2) hW (fun n c hk hc => ?_) (fun b q => ⟨Nat.le_trans hHC (Zn b q).1, by rw [hz]; exact (Zn b q).2⟩)) fun res s₃ z => ?_
  · obtain ⟨c', cv, a, ic, _⟩ := S.fr.view.cell n hk
    rw [hc] at a; (have zz := Option.some.inj a; clear a; subst zz)
    have hl : c < s.heap.objs.size := ic.lt
    exact ⟨fun z => absurd (Nat.lt_of_lt_of_le hl hsC) (Nat.not_lt.mpr (Zn c z).1), Nat.lt_of_lt_of_le hl y02.size⟩
  · obtain ⟨fl, rfl, hbare, P', W', Z', hZ', y3, G, m⟩ := z
    refine ⟨P', W', step_unmask y02 y3 (gens_size y₁) hbare (fun _ q => q.elim) (fun b q => ?_), ⟨fun b l p => G.1 b (Nat.lt_of_lt_of_le l y02.size) ⟨p, fun z => absurd (Nat.lt_of_lt_of_le l hsC) (Nat.not_lt.mpr (Zn b z).1)⟩, fun b l => G.2.1 b (Nat.lt_of_lt_of_le l y02.size), fun b l p => (G.2.2 b (Nat.lt_of_lt_of_le l y02.size) p).imp (fun z => z.1) id⟩, m⟩
    exact q.imp id fun z => Nat.le_trans hsC (Zn b z).1
end
noncomputable def genFor (st : St) : Option (Tg × Ix × List St) := match st with
  | .for t it b _ => (match it with | .user f xs _ _ => if f = 7 then o1 xs fun e => some (t, e, b) else none | _ => none)
  | _ => none
theorem genFor_i {P : St → Prop} {x : Tg × Ix × List St} (h : ∀ p1 p2 q, P (.for x.1 (.user 7 [x.2.1] p1 p2) x.2.2 q)) {st : St} (e : genFor st = some x) : P st := by
  cases st with
  | «for» t it b q =>
    cases it with
    | user f xs p1 p2 =>
      refine ifS e fun hf e => o1_i e fun e' he e => ?_
      subst hf he
      cases Option.some.inj e
      exact h _ _ _
    | _ => exact nS e
  | _ => exact nS e
noncomputable def sxG (evn : Ev intDom) (wf n : Nat) : List St → Sg intDom → Option (Out intDom)
  | [], σ => some (.next σ)
  | st :: l, σ => (match genFor st with
    | some x => (evn false x.2.1 σ.1).bind fun d => oS d fun y => forL (sx evn wf n x.2.2) x.1 (escGo false 0 y) σ
    | none => sxStep evn wf (sx evn wf n) st σ).bind fun o => (match o with | .next σ' => sxG evn wf n l σ' | .ret d => some (.ret d))
section
variable {prog : Program} {w : World} {H : Heap} {tab : Nat → List intDom.V → Option intDom.V} {tok : Nat → Option intDom.D} {r : Nat} {A : Around} {s s' s₀ : Shared} {env : Env} {nm : Names} {N wf n : Nat} {B : Nat}
theorem sxG_ok {a7 : Addr} {fd7 : FuncData} (K : Cx prog w intDom H tab tok r) (hge : GlobIs H "enumerate" (.type "enumerate")) (K7 : GFnOk H a7 fd7) (h7 : GlobIs H (ufName 7) (.ref a7)) (R : Room (r + 3) A) :
    ∀ (l : List St) (σ : Sg intDom) (o : Out intDom) (P W : Addr → Prop) (s : Shared), wfS nm l = true → sxG (ev intDom tab tok N) wf n l σ = some o → SI intDom H nm env B P W σ s → Ok (model prog w) A (execs (decS nm l) env) (SPost intDom H nm env B P W s o) s := by
  have R0 : Room r A := R.le (by lia)
  intro l
  induction l with
  | nil => intro σ o P W s _ he S; (have zz := Option.some.inj he; clear he; subst zz); exact wpAny_execs_nil ⟨P, W, .refl _ _, .refl _ _ _, S⟩
  | cons st l ih =>
    intro σ o P W s hw he S
    have hw := and2 hw
    refine xBind he ?_; clear he; intro o1 h1 he
    have key : Ok (model prog w) A (exec (st.dec nm) env) (SPost intDom H nm env B P W s o1) s := by
      cases hg : genFor st with
      | none =>
        rw [hg] at h1
        exact st_ok K R0 (fun l σ o P W s hw h S => sx_ok K R0 n l σ o P W s hw h S) st σ o1 P W s hw.1 h1 S
      | some x =>
        rw [hg] at h1
        refine genFor_i (P := fun st => st.wf nm = true → Ok _ A (exec (st.dec nm) env) _ s) (fun p1 p2 q hw => ?_) hg hw.1
        have hw1 := and3 hw
        have hw2 := and2 hw1.1.2
        refine xBind h1 fun d h2 h3 => ?_
        refine oS_i h3 ?_; clear h3; rintro y rfl h3
        exact forG_stmt K hge K7 h7 R hw1.1.1 (and2 hw2.2).1 hw2.1 (fun σ o P W s h S => sx_ok K R0 n x.2.2 σ o P W s hw1.2 h S) h2 h3 S
    refine wpAny_execs_cons (key.mono fun fl s₁ z => ?_)
    refine xEEAA z ?_; clear z; intro P' W' y G q
    cases o1 with
    | next σ' =>
      refine q.nx ?_; clear q; rintro rfl q
      exact (ih σ' o P' W' s₁ hw.2 he q).mono fun fl s₂ z => z.next y G
    | ret d =>
      (have zz := Option.some.inj he; clear he; subst zz)
      refine q.rt ?_; rintro v rfl
      exact ⟨P', W', y, G, q⟩
noncomputable def runG (evn : Ev intDom) (wf n : Nat) (nm : Names) (np : Nat) (l : List St) (xs : List intDom.V) : Option intDom.V :=
  if xs.length = np then retV (sxG evn wf n l (sg0 intDom nm xs)) else none
theorem funG_ok {a a7 : Addr} {fd fd7 : FuncData} {np : Nat} {l : List St} {f : Nat} (C : Cx prog w intDom H tab tok r) (hge : GlobIs H "enumerate" (.type "enumerate")) (K7 : GFnOk H a7 fd7) (h7 : GlobIs H (ufName 7) (.ref a7)) (K : FnOk H a fd nm np l) (hG : GlobIs H (ufName f) (.ref a)) :
    UserOk prog w intDom H (r + 4) f (runG (ev intDom tab tok N) wf n nm np l) := by
  refine fun_core (r := r + 3) (fun σ o => sxG (ev intDom tab tok N) wf n l σ = some o) K hG (fun xs d he => ?_) fun A env B P W s σ o _ R he S => sxG_ok C hge K7 h7 R l _ _ P W s K.wf he S
  exact ifS he fun hlen he => ⟨hlen, retV_i he⟩
end
noncomputable def isT (T : Addr) : Prop := T = T1 ∨ T = T2
noncomputable def tl (T : Addr) : Nat := if T = T1 then 32 else 47
noncomputable def tq (T : Addr) : Str := if T = T1 then "_int2digits.<locals>.inner" else "_digits2int.<locals>.inner"
theorem tabs_iff {h : Heap} : Tabs h ↔ ∀ T, isT T → TabOk T (tl T) 4 (tq T) h := by
  constructor
  · rintro ⟨a, b⟩ T (rfl | rfl)
    · exact a
    · exact b
  · exact fun k => ⟨k T1 (.inl rfl), k T2 (.inr rfl)⟩
structure NFn (fd : FuncData) (nm : Names) (np : Nat) (body : List Stmt) : Prop where
  names : fd.scope.names = nm
  kind : fd.scope.kind = .function
  co : fd.scope.isCoroutine = false
  gen : fd.scope.isGenerator = false
  glob : fd.globals = mainGlobals
  blt : fd.builtins = builtinsNs
  body : fd.body = .stmts body
  bind : ∀ vs : List Value, vs.length = np → bindArgs fd ⟨vs, []⟩ = pure (((nm.take np).map (·.1)).zip vs)
  nodup : (nm.map (·.1)).Nodup
  kinds : (nm.take np).all (fun x => x.2 == .local) = true
  npl : np ≤ nm.length
  noCell : ∀ x ∈ nm, x.2 ≠ .cell
theorem zip_lookup : ∀ {ps : List Str} {vs : List Value} {i : Nat} {x : Str} {v : Value}, ps.Nodup → ps[i]? = some x → vs[i]? = some v → (ps.zip vs).lookup x = some v
  | [], _, i, _, _, _, e, _ => by simp at e
  | p :: ps, [], i, _, _, _, _, e => by simp at e
  | p :: ps, v :: vs, 0, x, v', hd, e1, e2 => by
    simp at e1 e2
    subst e1 e2
    rw [List.zip_cons_cons, List.lookup_cons]
    simp
  | p :: ps, v :: vs, i + 1, x, v', hd, e1, e2 => by
    rw [List.nodup_cons] at hd
    have e1' : ps[i]? = some x := by simpa using e1
    have hne : x ≠ p := fun q => hd.1 (q ▸ List.mem_of_getElem? e1')
    rw [List.zip_cons_cons, List.lookup_cons]
    have : (x == p) = false := by simpa using hne
    rw [this]
    exact zip_lookup hd.2 e1' (by simpa using e2)
theorem lookup_of_mem {l : List (Str × Value)} : ∀ {x : Str} {v : Value}, (l.map (·.1)).Nodup → (x, v) ∈ l → l.lookup x = some v := by
  induction l with
  | nil => intro x v _ h; cases h
  | cons p l ih =>
    intro x v hd h
    obtain ⟨y, u⟩ := p
    rw [List.map_cons, List.nodup_cons] at hd
    rw [List.lookup_cons]
    rcases List.mem_cons.mp h with e | h
    · cases e; simp
    · have hne : x ≠ y := fun q => hd.1 (q ▸ List.mem_map_of_mem (f := (·.1)) h)
      have : (x == y) = false := by simpa using hne
      rw [this]
      exact ih hd.2 h
theorem mem_of_lookupV {l : List (Str × Value)} : ∀ {x : Str} {v : Value}, l.lookup x = some v → (x, v) ∈ l := by
  induction l with
  | nil => intro x v h; exact nS h
  | cons p l ih =>
    intro x v h
    obtain ⟨y, u⟩ := p
    rw [List.lookup_cons] at h
    cases q : x == y with
    | true => rw [q] at h; (have zz := Option.some.inj h; clear h; subst zz); rw [eq_of_beq q]; exact .head _
    | false => rw [q] at h; exact .tail _ (ih h)
theorem lookup_rev {l : List (Str × Value)} {x : Str} {v : Value} (hd : (l.map (·.1)).Nodup) (h : l.lookup x = some v) : l.reverse.lookup x = some v := by
  have hm := mem_of_lookupV h
  exact lookup_of_mem (by rw [List.map_reverse]; exact (List.reverse_perm _).nodup_iff.mpr hd) (List.mem_reverse.mpr hm)
section
variable {prog : Program} {w : World} {dm : Dom} {H : Heap} {r : Nat} {A : Around} {s : Shared} {P : Addr → Prop}
noncomputable def nonesN (dm : Dom) (n : Nat) : List (Option (List dm.V)) := List.replicate n none
theorem nonesN_o {dm : Dom} {nm : Names} {n : Nat} (x : Str) : denO dm nm (nonesN dm n) x = none := by
  unfold denO
  cases q : look nm (nonesN dm n) x with
  | none => rfl
  | some d =>
    refine xEEA (look_some q) ?_; intro i k _ h
    unfold nonesN at h
    rw [List.getElem?_replicate] at h
    split at h <;> exact nS h
theorem nest_call {F : Addr} {o : Obj} {fd : FuncData} {nm : Names} {np : Nat} {stmts : List Stmt} {ρ : List (Option dm.V)} {vs : List Value} {Q : Value → Shared → Prop} (K : NFn fd nm np stmts) (hF : s.heap.get? F = some o) (hd : o.data = .func fd)
    (hcode : s.heap.CodeRec fd.code fd.qualname) (R : Room (r + 1) A) (I : Inv H s) (hlim : s.heap.NoLimit) (hlen : vs.length = np) (hρ : ρ.length = nm.length)
    (harg : ∀ (i : Nat) d, i < np → ρ[i]? = some (some d) → ∃ v, vs[i]? = some v ∧ Rep P s.heap v (dm.dv d)) (hmid : ∀ (i : Nat) d (x : Str), np ≤ i → nm[i]? = some (x, NameKind.local) → ρ[i]? = some (some d) → False)
    (hfree : ∀ (i : Nat) (x : Str), nm[i]? = some (x, NameKind.free) → ∃ (c : Addr) (cv : Option Value), fd.closure.lookup x = some c ∧ s.heap.IsCell c cv ∧ ∀ d, ρ[i]? = some (some d) → ∃ v, cv = some v ∧ Rep P s.heap v (dm.dv d))
    (hinj : ∀ x y c, fd.closure.lookup x = some c → fd.closure.lookup y = some c → x = y) (hf : ∀ b, s.heap.objs.size ≤ b → P b)
    (hbody : ∀ (env : Env) (s₁ : Shared), env.cells = fd.closure → Step none' s s₁ → LeS s s₁ → SI dm H nm env s.heap.objs.size (fun b => P b ∧ b ≠ s.heap.objs.size) (fun b => b = s.heap.objs.size) (ρ, nonesN dm nm.length) s₁ →
      Ok (model prog w) (A.deeper env) (execs stmts env) (fun fl s' => Q (match fl with | .ret v => v | _ => .none) s') s₁) : Ok (model prog w) A (call (.ref F) vs) Q s := by
  have hpn : ((nm.take np).map (·.1)).Nodup := by
    have := K.nodup
    rw [← List.take_append_drop np nm, List.map_append] at this
    exact (List.nodup_append.mp this).1
  have hps : ((nm.take np).map (·.1)).length = np := by rw [List.length_map, List.length_take]; exact Nat.min_eq_left K.npl
  have pk : ∀ i x k, i < np → nm[i]? = some (x, k) → k = .local := fun i x k hi hx => by
    have := List.all_eq_true.mp K.kinds (x, k) (List.mem_of_getElem? (i := i) (by rw [List.getElem?_take, if_pos hi]; exact hx))
    simpa using this
  have psAt : ∀ {i : Nat} {x : Str} {k : NameKind}, nm[i]? = some (x, k) → i < np → ((nm.take np).map (·.1))[i]? = some x := fun {i x k} h hi => by
    rw [List.getElem?_map, List.getElem?_take, if_pos hi, h]; rfl
  have hzl : ((((nm.take np).map (·.1)).zip vs).map (·.1)) = (nm.take np).map (·.1) := by
    rw [List.map_fst_zip]; rw [hps, hlen]; exact Nat.le_refl _
  refine wpAny_call (codeAny_call_function (lt_depth R) hF hd K.co K.gen K.body hcode ?_)
  rw [K.bind vs hlen]
  refine wpAny_pure (wpAny_mono (wpAny_le (wpAny_newFunctionEnv (Q := fun env s' => env = newEnv fd.scope s.heap.objs.size fd.globals fd.closure (fd.qualname ++ ".<locals>.") (some F) fd.code none fd.builtins ∧ ∃ h' tk, s' = { s with heap := h', toks := tk } ∧
      h'.Ns s.heap.objs.size (fun x => (((nm.take np).map (·.1)).zip vs).reverse.lookup x) ∧ (∀ b o, s.heap.get? b = some o → h'.get? b = some o) ∧ h'.objs.size = s.heap.objs.size + 1) (fun x hx => K.noCell x (by rw [← K.names]; exact hx)) (fun y hy => ?_) (fun h' hn hs => ?_) K.kind)) (fun env s₁ z => ?_) fun _ _ z => z)
  · obtain ⟨x, v⟩ := y
    have hm := (List.of_mem_zip hy).1
    refine xEA (List.mem_map.mp hm) ?_; rintro ⟨x', k⟩ hm' e
    dsimp only at e
    subst e
    have := List.all_eq_true.mp K.kinds _ hm'
    have hl := mem_lookup K.nodup (List.mem_of_mem_take hm')
    simp only [beq_iff_eq] at this
    subst this
    rw [K.names]; exact hl
  · refine ⟨rfl, h', _, rfl, hn, fun b o e => hs.extBut b o (Nat.ne_of_lt (Heap.lt_size e)) (Heap.get?_push_of_some _ e), by rw [hs.1, Heap.size_push]⟩
  refine xA z ?_; clear z; rintro ⟨rfl, h', tk, rfl, hn, keep, hz⟩ le
  refine ⟨hlim.keeps keep, codeAny_func ?_⟩
  have y : Step none' s { s with heap := h', toks := tk } := .grown keep le.2
  have I₁ := I.step0 y le
  have T := I.tabs
  let env : Env := newEnv fd.scope s.heap.objs.size fd.globals fd.closure (fd.qualname ++ ".<locals>.") (some F) fd.code none fd.builtins
  have hker : ∀ x, env.kindOf x = nm.lookup x := fun x => by
    show fd.scope.names.lookup x = _
    rw [K.names]
  have up : ∀ {v : Value} {d : DV}, Rep P s.heap v d → Rep (fun b => P b ∧ b ≠ s.heap.objs.size) h' v d := fun q => rep_step T y (fun _ _ q => q) (q.weak fun b p l => ⟨p, Nat.ne_of_lt l⟩)
  have V : View nm env (fun b => P b ∧ b ≠ s.heap.objs.size) (denR dm nm ρ) h' := by
    refine ⟨K.kind, K.glob, K.blt, fun x k h => .inl (by rw [hker]; exact h), fun x d hd hk => ?_, fun x hk => ?_, fun b hb => ⟨hf b (Nat.le_trans y.size hb), fun q => absurd (Nat.lt_of_lt_of_le (by rw [hz]; exact Nat.lt_succ_self _) hb) (by rw [q]; exact Nat.lt_irrefl _)⟩, hinj, K.nodup⟩
    · unfold denR at hd
      refine xMap hd ?_; rintro d' h1 rfl
      refine xEEA (look_some h1) ?_; intro i k h2 h3
      have h4 : ρ[i]? = some (some d') := by
        cases q : ρ[i]? with
        | none => rw [q] at h3; exact nS h3
        | some o => rw [q] at h3; cases o with
          | none => exact nS h3
          | some d2 => (have zz := Option.some.inj h3; clear h3; subst zz); rfl
      rw [lookup_at K.nodup h2] at hk
      (have zz := Option.some.inj hk; clear hk; subst zz)
      rcases Nat.lt_or_ge i np with hi | hi
      · refine xEA (harg i d' hi h4) ?_; intro v e1 e2
        exact ⟨_, v, hn, lookup_rev (by rw [hzl]; exact hpn) (zip_lookup hpn (psAt h2 hi) e1), up e2⟩
      · exact (hmid i d' x hi h2 h4).elim
    · rcases hk with hk | hk
      · exact absurd rfl (K.noCell _ (mem_of_lookup hk))
      · refine xE (List.getElem?_of_mem (mem_of_lookup hk)) ?_; intro i hi
        refine xEEAA (hfree i x hi) ?_; intro c cv h1 h2 h3
        refine ⟨c, cv, h1, let ⟨o, e, q⟩ := h2; ⟨o, keep _ _ e, q⟩, fun d hd => ?_⟩
        unfold denR at hd
        refine xMap hd ?_; rintro d' h4 rfl
        rw [look_at K.nodup hi] at h4
        have h5 : ρ[i]? = some (some d') := by
          cases q : ρ[i]? with
          | none => rw [q] at h4; exact nS h4
          | some o => rw [q] at h4; cases o with
            | none => exact nS h4
            | some d2 => (have zz := Option.some.inj h4; clear h4; subst zz); rfl
        refine xEA (h3 d' h5) ?_; intro v e1 e2
        exact ⟨v, e1, up e2⟩
  have S : SI dm H nm env s.heap.objs.size (fun b => P b ∧ b ≠ s.heap.objs.size) (fun b => b = s.heap.objs.size) (ρ, nonesN dm nm.length) { s with heap := h', toks := tk } := by
    refine ⟨I₁, ⟨V, fun b p q => p.2 q, fun b q => Nat.le_of_eq (show b = _ from q).symm, rfl, ⟨_, hn⟩, fun x c _ h => absurd rfl (K.noCell _ (mem_of_lookup h)), fun x xs e => ?_, fun x y xs ys m a e => ?_⟩, I.size, ?_, fun b q => by rw [show b = _ from q, hz]; exact Nat.lt_succ_self _⟩
    · rw [show ((ρ, nonesN dm nm.length) : Sg dm).2 = nonesN dm nm.length from rfl, nonesN_o] at e; exact nS e
    · rw [show ((ρ, nonesN dm nm.length) : Sg dm).2 = nonesN dm nm.length from rfl, nonesN_o] at e; exact nS e
    · show ρ.length = (nonesN dm nm.length).length
      unfold nonesN; rw [hρ, List.length_replicate]
  exact wpAny_mono (hbody env { s with heap := h', toks := tk } rfl y le S) (fun fl s₂ z => z) fun _ _ z => z.elim
theorem nest_def {T c cI : Addr} {env : Env} {name : Str} {params : Arguments} {body : List Stmt} {scope : Scope} {clos : List (Str × Addr)} {pos : Pos} {cv : Option Value} {mg : Str → Option Value} (hT : isT T) (hd0 : params.defaults = []) (hk0 : params.kw_defaults = []) (ha : annTrees params none env = [])
    (hcl : closureFor scope env = pure clos) (hge : env.globals = mainGlobals) (hkind : env.scope.kind = .function) (hcode : env.code = .ref c) (C : CodeHd s.heap c T) (hg : s.heap.Ns mainGlobals mg) (hgT : mainGlobals ≠ T) (hb : s.heap.BuiltinsAt mg T) (hq : qualnameIn env name name = tq T) (hl : pos.line = tl T) (hcol : pos.col = 4)
    (hk : env.kindOf name = some .cell) (hcI : env.cells.lookup name = some cI) (hcell : s.heap.IsCell cI cv) (Tb : Tabs s.heap) :
    Ok (model prog w) A (exec (.FunctionDef name params body [] none [] scope none name pos) env) (fun f s' => f = .next ∧ ∃ F c' doc pm ctv, s'.heap.get? F = some (fnMade name (tq T) params body scope clos doc pm c' ctv) ∧ s'.heap.CodeRec (.ref c') (tq T) ∧ s'.heap.IsCell cI (some (.ref F)) ∧
      s.heap.objs.size ≤ F ∧ Step (fun b => b = cI) s s') s := by
  have cT : cI ≠ T1 ∧ cI ≠ T2 := by
    refine xEA hcell ?_; clear hcell; intro o ho hd
    exact Tb.ne ho fun vs q => by rw [hd] at q; cases q
  have clt : cI < s.heap.objs.size := hcell.lt
  refine nestDef_K hd0 hk0 ha ?_
  rw [hq]
  refine xEA ((tabs_iff.mp Tb) T hT) ?_; intro ps hP hps
  have rec_ne : ∀ {c₂ : Addr} {q : Str}, s.heap.CodeRec (.ref c₂) q → c₂ ≠ T := by
    rintro c₂ q ⟨c₃, o, vs, t, e, ho, hd, hv⟩ rfl
    cases e
    rw [hP] at ho; (have zz := Option.some.inj ho; clear ho; subst zz)
    cases hd
    rcases hps with rfl | ⟨c', rfl, _⟩
    · simp at hv
    · simp [rawInt] at hv
  have stp : ∀ (h2 h3 : Heap) (tk : Tok) (ps2 : Array Value) (c₂ : Addr), (∀ b o, b ≠ T → s.heap.get? b = some o → h2.get? b = some o) → s.heap.objs.size ≤ h2.objs.size → h2.get? T = some (tabObj #[rawInt (tl T), rawInt 4, .ref c₂]) → h2.CodeRec (.ref c₂) (tq T) →
      (s.heap.get? T = some (tabObj #[rawInt (tl T), rawInt 4, .ref c₂]) ∨ s.heap.objs.size ≤ c₂) → Heap.SameBut cI h2 h3 → Step (fun b => b = cI) s { s with heap := h3, toks := tk } := by
    intro h2 h3 tk ps2 c₂ k2 z2 hT2 hrec hold hs
    have k3 : ∀ b o, b ≠ T → b ≠ cI → s.heap.get? b = some o → h3.get? b = some o := fun b o n1 n2 e => hs.extBut b o n2 (k2 b o n1 e)
    have nT : T ≠ cI := fun q => by rcases hT with h | h <;> rw [h] at q <;> first | exact cT.1 q.symm | exact cT.2 q.symm
    have hT3 : h3.get? T = some (tabObj #[rawInt (tl T), rawInt 4, .ref c₂]) := hs.extBut _ _ nT hT2
    have hrec3 : h3.CodeRec (.ref c₂) (tq T) := by
      obtain ⟨c₃, o, vs, t, e, ho, hd, hv⟩ := hrec
      cases e
      refine ⟨c₂, o, vs, t, rfl, hs.extBut _ _ (fun q => ?_) ho, hd, hv⟩
      refine xEA hcell ?_; clear hcell; intro o' ho' hd'
      have nT' : cI ≠ T := fun q => nT q.symm
      have := k2 _ _ nT' ho'
      rw [← q, ho] at this
      (have zz := Option.some.inj this; clear this; subst zz)
      rw [hd] at hd'; cases hd'
    refine ⟨fun b o n1 n2 n3 e => k3 b o (fun q => by rcases hT with h | h <;> rw [h] at q <;> first | exact n2 q | exact n3 q) n1 e, by show s.heap.objs.size ≤ h3.objs.size; rw [hs.1]; exact z2, fun _ => tabs_iff.mpr fun T' hT' => ?_, fun I hI _ off => ?_, fun _ _ e => e, id, rfl⟩
    · by_cases q : T' = T
      · subst q
        exact ⟨_, hT3, .inr ⟨c₂, rfl, hrec3⟩⟩
      · refine xEA ((tabs_iff.mp Tb) T' hT') ?_; intro ps' h1 h2'
        have n : T' ≠ cI := fun q => by rcases hT' with h | h <;> rw [h] at q <;> first | exact cT.1 q.symm | exact cT.2 q.symm
        refine ⟨ps', k3 _ _ q n h1, h2'.imp id ?_⟩
        rintro ⟨c', e, hr⟩
        refine ⟨c', e, ?_⟩
        have hne := rec_ne hr
        obtain ⟨c₃, o, vs, t, e2, ho, hd, hv⟩ := hr
        cases e2
        exact ⟨c', o, vs, t, rfl, k3 _ _ hne (fun q => by (refine xEA hcell ?_; clear hcell; intro o' ho' hd'); rw [q, ho'] at ho; (have zz := Option.some.inj ho; clear ho; subst zz); rw [hd'] at hd; cases hd) ho, hd, hv⟩
    · intro ps' hp hm
      have key : ∀ T', isT T' → h3.get? T' = some (tabObj ps') → False := fun T' hT' e => by
        by_cases q : T' = T
        · subst q
          rw [hT3] at e
          have e : #[rawInt (tl T'), rawInt 4, .ref c₂] = ps' := by
            have := congrArg Obj.data (Option.some.inj e)
            exact Data.fields.inj this
          rcases hold with hold | hold
          · exact off ps' (e ▸ (by rcases hT' with h | h <;> rw [h] at hold ⊢ <;> first | exact .inl hold | exact .inr hold)) hm
          · subst e
            simp [rawInt] at hm
            rw [hm] at hI
            exact absurd hI (Nat.not_lt.mpr hold)
        · refine xEA ((tabs_iff.mp Tb) T' hT') ?_; intro ps2 h1 _
          have n : T' ≠ cI := fun q => by rcases hT' with h | h <;> rw [h] at q <;> first | exact cT.1 q.symm | exact cT.2 q.symm
          have h1' := k3 _ _ q n h1
          rw [e] at h1'
          have e2 : ps' = ps2 := by
            have := congrArg Obj.data (Option.some.inj h1')
            exact Data.fields.inj this
          subst e2
          exact off ps' (by rcases hT' with h | h <;> rw [h] at h1 <;> first | exact .inl h1 | exact .inr h1) hm
      rcases hp with hp | hp
      · exact key _ (.inl rfl) hp
      · exact key _ (.inr rfl) hp
  rcases hps with rfl | ⟨c₁, rfl, hrec⟩
  · refine makeFunction_K (mg := mg) hcl hge hg hcode C hP trivial rfl hgT hb fun c' ctv doc h' tk hx hge' hlt hrec htb => ?_
    have hcell' : (h'.push (fnMade name (tq T) params body scope clos doc ((mg "__name__").getD .none) c' ctv)).IsCell cI cv := by
      refine xEA hcell ?_; clear hcell; intro o ho hd
      exact ⟨o, Heap.get?_push_of_some _ (hx _ _ (fun q => by rcases hT with h | h <;> rw [h] at q <;> first | exact cT.1 q | exact cT.2 q) ho), hd⟩
    refine wpAny_storeName_cell hkind hk hcI hcell' fun h3 hc3 hs => ⟨rfl, h'.objs.size, c', doc, (mg "__name__").getD .none, ctv, ?_, ?_, hc3, ?_, ?_⟩
    · exact hs.extBut _ _ (fun q => by have := Nat.lt_of_lt_of_le clt hge'; rw [← q] at this; exact absurd (Nat.lt_trans hlt this) (Nat.lt_irrefl _)) (Heap.get?_push_size _ rfl)
    · obtain ⟨c₃, o, vs, t, e2, ho, hd, hv⟩ := hrec
      cases e2
      exact ⟨c', o, vs, t, rfl, hs.extBut _ _ (Nat.ne_of_gt (Nat.lt_of_lt_of_le clt hge')) (Heap.get?_push_of_some _ ho), hd, hv⟩
    · exact Nat.le_trans hge' (Nat.le_of_lt hlt)
    · have htb' : (h'.push (fnMade name (tq T) params body scope clos doc ((mg "__name__").getD .none) c' ctv)).get? T = some (tabObj #[rawInt (tl T), rawInt 4, .ref c']) := by
        have := Heap.get?_push_of_some (fnMade name (tq T) params body scope clos doc ((mg "__name__").getD .none) c' ctv) htb
        rw [this]
        rw [hl, hcol]
        rfl
      refine stp _ h3 tk #[] c' (fun b o n e => Heap.get?_push_of_some _ (hx b o n e)) (by rw [Heap.size_push]; exact Nat.le_succ_of_le (Nat.le_trans hge' (Nat.le_of_lt hlt))) htb' ?_ (.inr hge') hs
      obtain ⟨c₃, o, vs, t, e2, ho, hd, hv⟩ := hrec
      exact ⟨c₃, o, vs, t, e2, Heap.get?_push_of_some _ ho, hd, hv⟩
  · have hf : codeAmong pos (#[rawInt (tl T), rawInt 4, Value.ref c₁] : Array Value).toList = some (.ref c₁) := by
      simp [codeAmong, rawInt, hl, hcol]
    refine makeFunction_hit (mg := mg) hcl hge hg hcode C hP (by simp [TriplesOk, rawInt]) hf hb fun ctv doc h' tk hk' hz => ?_
    have hcell' : (h'.push (fnMade name (tq T) params body scope clos doc ((mg "__name__").getD .none) c₁ ctv)).IsCell cI cv := by
      refine xEA hcell ?_; clear hcell; intro o ho hd
      exact ⟨o, Heap.get?_push_of_some _ (hk' _ _ ho), hd⟩
    refine wpAny_storeName_cell hkind hk hcI hcell' fun h3 hc3 hs => ⟨rfl, h'.objs.size, c₁, doc, (mg "__name__").getD .none, ctv, ?_, ?_, hc3, hz, ?_⟩
    · exact hs.extBut _ _ (Nat.ne_of_gt (Nat.lt_of_lt_of_le clt hz)) (Heap.get?_push_size _ rfl)
    · obtain ⟨c₃, o, vs, t, e2, ho, hd, hv⟩ := hrec
      cases e2
      exact ⟨c₁, o, vs, t, rfl, hs.extBut _ _ (fun q => by (refine xEA hcell ?_; clear hcell; intro o' ho' hd'); rw [q, ho'] at ho; (have zz := Option.some.inj ho; clear ho; subst zz); rw [hd'] at hd; cases hd) (Heap.get?_push_of_some _ (hk' _ _ ho)), hd, hv⟩
    · refine stp _ h3 tk #[] c₁ (fun b o n e => Heap.get?_push_of_some _ (hk' b o e)) (by rw [Heap.size_push]; exact Nat.le_succ_of_le hz) (Heap.get?_push_of_some _ (hk' _ _ hP)) ?_ (.inl hP) hs
      obtain ⟨c₃, o, vs, t, e2, ho, hd, hv⟩ := hrec
      exact ⟨c₃, o, vs, t, e2, Heap.get?_push_of_some _ (hk' _ _ ho), hd, hv⟩
end
noncomputable def nm_i2d : Names := [("a", .«local»), ("n", .cell), ("a_digits", .cell), ("inner", .cell), ("len", .globalImplicit)]
noncomputable def nm_i2dn : Names := [("x", .«local»), ("L", .«local»), ("R", .«local»), ("mid", .«local»), ("shift", .«local»), ("upper", .«local»), ("lower", .«local»), ("a_digits", .free), ("inner", .free), ("n", .free)]
noncomputable def pr_i2dn : Arguments := ⟨[], [⟨"x", none, ⟨32, 14, 32, 15⟩⟩, ⟨"L", none, ⟨32, 17, 32, 18⟩⟩, ⟨"R", none, ⟨32, 20, 32, 21⟩⟩], none, [], [], none, []⟩
noncomputable def sc_i2dn : Scope := { kind := .function, names := nm_i2dn, isGenerator := false, isCoroutine := false, more := [] }
noncomputable def i2dn_s2 : St := .asg 3 ⟨36, 8, 36, 11⟩ (.bin (.bin (.var 1 ⟨36, 14, 36, 15⟩) .Add (.var 2 ⟨36, 18, 36, 19⟩) ⟨36, 14, 36, 19⟩) .RShift (.int 1 0 ⟨36, 23, 36, 24⟩) ⟨36, 14, 36, 24⟩) ⟨36, 8, 36, 24⟩
noncomputable def i2dn_s3 : St := .asg 4 ⟨37, 8, 37, 13⟩ (.bin (.bin (.var 3 ⟨37, 17, 37, 20⟩) .Sub (.var 1 ⟨37, 23, 37, 24⟩) ⟨37, 17, 37, 24⟩) .Mult (.var 9 ⟨37, 28, 37, 29⟩) ⟨37, 16, 37, 29⟩) ⟨37, 8, 37, 29⟩
noncomputable def i2dn_s4 : St := .asg 5 ⟨38, 8, 38, 13⟩ (.bin (.var 0 ⟨38, 16, 38, 17⟩) .RShift (.var 4 ⟨38, 21, 38, 26⟩) ⟨38, 16, 38, 26⟩) ⟨38, 8, 38, 26⟩
noncomputable def i2dn_s5 : St := .asg 6 ⟨39, 8, 39, 13⟩ (.bin (.var 0 ⟨39, 16, 39, 17⟩) .BitXor (.bin (.var 5 ⟨39, 20, 39, 25⟩) .LShift (.var 4 ⟨39, 29, 39, 34⟩) ⟨39, 20, 39, 34⟩) ⟨39, 16, 39, 34⟩) ⟨39, 8, 39, 34⟩
noncomputable def i2dn_t : Ix := (.cmp (.bin (.var 1 ⟨33, 11, 33, 12⟩) .Add (.int 1 0 ⟨33, 15, 33, 16⟩) ⟨33, 11, 33, 16⟩) .Eq (.var 2 ⟨33, 20, 33, 21⟩) ⟨33, 11, 33, 21⟩)
noncomputable def i2dn_ix : Ix := (.var 1 ⟨34, 21, 34, 22⟩)
noncomputable def i2dn_x : Ix := (.var 0 ⟨34, 26, 34, 27⟩)
noncomputable def i2dn_set : Stmt := .Assign [.Subscript (.Name "a_digits" ⟨34, 12, 34, 20⟩) (i2dn_ix.dec nm_i2dn) ⟨34, 12, 34, 23⟩] (i2dn_x.dec nm_i2dn) ⟨34, 12, 34, 27⟩
noncomputable def i2dn_s1 : Stmt := .If (i2dn_t.dec nm_i2dn) [i2dn_set, .Return none ⟨35, 12, 35, 18⟩] [] ⟨33, 8, 35, 18⟩
noncomputable def i2dn_c1a : List Ix := [(.var 6 ⟨40, 14, 40, 19⟩), (.var 1 ⟨40, 21, 40, 22⟩), (.var 3 ⟨40, 24, 40, 27⟩)]
noncomputable def i2dn_c1 : Stmt := .Expr (.Call (.Name "inner" ⟨40, 8, 40, 13⟩) (decL nm_i2dn i2dn_c1a) [] ⟨40, 8, 40, 28⟩) ⟨40, 8, 40, 28⟩
noncomputable def i2dn_c2a : List Ix := [(.var 5 ⟨41, 14, 41, 19⟩), (.var 3 ⟨41, 21, 41, 24⟩), (.var 2 ⟨41, 26, 41, 27⟩)]
noncomputable def i2dn_c2 : Stmt := .Expr (.Call (.Name "inner" ⟨41, 8, 41, 13⟩) (decL nm_i2dn i2dn_c2a) [] ⟨41, 8, 41, 28⟩) ⟨41, 8, 41, 28⟩
noncomputable def i2dn_body : List Stmt := [i2dn_s1, i2dn_s2.dec nm_i2dn, i2dn_s3.dec nm_i2dn, i2dn_s4.dec nm_i2dn, i2dn_s5.dec nm_i2dn, i2dn_c1, i2dn_c2]
noncomputable def i2d_s1 : St := .asg 2 ⟨30, 4, 30, 12⟩ (.rep (.int 0 0 ⟨30, 16, 30, 17⟩) (.bin (.bin (.bin (.meth .bitlen (.var 0 ⟨30, 23, 30, 24⟩) [] ⟨30, 23, 30, 35⟩ ⟨30, 23, 30, 37⟩) .Add (.var 1 ⟨30, 40, 30, 41⟩) ⟨30, 23, 30, 41⟩) .Sub (.int 1 0 ⟨30, 44, 30, 45⟩) ⟨30, 23, 30, 45⟩) .FloorDiv (.var 1 ⟨30, 50, 30, 51⟩) ⟨30, 22, 30, 51⟩) ⟨30, 15, 30, 18⟩ ⟨30, 15, 30, 52⟩) ⟨30, 4, 30, 52⟩
noncomputable def i2d_def : Stmt := .FunctionDef "inner" pr_i2dn i2dn_body [] none [] sc_i2dn none "inner" ⟨32, 4, 41, 28⟩
noncomputable def i2d_t : Ix := (.var 0 ⟨42, 7, 42, 8⟩)
noncomputable def i2d_a0 : Ix := (.var 0 ⟨43, 14, 43, 15⟩)
noncomputable def i2d_a1 : Ix := (.int 0 0 ⟨43, 17, 43, 18⟩)
noncomputable def i2d_if : Stmt := .If (i2d_t.dec nm_i2d) [.Expr (.Call (.Name "inner" ⟨43, 8, 43, 13⟩) [i2d_a0.dec nm_i2d, i2d_a1.dec nm_i2d, .Call (.Name "len" ⟨43, 20, 43, 23⟩) [.Name "a_digits" ⟨43, 24, 43, 32⟩] [] ⟨43, 20, 43, 33⟩] [] ⟨43, 8, 43, 34⟩) ⟨43, 8, 43, 34⟩] [] ⟨42, 4, 43, 34⟩
noncomputable def i2d_r : Stmt := .Return (some (.Name "a_digits" ⟨44, 11, 44, 19⟩)) ⟨44, 4, 44, 19⟩
noncomputable def i2d_body : List Stmt := [i2d_s1.dec nm_i2d, i2d_def, i2d_if, i2d_r]
noncomputable def nm_d2i : Names := [("digits", .cell), ("n", .cell), ("inner", .cell), ("len", .globalImplicit)]
noncomputable def nm_d2in : Names := [("L", .«local»), ("R", .«local»), ("mid", .«local»), ("shift", .«local»), ("digits", .free), ("inner", .free), ("n", .free)]
noncomputable def pr_d2in : Arguments := ⟨[], [⟨"L", none, ⟨47, 14, 47, 15⟩⟩, ⟨"R", none, ⟨47, 17, 47, 18⟩⟩], none, [], [], none, []⟩
noncomputable def sc_d2in : Scope := { kind := .function, names := nm_d2in, isGenerator := false, isCoroutine := false, more := [] }
noncomputable def d2in_s1 : St := .ite (.cmp (.bin (.var 0 ⟨48, 11, 48, 12⟩) .Add (.int 1 0 ⟨48, 15, 48, 16⟩) ⟨48, 11, 48, 16⟩) .Eq (.var 1 ⟨48, 20, 48, 21⟩) ⟨48, 11, 48, 21⟩) [.ret (.sub (.var 4 ⟨49, 19, 49, 25⟩) (.var 0 ⟨49, 26, 49, 27⟩) ⟨49, 19, 49, 28⟩) ⟨49, 12, 49, 28⟩] [] ⟨48, 8, 49, 28⟩
noncomputable def d2in_s2 : St := .asg 2 ⟨50, 8, 50, 11⟩ (.bin (.bin (.var 0 ⟨50, 14, 50, 15⟩) .Add (.var 1 ⟨50, 18, 50, 19⟩) ⟨50, 14, 50, 19⟩) .RShift (.int 1 0 ⟨50, 23, 50, 24⟩) ⟨50, 14, 50, 24⟩) ⟨50, 8, 50, 24⟩
noncomputable def d2in_s3 : St := .asg 3 ⟨51, 8, 51, 13⟩ (.bin (.bin (.var 2 ⟨51, 17, 51, 20⟩) .Sub (.var 0 ⟨51, 23, 51, 24⟩) ⟨51, 17, 51, 24⟩) .Mult (.var 6 ⟨51, 28, 51, 29⟩) ⟨51, 16, 51, 29⟩) ⟨51, 8, 51, 29⟩
noncomputable def d2in_a : List Ix := [(.var 2 ⟨52, 22, 52, 25⟩), (.var 1 ⟨52, 27, 52, 28⟩)]
noncomputable def d2in_b : List Ix := [(.var 0 ⟨52, 48, 52, 49⟩), (.var 2 ⟨52, 51, 52, 54⟩)]
noncomputable def d2in_sh : Ix := (.var 3 ⟨52, 33, 52, 38⟩)
noncomputable def d2in_r : Stmt := .Return (some (.BinOp (.BinOp (.Call (.Name "inner" ⟨52, 16, 52, 21⟩) (decL nm_d2in d2in_a) [] ⟨52, 16, 52, 29⟩) .LShift (d2in_sh.dec nm_d2in) ⟨52, 16, 52, 38⟩) .Add (.Call (.Name "inner" ⟨52, 42, 52, 47⟩) (decL nm_d2in d2in_b) [] ⟨52, 42, 52, 55⟩) ⟨52, 15, 52, 55⟩)) ⟨52, 8, 52, 55⟩
noncomputable def d2in_body : List Stmt := [d2in_s1.dec nm_d2in, d2in_s2.dec nm_d2in, d2in_s3.dec nm_d2in, d2in_r]
noncomputable def d2i_def : Stmt := .FunctionDef "inner" pr_d2in d2in_body [] none [] sc_d2in none "inner" ⟨47, 4, 52, 55⟩
noncomputable def d2i_t : Ix := (.var 0 ⟨53, 36, 53, 42⟩)
noncomputable def d2i_a : List Ix := [(.int 0 0 ⟨53, 17, 53, 18⟩), (.fn .len [(.var 0 ⟨53, 24, 53, 30⟩)] ⟨53, 20, 53, 23⟩ ⟨53, 20, 53, 31⟩)]
noncomputable def d2i_z : Ix := (.int 0 0 ⟨53, 48, 53, 49⟩)
noncomputable def d2i_r : Stmt := .Return (some (.IfExp (d2i_t.dec nm_d2i) (.Call (.Name "inner" ⟨53, 11, 53, 16⟩) (decL nm_d2i d2i_a) [] ⟨53, 11, 53, 32⟩) (d2i_z.dec nm_d2i) ⟨53, 11, 53, 49⟩)) ⟨53, 4, 53, 49⟩
noncomputable def d2i_body : List Stmt := [d2i_def, d2i_r]
section
variable {dm : Dom} {evn : Ev dm} {wf n : Nat} {σ σ' σ'' : Sg dm} {e : Ix} {d : dm.V} {o : Out dm}
theorem evX_some (h : evn false e σ.1 = some d) : evX evn e σ = some (d, σ) := by unfold evX; rw [h]; rfl
theorem evB_some {b : Bool} (h : evn true e σ.1 = some (.bool b)) : evB evn e σ = some b := by unfold evB; rw [h]; rfl
theorem sx_ret {sxr : List St → Sg dm → Option (Out dm)} {q : Pos} (h : evn false e σ.1 = some d) : sxStep evn wf sxr (.ret e q) σ = some (.ret d) := by
  show (evX evn e σ).map (fun x => Out.ret x.1) = _
  rw [evX_some h]; rfl
theorem sx_ite {sxr : List St → Sg dm → Option (Out dm)} {q : Pos} {c : Bool} {a b : List St} (h : evn true e σ.1 = some (.bool c)) (h2 : sxr (if c then a else b) σ = some o) : sxStep evn wf sxr (.ite e a b q) σ = some o := by
  show (evB evn e σ).bind _ = _
  rw [evB_some h]; exact h2
theorem sx_asg {sxr : List St → Sg dm → Option (Out dm)} {i : Nat} {p q : Pos} (hc : isComp e = false) (h : evn false e σ.1 = some d) (h2 : setV σ i d = some σ') : sxStep evn wf sxr (.asg i p e q) σ = some (.next σ') := by
  show (evA evn e σ).bind _ = _
  have : evA evn e σ = some (d, σ) := by
    unfold evA; rw [hc]; exact evX_some h
  rw [this]
  show (setV σ i d).map Out.next = _
  rw [h2]; rfl
theorem sx_nil : sx evn wf (n + 1) [] σ = some (.next σ) := rfl
theorem sx_cons_ret {st : St} {l : List St} (h : sxStep evn wf (sx evn wf n) st σ = some (.ret d)) : sx evn wf (n + 1) (st :: l) σ = some (.ret d) := by
  show (sxStep evn wf (sx evn wf n) st σ).bind _ = _
  rw [h]; rfl
theorem sx_cons_next {st : St} {l : List St} (h : sxStep evn wf (sx evn wf n) st σ = some (.next σ')) (h2 : sx evn wf (n + 1) l σ' = some o) : sx evn wf (n + 1) (st :: l) σ = some o := by
  show (sxStep evn wf (sx evn wf n) st σ).bind _ = _
  rw [h]; exact h2
end
theorem mulOk_small {a b : Int} (h : a.natAbs < 2 ^ 64) : mulOkB a b = true := by
  unfold mulOkB
  have := intBits_le_iff.mpr h
  have e : decide (Builtin.Int.intBits a > shortFactorBits) = false := decide_eq_false (by unfold shortFactorBits; lia)
  rw [e]; rfl
theorem getP_list {xs : List intDom.V} {k : Nat} {d : intDom.V} (hk : k ≤ 1000000000) (h : xs[k]? = some d) : getP intDom (.list xs) (.int (k : Int)) = some d := by
  show (if fitI (k : Int) = true then ((seqIndex? (k : Int) xs.length).bind (xs[·]?)).bind some else none) = _
  have hl : k < xs.length := (List.getElem?_eq_some_iff.mp h).1
  rw [if_pos (by unfold fitI; simp; lia), seqIndex_nat (by lia) (by lia)]
  exact congrArg (Option.bind · some) h
noncomputable def valD (n : Nat) : List Int → Int
  | [] => 0
  | d :: r => d + 2 ^ n * valD n r
theorem valD_append (n : Nat) : ∀ a b : List Int, valD n (a ++ b) = valD n a + 2 ^ (n * a.length) * valD n b
  | [], b => by simp [valD]
  | d :: a, b => by
    rw [List.cons_append, valD, valD, valD_append n a b, List.length_cons, Nat.mul_succ, Nat.add_comm (n * a.length) n, Int.pow_add, Int.mul_add, Int.mul_assoc, Int.add_assoc]
theorem pow_pos' (n : Nat) : (0 : Int) < 2 ^ n := Int.pow_pos (by decide)
theorem valD_bound {n : Nat} : ∀ {l : List Int}, (∀ d ∈ l, 0 ≤ d ∧ d < 2 ^ n) → 0 ≤ valD n l ∧ valD n l < 2 ^ (n * l.length)
  | [], _ => ⟨Int.le_refl _, by simp [valD]⟩
  | d :: l, h => by
    have ⟨h1, h2⟩ := h d (.head _)
    have ⟨h3, h4⟩ := valD_bound (n := n) (l := l) fun x hx => h x (.tail _ hx)
    have hp := pow_pos' n
    rw [valD, List.length_cons, Nat.mul_succ, Int.pow_add]
    refine ⟨Int.add_nonneg h1 (Int.mul_nonneg (Int.le_of_lt hp) h3), ?_⟩
    have h5 : valD n l + 1 ≤ 2 ^ (n * l.length) := h4
    have h6 := Int.mul_le_mul_of_nonneg_left h5 (Int.le_of_lt hp)
    rw [Int.mul_comm (2 ^ (n * l.length)) (2 ^ n)]
    rw [Int.mul_add, Int.mul_one] at h6
    lia
noncomputable abbrev slc (ds : List Int) (l r : Nat) : List Int := (ds.drop l).take (r - l)
theorem slc_split {ds : List Int} {l m r : Nat} (h1 : l ≤ m) (h2 : m ≤ r) : slc ds l r = slc ds l m ++ slc ds m r := by
  unfold slc
  have e : r - l = (m - l) + (r - m) := by lia
  rw [e, List.take_add, List.drop_drop, show l + (m - l) = m by lia]
theorem slc_len {ds : List Int} {l r : Nat} (h : r ≤ ds.length) : (slc ds l r).length = r - l := by
  unfold slc; rw [List.length_take, List.length_drop]; lia
theorem slc_mem {ds : List Int} {l r : Nat} {d : Int} (h : d ∈ slc ds l r) : d ∈ ds := List.mem_of_mem_drop (List.mem_of_mem_take h)
theorem slc_one {ds : List Int} {l : Nat} {d : Int} (h : ds[l]? = some d) (n : Nat) : valD n (slc ds l (l + 1)) = d := by
  have hl := (List.getElem?_eq_some_iff.mp h).1
  have : slc ds l (l + 1) = [d] := by
    unfold slc
    rw [show l + 1 - l = 1 by lia, List.drop_eq_getElem_cons hl]
    rw [List.getElem?_eq_getElem hl] at h
    (have zz := Option.some.inj h; clear h; subst zz)
    rfl
  rw [this]; simp [valD]
noncomputable abbrev ρd (l r : Int) (m sh : Option intDom.V) (ds : List Int) (n : Int) : List (Option intDom.V) := [some (.int l), some (.int r), m, sh, some (.list (ds.map PV.int)), none, some (.int n)]
section
variable {tab : Nat → List intDom.V → Option intDom.V} {tok : Nat → Option intDom.D} {l r n : Int} {m sh : Option intDom.V} {ds : List Int} {N7 : List (Option (List intDom.V))}
theorem d2_s1_leaf {k : Nat} {d : Int} (hk : k ≤ 1000000000) (hd : ds[k]? = some d) : sxStep (ev intDom tab tok 6) 0 (sx (ev intDom tab tok 6) 0 2) d2in_s1 (ρd (k : Int) ((k : Int) + 1) m sh ds n, N7) = some (.ret (.int d)) := by
  have e : (ds.map (PV.int : Int → DV))[k]? = some (.int d) := by rw [List.getElem?_map, hd]; rfl
  refine sx_ite (c := true) ?_ (sx_cons_ret (sx_ret (getP_list hk e)))
  show some (PV.bool (decide ((k : Int) + 1 = (k : Int) + 1))) = _
  rw [decide_eq_true rfl]
theorem d2_s1_next (h : l + 1 ≠ r) : sxStep (ev intDom tab tok 6) 0 (sx (ev intDom tab tok 6) 0 2) d2in_s1 (ρd l r m sh ds n, N7) = some (.next (ρd l r m sh ds n, N7)) := by
  refine sx_ite (c := false) ?_ sx_nil
  show some (PV.bool (decide (l + 1 = r))) = _
  rw [decide_eq_false h]
noncomputable abbrev N7' : List (Option (List intDom.V)) := nonesN intDom 7
theorem d2_s2 : sxStep (ev intDom tab tok 6) 0 (sx (ev intDom tab tok 6) 0 2) d2in_s2 (ρd l r none none ds n, N7') = some (.next (ρd l r (some (.int ((l + r).fdiv (2 ^ (1 : Int).toNat)))) none ds n, N7')) := sx_asg rfl rfl rfl
theorem d2_s3 {q : Int} (h : mulOkB (q - l) n = true) : sxStep (ev intDom tab tok 6) 0 (sx (ev intDom tab tok 6) 0 2) d2in_s3 (ρd l r (some (.int q)) none ds n, N7') = some (.next (ρd l r (some (.int q)) (some (.int ((q - l) * n))) ds n, N7')) := by
  refine sx_asg (d := .int ((q - l) * n)) rfl ?_ rfl
  show (if mulOkB (q - l) n = true then some ((q - l) * n) else none).map PV.int = _
  rw [if_pos h]; rfl
end
noncomputable abbrev tab0 : Nat → List intDom.V → Option intDom.V := fun _ _ => none
noncomputable abbrev tok0 : Nat → Option intDom.D := fun _ => none
noncomputable abbrev intL (ds : List Int) : DV := .list (ds.map PV.int)
structure Nest (s : Shared) (F : Addr) (fd : FuncData) : Prop where
  fn : ∃ o, s.heap.get? F = some o ∧ o.data = .func fd
  code : s.heap.CodeRec fd.code fd.qualname
theorem Nest.step {s s' : Shared} {F : Addr} {fd : FuncData} {W : Addr → Prop} (x : Nest s F fd) (T : Tabs s.heap) (y : Step W s s') (hF : ¬ W F) (hc : ∀ c, fd.code = .ref c → ¬ W c) : Nest s' F fd := by
  obtain ⟨⟨o, e, hd⟩, hcode⟩ := x
  have n := T.ne e (fun vs q => by rw [hd] at q; cases q)
  refine ⟨⟨o, y.keep _ _ hF n.1 n.2 e, hd⟩, ?_⟩
  obtain ⟨c, oc, vs, t, e2, hoc, hdc, hv⟩ := hcode
  have nc : ∀ T', isT T' → c ≠ T' := fun T' hT' q => by
    refine xEA ((tabs_iff.mp T) T' hT') ?_; intro ps hP hps
    rw [q, hP] at hoc
    (have zz := Option.some.inj hoc; clear hoc; subst zz); cases hdc
    rcases hps with rfl | ⟨c', rfl, _⟩
    · simp at hv
    · simp [rawInt] at hv
  exact ⟨c, oc, vs, t, e2, y.keep _ _ (hc c e2) (nc _ (.inl rfl)) (nc _ (.inr rfl)) hoc, hdc, hv⟩
section
variable {prog : Program} {w : World} {H : Heap} {r : Nat} {A : Around} {s s' : Shared} {env : Env}
structure D2F (P : Addr → Prop) (F cD cI cN : Addr) (fd : FuncData) (ds : List Int) (n : Nat) (s : Shared) : Prop where
  fn : Nest s F fd
  cd : ∃ v, s.heap.IsCell cD (some v) ∧ Rep P s.heap v (intL ds)
  ci : s.heap.IsCell cI (some (.ref F))
  cn : ∃ t, s.heap.IsCell cN (some (.int (n : Int) t))
theorem D2F.step0 {P P' : Addr → Prop} {F cD cI cN : Addr} {fd : FuncData} {ds : List Int} {n : Nat} (x : D2F P F cD cI cN fd ds n s) (T : Tabs s.heap) (y : Step none' s s') (hP : ∀ b, P b → b < s.heap.objs.size → P' b) : D2F P' F cD cI cN fd ds n s' where
  fn := x.fn.step T y id (fun _ _ q => q)
  cd := let ⟨v, a, q⟩ := x.cd; ⟨v, cell_step T y id a, rep_step T y (fun _ _ q => q) (q.weak hP)⟩
  ci := cell_step T y id x.ci
  cn := let ⟨t, a⟩ := x.cn; ⟨t, cell_step T y id a⟩
theorem mem_of_lookupA {l : List (Str × Addr)} : ∀ {x : Str} {v : Addr}, l.lookup x = some v → (x, v) ∈ l := by
  induction l with
  | nil => intro x v h; exact nS h
  | cons p l ih =>
    intro x v h
    obtain ⟨y, u⟩ := p
    rw [List.lookup_cons] at h
    cases q : x == y with
    | true => rw [q] at h; (have zz := Option.some.inj h; clear h; subst zz); rw [eq_of_beq q]; exact .head _
    | false => rw [q] at h; exact .tail _ (ih h)
theorem inj3 {x1 x2 x3 : Str} {c1 c2 c3 : Addr} (h : c3 ≠ c2 ∧ c3 ≠ c1 ∧ c2 ≠ c1) : ∀ x y c, ([(x1, c1), (x2, c2), (x3, c3)] : List (Str × Addr)).lookup x = some c → ([(x1, c1), (x2, c2), (x3, c3)] : List (Str × Addr)).lookup y = some c → x = y := by
  intro x y c hx hy
  have hx := mem_of_lookupA hx
  have hy := mem_of_lookupA hy
  simp only [List.mem_cons, Prod.mk.injEq, List.not_mem_nil, or_false] at hx hy
  refine xAA h ?_; clear h; intro h1 h2 h3
  rcases hx with ⟨rfl, rfl⟩ | ⟨rfl, rfl⟩ | ⟨rfl, rfl⟩ <;> rcases hy with ⟨rfl, e⟩ | ⟨rfl, e⟩ | ⟨rfl, e⟩ <;> first | rfl | exact absurd e h1 | exact absurd e h2 | exact absurd e h3 | exact absurd e.symm h1 | exact absurd e.symm h2 | exact absurd e.symm h3
theorem nest_eval {c : Addr} {F : Addr} {fd : FuncData} {nm : Names} {P W : Addr → Prop} {σ : Sg intDom} {B : Nat} {p1 p2 : Pos} {xs : List Ix} {ds : List intDom.V} {N : Nat} {Q : Value → Shared → Prop} (K : Cx prog w intDom H tab0 tok0 0) (R : Room 0 A) (S : SI intDom H nm env B P W σ s)
    (hk : env.kindOf ("inner" : Str) = some .free ∨ env.kindOf ("inner" : Str) = some .cell) (hc : env.cells.lookup ("inner" : Str) = some c) (hcell : s.heap.IsCell c (some (.ref F))) (hF : Nest s F fd) (hw : wfL nm xs = true) (he : evL (fun e => ev intDom tab0 tok0 N false e σ.1) xs = some ds)
    (k : ∀ vs s', Step none' s s' → LeS s s' → SI intDom H nm env B P W σ s' → RepL P s'.heap vs (intDom.dvs ds) → Nest s' F fd → Ok (model prog w) A (call (.ref F) vs) Q s') :
    Ok (model prog w) A (eval (.Call (.Name ("inner" : Str) p1) (decL nm xs) [] p2) env) Q s := by
  have hT := S.inv.tabs
  have go : Ok (model prog w) A (callWith p2 (.ref F) [] (backTo p2 (starEach (decL nm xs) env)) []) Q s := by
    refine xEA hF.fn ?_; intro o ho hd
    refine callWith_function (o := o) (fd := fd) (args_dec (evL_ok (ev_ok K N) R hw he (On.start S.inv S.fr.view) fun us s₁ x₁ y₁ r₁ => ?_))
    have hF' := hF.step hT y₁ id (fun _ _ q => q)
    have n := hT.ne ho (fun vs q => by rw [hd] at q; cases q)
    exact ⟨⟨y₁.keep _ _ id n.1 n.2 ho, hd⟩, k us s₁ y₁ x₁.le (S.step0 y₁ x₁.le) r₁ hF'⟩
  rcases hk with hk | hk
  · exact Call_ (wpAny_Name (wpAny_loadName_free S.fr.view.kind hk hc hcell go (by decide)) (by decide))
  · exact Call_ (wpAny_Name (wpAny_loadName_cell S.fr.view.kind hk hc hcell go) (by decide))
theorem step_in {L : Addr} {s₁ s₂ : Shared} (y : Step none' s s₁) (y2 : Step (fun b => b = L) s₁ s₂) (h : s.heap.objs.size ≤ L) : Step none' s s₂ := y.trans y2 fun b q => .inr (by rw [show b = L from q]; exact h)
section
variable {dm : Dom} {nm : Names} {ρ : List (Option dm.V)} {np : Nat} {h : Heap} {P : Addr → Prop}
theorem mid_of (h : ((nm.zip ρ).drop np).all (fun p => !(p.1.2 == NameKind.local && p.2.isSome)) = true) (i : Nat) (d : dm.V) (x : Str) (hi : np ≤ i) (hx : nm[i]? = some (x, NameKind.local)) (hρ : ρ[i]? = some (some d)) : False := by
  have hz : ((nm.zip ρ).drop np)[i - np]? = some ((x, NameKind.local), some d) := by
    rw [List.getElem?_drop, Nat.add_sub_cancel' hi]
    exact List.getElem?_zip_eq_some.mpr ⟨hx, hρ⟩
  exact bF (List.all_eq_true.mp h _ (List.mem_of_getElem? hz))
theorem arg_of {vs : List Value} {ds : List dm.V} (r : RepL P h vs (dm.dvs ds)) (e : ρ.take np = ds.map some) (i : Nat) (d : dm.V) (hi : i < np) (hρ : ρ[i]? = some (some d)) : ∃ v, vs[i]? = some v ∧ Rep P h v (dm.dv d) := by
  have h1 : (ds.map some)[i]? = some (some d) := by rw [← e, List.getElem?_take, if_pos hi]; exact hρ
  rw [List.getElem?_map] at h1
  refine r.get ?_
  show (PV.denL dm.den dm.chr ds)[i]? = _
  rw [PV.denL_eq, List.getElem?_map, xMap h1 fun a ha hb => ha.trans hb]
  rfl
noncomputable abbrev FreeR (dm : Dom) (cl : List (Str × Addr)) (P : Addr → Prop) (h : Heap) (x : Str) (k : dm.V → Prop) : Prop := ∃ (c : Addr) (cv : Option Value), cl.lookup x = some c ∧ h.IsCell c cv ∧ ∀ d, k d → ∃ v, cv = some v ∧ Rep P h v (dm.dv d)
theorem free3 {cl : List (Str × Addr)} {a b c : (Str × NameKind) × Option dm.V} (e : (nm.zip ρ).filter (fun p => p.1.2 == NameKind.free) = [a, b, c]) (hl : nm.length = ρ.length) (ha : FreeR dm cl P h a.1.1 fun d => a.2 = some d) (hb : FreeR dm cl P h b.1.1 fun d => b.2 = some d) (hc : FreeR dm cl P h c.1.1 fun d => c.2 = some d) (i : Nat) (x : Str) (hx : nm[i]? = some (x, NameKind.free)) :
    FreeR dm cl P h x fun d => ρ[i]? = some (some d) := by
  have l := (List.getElem?_eq_some_iff.mp hx).1
  have ho : ρ[i]? = some (ρ[i]'(hl ▸ l)) := List.getElem?_eq_getElem _
  generalize ρ[i]'(hl ▸ l) = o at ho
  have m : ((x, NameKind.free), o) ∈ [a, b, c] := e ▸ List.mem_filter.mpr ⟨List.mem_of_getElem? (List.getElem?_zip_eq_some.mpr ⟨hx, ho⟩), rfl⟩
  have k : FreeR dm cl P h x fun d => o = some d := by
    rcases List.mem_cons.mp m with q | m
    · subst q; exact ha
    · rcases List.mem_cons.mp m with q | m
      · subst q; exact hb
      · have q := List.mem_singleton.mp m
        subst q; exact hc
  rw [ho]
  exact k.imp fun _ k => k.imp fun _ k => ⟨k.1, k.2.1, fun d e => k.2.2 d (Option.some.inj e)⟩
end
theorem d2_enter {F cD cI cN : Addr} {fd : FuncData} {ds : List Int} {n : Nat} (KF : NFn fd nm_d2in 2 d2in_body) (hcl : fd.closure = [(("n" : Str), cN), (("inner" : Str), cI), (("digits" : Str), cD)]) (hne : cD ≠ cI ∧ cD ≠ cN ∧ cI ≠ cN)
    {mg mb : Str → Option Value} (Gl : Glo H mg mb) {l m : Int} {P : Addr → Prop} {t1 t2 : Tok} {Q : Value → Shared → Prop} (R : Room (r + 1) A) (I : Inv H s) (hf : ∀ b, s.heap.objs.size ≤ b → P b) (D : D2F P F cD cI cN fd ds n s)
    (hbody : ∀ (env : Env) (s₁ : Shared), env.cells = fd.closure → Step none' s s₁ → LeS s s₁ → SI intDom H nm_d2in env s.heap.objs.size (fun b => P b ∧ b ≠ s.heap.objs.size) (fun b => b = s.heap.objs.size) (ρd l m none none ds n, N7') s₁ →
      Ok (model prog w) (A.deeper env) (execs d2in_body env) (fun fl s' => Q (match fl with | .ret v => v | _ => .none) s') s₁) : Ok (model prog w) A (call (.ref F) [.int l t1, .int m t2]) Q s := by
  obtain ⟨⟨o, ho, hd⟩, hcode⟩ := D.fn
  refine xEA D.cd ?_; intro vD hcD rD
  refine xE D.cn ?_; intro tN hcN
  refine nest_call (dm := intDom) (P := P) (ρ := ρd l m none none ds n) KF ho hd hcode R I (I.lim Gl) rfl rfl ?_ ?_ ?_ (hcl ▸ inj3 hne) hf hbody
  · exact arg_of (ds := [PV.int l, PV.int m]) (.cons (.int _ _) (.cons (.int _ _) .nil)) rfl
  · exact mid_of rfl
  · exact hcl ▸ free3 rfl rfl ⟨cD, _, rfl, hcD, fun d e => ⟨_, rfl, Option.some.inj e ▸ Eq.mpr (congrArg (Rep P s.heap vD) (denD _)) rD⟩⟩ ⟨cI, _, rfl, D.ci, fun d e => nS e⟩ ⟨cN, _, rfl, hcN, fun d e => ⟨_, rfl, Option.some.inj e ▸ .int _ _⟩⟩
theorem st1_ok {nm : Names} {st : St} {σ : Sg intDom} {o : Out intDom} {B N m : Nat} {P W : Addr → Prop} (K : Cx prog w intDom H tab0 tok0 0) (R : Room 0 A) (hw : st.wf nm = true) (he : sxStep (ev intDom tab0 tok0 N) 0 (sx (ev intDom tab0 tok0 N) 0 m) st σ = some o) (S : SI intDom H nm env B P W σ s) :
    Ok (model prog w) A (exec (st.dec nm) env) (SPost intDom H nm env B P W s o) s := st_ok K R (fun l σ o P W s hw h S => sx_ok K R m l σ o P W s hw h S) st σ o P W s hw he S
theorem exec_next {nm : Names} {st : St} {σ σ' : Sg intDom} {B N m : Nat} {P W : Addr → Prop} {rest : List Stmt} {Q : Flow → Shared → Prop} (K : Cx prog w intDom H tab0 tok0 0) (R : Room 0 A) (hw : st.wf nm = true) (he : sxStep (ev intDom tab0 tok0 N) 0 (sx (ev intDom tab0 tok0 N) 0 m) st σ = some (.next σ')) (S : SI intDom H nm env B P W σ s)
    (k : ∀ s' P' W', Step W s s' → LeS s s' → Grow P W s.heap.objs.size P' W' → SI intDom H nm env B P' W' σ' s' → Ok (model prog w) A (execs rest env) Q s') : Ok (model prog w) A (execs (st.dec nm :: rest) env) Q s := by
  refine wpAny_execs_cons ((st1_ok K R hw he S).le.mono fun fl s' z => ?_)
  refine xA z ?_; clear z; rintro ⟨P', W', y, G, q⟩ l
  cases fl with
  | next => exact k s' P' W' y l G q
  | cont => exact q.elim
  | brk => exact q.elim
  | ret v => exact q.elim
theorem exec_ret {nm : Names} {st : St} {σ : Sg intDom} {d : intDom.V} {B N m : Nat} {P W : Addr → Prop} {rest : List Stmt} {Q : Flow → Shared → Prop} (K : Cx prog w intDom H tab0 tok0 0) (R : Room 0 A) (hw : st.wf nm = true) (he : sxStep (ev intDom tab0 tok0 N) 0 (sx (ev intDom tab0 tok0 N) 0 m) st σ = some (.ret d)) (S : SI intDom H nm env B P W σ s)
    (k : ∀ v s' P', Step W s s' → Rep P' s'.heap v (intDom.dv d) → Q (.ret v) s') : Ok (model prog w) A (execs (st.dec nm :: rest) env) Q s := by
  refine wpAny_execs_cons ((st1_ok K R hw he S).mono fun fl s' z => ?_)
  refine xEEAA z ?_; clear z; intro P' W' y G q
  cases fl with
  | next => exact q.elim
  | cont => exact q.elim
  | brk => exact q.elim
  | ret v => exact k v s' P' y q.2
theorem fdiv2 (k : Nat) : (k : Int).fdiv (2 ^ (1 : Int).toNat) = ((k / 2 : Nat) : Int) := by
  show (k : Int).fdiv 2 = _
  rw [Int.fdiv_eq_ediv_of_nonneg _ (by decide)]
  lia
theorem d2in_ok {F cD cI cN : Addr} {fd : FuncData} {ds : List Int} {n : Nat} (K : Cx prog w intDom H tab0 tok0 0) (KF : NFn fd nm_d2in 2 d2in_body) (hcl : fd.closure = [(("n" : Str), cN), (("inner" : Str), cI), (("digits" : Str), cD)]) (hne : cD ≠ cI ∧ cD ≠ cN ∧ cI ≠ cN) (hds : ∀ d ∈ ds, 0 ≤ d ∧ d < 2 ^ n) (hsz : ds.length ≤ 1000000) (hbits : n * ds.length ≤ 2 ^ 26)
    {mg mb : Str → Option Value} (Gl : Glo H mg mb) : ∀ (j l m : Nat) (A : Around) (s : Shared) (P : Addr → Prop) (t1 t2 : Tok), l < m → m - l ≤ 2 ^ j → m ≤ ds.length → Room (j + 1) A → Inv H s → (∀ b, s.heap.objs.size ≤ b → P b) → D2F P F cD cI cN fd ds n s →
    Ok (model prog w) A (call (.ref F) [.int (l : Int) t1, .int (m : Int) t2]) (fun v s' => ∃ t, v = .int (valD n (slc ds l m)) t ∧ Step none' s s') s := by
  have leaf : ∀ (l : Nat) (A : Around) (s : Shared) (P : Addr → Prop) (t1 t2 : Tok) (r : Nat), l < ds.length → Room (r + 1) A → Inv H s → (∀ b, s.heap.objs.size ≤ b → P b) → D2F P F cD cI cN fd ds n s →
      Ok (model prog w) A (call (.ref F) [.int (l : Int) t1, .int ((l : Int) + 1) t2]) (fun v s' => ∃ t, v = .int (valD n (slc ds l (l + 1))) t ∧ Step none' s s') s := by
    intro l A s P t1 t2 r hl R I hf D
    refine d2_enter KF hcl hne Gl R I hf D fun env s₁ hcells y le S => ?_
    have R0 : Room 0 (A.deeper env) := (R.deeper env).le (by lia)
    have hd' : ds[l]? = some ds[l] := List.getElem?_eq_getElem hl
    refine exec_ret K R0 (by decide) (d2_s1_leaf (by lia) hd') S fun v s₂ P' y2 rep => ?_
    rw [slc_one hd' n]
    (refine xE (Rep.inv rep) ?_; clear rep; intro zt zq; subst zq)
    exact ⟨_, rfl, step_in y y2 (Nat.le_refl _)⟩
  intro j
  induction j with
  | zero =>
    intro l m A s P t1 t2 h1 h2 h3 R I hf D
    have : m = l + 1 := by have : (2 : Nat) ^ 0 = 1 := rfl; lia
    subst this
    exact leaf l A s P t1 t2 0 h3 R I hf D
  | succ j ih =>
    intro l m A s P t1 t2 h1 h2 h3 R I hf D
    by_cases hlm : m = l + 1
    · subst hlm
      exact leaf l A s P t1 t2 (j + 1) h3 R I hf D
    refine d2_enter KF hcl hne Gl R I hf D fun env s₁ hcells y le S => ?_
    have Rj := R.deeper env
    have R0 : Room 0 (A.deeper env) := Rj.le (by lia)
    obtain ⟨q, hq⟩ : ∃ q, q = (l + m) / 2 := ⟨_, rfl⟩
    have hlq : l < q := by lia
    have hqm : q < m := by lia
    have hqe : ((l : Int) + (m : Int)).fdiv (2 ^ (1 : Int).toNat) = (q : Int) := by
      have := fdiv2 (l + m)
      rw [hq, ← this]; push_cast; rfl
    refine exec_next K R0 (by decide) (d2_s1_next (by lia)) S fun s₂ P2 W2 y2 l2 G2 S2 => ?_
    refine exec_next K R0 (by decide) d2_s2 S2 fun s₃ P3 W3 y3 l3 G3 S3 => ?_
    rw [hqe] at S3
    refine exec_next K R0 (by decide) (d2_s3 (mulOk_small (by lia))) S3 fun s₄ P4 W4 y4 l4 G4 S4 => ?_
    have y13 := step_next y2 G2 y3
    have G13 := G2.trans G3 y2.size
    have y14 := step_next y13 G13 y4
    have y04 : Step none' s s₄ := step_in y y14 (Nat.le_refl _)
    have D4 : D2F P F cD cI cN fd ds n s₄ := D.step0 I.tabs y04 (fun b p _ => p)
    have hf4 : ∀ b, s₄.heap.objs.size ≤ b → P b := fun b h => hf b (Nat.le_trans y04.size h)
    have hk : ∀ {P W σ s}, SI intDom H nm_d2in env (s.heap.objs.size) P W σ s → True := fun _ => trivial
    have hkind := (S4.fr.view.names "inner" .free (by decide)).imp id (fun z => z.2)
    have hcl' : env.cells.lookup ("inner" : Str) = some cI := by rw [hcells, hcl]; rfl
    have hv1 := valD_bound (n := n) (l := slc ds q m) fun d hd => hds d (slc_mem hd)
    rw [slc_len h3] at hv1
    have hv2 := valD_bound (n := n) (l := slc ds l q) fun d hd => hds d (slc_mem hd)
    rw [slc_len (by lia)] at hv2
    have hpow : (2 : Int) ^ (n * (m - q)) * 2 ^ (n * (q - l)) = 2 ^ (n * (m - l)) := by
      rw [← Int.pow_add, ← Nat.mul_add]; congr 2; lia
    have hval : valD n (slc ds l m) = valD n (slc ds q m) * 2 ^ (n * (q - l)) + valD n (slc ds l q) := by
      rw [slc_split (Nat.le_of_lt hlq) (Nat.le_of_lt hqm), valD_append, slc_len (by lia), Int.mul_comm]
      lia
    refine wpAny_execs_cons (wpAny_Return_some (wpAny_BinOp (wpAny_BinOp (nest_eval (c := cI) K R0 S4 hkind hcl' D4.ci D4.fn (by decide) (ds := [.int (q : Int), .int (m : Int)]) (N := 6) rfl fun vs s₅ y5 l5 S5 r5 F5 => ?_))))
    cases r5 with
    | cons q1 q2 =>
    cases q2 with
    | cons q2 q3 =>
    cases q3
    (refine xE (Rep.inv q1) ?_; clear q1; intro zt zq; subst zq); (refine xE (Rep.inv q2) ?_; clear q2; intro zt zq; subst zq)
    have D5 := D4.step0 S4.inv.tabs y5 (P' := P) (fun b p _ => p)
    refine (ih q m (A.deeper env) s₅ P _ _ hqm (by have : 2 ^ (j + 1) = 2 * 2 ^ j := Nat.pow_succ' ..; lia) h3 Rj S5.inv (fun b h => hf4 b (Nat.le_trans y5.size h)) D5).le.mono fun v s₆ z => ?_
    refine xA z ?_; clear z; rintro ⟨t6, rfl, y6⟩ l6
    have S6 := S5.step0 y6 l6
    have D6 := D5.step0 S5.inv.tabs y6 (P' := P) (fun b p _ => p)
    refine (ev_ok K 6).go (e := d2in_sh) (d := .int (((q : Int) - (l : Int)) * (n : Int))) (by decide) rfl R0 (On.start S6.inv S6.fr.view) fun v s₇ x7 y7 r7 => ?_
    (refine xE (Rep.inv r7) ?_; clear r7; intro zt zq; subst zq)
    have S7 := S6.step0 y7 x7.le
    have D7 := D6.step0 S6.inv.tabs y7 (P' := P) (fun b p _ => p)
    have esh : ((q : Int) - (l : Int)) * (n : Int) = ((n * (q - l) : Nat) : Int) := by
      rw [Int.natCast_mul, Int.ofNat_sub (Nat.le_of_lt hlq), Int.mul_comm]
    have hb1 : Builtin.Int.intBits (valD n (slc ds q m)) ≤ n * (m - q) := intBits_le_iff.mpr (by
      have h1 := hv1.1; have h2 := hv1.2
      have e : ((2 ^ (n * (m - q)) : Nat) : Int) = 2 ^ (n * (m - q)) := by simp
      lia)
    have hb2 : n * (m - q) + n * (q - l) ≤ 2 ^ 26 := by
      rw [← Nat.mul_add]
      exact Nat.le_trans (Nat.mul_le_mul_left n (by lia)) hbits
    have ebin : intBin .LShift (valD n (slc ds q m)) (((q : Int) - (l : Int)) * (n : Int)) = some (valD n (slc ds q m) * 2 ^ (n * (q - l))) := by
      show (if 0 ≤ _ ∧ _ then _ else _) = _
      rw [esh, if_pos ⟨by lia, by lia⟩, Int.toNat_natCast]
    refine wpAny_mono (wpAny_le (int_bin (P := P) (Q := fun v s' => Post P s₇ (.int (valD n (slc ds q m) * 2 ^ (n * (q - l)))) v s') ebin fun v s' z => z)) (fun v s₈ z => ?_) fun _ _ q => q
    refine xA z ?_; clear z; rintro ⟨y8, r8⟩ l8
    (refine xE (Rep.inv r8) ?_; clear r8; intro zt zq; subst zq)
    have S8 := S7.step0 y8 l8
    have D8 := D7.step0 S7.inv.tabs y8 (P' := P) (fun b p _ => p)
    refine nest_eval (c := cI) K R0 S8 hkind hcl' D8.ci D8.fn (by decide) (ds := [.int (l : Int), .int (q : Int)]) (N := 6) rfl fun vs s₉ y9 l9 S9 r9 F9 => ?_
    cases r9 with
    | cons q1 q2 =>
    cases q2 with
    | cons q2 q3 =>
    cases q3
    (refine xE (Rep.inv q1) ?_; clear q1; intro zt zq; subst zq); (refine xE (Rep.inv q2) ?_; clear q2; intro zt zq; subst zq)
    have D9 := D8.step0 S8.inv.tabs y9 (P' := P) (fun b p _ => p)
    have y49 := (((y5.then y6).then y7).then y8).then y9
    refine (ih l q (A.deeper env) s₉ P _ _ hlq (by have : 2 ^ (j + 1) = 2 * 2 ^ j := Nat.pow_succ' ..; lia) (by lia) Rj S9.inv (fun b h => hf4 b (Nat.le_trans y49.size h)) D9).mono fun v s₁₀ z => ?_
    refine xEA z ?_; clear z; rintro t10 rfl y10
    refine int_bin (P := P) (op := .Add) (c := valD n (slc ds q m) * 2 ^ (n * (q - l)) + valD n (slc ds l q)) rfl fun v s₁₁ z => ?_
    refine xA z ?_; clear z; intro y11 r11
    rw [hval]
    (refine xE (Rep.inv r11) ?_; clear r11; intro zt zq; subst zq)
    exact ⟨_, rfl, ((y04.then y49).then y10).then y11⟩
end
structure TopH (H : Heap) (mg mb : Str → Option Value) : Prop where
  glo : Glo H mg mb
  bm : ∃ bm o, mg "__builtins__" = some (.ref bm) ∧ bm ≠ builtinsNs ∧ bm ≠ mainGlobals ∧ bm ≠ T1 ∧ bm ≠ T2 ∧ H.get? bm = some o ∧ o.cls = .type "module" ∧ o.dict = some builtinsNs ∧ o.data = .plain
theorem TopH.at {H : Heap} {s : Shared} {mg mb : Str → Option Value} {T : Addr} (x : TopH H mg mb) (I : Inv H s) (hT : isT T) : s.heap.BuiltinsAt mg T := by
  obtain ⟨bm, o, a, b, c, d1, d2, e, r⟩ := x.bm
  exact ⟨bm, o, a, b, c, (by rcases hT with rfl | rfl <;> assumption), I.keep _ _ d1 d2 e, r⟩
theorem codeHd_at {H : Heap} {s : Shared} {c T : Addr} (x : CodeHd H c T) (I : Inv H s) (h1 : c ≠ T1) (h2 : c ≠ T2) : CodeHd s.heap c T :=
by
  have e : ∃ o, H.get? c = some o := by
    obtain ⟨o, _, _, _, _, _, _, _, _, e, _⟩ := x
    exact ⟨o, e⟩
  refine xE e ?_; clear e; intro o e
  unfold CodeHd at x ⊢
  rw [(I.keep _ _ h1 h2 e).trans e.symm]
  exact x
theorem main_ne {T : Addr} (hT : isT T) : mainGlobals ≠ T := by rcases hT with rfl | rfl <;> decide
section
variable {prog : Program} {w : World} {dm : Dom} {H : Heap} {r : Nat} {A : Around} {s s' : Shared} {nm : Names} {env : Env} {P W : Addr → Prop} {σ : Sg dm} {B : Nat}
theorem SI.cellSet {x : Str} {cI : Addr} {v : Value} (S : SI dm H nm env B P W σ s) (hx : nm.lookup x = some .cell) (hc : env.cells.lookup x = some cI) (hW : W cI) (hσ : denR dm nm σ.1 x = none) (y : Step (fun b => b = cI) s s') (l : LeS s s') (hcell : s'.heap.IsCell cI (some v)) : SI dm H nm env B P W σ s' := by
  have V := S.fr.view
  obtain ⟨c', cv, a, ic, _⟩ := V.cell x (.inl hx)
  rw [hc] at a; (have zz := Option.some.inj a; clear a; subst zz)
  have T := S.inv.tabs
  have hP : ∀ b, P b → ¬ (b = cI) := fun b p q => S.fr.disj b p (q ▸ hW)
  refine xE S.fr.ns ?_; intro m₀ n₀
  have hL : ¬ (env.locals = cI) := fun q => ns_ne_cell n₀ ic q
  refine ⟨S.inv.step y (fun b q => by rw [show b = cI from q]; exact S.hW _ hW) l, { S.fr with
    view := { V with
      loc := fun y' d hd hk => let ⟨m, v, a, b, c⟩ := V.loc y' d hd hk; ⟨m, v, ns_step T y hL a, b, rep_step T y hP c⟩
      cell := fun y' hk => by
        obtain ⟨c, cv, a, b, q⟩ := V.cell y' hk
        by_cases hcc : c = cI
        · have : y' = x := V.cinj y' x c a (hcc ▸ hc)
          subst this
          subst hcc
          exact ⟨_, _, a, hcell, fun d hd => by rw [hσ] at hd; exact nS hd⟩
        · exact ⟨c, cv, a, cell_step T y hcc b, fun d hd => let ⟨v, e, z⟩ := q d hd; ⟨v, e, rep_step T y hP z⟩⟩
      fresh := fun b hb => V.fresh b (Nat.le_trans y.size hb) }
    ns := ⟨m₀, ns_step T y hL n₀⟩
    own := fun y' xs hy => let ⟨a, b, m, c, items, n, e, w, li, q⟩ := S.fr.own y' xs hy
      ⟨a, b, m, c, items, ns_step T y hL n, e, w, lx_step T y (fun q => cell_ne_list ic li.list q.symm) li, repL_step T y hP q⟩
    ownInj := fun z z' xs ys m a hy hz n e1 e2 => by
      have q := (ns_step T y hL n₀).agree n
      exact S.fr.ownInj z z' xs ys m₀ a hy hz n₀ ((q z).trans e1) ((q z').trans e2) }, S.hB, S.len, fun b q => Nat.lt_of_lt_of_le (S.wlt b q) y.size⟩
end
theorem clos_d2 {env : Env} {a b c : Addr} (h : env.cells = [(("inner" : Str), a), (("n" : Str), b), (("digits" : Str), c)]) : closureFor sc_d2in env = pure [(("n" : Str), b), (("inner" : Str), a), (("digits" : Str), c)] := by
  cases env
  simp only at h
  subst h
  rfl
theorem cells_d2 (B : Nat) : cellsFrom (B + 1) nm_d2i [] = [(("inner" : Str), B + 3), (("n" : Str), B + 2), (("digits" : Str), B + 1)] := rfl
theorem len2' {α : Type} {p : List α → Prop} (h : ∀ a b, p [a, b]) : ∀ l : List α, l.length = 2 → p l
  | [a, b], _ => h a b
theorem len3' {α : Type} {p : List α → Prop} (h : ∀ a b c, p [a, b, c]) : ∀ l : List α, l.length = 3 → p l
  | [a, b, c], _ => h a b c
theorem nfn_d2 {clos : List (Str × Addr)} {doc pm ctv : Value} {c' : Addr} : NFn (fnX "inner" (tq T2) pr_d2in d2in_body sc_d2in clos .none .none doc pm none (.ref c') ctv) nm_d2in 2 d2in_body where
  names := rfl
  kind := rfl
  co := rfl
  gen := rfl
  glob := rfl
  blt := rfl
  body := rfl
  bind := len2' fun a b => rfl
  nodup := by decide
  kinds := by decide
  npl := by decide
  noCell := by decide
noncomputable def intsOf : List DV → Option (List Int)
  | [] => some []
  | .int i :: r => (intsOf r).map (i :: ·)
  | _ => none
theorem intsOf_ok : ∀ {xs : List DV} {ds : List Int}, intsOf xs = some ds → xs = ds.map PV.int
  | [], _, h => by (have zz := Option.some.inj h; clear h; subst zz); rfl
  | .int i :: r, _, h => by
    refine xMap h ?_; rintro ds h1 rfl
    rw [intsOf_ok h1]; rfl
  | .none :: _, _, h => by exact nS h
  | .bool _ :: _, _, h => by exact nS h
  | .str _ :: _, _, h => by exact nS h
  | .tuple _ :: _, _, h => by exact nS h
  | .list _ :: _, _, h => by exact nS h
  | .arr _ :: _, _, h => by exact nS h
theorem intsOf_map (ds : List Int) : intsOf (ds.map PV.int) = some ds := by
  induction ds with
  | nil => rfl
  | cons d ds ih => rw [List.map_cons, intsOf, ih]; rfl
noncomputable def d2iF (ds : List Int) (n : Int) : Option intDom.V :=
  if 0 ≤ n ∧ (∀ d ∈ ds, 0 ≤ d ∧ d < 2 ^ n.toNat) ∧ ds.length ≤ 1000000 ∧ n.toNat * ds.length ≤ 2 ^ 26 then some (.int (valD n.toNat ds)) else none
noncomputable def d2iRun (σ : Sg intDom) (o : Out intDom) : Prop := ∃ (ds : List Int) (n : Int) (d : intDom.V), σ = ([some (.list (ds.map PV.int)), some (.int n), none, none], [none, none, none, none]) ∧ d2iF ds n = some d ∧ o = .ret d
noncomputable def d2iC (xs : List intDom.V) : Option intDom.V := o2 xs fun a b => oL a fun xs => oI b fun n => (intsOf xs).bind fun ds => d2iF ds n
section
variable {prog : Program} {w : World} {H : Heap} {r : Nat} {A : Around} {s s' : Shared} {env : Env}
theorem d2i_ok {a : Addr} {fd : FuncData} {mg mb : Str → Option Value} (K : Cx prog w intDom H tab0 tok0 0) (TH : TopH H mg mb) (C : CodeHd H 41 T2) (KF : FnOk H a fd nm_d2i 2 [.any d2i_def, .any d2i_r]) (hcd : fd.code = .ref 41) (hq : fd.qualname = "_digits2int") (hG : GlobIs H (ufName 3) (.ref a)) :
    UserOk prog w intDom H (22 + 1) 3 d2iC := by
  refine fun_core (r := 22) d2iRun KF hG (fun xs d he => ?_) fun A env B P W s σ o hE R he S => ?_
  · refine o2_i he fun a b q he => oL_i he fun xs' q1 he => oI_i he fun n q2 he => xBind he fun ds h1 h2 => ?_
    subst q; subst q1; subst q2
    exact ⟨rfl, ds, n, d, congrArg (fun l : List DV => (([some (.list l), some (.int n), none, none], [none, none, none, none]) : Sg intDom)) (intsOf_ok h1), h2, rfl⟩
  refine xAA hE ?_; clear hE; intro hE1 hE2 hE3
  refine he.elim ?_; clear he; intro ds he
  refine he.elim ?_; clear he; intro n he
  refine he.elim ?_; clear he; rintro d ⟨rfl, h2, rfl⟩
  refine ifS h2 ?_; clear h2; rintro ⟨hn, hds, hsz, hbits⟩ h2
  (have zz := Option.some.inj h2; clear h2; subst zz)
  · ·
      rw [cells_d2] at hE3
      have R0 : Room 0 A := R.le (by lia)
      have hcell3 : ∀ x k, nm_d2i.lookup x = some k → env.kindOf x = some k ∨ k = .free ∧ env.kindOf x = some .cell := S.fr.view.names
      have kc : ∀ x, nm_d2i.lookup x = some .cell → env.kindOf x = some .cell := fun x h => (hcell3 x _ h).resolve_right fun q => by cases q.1
      obtain ⟨cI, cvI, eI, icI, _⟩ := S.fr.view.cell "inner" (.inl (by decide))
      obtain ⟨cN, cvN, eN, icN, rN⟩ := S.fr.view.cell "n" (.inl (by decide))
      obtain ⟨cD, cvD, eD, icD, rD⟩ := S.fr.view.cell "digits" (.inl (by decide))
      have eI' := eI; have eN' := eN; have eD' := eD
      rw [hE3] at eI' eN' eD'
      have cI3 : cI = B + 3 := (Option.some.inj eI').symm
      have cN2 : cN = B + 2 := (Option.some.inj eN').symm
      have cD1 : cD = B + 1 := (Option.some.inj eD').symm
      have hWI : W cI := S.fr.wc "inner" cI (by decide) (by decide) eI
      have hkI := kc "inner" (by decide)
      have I := S.inv
      refine wpAny_execs_cons ((nest_def (T := T2) (c := 41) (mg := mg) (.inr rfl) rfl rfl rfl (clos_d2 hE3) S.fr.view.glob S.fr.view.kind (hE1.trans hcd) (codeHd_at C I (by decide) (by decide)) (I.ns (by decide) (by decide) TH.glo.g) (main_ne (.inr rfl)) (TH.at I (.inr rfl)) ?_ rfl rfl hkI eI icI I.tabs).le.mono fun fl s₁ z => ?_)
      · unfold qualnameIn
        rw [hkI, hE2, hq]
        decide
      refine xA z ?_; clear z; rintro ⟨rfl, F, c', doc, pm, ctv, hF, hrec, hcF, hFs, y1⟩ l1
      have S1 := S.cellSet (x := "inner") (by decide) eI hWI rfl y1 l1 hcF
      have y1W : Step W s s₁ := y1.mono fun b q => .inl (by rw [show b = cI from q]; exact hWI)
      rw [← cI3, ← cN2, ← cD1] at hF
      have hfn : Nest s₁ F (fnX "inner" (tq T2) pr_d2in d2in_body sc_d2in [(("n" : Str), cN), (("inner" : Str), cI), (("digits" : Str), cD)] .none .none doc pm none (.ref c') ctv) := ⟨⟨_, hF, rfl⟩, hrec⟩
      have D1 : D2F P F cD cI cN (fnX "inner" (tq T2) pr_d2in d2in_body sc_d2in [(("n" : Str), cN), (("inner" : Str), cI), (("digits" : Str), cD)] .none .none doc pm none (.ref c') ctv) ds n.toNat s₁ := by
        refine ⟨hfn, ?_, hcF, ?_⟩
        · obtain ⟨c, cv, e, ic, rr⟩ := S1.fr.view.cell "digits" (.inl (by decide))
          rw [eD] at e; (have zz := Option.some.inj e; clear e; subst zz)
          refine xEA (rr _ rfl) ?_; rintro v rfl rv
          exact ⟨v, ic, Eq.mp (congrArg (Rep P s₁.heap v) (denD _)) rv⟩
        · obtain ⟨c, cv, e, ic, rr⟩ := S1.fr.view.cell "n" (.inl (by decide))
          rw [eN] at e; (have zz := Option.some.inj e; clear e; subst zz)
          refine xEA (rr _ rfl) ?_; rintro v rfl rv
          (refine xE (Rep.inv rv) ?_; clear rv; intro zt zq; subst zq)
          rw [Int.toNat_of_nonneg hn]
          exact ⟨_, ic⟩
      have hne : cD ≠ cI ∧ cD ≠ cN ∧ cI ≠ cN := by
        refine ⟨fun q => ?_, fun q => ?_, fun q => ?_⟩
        · have : B + 1 = B + 3 := by rw [← cD1, ← cI3]; exact q
          lia
        · have : B + 1 = B + 2 := by rw [← cD1, ← cN2]; exact q
          lia
        · have : B + 3 = B + 2 := by rw [← cI3, ← cN2]; exact q
          lia
      have fin : ∀ (v : Value) (s' : Shared) (t : Tok), Step none' s₁ s' → LeS s₁ s' → v = .int (valD n.toNat ds) t → SPost intDom H nm_d2i env B P W s (.ret (.int (valD n.toNat ds))) (.ret v) s' := by
        intro v s' t y l e
        subst e
        exact ⟨P, W, y1W.then y, .refl _ _ _, S1.inv.step0 y l, .int _ _⟩
      cases ds with
      | nil =>
        refine wpAny_execs_cons (wpAny_Return_some (wpAny_IfExp ((ev_ok K 4).goT (e := d2i_t) (b := false) (by decide) rfl R0 (On.start S1.inv S1.fr.view) fun s₂ x2 => ?_)))
        simp only [Bool.false_eq_true, if_false]
        refine (ev_ok K 4).go (e := d2i_z) (d := .int (0 : Int)) (by decide) rfl R0 (On.start x2.inv x2.view) fun v s₃ x3 y3 r3 => ?_
        (refine xE (Rep.inv r3) ?_; clear r3; intro zt zq; subst zq)
        exact fin _ s₃ _ (x2.step.then y3) (x2.le.trans x3.le) rfl
      | cons d0 ds0 =>
        have hlen : (d0 :: ds0).length ≤ 1000000 := hsz
        have et : ev intDom tab0 tok0 4 true d2i_t ([some (.list ((d0 :: ds0).map PV.int)), some (.int n), none, none] : List (Option intDom.V)) = some (.bool true) := by
          show (if ((d0 :: ds0).map (PV.int : Int → DV)).length ≤ fitLen then some (!((d0 :: ds0).map (PV.int : Int → DV)).isEmpty) else none).map PV.bool = _
          rw [if_pos (by rw [List.length_map]; unfold fitLen; lia)]
          rfl
        refine wpAny_execs_cons (wpAny_Return_some (wpAny_IfExp ((ev_ok K 4).goT (e := d2i_t) (b := true) (by decide) et R0 (On.start S1.inv S1.fr.view) fun s₂ x2 => ?_)))
        simp only [if_true]
        have S2 := S1.step0 x2.step x2.le
        have D2 := D1.step0 S1.inv.tabs x2.step (P' := P) (fun b p _ => p)
        have ea : evL (fun e => ev intDom tab0 tok0 4 false e ([some (.list ((d0 :: ds0).map PV.int)), some (.int n), none, none] : List (Option intDom.V))) d2i_a = some [.int (0 : Int), .int (((d0 :: ds0).length : Nat) : Int)] := by
          have el : lenP intDom (.list ((d0 :: ds0).map (PV.int : Int → DV)) : DV) = some (.int (((d0 :: ds0).length : Nat) : Int)) := by
            show (if ((d0 :: ds0).map (PV.int : Int → DV)).length ≤ fitLen then some (PV.int (((d0 :: ds0).map (PV.int : Int → DV)).length : Int)) else none) = _
            rw [if_pos (by rw [List.length_map]; unfold fitLen; lia), List.length_map]
            rfl
          show (some (PV.int (0 : Int))).bind (fun a => (((lenP intDom (.list ((d0 :: ds0).map (PV.int : Int → DV)) : DV))).bind fun a2 => (some []).map (a2 :: ·)).map (a :: ·)) = _
          rw [el]; rfl
        refine nest_eval (c := cI) (ds := [.int (0 : Int), .int (((d0 :: ds0).length : Nat) : Int)]) (N := 4) K R0 S2 (.inr hkI) eI D2.ci D2.fn (by decide) ea fun vs s₃ y3 l3 S3 r3 F3 => ?_
        cases r3 with
        | cons q1 q2 =>
        cases q2 with
        | cons q2 q3 =>
        cases q3
        (refine xE (Rep.inv q1) ?_; clear q1; intro zt zq; subst zq); (refine xE (Rep.inv q2) ?_; clear q2; intro zt zq; subst zq)
        have D3 := D2.step0 S2.inv.tabs y3 (P' := P) (fun b p _ => p)
        refine (d2in_ok K nfn_d2 rfl hne hds hlen hbits TH.glo 20 0 (d0 :: ds0).length A s₃ P _ _ (by simp) (by lia) (Nat.le_refl _) (R.le (by lia)) S3.inv S3.fr.view.fresh D3).le.mono fun v s₄ z => ?_
        refine xA z ?_; clear z; rintro ⟨t, rfl, y4⟩ l4
        refine fin _ s₄ t ((x2.step.then y3).then y4) ((x2.le.trans l3).trans l4) ?_
        have : slc (d0 :: ds0) 0 (d0 :: ds0).length = d0 :: ds0 := by unfold slc; simp
        rw [this]
end
noncomputable def digs (n : Nat) : Nat → Nat → List Int
  | 0, _ => []
  | k + 1, x => ((x % 2 ^ n : Nat) : Int) :: digs n k (x / 2 ^ n)
theorem digs_len (n : Nat) : ∀ k x, (digs n k x).length = k
  | 0, _ => rfl
  | k + 1, x => by rw [digs, List.length_cons, digs_len n k]
theorem digs_mem {n : Nat} : ∀ {k x : Nat} {d : Int}, d ∈ digs n k x → 0 ≤ d ∧ d < 2 ^ n
  | 0, _, _, h => by cases h
  | k + 1, x, d, h => by
    rw [digs] at h
    rcases List.mem_cons.mp h with rfl | h
    · have hp : 0 < 2 ^ n := Nat.two_pow_pos n
      have h1 := Nat.mod_lt x hp
      have e : ((2 ^ n : Nat) : Int) = 2 ^ n := by simp
      lia
    · exact digs_mem h
theorem digs_val {n : Nat} : ∀ {k x : Nat}, x < 2 ^ (n * k) → valD n (digs n k x) = (x : Int)
  | 0, x, h => by
    have : x = 0 := by simpa using h
    subst this; rfl
  | k + 1, x, h => by
    have hp : 0 < 2 ^ n := Nat.two_pow_pos n
    have h1 : x / 2 ^ n < 2 ^ (n * k) := by
      rw [Nat.div_lt_iff_lt_mul hp, ← Nat.pow_add]
      rwa [Nat.mul_succ] at h
    rw [digs, valD, digs_val h1]
    have e : ((2 ^ n : Nat) : Int) = 2 ^ n := by simp
    rw [← e, ← Int.natCast_mul, ← Int.natCast_add, Nat.mod_add_div]
theorem digs_split (n b : Nat) : ∀ a x, digs n (a + b) x = digs n a (x % 2 ^ (n * a)) ++ digs n b (x / 2 ^ (n * a))
  | 0, x => by simp [digs]
  | a + 1, x => by
    have e : a + 1 + b = (a + b) + 1 := by lia
    rw [e, digs, digs, digs_split n b a]
    have e2 : n * (a + 1) = n + n * a := by rw [Nat.mul_succ]; lia
    rw [e2, Nat.pow_add, Nat.mod_mul_right_div_self, Nat.mod_mul_right_mod, Nat.div_div_eq_div_mul]
    rfl
theorem xor_low (x s : Nat) : Builtin.bitXor (x : Int) ((x / 2 ^ s * 2 ^ s : Nat) : Int) = ((x % 2 ^ s : Nat) : Int) := by
  rw [bitXor_and, bitAnd_pp (by lia) (by lia), Int.toNat_natCast, Int.toNat_natCast]
  have h : x &&& (x / 2 ^ s * 2 ^ s) = x / 2 ^ s * 2 ^ s := by
    rw [← Nat.shiftLeft_eq, ← Nat.shiftRight_eq_div_pow]
    refine Nat.eq_of_testBit_eq fun i => ?_
    rw [Nat.testBit_and, Nat.testBit_shiftLeft, Nat.testBit_shiftRight]
    by_cases hi : s ≤ i
    · rw [show s + (i - s) = i by lia]
      simp
    · simp [hi]
  rw [h]
  have h2 := Nat.div_add_mod x (2 ^ s)
  rw [Nat.mul_comm] at h2
  lia
noncomputable abbrev setD (ds : List Int) (l : Nat) (es : List Int) : List Int := ds.take l ++ (es ++ ds.drop (l + es.length))
theorem setD_len {ds es : List Int} {l : Nat} (h : l + es.length ≤ ds.length) : (setD ds l es).length = ds.length := by
  unfold setD; rw [List.length_append, List.length_append, List.length_take, List.length_drop]; lia
theorem setD_one {ds : List Int} {l : Nat} {x : Int} (h : l < ds.length) : ds.set l x = setD ds l [x] := by
  rw [List.set_eq_take_append_cons_drop, if_pos h]; rfl
theorem setD_two {ds es fs : List Int} {l : Nat} (h : l + es.length + fs.length ≤ ds.length) : setD (setD ds l es) (l + es.length) fs = setD ds l (es ++ fs) := by
  unfold setD
  have hl : (ds.take l).length = l := by rw [List.length_take]; lia
  rw [List.take_append, List.drop_append, hl]
  rw [List.take_of_length_le (by rw [hl]; lia), show l + es.length - l = es.length by lia, List.take_left', List.drop_of_length_le (by rw [hl]; lia), List.nil_append]
  · rw [show l + es.length + fs.length - l = es.length + fs.length by lia, List.drop_append, List.drop_of_length_le (by lia), List.nil_append, List.drop_drop, List.length_append]
    rw [List.append_assoc, List.append_assoc, show l + es.length + (es.length + fs.length - es.length) = l + (es.length + fs.length) by lia]
  · rfl
theorem repL_int2 {P P' : Addr → Prop} {h h' : Heap} {vs : List Value} {ds : List Int} (r : RepL P h vs (ds.map PV.int)) : RepL P' h' vs (ds.map PV.int) := by
  induction ds generalizing vs with
  | nil => rw [r.c0]; exact .nil
  | cons d ds ih => exact r.cc fun v us e a b => a.inv.elim fun t q => by subst e; subst q; exact .cons (.int _ _) (ih b)
noncomputable abbrev ρi (x l r : Int) (m sh up lo : Option intDom.V) (n : Int) : List (Option intDom.V) := [some (.int x), some (.int l), some (.int r), m, sh, up, lo, none, none, some (.int n)]
noncomputable abbrev N10 : List (Option (List intDom.V)) := nonesN intDom 10
section
variable {tab : Nat → List intDom.V → Option intDom.V} {tok : Nat → Option intDom.D} {x l r n q z u : Int} {m sh up lo : Option intDom.V}
theorem i2_t : ev intDom tab tok 6 true i2dn_t (ρi x l r m sh up lo n) = some (.bool (decide (l + 1 = r))) := rfl
theorem i2_s2 : sxStep (ev intDom tab tok 6) 0 (sx (ev intDom tab tok 6) 0 2) i2dn_s2 (ρi x l r none none none none n, N10) = some (.next (ρi x l r (some (.int ((l + r).fdiv (2 ^ (1 : Int).toNat)))) none none none n, N10)) := sx_asg rfl rfl rfl
theorem i2_s3 (h : mulOkB (q - l) n = true) : sxStep (ev intDom tab tok 6) 0 (sx (ev intDom tab tok 6) 0 2) i2dn_s3 (ρi x l r (some (.int q)) none none none n, N10) = some (.next (ρi x l r (some (.int q)) (some (.int ((q - l) * n))) none none n, N10)) := by
  refine sx_asg (d := .int ((q - l) * n)) rfl ?_ rfl
  show (if mulOkB (q - l) n = true then some ((q - l) * n) else none).map PV.int = _
  rw [if_pos h]; rfl
theorem i2_s4 (h : 0 ≤ z) : sxStep (ev intDom tab tok 6) 0 (sx (ev intDom tab tok 6) 0 2) i2dn_s4 (ρi x l r (some (.int q)) (some (.int z)) none none n, N10) = some (.next (ρi x l r (some (.int q)) (some (.int z)) (some (.int (x.fdiv (2 ^ z.toNat)))) none n, N10)) := by
  refine sx_asg (d := .int (x.fdiv (2 ^ z.toNat))) rfl ?_ rfl
  show (if 0 ≤ z then some (x.fdiv (2 ^ z.toNat)) else none).map PV.int = _
  rw [if_pos h]; rfl
theorem i2_s5 (h : 0 ≤ z ∧ (Builtin.Int.intBits u : Int) + z ≤ 2 ^ 27) : sxStep (ev intDom tab tok 6) 0 (sx (ev intDom tab tok 6) 0 2) i2dn_s5 (ρi x l r (some (.int q)) (some (.int z)) (some (.int u)) none n, N10) = some (.next (ρi x l r (some (.int q)) (some (.int z)) (some (.int u)) (some (.int (Builtin.bitXor x (u * 2 ^ z.toNat)))) n, N10)) := by
  refine sx_asg (d := .int (Builtin.bitXor x (u * 2 ^ z.toNat))) rfl ?_ rfl
  show ((if 0 ≤ z ∧ (Builtin.Int.intBits u : Int) + z ≤ 2 ^ 27 then some (u * 2 ^ z.toNat) else none).map PV.int).bind (fun y => binP intDom .BitXor (.int x) y) = _
  rw [if_pos h]; rfl
end
section
variable {prog : Program} {w : World} {H : Heap} {r : Nat} {A : Around} {s s' : Shared} {env : Env}
structure I2F (F cD cI cN D : Addr) (fd : FuncData) (ds : List Int) (n : Nat) (s : Shared) : Prop where
  fn : Nest s F fd
  cd : s.heap.IsCell cD (some (.ref D))
  ci : s.heap.IsCell cI (some (.ref F))
  cn : ∃ t, s.heap.IsCell cN (some (.int (n : Int) t))
  li : ∃ items, IsLx s.heap D items ∧ RepL (fun _ => False) s.heap items.toList (ds.map PV.int)
theorem I2F.step {F cD cI cN D : Addr} {fd : FuncData} {ds ds' : List Int} {n : Nat} {W : Addr → Prop} (x : I2F F cD cI cN D fd ds n s) (T : Tabs s.heap) (y : Step W s s') (hW : ∀ b, W b → b = D)
    (li : ∃ items, IsLx s'.heap D items ∧ RepL (fun _ => False) s'.heap items.toList (ds'.map PV.int)) : I2F F cD cI cN D fd ds' n s' := by
  refine xEA x.li ?_; intro items lx _
  have lD := lx.list
  have cell_ne : ∀ {c cv}, s.heap.IsCell c cv → ¬ W c := fun ic q => cell_ne_list ic lD (hW _ q)
  have hF : ¬ W F := fun q => by
    refine xEA x.fn.fn ?_; intro o ho hd
    refine xE lx ?_; clear lx; intro k hk
    rw [hW _ q, hk] at ho
    (have zz := Option.some.inj ho; clear ho; subst zz); cases hd
  have hc : ∀ c, fd.code = .ref c → ¬ W c := fun c e q => by
    obtain ⟨c', oc, vs, t, e2, hoc, hdc, _⟩ := x.fn.code
    rw [e] at e2; cases e2
    refine xE lx ?_; clear lx; intro k hk
    rw [hW _ q, hk] at hoc
    (have zz := Option.some.inj hoc; clear hoc; subst zz); cases hdc
  exact ⟨x.fn.step T y hF hc, cell_step T y (cell_ne x.cd) x.cd, cell_step T y (cell_ne x.ci) x.ci, let ⟨t, a⟩ := x.cn; ⟨t, cell_step T y (cell_ne a) a⟩, li⟩
theorem I2F.step0 {F cD cI cN D : Addr} {fd : FuncData} {ds : List Int} {n : Nat} (x : I2F F cD cI cN D fd ds n s) (T : Tabs s.heap) (y : Step none' s s') : I2F F cD cI cN D fd ds n s' :=
  x.step T y (fun _ q => q.elim) (let ⟨items, lx, q⟩ := x.li; ⟨items, lx_step T y id lx, repL_int2 q⟩)
theorem i2_enter {F cD cI cN D : Addr} {fd : FuncData} {ds : List Int} {n : Nat} (KF : NFn fd nm_i2dn 3 i2dn_body) (hcl : fd.closure = [(("n" : Str), cN), (("inner" : Str), cI), (("a_digits" : Str), cD)]) (hne : cD ≠ cI ∧ cD ≠ cN ∧ cI ≠ cN)
    {mg mb : Str → Option Value} (Gl : Glo H mg mb) {x l m : Int} {t0 t1 t2 : Tok} {Q : Value → Shared → Prop} (R : Room (r + 1) A) (I : Inv H s) (X : I2F F cD cI cN D fd ds n s)
    (hbody : ∀ (env : Env) (s₁ : Shared), env.cells = fd.closure → Step none' s s₁ → LeS s s₁ → SI intDom H nm_i2dn env s.heap.objs.size (fun b => s.heap.objs.size ≤ b ∧ b ≠ s.heap.objs.size) (fun b => b = s.heap.objs.size) (ρi x l m none none none none n, N10) s₁ →
      Ok (model prog w) (A.deeper env) (execs i2dn_body env) (fun fl s' => Q (match fl with | .ret v => v | _ => .none) s') s₁) : Ok (model prog w) A (call (.ref F) [.int x t0, .int l t1, .int m t2]) Q s := by
  obtain ⟨⟨o, ho, hd⟩, hcode⟩ := X.fn
  refine xE X.cn ?_; intro tN hcN
  refine nest_call (dm := intDom) (P := fun b => s.heap.objs.size ≤ b) (ρ := ρi x l m none none none none n) KF ho hd hcode R I (I.lim Gl) rfl rfl ?_ ?_ ?_ (hcl ▸ inj3 hne) (fun b h => h) hbody
  · exact arg_of (ds := [PV.int x, PV.int l, PV.int m]) (.cons (.int _ _) (.cons (.int _ _) (.cons (.int _ _) .nil))) rfl
  · exact mid_of rfl
  · exact hcl ▸ free3 rfl rfl ⟨cD, _, rfl, X.cd, fun d e => nS e⟩ ⟨cI, _, rfl, X.ci, fun d e => nS e⟩ ⟨cN, _, rfl, hcN, fun d e => ⟨_, rfl, Option.some.inj e ▸ .int _ _⟩⟩
noncomputable abbrev I2Post (D : Addr) (ds' : List Int) (s : Shared) : Value → Shared → Prop := fun v s' => v = .none ∧ Step (fun b => b = D) s s' ∧ ∃ items, IsLx s'.heap D items ∧ RepL (fun _ => False) s'.heap items.toList (ds'.map PV.int)
theorem i2_leaf {F cD cI cN D : Addr} {fd : FuncData} {ds : List Int} {n : Nat} (K : Cx prog w intDom H tab0 tok0 0) (KF : NFn fd nm_i2dn 3 i2dn_body) (hcl : fd.closure = [(("n" : Str), cN), (("inner" : Str), cI), (("a_digits" : Str), cD)]) (hne : cD ≠ cI ∧ cD ≠ cN ∧ cI ≠ cN)
    {mg mb : Str → Option Value} (Gl : Glo H mg mb) {x l : Nat} {t0 t1 t2 : Tok} (R : Room (r + 1) A) (I : Inv H s) (X : I2F F cD cI cN D fd ds n s) (hl : l < ds.length) (hsz : ds.length ≤ 1000000) (hx : x < 2 ^ (n * 1)) :
    Ok (model prog w) A (call (.ref F) [.int (x : Int) t0, .int (l : Int) t1, .int ((l : Int) + 1) t2]) (I2Post D (setD ds l (digs n 1 x)) s) s := by
  refine i2_enter KF hcl hne Gl R I X fun env s₁ hcells y le S => ?_
  have R0 : Room 0 (A.deeper env) := (R.deeper env).le (by lia)
  have X1 := X.step0 I.tabs y
  have T1' := S.inv.tabs
  unfold i2dn_body i2dn_s1
  refine wpAny_execs_cons (wpAny_If ((ev_ok K 6).goT (e := i2dn_t) (b := true) (by decide) (by rw [i2_t, decide_eq_true rfl]) R0 (On.start S.inv S.fr.view) fun s₂ x2 => ?_))
  simp only [if_true]
  have S2 := S.step0 x2.step x2.le
  have X2 := X1.step0 T1' x2.step
  unfold i2dn_set
  refine wpAny_execs_cons (wpAny_Assign_Subscript ((ev_ok K 6).go (e := i2dn_x) (d := .int (x : Int)) (by decide) rfl R0 (On.start S2.inv S2.fr.view) fun v s₃ x3 y3 r3 => ?_))
  (refine xE (Rep.inv r3) ?_; clear r3; intro zt zq; subst zq)
  have S3 := S2.step0 y3 x3.le
  have X3 := X2.step0 S2.inv.tabs y3
  have hk := S3.fr.view.names "a_digits" .free (by decide)
  have hcD : env.cells.lookup ("a_digits" : Str) = some cD := by rw [hcells, hcl]; rfl
  have load : ∀ Q : Value → Shared → Prop, Q (.ref D) s₃ → wpAny (model prog w) (A.deeper env) (eval (.Name ("a_digits" : Str) ⟨34, 12, 34, 20⟩) env) Q (fun _ _ => False) s₃ := fun Q q => by
    rcases hk with hk | hk
    · exact wpAny_Name (wpAny_loadName_free S3.fr.view.kind hk hcD X3.cd q (by decide)) (by decide)
    · exact wpAny_Name (wpAny_loadName_cell S3.fr.view.kind hk.2 hcD X3.cd q) (by decide)
  refine load _ ?_
  refine (ev_ok K 6).go (e := i2dn_ix) (d := .int (l : Int)) (by decide) rfl R0 (On.start S3.inv S3.fr.view) fun v s₄ x4 y4 r4 => ?_
  (refine xE (Rep.inv r4) ?_; clear r4; intro zt zq; subst zq)
  have S4 := S3.step0 y4 x4.le
  have X4 := X3.step0 S3.inv.tabs y4
  refine xEA X4.li ?_; intro items lx rr
  have hsz4 : items.size = ds.length := by have := rr.length; simpa using this
  refine setItem_exact (k := (l : Int)) (v := .int (x : Int) _) lx (by lia) (by lia) (by lia) fun h' lx' hs => ?_
  have y5 : Step (fun b => b = D) s₄ { s₄ with heap := h' } := by
    refine xE lx ?_; clear lx; intro k ho
    exact Step.same (tk := s₄.toks) hs (.inl rfl) ho fun vs q => by cases q
  refine wpAny_execs_cons (wpAny_Return_none ?_)
  refine ⟨rfl, ((((y.then x2.step).then y3).then y4).after y5), _, lx', ?_⟩
  have e : setD ds l (digs n 1 x) = ds.set l (x : Int) := by
    rw [setD_one hl]
    show setD ds l [((x % 2 ^ n : Nat) : Int)] = _
    rw [Nat.mod_eq_of_lt (by rwa [Nat.mul_one] at hx)]
  rw [e, Array.toList_setIfInBounds, Int.toNat_natCast, List.map_set]
  exact repL_set (repL_int2 rr) (.int _ _)
end
section
variable {prog : Program} {w : World} {H : Heap} {r : Nat} {A : Around} {s s' : Shared} {env : Env}
theorem i2_inner {F cD cI cN D : Addr} {fd : FuncData} {n : Nat} (K : Cx prog w intDom H tab0 tok0 0) (KF : NFn fd nm_i2dn 3 i2dn_body) (hcl : fd.closure = [(("n" : Str), cN), (("inner" : Str), cI), (("a_digits" : Str), cD)]) (hne : cD ≠ cI ∧ cD ≠ cN ∧ cI ≠ cN)
    {mg mb : Str → Option Value} (Gl : Glo H mg mb) (hDH : H.objs.size ≤ D) : ∀ (j x l m : Nat) (A : Around) (s : Shared) (ds : List Int) (t0 t1 t2 : Tok), l < m → m - l ≤ 2 ^ j → m ≤ ds.length → ds.length ≤ 1000000 → n * ds.length ≤ 2 ^ 26 → x < 2 ^ (n * (m - l)) → Room (j + 1) A → Inv H s → I2F F cD cI cN D fd ds n s →
    Ok (model prog w) A (call (.ref F) [.int (x : Int) t0, .int (l : Int) t1, .int (m : Int) t2]) (I2Post D (setD ds l (digs n (m - l) x)) s) s := by
  have leaf : ∀ (x l m : Nat) (A : Around) (s : Shared) (ds : List Int) (t0 t1 t2 : Tok) (r : Nat), m = l + 1 → m ≤ ds.length → ds.length ≤ 1000000 → x < 2 ^ (n * (m - l)) → Room (r + 1) A → Inv H s → I2F F cD cI cN D fd ds n s →
      Ok (model prog w) A (call (.ref F) [.int (x : Int) t0, .int (l : Int) t1, .int (m : Int) t2]) (I2Post D (setD ds l (digs n (m - l) x)) s) s := by
    intro x l m A s ds t0 t1 t2 r e h3 h4 hx R I X
    subst e
    rw [show l + 1 - l = 1 by lia] at hx ⊢
    exact i2_leaf K KF hcl hne Gl R I X h3 h4 hx
  intro j
  induction j with
  | zero =>
    intro x l m A s ds t0 t1 t2 h1 h2 h3 h4 h5 hx R I X
    exact leaf x l m A s ds t0 t1 t2 0 (by have : (2 : Nat) ^ 0 = 1 := rfl; lia) h3 h4 hx R I X
  | succ j ih =>
    intro x l m A s ds t0 t1 t2 h1 h2 h3 h4 h5 hx R I X
    by_cases hlm : m = l + 1
    · exact leaf x l m A s ds t0 t1 t2 (j + 1) hlm h3 h4 hx R I X
    refine i2_enter KF hcl hne Gl R I X fun env s₁ hcells y le S => ?_
    have Rj := R.deeper env
    have R0 : Room 0 (A.deeper env) := Rj.le (by lia)
    obtain ⟨q, hq⟩ : ∃ q, q = (l + m) / 2 := ⟨_, rfl⟩
    have hlq : l < q := by lia
    have hqm : q < m := by lia
    have hqe : ((l : Int) + (m : Int)).fdiv (2 ^ (1 : Int).toNat) = (q : Int) := by
      have := fdiv2 (l + m)
      rw [hq, ← this]; push_cast; rfl
    have esh : ((q : Int) - (l : Int)) * (n : Int) = ((n * (q - l) : Nat) : Int) := by
      rw [Int.natCast_mul, Int.ofNat_sub (Nat.le_of_lt hlq), Int.mul_comm]
    have hnb : n * (m - l) ≤ 2 ^ 26 := Nat.le_trans (Nat.mul_le_mul_left n (by lia)) h5
    have hsum : n * (m - l) = n * (q - l) + n * (m - q) := by rw [← Nat.mul_add]; congr 1; lia
    have hpl : 0 < 2 ^ (n * (q - l)) := Nat.two_pow_pos _
    have hup : x / 2 ^ (n * (q - l)) < 2 ^ (n * (m - q)) := by
      rw [Nat.div_lt_iff_lt_mul hpl, ← Nat.pow_add, Nat.add_comm, ← hsum]; exact hx
    have hlo : x % 2 ^ (n * (q - l)) < 2 ^ (n * (q - l)) := Nat.mod_lt _ hpl
    have hbits : Builtin.Int.intBits ((x / 2 ^ (n * (q - l)) : Nat) : Int) ≤ n * (m - q) := intBits_le_iff.mpr (by rw [Int.natAbs_natCast]; exact hup)
    have efd : (x : Int).fdiv (2 ^ (((n * (q - l) : Nat) : Int)).toNat) = ((x / 2 ^ (n * (q - l)) : Nat) : Int) := by
      rw [Int.toNat_natCast, Int.fdiv_eq_ediv_of_nonneg _ (Int.le_of_lt (pow_pos' _))]
      have e : ((2 ^ (n * (q - l)) : Nat) : Int) = 2 ^ (n * (q - l)) := by simp
      rw [← e]; exact (Int.natCast_ediv _ _).symm
    have exl : Builtin.bitXor (x : Int) (((x / 2 ^ (n * (q - l)) : Nat) : Int) * 2 ^ (((n * (q - l) : Nat) : Int)).toNat) = ((x % 2 ^ (n * (q - l)) : Nat) : Int) := by
      rw [Int.toNat_natCast]
      have e : ((x / 2 ^ (n * (q - l)) : Nat) : Int) * 2 ^ (n * (q - l)) = ((x / 2 ^ (n * (q - l)) * 2 ^ (n * (q - l)) : Nat) : Int) := by push_cast; rfl
      rw [e]; exact xor_low x _
    refine xEA (id X.li) ?_; intro items0 lx0 _
    have hDs : D < s.heap.objs.size := let ⟨_, e⟩ := lx0; Heap.lt_size e
    unfold i2dn_body i2dn_s1
    refine wpAny_execs_cons (wpAny_If ((ev_ok K 6).goT (e := i2dn_t) (b := false) (by decide) (by rw [i2_t, decide_eq_false (by lia)]) R0 (On.start S.inv S.fr.view) fun s₁' x1 => ?_))
    simp only [Bool.false_eq_true, if_false]
    refine wpAny_execs_nil ?_
    have S1 := S.step0 x1.step x1.le
    refine exec_next K R0 (by decide) i2_s2 S1 fun s₂ P2 W2 y2 l2 G2 S2 => ?_
    rw [hqe] at S2
    refine exec_next K R0 (by decide) (i2_s3 (mulOk_small (by lia))) S2 fun s₃ P3 W3 y3 l3 G3 S3 => ?_
    rw [esh] at S3
    refine exec_next K R0 (by decide) (i2_s4 (by lia)) S3 fun s₄ P4 W4 y4 l4 G4 S4 => ?_
    rw [efd] at S4
    refine exec_next K R0 (by decide) (i2_s5 ⟨by lia, by lia⟩) S4 fun s₅ P5 W5 y5 l5 G5 S5 => ?_
    rw [exl] at S5
    have y13 := step_next y2 G2 y3
    have G13 := G2.trans G3 y2.size
    have y14 := step_next y13 G13 y4
    have G14 := G13.trans G4 y13.size
    have y15 := step_next y14 G14 y5
    have G15 := G14.trans G5 y14.size
    have y01 := y.then x1.step
    have y05 : Step none' s s₅ := step_in y01 y15 (Nat.le_refl _)
    have hD1 : D < s₁'.heap.objs.size := Nat.lt_of_lt_of_le hDs y01.size
    have nP : ¬ P5 D := fun p => (G15.2.2 D hD1 p).elim (fun z => absurd hDs (Nat.not_lt.mpr z.1)) fun z => absurd hDs (by rw [show D = _ from z]; exact Nat.lt_irrefl _)
    have nW : ¬ W5 D := fun p => absurd hDs (by rw [show D = _ from G15.2.1 D hD1 p]; exact Nat.lt_irrefl _)
    have X5 := X.step0 I.tabs y05
    have hkind := (S5.fr.view.names "inner" .free (by decide)).imp id (fun z => z.2)
    have hcl' : env.cells.lookup ("inner" : Str) = some cI := by rw [hcells, hcl]; rfl
    have nC : ∀ (s : Shared) (X : I2F F cD cI cN D fd ds n s), True := fun _ _ => trivial
    unfold i2dn_c1 i2dn_c2
    refine wpAny_execs_cons (wpAny_Expr (nest_eval (c := cI) (N := 6) (ds := [.int ((x % 2 ^ (n * (q - l)) : Nat) : Int), .int (l : Int), .int (q : Int)]) K R0 S5 hkind hcl' X5.ci X5.fn (by decide) rfl fun vs s₆ y6 l6 S6 r6 F6 => ?_) (inter_fn S5.fr.view.kind) rfl)
    cases r6 with
    | cons q1 q2 =>
    cases q2 with
    | cons q2 q3 =>
    cases q3 with
    | cons q3 q4 =>
    cases q4
    (refine xE (Rep.inv q1) ?_; clear q1; intro zt zq; subst zq); (refine xE (Rep.inv q2) ?_; clear q2; intro zt zq; subst zq); (refine xE (Rep.inv q3) ?_; clear q3; intro zt zq; subst zq)
    have X6 := X5.step0 S5.inv.tabs y6
    have hp2 : 2 ^ (j + 1) = 2 * 2 ^ j := Nat.pow_succ' ..
    refine (ih (x % 2 ^ (n * (q - l))) l q (A.deeper env) s₆ ds _ _ _ hlq (by lia) (by lia) h4 h5 hlo Rj S6.inv X6).le.mono fun v s₇ z => ?_
    refine xA z ?_; clear z; rintro ⟨rfl, y7, li7⟩ l7
    have X7 := X6.step S6.inv.tabs y7 (fun _ q => q) li7
    refine xEA (id X6.li) ?_; intro items6 lx6 _
    have S7 : SI intDom H nm_i2dn env s.heap.objs.size P5 W5 _ s₇ := S6.beside y7 (S6.inv.step y7 (fun b q => by rw [show b = D from q]; exact hDH) l7) (fun b p q => nP (q ▸ p)) (fun b p q => nW (q ▸ p)) (fun nn c hk hc q => by
        obtain ⟨c', cv, a, ic, _⟩ := S6.fr.view.cell nn hk
        rw [hc] at a; (have zz := Option.some.inj a; clear a; subst zz)
        exact cell_ne_list ic lx6.list q)
    refine wpAny_execs_cons (wpAny_Expr (nest_eval (c := cI) (N := 6) (ds := [.int ((x / 2 ^ (n * (q - l)) : Nat) : Int), .int (q : Int), .int (m : Int)]) K R0 S7 hkind hcl' X7.ci X7.fn (by decide) rfl fun vs s₈ y8 l8 S8 r8 F8 => ?_) (inter_fn S5.fr.view.kind) rfl)
    cases r8 with
    | cons q1 q2 =>
    cases q2 with
    | cons q2 q3 =>
    cases q3 with
    | cons q3 q4 =>
    cases q4
    (refine xE (Rep.inv q1) ?_; clear q1; intro zt zq; subst zq); (refine xE (Rep.inv q2) ?_; clear q2; intro zt zq; subst zq); (refine xE (Rep.inv q3) ?_; clear q3; intro zt zq; subst zq)
    have X8 := X7.step0 S7.inv.tabs y8
    have hl1 : (setD ds l (digs n (q - l) (x % 2 ^ (n * (q - l))))).length = ds.length := setD_len (by rw [digs_len]; lia)
    refine (ih (x / 2 ^ (n * (q - l))) q m (A.deeper env) s₈ _ _ _ _ hqm (by lia) (by rw [hl1]; exact h3) (by rw [hl1]; exact h4) (by rw [hl1]; exact h5) hup Rj S8.inv X8).mono fun v s₉ z => ?_
    refine xAA z ?_; clear z; rintro rfl y9 li9
    refine wpAny_execs_nil ⟨rfl, ?_, ?_⟩
    · exact (((y05.then y6).after y7).then y8).trans y9 fun b q => .inl q
    · have e : setD (setD ds l (digs n (q - l) (x % 2 ^ (n * (q - l))))) q (digs n (m - q) (x / 2 ^ (n * (q - l)))) = setD ds l (digs n (m - l) x) := by
        have e1 : q = l + (digs n (q - l) (x % 2 ^ (n * (q - l)))).length := by rw [digs_len]; lia
        have e2 : m - l = (q - l) + (m - q) := by lia
        rw [e2, digs_split, ← setD_two (by rw [digs_len, digs_len]; lia), ← e1]
      rw [← e]; exact li9
end
theorem noPylong {a b : Int} (h : Builtin.Int.intBits b ≤ 9000) : Builtin.divisionGoesByPylong a b = false := by
  unfold Builtin.divisionGoesByPylong
  unfold Builtin.Int.intBits at h
  by_cases hb : b = 0
  · subst hb; simp
  · have e : (b == 0) = false := by simpa using hb
    rw [e] at h
    simp only [Bool.false_eq_true, if_false] at h
    have : (if (b == 0) = true then 0 else b.natAbs.log2 / 30 + 1) ≤ 300 := by
      rw [e]; simp only [Bool.false_eq_true, if_false]; lia
    simp only [Bool.and_eq_false_iff, decide_eq_false_iff_not]
    left
    lia
theorem fdivN (a b : Nat) : (a : Int).fdiv (b : Int) = ((a / b : Nat) : Int) := by
  rw [Int.fdiv_eq_ediv_of_nonneg _ (by lia)]; exact (Int.natCast_ediv _ _).symm
noncomputable def kOf (a n : Nat) : Nat := (Builtin.Int.intBits (a : Int) + n - 1) / n
theorem kOf_ok {a n : Nat} (hn : 1 ≤ n) : a < 2 ^ (n * kOf a n) := by
  have h : (a : Int).natAbs < 2 ^ Builtin.Int.intBits (a : Int) := intBits_le_iff.mp (Nat.le_refl _)
  rw [Int.natAbs_natCast] at h
  refine Nat.lt_of_lt_of_le h (Nat.pow_le_pow_right (by decide) ?_)
  unfold kOf
  generalize Builtin.Int.intBits (a : Int) = b
  have h1 := Nat.div_add_mod (b + n - 1) n
  have h2 := Nat.mod_lt (b + n - 1) (show n > 0 by lia)
  lia
noncomputable def i2dF (a n : Int) : Option intDom.V :=
  if 0 ≤ a ∧ 1 ≤ n ∧ n < 2 ^ 40 ∧ kOf a.toNat n.toNat ≤ 1000000 ∧ n.toNat * kOf a.toNat n.toNat ≤ 2 ^ 26 then some (intL (digs n.toNat (kOf a.toNat n.toNat) a.toNat)) else none
noncomputable abbrev σi (a n : Int) : Sg intDom := ([some (.int a), some (.int n), none, none, none], [none, none, none, none, none])
noncomputable def i2dRun (σ : Sg intDom) (o : Out intDom) : Prop := ∃ (a n : Int) (d : intDom.V), σ = σi a n ∧ i2dF a n = some d ∧ o = .ret d
noncomputable def i2dC (xs : List intDom.V) : Option intDom.V := o2 xs fun a b => oI a fun a => oI b fun n => i2dF a n
theorem clos_i2 {env : Env} {a b c : Addr} (h : env.cells = [(("inner" : Str), a), (("a_digits" : Str), c), (("n" : Str), b)]) : closureFor sc_i2dn env = pure [(("n" : Str), b), (("inner" : Str), a), (("a_digits" : Str), c)] := by
  cases env
  simp only at h
  subst h
  rfl
theorem cells_i2 (B : Nat) : cellsFrom (B + 1) nm_i2d [] = [(("inner" : Str), B + 3), (("a_digits" : Str), B + 2), (("n" : Str), B + 1)] := rfl
theorem nfn_i2 {clos : List (Str × Addr)} {doc pm ctv : Value} {c' : Addr} : NFn (fnX "inner" (tq T1) pr_i2dn i2dn_body sc_i2dn clos .none .none doc pm none (.ref c') ctv) nm_i2dn 3 i2dn_body where
  names := rfl
  kind := rfl
  co := rfl
  gen := rfl
  glob := rfl
  blt := rfl
  body := rfl
  bind := len3' fun a b c => rfl
  nodup := by decide
  kinds := by decide
  npl := by decide
  noCell := by decide
noncomputable def i2d_e : Ix := (.rep (.int 0 0 ⟨30, 16, 30, 17⟩) (.bin (.bin (.bin (.meth .bitlen (.var 0 ⟨30, 23, 30, 24⟩) [] ⟨30, 23, 30, 35⟩ ⟨30, 23, 30, 37⟩) .Add (.var 1 ⟨30, 40, 30, 41⟩) ⟨30, 23, 30, 41⟩) .Sub (.int 1 0 ⟨30, 44, 30, 45⟩) ⟨30, 23, 30, 45⟩) .FloorDiv (.var 1 ⟨30, 50, 30, 51⟩) ⟨30, 22, 30, 51⟩) ⟨30, 15, 30, 18⟩ ⟨30, 15, 30, 52⟩)
noncomputable def i2d_xs : List Ix := [i2d_a0, i2d_a1, .fn .len [.var 2 ⟨43, 24, 43, 32⟩] ⟨43, 20, 43, 23⟩ ⟨43, 20, 43, 33⟩]
theorem i2d_s1_eq : i2d_s1.dec nm_i2d = .Assign [.Name "a_digits" ⟨30, 4, 30, 12⟩] (i2d_e.dec nm_i2d) ⟨30, 4, 30, 52⟩ := rfl
theorem i2d_if_eq : i2d_if = .If (i2d_t.dec nm_i2d) [.Expr (.Call (.Name "inner" ⟨43, 8, 43, 13⟩) (decL nm_i2d i2d_xs) [] ⟨43, 8, 43, 34⟩) ⟨43, 8, 43, 34⟩] [] ⟨42, 4, 43, 34⟩ := rfl
theorem i2d_ev {a n : Nat} (hn : 1 ≤ n) (hn2 : (n : Int) < 2 ^ 40) (hk : kOf a n ≤ 1000000) : ev intDom tab0 tok0 8 false i2d_e (σi (a : Int) (n : Int)).1 = some (.list (List.replicate (kOf a n) (.int (0 : Int)))) := by
  have e1 : ((Builtin.Int.intBits (a : Int) : Int) + (n : Int) - 1).fdiv (n : Int) = ((kOf a n : Nat) : Int) := by
    have : (Builtin.Int.intBits (a : Int) : Int) + (n : Int) - 1 = ((Builtin.Int.intBits (a : Int) + n - 1 : Nat) : Int) := by lia
    rw [this, fdivN]; rfl
  have hb : Builtin.Int.intBits (n : Int) ≤ 9000 := Nat.le_trans ((intBits_le_iff (m := 40)).mpr (by rw [Int.natAbs_natCast]; have : ((2 ^ 40 : Nat) : Int) = 2 ^ 40 := rfl; lia)) (by decide)
  show ((((if (n : Int) = 0 ∨ Builtin.divisionGoesByPylong ((Builtin.Int.intBits (a : Int) : Int) + (n : Int) - 1) (n : Int) = true then none else some (((Builtin.Int.intBits (a : Int) : Int) + (n : Int) - 1).fdiv (n : Int))).map PV.int) : Option intDom.V).bind fun m => repP intDom (.int (0 : Int)) m) = _
  rw [if_neg (by rw [noPylong hb]; simp; lia), e1]
  show (if (decide (-1000000000 ≤ ((kOf a n : Nat) : Int)) && decide (((kOf a n : Nat) : Int) ≤ 10000000)) = true then some (PV.list (List.replicate (((kOf a n : Nat) : Int)).toNat (PV.int (0 : Int)))) else none) = _
  rw [if_pos (by simp; lia), Int.toNat_natCast]
  rfl
theorem digs_zero (n : Nat) : ∀ k, digs n k 0 = List.replicate k (0 : Int)
  | 0 => rfl
  | k + 1 => by rw [digs, Nat.zero_div, digs_zero n k, Nat.zero_mod]; rfl
section
variable {prog : Program} {w : World} {H : Heap} {r : Nat} {A : Around} {s s' : Shared} {env : Env}
theorem i2d_ok {a : Addr} {fd : FuncData} {mg mb : Str → Option Value} (K : Cx prog w intDom H tab0 tok0 0) (TH : TopH H mg mb) (C : CodeHd H 34 T1) (KF : FnOk H a fd nm_i2d 2 [i2d_s1, .any i2d_def, .any i2d_if, .any i2d_r]) (hcd : fd.code = .ref 34) (hq : fd.qualname = "_int2digits") (hG : GlobIs H (ufName 2) (.ref a)) :
    UserOk prog w intDom H (22 + 1) 2 i2dC := by
  refine fun_core (r := 22) i2dRun KF hG (fun xs d he => ?_) fun A env B P W s σ o hE R he S => ?_
  · refine o2_i he fun a b q he => oI_i he fun a' q1 he => oI_i he fun n q2 he => ?_
    subst q; subst q1; subst q2
    exact ⟨rfl, a', n, d, rfl, he, rfl⟩
  refine xAA hE ?_; clear hE; intro hE1 hE2 hE3
  refine he.elim ?_; clear he; intro a he
  refine he.elim ?_; clear he; intro n he
  refine he.elim ?_; clear he; rintro d ⟨rfl, h2, rfl⟩
  refine ifS h2 ?_; clear h2; rintro ⟨ha0, hn1, hn2, hk1, hk2⟩ h2
  (have zz := Option.some.inj h2; clear h2; subst zz)
  · ·
      refine xE (Int.eq_ofNat_of_zero_le ha0) ?_; rintro a' rfl
      refine xE (Int.eq_ofNat_of_zero_le (Int.le_trans (by decide : (0 : Int) ≤ 1) hn1)) ?_; rintro n' rfl
      rw [Int.toNat_natCast, Int.toNat_natCast] at *
      rw [cells_i2] at hE3
      have hn1' : 1 ≤ n' := by have : (1 : Int) ≤ (n' : Int) := hn1; lia
      have R0 : Room 0 A := R.le (by lia)
      have hcell3 : ∀ x k, nm_i2d.lookup x = some k → env.kindOf x = some k ∨ k = .free ∧ env.kindOf x = some .cell := S.fr.view.names
      have kc : ∀ x, nm_i2d.lookup x = some .cell → env.kindOf x = some .cell := fun x h => (hcell3 x _ h).resolve_right fun q => by cases q.1
      obtain ⟨cI, cvI, eI, icI, _⟩ := S.fr.view.cell "inner" (.inl (by decide))
      obtain ⟨cN, cvN, eN, icN, rN⟩ := S.fr.view.cell "n" (.inl (by decide))
      obtain ⟨cD, cvD, eD, icD, rD⟩ := S.fr.view.cell "a_digits" (.inl (by decide))
      have eI' := eI; have eN' := eN; have eD' := eD
      rw [hE3] at eI' eN' eD'
      have cI3 : cI = B + 3 := (Option.some.inj eI').symm
      have cN2 : cN = B + 1 := (Option.some.inj eN').symm
      have cD1 : cD = B + 2 := (Option.some.inj eD').symm
      have hWI : W cI := S.fr.wc "inner" cI (by decide) (by decide) eI
      have hWD : W cD := S.fr.wc "a_digits" cD (by decide) (by decide) eD
      have hkI := kc "inner" (by decide)
      have hkD := kc "a_digits" (by decide)
      have hne : cD ≠ cI ∧ cD ≠ cN ∧ cI ≠ cN := by
        refine ⟨fun q => ?_, fun q => ?_, fun q => ?_⟩
        · have : B + 2 = B + 3 := by rw [← cD1, ← cI3]; exact q
          lia
        · have : B + 2 = B + 1 := by rw [← cD1, ← cN2]; exact q
          lia
        · have : B + 3 = B + 1 := by rw [← cI3, ← cN2]; exact q
          lia
      have I := S.inv
      refine wpAny_execs_cons (exec_asg (swaps_plain (e := i2d_e) rfl _ _) (fresh_ok K (by decide) rfl (i2d_ev hn1' hn2 hk1) R0 (On.start I S.fr.view) fun D items s₁ x₁ y₁ hD lx rr => ?_))
      have hDl : D < s₁.heap.objs.size := let ⟨_, e⟩ := lx; Heap.lt_size e
      have S1 := S.less y₁ x₁.le hD hDl
      have icD1 := cell_step I.tabs y₁ id icD
      refine wpAny_bindName (wpAny_storeName_cell S.fr.view.kind hkD eD icD1 fun h' hc' hs => ?_)
      have y₂ : Step (fun b => b = cD) s₁ { s₁ with heap := h' } := by
        refine xEA icD1 ?_; clear icD1; intro o ho hd
        exact Step.same (tk := s₁.toks) hs (.inl rfl) ho fun vs q => by rw [hd] at q; cases q
      have S2 := S1.cellSet (x := "a_digits") (by decide) eD hWD rfl y₂ ⟨Nat.le_refl _, Nat.le_of_eq hs.1.symm⟩ hc'
      obtain ⟨s₂, hs2⟩ : ∃ s₂ : Shared, s₂ = { s₁ with heap := h' } := ⟨_, rfl⟩
      rw [← hs2] at y₂ S2 ⊢
      have lx2 : IsLx s₂.heap D items := lx_step S1.inv.tabs y₂ (fun q => cell_ne_list icD1 lx.list q.symm) lx
      have icD2 : s₂.heap.IsCell cD (some (.ref D)) := by rw [hs2]; exact hc'
      have icI2 := cell_step S1.inv.tabs y₂ (fun q => hne.1 (show cI = cD from q).symm) (cell_step I.tabs y₁ id icI)
      have I2 := S2.inv
      refine wpAny_execs_cons ((nest_def (T := T1) (c := 34) (mg := mg) (.inl rfl) rfl rfl rfl (clos_i2 hE3) S.fr.view.glob S.fr.view.kind (hE1.trans hcd) (codeHd_at C I2 (by decide) (by decide)) (I2.ns (by decide) (by decide) TH.glo.g) (main_ne (.inl rfl)) (TH.at I2 (.inl rfl)) ?_ rfl rfl hkI eI icI2 I2.tabs).le.mono fun fl s₃ z => ?_)
      · unfold qualnameIn
        rw [hkI, hE2, hq]
        decide
      refine xA z ?_; clear z; rintro ⟨rfl, F, c', doc, pm, ctv, hF, hrec, hcF, hFs, y3⟩ l3
      have S3 := S2.cellSet (x := "inner") (by decide) eI hWI rfl y3 l3 hcF
      rw [← cI3, ← cN2, ← cD1] at hF
      have lx3 : IsLx s₃.heap D items := lx_step I2.tabs y3 (fun q => cell_ne_list icI2 lx2.list q.symm) lx2
      have icD3 := cell_step I2.tabs y3 (fun q => hne.1 q) icD2
      have rr0 : RepL (fun _ => False) s₃.heap items.toList ((List.replicate (kOf a' n') (0 : Int)).map PV.int) := by
        have e : intDom.dvs (List.replicate (kOf a' n') (PV.int (0 : Int))) = (List.replicate (kOf a' n') (0 : Int)).map PV.int := (dvs_id _).trans (by rw [List.map_replicate]; rfl)
        have rr' := rr
        rw [show intDom.dvs (List.replicate (kOf a' n') (PV.int (0 : Int))) = (List.replicate (kOf a' n') (0 : Int)).map PV.int from e] at rr'
        exact repL_int2 rr'
      obtain ⟨fdI, hfdI⟩ : ∃ f, f = fnX "inner" (tq T1) pr_i2dn i2dn_body sc_i2dn [(("n" : Str), cN), (("inner" : Str), cI), (("a_digits" : Str), cD)] .none .none doc pm none (.ref c') ctv := ⟨_, rfl⟩
      have X3 : I2F F cD cI cN D (fnX "inner" (tq T1) pr_i2dn i2dn_body sc_i2dn [(("n" : Str), cN), (("inner" : Str), cI), (("a_digits" : Str), cD)] .none .none doc pm none (.ref c') ctv) (List.replicate (kOf a' n') (0 : Int)) n' s₃ := by
        refine ⟨⟨⟨_, hF, rfl⟩, hrec⟩, icD3, hcF, ?_, items, lx3, rr0⟩
        obtain ⟨c, cv, e, ic, rr⟩ := S3.fr.view.cell "n" (.inl (by decide))
        rw [eN] at e; (have zz := Option.some.inj e; clear e; subst zz)
        refine xEA (rr _ rfl) ?_; rintro v rfl rv
        (refine xE (Rep.inv rv) ?_; clear rv; intro zt zq; subst zq)
        exact ⟨_, ic⟩
      rw [← hfdI] at X3
      have y03 : Step W s s₃ := ((y₁.mono fun _ q => q.elim).trans y₂ fun b q => .inl (by rw [show b = cD from q]; exact hWD)).trans y3 fun b q => .inl (by rw [show b = cI from q]; exact hWI)
      -- the end: the list is given back
      have fin : ∀ (s₄ : Shared) (ds : List Int) (W4 : Addr → Prop), Step W4 s₃ s₄ → (∀ b, W4 b → b = D) → LeS s₃ s₄ → (∃ items, IsLx s₄.heap D items ∧ RepL (fun _ => False) s₄.heap items.toList (ds.map PV.int)) → ds = digs n' (kOf a' n') a' →
          Ok (model prog w) A (execs [i2d_r] env) (SPost intDom H nm_i2d env B P W s (.ret (intL (digs n' (kOf a' n') a')))) s₄ := by
        intro s₄ ds W4 y4 hW4 l4 li hds
        subst hds
        refine xEA li ?_; clear li; intro it lx4 r4
        have ne : cD ≠ D := cell_ne_list icD3 lx3.list
        have icD4 := cell_step S3.inv.tabs y4 (fun q => ne (hW4 _ q)) icD3
        have hDs : s.heap.objs.size ≤ D := hD
        have I4 : Inv H s₄ := S3.inv.step y4 (fun b q => by rw [hW4 b q]; exact Nat.le_trans S.inv.size hDs) l4
        refine wpAny_execs_cons (wpAny_Return_some (wpAny_Name (wpAny_loadName_cell S.fr.view.kind hkD eD icD4 ?_) (by decide)))
        refine ⟨P, W, y03.trans y4 fun b q => .inr (by rw [hW4 b q]; exact hDs), .refl _ _ _, I4, ?_⟩
        refine Eq.mpr (congrArg (Rep P s₄.heap (.ref D)) (denD _)) ?_
        exact .list (S.fr.view.fresh D hDs) lx4 (repL_int2 r4)
      by_cases ha : a' = 0
      · subst ha
        refine wpAny_execs_cons (wpAny_If ((ev_ok K 4).goT (e := i2d_t) (b := false) (by decide) rfl R0 (On.start S3.inv S3.fr.view) fun s₄ x4 => ?_))
        simp only [Bool.false_eq_true, if_false]
        refine wpAny_execs_nil ?_
        exact fin s₄ _ none' x4.step (fun _ q => q.elim) x4.le ⟨items, lx_step S3.inv.tabs x4.step id lx3, repL_int2 rr0⟩ (digs_zero _ _).symm
      · have hkpos : 0 < kOf a' n' := by
          rcases Nat.eq_zero_or_pos (kOf a' n') with h | h
          · have := kOf_ok (a := a') hn1'
            rw [h, Nat.mul_zero] at this
            lia
          · exact h
        have et : ev intDom tab0 tok0 4 true i2d_t (σi (a' : Int) (n' : Int)).1 = some (.bool true) := by
          show (some (!decide ((a' : Int) = 0))).map PV.bool = _
          rw [decide_eq_false (by lia)]; rfl
        refine wpAny_execs_cons (wpAny_If ((ev_ok K 4).goT (e := i2d_t) (b := true) (by decide) et R0 (On.start S3.inv S3.fr.view) fun s₄ x4 => ?_))
        simp only [if_true]
        have S4 := S3.step0 x4.step x4.le
        have X4 := X3.step0 S3.inv.tabs x4.step
        obtain ⟨⟨oF, hoF, hdF⟩, hrecF⟩ := id X4.fn
        have nF := S4.inv.tabs.ne hoF (fun vs q => by rw [hdF] at q; cases q)
        refine wpAny_execs_cons (wpAny_Expr (Call_ (wpAny_Name (wpAny_loadName_cell S.fr.view.kind hkI eI X4.ci ?_) (by decide))) (inter_fn S.fr.view.kind) rfl)
        refine callWith_function (o := oF) (fd := fdI) (args_dec (nm := nm_i2d) (xs := i2d_xs) (args_cons ?_ (dec_star _ _ _ _)))
        refine (ev_ok K 4).go (e := i2d_a0) (d := .int (a' : Int)) (by decide) rfl R0 (On.start S4.inv S4.fr.view) fun v s₅ x5 y5 r5 => ?_
        (refine xE (Rep.inv r5) ?_; clear r5; intro zt zq; subst zq)
        have S5 := S4.step0 y5 x5.le
        refine args_cons ?_ (dec_star _ _ _ _)
        refine (ev_ok K 4).go (e := i2d_a1) (d := .int (0 : Int)) (by decide) rfl R0 (On.start S5.inv S5.fr.view) fun v s₆ x6 y6 r6 => ?_
        (refine xE (Rep.inv r6) ?_; clear r6; intro zt zq; subst zq)
        have S6 := S5.step0 y6 x6.le
        have X6 := (X4.step0 S4.inv.tabs y5).step0 S5.inv.tabs y6
        refine args_cons ?_ (dec_star _ _ _ _)
        refine xEA X6.li ?_; intro it6 lx6 r6'
        have el : lenP intDom (intL (List.replicate (kOf a' n') (0 : Int))) = some (.int ((kOf a' n' : Nat) : Int)) := by
          show (if ((List.replicate (kOf a' n') (0 : Int)).map (PV.int : Int → DV)).length ≤ fitLen then some (PV.int (((List.replicate (kOf a' n') (0 : Int)).map (PV.int : Int → DV)).length : Int)) else none) = _
          rw [if_pos (by simp; unfold fitLen; lia)]
          simp
          rfl
        have rD6 : Rep (fun _ => True) s₆.heap (.ref D) (intDom.dv (intL (List.replicate (kOf a' n') (0 : Int)))) := Eq.mpr (congrArg (Rep _ s₆.heap (.ref D)) (denD _)) (.list trivial lx6 (repL_int2 r6'))
        refine Call_ (glob_go (On.start S6.inv S6.fr.view) (by decide) (K.fn .len) (by decide) (callWith_builtin (decL_plain nm_i2d env _ [.var 2 ⟨43, 24, 43, 32⟩]) (args_dec (nm := nm_i2d) (xs := [.var 2 ⟨43, 24, 43, 32⟩]) (args_cons (wpAny_Name (wpAny_loadName_cell S.fr.view.kind hkD eD X6.cd (args_nil ?_)) (by decide)) (dec_star _ _ _ _)))))
        refine wpAny_mono (wpAny_le (len_ok (P := fun _ => True) (Q := fun v s' => Post (fun _ => True) s₆ (intDom.dv (.int ((kOf a' n' : Nat) : Int))) v s') el rD6 fun v s' z => z)) (fun v s₇ z => ?_) fun _ _ q => q
        refine xA z ?_; clear z; rintro ⟨y7, r7⟩ l7
        (refine xE (Rep.inv r7) ?_; clear r7; intro zt zq; subst zq)
        refine args_nil ?_
        have S7 := S6.step0 y7 l7
        have X7 := X6.step0 S6.inv.tabs y7
        have y37 := ((x4.step.then y5).then y6).then y7
        refine ⟨⟨((y5.then y6).then y7).keep _ _ id nF.1 nF.2 hoF, hdF⟩, ?_⟩
        refine Ok.any ((i2_inner K (hfdI ▸ nfn_i2) (hfdI ▸ rfl) hne TH.glo (Nat.le_trans S.inv.size hD) 20 a' 0 (kOf a' n') A s₇ _ _ _ _ hkpos (by lia) (by simp) (by simp; exact hk1) (by simp; exact hk2) (by have := kOf_ok (a := a') hn1'; simpa using this) (R.le (by lia)) S7.inv X7).le.mono fun v s₈ z => ?_)
        refine xA z ?_; clear z; rintro ⟨rfl, y8, li8⟩ l8
        refine wpAny_execs_nil ?_
        refine fin s₈ _ (fun b => b = D) (y37.after y8) (fun _ q => q) (((((x4.le.trans x5.le).trans x6.le).trans l7).trans l8)) li8 ?_
        unfold setD
        rw [digs_len, List.take_zero, List.nil_append, Nat.sub_zero, List.drop_of_length_le (by simp), List.append_nil]
end
noncomputable def nm_div2n1n : Names := [("a", .«local»), ("b", .«local»), ("n", .«local»), ("pad", .«local»), ("half_n", .«local»), ("mask", .«local»), ("b1", .«local»), ("b2", .«local»), ("q1", .«local»), ("r", .«local»), ("q2", .«local»), ("_DIV_LIMIT", .globalImplicit), ("divmod", .globalImplicit), ("_div3n2n", .globalImplicit)]
noncomputable def ir_div2n1n : List St := [.ite (.cmp (.bin (.meth .bitlen (.var 0 ⟨4, 7, 4, 8⟩) [] ⟨4, 7, 4, 19⟩ ⟨4, 7, 4, 21⟩) .Sub (.var 2 ⟨4, 24, 4, 25⟩) ⟨4, 7, 4, 25⟩) .LtE (.gc .lim ⟨4, 29, 4, 39⟩) ⟨4, 7, 4, 39⟩) [.ret (.fn .divmod [(.var 0 ⟨5, 22, 5, 23⟩), (.var 1 ⟨5, 25, 5, 26⟩)] ⟨5, 15, 5, 21⟩ ⟨5, 15, 5, 27⟩) ⟨5, 8, 5, 27⟩] [] ⟨4, 4, 5, 27⟩,
    .asg 3 ⟨6, 4, 6, 7⟩ (.bin (.var 2 ⟨6, 10, 6, 11⟩) .BitAnd (.int 1 0 ⟨6, 14, 6, 15⟩) ⟨6, 10, 6, 15⟩) ⟨6, 4, 6, 15⟩,
    .ite (.var 3 ⟨7, 7, 7, 10⟩) [.aug 0 ⟨8, 8, 8, 9⟩ .LShift (.int 1 0 ⟨8, 14, 8, 15⟩) ⟨8, 8, 8, 15⟩,
    .aug 1 ⟨9, 8, 9, 9⟩ .LShift (.int 1 0 ⟨9, 14, 9, 15⟩) ⟨9, 8, 9, 15⟩,
    .aug 2 ⟨10, 8, 10, 9⟩ .Add (.int 1 0 ⟨10, 13, 10, 14⟩) ⟨10, 8, 10, 14⟩] [] ⟨7, 4, 10, 14⟩,
    .asg 4 ⟨11, 4, 11, 10⟩ (.bin (.var 2 ⟨11, 13, 11, 14⟩) .RShift (.int 1 0 ⟨11, 18, 11, 19⟩) ⟨11, 13, 11, 19⟩) ⟨11, 4, 11, 19⟩,
    .asg 5 ⟨12, 4, 12, 8⟩ (.bin (.bin (.int 1 0 ⟨12, 12, 12, 13⟩) .LShift (.var 4 ⟨12, 17, 12, 23⟩) ⟨12, 12, 12, 23⟩) .Sub (.int 1 0 ⟨12, 27, 12, 28⟩) ⟨12, 11, 12, 28⟩) ⟨12, 4, 12, 28⟩,
    .asgT [(6, ⟨13, 4, 13, 6⟩), (7, ⟨13, 8, 13, 10⟩)] 0 ⟨13, 4, 13, 10⟩ [(.bin (.var 1 ⟨13, 14, 13, 15⟩) .RShift (.var 4 ⟨13, 19, 13, 25⟩) ⟨13, 14, 13, 25⟩), (.bin (.var 1 ⟨13, 27, 13, 28⟩) .BitAnd (.var 5 ⟨13, 31, 13, 35⟩) ⟨13, 27, 13, 35⟩)] 0 ⟨13, 13, 13, 36⟩ ⟨13, 4, 13, 36⟩,
    .unp [(8, ⟨14, 4, 14, 6⟩), (9, ⟨14, 8, 14, 9⟩)] 0 ⟨14, 4, 14, 9⟩ (.user 1 [(.bin (.var 0 ⟨14, 21, 14, 22⟩) .RShift (.var 2 ⟨14, 26, 14, 27⟩) ⟨14, 21, 14, 27⟩), (.bin (.bin (.var 0 ⟨14, 29, 14, 30⟩) .RShift (.var 4 ⟨14, 34, 14, 40⟩) ⟨14, 29, 14, 40⟩) .BitAnd (.var 5 ⟨14, 43, 14, 47⟩) ⟨14, 29, 14, 47⟩), (.var 1 ⟨14, 49, 14, 50⟩), (.var 6 ⟨14, 52, 14, 54⟩), (.var 7 ⟨14, 56, 14, 58⟩), (.var 4 ⟨14, 60, 14, 66⟩)] ⟨14, 12, 14, 20⟩ ⟨14, 12, 14, 67⟩) ⟨14, 4, 14, 67⟩,
    .unp [(10, ⟨15, 4, 15, 6⟩), (9, ⟨15, 8, 15, 9⟩)] 0 ⟨15, 4, 15, 9⟩ (.user 1 [(.var 9 ⟨15, 21, 15, 22⟩), (.bin (.var 0 ⟨15, 24, 15, 25⟩) .BitAnd (.var 5 ⟨15, 28, 15, 32⟩) ⟨15, 24, 15, 32⟩), (.var 1 ⟨15, 34, 15, 35⟩), (.var 6 ⟨15, 37, 15, 39⟩), (.var 7 ⟨15, 41, 15, 43⟩), (.var 4 ⟨15, 45, 15, 51⟩)] ⟨15, 12, 15, 20⟩ ⟨15, 12, 15, 52⟩) ⟨15, 4, 15, 52⟩,
    .ite (.var 3 ⟨16, 7, 16, 10⟩) [.aug 9 ⟨17, 8, 17, 9⟩ .RShift (.int 1 0 ⟨17, 14, 17, 15⟩) ⟨17, 8, 17, 15⟩] [] ⟨16, 4, 17, 15⟩,
    .ret (.tup [(.bin (.bin (.var 8 ⟨18, 12, 18, 14⟩) .LShift (.var 4 ⟨18, 18, 18, 24⟩) ⟨18, 12, 18, 24⟩) .BitOr (.var 10 ⟨18, 27, 18, 29⟩) ⟨18, 12, 18, 29⟩), (.var 9 ⟨18, 31, 18, 32⟩)] 0 ⟨18, 11, 18, 33⟩) ⟨18, 4, 18, 33⟩]
noncomputable def pr_div2n1n : Arguments := ⟨[], [⟨"a", none, ⟨3, 13, 3, 14⟩⟩, ⟨"b", none, ⟨3, 16, 3, 17⟩⟩, ⟨"n", none, ⟨3, 19, 3, 20⟩⟩], none, [], [], none, []⟩
noncomputable def nm_div3n2n : Names := [("a12", .«local»), ("a3", .«local»), ("b", .«local»), ("b1", .«local»), ("b2", .«local»), ("n", .«local»), ("q", .«local»), ("r", .«local»), ("_div2n1n", .globalImplicit)]
noncomputable def ir_div3n2n : List St := [.ite (.cmp (.bin (.var 0 ⟨20, 7, 20, 10⟩) .RShift (.var 5 ⟨20, 14, 20, 15⟩) ⟨20, 7, 20, 15⟩) .Eq (.var 3 ⟨20, 19, 20, 21⟩) ⟨20, 7, 20, 21⟩) [.asgT [(6, ⟨21, 8, 21, 9⟩), (7, ⟨21, 11, 21, 12⟩)] 0 ⟨21, 8, 21, 12⟩ [(.bin (.bin (.int 1 0 ⟨21, 17, 21, 18⟩) .LShift (.var 5 ⟨21, 22, 21, 23⟩) ⟨21, 17, 21, 23⟩) .Sub (.int 1 0 ⟨21, 27, 21, 28⟩) ⟨21, 16, 21, 28⟩), (.bin (.bin (.var 0 ⟨21, 30, 21, 33⟩) .Sub (.bin (.var 3 ⟨21, 37, 21, 39⟩) .LShift (.var 5 ⟨21, 43, 21, 44⟩) ⟨21, 37, 21, 44⟩) ⟨21, 30, 21, 45⟩) .Add (.var 3 ⟨21, 48, 21, 50⟩) ⟨21, 30, 21, 50⟩)] 0 ⟨21, 15, 21, 51⟩ ⟨21, 8, 21, 51⟩] [.unp [(6, ⟨23, 8, 23, 9⟩), (7, ⟨23, 11, 23, 12⟩)] 0 ⟨23, 8, 23, 12⟩ (.user 0 [(.var 0 ⟨23, 24, 23, 27⟩), (.var 3 ⟨23, 29, 23, 31⟩), (.var 5 ⟨23, 33, 23, 34⟩)] ⟨23, 15, 23, 23⟩ ⟨23, 15, 23, 35⟩) ⟨23, 8, 23, 35⟩] ⟨20, 4, 23, 35⟩,
    .asg 7 ⟨24, 4, 24, 5⟩ (.bin (.bin (.bin (.var 7 ⟨24, 9, 24, 10⟩) .LShift (.var 5 ⟨24, 14, 24, 15⟩) ⟨24, 9, 24, 15⟩) .BitOr (.var 1 ⟨24, 18, 24, 20⟩) ⟨24, 9, 24, 20⟩) .Sub (.bin (.var 6 ⟨24, 24, 24, 25⟩) .Mult (.var 4 ⟨24, 28, 24, 30⟩) ⟨24, 24, 24, 30⟩) ⟨24, 8, 24, 30⟩) ⟨24, 4, 24, 30⟩,
    .whl (.cmp (.var 7 ⟨25, 10, 25, 11⟩) .Lt (.int 0 0 ⟨25, 14, 25, 15⟩) ⟨25, 10, 25, 15⟩) [.aug 6 ⟨26, 8, 26, 9⟩ .Sub (.int 1 0 ⟨26, 13, 26, 14⟩) ⟨26, 8, 26, 14⟩,
    .aug 7 ⟨27, 8, 27, 9⟩ .Add (.var 2 ⟨27, 13, 27, 14⟩) ⟨27, 8, 27, 14⟩] ⟨25, 4, 27, 14⟩,
    .ret (.tup [(.var 6 ⟨28, 12, 28, 13⟩), (.var 7 ⟨28, 15, 28, 16⟩)] 0 ⟨28, 11, 28, 17⟩) ⟨28, 4, 28, 17⟩]
noncomputable def pr_div3n2n : Arguments := ⟨[], [⟨"a12", none, ⟨19, 13, 19, 16⟩⟩, ⟨"a3", none, ⟨19, 18, 19, 20⟩⟩, ⟨"b", none, ⟨19, 22, 19, 23⟩⟩, ⟨"b1", none, ⟨19, 25, 19, 27⟩⟩, ⟨"b2", none, ⟨19, 29, 19, 31⟩⟩, ⟨"n", none, ⟨19, 33, 19, 34⟩⟩], none, [], [], none, []⟩
noncomputable def nm_divmod_pos : Names := [("a", .«local»), ("b", .«local»), ("n", .«local»), ("a_digits", .«local»), ("r", .«local»), ("q_digits", .«local»), ("a_digit", .«local»), ("q_digit", .«local»), ("q", .«local»), ("_int2digits", .globalImplicit), ("reversed", .globalImplicit), ("_div2n1n", .globalImplicit), ("_digits2int", .globalImplicit)]
noncomputable def ir_divmod_pos : List St := [.asg 2 ⟨55, 4, 55, 5⟩ (.meth .bitlen (.var 1 ⟨55, 8, 55, 9⟩) [] ⟨55, 8, 55, 20⟩ ⟨55, 8, 55, 22⟩) ⟨55, 4, 55, 22⟩,
    .asg 3 ⟨56, 4, 56, 12⟩ (.user 2 [(.var 0 ⟨56, 27, 56, 28⟩), (.var 2 ⟨56, 30, 56, 31⟩)] ⟨56, 15, 56, 26⟩ ⟨56, 15, 56, 32⟩) ⟨56, 4, 56, 32⟩,
    .asg 4 ⟨57, 4, 57, 5⟩ (.int 0 0 ⟨57, 8, 57, 9⟩) ⟨57, 4, 57, 9⟩,
    .own 5 ⟨58, 4, 58, 12⟩ (.lst [] ⟨58, 15, 58, 17⟩) ⟨58, 4, 58, 17⟩,
    .for (.one 6 ⟨59, 8, 59, 15⟩) (.rev (.var 3 ⟨59, 28, 59, 36⟩) ⟨59, 19, 59, 27⟩ ⟨59, 19, 59, 37⟩) [.unp [(7, ⟨60, 8, 60, 15⟩), (4, ⟨60, 17, 60, 18⟩)] 0 ⟨60, 8, 60, 18⟩ (.user 0 [(.bin (.bin (.var 4 ⟨60, 31, 60, 32⟩) .LShift (.var 2 ⟨60, 36, 60, 37⟩) ⟨60, 31, 60, 37⟩) .Add (.var 6 ⟨60, 41, 60, 48⟩) ⟨60, 30, 60, 48⟩), (.var 1 ⟨60, 50, 60, 51⟩), (.var 2 ⟨60, 53, 60, 54⟩)] ⟨60, 21, 60, 29⟩ ⟨60, 21, 60, 55⟩) ⟨60, 8, 60, 55⟩,
    .app 5 ⟨61, 8, 61, 16⟩ ⟨61, 8, 61, 23⟩ (.var 7 ⟨61, 24, 61, 31⟩) ⟨61, 8, 61, 32⟩ ⟨61, 8, 61, 32⟩] ⟨59, 4, 61, 32⟩,
    .rvs 5 ⟨62, 4, 62, 12⟩ ⟨62, 4, 62, 20⟩ ⟨62, 4, 62, 22⟩ ⟨62, 4, 62, 22⟩,
    .asg 8 ⟨63, 4, 63, 5⟩ (.user 3 [(.var 5 ⟨63, 20, 63, 28⟩), (.var 2 ⟨63, 30, 63, 31⟩)] ⟨63, 8, 63, 19⟩ ⟨63, 8, 63, 32⟩) ⟨63, 4, 63, 32⟩,
    .ret (.tup [(.var 8 ⟨64, 12, 64, 13⟩), (.var 4 ⟨64, 15, 64, 16⟩)] 0 ⟨64, 11, 64, 17⟩) ⟨64, 4, 64, 17⟩]
noncomputable def pr_divmod_pos : Arguments := ⟨[], [⟨"a", none, ⟨54, 16, 54, 17⟩⟩, ⟨"b", none, ⟨54, 19, 54, 20⟩⟩], none, [], [], none, []⟩
noncomputable def nm_int_divmod : Names := [("a", .«local»), ("b", .«local»), ("q", .«local»), ("r", .«local»), ("ZeroDivisionError", .globalImplicit), ("int_divmod", .globalImplicit), ("_divmod_pos", .globalImplicit)]
noncomputable def ir_int_divmod : List St := [.ite (.cmp (.var 1 ⟨66, 7, 66, 8⟩) .Eq (.int 0 0 ⟨66, 12, 66, 13⟩) ⟨66, 7, 66, 13⟩) [.any (.Raise (some (.Name "ZeroDivisionError" ⟨67, 14, 67, 31⟩)) none ⟨67, 8, 67, 31⟩)] [.ite (.cmp (.var 1 ⟨68, 9, 68, 10⟩) .Lt (.int 0 0 ⟨68, 13, 68, 14⟩) ⟨68, 9, 68, 14⟩) [.unp [(2, ⟨69, 8, 69, 9⟩), (3, ⟨69, 11, 69, 12⟩)] 0 ⟨69, 8, 69, 12⟩ (.user 5 [(.un .USub (.var 0 ⟨69, 27, 69, 28⟩) ⟨69, 26, 69, 28⟩), (.un .USub (.var 1 ⟨69, 31, 69, 32⟩) ⟨69, 30, 69, 32⟩)] ⟨69, 15, 69, 25⟩ ⟨69, 15, 69, 33⟩) ⟨69, 8, 69, 33⟩,
    .ret (.tup [(.var 2 ⟨70, 16, 70, 17⟩), (.un .USub (.var 3 ⟨70, 20, 70, 21⟩) ⟨70, 19, 70, 21⟩)] 0 ⟨70, 15, 70, 22⟩) ⟨70, 8, 70, 22⟩] [.ite (.cmp (.var 0 ⟨71, 9, 71, 10⟩) .Lt (.int 0 0 ⟨71, 13, 71, 14⟩) ⟨71, 9, 71, 14⟩) [.unp [(2, ⟨72, 8, 72, 9⟩), (3, ⟨72, 11, 72, 12⟩)] 0 ⟨72, 8, 72, 12⟩ (.user 5 [(.un .Invert (.var 0 ⟨72, 27, 72, 28⟩) ⟨72, 26, 72, 28⟩), (.var 1 ⟨72, 30, 72, 31⟩)] ⟨72, 15, 72, 25⟩ ⟨72, 15, 72, 32⟩) ⟨72, 8, 72, 32⟩,
    .ret (.tup [(.un .Invert (.var 2 ⟨73, 17, 73, 18⟩) ⟨73, 16, 73, 18⟩), (.bin (.var 1 ⟨73, 20, 73, 21⟩) .Add (.un .Invert (.var 3 ⟨73, 25, 73, 26⟩) ⟨73, 24, 73, 26⟩) ⟨73, 20, 73, 26⟩)] 0 ⟨73, 15, 73, 27⟩) ⟨73, 8, 73, 27⟩] [.ret (.user 4 [(.var 0 ⟨75, 27, 75, 28⟩), (.var 1 ⟨75, 30, 75, 31⟩)] ⟨75, 15, 75, 26⟩ ⟨75, 15, 75, 32⟩) ⟨75, 8, 75, 32⟩] ⟨71, 4, 75, 32⟩] ⟨68, 4, 75, 32⟩] ⟨66, 4, 75, 32⟩]
noncomputable def pr_int_divmod : Arguments := ⟨[], [⟨"a", none, ⟨65, 15, 65, 16⟩⟩, ⟨"b", none, ⟨65, 18, 65, 19⟩⟩], none, [], [], none, []⟩
noncomputable def nm_ellipsis_match : Names := [("want", .«local»), ("got", .«local»), ("ws", .«local»), ("startpos", .«local»), ("endpos", .«local»), ("w", .«local»), ("ELLIPSIS_MARKER", .globalImplicit), ("len", .globalImplicit)]
noncomputable def ir_ellipsis_match : List St := [.ite (.cmp (.gc .mark ⟨79, 7, 79, 22⟩) .NotIn (.var 0 ⟨79, 30, 79, 34⟩) ⟨79, 7, 79, 34⟩) [.ret (.cmp (.var 0 ⟨80, 15, 80, 19⟩) .Eq (.var 1 ⟨80, 23, 80, 26⟩) ⟨80, 15, 80, 26⟩) ⟨80, 8, 80, 26⟩] [] ⟨79, 4, 80, 26⟩,
    .own 2 ⟨81, 4, 81, 6⟩ (.meth .split (.var 0 ⟨81, 9, 81, 13⟩) [(.gc .mark ⟨81, 20, 81, 35⟩)] ⟨81, 9, 81, 19⟩ ⟨81, 9, 81, 36⟩) ⟨81, 4, 81, 36⟩,
    .asrt (.cmp (.fn .len [(.var 2 ⟨82, 15, 82, 17⟩)] ⟨82, 11, 82, 14⟩ ⟨82, 11, 82, 18⟩) .GtE (.int 2 0 ⟨82, 22, 82, 23⟩) ⟨82, 11, 82, 23⟩) ⟨82, 4, 82, 23⟩,
    .asgT [(3, ⟨83, 4, 83, 12⟩), (4, ⟨83, 14, 83, 20⟩)] 0 ⟨83, 4, 83, 20⟩ [(.int 0 0 ⟨83, 24, 83, 25⟩), (.fn .len [(.var 1 ⟨83, 31, 83, 34⟩)] ⟨83, 27, 83, 30⟩ ⟨83, 27, 83, 35⟩)] 0 ⟨83, 23, 83, 36⟩ ⟨83, 4, 83, 36⟩,
    .asg 5 ⟨84, 4, 84, 5⟩ (.sub (.var 2 ⟨84, 8, 84, 10⟩) (.int 0 0 ⟨84, 11, 84, 12⟩) ⟨84, 8, 84, 13⟩) ⟨84, 4, 84, 13⟩,
    .ite (.var 5 ⟨85, 7, 85, 8⟩) [.ite (.meth .starts (.var 1 ⟨86, 11, 86, 14⟩) [(.var 5 ⟨86, 26, 86, 27⟩)] ⟨86, 11, 86, 25⟩ ⟨86, 11, 86, 28⟩) [.asg 3 ⟨87, 12, 87, 20⟩ (.fn .len [(.var 5 ⟨87, 27, 87, 28⟩)] ⟨87, 23, 87, 26⟩ ⟨87, 23, 87, 29⟩) ⟨87, 12, 87, 29⟩,
    .del 2 ⟨88, 16, 88, 18⟩ (.int 0 0 ⟨88, 19, 88, 20⟩) ⟨88, 16, 88, 21⟩ ⟨88, 12, 88, 21⟩] [.ret (.bool false 0 ⟨90, 19, 90, 24⟩) ⟨90, 12, 90, 24⟩] ⟨86, 8, 90, 24⟩] [] ⟨85, 4, 90, 24⟩,
    .asg 5 ⟨91, 4, 91, 5⟩ (.sub (.var 2 ⟨91, 8, 91, 10⟩) (.un .USub (.int 1 0 ⟨91, 12, 91, 13⟩) ⟨91, 11, 91, 13⟩) ⟨91, 8, 91, 14⟩) ⟨91, 4, 91, 14⟩,
    .ite (.var 5 ⟨92, 7, 92, 8⟩) [.ite (.meth .ends (.var 1 ⟨93, 11, 93, 14⟩) [(.var 5 ⟨93, 24, 93, 25⟩)] ⟨93, 11, 93, 23⟩ ⟨93, 11, 93, 26⟩) [.aug 4 ⟨94, 12, 94, 18⟩ .Sub (.fn .len [(.var 5 ⟨94, 26, 94, 27⟩)] ⟨94, 22, 94, 25⟩ ⟨94, 22, 94, 28⟩) ⟨94, 12, 94, 28⟩,
    .del 2 ⟨95, 16, 95, 18⟩ (.un .USub (.int 1 0 ⟨95, 20, 95, 21⟩) ⟨95, 19, 95, 21⟩) ⟨95, 16, 95, 22⟩ ⟨95, 12, 95, 22⟩] [.ret (.bool false 0 ⟨97, 19, 97, 24⟩) ⟨97, 12, 97, 24⟩] ⟨93, 8, 97, 24⟩] [] ⟨92, 4, 97, 24⟩,
    .ite (.cmp (.var 3 ⟨98, 7, 98, 15⟩) .Gt (.var 4 ⟨98, 18, 98, 24⟩) ⟨98, 7, 98, 24⟩) [.ret (.bool false 0 ⟨99, 15, 99, 20⟩) ⟨99, 8, 99, 20⟩] [] ⟨98, 4, 99, 20⟩,
    .for (.one 5 ⟨100, 8, 100, 9⟩) (.var 2 ⟨100, 13, 100, 15⟩) [.asg 3 ⟨101, 8, 101, 16⟩ (.meth .find4 (.var 1 ⟨101, 19, 101, 22⟩) [(.var 5 ⟨101, 28, 101, 29⟩), (.var 3 ⟨101, 31, 101, 39⟩), (.var 4 ⟨101, 41, 101, 47⟩)] ⟨101, 19, 101, 27⟩ ⟨101, 19, 101, 48⟩) ⟨101, 8, 101, 48⟩,
    .ite (.cmp (.var 3 ⟨102, 11, 102, 19⟩) .Lt (.int 0 0 ⟨102, 22, 102, 23⟩) ⟨102, 11, 102, 23⟩) [.ret (.bool false 0 ⟨103, 19, 103, 24⟩) ⟨103, 12, 103, 24⟩] [] ⟨102, 8, 103, 24⟩,
    .aug 3 ⟨104, 8, 104, 16⟩ .Add (.fn .len [(.var 5 ⟨104, 24, 104, 25⟩)] ⟨104, 20, 104, 23⟩ ⟨104, 20, 104, 26⟩) ⟨104, 8, 104, 26⟩] ⟨100, 4, 104, 26⟩,
    .ret (.bool true 0 ⟨105, 11, 105, 15⟩) ⟨105, 4, 105, 15⟩]
noncomputable def pr_ellipsis_match : Arguments := ⟨[], [⟨"want", none, ⟨78, 20, 78, 24⟩⟩, ⟨"got", none, ⟨78, 26, 78, 29⟩⟩], none, [], [], none, []⟩
noncomputable def nm_strip_quoted_realnames : Names := [("addr", .«local»), ("start", .«local»), ("open_pos", .«local»), ("result", .«local»), ("pos", .«local»), ("ch", .«local»), ("_iter_escaped_chars", .globalImplicit), ("len", .globalImplicit)]
noncomputable def ir_strip_quoted_realnames : List St := [.ite (.cmp (.str [34] 0 ⟨121, 7, 121, 10⟩) .NotIn (.var 0 ⟨121, 18, 121, 22⟩) ⟨121, 7, 121, 22⟩) [.ret (.var 0 ⟨122, 15, 122, 19⟩) ⟨122, 8, 122, 19⟩] [] ⟨121, 4, 122, 19⟩,
    .asg 1 ⟨123, 4, 123, 9⟩ (.int 0 0 ⟨123, 12, 123, 13⟩) ⟨123, 4, 123, 13⟩,
    .asg 2 ⟨124, 4, 124, 12⟩ (.non 0 ⟨124, 15, 124, 19⟩) ⟨124, 4, 124, 19⟩,
    .own 3 ⟨125, 4, 125, 10⟩ (.lst [] ⟨125, 13, 125, 15⟩) ⟨125, 4, 125, 15⟩,
    .for (.many [(4, ⟨126, 8, 126, 11⟩), (5, ⟨126, 13, 126, 15⟩)] 0 ⟨126, 8, 126, 15⟩) (.user 7 [(.var 0 ⟨126, 39, 126, 43⟩)] ⟨126, 19, 126, 38⟩ ⟨126, 19, 126, 44⟩) [.ite (.cmp (.var 5 ⟨127, 11, 127, 13⟩) .Eq (.str [34] 0 ⟨127, 17, 127, 20⟩) ⟨127, 11, 127, 20⟩) [.ite (.cmp (.var 2 ⟨128, 15, 128, 23⟩) .Is (.non 0 ⟨128, 27, 128, 31⟩) ⟨128, 15, 128, 31⟩) [.asg 2 ⟨129, 16, 129, 24⟩ (.var 4 ⟨129, 27, 129, 30⟩) ⟨129, 16, 129, 30⟩] [.ite (.cmp (.var 1 ⟨131, 19, 131, 24⟩) .NotEq (.var 2 ⟨131, 28, 131, 36⟩) ⟨131, 19, 131, 36⟩) [.app 3 ⟨132, 20, 132, 26⟩ ⟨132, 20, 132, 33⟩ (.subs (.var 0 ⟨132, 34, 132, 38⟩) (.var 1 ⟨132, 39, 132, 44⟩) (.var 2 ⟨132, 45, 132, 53⟩) ⟨132, 39, 132, 53⟩ ⟨132, 34, 132, 54⟩) ⟨132, 20, 132, 55⟩ ⟨132, 20, 132, 55⟩] [] ⟨131, 16, 132, 55⟩,
    .asg 1 ⟨133, 16, 133, 21⟩ (.bin (.var 4 ⟨133, 24, 133, 27⟩) .Add (.int 1 0 ⟨133, 30, 133, 31⟩) ⟨133, 24, 133, 31⟩) ⟨133, 16, 133, 31⟩,
    .asg 2 ⟨134, 16, 134, 24⟩ (.non 0 ⟨134, 27, 134, 31⟩) ⟨134, 16, 134, 31⟩] ⟨128, 12, 134, 31⟩] [] ⟨127, 8, 134, 31⟩] ⟨126, 4, 134, 31⟩,
    .ite (.cmp (.var 1 ⟨135, 7, 135, 12⟩) .Lt (.fn .len [(.var 0 ⟨135, 19, 135, 23⟩)] ⟨135, 15, 135, 18⟩ ⟨135, 15, 135, 24⟩) ⟨135, 7, 135, 24⟩) [.app 3 ⟨136, 8, 136, 14⟩ ⟨136, 8, 136, 21⟩ (.subs (.var 0 ⟨136, 22, 136, 26⟩) (.var 1 ⟨136, 27, 136, 32⟩) .absent ⟨136, 27, 136, 33⟩ ⟨136, 22, 136, 34⟩) ⟨136, 8, 136, 35⟩ ⟨136, 8, 136, 35⟩] [] ⟨135, 4, 136, 35⟩,
    .ret (.meth .join (.str [] 0 ⟨137, 11, 137, 13⟩) [(.var 3 ⟨137, 19, 137, 25⟩)] ⟨137, 11, 137, 18⟩ ⟨137, 11, 137, 26⟩) ⟨137, 4, 137, 26⟩]
noncomputable def pr_strip_quoted_realnames : Arguments := ⟨[], [⟨"addr", none, ⟨120, 28, 120, 32⟩⟩], none, [], [], none, []⟩
noncomputable def nm_check_parenthesis : Names := [("addr", .«local»), ("opens", .«local»), ("pos", .«local»), ("ch", .«local»), ("_strip_quoted_realnames", .globalImplicit), ("_iter_escaped_chars", .globalImplicit)]
noncomputable def ir_check_parenthesis : List St := [.asg 0 ⟨139, 4, 139, 8⟩ (.user 8 [(.var 0 ⟨139, 35, 139, 39⟩)] ⟨139, 11, 139, 34⟩ ⟨139, 11, 139, 40⟩) ⟨139, 4, 139, 40⟩,
    .asg 1 ⟨140, 4, 140, 9⟩ (.int 0 0 ⟨140, 12, 140, 13⟩) ⟨140, 4, 140, 13⟩,
    .for (.many [(2, ⟨141, 8, 141, 11⟩), (3, ⟨141, 13, 141, 15⟩)] 0 ⟨141, 8, 141, 15⟩) (.user 7 [(.var 0 ⟨141, 39, 141, 43⟩)] ⟨141, 19, 141, 38⟩ ⟨141, 19, 141, 44⟩) [.ite (.cmp (.var 3 ⟨142, 11, 142, 13⟩) .Eq (.str [40] 0 ⟨142, 17, 142, 20⟩) ⟨142, 11, 142, 20⟩) [.aug 1 ⟨143, 12, 143, 17⟩ .Add (.int 1 0 ⟨143, 21, 143, 22⟩) ⟨143, 12, 143, 22⟩] [.ite (.cmp (.var 3 ⟨144, 13, 144, 15⟩) .Eq (.str [41] 0 ⟨144, 19, 144, 22⟩) ⟨144, 13, 144, 22⟩) [.aug 1 ⟨145, 12, 145, 17⟩ .Sub (.int 1 0 ⟨145, 21, 145, 22⟩) ⟨145, 12, 145, 22⟩,
    .ite (.cmp (.var 1 ⟨146, 15, 146, 20⟩) .Lt (.int 0 0 ⟨146, 23, 146, 24⟩) ⟨146, 15, 146, 24⟩) [.ret (.bool false 0 ⟨147, 23, 147, 28⟩) ⟨147, 16, 147, 28⟩] [] ⟨146, 12, 147, 28⟩] [] ⟨144, 8, 147, 28⟩] ⟨142, 8, 147, 28⟩] ⟨141, 4, 147, 28⟩,
    .ret (.cmp (.var 1 ⟨148, 11, 148, 16⟩) .Eq (.int 0 0 ⟨148, 20, 148, 21⟩) ⟨148, 11, 148, 21⟩) ⟨148, 4, 148, 21⟩]
noncomputable def pr_check_parenthesis : Arguments := ⟨[], [⟨"addr", none, ⟨138, 23, 138, 27⟩⟩], none, [], [], none, []⟩
noncomputable def nm_law_cells : Names := [("script", .«local»), ("cells", .«local»), ("k", .«local»), ("back", .«local»), ("entry", .«local»), ("range", .globalImplicit), ("len", .globalImplicit), ("abs", .globalImplicit)]
noncomputable def ir_law_cells : List St := [.own 1 ⟨201, 4, 201, 9⟩ (.lst [(.int 0 0 ⟨201, 13, 201, 14⟩), (.int 2 0 ⟨201, 16, 201, 17⟩), (.int 2 0 ⟨201, 19, 201, 20⟩), (.int 1 0 ⟨201, 22, 201, 23⟩), (.int 5 0 ⟨201, 25, 201, 26⟩), (.int 1 0 ⟨201, 28, 201, 29⟩), (.int 0 0 ⟨201, 31, 201, 32⟩)] ⟨201, 12, 201, 33⟩) ⟨201, 4, 201, 33⟩,
    .for (.one 2 ⟨202, 8, 202, 9⟩) (.rng [(.fn .len [(.var 0 ⟨202, 23, 202, 29⟩)] ⟨202, 19, 202, 22⟩ ⟨202, 19, 202, 30⟩)] ⟨202, 13, 202, 18⟩ ⟨202, 13, 202, 31⟩) [.augI 1 ⟨203, 8, 203, 13⟩ (.bin (.var 2 ⟨203, 14, 203, 15⟩) .Mod (.int 7 0 ⟨203, 18, 203, 19⟩) ⟨203, 14, 203, 19⟩) ⟨203, 8, 203, 20⟩ .Add (.sub (.var 0 ⟨203, 24, 203, 30⟩) (.var 2 ⟨203, 31, 203, 32⟩) ⟨203, 24, 203, 33⟩) ⟨203, 8, 203, 33⟩] ⟨202, 4, 203, 33⟩,
    .asgT [(3, ⟨204, 4, 204, 8⟩), (4, ⟨204, 10, 204, 15⟩)] 0 ⟨204, 4, 204, 15⟩ [(.fn .abs [(.sub (.var 1 ⟨204, 23, 204, 28⟩) (.int 1 0 ⟨204, 29, 204, 30⟩) ⟨204, 23, 204, 31⟩)] ⟨204, 19, 204, 22⟩ ⟨204, 19, 204, 32⟩), (.bin (.int 1 0 ⟨204, 34, 204, 35⟩) .Add (.bin (.fn .abs [(.sub (.var 1 ⟨204, 42, 204, 47⟩) (.int 2 0 ⟨204, 48, 204, 49⟩) ⟨204, 42, 204, 50⟩)] ⟨204, 38, 204, 41⟩ ⟨204, 38, 204, 51⟩) .Mod (.bin (.int 2 0 ⟨204, 54, 204, 55⟩) .Pow (.int 64 0 ⟨204, 59, 204, 61⟩) ⟨204, 54, 204, 61⟩) ⟨204, 38, 204, 61⟩) ⟨204, 34, 204, 61⟩)] 0 ⟨204, 18, 204, 62⟩ ⟨204, 4, 204, 62⟩,
    .ret (.tup [(.var 1 ⟨205, 12, 205, 17⟩), (.ife (.cmp (.var 3 ⟨205, 27, 205, 31⟩) .Lt (.bin (.int 2 0 ⟨205, 34, 205, 35⟩) .Pow (.int 64 0 ⟨205, 39, 205, 41⟩) ⟨205, 34, 205, 41⟩) ⟨205, 27, 205, 41⟩) (.var 3 ⟨205, 19, 205, 23⟩) (.bin (.var 3 ⟨205, 47, 205, 51⟩) .Mod (.bin (.int 2 0 ⟨205, 54, 205, 55⟩) .Pow (.int 4400 0 ⟨205, 59, 205, 63⟩) ⟨205, 54, 205, 63⟩) ⟨205, 47, 205, 63⟩) ⟨205, 19, 205, 63⟩), (.var 4 ⟨205, 65, 205, 70⟩)] 0 ⟨205, 11, 205, 71⟩) ⟨205, 4, 205, 71⟩]
noncomputable def pr_law_cells : Arguments := ⟨[], [⟨"script", none, ⟨200, 15, 200, 21⟩⟩], none, [], [], none, []⟩
noncomputable def nm_law_rows : Names := [("signs", .«local»), ("rows", .«local»), ("sign", .cell)]
noncomputable def ir_law_rows : List St := [.asg 1 ⟨207, 4, 207, 8⟩ (.lst [(.str [] 0 ⟨207, 12, 207, 14⟩)] ⟨207, 11, 207, 15⟩) ⟨207, 4, 207, 15⟩,
    .for (.one 2 ⟨208, 8, 208, 12⟩) (.var 0 ⟨208, 16, 208, 21⟩) [.asg 1 ⟨209, 8, 209, 12⟩ (.comp (.bin (.bin (.subs (.var 1 ⟨209, 16, 209, 19⟩) .absent (.var 2 ⟨209, 21, 209, 22⟩) ⟨209, 20, 209, 22⟩ ⟨209, 16, 209, 23⟩) .Add (.var 5 ⟨209, 26, 209, 30⟩) ⟨209, 16, 209, 30⟩) .Add (.subs (.var 1 ⟨209, 33, 209, 36⟩) (.var 2 ⟨209, 37, 209, 38⟩) .absent ⟨209, 37, 209, 39⟩ ⟨209, 33, 209, 40⟩) ⟨209, 16, 209, 40⟩) (.cl (.one 1 ⟨209, 45, 209, 48⟩) (.var 1 ⟨209, 52, 209, 56⟩) [] (.cl (.one 2 ⟨209, 61, 209, 62⟩) (.rng [(.bin (.fn .len [(.var 1 ⟨209, 76, 209, 79⟩)] ⟨209, 72, 209, 75⟩ ⟨209, 72, 209, 80⟩) .Add (.int 1 0 ⟨209, 83, 209, 84⟩) ⟨209, 72, 209, 84⟩)] ⟨209, 66, 209, 71⟩ ⟨209, 66, 209, 85⟩) [] .endc)) [(".0", .«local»), ("row", .«local»), ("k", .«local»), ("range", .globalImplicit), ("len", .globalImplicit), ("sign", .free)] [none, none, none, none, none, some 2] ⟨209, 15, 209, 86⟩) ⟨209, 8, 209, 86⟩] ⟨208, 4, 209, 86⟩,
    .ret (.var 1 ⟨210, 11, 210, 15⟩) ⟨210, 4, 210, 15⟩]
noncomputable def pr_law_rows : Arguments := ⟨[], [⟨"signs", none, ⟨206, 14, 206, 19⟩⟩], none, [], [], none, []⟩
noncomputable def nm_law_weights : Names := [("signs", .cell), ("back", .«local»), ("entry", .«local»), ("many", .cell), ("weights", .«local»), ("triples", .«local»), ("patterns", .«local»), ("row", .cell), ("numbers", .cell), ("spots", .cell), ("state", .«local»), ("over", .«local»), ("len", .globalImplicit), ("range", .globalImplicit), ("_law_rows", .globalImplicit), ("ENDMARKER", .globalImplicit), ("sum", .globalImplicit)]
noncomputable def ir_law_weights : List St := [.asg 3 ⟨212, 4, 212, 8⟩ (.fn .len [(.var 0 ⟨212, 15, 212, 20⟩)] ⟨212, 11, 212, 14⟩ ⟨212, 11, 212, 21⟩) ⟨212, 4, 212, 21⟩,
    .own 4 ⟨213, 4, 213, 11⟩ (.rep (.int 0 0 ⟨213, 15, 213, 16⟩) (.bin (.int 2 0 ⟨213, 20, 213, 21⟩) .Pow (.bin (.var 3 ⟨213, 26, 213, 30⟩) .Sub (.int 1 0 ⟨213, 33, 213, 34⟩) ⟨213, 26, 213, 34⟩) ⟨213, 20, 213, 35⟩) ⟨213, 14, 213, 17⟩ ⟨213, 14, 213, 35⟩) ⟨213, 4, 213, 35⟩,
    .asg 5 ⟨214, 4, 214, 11⟩ (.comp (.tup [(.var 2 ⟨214, 16, 214, 17⟩), (.var 1 ⟨214, 19, 214, 20⟩), (.var 4 ⟨214, 22, 214, 23⟩)] 0 ⟨214, 15, 214, 24⟩) (.cl (.one 1 ⟨214, 29, 214, 30⟩) (.rng [(.int 1 0 ⟨214, 40, 214, 41⟩), (.bin (.var 3 ⟨214, 43, 214, 47⟩) .Sub (.int 1 0 ⟨214, 50, 214, 51⟩) ⟨214, 43, 214, 51⟩)] ⟨214, 34, 214, 39⟩ ⟨214, 34, 214, 52⟩) [] (.cl (.one 2 ⟨214, 57, 214, 58⟩) (.rng [(.var 1 ⟨214, 68, 214, 69⟩)] ⟨214, 62, 214, 67⟩ ⟨214, 62, 214, 70⟩) [] (.cl (.one 4 ⟨214, 75, 214, 76⟩) (.rng [(.bin (.var 1 ⟨214, 86, 214, 87⟩) .Add (.int 1 0 ⟨214, 90, 214, 91⟩) ⟨214, 86, 214, 91⟩), (.var 5 ⟨214, 93, 214, 97⟩)] ⟨214, 80, 214, 85⟩ ⟨214, 80, 214, 98⟩) [] .endc))) [(".0", .«local»), ("b", .«local»), ("a", .«local»), ("range", .globalImplicit), ("c", .«local»), ("many", .free)] [none, none, none, none, none, some 3] ⟨214, 14, 214, 99⟩) ⟨214, 4, 214, 99⟩,
    .asg 6 ⟨215, 4, 215, 12⟩ (.comp (.bin (.bin (.bin (.bin (.bin (.str [46, 46, 46] 0 ⟨215, 16, 215, 21⟩) .Add (.sub (.var 4 ⟨215, 24, 215, 29⟩) (.var 3 ⟨215, 30, 215, 31⟩) ⟨215, 24, 215, 32⟩) ⟨215, 16, 215, 32⟩) .Add (.sub (.var 4 ⟨215, 35, 215, 40⟩) (.var 1 ⟨215, 41, 215, 42⟩) ⟨215, 35, 215, 43⟩) ⟨215, 16, 215, 43⟩) .Add (.str [46, 46, 46] 0 ⟨215, 46, 215, 51⟩) ⟨215, 16, 215, 51⟩) .Add (.sub (.var 4 ⟨215, 54, 215, 59⟩) (.var 2 ⟨215, 60, 215, 61⟩) ⟨215, 54, 215, 62⟩) ⟨215, 16, 215, 62⟩) .Add (.str [46, 46, 46] 0 ⟨215, 65, 215, 70⟩) ⟨215, 16, 215, 70⟩) (.cl (.many [(1, ⟨215, 75, 215, 76⟩), (2, ⟨215, 78, 215, 79⟩), (3, ⟨215, 81, 215, 82⟩)] 0 ⟨215, 75, 215, 82⟩) (.var 5 ⟨215, 86, 215, 93⟩) [] .endc) [(".0", .«local»), ("a", .«local»), ("b", .«local»), ("c", .«local»), ("signs", .free)] [none, none, none, none, some 0] ⟨215, 15, 215, 94⟩) ⟨215, 4, 215, 94⟩,
    .for (.one 7 ⟨216, 8, 216, 11⟩) (.user 11 [(.var 0 ⟨216, 25, 216, 30⟩)] ⟨216, 15, 216, 24⟩ ⟨216, 15, 216, 31⟩) [.asg 8 ⟨217, 8, 217, 15⟩ (.bin (.comp (.tok (.var 1 ⟨217, 37, 217, 41⟩) ⟨217, 19, 217, 36⟩ ⟨217, 19, 217, 42⟩) (.cl (.one 1 ⟨217, 47, 217, 51⟩) (.var 7 ⟨217, 55, 217, 58⟩) [] .endc) [(".0", .«local»), ("sign", .«local»), ("EXACT_TOKEN_TYPES", .globalImplicit)] [none, none, none] ⟨217, 18, 217, 59⟩) .Add (.lst [(.gc .endm ⟨217, 63, 217, 72⟩)] ⟨217, 62, 217, 73⟩) ⟨217, 18, 217, 73⟩) ⟨217, 8, 217, 73⟩,
    .asg 9 ⟨218, 8, 218, 13⟩ (.comp (.meth .find (.var 2 ⟨218, 17, 218, 20⟩) [(.var 1 ⟨218, 26, 218, 30⟩)] ⟨218, 17, 218, 25⟩ ⟨218, 17, 218, 31⟩) (.cl (.one 1 ⟨218, 36, 218, 40⟩) (.subs (.var 0 ⟨218, 44, 218, 49⟩) .absent (.un .USub (.int 1 0 ⟨218, 52, 218, 53⟩) ⟨218, 51, 218, 53⟩) ⟨218, 50, 218, 53⟩ ⟨218, 44, 218, 54⟩) [] .endc) [(".0", .«local»), ("sign", .«local»), ("row", .free)] [none, none, some 7] ⟨218, 16, 218, 55⟩) ⟨218, 8, 218, 55⟩,
    .asg 10 ⟨219, 8, 219, 13⟩ (.fn .sum [(.comp (.bin (.int 2 0 ⟨219, 21, 219, 22⟩) .Pow (.var 1 ⟨219, 26, 219, 27⟩) ⟨219, 21, 219, 27⟩) (.cl (.one 1 ⟨219, 32, 219, 33⟩) (.rng [(.bin (.var 3 ⟨219, 43, 219, 47⟩) .Sub (.int 1 0 ⟨219, 50, 219, 51⟩) ⟨219, 43, 219, 51⟩)] ⟨219, 37, 219, 42⟩ ⟨219, 37, 219, 52⟩) [(.cmp (.sub (.var 2 ⟨219, 56, 219, 63⟩) (.bin (.sub (.var 3 ⟨219, 64, 219, 69⟩) (.var 1 ⟨219, 70, 219, 71⟩) ⟨219, 64, 219, 72⟩) .Add (.int 1 0 ⟨219, 75, 219, 76⟩) ⟨219, 64, 219, 76⟩) ⟨219, 56, 219, 77⟩) .Gt (.sub (.var 2 ⟨219, 80, 219, 87⟩) (.sub (.var 3 ⟨219, 88, 219, 93⟩) (.var 1 ⟨219, 94, 219, 95⟩) ⟨219, 88, 219, 96⟩) ⟨219, 80, 219, 97⟩) ⟨219, 56, 219, 97⟩)] .endc) [(".0", .«local»), ("k", .«local»), ("numbers", .free), ("spots", .free)] [none, none, some 8, some 9] ⟨219, 20, 219, 98⟩)] ⟨219, 16, 219, 19⟩ ⟨219, 16, 219, 99⟩) ⟨219, 8, 219, 99⟩,
    .asg 11 ⟨220, 8, 220, 12⟩ (.fn .len [(.comp (.var 1 ⟨220, 20, 220, 21⟩) (.cl (.one 1 ⟨220, 26, 220, 27⟩) (.rng [(.var 3 ⟨220, 37, 220, 41⟩)] ⟨220, 31, 220, 36⟩ ⟨220, 31, 220, 42⟩) [(.cmp (.fn .max [(.subs (.var 3 ⟨220, 50, 220, 57⟩) (.var 1 ⟨220, 58, 220, 59⟩) .absent ⟨220, 58, 220, 60⟩ ⟨220, 50, 220, 61⟩)] ⟨220, 46, 220, 49⟩ ⟨220, 46, 220, 62⟩) .Gt (.sub (.var 3 ⟨220, 65, 220, 72⟩) (.var 1 ⟨220, 73, 220, 74⟩) ⟨220, 65, 220, 75⟩) ⟨220, 46, 220, 75⟩)] .endc) [(".0", .«local»), ("k", .«local»), ("max", .globalImplicit), ("numbers", .free)] [none, none, none, some 8] ⟨220, 19, 220, 76⟩)] ⟨220, 15, 220, 18⟩ ⟨220, 15, 220, 77⟩) ⟨220, 8, 220, 77⟩,
    .augI 4 ⟨221, 8, 221, 15⟩ (.var 10 ⟨221, 16, 221, 21⟩) ⟨221, 8, 221, 22⟩ .Add (.bin (.bin (.var 2 ⟨221, 26, 221, 31⟩) .Pow (.var 11 ⟨221, 35, 221, 39⟩) ⟨221, 26, 221, 39⟩) .Mult (.bin (.var 1 ⟨221, 42, 221, 46⟩) .Pow (.fn .len [(.comp (.var 1 ⟨221, 55, 221, 58⟩) (.cl (.one 1 ⟨221, 63, 221, 66⟩) (.var 6 ⟨221, 70, 221, 78⟩) [(.user 6 [(.var 1 ⟨221, 98, 221, 101⟩), (.var 3 ⟨221, 103, 221, 106⟩)] ⟨221, 82, 221, 97⟩ ⟨221, 82, 221, 107⟩)] .endc) [(".0", .«local»), ("one", .«local»), ("_ellipsis_match", .globalImplicit), ("row", .free)] [none, none, none, some 7] ⟨221, 54, 221, 108⟩)] ⟨221, 50, 221, 53⟩ ⟨221, 50, 221, 109⟩) ⟨221, 42, 221, 109⟩) ⟨221, 26, 221, 109⟩) ⟨221, 8, 221, 109⟩] ⟨216, 4, 221, 109⟩,
    .ret (.var 4 ⟨222, 11, 222, 18⟩) ⟨222, 4, 222, 18⟩]
noncomputable def pr_law_weights : Arguments := ⟨[], [⟨"signs", none, ⟨211, 17, 211, 22⟩⟩, ⟨"back", none, ⟨211, 24, 211, 28⟩⟩, ⟨"entry", none, ⟨211, 30, 211, 35⟩⟩], none, [], [], none, []⟩
noncomputable def nm_law_steps : Names := [("text", .«local»), ("back", .«local»), ("entry", .«local»), ("steps", .«local»), ("k", .«local»), ("_ellipsis_match", .globalImplicit), ("range", .globalImplicit), ("len", .globalImplicit)]
noncomputable def ir_law_steps : List St := [.own 3 ⟨224, 4, 224, 9⟩ (.lst [] ⟨224, 12, 224, 14⟩) ⟨224, 4, 224, 14⟩,
    .ite (.user 6 [(.str [41, 46, 46, 46] 0 ⟨225, 23, 225, 29⟩), (.var 0 ⟨225, 31, 225, 35⟩)] ⟨225, 7, 225, 22⟩ ⟨225, 7, 225, 36⟩) [.app 3 ⟨226, 8, 226, 13⟩ ⟨226, 8, 226, 20⟩ (.tup [(.bin (.str [40] 0 ⟨226, 22, 226, 25⟩) .Add (.subs (.var 0 ⟨226, 28, 226, 32⟩) (.int 1 0 ⟨226, 33, 226, 34⟩) .absent ⟨226, 33, 226, 35⟩ ⟨226, 28, 226, 36⟩) ⟨226, 22, 226, 36⟩), (.var 2 ⟨226, 38, 226, 43⟩)] 0 ⟨226, 21, 226, 44⟩) ⟨226, 8, 226, 45⟩ ⟨226, 8, 226, 45⟩] [] ⟨225, 4, 226, 45⟩,
    .ite (.user 6 [(.str [46, 46, 46, 40] 0 ⟨227, 23, 227, 29⟩), (.var 0 ⟨227, 31, 227, 35⟩)] ⟨227, 7, 227, 22⟩ ⟨227, 7, 227, 36⟩) [.app 3 ⟨228, 8, 228, 13⟩ ⟨228, 8, 228, 20⟩ (.tup [(.bin (.subs (.var 0 ⟨228, 22, 228, 26⟩) .absent (.un .USub (.int 1 0 ⟨228, 29, 228, 30⟩) ⟨228, 28, 228, 30⟩) ⟨228, 27, 228, 30⟩ ⟨228, 22, 228, 31⟩) .Add (.str [41] 0 ⟨228, 34, 228, 37⟩) ⟨228, 22, 228, 37⟩), (.int 1 0 ⟨228, 39, 228, 40⟩)] 0 ⟨228, 21, 228, 41⟩) ⟨228, 8, 228, 42⟩ ⟨228, 8, 228, 42⟩] [] ⟨227, 4, 228, 42⟩,
    .for (.one 4 ⟨229, 8, 229, 9⟩) (.rng [(.bin (.fn .len [(.var 0 ⟨229, 23, 229, 27⟩)] ⟨229, 19, 229, 22⟩ ⟨229, 19, 229, 28⟩) .Sub (.int 1 0 ⟨229, 31, 229, 32⟩) ⟨229, 19, 229, 32⟩)] ⟨229, 13, 229, 18⟩ ⟨229, 13, 229, 33⟩) [.ite (.user 6 [(.bin (.subs (.var 0 ⟨230, 27, 230, 31⟩) .absent (.var 4 ⟨230, 33, 230, 34⟩) ⟨230, 32, 230, 34⟩ ⟨230, 27, 230, 35⟩) .Add (.str [40, 41, 46, 46, 46] 0 ⟨230, 38, 230, 45⟩) ⟨230, 27, 230, 45⟩), (.var 0 ⟨230, 47, 230, 51⟩)] ⟨230, 11, 230, 26⟩ ⟨230, 11, 230, 52⟩) [.app 3 ⟨231, 12, 231, 17⟩ ⟨231, 12, 231, 24⟩ (.tup [(.bin (.bin (.subs (.var 0 ⟨231, 26, 231, 30⟩) .absent (.var 4 ⟨231, 32, 231, 33⟩) ⟨231, 31, 231, 33⟩ ⟨231, 26, 231, 34⟩) .Add (.str [41, 40] 0 ⟨231, 37, 231, 41⟩) ⟨231, 26, 231, 41⟩) .Add (.subs (.var 0 ⟨231, 44, 231, 48⟩) (.bin (.var 4 ⟨231, 49, 231, 50⟩) .Add (.int 2 0 ⟨231, 53, 231, 54⟩) ⟨231, 49, 231, 54⟩) .absent ⟨231, 49, 231, 55⟩ ⟨231, 44, 231, 56⟩) ⟨231, 26, 231, 56⟩), (.int 1 0 ⟨231, 58, 231, 59⟩)] 0 ⟨231, 25, 231, 60⟩) ⟨231, 12, 231, 61⟩ ⟨231, 12, 231, 61⟩] [] ⟨230, 8, 231, 61⟩,
    .ite (.user 6 [(.bin (.str [46, 46, 46, 41, 40] 0 ⟨232, 27, 232, 34⟩) .Add (.subs (.var 0 ⟨232, 37, 232, 41⟩) (.bin (.var 4 ⟨232, 42, 232, 43⟩) .Add (.int 2 0 ⟨232, 46, 232, 47⟩) ⟨232, 42, 232, 47⟩) .absent ⟨232, 42, 232, 48⟩ ⟨232, 37, 232, 49⟩) ⟨232, 27, 232, 49⟩), (.var 0 ⟨232, 51, 232, 55⟩)] ⟨232, 11, 232, 26⟩ ⟨232, 11, 232, 56⟩) [.app 3 ⟨233, 12, 233, 17⟩ ⟨233, 12, 233, 24⟩ (.tup [(.bin (.bin (.subs (.var 0 ⟨233, 26, 233, 30⟩) .absent (.var 4 ⟨233, 32, 233, 33⟩) ⟨233, 31, 233, 33⟩ ⟨233, 26, 233, 34⟩) .Add (.str [40, 41] 0 ⟨233, 37, 233, 41⟩) ⟨233, 26, 233, 41⟩) .Add (.subs (.var 0 ⟨233, 44, 233, 48⟩) (.bin (.var 4 ⟨233, 49, 233, 50⟩) .Add (.int 2 0 ⟨233, 53, 233, 54⟩) ⟨233, 49, 233, 54⟩) .absent ⟨233, 49, 233, 55⟩ ⟨233, 44, 233, 56⟩) ⟨233, 26, 233, 56⟩), (.var 1 ⟨233, 58, 233, 62⟩)] 0 ⟨233, 25, 233, 63⟩) ⟨233, 12, 233, 64⟩ ⟨233, 12, 233, 64⟩] [] ⟨232, 8, 233, 64⟩] ⟨229, 4, 233, 64⟩,
    .ret (.var 3 ⟨234, 11, 234, 16⟩) ⟨234, 4, 234, 16⟩]
noncomputable def pr_law_steps : Arguments := ⟨[], [⟨"text", none, ⟨223, 15, 223, 19⟩⟩, ⟨"back", none, ⟨223, 21, 223, 25⟩⟩, ⟨"entry", none, ⟨223, 27, 223, 32⟩⟩], none, [], [], none, []⟩
noncomputable def nm_law_flows : Names := [("texts", .«local»), ("weights", .«local»), ("back", .«local»), ("entry", .«local»), ("out", .«local»), ("into", .«local»), ("k", .«local»), ("text", .«local»), ("rate", .«local»), ("len", .globalImplicit), ("range", .globalImplicit), ("_law_steps", .globalImplicit)]
noncomputable def ir_law_flows : List St := [.own2 4 ⟨236, 4, 236, 7⟩ 5 ⟨236, 9, 236, 13⟩ 0 ⟨236, 4, 236, 13⟩ (.rep (.int 0 0 ⟨236, 18, 236, 19⟩) (.fn .len [(.var 0 ⟨236, 27, 236, 32⟩)] ⟨236, 23, 236, 26⟩ ⟨236, 23, 236, 33⟩) ⟨236, 17, 236, 20⟩ ⟨236, 17, 236, 33⟩) (.rep (.int 0 0 ⟨236, 36, 236, 37⟩) (.fn .len [(.var 0 ⟨236, 45, 236, 50⟩)] ⟨236, 41, 236, 44⟩ ⟨236, 41, 236, 51⟩) ⟨236, 35, 236, 38⟩ ⟨236, 35, 236, 51⟩) 0 ⟨236, 16, 236, 52⟩ ⟨236, 4, 236, 52⟩,
    .for (.one 6 ⟨237, 8, 237, 9⟩) (.rng [(.fn .len [(.var 0 ⟨237, 23, 237, 28⟩)] ⟨237, 19, 237, 22⟩ ⟨237, 19, 237, 29⟩)] ⟨237, 13, 237, 18⟩ ⟨237, 13, 237, 30⟩) [.for (.many [(7, ⟨238, 12, 238, 16⟩), (8, ⟨238, 18, 238, 22⟩)] 0 ⟨238, 12, 238, 22⟩) (.user 13 [(.sub (.var 0 ⟨238, 37, 238, 42⟩) (.var 6 ⟨238, 43, 238, 44⟩) ⟨238, 37, 238, 45⟩), (.var 2 ⟨238, 47, 238, 51⟩), (.var 3 ⟨238, 53, 238, 58⟩)] ⟨238, 26, 238, 36⟩ ⟨238, 26, 238, 59⟩) [.ite (.cmp (.var 7 ⟨239, 15, 239, 19⟩) .Eq (.sub (.var 0 ⟨239, 23, 239, 28⟩) (.var 6 ⟨239, 29, 239, 30⟩) ⟨239, 23, 239, 31⟩) ⟨239, 15, 239, 31⟩) [.ret (.non 0 ⟨240, 23, 240, 27⟩) ⟨240, 16, 240, 27⟩] [] ⟨239, 12, 240, 27⟩,
    .augI 4 ⟨241, 12, 241, 15⟩ (.var 6 ⟨241, 16, 241, 17⟩) ⟨241, 12, 241, 18⟩ .Add (.var 8 ⟨241, 22, 241, 26⟩) ⟨241, 12, 241, 26⟩,
    .augI 5 ⟨242, 12, 242, 16⟩ (.meth .index (.var 0 ⟨242, 17, 242, 22⟩) [(.var 7 ⟨242, 29, 242, 33⟩)] ⟨242, 17, 242, 28⟩ ⟨242, 17, 242, 34⟩) ⟨242, 12, 242, 35⟩ .Add (.bin (.sub (.var 1 ⟨242, 39, 242, 46⟩) (.var 6 ⟨242, 47, 242, 48⟩) ⟨242, 39, 242, 49⟩) .Mult (.var 8 ⟨242, 52, 242, 56⟩) ⟨242, 39, 242, 56⟩) ⟨242, 12, 242, 56⟩] ⟨238, 8, 242, 56⟩] ⟨237, 4, 242, 56⟩,
    .ret (.tup [(.var 4 ⟨243, 12, 243, 15⟩), (.var 5 ⟨243, 17, 243, 21⟩)] 0 ⟨243, 11, 243, 22⟩) ⟨243, 4, 243, 22⟩]
noncomputable def pr_law_flows : Arguments := ⟨[], [⟨"texts", none, ⟨235, 15, 235, 20⟩⟩, ⟨"weights", none, ⟨235, 22, 235, 29⟩⟩, ⟨"back", none, ⟨235, 31, 235, 35⟩⟩, ⟨"entry", none, ⟨235, 37, 235, 42⟩⟩], none, [], [], none, []⟩
noncomputable def nm_law_balanced : Names := [("out", .«local»), ("into", .«local»), ("weights", .«local»), ("laid", .«local»), ("signs", .«local»), ("over", .«local»), ("under", .«local»), ("k", .«local»), ("rest", .«local»), ("range", .globalImplicit), ("len", .globalImplicit), ("int_divmod", .globalImplicit)]
noncomputable def ir_law_balanced : List St := [.asgT [(5, ⟨245, 4, 245, 8⟩), (6, ⟨245, 10, 245, 15⟩)] 0 ⟨245, 4, 245, 15⟩ [(.bin (.int 1 0 ⟨245, 19, 245, 20⟩) .Sub (.bin (.bin (.var 4 ⟨245, 23, 245, 28⟩) .Mod (.int 2 0 ⟨245, 31, 245, 32⟩) ⟨245, 23, 245, 32⟩) .Mult (.int 2 0 ⟨245, 35, 245, 36⟩) ⟨245, 23, 245, 36⟩) ⟨245, 19, 245, 36⟩), (.bin (.int 1 0 ⟨245, 38, 245, 39⟩) .Sub (.bin (.bin (.bin (.var 4 ⟨245, 42, 245, 47⟩) .FloorDiv (.int 2 0 ⟨245, 51, 245, 52⟩) ⟨245, 42, 245, 52⟩) .Mod (.int 2 0 ⟨245, 55, 245, 56⟩) ⟨245, 42, 245, 56⟩) .Mult (.int 2 0 ⟨245, 59, 245, 60⟩) ⟨245, 42, 245, 60⟩) ⟨245, 38, 245, 60⟩)] 0 ⟨245, 18, 245, 61⟩ ⟨245, 4, 245, 61⟩,
    .for (.one 7 ⟨246, 8, 246, 9⟩) (.rng [(.fn .len [(.var 2 ⟨246, 23, 246, 30⟩)] ⟨246, 19, 246, 22⟩ ⟨246, 19, 246, 31⟩)] ⟨246, 13, 246, 18⟩ ⟨246, 13, 246, 32⟩) [.asg 8 ⟨247, 8, 247, 12⟩ (.bin (.var 3 ⟨247, 15, 247, 19⟩) .Mod (.sub (.var 0 ⟨247, 22, 247, 25⟩) (.var 7 ⟨247, 26, 247, 27⟩) ⟨247, 22, 247, 28⟩) ⟨247, 15, 247, 28⟩) ⟨247, 8, 247, 28⟩,
    .ite (.cmp (.user 5 [(.bin (.bin (.var 5 ⟨248, 22, 248, 26⟩) .Mult (.sub (.var 1 ⟨248, 29, 248, 33⟩) (.var 7 ⟨248, 34, 248, 35⟩) ⟨248, 29, 248, 36⟩) ⟨248, 22, 248, 36⟩) .Add (.bin (.var 6 ⟨248, 39, 248, 44⟩) .Mult (.var 8 ⟨248, 47, 248, 51⟩) ⟨248, 39, 248, 51⟩) ⟨248, 22, 248, 51⟩), (.bin (.var 6 ⟨248, 53, 248, 58⟩) .Mult (.sub (.var 0 ⟨248, 61, 248, 64⟩) (.var 7 ⟨248, 65, 248, 66⟩) ⟨248, 61, 248, 67⟩) ⟨248, 53, 248, 67⟩)] ⟨248, 11, 248, 21⟩ ⟨248, 11, 248, 68⟩) .NotEq (.tup [(.bin (.bin (.var 5 ⟨248, 73, 248, 77⟩) .Mult (.var 6 ⟨248, 80, 248, 85⟩) ⟨248, 73, 248, 85⟩) .Mult (.sub (.var 2 ⟨248, 88, 248, 95⟩) (.var 7 ⟨248, 96, 248, 97⟩) ⟨248, 88, 248, 98⟩) ⟨248, 73, 248, 98⟩), (.bin (.var 6 ⟨248, 100, 248, 105⟩) .Mult (.var 8 ⟨248, 108, 248, 112⟩) ⟨248, 100, 248, 112⟩)] 0 ⟨248, 72, 248, 113⟩) ⟨248, 11, 248, 113⟩) [.ret (.bool false 0 ⟨249, 19, 249, 24⟩) ⟨249, 12, 249, 24⟩] [] ⟨248, 8, 249, 24⟩] ⟨246, 4, 249, 24⟩,
    .ret (.bool true 0 ⟨250, 11, 250, 15⟩) ⟨250, 4, 250, 15⟩]
noncomputable def pr_law_balanced : Arguments := ⟨[], [⟨"out", none, ⟨244, 18, 244, 21⟩⟩, ⟨"into", none, ⟨244, 23, 244, 27⟩⟩, ⟨"weights", none, ⟨244, 29, 244, 36⟩⟩, ⟨"laid", none, ⟨244, 38, 244, 42⟩⟩, ⟨"signs", none, ⟨244, 44, 244, 49⟩⟩], none, [], [], none, []⟩
noncomputable def nm_law_once : Names := [("text", .cell), ("cut", .«local»), ("end", .«local»), ("twice", .«local»), ("wrong", .«local»), ("right", .«local»), ("told", .cell), ("_ellipsis_match", .globalImplicit), ("range", .globalImplicit)]
noncomputable def ir_law_once : List St := [.asgT [(2, ⟨252, 4, 252, 7⟩), (3, ⟨252, 9, 252, 14⟩)] 0 ⟨252, 4, 252, 14⟩ [(.subs (.var 0 ⟨252, 18, 252, 22⟩) (.var 1 ⟨252, 23, 252, 26⟩) .absent ⟨252, 23, 252, 27⟩ ⟨252, 18, 252, 28⟩), (.bin (.str [46, 46, 46] 0 ⟨252, 30, 252, 35⟩) .Add (.bin (.bin (.subs (.var 0 ⟨252, 39, 252, 43⟩) .absent (.int 1 0 ⟨252, 45, 252, 46⟩) ⟨252, 44, 252, 46⟩ ⟨252, 39, 252, 47⟩) .Add (.str [46, 46, 46] 0 ⟨252, 50, 252, 55⟩) ⟨252, 39, 252, 55⟩) .Mult (.int 2 0 ⟨252, 59, 252, 60⟩) ⟨252, 38, 252, 60⟩) ⟨252, 30, 252, 60⟩)] 0 ⟨252, 17, 252, 61⟩ ⟨252, 4, 252, 61⟩,
    .asg 4 ⟨253, 4, 253, 9⟩ (.lst [(.bin (.bin (.var 0 ⟨253, 13, 253, 17⟩) .Add (.str [46, 46, 46] 0 ⟨253, 20, 253, 25⟩) ⟨253, 13, 253, 25⟩) .Add (.var 2 ⟨253, 28, 253, 31⟩) ⟨253, 13, 253, 31⟩), (.bin (.bin (.bin (.str [46, 46, 46] 0 ⟨253, 33, 253, 38⟩) .Add (.var 2 ⟨253, 41, 253, 44⟩) ⟨253, 33, 253, 44⟩) .Add (.str [46, 46, 46] 0 ⟨253, 47, 253, 52⟩) ⟨253, 33, 253, 52⟩) .Add (.var 0 ⟨253, 55, 253, 59⟩) ⟨253, 33, 253, 59⟩), (.bin (.bin (.bin (.var 0 ⟨253, 61, 253, 65⟩) .Add (.str [46, 46, 46] 0 ⟨253, 68, 253, 73⟩) ⟨253, 61, 253, 73⟩) .Add (.var 2 ⟨253, 76, 253, 79⟩) ⟨253, 61, 253, 79⟩) .Add (.str [46, 46, 46] 0 ⟨253, 82, 253, 87⟩) ⟨253, 61, 253, 87⟩), (.bin (.bin (.bin (.bin (.str [46, 46, 46] 0 ⟨253, 89, 253, 94⟩) .Add (.var 0 ⟨253, 97, 253, 101⟩) ⟨253, 89, 253, 101⟩) .Add (.str [46, 46, 46] 0 ⟨253, 104, 253, 109⟩) ⟨253, 89, 253, 109⟩) .Add (.var 2 ⟨253, 112, 253, 115⟩) ⟨253, 89, 253, 115⟩) .Add (.str [46, 46, 46] 0 ⟨253, 118, 253, 123⟩) ⟨253, 89, 253, 123⟩), (.bin (.bin (.bin (.bin (.subs (.var 0 ⟨253, 125, 253, 129⟩) .absent (.int 1 0 ⟨253, 131, 253, 132⟩) ⟨253, 130, 253, 132⟩ ⟨253, 125, 253, 133⟩) .Add (.str [46, 46, 46] 0 ⟨253, 136, 253, 141⟩) ⟨253, 125, 253, 141⟩) .Add (.var 0 ⟨253, 144, 253, 148⟩) ⟨253, 125, 253, 148⟩) .Add (.str [46, 46, 46] 0 ⟨253, 151, 253, 156⟩) ⟨253, 125, 253, 156⟩) .Add (.subs (.var 0 ⟨253, 159, 253, 163⟩) (.int 1 0 ⟨253, 164, 253, 165⟩) .absent ⟨253, 164, 253, 166⟩ ⟨253, 159, 253, 167⟩) ⟨253, 125, 253, 167⟩), (.bin (.var 0 ⟨253, 169, 253, 173⟩) .Add (.var 2 ⟨253, 176, 253, 179⟩) ⟨253, 169, 253, 179⟩), (.subs (.var 0 ⟨253, 181, 253, 185⟩) (.int 1 0 ⟨253, 186, 253, 187⟩) .absent ⟨253, 186, 253, 188⟩ ⟨253, 181, 253, 189⟩), (.subs (.var 0 ⟨253, 191, 253, 195⟩) .absent (.un .USub (.int 1 0 ⟨253, 198, 253, 199⟩) ⟨253, 197, 253, 199⟩) ⟨253, 196, 253, 199⟩ ⟨253, 191, 253, 200⟩)] ⟨253, 12, 253, 201⟩) ⟨253, 4, 253, 201⟩,
    .asg 5 ⟨254, 4, 254, 9⟩ (.lst [(.var 0 ⟨254, 13, 254, 17⟩), (.bin (.bin (.subs (.var 0 ⟨254, 19, 254, 23⟩) .absent (.var 1 ⟨254, 25, 254, 28⟩) ⟨254, 24, 254, 28⟩ ⟨254, 19, 254, 29⟩) .Add (.str [46, 46, 46] 0 ⟨254, 32, 254, 37⟩) ⟨254, 19, 254, 37⟩) .Add (.var 2 ⟨254, 40, 254, 43⟩) ⟨254, 19, 254, 43⟩), (.bin (.bin (.bin (.bin (.subs (.var 0 ⟨254, 45, 254, 49⟩) .absent (.int 1 0 ⟨254, 51, 254, 52⟩) ⟨254, 50, 254, 52⟩ ⟨254, 45, 254, 53⟩) .Add (.str [46, 46, 46] 0 ⟨254, 56, 254, 61⟩) ⟨254, 45, 254, 61⟩) .Add (.subs (.var 0 ⟨254, 64, 254, 68⟩) (.int 1 0 ⟨254, 69, 254, 70⟩) (.int 2 0 ⟨254, 71, 254, 72⟩) ⟨254, 69, 254, 72⟩ ⟨254, 64, 254, 73⟩) ⟨254, 45, 254, 73⟩) .Add (.str [46, 46, 46] 0 ⟨254, 76, 254, 81⟩) ⟨254, 45, 254, 81⟩) .Add (.subs (.var 0 ⟨254, 84, 254, 88⟩) (.int 2 0 ⟨254, 89, 254, 90⟩) .absent ⟨254, 89, 254, 91⟩ ⟨254, 84, 254, 92⟩) ⟨254, 45, 254, 92⟩)] ⟨254, 12, 254, 93⟩) ⟨254, 4, 254, 93⟩,
    .asg 6 ⟨255, 4, 255, 8⟩ (.bin (.comp (.user 6 [(.var 1 ⟨255, 28, 255, 31⟩), (.var 3 ⟨255, 33, 255, 37⟩)] ⟨255, 12, 255, 27⟩ ⟨255, 12, 255, 38⟩) (.cl (.one 1 ⟨255, 43, 255, 46⟩) (.bin (.var 4 ⟨255, 50, 255, 55⟩) .Add (.var 5 ⟨255, 58, 255, 63⟩) ⟨255, 50, 255, 63⟩) [] .endc) [(".0", .«local»), ("one", .«local»), ("_ellipsis_match", .globalImplicit), ("text", .free)] [none, none, none, some 0] ⟨255, 11, 255, 64⟩) .Add (.lst [(.user 6 [(.var 3 ⟨255, 84, 255, 89⟩), (.bin (.var 0 ⟨255, 91, 255, 95⟩) .Add (.var 0 ⟨255, 98, 255, 102⟩) ⟨255, 91, 255, 102⟩)] ⟨255, 68, 255, 83⟩ ⟨255, 68, 255, 103⟩)] ⟨255, 67, 255, 104⟩) ⟨255, 11, 255, 104⟩) ⟨255, 4, 255, 104⟩,
    .ret (.cmp (.comp (.var 1 ⟨256, 12, 256, 13⟩) (.cl (.one 1 ⟨256, 18, 256, 19⟩) (.rng [(.int 12 0 ⟨256, 29, 256, 31⟩)] ⟨256, 23, 256, 28⟩ ⟨256, 23, 256, 32⟩) [(.cmp (.sub (.var 2 ⟨256, 36, 256, 40⟩) (.var 1 ⟨256, 41, 256, 42⟩) ⟨256, 36, 256, 43⟩) .IsNot (.cmp (.var 1 ⟨256, 52, 256, 53⟩) .Gt (.int 7 0 ⟨256, 56, 256, 57⟩) ⟨256, 52, 256, 57⟩) ⟨256, 36, 256, 58⟩)] .endc) [(".0", .«local»), ("k", .«local»), ("told", .free)] [none, none, some 6] ⟨256, 11, 256, 59⟩) .Eq (.lst [] ⟨256, 63, 256, 65⟩) ⟨256, 11, 256, 65⟩) ⟨256, 4, 256, 65⟩]
noncomputable def pr_law_once : Arguments := ⟨[], [⟨"text", none, ⟨251, 14, 251, 18⟩⟩, ⟨"cut", none, ⟨251, 20, 251, 23⟩⟩], none, [], [], none, []⟩
noncomputable def nm_law_hidden : Names := [("sign", .«local»), ("way", .«local»)]
noncomputable def ir_law_hidden : List St := [.ret (.sub (.lst [(.bin (.str [92] 0 ⟨258, 12, 258, 16⟩) .Add (.var 0 ⟨258, 19, 258, 23⟩) ⟨258, 12, 258, 23⟩), (.bin (.bin (.str [92, 92, 34] 0 ⟨258, 25, 258, 32⟩) .Add (.var 0 ⟨258, 35, 258, 39⟩) ⟨258, 25, 258, 39⟩) .Add (.str [34] 0 ⟨258, 42, 258, 45⟩) ⟨258, 25, 258, 45⟩), (.bin (.bin (.str [34, 92, 34] 0 ⟨258, 47, 258, 53⟩) .Add (.var 0 ⟨258, 56, 258, 60⟩) ⟨258, 47, 258, 60⟩) .Add (.str [34] 0 ⟨258, 63, 258, 66⟩) ⟨258, 47, 258, 66⟩)] ⟨258, 11, 258, 67⟩) (.var 1 ⟨258, 68, 258, 71⟩) ⟨258, 11, 258, 72⟩) ⟨258, 4, 258, 72⟩]
noncomputable def pr_law_hidden : Arguments := ⟨[], [⟨"sign", none, ⟨257, 16, 257, 20⟩⟩, ⟨"way", none, ⟨257, 22, 257, 25⟩⟩], none, [], [], none, []⟩
noncomputable def nm_law_waiting : Names := [("front", .«local»), ("many", .«local»), ("range", .globalImplicit), ("_check_parenthesis", .globalImplicit)]
noncomputable def ir_law_waiting : List St := [.for (.one 1 ⟨260, 8, 260, 12⟩) (.rng [(.int 4 0 ⟨260, 22, 260, 23⟩)] ⟨260, 16, 260, 21⟩ ⟨260, 16, 260, 24⟩) [.ite (.user 9 [(.bin (.var 0 ⟨261, 30, 261, 35⟩) .Add (.bin (.str [41] 0 ⟨261, 38, 261, 41⟩) .Mult (.var 1 ⟨261, 44, 261, 48⟩) ⟨261, 38, 261, 48⟩) ⟨261, 30, 261, 48⟩)] ⟨261, 11, 261, 29⟩ ⟨261, 11, 261, 49⟩) [.ret (.var 1 ⟨262, 19, 262, 23⟩) ⟨262, 12, 262, 23⟩] [] ⟨261, 8, 262, 23⟩] ⟨260, 4, 262, 23⟩,
    .ret (.int 9 0 ⟨263, 11, 263, 12⟩) ⟨263, 4, 263, 12⟩]
noncomputable def pr_law_waiting : Arguments := ⟨[], [⟨"front", none, ⟨259, 17, 259, 22⟩⟩], none, [], [], none, []⟩
noncomputable def nm_law_brackets : Names := [("text", .cell), ("back", .cell), ("entry", .«local»), ("dress", .cell), ("whole", .«local»), ("choice", .cell), ("k", .«local»), ("bare", .cell), ("pieces", .«local»), ("left", .«local»), ("told", .«local»), ("weight", .«local»), ("many", .«local»), ("below", .«local»), ("range", .globalImplicit), ("len", .globalImplicit), ("_check_parenthesis", .globalImplicit), ("_law_waiting", .globalImplicit), ("sum", .globalImplicit)]
noncomputable def ir_law_brackets : List St := [.asg 4 ⟨265, 4, 265, 9⟩ (.int 0 0 ⟨265, 12, 265, 13⟩) ⟨265, 4, 265, 13⟩,
    .for (.one 5 ⟨266, 8, 266, 14⟩) (.rng [(.bin (.int 2 0 ⟨266, 24, 266, 25⟩) .Pow (.fn .len [(.var 0 ⟨266, 33, 266, 37⟩)] ⟨266, 29, 266, 32⟩ ⟨266, 29, 266, 38⟩) ⟨266, 24, 266, 38⟩)] ⟨266, 18, 266, 23⟩ ⟨266, 18, 266, 39⟩) [.asg 7 ⟨267, 8, 267, 12⟩ (.comp (.cmp (.bin (.bin (.var 2 ⟨267, 16, 267, 22⟩) .FloorDiv (.bin (.int 2 0 ⟨267, 26, 267, 27⟩) .Pow (.var 1 ⟨267, 31, 267, 32⟩) ⟨267, 26, 267, 32⟩) ⟨267, 16, 267, 32⟩) .Mod (.int 2 0 ⟨267, 35, 267, 36⟩) ⟨267, 16, 267, 36⟩) .Eq (.int 1 0 ⟨267, 40, 267, 41⟩) ⟨267, 16, 267, 41⟩) (.cl (.one 1 ⟨267, 46, 267, 47⟩) (.rng [(.fn .len [(.var 0 ⟨267, 61, 267, 65⟩)] ⟨267, 57, 267, 60⟩ ⟨267, 57, 267, 66⟩)] ⟨267, 51, 267, 56⟩ ⟨267, 51, 267, 67⟩) [] .endc) [(".0", .«local»), ("k", .«local»), ("choice", .free)] [none, none, some 5] ⟨267, 15, 267, 68⟩) ⟨267, 8, 267, 68⟩,
    .asg 8 ⟨268, 8, 268, 14⟩ (.comp (.ife (.sub (.var 3 ⟨268, 29, 268, 33⟩) (.var 1 ⟨268, 34, 268, 35⟩) ⟨268, 29, 268, 36⟩) (.sub (.var 5 ⟨268, 18, 268, 22⟩) (.var 1 ⟨268, 23, 268, 24⟩) ⟨268, 18, 268, 25⟩) (.user 17 [(.sub (.var 5 ⟨268, 54, 268, 58⟩) (.var 1 ⟨268, 59, 268, 60⟩) ⟨268, 54, 268, 61⟩), (.bin (.bin (.var 4 ⟨268, 63, 268, 68⟩) .FloorDiv (.bin (.int 3 0 ⟨268, 72, 268, 73⟩) .Pow (.var 1 ⟨268, 77, 268, 78⟩) ⟨268, 72, 268, 78⟩) ⟨268, 63, 268, 78⟩) .Mod (.int 3 0 ⟨268, 81, 268, 82⟩) ⟨268, 63, 268, 82⟩)] ⟨268, 42, 268, 53⟩ ⟨268, 42, 268, 83⟩) ⟨268, 18, 268, 83⟩) (.cl (.one 1 ⟨268, 88, 268, 89⟩) (.rng [(.fn .len [(.var 0 ⟨268, 103, 268, 107⟩)] ⟨268, 99, 268, 102⟩ ⟨268, 99, 268, 108⟩)] ⟨268, 93, 268, 98⟩ ⟨268, 93, 268, 109⟩) [] .endc) [(".0", .«local»), ("k", .«local»), ("_law_hidden", .globalImplicit), ("bare", .free), ("dress", .free), ("text", .free)] [none, none, none, some 7, some 3, some 0] ⟨268, 17, 268, 110⟩) ⟨268, 8, 268, 110⟩,
    .asg 9 ⟨269, 8, 269, 12⟩ (.repl (.repl (.meth .join (.str [] 0 ⟨269, 15, 269, 17⟩) [(.comp (.sub (.var 3 ⟨269, 24, 269, 28⟩) (.var 1 ⟨269, 29, 269, 30⟩) ⟨269, 24, 269, 31⟩) (.cl (.one 1 ⟨269, 36, 269, 37⟩) (.rng [(.fn .len [(.var 0 ⟨269, 51, 269, 55⟩)] ⟨269, 47, 269, 50⟩ ⟨269, 47, 269, 56⟩)] ⟨269, 41, 269, 46⟩ ⟨269, 41, 269, 57⟩) [(.sub (.var 2 ⟨269, 61, 269, 65⟩) (.var 1 ⟨269, 66, 269, 67⟩) ⟨269, 61, 269, 68⟩)] .endc) [(".0", .«local»), ("k", .«local»), ("bare", .free), ("text", .free)] [none, none, some 7, some 0] ⟨269, 23, 269, 69⟩)] ⟨269, 15, 269, 22⟩ ⟨269, 15, 269, 70⟩) [40, 41] [] 0 0 ⟨269, 79, 269, 83⟩ ⟨269, 85, 269, 87⟩ ⟨269, 15, 269, 78⟩ ⟨269, 15, 269, 88⟩) [40, 41] [] 0 0 ⟨269, 97, 269, 101⟩ ⟨269, 103, 269, 105⟩ ⟨269, 15, 269, 96⟩ ⟨269, 15, 269, 106⟩) ⟨269, 8, 269, 106⟩,
    .asg 10 ⟨270, 8, 270, 12⟩ (.user 9 [(.meth .join (.str [] 0 ⟨270, 34, 270, 36⟩) [(.var 8 ⟨270, 42, 270, 48⟩)] ⟨270, 34, 270, 41⟩ ⟨270, 34, 270, 49⟩)] ⟨270, 15, 270, 33⟩ ⟨270, 15, 270, 50⟩) ⟨270, 8, 270, 50⟩,
    .ite (.cmp (.var 10 ⟨271, 11, 271, 15⟩) .IsNot (.cmp (.var 9 ⟨271, 24, 271, 28⟩) .Eq (.str [] 0 ⟨271, 32, 271, 34⟩) ⟨271, 24, 271, 34⟩) ⟨271, 11, 271, 35⟩) [.ret (.non 0 ⟨272, 19, 272, 23⟩) ⟨272, 12, 272, 23⟩] [] ⟨271, 8, 272, 23⟩,
    .asg 11 ⟨273, 8, 273, 14⟩ (.ife (.var 10 ⟨273, 22, 273, 26⟩) (.int 1 0 ⟨273, 17, 273, 18⟩) (.int 0 0 ⟨273, 32, 273, 33⟩) ⟨273, 17, 273, 33⟩) ⟨273, 8, 273, 33⟩,
    .for (.one 6 ⟨274, 12, 274, 13⟩) (.rng [(.bin (.fn .len [(.var 0 ⟨274, 27, 274, 31⟩)] ⟨274, 23, 274, 26⟩ ⟨274, 23, 274, 32⟩) .Mult (.var 11 ⟨274, 35, 274, 41⟩) ⟨274, 23, 274, 41⟩)] ⟨274, 17, 274, 22⟩ ⟨274, 17, 274, 42⟩) [.asg 12 ⟨275, 12, 275, 16⟩ (.user 18 [(.meth .join (.str [] 0 ⟨275, 32, 275, 34⟩) [(.subs (.var 8 ⟨275, 40, 275, 46⟩) .absent (.var 6 ⟨275, 48, 275, 49⟩) ⟨275, 47, 275, 49⟩ ⟨275, 40, 275, 50⟩)] ⟨275, 32, 275, 39⟩ ⟨275, 32, 275, 51⟩)] ⟨275, 19, 275, 31⟩ ⟨275, 19, 275, 52⟩) ⟨275, 12, 275, 52⟩,
    .asg 13 ⟨276, 12, 276, 17⟩ (.fn .sum [(.comp (.bin (.var 2 ⟨276, 25, 276, 29⟩) .Pow (.var 1 ⟨276, 33, 276, 34⟩) ⟨276, 25, 276, 34⟩) (.cl (.one 1 ⟨276, 39, 276, 40⟩) (.rng [(.var 12 ⟨276, 50, 276, 54⟩)] ⟨276, 44, 276, 49⟩ ⟨276, 44, 276, 55⟩) [] .endc) [(".0", .«local»), ("i", .«local»), ("back", .free)] [none, none, some 1] ⟨276, 24, 276, 56⟩)] ⟨276, 20, 276, 23⟩ ⟨276, 20, 276, 57⟩) ⟨276, 12, 276, 57⟩,
    .aug 11 ⟨277, 12, 277, 18⟩ .Mult (.ife (.cmp (.sub (.var 0 ⟨277, 56, 277, 60⟩) (.var 6 ⟨277, 61, 277, 62⟩) ⟨277, 56, 277, 63⟩) .Eq (.str [40] 0 ⟨277, 67, 277, 70⟩) ⟨277, 56, 277, 70⟩) (.bin (.var 2 ⟨277, 22, 277, 27⟩) .Mult (.bin (.var 13 ⟨277, 31, 277, 36⟩) .Add (.bin (.var 1 ⟨277, 39, 277, 43⟩) .Pow (.var 12 ⟨277, 47, 277, 51⟩) ⟨277, 39, 277, 51⟩) ⟨277, 31, 277, 51⟩) ⟨277, 22, 277, 52⟩) (.bin (.bin (.var 2 ⟨277, 76, 277, 81⟩) .Mult (.var 13 ⟨277, 84, 277, 89⟩) ⟨277, 76, 277, 89⟩) .Add (.bin (.var 1 ⟨277, 92, 277, 96⟩) .Pow (.var 12 ⟨277, 100, 277, 104⟩) ⟨277, 92, 277, 104⟩) ⟨277, 76, 277, 104⟩) ⟨277, 22, 277, 104⟩) ⟨277, 12, 277, 104⟩] ⟨274, 8, 277, 104⟩,
    .aug 4 ⟨278, 8, 278, 13⟩ .Add (.var 11 ⟨278, 17, 278, 23⟩) ⟨278, 8, 278, 23⟩] ⟨266, 4, 278, 23⟩,
    .ret (.var 4 ⟨279, 11, 279, 16⟩) ⟨279, 4, 279, 16⟩]
noncomputable def pr_law_brackets : Arguments := ⟨[], [⟨"text", none, ⟨264, 18, 264, 22⟩⟩, ⟨"back", none, ⟨264, 24, 264, 28⟩⟩, ⟨"entry", none, ⟨264, 30, 264, 35⟩⟩, ⟨"dress", none, ⟨264, 37, 264, 42⟩⟩], none, [], [], none, []⟩
noncomputable def nm_law : Names := [("script", .«local»), ("cells", .«local»), ("back", .«local»), ("entry", .«local»), ("places", .cell), ("start", .«local»), ("signs", .«local»), ("texts", .«local»), ("weights", .«local»), ("flows", .«local»), ("drawn", .«local»), ("_law_cells", .globalImplicit), ("range", .globalImplicit), ("_law_weights", .globalImplicit), ("_law_flows", .globalImplicit), ("_law_balanced", .globalImplicit), ("len", .globalImplicit), ("_law_once", .globalImplicit), ("_law_brackets", .globalImplicit)]
noncomputable def ir_law : List St := [.unp [(1, ⟨281, 4, 281, 9⟩), (2, ⟨281, 11, 281, 15⟩), (3, ⟨281, 17, 281, 22⟩)] 0 ⟨281, 4, 281, 22⟩ (.user 10 [(.var 0 ⟨281, 36, 281, 42⟩)] ⟨281, 25, 281, 35⟩ ⟨281, 25, 281, 43⟩) ⟨281, 4, 281, 43⟩,
    .asg 4 ⟨282, 4, 282, 10⟩ (.bin (.int 2 0 ⟨282, 13, 282, 14⟩) .Add (.bin (.sub (.var 1 ⟨282, 17, 282, 22⟩) (.int 0 0 ⟨282, 23, 282, 24⟩) ⟨282, 17, 282, 25⟩) .Mod (.int 2 0 ⟨282, 28, 282, 29⟩) ⟨282, 17, 282, 29⟩) ⟨282, 13, 282, 29⟩) ⟨282, 4, 282, 29⟩,
    .asg 5 ⟨283, 4, 283, 9⟩ (.bin (.bin (.sub (.var 1 ⟨283, 12, 283, 17⟩) (.int 0 0 ⟨283, 18, 283, 19⟩) ⟨283, 12, 283, 20⟩) .FloorDiv (.int 2 0 ⟨283, 24, 283, 25⟩) ⟨283, 12, 283, 25⟩) .Mod (.bin (.int 23 0 ⟨283, 29, 283, 31⟩) .Sub (.var 4 ⟨283, 34, 283, 40⟩) ⟨283, 29, 283, 40⟩) ⟨283, 12, 283, 41⟩) ⟨283, 4, 283, 41⟩,
    .asg 6 ⟨284, 4, 284, 9⟩ (.subs (.str [40, 41, 91, 93, 58, 44, 59, 43, 45, 42, 47, 124, 38, 60, 62, 61, 37, 123, 125, 126, 94, 64, 33] 0 ⟨284, 12, 284, 37⟩) (.var 5 ⟨284, 38, 284, 43⟩) (.bin (.bin (.var 5 ⟨284, 44, 284, 49⟩) .Add (.var 4 ⟨284, 52, 284, 58⟩) ⟨284, 44, 284, 58⟩) .Add (.int 1 0 ⟨284, 61, 284, 62⟩) ⟨284, 44, 284, 62⟩) ⟨284, 38, 284, 62⟩ ⟨284, 12, 284, 63⟩) ⟨284, 4, 284, 63⟩,
    .asg 7 ⟨285, 4, 285, 9⟩ (.comp (.meth .join (.str [] 0 ⟨285, 13, 285, 15⟩) [(.comp (.sub (.str [41, 40] 0 ⟨285, 22, 285, 26⟩) (.bin (.bin (.var 2 ⟨285, 27, 285, 32⟩) .FloorDiv (.bin (.int 2 0 ⟨285, 36, 285, 37⟩) .Pow (.var 1 ⟨285, 41, 285, 42⟩) ⟨285, 36, 285, 42⟩) ⟨285, 27, 285, 42⟩) .Mod (.int 2 0 ⟨285, 45, 285, 46⟩) ⟨285, 27, 285, 46⟩) ⟨285, 22, 285, 47⟩) (.cl (.one 1 ⟨285, 52, 285, 53⟩) (.rng [(.var 3 ⟨285, 63, 285, 69⟩)] ⟨285, 57, 285, 62⟩ ⟨285, 57, 285, 70⟩) [] .endc) [(".0", .«local»), ("k", .«local»), ("state", .free)] [none, none, some 1] ⟨285, 21, 285, 71⟩)] ⟨285, 13, 285, 20⟩ ⟨285, 13, 285, 72⟩) (.cl (.one 1 ⟨285, 77, 285, 82⟩) (.rng [(.bin (.int 2 0 ⟨285, 92, 285, 93⟩) .Pow (.var 4 ⟨285, 97, 285, 103⟩) ⟨285, 92, 285, 103⟩)] ⟨285, 86, 285, 91⟩ ⟨285, 86, 285, 104⟩) [] .endc) [(".0", .«local»), ("state", .cell), ("range", .globalImplicit), ("places", .free)] [none, none, none, some 4] ⟨285, 12, 285, 105⟩) ⟨285, 4, 285, 105⟩,
    .asg 8 ⟨286, 4, 286, 11⟩ (.user 12 [(.var 6 ⟨286, 27, 286, 32⟩), (.var 2 ⟨286, 34, 286, 38⟩), (.var 3 ⟨286, 40, 286, 45⟩)] ⟨286, 14, 286, 26⟩ ⟨286, 14, 286, 46⟩) ⟨286, 4, 286, 46⟩,
    .asg 9 ⟨287, 4, 287, 9⟩ (.user 14 [(.var 7 ⟨287, 23, 287, 28⟩), (.var 8 ⟨287, 30, 287, 37⟩), (.var 2 ⟨287, 39, 287, 43⟩), (.var 3 ⟨287, 45, 287, 50⟩)] ⟨287, 12, 287, 22⟩ ⟨287, 12, 287, 51⟩) ⟨287, 4, 287, 51⟩,
    .ite (.or (.cmp (.var 9 ⟨288, 7, 288, 12⟩) .Is (.non 0 ⟨288, 16, 288, 20⟩) ⟨288, 7, 288, 20⟩) (.not (.user 15 [(.sub (.var 9 ⟨288, 42, 288, 47⟩) (.int 0 0 ⟨288, 48, 288, 49⟩) ⟨288, 42, 288, 50⟩), (.sub (.var 9 ⟨288, 52, 288, 57⟩) (.int 1 0 ⟨288, 58, 288, 59⟩) ⟨288, 52, 288, 60⟩), (.var 8 ⟨288, 62, 288, 69⟩), (.sub (.var 1 ⟨288, 71, 288, 76⟩) (.int 5 0 ⟨288, 77, 288, 78⟩) ⟨288, 71, 288, 79⟩), (.sub (.var 1 ⟨288, 81, 288, 86⟩) (.int 6 0 ⟨288, 87, 288, 88⟩) ⟨288, 81, 288, 89⟩)] ⟨288, 28, 288, 41⟩ ⟨288, 28, 288, 90⟩) ⟨288, 24, 288, 90⟩) ⟨288, 7, 288, 90⟩) [.ret (.bool false 0 ⟨289, 15, 289, 20⟩) ⟨289, 8, 289, 20⟩] [] ⟨288, 4, 289, 20⟩,
    .asg 10 ⟨290, 4, 290, 9⟩ (.bin (.sub (.var 1 ⟨290, 12, 290, 17⟩) (.int 3 0 ⟨290, 18, 290, 19⟩) ⟨290, 12, 290, 20⟩) .Mod (.fn .len [(.var 7 ⟨290, 27, 290, 32⟩)] ⟨290, 23, 290, 26⟩ ⟨290, 23, 290, 33⟩) ⟨290, 12, 290, 33⟩) ⟨290, 4, 290, 33⟩,
    .ite (.not (.user 16 [(.sub (.var 7 ⟨291, 21, 291, 26⟩) (.var 10 ⟨291, 27, 291, 32⟩) ⟨291, 21, 291, 33⟩), (.bin (.bin (.sub (.var 1 ⟨291, 35, 291, 40⟩) (.int 3 0 ⟨291, 41, 291, 42⟩) ⟨291, 35, 291, 43⟩) .FloorDiv (.fn .len [(.var 7 ⟨291, 51, 291, 56⟩)] ⟨291, 47, 291, 50⟩ ⟨291, 47, 291, 57⟩) ⟨291, 35, 291, 57⟩) .Mod (.var 4 ⟨291, 60, 291, 66⟩) ⟨291, 35, 291, 66⟩)] ⟨291, 11, 291, 20⟩ ⟨291, 11, 291, 67⟩) ⟨291, 7, 291, 67⟩) [.ret (.bool false 0 ⟨292, 15, 292, 20⟩) ⟨292, 8, 292, 20⟩] [] ⟨291, 4, 292, 20⟩,
    .ret (.cmp (.user 19 [(.sub (.var 7 ⟨293, 25, 293, 30⟩) (.var 10 ⟨293, 31, 293, 36⟩) ⟨293, 25, 293, 37⟩), (.var 2 ⟨293, 39, 293, 43⟩), (.var 3 ⟨293, 45, 293, 50⟩), (.sub (.var 1 ⟨293, 52, 293, 57⟩) (.int 4 0 ⟨293, 58, 293, 59⟩) ⟨293, 52, 293, 60⟩)] ⟨293, 11, 293, 24⟩ ⟨293, 11, 293, 61⟩) .Eq (.sub (.var 8 ⟨293, 65, 293, 72⟩) (.var 10 ⟨293, 73, 293, 78⟩) ⟨293, 65, 293, 79⟩) ⟨293, 11, 293, 79⟩) ⟨293, 4, 293, 79⟩]
noncomputable def pr_law : Arguments := ⟨[], [⟨"script", none, ⟨280, 8, 280, 14⟩⟩], none, [], [], none, []⟩
theorem runF_of {dm : Dom} {evn : Ev dm} {wf n np : Nat} {nm : Names} {l : List St} {xs : List dm.V} {d : dm.V} (h1 : xs.length = np) (h2 : sx evn wf n l (sg0 dm nm xs) = some (.ret d)) : runF evn wf n nm np l xs = some d := by
  unfold runF
  rw [if_pos h1, h2]; rfl
theorem UserOk.sub {prog : Program} {w : World} {dm : Dom} {H : Heap} {r f : Nat} {F F' : List dm.V → Option dm.V} (x : UserOk prog w dm H r f F) (h : ∀ xs d, F' xs = some d → F xs = some d) : UserOk prog w dm H r f F' := by
  refine xEAA x.ok ?_; intro a G ho k
  exact ⟨a, G, ho, fun xs d he => k xs d (h xs d he)⟩
section
variable {dm : Dom} {evn : Ev dm} {wf n : Nat} {σ σ' σ'' : Sg dm} {e : Ix} {d : dm.V} {o : Out dm} {sxr : List St → Sg dm → Option (Out dm)}
theorem sx_asgT {is : List (Nat × Pos)} {es : List Ix} {k k2 : Nat} {pt pe q : Pos} {vs : List dm.V} {ρ' : List (Option dm.V)} (h : evL (fun e => evn false e σ.1) es = some vs) (h1 : (is.all (fun x => freeAt σ x.1) && decide (vs.length ≤ fitLen) && decide (is.length = vs.length)) = true) (h2 : setAll is.reverse vs.reverse σ.1 = some ρ') :
    sxStep evn wf sxr (.asgT is k pt es k2 pe q) σ = some (.next (ρ', σ.2)) := by
  show (evL (fun e => evn false e σ.1) es).bind _ = _
  rw [h]
  show (if _ then _ else _) = _
  rw [if_pos h1, h2]; rfl
theorem sx_unp {is : List (Nat × Pos)} {k : Nat} {pt q : Pos} (h : evn false e σ.1 = some d) (h2 : setG σ (.many is k pt) d = some σ') : sxStep evn wf sxr (.unp is k pt e q) σ = some (.next σ') := by
  show (evX evn e σ).bind _ = _
  rw [evX_some h]
  show (setG σ _ d).map Out.next = _
  rw [h2]; rfl
theorem sx_aug {i : Nat} {p q : Pos} {op : Operator} {a b c : dm.D} (ha : (σ.1[i]?).join = some (.int a)) (h : evn false e σ.1 = some (.int b)) (ho : augOp op = true) (hc : dm.bin op a b = some c) (h2 : setV σ i (.int c) = some σ') : sxStep evn wf sxr (.aug i p op e q) σ = some (.next σ') := by
  show ((σ.1[i]?).join).bind _ = _
  rw [ha]
  show (evX evn e σ).bind _ = _
  rw [evX_some h]
  show (if augOp op = true then _ else _) = _
  rw [if_pos ho, hc]
  show (setV σ i (.int c)).map Out.next = _
  rw [h2]; rfl
theorem sx_whl {t : Ix} {b : List St} {q : Pos} (h : whileL (evB evn t) (sxr b) wf σ = some o) : sxStep evn wf sxr (.whl t b q) σ = some o := h
theorem whileL_stop {tst : Sg dm → Option Bool} {f : Sg dm → Option (Out dm)} (h : tst σ = some false) : whileL tst f (n + 1) σ = some (.next σ) := by
  show (tst σ).bind _ = _
  rw [h]; rfl
theorem whileL_go {tst : Sg dm → Option Bool} {f : Sg dm → Option (Out dm)} (h : tst σ = some true) (h2 : f σ = some (.next σ')) (h3 : whileL tst f n σ' = some o) : whileL tst f (n + 1) σ = some o := by
  show (tst σ).bind _ = _
  rw [h]
  show (f σ).bind _ = _
  rw [h2]; exact h3
end
theorem shr_nat (a n : Nat) : intBin .RShift (a : Int) (n : Int) = some ((a / 2 ^ n : Nat) : Int) := by
  show (if 0 ≤ (n : Int) then some ((a : Int).fdiv (2 ^ (n : Int).toNat)) else none) = _
  rw [if_pos (by lia), Int.toNat_natCast, Int.fdiv_eq_ediv_of_nonneg _ (Int.le_of_lt (pow_pos' _))]
  have e : ((2 ^ n : Nat) : Int) = 2 ^ n := by simp
  rw [← e, ← Int.natCast_ediv]
theorem shl_nat {a n : Nat} (h : Builtin.Int.intBits (a : Int) + n ≤ 2 ^ 27) : intBin .LShift (a : Int) (n : Int) = some ((a * 2 ^ n : Nat) : Int) := by
  show (if 0 ≤ (n : Int) ∧ _ then _ else none) = _
  rw [if_pos ⟨by lia, by lia⟩, Int.toNat_natCast]
  push_cast
  rfl
theorem and_mask (a n : Nat) : intBin .BitAnd (a : Int) (((2 ^ n - 1 : Nat)) : Int) = some ((a % 2 ^ n : Nat) : Int) := by
  show some (Builtin.bitAnd _ _) = _
  rw [bitAnd_pp (by lia) (by lia), Int.toNat_natCast, Int.toNat_natCast, Nat.and_two_pow_sub_one_eq_mod]
theorem and_1 (a : Nat) : intBin .BitAnd (a : Int) 1 = some ((a % 2 : Nat) : Int) := and_mask a 1
theorem or_low {q c n : Nat} (h : c < 2 ^ n) : intBin .BitOr ((q * 2 ^ n : Nat) : Int) (c : Int) = some ((q * 2 ^ n + c : Nat) : Int) := by
  show some (Builtin.bitOr _ _) = _
  rw [bitOr_and, bitAnd_pp (by lia) (by lia), Int.toNat_natCast, Int.toNat_natCast]
  have e : (q * 2 ^ n) &&& c = 0 := by
    rw [← Nat.shiftLeft_eq]
    refine Nat.eq_of_testBit_eq fun i => ?_
    rw [Nat.testBit_and, Nat.testBit_shiftLeft, Nat.zero_testBit]
    by_cases hi : n ≤ i
    · rw [Nat.testBit_lt_two_pow (Nat.lt_of_lt_of_le h (Nat.pow_le_pow_right (by decide) hi)), Bool.and_false]
    · simp [hi]
  rw [e]
  congr 1
theorem bits_le {a m : Nat} (h : a < 2 ^ m) : Builtin.Int.intBits (a : Int) ≤ m := intBits_le_iff.mpr (by rw [Int.natAbs_natCast]; exact h)
theorem bits_lt {a m : Nat} (h : Builtin.Int.intBits (a : Int) ≤ m) : a < 2 ^ m := by have := intBits_le_iff.mp h; rwa [Int.natAbs_natCast] at this
section
variable {dm : Dom} {tab : Nat → List dm.V → Option dm.V} {tok : Nat → Option dm.D} {n : Nat} {ρ : List (Option dm.V)} {a b : Ix} {x y z : dm.D} {op : Operator} {p q : Pos}
theorem ev_bin (ha : ev dm tab tok n false a ρ = some (.int x)) (hb : ev dm tab tok n false b ρ = some (.int y)) (hc : dm.bin op x y = some z) : ev dm tab tok (n + 1) false (.bin a op b p) ρ = some (.int z) := by
  show (ev dm tab tok n false a ρ).bind (fun x => (ev dm tab tok n false b ρ).bind fun y => binP dm op x y) = _
  rw [ha, hb]
  show (dm.bin op x y).map PV.int = _
  rw [hc]; rfl
theorem ev_var {i : Nat} {v : dm.V} (h : (ρ[i]?).join = some v) : ev dm tab tok (n + 1) false (.var i p) ρ = some v := h
theorem ev_user {f : Nat} {xs : List Ix} {vs : List dm.V} {d : dm.V} (h : evL (fun e => ev dm tab tok n false e ρ) xs = some vs) (h2 : tab f vs = some d) : ev dm tab tok (n + 1) false (.user f xs p q) ρ = some d := by
  show (evL (fun e => ev dm tab tok n false e ρ) xs).bind (tab f) = _
  rw [h]; exact h2
theorem evL_cons {e : Ix} {es : List Ix} {g : Ix → Option dm.V} {v : dm.V} {vs : List dm.V} (h : g e = some v) (h2 : evL g es = some vs) : evL g (e :: es) = some (v :: vs) := by
  show (g e).bind _ = _
  rw [h]
  show (evL g es).map _ = _
  rw [h2]; rfl
theorem ev_tup {xs : List Ix} {k : Nat} {vs : List dm.V} (h : evL (fun e => ev dm tab tok n false e ρ) xs = some vs) (hz : vs.length ≤ fitLen) : ev dm tab tok (n + 1) false (.tup xs k p) ρ = some (.tuple vs) := by
  show (evL (fun e => ev dm tab tok n false e ρ) xs).bind _ = _
  rw [h]
  show (if _ then _ else _) = _
  rw [if_pos hz]
theorem ev_cmp {op : CmpOp} {c : Bool} (ha : ev dm tab tok n false a ρ = some (.int x)) (hb : ev dm tab tok n false b ρ = some (.int y)) (hc : cmpP dm op (.int x) (.int y) = some c) : ev dm tab tok (n + 1) true (.cmp a op b p) ρ = some (.bool c) := by
  show (ev dm tab tok n false a ρ).bind (fun x => (ev dm tab tok n false b ρ).bind fun y => (cmpP dm op x y).map PV.bool) = _
  rw [ha, hb]
  show (cmpP dm op (.int x) (.int y)).map PV.bool = _
  rw [hc]; rfl
end
theorem mulOk_bits {a b : Int} (h : Builtin.Int.intBits a + Builtin.Int.intBits b ≤ 10000000) : mulOkB a b = true := by
  unfold mulOkB
  have e : Builtin.Int.intTooBig ((Builtin.Int.intBits a : Int) + (Builtin.Int.intBits b : Int)) = false := by
    unfold Builtin.Int.intTooBig bitsLine
    refine decide_eq_false ?_
    lia
  rw [e, Bool.and_false]; rfl
theorem mul_int' {a b : Int} (h : mulOkB a b = true) : intBin .Mult a b = some (a * b) := if_pos h
noncomputable def divF (tl : Nat → Nat → Nat → Prop) [∀ a b n, Decidable (tl a b n)] (xs : List DV) : Option DV := I3 xs fun a b n => if 0 ≤ a ∧ 0 < b ∧ 0 ≤ n ∧ tl a.toNat b.toNat n.toNat then some (.tuple [.int ((a.toNat / b.toNat : Nat) : Int), .int ((a.toNat % b.toNat : Nat) : Int)]) else none
noncomputable def div0 : List DV → Option DV := divF fun a b n => (Builtin.Int.intBits (a : Int) : Int) - n ≤ 4000 ∧ Builtin.Int.intBits (b : Int) ≤ 9000
section
variable {tab : Nat → List intDom.V → Option intDom.V} {tok : Nat → Option intDom.D}
theorem divmod_nat {a b : Nat} (hb : 0 < b) (h : Builtin.Int.intBits (b : Int) ≤ 9000) : divmodP intDom (.int (a : Int)) (.int (b : Int)) = some (.tuple [.int ((a / b : Nat) : Int), .int ((a % b : Nat) : Int)]) := by
  show ((if (b : Int) = 0 ∨ Builtin.divisionGoesByPylong (a : Int) (b : Int) = true then none else some ((a : Int).fdiv (b : Int))).bind fun q => (if (b : Int) = 0 then none else some ((a : Int).fmod (b : Int))).map fun r => (PV.tuple [.int q, .int r] : DV)) = _
  rw [if_neg (by rw [noPylong h]; simp; lia), if_neg (by lia), fdivN, Int.fmod_eq_emod_of_nonneg _ (by lia), ← Int.natCast_emod]
  rfl
theorem div0_run {xs : List DV} {d : DV} (h : div0 xs = some d) : runF (ev intDom tab tok 8) 3 6 nm_div2n1n 3 ir_div2n1n xs = some d := by
  refine I3_i h ?_; clear h; rintro a b n rfl h
  refine ifS h ?_; clear h; rintro ⟨ha, hb, hn, h1, h2⟩ h; (have zz := Option.some.inj h; clear h; subst zz)
  · ·
      refine xE (Int.eq_ofNat_of_zero_le ha) ?_; rintro a rfl
      refine xE (Int.eq_ofNat_of_zero_le (Int.le_of_lt hb)) ?_; rintro b rfl
      refine xE (Int.eq_ofNat_of_zero_le hn) ?_; rintro n rfl
      rw [Int.toNat_natCast, Int.toNat_natCast] at *
      refine runF_of rfl (sx_cons_ret (sx_ite (c := true) ?_ (sx_cons_ret (sx_ret ?_))))
      · show some (PV.bool (!decide ((4000 : Int) < (Builtin.Int.intBits (a : Int) : Int) - (n : Int)))) = _
        rw [decide_eq_false (by lia)]; rfl
      · exact divmod_nat (by lia) h2
end
noncomputable def ok3 (a12 a3 b b1 b2 n : Nat) : Prop := 1 ≤ n ∧ n ≤ 4000 ∧ b = b1 * 2 ^ n + b2 ∧ b2 < 2 ^ n ∧ 2 ^ n ≤ 2 * b1 ∧ b1 < 2 ^ n ∧ a3 < 2 ^ n ∧ a12 * 2 ^ n + a3 < b * 2 ^ n
noncomputable def pairD (a b : Nat) : DV := .tuple [.int ((a / b : Nat) : Int), .int ((a % b : Nat) : Int)]
open Classical in
noncomputable def div3 (xs : List DV) : Option DV := iC xs fun a12 r => iC r fun a3 r => iC r fun b r => I3 r fun b1 b2 n => if (0 ≤ a12 ∧ 0 ≤ a3 ∧ 0 ≤ b ∧ 0 ≤ b1 ∧ 0 ≤ b2 ∧ 0 ≤ n) ∧ ok3 a12.toNat a3.toNat b.toNat b1.toNat b2.toNat n.toNat then some (pairD (a12.toNat * 2 ^ n.toNat + a3.toNat) b.toNat) else none
theorem div_unique {A b : Nat} {q r : Int} (hb : 0 < b) (hr : r = (A : Int) - q * b) (h0 : 0 ≤ r) (h1 : r < b) : q = ((A / b : Nat) : Int) ∧ r = ((A % b : Nat) : Int) := by
  have hA : (A : Int) = b * q + r := by rw [hr, Int.mul_comm]; lia
  have := (Int.ediv_emod_unique (a := (A : Int)) (b := (b : Int)) (r := r) (q := q) (by lia)).mpr ⟨by lia, h0, h1⟩
  rw [← this.1, ← this.2, ← Int.natCast_ediv, ← Int.natCast_emod]
  exact ⟨rfl, rfl⟩
noncomputable abbrev ρ3 (a12 a3 b b1 b2 n : Int) (q r : Option intDom.V) : List (Option intDom.V) := [some (.int a12), some (.int a3), some (.int b), some (.int b1), some (.int b2), some (.int n), q, r, none]
noncomputable abbrev N9 : List (Option (List intDom.V)) := [none, none, none, none, none, none, none, none, none]
section
variable {tab : Nat → List intDom.V → Option intDom.V} {tok : Nat → Option intDom.D}
theorem loop3 {t : Ix} {bd : List St} {p1 p2 p3 p4 p5 p6 p7 p8 p9 : Pos} (ht : t = .cmp (.var 7 p1) .Lt (.int 0 0 p2) p3) (hbd : bd = [.aug 6 p4 .Sub (.int 1 0 p5) p6, .aug 7 p7 .Add (.var 2 p8) p9]) {a12 a3 b1 b2 n : Int} {A b : Nat} (hb : 0 < b) : ∀ (k : Nat) (q r : Int), r = (A : Int) - q * b → r < b → -((k : Int) * b) ≤ r →
    whileL (evB (ev intDom tab tok 8) t) (sx (ev intDom tab tok 8) 3 5 bd) (k + 1) (ρ3 a12 a3 b b1 b2 n (some (.int q)) (some (.int r)), N9) = some (.next (ρ3 a12 a3 b b1 b2 n (some (.int ((A / b : Nat) : Int))) (some (.int ((A % b : Nat) : Int))), N9)) := by
  subst ht hbd
  have et : ∀ q r : Int, evB (ev intDom tab tok 8) (.cmp (.var 7 p1) .Lt (.int 0 0 p2) p3) (ρ3 a12 a3 b b1 b2 n (some (.int q)) (some (.int r)), N9) = some (decide (r < 0)) := fun q r => rfl
  have fin : ∀ (k : Nat) (q r : Int), r = (A : Int) - q * b → r < b → 0 ≤ r → whileL (evB (ev intDom tab tok 8) (.cmp (.var 7 p1) .Lt (.int 0 0 p2) p3)) (sx (ev intDom tab tok 8) 3 5 [.aug 6 p4 .Sub (.int 1 0 p5) p6, .aug 7 p7 .Add (.var 2 p8) p9]) (k + 1) (ρ3 a12 a3 b b1 b2 n (some (.int q)) (some (.int r)), N9) = some (.next (ρ3 a12 a3 b b1 b2 n (some (.int ((A / b : Nat) : Int))) (some (.int ((A % b : Nat) : Int))), N9)) := by
    intro k q r h1 h2 h3
    refine xA (div_unique hb h1 h3 h2) ?_; rintro rfl rfl
    exact whileL_stop (by rw [et, decide_eq_false (by lia)])
  intro k
  induction k with
  | zero => exact fun q r h1 h2 h3 => fin 0 q r h1 h2 (by simpa using h3)
  | succ k ih =>
    intro q r h1 h2 h3
    rcases Int.lt_or_le r 0 with h | h
    · refine whileL_go (σ' := (ρ3 a12 a3 b b1 b2 n (some (.int (q - 1))) (some (.int ((r + (b : Int) : Int)))), N9)) (by rw [et, decide_eq_true h]) ?_ (ih (q - 1) (r + b) ?_ (by lia) ?_)
      · exact sx_cons_next (sx_aug (a := q) (b := (1 : Int)) (c := q - 1) rfl rfl rfl rfl rfl) (sx_cons_next (sx_aug (a := r) (b := (b : Int)) (c := (r + (b : Int) : Int)) rfl rfl rfl rfl rfl) rfl)
      · rw [h1, Int.sub_mul]; lia
      · have : ((k + 1 : Nat) : Int) * b = (k : Int) * b + b := by push_cast; rw [Int.add_mul, Int.one_mul]
        lia
    · exact fin (k + 1) q r h1 h2 h
open Classical in
theorem div3_run (h0 : ∀ xs d, div0 xs = some d → tab 0 xs = some d) {xs : List DV} {d : DV} (h : div3 xs = some d) : runF (ev intDom tab tok 8) 3 6 nm_div3n2n 6 ir_div3n2n xs = some d := by
  refine iC_i h fun a12 r q h => iC_i h fun a3 r1 q1 h => iC_i h fun b r2 q2 h => I3_i h fun b1 b2 n q3 h => ?_
  subst q3; subst q2; subst q1; subst q
  refine ifS h ?_; clear h; rintro ⟨⟨e1, e2, e3, e4, e5, e6⟩, hok⟩ h; (have zz := Option.some.inj h; clear h; subst zz)
  · ·
      refine xE (Int.eq_ofNat_of_zero_le e1) ?_; rintro a12 rfl
      refine xE (Int.eq_ofNat_of_zero_le e2) ?_; rintro a3 rfl
      refine xE (Int.eq_ofNat_of_zero_le e3) ?_; rintro b rfl
      refine xE (Int.eq_ofNat_of_zero_le e4) ?_; rintro b1 rfl
      refine xE (Int.eq_ofNat_of_zero_le e5) ?_; rintro b2 rfl
      refine xE (Int.eq_ofNat_of_zero_le e6) ?_; rintro n rfl
      simp only [Int.toNat_natCast] at hok ⊢
      obtain ⟨h1, h2, hb, hb2, hb1, hb1', ha3, hA⟩ := hok
      have hp : 0 < 2 ^ n := Nat.two_pow_pos n
      have hb1p : 0 < b1 := by lia
      have hbp : 0 < b := by rw [hb]; have := Nat.mul_pos hb1p hp; lia
      obtain ⟨A, hAe⟩ : ∃ A, A = a12 * 2 ^ n + a3 := ⟨_, rfl⟩
      rw [← hAe]
      have h12 : a12 < b := by
        rcases Nat.lt_or_ge a12 b with h | h
        · exact h
        · have := Nat.mul_le_mul_right (2 ^ n) h; lia
      have hdiv : a12 / 2 ^ n ≤ b1 := by
        have : a12 < (b1 + 1) * 2 ^ n := by rw [Nat.add_mul, Nat.one_mul]; lia
        exact Nat.le_of_lt_succ ((Nat.div_lt_iff_lt_mul hp).mpr this)
      have hs : b1 * 2 ^ n < 2 ^ (2 * n) := by rw [show 2 * n = n + n by lia, Nat.pow_add]; exact Nat.mul_lt_mul_of_pos_right hb1' hp
      -- the rest of the body
      have tail : ∀ (q r0 : Nat), q < 2 ^ n → r0 < 2 ^ (n + 1) → ((r0 * 2 ^ n + a3 : Nat) : Int) - (q : Int) * b2 = (A : Int) - (q : Int) * b → ((r0 * 2 ^ n + a3 : Nat) : Int) - (q : Int) * b2 < b →
          sx (ev intDom tab tok 8) 3 6 (ir_div3n2n.drop 1) (ρ3 a12 a3 b b1 b2 n (some (.int (q : Int))) (some (.int (r0 : Int))), N9) = some (.ret (pairD A b)) := by
        intro q r0 hq hr0 heq hlt
        have hqb : q * b2 < 2 * b := by
          have s1 : q * b2 ≤ (2 ^ n - 1) * (2 ^ n - 1) := Nat.mul_le_mul (by lia) (by lia)
          have s2 : (2 ^ n - 1) * (2 ^ n - 1) ≤ 2 ^ n * 2 ^ n := Nat.mul_le_mul (by lia) (by lia)
          have s3 : 2 ^ n * 2 ^ n ≤ 2 * b1 * 2 ^ n := Nat.mul_le_mul_right _ hb1
          have s4 : 2 * b1 * 2 ^ n = 2 * (b1 * 2 ^ n) := Nat.mul_assoc ..
          have s5 : (2 ^ n - 1) * (2 ^ n - 1) < 2 ^ n * 2 ^ n := Nat.mul_lt_mul'' (by lia) (by lia)
          lia
        have bq := bits_le hq
        have bb2 := bits_le hb2
        have br0 := bits_le hr0
        refine sx_cons_next (sx_asg (d := .int ((((r0 * 2 ^ n + a3 : Nat) : Int) - (q : Int) * (b2 : Int) : Int))) rfl (ev_bin (ev_bin (ev_bin (ev_var rfl) (ev_var rfl) (shl_nat (by lia))) (ev_var rfl) (or_low ha3)) (ev_bin (ev_var rfl) (ev_var rfl) (mul_int' (mulOk_bits (by lia)))) rfl) rfl) ?_
        refine sx_cons_next (sx_whl (loop3 rfl rfl hbp 2 (q : Int) _ heq hlt ?_)) (sx_cons_ret (sx_ret (ev_tup (evL_cons rfl (evL_cons rfl rfl)) (show 2 ≤ 16777216 by decide))))
        have : ((q * b2 : Nat) : Int) = (q : Int) * b2 := by push_cast; rfl
        lia
      by_cases hc : a12 / 2 ^ n = b1
      · refine runF_of rfl (sx_cons_next (σ' := (ρ3 a12 a3 b b1 b2 n (some (.int ((2 ^ n - 1 : Nat) : Int))) (some (.int ((a12 % 2 ^ n + b1 : Nat) : Int))), N9)) (sx_ite (c := true) (ev_cmp (ev_bin (ev_var rfl) (ev_var rfl) (shr_nat _ _)) (ev_var rfl) ?_) ?_) ?_)
        · show some (decide (((a12 / 2 ^ n : Nat) : Int) = (b1 : Int))) = _
          rw [hc, decide_eq_true rfl]
        · have e1 : ((1 * 2 ^ n : Nat) : Int) - 1 = ((2 ^ n - 1 : Nat) : Int) := by lia
          have hdm := Nat.div_add_mod a12 (2 ^ n)
          rw [hc] at hdm
          have e2 : (a12 : Int) - ((b1 * 2 ^ n : Nat) : Int) + (b1 : Int) = ((a12 % 2 ^ n + b1 : Nat) : Int) := by
            have : 2 ^ n * b1 = b1 * 2 ^ n := Nat.mul_comm ..
            lia
          have bb1 := bits_le hb1'
          refine sx_cons_next (sx_asgT (vs := [.int ((2 ^ n - 1 : Nat) : Int), .int ((a12 % 2 ^ n + b1 : Nat) : Int)]) (evL_cons ?_ (evL_cons ?_ rfl)) rfl rfl) rfl
          · rw [← e1]
            exact ev_bin (dm := intDom) (x := ((1 * 2 ^ n : Nat) : Int)) (y := (1 : Int)) (ev_bin (dm := intDom) (x := ((1 : Nat) : Int)) (y := (n : Int)) rfl (ev_var rfl) (shl_nat (a := 1) (n := n) (by have := bits_le (a := 1) (m := 1) (by decide); lia))) rfl rfl
          · rw [← e2]
            exact ev_bin (ev_bin (ev_var rfl) (ev_bin (ev_var rfl) (ev_var rfl) (shl_nat (by lia))) rfl) (ev_var rfl) rfl
        · have hm := Nat.mod_lt a12 hp
          have hdm := Nat.div_add_mod a12 (2 ^ n)
          rw [hc] at hdm
          have key : (((a12 % 2 ^ n + b1) * 2 ^ n + a3 : Nat) : Int) - ((2 ^ n - 1 : Nat) : Int) * b2 = (A : Int) - ((2 ^ n - 1 : Nat) : Int) * b := by
            have c1 : ((2 ^ n - 1 : Nat) : Int) = ((2 ^ n : Nat) : Int) - 1 := by lia
            rw [c1, hAe, hb]
            generalize a12 % 2 ^ n = c at hdm ⊢
            rw [← hdm]
            push_cast
            generalize ((2 : Int) ^ n) = X
            grind
          refine tail (2 ^ n - 1) (a12 % 2 ^ n + b1) (by lia) (by rw [Nat.pow_succ]; lia) key ?_
          rw [key]
          have c2 : ((2 ^ n - 1 : Nat) : Int) * b = ((b * 2 ^ n : Nat) : Int) - b := by
            have c1 : ((2 ^ n - 1 : Nat) : Int) = ((2 ^ n : Nat) : Int) - 1 := by lia
            rw [c1, Int.sub_mul, Int.one_mul, Int.natCast_mul, Int.mul_comm]
          lia
      · have hlt : a12 / 2 ^ n < b1 := by lia
        have h12' : a12 < b1 * 2 ^ n := (Nat.div_lt_iff_lt_mul hp).mp hlt
        have hq : a12 / b1 < 2 ^ n := (Nat.div_lt_iff_lt_mul hb1p).mpr (by rw [Nat.mul_comm]; exact h12')
        have hm := Nat.mod_lt a12 hb1p
        have b12 : Builtin.Int.intBits (a12 : Int) ≤ 2 * n := bits_le (by lia)
        have bb1 := bits_le hb1'
        refine runF_of rfl (sx_cons_next (σ' := (ρ3 a12 a3 b b1 b2 n (some (.int ((a12 / b1 : Nat) : Int))) (some (.int ((a12 % b1 : Nat) : Int))), N9)) (sx_ite (c := false) (ev_cmp (ev_bin (ev_var rfl) (ev_var rfl) (shr_nat _ _)) (ev_var rfl) ?_) ?_) ?_)
        · show some (decide (((a12 / 2 ^ n : Nat) : Int) = (b1 : Int))) = _
          rw [decide_eq_false (by lia)]
        · refine sx_cons_next (sx_unp (d := pairD a12 b1) (ev_user (vs := [.int (a12 : Int), .int (b1 : Int), .int (n : Int)]) rfl (h0 _ _ ?_)) rfl) rfl
          show (if 0 ≤ (a12 : Int) ∧ 0 < (b1 : Int) ∧ 0 ≤ (n : Int) ∧ _ then _ else none) = _
          rw [if_pos]
          · rfl
          · refine ⟨by lia, by lia, by lia, ?_⟩
            simp only [Int.toNat_natCast]
            lia
        · have hdm := Nat.div_add_mod a12 b1
          have key : ((a12 % b1 * 2 ^ n + a3 : Nat) : Int) - ((a12 / b1 : Nat) : Int) * b2 = (A : Int) - ((a12 / b1 : Nat) : Int) * b := by
            rw [hAe, hb]
            generalize a12 / b1 = Q at hdm ⊢
            generalize a12 % b1 = R at hdm ⊢
            rw [← hdm]
            push_cast
            generalize ((2 : Int) ^ n) = X
            grind
          refine tail (a12 / b1) (a12 % b1) hq (by rw [Nat.pow_succ]; lia) key ?_
          have s1 : a12 % b1 * 2 ^ n + a3 < b1 * 2 ^ n := by
            have : (a12 % b1 + 1) * 2 ^ n ≤ b1 * 2 ^ n := Nat.mul_le_mul_right _ hm
            rw [Nat.add_mul, Nat.one_mul] at this
            lia
          have s2 : (0 : Int) ≤ ((a12 / b1 : Nat) : Int) * (b2 : Int) := Int.mul_nonneg (Int.natCast_nonneg _) (Int.natCast_nonneg _)
          lia
end
noncomputable abbrev ok2 (a b n : Nat) : Prop := n = Builtin.Int.intBits (b : Int) ∧ n ≤ 7000 ∧ a < b * 2 ^ n
noncomputable def div2 (xs : List DV) : Option DV := I3 xs fun a b n => if (0 ≤ a ∧ 0 < b ∧ 0 ≤ n) ∧ ok2 a.toNat b.toNat n.toNat then some (pairD a.toNat b.toNat) else none
theorem bits_lo {b : Nat} (h : 0 < b) : 1 ≤ Builtin.Int.intBits (b : Int) ∧ 2 ^ (Builtin.Int.intBits (b : Int) - 1) ≤ b := by
  have h1 : 1 ≤ Builtin.Int.intBits (b : Int) := by
    rcases Nat.eq_zero_or_pos (Builtin.Int.intBits (b : Int)) with h0 | h0
    · have := bits_lt (a := b) (m := 0) (by lia)
      simp at this; lia
    · exact h0
  refine ⟨h1, ?_⟩
  rcases Nat.lt_or_ge b (2 ^ (Builtin.Int.intBits (b : Int) - 1)) with h2 | h2
  · have := bits_le h2; lia
  · exact h2
noncomputable abbrev ρ2 (a b n : Int) (p h m b1 b2 q1 r q2 : Option intDom.V) : List (Option intDom.V) := [some (.int a), some (.int b), some (.int n), p, h, m, b1, b2, q1, r, q2, none, none, none]
noncomputable abbrev N14 : List (Option (List intDom.V)) := [none, none, none, none, none, none, none, none, none, none, none, none, none, none]
section
variable {tab : Nat → List intDom.V → Option intDom.V} {tok : Nat → Option intDom.D}
theorem bin_int (op : Operator) (a b : Int) : intDom.bin op a b = intBin op a b := rfl
theorem ev_binI {n : Nat} {ρ : List (Option intDom.V)} {a b : Ix} {x y z : Int} {op : Operator} {p : Pos} (ha : ev intDom tab tok n false a ρ = some (.int x)) (hb : ev intDom tab tok n false b ρ = some (.int y)) (hc : intBin op x y = some z) : ev intDom tab tok (n + 1) false (.bin a op b p) ρ = some (.int z) := ev_bin (dm := intDom) ha hb hc
theorem two_steps {a b h : Nat} (hb : 0 < b) : (a / 2 ^ h / b) * 2 ^ h + ((a / 2 ^ h % b) * 2 ^ h + a % 2 ^ h) / b = a / b ∧ ((a / 2 ^ h % b) * 2 ^ h + a % 2 ^ h) % b = a % b := by
  have h1 := Nat.div_add_mod a (2 ^ h)
  have h2 := Nat.div_add_mod (a / 2 ^ h) b
  have e : a = ((a / 2 ^ h % b) * 2 ^ h + a % 2 ^ h) + b * ((a / 2 ^ h / b) * 2 ^ h) := by
    have : a = (b * (a / 2 ^ h / b) + a / 2 ^ h % b) * 2 ^ h + a % 2 ^ h := by rw [h2, Nat.mul_comm]; lia
    rw [Nat.add_mul, Nat.mul_assoc] at this
    lia
  constructor
  · conv => rhs; rw [e, Nat.add_mul_div_left _ _ hb]
    lia
  · conv => rhs; rw [e, Nat.add_mul_mod_self_left]
open Classical in
theorem div2_tail (h3 : ∀ xs d, div3 xs = some d → tab 1 xs = some d) {a b h : Nat} {p : Option intDom.V} (h1 : 1 ≤ h) (h2 : h ≤ 4000) (hb : 0 < b) (hlo : 2 ^ (2 * h - 1) ≤ b) (hhi : b < 2 ^ (2 * h)) (ha : a < b * 2 ^ (2 * h)) {pr : Nat} (hpr : p = some (.int (pr : Int))) (hp2 : pr = 0 ∨ pr = 1 ∧ b % 2 = 0 ∧ a % b % 2 = 0) :
    sx (ev intDom tab tok 8) 3 6 (ir_div2n1n.drop 3) (ρ2 a b ((2 * h : Nat) : Int) p none none none none none none none, N14) = some (.ret (.tuple [.int ((a / b : Nat) : Int), .int ((a % b / 2 ^ pr : Nat) : Int)])) := by
  subst hpr
  have hp : 0 < 2 ^ h := Nat.two_pow_pos h
  have h22 : 2 ^ (2 * h) = 2 ^ h * 2 ^ h := by rw [← Nat.pow_add]; congr 1; lia
  have hb1 : b / 2 ^ h < 2 ^ h := (Nat.div_lt_iff_lt_mul hp).mpr (by lia)
  have hb2 := Nat.mod_lt b hp
  have hbdm : b / 2 ^ h * 2 ^ h + b % 2 ^ h = b := by rw [Nat.mul_comm]; exact Nat.div_add_mod b _
  have htop : 2 ^ h ≤ 2 * (b / 2 ^ h) := by
    have e : 2 ^ (2 * h - 1) = 2 ^ (h - 1) * 2 ^ h := by rw [← Nat.pow_add]; congr 1; lia
    have : 2 ^ (h - 1) ≤ b / 2 ^ h := (Nat.le_div_iff_mul_le hp).mpr (by lia)
    have e2 : 2 ^ h = 2 * 2 ^ (h - 1) := by rw [← Nat.pow_succ']; congr 1; lia
    lia
  have hA1 : a / 2 ^ (2 * h) * 2 ^ h + a / 2 ^ h % 2 ^ h = a / 2 ^ h := by
    rw [h22, ← Nat.div_div_eq_div_mul, Nat.mul_comm]; exact Nat.div_add_mod _ _
  have hAlt : a / 2 ^ h < b * 2 ^ h := (Nat.div_lt_iff_lt_mul hp).mpr (by rw [Nat.mul_assoc, ← h22]; exact ha)
  have hm1 := Nat.mod_lt (a / 2 ^ h) hp
  have hma := Nat.mod_lt a hp
  obtain ⟨A1, hA1e⟩ : ∃ A1, A1 = a / 2 ^ h := ⟨_, rfl⟩
  have hr1 := Nat.mod_lt A1 hb
  have hA2 : A1 % b * 2 ^ h + a % 2 ^ h < b * 2 ^ h := by
    have : (A1 % b + 1) * 2 ^ h ≤ b * 2 ^ h := Nat.mul_le_mul_right _ hr1
    rw [Nat.add_mul, Nat.one_mul] at this
    lia
  refine xA (two_steps (a := a) (b := b) (h := h) hb) ?_; intro ts1 ts2
  rw [← hA1e] at ts1 ts2 hA1 hAlt
  have hq1 : A1 / b < 2 ^ h := (Nat.div_lt_iff_lt_mul hb).mpr (by rw [Nat.mul_comm]; exact hAlt)
  have hq2 : (A1 % b * 2 ^ h + a % 2 ^ h) / b < 2 ^ h := (Nat.div_lt_iff_lt_mul hb).mpr (by rw [Nat.mul_comm (2 ^ h) b]; exact hA2)
  have bq1 := bits_le hq1
  have b1m : Builtin.Int.intBits ((1 : Nat) : Int) ≤ 1 := bits_le (by decide)
  have em : ((1 * 2 ^ h : Nat) : Int) - 1 = ((2 ^ h - 1 : Nat) : Int) := by lia
  refine sx_cons_next (sx_asg (d := .int ((h : Nat) : Int)) rfl ?_ rfl) ?_
  · have : ((2 * h : Nat) / 2 ^ 1 : Nat) = h := by lia
    rw [show (((h : Nat) : Int)) = (((2 * h / 2 ^ 1 : Nat)) : Int) by rw [this]]
    exact ev_binI (x := ((2 * h : Nat) : Int)) (y := ((1 : Nat) : Int)) (ev_var rfl) rfl (shr_nat _ _)
  refine sx_cons_next (sx_asg (d := .int ((2 ^ h - 1 : Nat) : Int)) rfl ?_ rfl) ?_
  · rw [← em]
    exact ev_binI (x := ((1 * 2 ^ h : Nat) : Int)) (y := (1 : Int)) (ev_binI (x := ((1 : Nat) : Int)) (y := (h : Int)) rfl (ev_var rfl) (shl_nat (a := 1) (n := h) (by lia))) rfl rfl
  refine sx_cons_next (sx_asgT (vs := [.int ((b / 2 ^ h : Nat) : Int), .int ((b % 2 ^ h : Nat) : Int)]) (evL_cons (ev_binI (ev_var rfl) (ev_var rfl) (shr_nat _ _)) (evL_cons (ev_binI (ev_var rfl) (ev_var rfl) (and_mask _ _)) rfl)) rfl rfl) ?_
  refine sx_cons_next (sx_unp (d := pairD A1 b) (ev_user (vs := [.int ((a / 2 ^ (2 * h) : Nat) : Int), .int ((a / 2 ^ h % 2 ^ h : Nat) : Int), .int (b : Int), .int ((b / 2 ^ h : Nat) : Int), .int ((b % 2 ^ h : Nat) : Int), .int (h : Int)])
    (evL_cons (ev_binI (ev_var rfl) (ev_var rfl) (shr_nat _ _)) (evL_cons (ev_binI (ev_bin (ev_var rfl) (ev_var rfl) (shr_nat _ _)) (ev_var rfl) (and_mask _ _)) rfl)) (h3 _ _ ?_)) rfl) ?_
  · show (if (0 ≤ ((a / 2 ^ (2 * h) : Nat) : Int) ∧ 0 ≤ ((a / 2 ^ h % 2 ^ h : Nat) : Int) ∧ 0 ≤ (b : Int) ∧ 0 ≤ ((b / 2 ^ h : Nat) : Int) ∧ 0 ≤ ((b % 2 ^ h : Nat) : Int) ∧ 0 ≤ (h : Int)) ∧ _ then _ else none) = _
    simp only [Int.toNat_natCast]
    rw [if_pos, ← hA1e, hA1]
    refine ⟨⟨Int.natCast_nonneg _, Int.natCast_nonneg _, Int.natCast_nonneg _, Int.natCast_nonneg _, Int.natCast_nonneg _, Int.natCast_nonneg _⟩, h1, h2, hbdm.symm, hb2, htop, hb1, hm1, ?_⟩
    rw [← hA1e, hA1]; exact hAlt
  refine sx_cons_next (sx_unp (d := pairD (A1 % b * 2 ^ h + a % 2 ^ h) b) (ev_user (vs := [.int ((A1 % b : Nat) : Int), .int ((a % 2 ^ h : Nat) : Int), .int (b : Int), .int ((b / 2 ^ h : Nat) : Int), .int ((b % 2 ^ h : Nat) : Int), .int (h : Int)])
    (evL_cons rfl (evL_cons (ev_binI (ev_var rfl) (ev_var rfl) (and_mask _ _)) rfl)) (h3 _ _ ?_)) rfl) ?_
  · show (if (0 ≤ ((A1 % b : Nat) : Int) ∧ 0 ≤ ((a % 2 ^ h : Nat) : Int) ∧ 0 ≤ (b : Int) ∧ 0 ≤ ((b / 2 ^ h : Nat) : Int) ∧ 0 ≤ ((b % 2 ^ h : Nat) : Int) ∧ 0 ≤ (h : Int)) ∧ _ then _ else none) = _
    simp only [Int.toNat_natCast]
    rw [if_pos]
    exact ⟨⟨Int.natCast_nonneg _, Int.natCast_nonneg _, Int.natCast_nonneg _, Int.natCast_nonneg _, Int.natCast_nonneg _, Int.natCast_nonneg _⟩, h1, h2, hbdm.symm, hb2, htop, hb1, hma, hA2⟩
  rw [ts2]
  have fin : ∀ r : Int, sx (ev intDom tab tok 8) 3 6 (ir_div2n1n.drop 9) (ρ2 a b ((2 * h : Nat) : Int) (some (.int (pr : Int))) (some (.int (h : Int))) (some (.int ((2 ^ h - 1 : Nat) : Int))) (some (.int ((b / 2 ^ h : Nat) : Int))) (some (.int ((b % 2 ^ h : Nat) : Int))) (some (.int ((A1 / b : Nat) : Int))) (some (.int r)) (some (.int (((A1 % b * 2 ^ h + a % 2 ^ h) / b : Nat) : Int))), N14) = some (.ret (.tuple [.int ((a / b : Nat) : Int), .int r])) := by
    intro r
    rw [← ts1]
    exact sx_cons_ret (sx_ret (ev_tup (evL_cons (ev_binI (ev_bin (ev_var rfl) (ev_var rfl) (shl_nat (by lia))) (ev_var rfl) (or_low hq2)) (evL_cons (ev_var rfl) rfl)) (show 2 ≤ 16777216 by decide)))
  rcases hp2 with rfl | ⟨rfl, hb0, hr0⟩
  · refine sx_cons_next (sx_ite (c := false) rfl rfl) ?_
    rw [show a % b / 2 ^ 0 = a % b by simp]
    exact fin _
  · refine sx_cons_next (sx_ite (c := true) rfl (sx_cons_next (sx_aug (dm := intDom) (a := ((a % b : Nat) : Int)) (b := ((1 : Nat) : Int)) (c := ((a % b / 2 ^ 1 : Nat) : Int)) rfl rfl rfl (shr_nat _ _) rfl) rfl)) ?_
    exact fin _
set_option maxRecDepth 4000 in
theorem div2_run (h3 : ∀ xs d, div3 xs = some d → tab 1 xs = some d) {xs : List DV} {d : DV} (h : div2 xs = some d) : runF (ev intDom tab tok 8) 3 6 nm_div2n1n 3 ir_div2n1n xs = some d := by
  refine I3_i h ?_; clear h; rintro a b n rfl h
  refine ifS h ?_; clear h; rintro ⟨⟨e1, e2, e3⟩, hok⟩ h; (have zz := Option.some.inj h; clear h; subst zz)
  · ·
      refine xE (Int.eq_ofNat_of_zero_le e1) ?_; rintro a rfl
      refine xE (Int.eq_ofNat_of_zero_le (Int.le_of_lt e2)) ?_; rintro b rfl
      refine xE (Int.eq_ofNat_of_zero_le e3) ?_; rintro n rfl
      simp only [Int.toNat_natCast] at hok ⊢
      refine xAA hok ?_; clear hok; intro hn hn7 ha
      have hb : 0 < b := by lia
      refine xA (bits_lo hb) ?_; intro hlo1 hlo
      rw [← hn] at hlo hlo1
      have hhi : b < 2 ^ n := bits_lt (by lia)
      have hbits : Builtin.Int.intBits (a : Int) ≤ 2 * n := bits_le (by
        have : b * 2 ^ n < 2 ^ n * 2 ^ n := Nat.mul_lt_mul_of_pos_right hhi (Nat.two_pow_pos n)
        rw [show 2 * n = n + n by lia, Nat.pow_add]; lia)
      by_cases h4 : (Builtin.Int.intBits (a : Int) : Int) - (n : Int) ≤ 4000
      · refine div0_run ?_
        show (if 0 ≤ (a : Int) ∧ 0 < (b : Int) ∧ 0 ≤ (n : Int) ∧ _ then _ else none) = _
        simp only [Int.toNat_natCast]
        rw [if_pos ⟨by lia, by lia, by lia, by lia, by lia⟩]
        rfl
      · have hn4 : 4000 < n := by lia
        have start : sxStep (ev intDom tab tok 8) 3 (sx (ev intDom tab tok 8) 3 5) (ir_div2n1n.head (by decide)) (ρ2 a b n none none none none none none none none, N14) = some (.next (ρ2 a b n none none none none none none none none, N14)) := by
          refine sx_ite (c := false) ?_ rfl
          show some (PV.bool (!decide ((4000 : Int) < (Builtin.Int.intBits (a : Int) : Int) - (n : Int)))) = _
          rw [decide_eq_true (by lia)]; rfl
        refine runF_of rfl (sx_cons_next start (sx_cons_next (sx_asg (d := .int ((n % 2 : Nat) : Int)) rfl (ev_binI (x := (n : Int)) (y := (1 : Int)) (ev_var rfl) rfl (and_1 n)) rfl) ?_))
        rcases Nat.mod_two_eq_zero_or_one n with hp | hp
        · rw [hp]
          refine sx_cons_next (sx_ite (c := false) rfl rfl) ?_
          obtain ⟨h, rfl⟩ : ∃ h, n = 2 * h := ⟨n / 2, by lia⟩
          have := div2_tail (tok := tok) (p := some (.int ((0 : Nat) : Int))) h3 (a := a) (b := b) (h := h) (by lia) (by lia) hb hlo hhi ha rfl (.inl rfl)
          rw [show a % b / 2 ^ 0 = a % b by simp] at this
          exact this
        · rw [hp]
          have ba := hbits
          have bb := bits_le hhi
          have hs1 : intBin .LShift (a : Int) 1 = some ((a * 2 ^ 1 : Nat) : Int) := by
            have := shl_nat (a := a) (n := 1) (by lia)
            rwa [show ((1 : Nat) : Int) = 1 from rfl] at this
          have hs2 : intBin .LShift (b : Int) 1 = some ((b * 2 ^ 1 : Nat) : Int) := by
            have := shl_nat (a := b) (n := 1) (by lia)
            rwa [show ((1 : Nat) : Int) = 1 from rfl] at this
          have st1 : ∀ (p1 p2 p3 : Pos) {p4 : Option intDom.V}, sxStep (ev intDom tab tok 8) 3 (sx (ev intDom tab tok 8) 3 4) (.aug 0 p1 .LShift (.int 1 0 p2) p3) (ρ2 a b n p4 none none none none none none none, N14) = some (.next (ρ2 ((a * 2 ^ 1 : Nat) : Int) b n p4 none none none none none none none, N14)) := by
            intro p1 p2 p3 p4
            refine sx_aug (dm := intDom) (a := (a : Int)) (b := (1 : Int)) (c := ((a * 2 ^ 1 : Nat) : Int)) rfl rfl rfl ?_ rfl
            exact (bin_int _ _ _).trans hs1
          have st2 : ∀ (p1 p2 p3 : Pos) {p4 : Option intDom.V} {a' : Int}, sxStep (ev intDom tab tok 8) 3 (sx (ev intDom tab tok 8) 3 4) (.aug 1 p1 .LShift (.int 1 0 p2) p3) (ρ2 a' b n p4 none none none none none none none, N14) = some (.next (ρ2 a' ((b * 2 ^ 1 : Nat) : Int) n p4 none none none none none none none, N14)) := by
            intro p1 p2 p3 p4 a'
            refine sx_aug (dm := intDom) (a := (b : Int)) (b := (1 : Int)) (c := ((b * 2 ^ 1 : Nat) : Int)) rfl rfl rfl ?_ rfl
            exact (bin_int _ _ _).trans hs2
          refine sx_cons_next (sx_ite (c := true) rfl (sx_cons_next (st1 _ _ _) (sx_cons_next (st2 _ _ _) (sx_cons_next (sx_aug (dm := intDom) (a := (n : Int)) (b := (1 : Int)) (c := ((n : Int) + 1 : Int)) rfl rfl rfl rfl rfl) rfl)))) ?_
          obtain ⟨h, hh⟩ : ∃ h, n + 1 = 2 * h := ⟨(n + 1) / 2, by lia⟩
          have e1 : ((n : Int) + 1) = ((2 * h : Nat) : Int) := by lia
          rw [e1]
          have p2 : 2 ^ (2 * h) = 2 ^ n * 2 := by rw [← hh, Nat.pow_succ]
          have p3 : 2 ^ (2 * h - 1) = 2 ^ (n - 1) * 2 := by rw [show 2 * h - 1 = (n - 1) + 1 by lia, Nat.pow_succ]
          have := div2_tail (tok := tok) (p := some (.int ((1 : Nat) : Int))) h3 (a := a * 2 ^ 1) (b := b * 2 ^ 1) (h := h) (by lia) (by lia) (by lia) (by rw [p3]; lia) (by rw [p2]; lia) (by
            rw [p2, Nat.pow_one]
            have : b * 2 * (2 ^ n * 2) = (b * 2 ^ n) * 4 := by
              rw [Nat.mul_assoc, Nat.mul_comm 2 (2 ^ n * 2), Nat.mul_assoc, ← Nat.mul_assoc b]
            lia) rfl (.inr ⟨rfl, by lia, by rw [Nat.pow_one, Nat.mul_mod_mul_right]; lia⟩)
          rw [Nat.pow_one, Nat.mul_div_mul_right _ _ (by decide), Nat.mul_mod_mul_right, Nat.mul_div_cancel _ (by decide)] at this
          rw [Nat.pow_one]
          exact this
end
theorem forL_append {dm : Dom} {f : Sg dm → Option (Out dm)} {t : Tg} : ∀ {xs ys : List dm.V} {σ σ' : Sg dm}, forL f t xs σ = some (.next σ') → forL f t (xs ++ ys) σ = forL f t ys σ'
  | [], ys, σ, σ', h => by cases h; rfl
  | x :: xs, ys, σ, σ', h => by
    refine xBind h ?_; clear h; intro σ1 h1 h
    refine xBind h ?_; clear h; intro o h2 h
    show (setG σ t x).bind _ = _
    rw [h1]
    show (f σ1).bind _ = _
    rw [h2]
    cases o with
    | next σ2 => exact forL_append h
    | ret d => cases h
theorem forL_one {dm : Dom} {f : Sg dm → Option (Out dm)} {t : Tg} {x : dm.V} {xs : List dm.V} {σ σ1 σ2 : Sg dm} (h1 : setG σ t x = some σ1) (h2 : f σ1 = some (.next σ2)) : forL f t (x :: xs) σ = forL f t xs σ2 := by
  show (setG σ t x).bind _ = _
  rw [h1]
  show (f σ1).bind _ = _
  rw [h2]; rfl
theorem sx_for {dm : Dom} {evn : Ev dm} {wf : Nat} {σ σ' : Sg dm} {e : Ix} {o : Out dm} {sxr : List St → Sg dm → Option (Out dm)} {t : Tg} {b : List St} {q : Pos} {xs : List dm.V} (h : evI evn e σ = some (xs, σ')) (h2 : forL (sxr b) t xs σ' = some o) : sxStep evn wf sxr (.for t e b q) σ = some o := by
  show (evI evn e σ).bind _ = _
  rw [h]; exact h2
noncomputable def qdigs (b n : Nat) : List Int → List Int
  | [] => []
  | d :: ds => ((((valD n ds).toNat % b * 2 ^ n + d.toNat) / b : Nat) : Int) :: qdigs b n ds
theorem qdigs_len (b n : Nat) : ∀ ds, (qdigs b n ds).length = ds.length
  | [] => rfl
  | d :: ds => by rw [qdigs, List.length_cons, List.length_cons, qdigs_len b n ds]
theorem qd_lt {b n V d : Nat} (hb : 0 < b) (hd : d < 2 ^ n) : V % b * 2 ^ n + d < b * 2 ^ n := by
  have : (V % b + 1) * 2 ^ n ≤ b * 2 ^ n := Nat.mul_le_mul_right _ (Nat.mod_lt V hb)
  rw [Nat.add_mul, Nat.one_mul] at this
  lia
theorem qdigs_mem {b n : Nat} (hb : 0 < b) : ∀ {ds : List Int}, (∀ d ∈ ds, 0 ≤ d ∧ d < 2 ^ n) → ∀ q ∈ qdigs b n ds, 0 ≤ q ∧ q < 2 ^ n
  | [], _, q, h => by cases h
  | d :: ds, hds, q, h => by
    rw [qdigs] at h
    rcases List.mem_cons.mp h with rfl | h
    · have ⟨h1, h2⟩ := hds d (.head _)
      have e : ((2 ^ n : Nat) : Int) = 2 ^ n := by simp
      have hd : d.toNat < 2 ^ n := by lia
      have := (Nat.div_lt_iff_lt_mul hb).mpr (by rw [Nat.mul_comm (2 ^ n)]; exact qd_lt (V := (valD n ds).toNat) hb hd)
      exact ⟨Int.natCast_nonneg _, by lia⟩
    · exact qdigs_mem hb (fun d hd => hds d (.tail _ hd)) q h
theorem step_div {V b X d : Nat} (hb : 0 < b) : (d + X * V) / b = (V % b * X + d) / b + X * (V / b) ∧ (d + X * V) % b = (V % b * X + d) % b := by
  have h := Nat.div_add_mod V b
  have e : d + X * V = (V % b * X + d) + b * (X * (V / b)) := by
    generalize V / b = Q at h ⊢
    generalize V % b = R at h ⊢
    subst h
    grind
  rw [e, Nat.add_mul_div_left _ _ hb, Nat.add_mul_mod_self_left]
  exact ⟨rfl, rfl⟩
theorem valD_nat {n : Nat} {d : Int} {ds : List Int} (hd : 0 ≤ d) (h : 0 ≤ valD n ds) : (valD n (d :: ds)).toNat = d.toNat + 2 ^ n * (valD n ds).toNat := by
  rw [valD]
  refine xE (Int.eq_ofNat_of_zero_le h) ?_; intro v hv
  refine xE (Int.eq_ofNat_of_zero_le hd) ?_; rintro d' rfl
  rw [hv]
  have : (((d' : Nat) : Int) + 2 ^ n * ((v : Nat) : Int)) = ((d' + 2 ^ n * v : Nat) : Int) := by push_cast; rfl
  rw [this]; simp only [Int.toNat_natCast]
theorem qdigs_val {b n : Nat} (hb : 0 < b) : ∀ {ds : List Int}, (∀ d ∈ ds, 0 ≤ d ∧ d < 2 ^ n) → valD n (qdigs b n ds) = (((valD n ds).toNat / b : Nat) : Int)
  | [], _ => by simp [qdigs, valD]
  | d :: ds, hds => by
    have hd := hds d (.head _)
    have ih := qdigs_val hb (fun d hd => hds d (.tail _ hd)) (ds := ds)
    have hv := (valD_bound (n := n) (l := ds) fun d hd => hds d (.tail _ hd)).1
    rw [valD_nat hd.1 hv, (step_div hb).1, qdigs, valD, ih]
    push_cast; rfl
noncomputable abbrev ρp (a b n ds : Option intDom.V) (r : Int) (o6 o7 o8 : Option intDom.V) : List (Option intDom.V) := [a, b, n, ds, some (.int r), none, o6, o7, o8, none, none, none, none]
noncomputable abbrev Np (o : Option (List intDom.V)) : List (Option (List intDom.V)) := [none, none, none, none, none, o, none, none, none, none, none, none, none]
noncomputable def divP (xs : List DV) : Option DV := I2 xs fun a b => if (0 ≤ a ∧ 0 < b) ∧ Builtin.Int.intBits b ≤ 7000 ∧ Builtin.Int.intBits a ≤ 500000 then some (pairD a.toNat b.toNat) else none
section
variable {tab : Nat → List intDom.V → Option intDom.V} {tok : Nat → Option intDom.D}
theorem pos_loop (h2 : ∀ xs d, div2 xs = some d → tab 0 xs = some d) {bd : List St} {p1 p2 p3 p4 p5 p6 p7 p8 p9 q1 q2 q3 q4 q5 q6 q7 q8 : Pos} (hbd : bd = [.unp [(7, p1), (4, p2)] 0 p3 (.user 0 [.bin (.bin (.var 4 p4) .LShift (.var 2 p5) p6) .Add (.var 6 p7) p8, .var 1 p9, .var 2 q1] q2 q3) q4, .app 5 q5 q6 (.var 7 q7) q8 q8])
    {t : Tg} (ht : ∃ p, t = .one 6 p) {a : Option intDom.V} {b n : Nat} (hb : 0 < b) (hn : n = Builtin.Int.intBits (b : Int)) (hn7 : n ≤ 7000) {dl : Option intDom.V} : ∀ (ds : List Int), (∀ d ∈ ds, 0 ≤ d ∧ d < 2 ^ n) → ds.length ≤ 1000000 →
    ∃ o6 o7, forL (sx (ev intDom tab tok 8) 3 5 bd) t ((ds.map PV.int).reverse) (ρp a (some (.int (b : Int))) (some (.int (n : Int))) dl 0 none none none, Np (some [])) =
      some (.next (ρp a (some (.int (b : Int))) (some (.int (n : Int))) dl (((valD n ds).toNat % b : Nat) : Int) o6 o7 none, Np (some (((qdigs b n ds).map PV.int).reverse)))) := by
  refine xE ht ?_; clear ht; rintro p rfl
  subst hbd
  intro ds
  induction ds with
  | nil => intro _ _; exact ⟨none, none, rfl⟩
  | cons d ds ih =>
    intro hds hl
    rw [List.length_cons] at hl
    refine xEE (ih (fun d hd => hds d (.tail _ hd)) (by lia)) ?_; intro o6 o7 h
    have ⟨hd1, hd2⟩ := hds d (.head _)
    have hv := (valD_bound (n := n) (l := ds) fun d hd => hds d (.tail _ hd)).1
    refine xE (Int.eq_ofNat_of_zero_le hd1) ?_; rintro d' rfl
    have hd' : d' < 2 ^ n := by
      have e : ((2 ^ n : Nat) : Int) = 2 ^ n := by simp
      lia
    have hR := Nat.mod_lt (valD n ds).toNat hb
    have hlt := qd_lt (V := (valD n ds).toNat) hb hd'
    have hbb := bits_lt (a := b) (m := n) (by lia)
    have hRb := bits_le (show (valD n ds).toNat % b < 2 ^ n by lia)
    refine ⟨some (.int (d' : Int)), some (.int ((((valD n ds).toNat % b * 2 ^ n + d') / b : Nat) : Int)), ?_⟩
    rw [List.map_cons, List.reverse_cons]
    refine (forL_append h).trans ?_
    rw [valD_nat hd1 hv, Int.toNat_natCast, (step_div hb).2]
    refine (forL_one (σ1 := (ρp a (some (.int (b : Int))) (some (.int (n : Int))) dl (((valD n ds).toNat % b : Nat) : Int) (some (.int (d' : Int))) o7 none, Np (some (((qdigs b n ds).map PV.int).reverse)))) rfl (sx_cons_next (sx_unp (d := pairD ((valD n ds).toNat % b * 2 ^ n + d') b) (ev_user (vs := [.int (((valD n ds).toNat % b * 2 ^ n + d' : Nat) : Int), .int (b : Int), .int (n : Int)]) (evL_cons (ev_binI (ev_binI (ev_var rfl) (ev_var rfl) (shl_nat (by lia))) (ev_var rfl) ?_) rfl) (h2 _ _ ?_)) rfl) ?_)).trans rfl
    · show some _ = some _
      push_cast; rfl
    · show (if (0 ≤ (((valD n ds).toNat % b * 2 ^ n + d' : Nat) : Int) ∧ 0 < (b : Int) ∧ 0 ≤ (n : Int)) ∧ _ then _ else none) = _
      simp only [Int.toNat_natCast]
      rw [if_pos ⟨⟨Int.natCast_nonneg _, by lia, by lia⟩, hn, hn7, hlt⟩]
    · refine sx_cons_next (σ' := (ρp a (some (.int (b : Int))) (some (.int (n : Int))) dl (((((valD n ds).toNat % b * 2 ^ n + d') % b : Nat)) : Int) (some (.int (d' : Int))) (some (.int ((((valD n ds).toNat % b * 2 ^ n + d') / b : Nat) : Int))) none, Np (some (((qdigs b n ((d' : Int) :: ds)).map PV.int).reverse)))) ?_ rfl
      show (if (((qdigs b n ds).map PV.int).reverse : List intDom.V).length ≤ fitLen then _ else none) = _
      rw [if_pos (by rw [List.length_reverse, List.length_map, qdigs_len]; unfold fitLen; lia)]
      rw [qdigs, Int.toNat_natCast, List.map_cons, List.reverse_cons]
      rfl
end
section
variable {dm : Dom} {evn : Ev dm} {wf n : Nat} {σ σ' σ'' : Sg dm} {e : Ix} {d : dm.V} {o : Out dm} {sxr : List St → Sg dm → Option (Out dm)}
theorem sx_asg_frz {i : Nat} {p q : Pos} (hc : isComp e = false) (h0 : evn false e σ.1 = none) (h : evn false e (frz σ.1 σ.2) = some d) (hs : scal d = true) (h2 : setV σ i d = some σ') : sxStep evn wf sxr (.asg i p e q) σ = some (.next σ') := by
  show (evA evn e σ).bind _ = _
  have hX : evX evn e σ = some (d, σ) := by
    unfold evX
    rw [h0, h]
    show some (if scal d = true then (d, σ) else (d, frozen σ)) = _
    rw [if_pos hs]
  have : evA evn e σ = some (d, σ) := by
    unfold evA; rw [hc]; exact hX
  rw [this]
  show (setV σ i d).map Out.next = _
  rw [h2]; rfl
theorem evI_some {xs : List dm.V} (h : evIt dm (fun e => evn false e σ.1) e = some xs) : evI evn e σ = some (xs, σ) := by unfold evI; rw [h]; rfl
end
section
variable {tab : Nat → List intDom.V → Option intDom.V} {tok : Nat → Option intDom.D}
theorem i2dF_nat {a n : Nat} (h1 : 1 ≤ n) (h2 : n ≤ 7000) (hk : Builtin.Int.intBits (a : Int) ≤ 500000) : i2dC [.int (a : Int), .int (n : Int)] = some (intL (digs n (kOf a n) a)) ∧ kOf a n ≤ 1000000 ∧ n * kOf a n ≤ 2 ^ 26 := by
  have e1 : kOf a n ≤ 500001 + n := by unfold kOf; exact Nat.le_trans (Nat.div_le_self _ _) (by lia)
  have e2 : n * kOf a n ≤ 500000 + n := by
    unfold kOf
    have := Nat.div_mul_le_self (Builtin.Int.intBits (a : Int) + n - 1) n
    rw [Nat.mul_comm] at this
    lia
  refine ⟨?_, by lia, by lia⟩
  show (if 0 ≤ (a : Int) ∧ 1 ≤ (n : Int) ∧ (n : Int) < 2 ^ 40 ∧ _ then _ else none) = _
  simp only [Int.toNat_natCast]
  rw [if_pos ⟨by lia, by lia, by lia, by lia, by lia⟩]
  rfl
set_option maxRecDepth 4000 in
theorem divP_run (h2 : ∀ xs d, div2 xs = some d → tab 0 xs = some d) (hi : ∀ xs d, i2dC xs = some d → tab 2 xs = some d) (hd : ∀ xs d, d2iC xs = some d → tab 3 xs = some d) {xs : List DV} {d : DV} (h : divP xs = some d) :
    runF (ev intDom tab tok 8) 3 6 nm_divmod_pos 2 ir_divmod_pos xs = some d := by
  refine I2_i h ?_; clear h; rintro a b rfl h
  refine ifS h ?_; clear h; rintro ⟨⟨e1, e2⟩, hbb, hab⟩ h; (have zz := Option.some.inj h; clear h; subst zz)
  · ·
      refine xE (Int.eq_ofNat_of_zero_le e1) ?_; rintro a rfl
      refine xE (Int.eq_ofNat_of_zero_le (Int.le_of_lt e2)) ?_; rintro b rfl
      simp only [Int.toNat_natCast]
      have hb : 0 < b := by lia
      obtain ⟨n, hn⟩ : ∃ n, n = Builtin.Int.intBits (b : Int) := ⟨_, rfl⟩
      refine xA (bits_lo hb) ?_; intro hn1 _
      rw [← hn] at hn1 hbb
      refine xAA (i2dF_nat (a := a) hn1 hbb hab) ?_; intro hC hk1 hk2
      have hval := digs_val (n := n) (kOf_ok (a := a) (n := n) hn1)
      have hmem : ∀ d ∈ digs n (kOf a n) a, 0 ≤ d ∧ d < 2 ^ n := fun d hd => digs_mem hd
      have hlen : (digs n (kOf a n) a).length = kOf a n := digs_len _ _ _
      obtain ⟨o6, o7, hloop⟩ := pos_loop (tok := tok) h2 (t := .one 6 ⟨59, 8, 59, 15⟩) (a := some (.int (a : Int))) (dl := some (intL (digs n (kOf a n) a))) rfl ⟨_, rfl⟩ hb hn hbb (digs n (kOf a n) a) hmem (by rw [hlen]; exact hk1)
      have hq := qdigs_val (n := n) hb hmem
      rw [hval, Int.toNat_natCast] at hq hloop
      have hd2 : d2iC [intL (qdigs b n (digs n (kOf a n) a)), .int (n : Int)] = some (.int ((a / b : Nat) : Int)) := by
        show (intsOf ((qdigs b n (digs n (kOf a n) a)).map PV.int)).bind (fun ds => d2iF ds (n : Int)) = _
        rw [intsOf_map]
        show (if 0 ≤ (n : Int) ∧ _ then _ else none) = _
        simp only [Int.toNat_natCast]
        rw [if_pos ⟨by lia, qdigs_mem hb hmem, by rw [qdigs_len, hlen]; exact hk1, by rw [qdigs_len, hlen]; exact hk2⟩, hq]
      refine runF_of rfl ?_
      refine sx_cons_next (sx_asg (d := .int (n : Int)) rfl (by rw [hn]; rfl) rfl) ?_
      refine sx_cons_next (sx_asg (d := intL (digs n (kOf a n) a)) rfl (ev_user (vs := [.int (a : Int), .int (n : Int)]) rfl (hi _ _ hC)) rfl) ?_
      refine sx_cons_next (sx_asg (d := .int (0 : Int)) rfl rfl rfl) ?_
      refine sx_cons_next (σ' := (ρp (some (.int (a : Int))) (some (.int (b : Int))) (some (.int (n : Int))) (some (intL (digs n (kOf a n) a))) 0 none none none, Np (some []))) rfl ?_
      refine sx_cons_next (sx_for (evI_some (xs := ((digs n (kOf a n) a).map PV.int).reverse) rfl) hloop) ?_
      refine sx_cons_next (σ' := (ρp (some (.int (a : Int))) (some (.int (b : Int))) (some (.int (n : Int))) (some (intL (digs n (kOf a n) a))) ((a % b : Nat) : Int) o6 o7 none, Np (some ((qdigs b n (digs n (kOf a n) a)).map PV.int)))) ?_ ?_
      · show (if (((qdigs b n (digs n (kOf a n) a)).map PV.int).reverse : List intDom.V).length ≤ fitLen then some (Out.next (setO (dm := intDom) _ 5 ((((qdigs b n (digs n (kOf a n) a)).map PV.int).reverse : List intDom.V).reverse))) else none) = _
        rw [if_pos (by rw [List.length_reverse, List.length_map, qdigs_len, hlen]; unfold fitLen; lia), List.reverse_reverse]
        rfl
      refine sx_cons_next (sx_asg_frz (d := .int ((a / b : Nat) : Int)) rfl rfl (ev_user (vs := [intL (qdigs b n (digs n (kOf a n) a)), .int (n : Int)]) rfl (hd _ _ hd2)) rfl rfl) ?_
      exact sx_cons_ret (sx_ret (ev_tup (evL_cons rfl (evL_cons rfl rfl)) (show 2 ≤ 16777216 by decide)))
noncomputable def fdm (a b : Int) : DV := .tuple [.int (a.fdiv b), .int (a.fmod b)]
noncomputable def divI0 (xs : List DV) : Option DV := I2 xs fun a b => if (0 ≤ a ∧ 0 < b) ∧ Builtin.Int.intBits b ≤ 7000 ∧ Builtin.Int.intBits a ≤ 500000 then some (fdm a b) else none
noncomputable def divI1 (xs : List DV) : Option DV := I2 xs fun a b => if 0 < b ∧ Builtin.Int.intBits b ≤ 7000 ∧ Builtin.Int.intBits a ≤ 450000 then some (fdm a b) else none
noncomputable def divI2 (xs : List DV) : Option DV := I2 xs fun a b => if b ≠ 0 ∧ Builtin.Int.intBits b ≤ 7000 ∧ Builtin.Int.intBits a ≤ 450000 then some (fdm a b) else none
noncomputable abbrev ρz (a b : Int) (q r : Option intDom.V) : List (Option intDom.V) := [some (.int a), some (.int b), q, r, none, none, none]
theorem divI0_run (hp : ∀ xs d, divP xs = some d → tab 4 xs = some d) {xs : List DV} {d : DV} (h : divI0 xs = some d) : runF (ev intDom tab tok 8) 3 6 nm_int_divmod 2 ir_int_divmod xs = some d := by
  refine I2_i h ?_; clear h; rintro a b rfl h
  refine ifS h ?_; clear h; rintro ⟨⟨e1, e2⟩, hbb, hab⟩ h; (have zz := Option.some.inj h; clear h; subst zz)
  · ·
      have e1 : (0 : Int) ≤ a := e1
      have e2 : (0 : Int) < b := e2
      have t1 : decide ((b : Int) = 0) = false := decide_eq_false (by lia)
      have t2 : decide ((b : Int) < 0) = false := decide_eq_false (by lia)
      have t3 : decide ((a : Int) < 0) = false := decide_eq_false (by lia)
      refine runF_of rfl (sx_cons_ret (sx_ite (c := false) ?_ (sx_cons_ret (sx_ite (c := false) ?_ (sx_cons_ret (sx_ite (c := false) ?_ (sx_cons_ret (sx_ret ?_))))))))
      · show some (PV.bool (decide ((b : Int) = 0))) = _; rw [t1]
      · show some (PV.bool (decide ((b : Int) < 0))) = _; rw [t2]
      · show some (PV.bool (decide ((a : Int) < 0))) = _; rw [t3]
      · refine ev_user (vs := [.int a, .int b]) rfl (hp _ _ ?_)
        refine xE (Int.eq_ofNat_of_zero_le e1) ?_; rintro a rfl
        refine xE (Int.eq_ofNat_of_zero_le (Int.le_of_lt e2)) ?_; rintro b rfl
        show (if (0 ≤ (a : Int) ∧ 0 < (b : Int)) ∧ _ then _ else none) = _
        rw [if_pos ⟨⟨e1, e2⟩, hbb, hab⟩]
        unfold fdm pairD
        rw [Int.toNat_natCast, Int.toNat_natCast, fdivN, Int.fmod_eq_emod_of_nonneg _ (by lia), ← Int.natCast_emod]
theorem fdm_neg {a b : Int} (h : 0 < b) : a.fdiv b = -((-a - 1).fdiv b) - 1 ∧ a.fmod b = b + (-((-a - 1).fmod b) - 1) := by
  have h1 := Int.mul_fdiv_add_fmod (-a - 1) b
  have h2 := Int.fmod_nonneg_of_pos (-a - 1) h
  have h3 := Int.fmod_lt_of_pos (-a - 1) h
  refine (Int.fdiv_fmod_unique h).mpr ⟨?_, by lia, by lia⟩
  generalize (-a - 1).fdiv b = Q at h1 ⊢
  generalize (-a - 1).fmod b = R at h1 ⊢
  grind
theorem fdm_neg2 {a b : Int} (h : b < 0) : a.fdiv b = (-a).fdiv (-b) ∧ a.fmod b = -((-a).fmod (-b)) := by
  have h1 := Int.mul_fdiv_add_fmod (-a) (-b)
  have h2 := Int.fmod_nonneg_of_pos (-a) (show 0 < -b by lia)
  have h3 := Int.fmod_lt_of_pos (-a) (show 0 < -b by lia)
  refine (Int.fdiv_fmod_unique' h).mpr ⟨?_, by lia, by lia⟩
  generalize (-a).fdiv (-b) = Q at h1 ⊢
  generalize (-a).fmod (-b) = R at h1 ⊢
  grind
theorem bits_neg (a : Int) : Builtin.Int.intBits (-a) = Builtin.Int.intBits a := by
  unfold Builtin.Int.intBits
  by_cases h : a = 0
  · subst h; rfl
  · have e1 : (-a == 0) = false := by simpa using h
    have e2 : (a == 0) = false := by simpa using h
    rw [e1, e2, Int.natAbs_neg]
theorem divI1_run (h4 : ∀ xs d, divP xs = some d → tab 4 xs = some d) (h5 : ∀ xs d, divI0 xs = some d → tab 5 xs = some d) {xs : List DV} {d : DV} (h : divI1 xs = some d) : runF (ev intDom tab tok 8) 3 6 nm_int_divmod 2 ir_int_divmod xs = some d := by
  refine I2_i h ?_; clear h; rintro a b rfl h
  refine ifS h ?_; clear h; rintro ⟨e2, hbb, hab⟩ h; (have zz := Option.some.inj h; clear h; subst zz)
  · ·
      have e2 : (0 : Int) < b := e2
      rcases Int.lt_or_le a 0 with e1 | e1
      · have t1 : decide ((b : Int) = 0) = false := decide_eq_false (by lia)
        have t2 : decide ((b : Int) < 0) = false := decide_eq_false (by lia)
        have t3 : decide ((a : Int) < 0) = true := decide_eq_true e1
        have hcl : divI0 [.int (-a - 1 : Int), .int b] = some (fdm (-a - 1) b) := by
          have hx := Nat.le_trans (intBits_sub_le (x := -a) (y := 1) (m := 450000) (n := 1) (by rw [bits_neg]; exact hab) (by decide)) (show max 450000 1 + 1 ≤ 500000 by decide)
          show (if (0 ≤ (-a - 1 : Int) ∧ 0 < (b : Int)) ∧ _ then _ else none) = _
          rw [if_pos ⟨⟨by lia, e2⟩, hbb, hx⟩]
        refine runF_of rfl (sx_cons_ret (sx_ite (c := false) ?_ (sx_cons_ret (sx_ite (c := false) ?_ (sx_cons_ret (sx_ite (c := true) ?_ (sx_cons_next (σ' := (ρz a b (some (.int ((-a - 1).fdiv b))) (some (.int ((-a - 1).fmod b))), [none, none, none, none, none, none, none])) (sx_unp (d := fdm (-a - 1) b) (ev_user (vs := [.int (-a - 1 : Int), .int b]) rfl (h5 _ _ hcl)) rfl) (sx_cons_ret (sx_ret ?_)))))))))
        · show some (PV.bool (decide ((b : Int) = 0))) = _; rw [t1]
        · show some (PV.bool (decide ((b : Int) < 0))) = _; rw [t2]
        · show some (PV.bool (decide ((a : Int) < 0))) = _; rw [t3]
        · unfold fdm
          rw [(fdm_neg (a := a) e2).1, (fdm_neg (a := a) e2).2]
          rfl
      · refine divI0_run h4 ?_
        show (if (0 ≤ (a : Int) ∧ 0 < (b : Int)) ∧ _ then _ else none) = _
        rw [if_pos ⟨⟨e1, e2⟩, hbb, Nat.le_trans hab (by decide)⟩]
theorem divI2_run (h4 : ∀ xs d, divP xs = some d → tab 4 xs = some d) (h5 : ∀ xs d, divI1 xs = some d → tab 5 xs = some d) (h5' : ∀ xs d, divI0 xs = some d → tab 5 xs = some d) {xs : List DV} {d : DV} (h : divI2 xs = some d) : runF (ev intDom tab tok 8) 3 6 nm_int_divmod 2 ir_int_divmod xs = some d := by
  refine I2_i h ?_; clear h; rintro a b rfl h
  refine ifS h ?_; clear h; rintro ⟨e2, hbb, hab⟩ h; (have zz := Option.some.inj h; clear h; subst zz)
  · ·
      have e2 : (b : Int) ≠ 0 := e2
      rcases Int.lt_or_le b 0 with e1 | e1
      · have t1 : decide ((b : Int) = 0) = false := decide_eq_false e2
        have t2 : decide ((b : Int) < 0) = true := decide_eq_true e1
        have hcl : divI1 [.int (-a : Int), .int (-b : Int)] = some (fdm (-a) (-b)) := by
          show (if 0 < (-b : Int) ∧ _ then _ else none) = _
          rw [if_pos ⟨by lia, by rw [bits_neg]; exact hbb, by rw [bits_neg]; exact hab⟩]
        refine runF_of rfl (sx_cons_ret (sx_ite (c := false) ?_ (sx_cons_ret (sx_ite (c := true) ?_ (sx_cons_next (σ' := (ρz a b (some (.int ((-a).fdiv (-b)))) (some (.int ((-a).fmod (-b)))), [none, none, none, none, none, none, none])) (sx_unp (d := fdm (-a) (-b)) (ev_user (vs := [.int (-a : Int), .int (-b : Int)]) rfl (h5 _ _ hcl)) rfl) (sx_cons_ret (sx_ret ?_)))))))
        · show some (PV.bool (decide ((b : Int) = 0))) = _; rw [t1]
        · show some (PV.bool (decide ((b : Int) < 0))) = _; rw [t2]
        · unfold fdm
          rw [(fdm_neg2 (a := a) e1).1, (fdm_neg2 (a := a) e1).2]
          rfl
      · refine divI1_run h4 h5' ?_
        show (if 0 < (b : Int) ∧ _ then _ else none) = _
        rw [if_pos ⟨by lia, hbb, hab⟩]
end
noncomputable abbrev Poly := List (Nat × Nat × Int)
inductive PD
  | p (l : Poly)
  | t (k : Nat)
deriving DecidableEq
noncomputable def pIns (i j : Nat) (c : Int) : Poly → Poly
  | [] => if c = 0 then [] else [(i, j, c)]
  | (i', j', c') :: r => if i = i' ∧ j = j' then (if c + c' = 0 then r else (i', j', c + c') :: r) else if i < i' ∨ (i = i' ∧ j < j') then (if c = 0 then (i', j', c') :: r else (i, j, c) :: (i', j', c') :: r) else (i', j', c') :: pIns i j c r
noncomputable def pAdd (a b : Poly) : Poly := a.foldr (fun m r => pIns m.1 m.2.1 m.2.2 r) b
noncomputable def pScale (i j : Nat) (c : Int) (a : Poly) : Poly := a.map fun m => (m.1 + i, m.2.1 + j, m.2.2 * c)
noncomputable def pMul (a b : Poly) : Poly := a.foldr (fun m r => pAdd (pScale m.1 m.2.1 m.2.2 b) r) []
noncomputable def pNeg (a : Poly) : Poly := a.map fun m => (m.1, m.2.1, -m.2.2)
noncomputable def pLit (i : Int) : Poly := if i = 0 then [] else [(0, 0, i)]
noncomputable def pVal : Poly → Option Int
  | [] => some 0
  | [(0, 0, i)] => some i
  | _ => none
noncomputable def pOk (a : Poly) : Bool := decide (a.length ≤ 64) && a.all fun m => decide (m.1 ≤ 64) && decide (m.2.1 ≤ 64) && decide (m.2.2.natAbs < 2 ^ 64)
noncomputable def pPow (a : Poly) (n : Nat) : Poly := Nat.rec (pLit 1) (fun _ r => pMul r a) n
section
variable (B E : Int)
noncomputable def mDen (m : Nat × Nat × Int) : Int := m.2.2 * (B ^ m.1 * E ^ m.2.1)
noncomputable def pDen : Poly → Int
  | [] => 0
  | m :: r => mDen B E m + pDen r
theorem pDen_ins (i j : Nat) (c : Int) : ∀ a, pDen B E (pIns i j c a) = mDen B E (i, j, c) + pDen B E a
  | [] => by
    unfold pIns
    split
    · rename_i h; subst h; simp [pDen, mDen]
    · rfl
  | (i', j', c') :: r => by
    unfold pIns
    split
    · rename_i h
      refine xA h ?_; clear h; rintro rfl rfl
      split
      · rename_i h
        simp only [pDen, mDen]
        have : c' = -c := by lia
        subst this
        rw [Int.neg_mul]; lia
      · simp only [pDen, mDen]
        rw [Int.add_mul]; lia
    · split
      · split
        · rename_i h; subst h; simp [pDen, mDen]
        · rfl
      · simp only [pDen]
        rw [pDen_ins i j c r]; lia
theorem pDen_add (b : Poly) : ∀ a, pDen B E (pAdd a b) = pDen B E a + pDen B E b
  | [] => by simp [pAdd, pDen]
  | m :: a => by
    show pDen B E (pIns m.1 m.2.1 m.2.2 (pAdd a b)) = _
    rw [pDen_ins, pDen_add b a]
    show mDen B E m + _ = mDen B E m + pDen B E a + _
    lia
theorem pDen_scale (i j : Nat) (c : Int) : ∀ a, pDen B E (pScale i j c a) = mDen B E (i, j, c) * pDen B E a
  | [] => by simp [pScale, pDen]
  | m :: a => by
    show mDen B E (m.1 + i, m.2.1 + j, m.2.2 * c) + pDen B E (pScale i j c a) = _ * (mDen B E m + pDen B E a)
    rw [pDen_scale i j c a, Int.mul_add]
    congr 1
    simp only [mDen, Int.pow_add]
    grind
theorem pDen_mul (b : Poly) : ∀ a, pDen B E (pMul a b) = pDen B E a * pDen B E b
  | [] => by simp [pMul, pDen]
  | m :: a => by
    show pDen B E (pAdd (pScale m.1 m.2.1 m.2.2 b) (pMul a b)) = (mDen B E m + pDen B E a) * _
    rw [pDen_add, pDen_scale, pDen_mul b a, Int.add_mul]
theorem pDen_neg : ∀ a, pDen B E (pNeg a) = -pDen B E a
  | [] => by simp [pNeg, pDen]
  | m :: a => by
    show mDen B E (m.1, m.2.1, -m.2.2) + pDen B E (pNeg a) = -(mDen B E m + pDen B E a)
    rw [pDen_neg a]
    simp only [mDen, Int.neg_mul]
    lia
theorem pDen_lit (i : Int) : pDen B E (pLit i) = i := by
  unfold pLit
  split
  · rename_i h; subst h; rfl
  · simp [pDen, mDen]
theorem pDen_val : ∀ {a : Poly} {i : Int}, pVal a = some i → pDen B E a = i
  | [], i, h => by (have zz := Option.some.inj h; clear h; subst zz); rfl
  | [(0, 0, c)], i, h => by (have zz := Option.some.inj h; clear h; subst zz); simp [pDen, mDen]
  | [(0, j + 1, c)], i, h => by exact nS h
  | [(k + 1, j, c)], i, h => by exact nS h
  | (0, 0, c) :: _ :: _, i, h => by exact nS h
  | (0, j + 1, c) :: _ :: _, i, h => by exact nS h
  | (k + 1, j, c) :: _ :: _, i, h => by exact nS h
theorem pDen_pow (a : Poly) : ∀ n, pDen B E (pPow a n) = pDen B E a ^ n
  | 0 => by show pDen B E (pLit 1) = _; rw [pDen_lit, Int.pow_zero]
  | n + 1 => by
    show pDen B E (pMul (pPow a n) a) = _
    rw [pDen_mul, pDen_pow a n, Int.pow_succ]
variable {B E}
theorem mDen_bits (hB : Builtin.Int.intBits B ≤ 4400) (hE : Builtin.Int.intBits E ≤ 65) {m : Nat × Nat × Int} (h : (decide (m.1 ≤ 64) && decide (m.2.1 ≤ 64) && decide (m.2.2.natAbs < 2 ^ 64)) = true) : Builtin.Int.intBits (mDen B E m) ≤ 290000 := by
  simp only [Bool.and_eq_true, decide_eq_true_eq] at h
  have h1 := intBits_pow_le hB m.1
  have h2 := intBits_pow_le hE m.2.1
  have h3 := intBits_mul_le h1 h2
  have h4 := intBits_mul_le (intBits_le_iff.mpr h.2) h3
  refine Nat.le_trans h4 ?_
  lia
set_option exponentiation.threshold 1000000 in
theorem pDen_abs (hB : Builtin.Int.intBits B ≤ 4400) (hE : Builtin.Int.intBits E ≤ 65) : ∀ {a : Poly}, (a.all fun m => decide (m.1 ≤ 64) && decide (m.2.1 ≤ 64) && decide (m.2.2.natAbs < 2 ^ 64)) = true → (pDen B E a).natAbs ≤ a.length * 2 ^ 290000
  | [], _ => by rw [show pDen B E [] = 0 from rfl]; exact Nat.zero_le _
  | m :: a, h => by
    rw [List.all_cons, Bool.and_eq_true] at h
    have h1 := intBits_le_iff.mp (mDen_bits hB hE h.1)
    have h2 := pDen_abs hB hE h.2
    have h3 := Int.natAbs_add_le (mDen B E m) (pDen B E a)
    rw [List.length_cons, Nat.add_mul, Nat.one_mul]
    show (mDen B E m + pDen B E a).natAbs ≤ _
    generalize (2 : Nat) ^ 290000 = X at *
    lia
set_option exponentiation.threshold 1000000 in
theorem pOk_bits (hB : Builtin.Int.intBits B ≤ 4400) (hE : Builtin.Int.intBits E ≤ 65) {a : Poly} (h : pOk a = true) : Builtin.Int.intBits (pDen B E a) ≤ 300000 := by
  unfold pOk at h
  rw [Bool.and_eq_true] at h
  have h1 := pDen_abs hB hE h.2
  have h2 : a.length ≤ 64 := by simpa using h.1
  refine intBits_le_iff.mpr (Nat.lt_of_le_of_lt h1 ?_)
  have h3 : a.length * 2 ^ 290000 ≤ 2 ^ 6 * 2 ^ 290000 := Nat.mul_le_mul_right _ h2
  rw [← Nat.pow_add] at h3
  exact Nat.lt_of_le_of_lt h3 (Nat.pow_lt_pow_right (by decide) (by decide))
end
structure PE (v : Bool) where
  B : Int
  E : Int
  τ : Nat → Int
  chr : Nat → Nat
  hB : Builtin.Int.intBits B ≤ 4400
  hE : Builtin.Int.intBits E ≤ 65
  hτ : ∀ i j, i < j → j < 4 → τ i < τ j
  hτ0 : ∀ i, i < 4 → 0 < τ i
  hchr : ∀ a b, chr a = chr b → a = b
  hdot : v = true → chr 46 = 46
  hid : v = false → ∀ n, chr n = n
noncomputable def dSlit (v : Bool) (x : List Nat) : Option (List Nat) := match v with
  | false => some x
  | true => if x.all (fun c => c == 46) then some x else none
theorem dSlit_ok {v : Bool} (e : PE v) : ∀ x y, dSlit v x = some y → y.map e.chr = x := by
  intro x y h
  cases v with
  | false =>
    (have zz := Option.some.inj h; clear h; subst zz)
    have : e.chr = fun n => n := funext fun n => e.hid rfl n
    rw [this]; simp
  | true =>
    have h : (if x.all (fun c => c == 46) then some x else none) = some y := h
    split at h
    · rename_i hx
      (have zz := Option.some.inj h; clear h; subst zz)
      have : ∀ c ∈ x, e.chr c = c := fun c hc => by
        have := List.all_eq_true.mp hx c hc
        have : c = 46 := by simpa using this
        rw [this]; exact e.hdot rfl
      conv => rhs; rw [← List.map_id x]
      exact List.map_congr_left this
    · exact nS h
noncomputable def dDen {v : Bool} (e : PE v) : PD → Int
  | .p a => pDen e.B e.E a
  | .t k => e.τ k
noncomputable def dVal : PD → Option Int
  | .p a => pVal a
  | .t _ => none
noncomputable def opP (op : Operator) (a b : Poly) (y : Option Int) : Option Poly := match op with
  | .Add => some (pAdd a b)
  | .Sub => some (pAdd a (pNeg b))
  | .Mult => if pOk a && pOk b then some (pMul a b) else none
  | .Pow => y.bind fun n => if pOk a && decide (0 ≤ n) && decide (n ≤ 64) then some (pPow a n.toNat) else none
  | _ => none
noncomputable def pBin (op : Operator) (a b : Poly) : Option Poly := match pVal a with
  | none => opP op a b (pVal b)
  | some x => match pVal b with
    | none => opP op a b none
    | some y => (intBin op x y).map pLit
noncomputable def oP {β : Type} (d : PD) (k : Poly → Option β) : Option β := match d with | .p a => k a | .t _ => none
theorem oP_i {β : Type} {d : PD} {k : Poly → Option β} {b : β} {G : Prop} (e : oP d k = some b) (h : ∀ a, d = .p a → k a = some b → G) : G := by
  cases d with
  | p a => exact h a rfl e
  | t _ => exact nS e
noncomputable def dBin (op : Operator) (a b : PD) : Option PD := oP a fun a => oP b fun b => (pBin op a b).map .p
theorem dVal_ok {v : Bool} (e : PE v) : ∀ d i, dVal d = some i → dDen e d = i
  | .p a, i, h => pDen_val e.B e.E h
  | .t _, _, h => by exact nS h
theorem opP_ok {v : Bool} (e : PE v) {op : Operator} {a b c : Poly} {y : Option Int} (hy : ∀ n, y = some n → pVal b = some n) (h : opP op a b y = some c) : intBin op (pDen e.B e.E a) (pDen e.B e.E b) = some (pDen e.B e.E c) := by
  cases op with
  | Add =>
    have h := Option.some.inj h
    subst h
    show some _ = some _
    rw [pDen_add]
  | Sub =>
    have h := Option.some.inj h
    subst h
    show some _ = some _
    rw [pDen_add, pDen_neg]
    rfl
  | Mult =>
    refine ifS h ?_; clear h; intro hok h
    have h := Option.some.inj h
    subst h
    rw [pDen_mul]
    refine mul_int' (mulOk_bits ?_)
    have h1 := pOk_bits e.hB e.hE (and2 hok).1
    have h2 := pOk_bits e.hB e.hE (and2 hok).2
    lia
  | Pow =>
    refine xBind h ?_; clear h; intro n hn h
    refine ifS h ?_; clear h; intro hok h
    have h := Option.some.inj h
    subst h
    have hok := and3 hok
    have p1 := of_decide_eq_true hok.1.2
    have p2 := of_decide_eq_true hok.2
    rw [pDen_pow, pDen_val e.B e.E (hy n hn)]
    show (if 0 ≤ n ∧ (Builtin.Int.intBits (pDen e.B e.E a) : Int) * n ≤ 2 ^ 27 then _ else none) = _
    have h1 := pOk_bits e.hB e.hE hok.1.1
    have h2 : (Builtin.Int.intBits (pDen e.B e.E a) : Int) ≤ 300000 := by lia
    have h3 : (Builtin.Int.intBits (pDen e.B e.E a) : Int) * n ≤ 300000 * 64 := Int.mul_le_mul h2 p2 p1 (by decide)
    rw [if_pos ⟨p1, Int.le_trans h3 (by decide)⟩]
  | _ => exact nS h
theorem pBin_ok {v : Bool} (e : PE v) {op : Operator} {a b c : Poly} (h : pBin op a b = some c) : intBin op (pDen e.B e.E a) (pDen e.B e.E b) = some (pDen e.B e.E c) := by
  unfold pBin at h
  cases ha : pVal a with
  | none => rw [ha] at h; exact opP_ok e (fun _ q => q) h
  | some x =>
    rw [ha] at h
    cases hb : pVal b with
    | none => rw [hb] at h; exact opP_ok e (fun _ q => nS q) h
    | some y =>
      rw [hb] at h
      refine xMap h ?_; rintro z hz rfl
      rw [pDen_val e.B e.E ha, pDen_val e.B e.E hb, hz, pDen_lit]
theorem dBin_ok {v : Bool} (e : PE v) (op : Operator) (a b c : PD) (h : dBin op a b = some c) : intBin op (dDen e a) (dDen e b) = some (dDen e c) := by
  refine oP_i h fun a q h1 => oP_i h1 fun b q1 h2 => xMap h2 fun c h3 q2 => ?_
  clear h h1 h2
  subst q; subst q1; subst q2
  exact pBin_ok e h3
noncomputable def dLt : PD → PD → Option Bool
  | .p a, .p b => (pVal a).bind fun x => (pVal b).map fun y => decide (x < y)
  | .p [], .t k => if k < 4 then some true else none
  | .t k, .p [] => if k < 4 then some false else none
  | .t i, .t j => if i < 4 ∧ j < 4 then some (decide (i < j)) else none
  | _, _ => none
theorem dLt_ok {v : Bool} (e : PE v) : ∀ a b t, dLt a b = some t → t = decide (dDen e a < dDen e b)
  | .p a, .p b, t, h => by
    refine xBind h ?_; clear h; intro x hx h
    refine xMap h ?_; rintro y hy rfl
    show _ = decide (pDen e.B e.E a < pDen e.B e.E b)
    rw [pDen_val e.B e.E hx, pDen_val e.B e.E hy]
  | .p [], .t k, t, h => by
    have h : (if k < 4 then some true else none) = some t := h
    split at h
    · rename_i hk; (have zz := Option.some.inj h; clear h; subst zz)
      exact (decide_eq_true (e.hτ0 k hk)).symm
    · exact nS h
  | .p (_ :: _), .t k, t, h => by exact nS h
  | .t k, .p [], t, h => by
    have h : (if k < 4 then some false else none) = some t := h
    split at h
    · rename_i hk; (have zz := Option.some.inj h; clear h; subst zz)
      have := e.hτ0 k hk
      exact (decide_eq_false (show ¬ e.τ k < 0 by lia)).symm
    · exact nS h
  | .t k, .p (_ :: _), t, h => by exact nS h
  | .t i, .t j, t, h => by
    have h : (if i < 4 ∧ j < 4 then some (decide (i < j)) else none) = some t := h
    split at h
    · rename_i hk; (have zz := Option.some.inj h; clear h; subst zz)
      show decide (i < j) = decide (e.τ i < e.τ j)
      rcases Nat.lt_trichotomy i j with q | q | q
      · rw [decide_eq_true q, decide_eq_true (e.hτ i j q hk.2)]
      · subst q
        rw [decide_eq_false (by lia), decide_eq_false (by lia)]
      · have := e.hτ j i q hk.1
        rw [decide_eq_false (by lia), decide_eq_false (by lia)]
    · exact nS h
noncomputable def dEq : PD → PD → Option Bool
  | .p a, .p b => match pVal a, pVal b with
    | some x, some y => some (decide (x = y))
    | _, _ => if a = b then some true else none
  | _, _ => none
theorem dEq_ok {v : Bool} (e : PE v) : ∀ a b t, dEq a b = some t → t = decide (dDen e a = dDen e b)
  | .p a, .p b, t, h => by
    unfold dEq at h
    dsimp only at h
    split at h
    · rename_i x y hx hy
      (have zz := Option.some.inj h; clear h; subst zz)
      show _ = decide (pDen e.B e.E a = pDen e.B e.E b)
      rw [pDen_val e.B e.E hx, pDen_val e.B e.E hy]
    · split at h
      · rename_i hab; (have zz := Option.some.inj h; clear h; subst zz); subst hab
        exact (decide_eq_true rfl).symm
      · exact nS h
  | .p a, .t _, _, h => by exact nS h
  | .t _, .p _, _, h => by exact nS h
  | .t _, .t _, _, h => by exact nS h
noncomputable def dNeg : PD → Option PD
  | .p a => some (.p (pNeg a))
  | .t _ => none
noncomputable def dBl : PD → Option PD
  | .p a => (pVal a).map fun x => .p (pLit (Builtin.Int.intBits x : Int))
  | .t _ => none
noncomputable def pDom {v : Bool} (e : PE v) : Dom where
  D := PD
  den := dDen e
  lit := fun i => .p (pLit i)
  lit_den := fun i => pDen_lit e.B e.E i
  val := dVal
  val_den := dVal_ok e
  bin := dBin
  bin_ok := dBin_ok e
  neg := dNeg
  neg_ok := fun a c h => by
    cases a with
    | p a => (have zz := Option.some.inj h; clear h; subst zz); exact pDen_neg e.B e.E a
    | t k => exact nS h
  lt := dLt
  lt_ok := dLt_ok e
  eq := dEq
  eq_ok := dEq_ok e
  chr := e.chr
  chr_inj := e.hchr
  slit := dSlit v
  slit_ok := dSlit_ok e
  bl := dBl
  bl_ok := fun a c h => by
    cases a with
    | p a =>
      refine xMap h ?_; rintro x hx rfl
      show pDen e.B e.E (pLit _) = _
      rw [pDen_lit, show dDen e (.p a) = x from pDen_val e.B e.E hx]
    | t k => exact nS h
noncomputable def sgn : List Nat := [40, 41, 91, 93, 58, 44, 59, 43, 45, 42, 47, 124, 38, 60, 62, 61, 37, 123, 125, 126, 94, 64, 33]
noncomputable def sgnN : List Nat := [7, 8, 9, 10, 11, 12, 13, 14, 15, 16, 17, 18, 19, 20, 21, 22, 24, 25, 26, 31, 32, 49, 54]
structure Base (prog : Program) (w : World) (H : Heap) : Prop where
  fn : ∀ f : Fn, GlobIs H f.nm (.builtin f.bid)
  gc : ∀ g : Gc, ∃ t, GlobIs H g.nm (gcVal g t)
  rng : GlobIs H "range" (.type "range")
  rev : GlobIs H "reversed" (.type "reversed")
  big : 37 < H.objs.size
  tok : ∃ a, GlobIs H "EXACT_TOKEN_TYPES" (.ref a) ∧ ∀ (k c n : Nat), sgn[k]? = some c → sgnN[k]? = some n → ∀ (A : Around) (E : Value → Shared → Prop) (s : Shared) (t : Tok) (value slice : Expr) (Q : Value → Shared → Prop), Inv H s → noSlice slice = true →
    (∀ t, Q (.int (n : Int) t) { s with toks := s.toks + 1 }) → wpAny (model prog w) A (subscriptTail value slice (.ref a) (.str (strOf [c]) t)) Q E s
section
variable {prog : Program} {w : World} {H : Heap} {dm : Dom}
theorem Base.cx {tab : Nat → List dm.V → Option dm.V} {r : Nat} (b : Base prog w H) (hu : ∀ f, (∃ xs d, tab f xs = some d) → UserOk prog w dm H r f (tab f)) : Cx prog w dm H tab (fun _ => none) r where
  fn := b.fn
  gc := b.gc
  rng := b.rng
  rev := b.rev
  big := b.big
  tok := let ⟨a, G, _⟩ := b.tok; ⟨a, G, fun _ _ _ _ _ _ _ _ _ _ _ h => by cases h⟩
  user := hu
theorem Base.cxT {tab : Nat → List dm.V → Option dm.V} {tok : Nat → Option dm.D} {r : Nat} (b : Base prog w H) (ht : ∀ x d, tok x = some d → ∃ k n : Nat, sgn[k]? = some (dm.chr x) ∧ sgnN[k]? = some n ∧ dm.den d = (n : Int)) (hu : ∀ f, (∃ xs d, tab f xs = some d) → UserOk prog w dm H r f (tab f)) : Cx prog w dm H tab tok r where
  fn := b.fn
  gc := b.gc
  rng := b.rng
  rev := b.rev
  big := b.big
  tok := by
    obtain ⟨a, G, k⟩ := b.tok
    refine ⟨a, G, fun A E s x d t value slice Q I hs h hQ => ?_⟩
    obtain ⟨i, n, h1, h2, h3⟩ := ht x d h
    exact k i _ n h1 h2 A E s t value slice Q I hs fun t => h3 ▸ hQ t
  user := hu
structure FnAddr (H : Heap) (f : Nat) : Prop where
  ok : ∃ a, GlobIs H (ufName f) (.ref a) ∧ (∃ o fd, o.data = .func fd ∧ ∀ s, Inv H s → s.heap.get? a = some o)
theorem glob_fun {x : Str} {u v : Value} (h1 : GlobIs H x u) (h2 : GlobIs H x v) : u = v := by
  obtain ⟨mg, mb, G, h1⟩ := h1
  obtain ⟨mg', mb', G', h2⟩ := h2
  have e1 : mg' x = mg x := (G.g.agree G'.g x).symm
  have e2 : mb' x = mb x := (G.b.agree G'.b x).symm
  rw [e1, e2] at h2
  rcases h1 with h1 | ⟨h1, h1'⟩ <;> rcases h2 with h2 | ⟨h2, h2'⟩
  · rw [h1] at h2; exact Option.some.inj h2
  · rw [h1] at h2; cases h2
  · rw [h1] at h2; cases h2
  · rw [h1'] at h2'; exact Option.some.inj h2'
theorem UserOk.addr {r f : Nat} {F : List dm.V → Option dm.V} (x : UserOk prog w dm H r f F) : FnAddr H f := by
  obtain ⟨a, G, o, _⟩ := x.ok
  exact ⟨a, G, o⟩
theorem UserOk.family {r f : Nat} {F' : List dm.V → Option dm.V} (b : FnAddr H f) (h : ∀ xs d, F' xs = some d → ∃ (dm' : Dom) (F : List dm'.V → Option dm'.V) (ys : List dm'.V) (e : dm'.V), UserOk prog w dm' H r f F ∧ F ys = some e ∧ dm'.dvs ys = dm.dvs xs ∧ dm'.dv e = dm.dv d) :
    UserOk prog w dm H r f F' := by
  obtain ⟨a, G, o⟩ := b.ok
  refine ⟨a, G, o, fun xs d he A s P vs R I hf q => ?_⟩
  obtain ⟨dm', F, ys, e, U, h1, h2, h3⟩ := h xs d he
  obtain ⟨a', G', _, k⟩ := U.ok
  have := glob_fun G G'
  cases this
  rw [← h3]
  exact k ys e h1 A s P vs R I hf (by rw [h2]; exact q)
theorem user_none {r f : Nat} {tab : Nat → List dm.V → Option dm.V} (h : ∀ xs, tab f xs = none) : (∃ xs d, tab f xs = some d) → UserOk prog w dm H r f (tab f) := fun ⟨xs, d, e⟩ => by rw [h xs] at e; cases e
end
section
variable {v : Bool} (e : PE v)
noncomputable abbrev tk (m : Nat) : Nat → Option (pDom e).D := fun c => if c < m then some (.t c) else none
noncomputable abbrev tN : Nat → Option (pDom e).D := fun _ => none
noncomputable abbrev tA : Nat → List (pDom e).V → Option (pDom e).V := fun _ _ => none
noncomputable abbrev F6 (tok : Nat → Option (pDom e).D) := runF (ev (pDom e) (tA e) tok 30) 3 12 nm_ellipsis_match 2 ir_ellipsis_match
noncomputable abbrev F11 (tok : Nat → Option (pDom e).D) := runF (ev (pDom e) (tA e) tok 30) 3 12 nm_law_rows 1 ir_law_rows
noncomputable abbrev tB (tok : Nat → Option (pDom e).D) : Nat → List (pDom e).V → Option (pDom e).V := fun f xs => if f = 6 then F6 e tok xs else if f = 11 then F11 e tok xs else none
noncomputable abbrev F12 (m : Nat) := runF (ev (pDom e) (tB e (tk e m)) (tk e m) 30) 3 12 nm_law_weights 3 ir_law_weights
noncomputable abbrev F13 := runF (ev (pDom e) (tB e (tN e)) (tN e) 30) 3 12 nm_law_steps 3 ir_law_steps
noncomputable abbrev tC : Nat → List (pDom e).V → Option (pDom e).V := fun f xs => if f = 13 then F13 e xs else none
noncomputable abbrev F14 := runF (ev (pDom e) (tC e) (tN e) 30) 3 12 nm_law_flows 4 ir_law_flows
noncomputable abbrev F16 := runF (ev (pDom e) (tB e (tN e)) (tN e) 30) 3 12 nm_law_once 2 ir_law_once
end
noncomputable abbrev pB : Poly := [(1, 0, 1)]
noncomputable abbrev pE : Poly := [(0, 1, 1)]
noncomputable abbrev WP2 : List Poly := [[(0, 0, 1)], [(0, 1, 1), (0, 2, 1), (1, 1, 1)], [(0, 1, 1)], [(0, 2, 1)]]
noncomputable abbrev WP3 : List Poly := [[(0, 0, 1)], [(0, 1, 1), (0, 2, 1), (0, 3, 1), (1, 1, 1), (1, 2, 2), (2, 1, 1)], [(0, 1, 1), (0, 2, 1), (1, 1, 1)], [(0, 2, 1), (0, 3, 2), (1, 2, 2), (1, 3, 1), (2, 2, 1)], [(0, 1, 1)], [(0, 2, 1), (0, 3, 1), (1, 2, 1)], [(0, 2, 1)], [(0, 3, 1)]]
noncomputable abbrev pvs (l : List Poly) : List (PV PD) := l.map fun q => .int (.p q)
theorem w2_eval (e : PE true) : F12 e 3 [.str [0, 1, 2], .int (.p pB), .int (.p pE)] = some (.list (pvs WP2)) := by kernel_rfl
theorem w3_eval (e : PE true) : F12 e 4 [.str [0, 1, 2, 3], .int (.p pB), .int (.p pE)] = some (.list (pvs WP3)) := by kernel_rfl
noncomputable abbrev TX2 : List (List Nat) := [[41, 41], [40, 41], [41, 40], [40, 40]]
noncomputable abbrev TX3 : List (List Nat) := [[41, 41, 41], [40, 41, 41], [41, 40, 41], [40, 40, 41], [41, 41, 40], [40, 41, 40], [41, 40, 40], [40, 40, 40]]
noncomputable abbrev txs {D : Type} (l : List (List Nat)) : List (PV D) := l.map PV.str
noncomputable abbrev OP3 : List Poly := [[(0, 1, 1)], [(0, 0, 1)], [(0, 0, 1), (0, 1, 1), (1, 0, 1)], [(0, 0, 1)], [(0, 0, 1), (0, 1, 1), (1, 0, 1)], [(0, 0, 2), (1, 0, 1)], [(0, 0, 1), (0, 1, 1), (1, 0, 1)], [(0, 0, 1)]]
noncomputable abbrev IP3 : List Poly := [[(0, 1, 1)], [(0, 1, 1), (0, 2, 1), (0, 3, 1), (1, 1, 1), (1, 2, 2), (2, 1, 1)], [(0, 1, 1), (0, 2, 2), (0, 3, 1), (1, 1, 2), (1, 2, 2), (2, 1, 1)], [(0, 2, 1), (0, 3, 2), (1, 2, 2), (1, 3, 1), (2, 2, 1)], [(0, 1, 1), (0, 2, 1), (1, 1, 1)], [(0, 2, 2), (0, 3, 2), (1, 2, 3), (1, 3, 1), (2, 2, 1)], [(0, 2, 1), (0, 3, 1), (1, 2, 1)], [(0, 3, 1)]]
theorem fl3_eval (e : PE false) : F14 e [.list (txs TX3), .list (pvs WP3), .int (.p pB), .int (.p pE)] = some (.tuple [.list (pvs OP3), .list (pvs IP3)]) := by kernel_rfl
noncomputable abbrev OP2 : List Poly := [[(0, 1, 1)], [(0, 0, 1)], [(0, 0, 1), (0, 1, 1), (1, 0, 1)], [(0, 0, 1)]]
noncomputable abbrev IP2 : List Poly := [[(0, 1, 1)], [(0, 1, 1), (0, 2, 1), (1, 1, 1)], [(0, 1, 1), (0, 2, 1), (1, 1, 1)], [(0, 2, 1)]]
theorem fl2_eval (e : PE false) : F14 e [.list (txs TX2), .list (pvs WP2), .int (.p pB), .int (.p pE)] = some (.tuple [.list (pvs OP2), .list (pvs IP2)]) := by kernel_rfl
theorem once2_0_0 (e : PE false) : F16 e [.str [41, 41], .int (.p (pLit 0))] = some (.bool true) := by kernel_rfl
theorem once2_0_1 (e : PE false) : F16 e [.str [41, 41], .int (.p (pLit 1))] = some (.bool true) := by kernel_rfl
theorem once2_1_0 (e : PE false) : F16 e [.str [40, 41], .int (.p (pLit 0))] = some (.bool true) := by kernel_rfl
theorem once2_1_1 (e : PE false) : F16 e [.str [40, 41], .int (.p (pLit 1))] = some (.bool true) := by kernel_rfl
theorem once2_2_0 (e : PE false) : F16 e [.str [41, 40], .int (.p (pLit 0))] = some (.bool true) := by kernel_rfl
theorem once2_2_1 (e : PE false) : F16 e [.str [41, 40], .int (.p (pLit 1))] = some (.bool true) := by kernel_rfl
theorem once2_3_0 (e : PE false) : F16 e [.str [40, 40], .int (.p (pLit 0))] = some (.bool true) := by kernel_rfl
theorem once2_3_1 (e : PE false) : F16 e [.str [40, 40], .int (.p (pLit 1))] = some (.bool true) := by kernel_rfl
theorem once3_0_0 (e : PE false) : F16 e [.str [41, 41, 41], .int (.p (pLit 0))] = some (.bool true) := by kernel_rfl
theorem once3_0_1 (e : PE false) : F16 e [.str [41, 41, 41], .int (.p (pLit 1))] = some (.bool true) := by kernel_rfl
theorem once3_0_2 (e : PE false) : F16 e [.str [41, 41, 41], .int (.p (pLit 2))] = some (.bool true) := by kernel_rfl
theorem once3_1_0 (e : PE false) : F16 e [.str [40, 41, 41], .int (.p (pLit 0))] = some (.bool true) := by kernel_rfl
theorem once3_1_1 (e : PE false) : F16 e [.str [40, 41, 41], .int (.p (pLit 1))] = some (.bool true) := by kernel_rfl
theorem once3_1_2 (e : PE false) : F16 e [.str [40, 41, 41], .int (.p (pLit 2))] = some (.bool true) := by kernel_rfl
theorem once3_2_0 (e : PE false) : F16 e [.str [41, 40, 41], .int (.p (pLit 0))] = some (.bool true) := by kernel_rfl
theorem once3_2_1 (e : PE false) : F16 e [.str [41, 40, 41], .int (.p (pLit 1))] = some (.bool true) := by kernel_rfl
theorem once3_2_2 (e : PE false) : F16 e [.str [41, 40, 41], .int (.p (pLit 2))] = some (.bool true) := by kernel_rfl
theorem once3_3_0 (e : PE false) : F16 e [.str [40, 40, 41], .int (.p (pLit 0))] = some (.bool true) := by kernel_rfl
theorem once3_3_1 (e : PE false) : F16 e [.str [40, 40, 41], .int (.p (pLit 1))] = some (.bool true) := by kernel_rfl
theorem once3_3_2 (e : PE false) : F16 e [.str [40, 40, 41], .int (.p (pLit 2))] = some (.bool true) := by kernel_rfl
theorem once3_4_0 (e : PE false) : F16 e [.str [41, 41, 40], .int (.p (pLit 0))] = some (.bool true) := by kernel_rfl
theorem once3_4_1 (e : PE false) : F16 e [.str [41, 41, 40], .int (.p (pLit 1))] = some (.bool true) := by kernel_rfl
theorem once3_4_2 (e : PE false) : F16 e [.str [41, 41, 40], .int (.p (pLit 2))] = some (.bool true) := by kernel_rfl
theorem once3_5_0 (e : PE false) : F16 e [.str [40, 41, 40], .int (.p (pLit 0))] = some (.bool true) := by kernel_rfl
theorem once3_5_1 (e : PE false) : F16 e [.str [40, 41, 40], .int (.p (pLit 1))] = some (.bool true) := by kernel_rfl
theorem once3_5_2 (e : PE false) : F16 e [.str [40, 41, 40], .int (.p (pLit 2))] = some (.bool true) := by kernel_rfl
theorem once3_6_0 (e : PE false) : F16 e [.str [41, 40, 40], .int (.p (pLit 0))] = some (.bool true) := by kernel_rfl
theorem once3_6_1 (e : PE false) : F16 e [.str [41, 40, 40], .int (.p (pLit 1))] = some (.bool true) := by kernel_rfl
theorem once3_6_2 (e : PE false) : F16 e [.str [41, 40, 40], .int (.p (pLit 2))] = some (.bool true) := by kernel_rfl
theorem once3_7_0 (e : PE false) : F16 e [.str [40, 40, 40], .int (.p (pLit 0))] = some (.bool true) := by kernel_rfl
theorem once3_7_1 (e : PE false) : F16 e [.str [40, 40, 40], .int (.p (pLit 1))] = some (.bool true) := by kernel_rfl
theorem once3_7_2 (e : PE false) : F16 e [.str [40, 40, 40], .int (.p (pLit 2))] = some (.bool true) := by kernel_rfl
theorem once2_eval (e : PE false) : ∀ t ∈ TX2, ∀ c : Nat, c < 2 → F16 e [.str t, .int (.p (pLit (c : Int)))] = some (.bool true) := by
  intro t ht c hc
  simp only [TX2, List.mem_cons, List.not_mem_nil, or_false] at ht
  rcases ht with rfl | rfl | rfl | rfl
  · match c, hc with
    | 0, _ => exact once2_0_0 e
    | 1, _ => exact once2_0_1 e
  · match c, hc with
    | 0, _ => exact once2_1_0 e
    | 1, _ => exact once2_1_1 e
  · match c, hc with
    | 0, _ => exact once2_2_0 e
    | 1, _ => exact once2_2_1 e
  · match c, hc with
    | 0, _ => exact once2_3_0 e
    | 1, _ => exact once2_3_1 e
theorem once3_eval (e : PE false) : ∀ t ∈ TX3, ∀ c : Nat, c < 3 → F16 e [.str t, .int (.p (pLit (c : Int)))] = some (.bool true) := by
  intro t ht c hc
  simp only [TX3, List.mem_cons, List.not_mem_nil, or_false] at ht
  rcases ht with rfl | rfl | rfl | rfl | rfl | rfl | rfl | rfl
  · match c, hc with
    | 0, _ => exact once3_0_0 e
    | 1, _ => exact once3_0_1 e
    | 2, _ => exact once3_0_2 e
  · match c, hc with
    | 0, _ => exact once3_1_0 e
    | 1, _ => exact once3_1_1 e
    | 2, _ => exact once3_1_2 e
  · match c, hc with
    | 0, _ => exact once3_2_0 e
    | 1, _ => exact once3_2_1 e
    | 2, _ => exact once3_2_2 e
  · match c, hc with
    | 0, _ => exact once3_3_0 e
    | 1, _ => exact once3_3_1 e
    | 2, _ => exact once3_3_2 e
  · match c, hc with
    | 0, _ => exact once3_4_0 e
    | 1, _ => exact once3_4_1 e
    | 2, _ => exact once3_4_2 e
  · match c, hc with
    | 0, _ => exact once3_5_0 e
    | 1, _ => exact once3_5_1 e
    | 2, _ => exact once3_5_2 e
  · match c, hc with
    | 0, _ => exact once3_6_0 e
    | 1, _ => exact once3_6_1 e
    | 2, _ => exact once3_6_2 e
  · match c, hc with
    | 0, _ => exact once3_7_0 e
    | 1, _ => exact once3_7_1 e
    | 2, _ => exact once3_7_2 e
noncomputable def chrK (k c : Nat) : Nat := if c < 4 ∧ k + c < 23 then sgn.getD (k + c) 0 else if c = 46 then 46 else c + 1000
theorem sgn_inj : ∀ i, i < 23 → ∀ j, j < 23 → sgn.getD i 0 = sgn.getD j 0 → i = j := by decide
theorem sgn_lt : ∀ i, i < 23 → sgn.getD i 0 < 1000 ∧ sgn.getD i 0 ≠ 46 := by decide
theorem chrK_inj (k a b : Nat) (h : chrK k a = chrK k b) : a = b := by
  unfold chrK at h
  by_cases ha : a < 4 ∧ k + a < 23 <;> by_cases hb : b < 4 ∧ k + b < 23
  · rw [if_pos ha, if_pos hb] at h
    have := sgn_inj _ ha.2 _ hb.2 h
    lia
  · rw [if_pos ha, if_neg hb] at h
    have := sgn_lt _ ha.2
    split at h <;> lia
  · rw [if_neg ha, if_pos hb] at h
    have := sgn_lt _ hb.2
    split at h <;> lia
  · rw [if_neg ha, if_neg hb] at h
    split at h <;> split at h <;> lia
noncomputable def tauK (k c : Nat) : Int := if k + c < 23 then (sgnN.getD (k + c) 0 : Nat) else 1000 + c
theorem sgnN_mono : ∀ i, i < 23 → ∀ j, j < 23 → i < j → sgnN.getD i 0 < sgnN.getD j 0 := by decide
theorem sgnN_lt : ∀ i, i < 23 → sgnN.getD i 0 < 1000 ∧ 0 < sgnN.getD i 0 := by decide
noncomputable def peT (k : Nat) (B E : Int) (hB : Builtin.Int.intBits B ≤ 4400) (hE : Builtin.Int.intBits E ≤ 65) : PE true where
  B := B
  E := E
  τ := tauK k
  chr := chrK k
  hB := hB
  hE := hE
  hτ := fun i j h1 h2 => by
    unfold tauK
    by_cases hi : k + i < 23 <;> by_cases hj : k + j < 23
    · rw [if_pos hi, if_pos hj]
      have := sgnN_mono _ hi _ hj (by lia)
      lia
    · rw [if_pos hi, if_neg hj]
      have := sgnN_lt _ hi
      lia
    · lia
    · rw [if_neg hi, if_neg hj]
      lia
  hτ0 := fun i h => by
    unfold tauK
    by_cases hi : k + i < 23
    · rw [if_pos hi]
      have := sgnN_lt _ hi
      lia
    · rw [if_neg hi]; lia
  hchr := chrK_inj k
  hdot := fun _ => by
    unfold chrK
    rw [if_neg (by lia), if_pos rfl]
  hid := fun h => by cases h
noncomputable def peF (B E : Int) (hB : Builtin.Int.intBits B ≤ 4400) (hE : Builtin.Int.intBits E ≤ 65) : PE false where
  B := B
  E := E
  τ := fun k => (k : Int) + 1
  chr := fun n => n
  hB := hB
  hE := hE
  hτ := fun i j h1 h2 => by show (i : Int) + 1 < (j : Int) + 1; lia
  hτ0 := fun i h => by show 0 < (i : Int) + 1; lia
  hchr := fun _ _ h => h
  hdot := fun h => by exact bF h
  hid := fun _ _ => rfl
noncomputable def signOf (k m : Nat) : List Nat := (sgn.drop k).take m
open Classical in
noncomputable def wI (xs : List DV) : Option DV := oC xs fun x r => oS x fun s => I2 r fun B E => if Builtin.Int.intBits B ≤ 4400 ∧ Builtin.Int.intBits E ≤ 65 then (if ∃ k : Nat, k < 21 ∧ s = signOf k 3 then some (.list (WP2.map fun q => .int (pDen B E q))) else if ∃ k : Nat, k < 20 ∧ s = signOf k 4 then some (.list (WP3.map fun q => .int (pDen B E q))) else none) else none
theorem sign3 : ∀ k, k < 21 → signOf k 3 = [chrK k 0, chrK k 1, chrK k 2] := by decide
theorem sign4 : ∀ k, k < 20 → signOf k 4 = [chrK k 0, chrK k 1, chrK k 2, chrK k 3] := by decide
theorem tok_facts : ∀ k, k < 21 → ∀ c, c < 4 → k + c < 23 → sgn[k + c]? = some (chrK k c) ∧ ∃ n : Nat, sgnN[k + c]? = some n ∧ tauK k c = (n : Int) := by
  intro k hk c hc h
  have h1 : ∀ i, i < 23 → sgn[i]? = some (sgn.getD i 0) ∧ sgnN[i]? = some (sgnN.getD i 0) := by decide
  refine ⟨?_, _, (h1 _ h).2, ?_⟩
  · rw [(h1 _ h).1]; unfold chrK; rw [if_pos ⟨hc, h⟩]
  · unfold tauK; rw [if_pos h]
theorem pden_B (B E : Int) : pDen B E pB = B := by simp [pDen, mDen, Int.pow_succ]
theorem pden_E (B E : Int) : pDen B E pE = E := by simp [pDen, mDen, Int.pow_succ]
section
variable {prog : Program} {w : World} {H : Heap}
theorem pvs_dv {v : Bool} (e : PE v) (l : List Poly) : (pDom e).dvs (pvs l) = l.map fun q => .int (pDen e.B e.E q) := by
  have h : ∀ l : List Poly, PV.denL (dDen e) e.chr (pvs l) = l.map fun q => .int (pDen e.B e.E q) := fun l => by
    induction l with
    | nil => rfl
    | cons q l ih => show PV.int (pDen e.B e.E q) :: PV.denL (dDen e) e.chr (pvs l) = _; rw [ih]; rfl
  exact h l
theorem ell_ok {v : Bool} {e : PE v} {tok : Nat → Option (pDom e).D} {a6 : Addr} {fd6 : FuncData} (b : Base prog w H) (ht : ∀ x d, tok x = some d → ∃ k n : Nat, sgn[k]? = some (e.chr x) ∧ sgnN[k]? = some n ∧ dDen e d = (n : Int)) (K6 : FnOk H a6 fd6 nm_ellipsis_match 2 ir_ellipsis_match) (g6 : GlobIs H (ufName 6) (.ref a6)) (r : Nat) : UserOk prog w (pDom e) H (r + 1) 6 (F6 e tok) :=
  fun_ok (r := r) (b.cxT (dm := pDom e) ht fun f => user_none fun _ => rfl) K6 g6
theorem rows_ok {v : Bool} {e : PE v} {tok : Nat → Option (pDom e).D} {a11 : Addr} {fd11 : FuncData} (b : Base prog w H) (ht : ∀ x d, tok x = some d → ∃ k n : Nat, sgn[k]? = some (e.chr x) ∧ sgnN[k]? = some n ∧ dDen e d = (n : Int)) (K11 : FnOk H a11 fd11 nm_law_rows 1 ir_law_rows) (g11 : GlobIs H (ufName 11) (.ref a11)) (r : Nat) : UserOk prog w (pDom e) H (r + 1) 11 (F11 e tok) :=
  fun_ok (r := r) (b.cxT (dm := pDom e) ht fun f => user_none fun _ => rfl) K11 g11
theorem cxB {v : Bool} {e : PE v} {tok : Nat → Option (pDom e).D} {a6 a11 : Addr} {fd6 fd11 : FuncData} (b : Base prog w H) (ht : ∀ x d, tok x = some d → ∃ k n : Nat, sgn[k]? = some (e.chr x) ∧ sgnN[k]? = some n ∧ dDen e d = (n : Int)) (K6 : FnOk H a6 fd6 nm_ellipsis_match 2 ir_ellipsis_match) (g6 : GlobIs H (ufName 6) (.ref a6)) (K11 : FnOk H a11 fd11 nm_law_rows 1 ir_law_rows) (g11 : GlobIs H (ufName 11) (.ref a11)) (r : Nat) :
    Cx prog w (pDom e) H (tB e tok) tok (r + 1) := by
  refine b.cxT (dm := pDom e) ht fun f hf => ?_
  by_cases h6 : f = 6
  · subst h6; exact (ell_ok b ht K6 g6 r).sub fun xs d h => by
      have h : (if (6 : Nat) = 6 then F6 e tok xs else if (6 : Nat) = 11 then F11 e tok xs else none) = some d := h
      rwa [if_pos rfl] at h
  by_cases h11 : f = 11
  · subst h11; exact (rows_ok b ht K11 g11 r).sub fun xs d h => by
      have h : (if (11 : Nat) = 6 then F6 e tok xs else if (11 : Nat) = 11 then F11 e tok xs else none) = some d := h
      rwa [if_neg (by decide), if_pos rfl] at h
  · refine xEE hf ?_; clear hf; intro xs d h
    have h : (if f = 6 then F6 e tok xs else if f = 11 then F11 e tok xs else none) = some d := h
    rw [if_neg h6, if_neg h11] at h
    exact nS h
theorem wts_ok {a6 a11 a12 : Addr} {fd6 fd11 fd12 : FuncData} (b : Base prog w H) (K6 : FnOk H a6 fd6 nm_ellipsis_match 2 ir_ellipsis_match) (g6 : GlobIs H (ufName 6) (.ref a6)) (K11 : FnOk H a11 fd11 nm_law_rows 1 ir_law_rows) (g11 : GlobIs H (ufName 11) (.ref a11))
    (K12 : FnOk H a12 fd12 nm_law_weights 3 ir_law_weights) (g12 : GlobIs H (ufName 12) (.ref a12)) : UserOk prog w intDom H 2 12 wI := by
  have main : ∀ (k m : Nat) (hk : k < 21) (B E : Int) (hB : Builtin.Int.intBits B ≤ 4400) (hE : Builtin.Int.intBits E ≤ 65), k + m ≤ 23 → m ≤ 4 → UserOk prog w (pDom (peT k B E hB hE)) H 2 12 (F12 (peT k B E hB hE) m) := by
    intro k m hk B E hB hE hkm hm
    refine fun_ok (r := 1) (cxB b (fun x d h => ?_) K6 g6 K11 g11 0) K12 g12
    have h : (if x < m then some (PD.t x) else none) = some d := h
    split at h
    · rename_i hx
      (have zz := Option.some.inj h; clear h; subst zz)
      obtain ⟨h1, n, h2, h3⟩ := tok_facts k hk x (by lia) (by lia)
      exact ⟨_, n, h1, h2, h3⟩
    · exact nS h
  refine xEAAA K12.obj ?_; intro o12 hd12 hT1 hT2 ho12
  have fa : FnAddr H 12 := ⟨a12, g12, o12, fd12, hd12, fun s I => I.keep _ _ hT1 hT2 ho12⟩
  refine UserOk.family fa fun (xs : List DV) (d : DV) h => ?_
  refine oC_i h fun x r q h => oS_i h fun s q1 h => I2_i h fun B E q2 h => ?_
  subst q2; subst q1; subst q
  refine ifS h ?_; clear h; intro hbits h
  · refine ifC h (fun hs h' => ?_) (fun hn h1 => ifS h1 fun hs h' => ?_)
    · ·
        clear h; (refine xEA hs ?_; clear hs; rintro k hk rfl)
        (have zz := Option.some.inj h'; clear h'; subst zz)
        refine ⟨pDom (peT k B E hbits.1 hbits.2), F12 (peT k B E hbits.1 hbits.2) 3, [.str [0, 1, 2], .int (PD.p pB), .int (PD.p pE)], .list (pvs WP2), main k 3 hk B E hbits.1 hbits.2 (by lia) (by lia), w2_eval _, ?_, ?_⟩
        · show ([.str [chrK k 0, chrK k 1, chrK k 2], .int (pDen B E pB), .int (pDen B E pE)] : List DV) = intDom.dvs _
          rw [pden_B, pden_E, sign3 k hk]
          exact (dvs_id _).symm
        · show PV.list ((pDom (peT k B E hbits.1 hbits.2)).dvs (pvs WP2)) = intDom.dv _
          rw [pvs_dv]
          exact (denD _).symm
    · · ·
          clear h h1; (refine xEA hs ?_; clear hs; rintro k hk rfl)
          (have zz := Option.some.inj h'; clear h'; subst zz)
          refine ⟨pDom (peT k B E hbits.1 hbits.2), F12 (peT k B E hbits.1 hbits.2) 4, [.str [0, 1, 2, 3], .int (PD.p pB), .int (PD.p pE)], .list (pvs WP3), main k 4 (by lia) B E hbits.1 hbits.2 (by lia) (by lia), w3_eval _, ?_, ?_⟩
          · show ([.str [chrK k 0, chrK k 1, chrK k 2, chrK k 3], .int (pDen B E pB), .int (pDen B E pE)] : List DV) = intDom.dvs _
            rw [pden_B, pden_E, sign4 k hk]
            exact (dvs_id _).symm
          · show PV.list ((pDom (peT k B E hbits.1 hbits.2)).dvs (pvs WP3)) = intDom.dv _
            rw [pvs_dv]
            exact (denD _).symm
open Classical in
noncomputable def flI (xs : List DV) : Option DV := oC xs fun x r => oL x fun t => oC r fun x r => oL x fun ws => I2 r fun B E => if Builtin.Int.intBits B ≤ 4400 ∧ Builtin.Int.intBits E ≤ 65 then
      (if t = txs TX2 ∧ ws = WP2.map (fun q => .int (pDen B E q)) then some (.tuple [.list (OP2.map fun q => .int (pDen B E q)), .list (IP2.map fun q => .int (pDen B E q))])
      else if t = txs TX3 ∧ ws = WP3.map (fun q => .int (pDen B E q)) then some (.tuple [.list (OP3.map fun q => .int (pDen B E q)), .list (IP3.map fun q => .int (pDen B E q))]) else none) else none
open Classical in
noncomputable def onI (xs : List DV) : Option DV := o2 xs fun x y => oS x fun t => oI y fun c => if ∃ c' : Nat, c = (c' : Int) ∧ ((t ∈ TX2 ∧ c' < 2) ∨ (t ∈ TX3 ∧ c' < 3)) then some (.bool true) else none
theorem noTok {v : Bool} {e : PE v} : ∀ x d, tN e x = some d → ∃ k n : Nat, sgn[k]? = some (e.chr x) ∧ sgnN[k]? = some n ∧ dDen e d = (n : Int) := fun _ _ h => by exact nS h
theorem txs_dv (B E : Int) (hB : Builtin.Int.intBits B ≤ 4400) (hE : Builtin.Int.intBits E ≤ 65) (l : List (List Nat)) : (pDom (peF B E hB hE)).dvs (txs l) = txs l := by
  have h : ∀ l : List (List Nat), PV.denL (dDen (peF B E hB hE)) (fun n => n) (txs l) = txs l := fun l => by
    induction l with
    | nil => rfl
    | cons q l ih => show PV.str (q.map fun n => n) :: PV.denL _ _ (txs l) = _; rw [ih]; simp
  exact h l
open Classical in
theorem flows_ok {a6 a11 a13 a14 : Addr} {fd6 fd11 fd13 fd14 : FuncData} (b : Base prog w H) (K6 : FnOk H a6 fd6 nm_ellipsis_match 2 ir_ellipsis_match) (g6 : GlobIs H (ufName 6) (.ref a6)) (K11 : FnOk H a11 fd11 nm_law_rows 1 ir_law_rows) (g11 : GlobIs H (ufName 11) (.ref a11))
    (K13 : FnOk H a13 fd13 nm_law_steps 3 ir_law_steps) (g13 : GlobIs H (ufName 13) (.ref a13)) (K14 : FnOk H a14 fd14 nm_law_flows 4 ir_law_flows) (g14 : GlobIs H (ufName 14) (.ref a14)) : UserOk prog w intDom H 3 14 flI := by
  have main : ∀ (B E : Int) (hB : Builtin.Int.intBits B ≤ 4400) (hE : Builtin.Int.intBits E ≤ 65), UserOk prog w (pDom (peF B E hB hE)) H 3 14 (F14 (peF B E hB hE)) := by
    intro B E hB hE
    have s13 : UserOk prog w (pDom (peF B E hB hE)) H 2 13 (F13 (peF B E hB hE)) := fun_ok (r := 1) (cxB b noTok K6 g6 K11 g11 0) K13 g13
    refine fun_ok (r := 2) (b.cxT (dm := pDom (peF B E hB hE)) noTok fun f hf => ?_) K14 g14
    by_cases h13 : f = 13
    · subst h13; exact s13.sub fun xs d h => by
        have h : (if (13 : Nat) = 13 then F13 _ xs else none) = some d := h
        rwa [if_pos rfl] at h
    · refine xEE hf ?_; clear hf; intro xs d h
      have h : (if f = 13 then F13 _ xs else none) = some d := h
      rw [if_neg h13] at h
      exact nS h
  refine xEAAA K14.obj ?_; intro o hd hT1 hT2 ho
  have fa : FnAddr H 14 := ⟨a14, g14, o, fd14, hd, fun s I => I.keep _ _ hT1 hT2 ho⟩
  refine UserOk.family fa fun (xs : List DV) (d : DV) h => ?_
  refine oC_i h fun x r q h => oL_i h fun t q1 h => oC_i h fun x r q2 h => oL_i h fun ws q3 h => I2_i h fun B E q4 h => ?_
  subst q4; subst q3; subst q2; subst q1; subst q
  refine ifS h ?_; clear h; intro hbits h
  · refine ifC h (fun hs h' => ?_) (fun hn h1 => ifS h1 fun hs h' => ?_)
    · ·
        clear h; (refine xA hs ?_; clear hs; rintro rfl rfl)
        (have zz := Option.some.inj h'; clear h'; subst zz)
        refine ⟨pDom (peF B E hbits.1 hbits.2), F14 (peF B E hbits.1 hbits.2), [.list (txs TX2), .list (pvs WP2), .int (PD.p pB), .int (PD.p pE)], .tuple [.list (pvs OP2), .list (pvs IP2)], main B E hbits.1 hbits.2, fl2_eval _, ?_, ?_⟩
        · show ([.list ((pDom (peF B E hbits.1 hbits.2)).dvs (txs TX2)), .list ((pDom (peF B E hbits.1 hbits.2)).dvs (pvs WP2)), .int (pDen B E pB), .int (pDen B E pE)] : List DV) = intDom.dvs _
          rw [pden_B, pden_E, pvs_dv, txs_dv]
          exact (dvs_id _).symm
        · show PV.tuple [.list ((pDom (peF B E hbits.1 hbits.2)).dvs (pvs OP2)), .list ((pDom (peF B E hbits.1 hbits.2)).dvs (pvs IP2))] = intDom.dv _
          rw [pvs_dv, pvs_dv]
          exact (denD _).symm
    · · ·
          clear h h1; (refine xA hs ?_; clear hs; rintro rfl rfl)
          (have zz := Option.some.inj h'; clear h'; subst zz)
          refine ⟨pDom (peF B E hbits.1 hbits.2), F14 (peF B E hbits.1 hbits.2), [.list (txs TX3), .list (pvs WP3), .int (PD.p pB), .int (PD.p pE)], .tuple [.list (pvs OP3), .list (pvs IP3)], main B E hbits.1 hbits.2, fl3_eval _, ?_, ?_⟩
          · show ([.list ((pDom (peF B E hbits.1 hbits.2)).dvs (txs TX3)), .list ((pDom (peF B E hbits.1 hbits.2)).dvs (pvs WP3)), .int (pDen B E pB), .int (pDen B E pE)] : List DV) = intDom.dvs _
            rw [pden_B, pden_E, pvs_dv, txs_dv]
            exact (dvs_id _).symm
          · show PV.tuple [.list ((pDom (peF B E hbits.1 hbits.2)).dvs (pvs OP3)), .list ((pDom (peF B E hbits.1 hbits.2)).dvs (pvs IP3))] = intDom.dv _
            rw [pvs_dv, pvs_dv]
            exact (denD _).symm
open Classical in
theorem once_ok {a6 a11 a16 : Addr} {fd6 fd11 fd16 : FuncData} (b : Base prog w H) (K6 : FnOk H a6 fd6 nm_ellipsis_match 2 ir_ellipsis_match) (g6 : GlobIs H (ufName 6) (.ref a6)) (K11 : FnOk H a11 fd11 nm_law_rows 1 ir_law_rows) (g11 : GlobIs H (ufName 11) (.ref a11))
    (K16 : FnOk H a16 fd16 nm_law_once 2 ir_law_once) (g16 : GlobIs H (ufName 16) (.ref a16)) : UserOk prog w intDom H 2 16 onI := by
  have main : UserOk prog w (pDom (peF 0 0 (by decide) (by decide))) H 2 16 (F16 (peF 0 0 (by decide) (by decide))) := fun_ok (r := 1) (cxB b noTok K6 g6 K11 g11 0) K16 g16
  refine UserOk.family main.addr fun (xs : List DV) (d : DV) h => ?_
  refine o2_i h fun x y q h => oS_i h fun t q1 h => oI_i h fun c q2 h => ?_
  subst q2; subst q1; subst q
  refine ifS h ?_; clear h; rintro ⟨c', rfl, hs⟩ h; (have zz := Option.some.inj h; clear h; subst zz)
  · ·
      refine ⟨pDom (peF 0 0 (by decide) (by decide)), F16 (peF 0 0 (by decide) (by decide)), [.str t, .int (PD.p (pLit (c' : Int)))], .bool true, main, ?_, ?_, rfl⟩
      · rcases hs with ⟨h1, h2⟩ | ⟨h1, h2⟩
        · exact once2_eval _ t h1 c' h2
        · exact once3_eval _ t h1 c' h2
      · show ([.str (t.map fun n => n), .int (pDen 0 0 (pLit (c' : Int)))] : List DV) = intDom.dvs _
        rw [pDen_lit]
        simp
        exact (dvs_id _).symm
end
noncomputable def HasF (H : Heap) (f : Nat) (nm : Names) (np : Nat) (l : List St) : Prop := ∃ (a : Addr) (fd : FuncData), FnOk H a fd nm np l ∧ GlobIs H (ufName f) (.ref a)
section
variable {prog : Program} {w : World} {H : Heap} {dm : Dom}
theorem HasF.ok {f np N wf n r : Nat} {nm : Names} {l : List St} {tab : Nat → List dm.V → Option dm.V} (b : Base prog w H) (h : HasF H f nm np l) (hu : ∀ f, (∃ xs d, tab f xs = some d) → UserOk prog w dm H r f (tab f)) : UserOk prog w dm H (r + 1) f (runF (ev dm tab (fun _ => none) N) wf n nm np l) := by
  refine xEEA h ?_; clear h; intro a fd K G
  exact fun_ok (b.cx hu) K G
noncomputable def tabL {V : Type} : List (Nat × (List V → Option V)) → Nat → List V → Option V
  | [], _, _ => none
  | (g, F) :: l, f, xs => if f = g then F xs else tabL l f xs
theorem tabL_ok {r : Nat} : ∀ {l : List (Nat × (List dm.V → Option dm.V))}, (∀ x ∈ l, UserOk prog w dm H r x.1 x.2) → ∀ f, (∃ xs d, tabL l f xs = some d) → UserOk prog w dm H r f (tabL l f)
  | [], _, f, ⟨xs, d, h⟩ => by exact nS h
  | (g, F) :: l, hl, f, ⟨xs, d, h⟩ => by
    by_cases q : f = g
    · subst q
      exact (hl _ List.mem_cons_self).sub fun xs d h => by
        unfold tabL at h; rwa [if_pos rfl] at h
    · unfold tabL at h
      rw [if_neg q] at h
      exact (tabL_ok (fun x hx => hl x (List.mem_cons_of_mem _ hx)) f ⟨xs, d, h⟩).sub fun xs d h => by
        unfold tabL at h; rwa [if_neg q] at h
theorem div_tower (b : Base prog w H) (f0 : HasF H 0 nm_div2n1n 3 ir_div2n1n) (f1 : HasF H 1 nm_div3n2n 6 ir_div3n2n) (f4 : HasF H 4 nm_divmod_pos 2 ir_divmod_pos) (f5 : HasF H 5 nm_int_divmod 2 ir_int_divmod) (U2 : UserOk prog w intDom H 23 2 i2dC) (U3 : UserOk prog w intDom H 23 3 d2iC) : UserOk prog w intDom H 27 5 divI2 := by
  have u0 : UserOk prog w intDom H 1 0 div0 := (f0.ok (N := 8) (wf := 3) (n := 6) (tab := tabL []) b (tabL_ok fun x h => by cases h)).sub fun xs d h => div0_run h
  have u1 : UserOk prog w intDom H 2 1 div3 := (f1.ok (N := 8) (wf := 3) (n := 6) (tab := tabL [(0, div0)]) b (tabL_ok fun x h => by
    rcases List.mem_singleton.mp h with rfl; exact u0)).sub fun xs d h => div3_run (fun _ _ h => h) h
  have u2 : UserOk prog w intDom H 3 0 div2 := (f0.ok (N := 8) (wf := 3) (n := 6) (tab := tabL [(1, div3)]) b (tabL_ok fun x h => by
    rcases List.mem_singleton.mp h with rfl; exact u1)).sub fun xs d h => div2_run (fun _ _ h => h) h
  have u3 : UserOk prog w intDom H 24 4 divP := (f4.ok (N := 8) (wf := 3) (n := 6) (tab := tabL [(0, div2), (2, i2dC), (3, d2iC)]) b (tabL_ok fun x h => by
    simp only [List.mem_cons, List.not_mem_nil, or_false] at h
    rcases h with rfl | rfl | rfl
    · exact u2.mono (by lia)
    · exact U2
    · exact U3)).sub fun xs d h => divP_run (fun _ _ h => h) (fun _ _ h => h) (fun _ _ h => h) h
  have u4 : UserOk prog w intDom H 25 5 divI0 := (f5.ok (N := 8) (wf := 3) (n := 6) (tab := tabL [(4, divP)]) b (tabL_ok fun x h => by
    rcases List.mem_singleton.mp h with rfl; exact u3)).sub fun xs d h => divI0_run (fun _ _ h => h) h
  have u5 : UserOk prog w intDom H 26 5 divI1 := (f5.ok (N := 8) (wf := 3) (n := 6) (tab := tabL [(4, divP), (5, divI0)]) b (tabL_ok fun x h => by
    simp only [List.mem_cons, List.not_mem_nil, or_false] at h
    rcases h with rfl | rfl
    · exact u3.mono (by lia)
    · exact u4)).sub fun xs d h => divI1_run (fun _ _ h => h) (fun _ _ h => h) h
  have u6 : UserOk prog w intDom H 26 5 (fun xs => match divI1 xs with | some d => some d | none => divI0 xs) := by
    refine xEAA u5.ok ?_; intro a G ho k
    refine xEAA ((u4.mono (Nat.le_succ 25)).ok) ?_; intro a' G' ho' k'
    cases glob_fun G G'
    refine ⟨a, G, ho, fun xs d h => ?_⟩
    have h : (match divI1 xs with | some d => some d | none => divI0 xs) = some d := h
    split at h
    · rename_i d' e
      (have zz := Option.some.inj h; clear h; subst zz)
      exact k xs _ e
    · exact k' xs d h
  have h01 : ∀ xs d, divI0 xs = some d → (match divI1 xs with | some d => some d | none => divI0 xs) = some d := fun xs d h => by
    split
    · rename_i d' e
      refine I2_i h ?_; clear h; rintro a b rfl h
      refine ifS h ?_; clear h; rintro _ h
      exact ifS (show (if 0 < b ∧ Builtin.Int.intBits b ≤ 7000 ∧ Builtin.Int.intBits a ≤ 450000 then some (fdm a b) else none) = some d' from e) fun _ e => e.symm.trans h
    · exact h
  exact (f5.ok (N := 8) (wf := 3) (n := 6) (tab := tabL [(4, divP), (5, fun xs => match divI1 xs with | some d => some d | none => divI0 xs)]) b (tabL_ok fun x h => by
    simp only [List.mem_cons, List.not_mem_nil, or_false] at h
    rcases h with rfl | rfl
    · exact u3.mono (by lia)
    · exact u6)).sub fun xs d h => divI2_run (fun _ _ h => h) (fun xs d h => by
      show (match divI1 xs with | some d => some d | none => divI0 xs) = some d
      rw [h]) (fun xs d h => h01 xs d h) h
end
noncomputable def ba_body : List St := [.asg 8 ⟨247, 8, 247, 12⟩ (.bin (.var 3 ⟨247, 15, 247, 19⟩) .Mod (.sub (.var 0 ⟨247, 22, 247, 25⟩) (.var 7 ⟨247, 26, 247, 27⟩) ⟨247, 22, 247, 28⟩) ⟨247, 15, 247, 28⟩) ⟨247, 8, 247, 28⟩,
    .ite (.cmp (.user 5 [(.bin (.bin (.var 5 ⟨248, 22, 248, 26⟩) .Mult (.sub (.var 1 ⟨248, 29, 248, 33⟩) (.var 7 ⟨248, 34, 248, 35⟩) ⟨248, 29, 248, 36⟩) ⟨248, 22, 248, 36⟩) .Add (.bin (.var 6 ⟨248, 39, 248, 44⟩) .Mult (.var 8 ⟨248, 47, 248, 51⟩) ⟨248, 39, 248, 51⟩) ⟨248, 22, 248, 51⟩), (.bin (.var 6 ⟨248, 53, 248, 58⟩) .Mult (.sub (.var 0 ⟨248, 61, 248, 64⟩) (.var 7 ⟨248, 65, 248, 66⟩) ⟨248, 61, 248, 67⟩) ⟨248, 53, 248, 67⟩)] ⟨248, 11, 248, 21⟩ ⟨248, 11, 248, 68⟩) .NotEq (.tup [(.bin (.bin (.var 5 ⟨248, 73, 248, 77⟩) .Mult (.var 6 ⟨248, 80, 248, 85⟩) ⟨248, 73, 248, 85⟩) .Mult (.sub (.var 2 ⟨248, 88, 248, 95⟩) (.var 7 ⟨248, 96, 248, 97⟩) ⟨248, 88, 248, 98⟩) ⟨248, 73, 248, 98⟩), (.bin (.var 6 ⟨248, 100, 248, 105⟩) .Mult (.var 8 ⟨248, 108, 248, 112⟩) ⟨248, 100, 248, 112⟩)] 0 ⟨248, 72, 248, 113⟩) ⟨248, 11, 248, 113⟩) [.ret (.bool false 0 ⟨249, 19, 249, 24⟩) ⟨249, 12, 249, 24⟩] [] ⟨248, 8, 249, 24⟩]
noncomputable abbrev intsL (xs : List Int) : DV := .list (xs.map PV.int)
noncomputable def balOk (os is ws : List Int) : Prop := os.length = ws.length ∧ is.length = ws.length ∧ ws.length ≤ 8 ∧ ∀ (k : Nat) (o i w : Int), os[k]? = some o → is[k]? = some i → ws[k]? = some w → 0 < o ∧ i = w * o ∧ Builtin.Int.intBits o ≤ 5000 ∧ Builtin.Int.intBits i ≤ 400000 ∧ Builtin.Int.intBits w ≤ 400000
open Classical in
noncomputable def baI (xs : List DV) : Option DV := oC xs fun O r => oC r fun I r => oC r fun W r => I2 r fun _ _ => if ∃ os is ws, O = intsL os ∧ I = intsL is ∧ W = intsL ws ∧ balOk os is ws then some (.bool true) else none
noncomputable def sg2 (x : Int) : Int := 1 - x.fmod 2 * 2
theorem sg2_ok (x : Int) : sg2 x = 1 ∨ sg2 x = -1 := by
  have h1 := Int.fmod_nonneg_of_pos x (show (0 : Int) < 2 by decide)
  have h2 := Int.fmod_lt_of_pos x (show (0 : Int) < 2 by decide)
  unfold sg2; lia
theorem bal_div {ov un w o l : Int} (ho : 0 < o) (h1 : ov = 1 ∨ ov = -1) (h2 : un = 1 ∨ un = -1) : (ov * (w * o) + un * l.fmod o).fdiv (un * o) = ov * un * w ∧ (ov * (w * o) + un * l.fmod o).fmod (un * o) = un * l.fmod o := by
  have m1 := Int.fmod_nonneg_of_pos l ho
  have m2 := Int.fmod_lt_of_pos l ho
  rcases h2 with rfl | rfl
  · refine (Int.fdiv_fmod_unique (by lia)).mpr ⟨?_, by lia, by lia⟩
    grind
  · refine (Int.fdiv_fmod_unique' (by lia)).mpr ⟨?_, by lia, by lia⟩
    grind
theorem bits_add {a b : Int} {m : Nat} (h1 : Builtin.Int.intBits a ≤ m) (h2 : Builtin.Int.intBits b ≤ m) : Builtin.Int.intBits (a + b) ≤ m + 1 := by
  have h1 := intBits_le_iff.mp h1
  have h2 := intBits_le_iff.mp h2
  refine intBits_le_iff.mpr ?_
  rw [Nat.pow_succ]
  lia
theorem bits_sgn {s a : Int} (h : s = 1 ∨ s = -1) : Builtin.Int.intBits (s * a) = Builtin.Int.intBits a := by
  rcases h with rfl | rfl
  · rw [Int.one_mul]
  · rw [Int.neg_one_mul, bits_neg]
theorem bits_fmod {l o : Int} (ho : 0 < o) : Builtin.Int.intBits (l.fmod o) ≤ Builtin.Int.intBits o := by
  have m1 := Int.fmod_nonneg_of_pos l ho
  have m2 := Int.fmod_lt_of_pos l ho
  have := intBits_le_iff.mp (Nat.le_refl (Builtin.Int.intBits o))
  exact intBits_le_iff.mpr (by lia)
theorem sgn_bits {s : Int} (h : s = 1 ∨ s = -1) : Builtin.Int.intBits s ≤ 1 := by
  rcases h with rfl | rfl <;> decide
section
variable {tab : Nat → List intDom.V → Option intDom.V} {tok : Nat → Option intDom.D}
theorem ev_cmpV {n : Nat} {ρ : List (Option intDom.V)} {a b : Ix} {x y : DV} {op : CmpOp} {p : Pos} {c : Bool} (ha : ev intDom tab tok n false a ρ = some x) (hb : ev intDom tab tok n false b ρ = some y) (hc : cmpP intDom op x y = some c) : ev intDom tab tok (n + 1) true (.cmp a op b p) ρ = some (.bool c) := by
  show (ev intDom tab tok n false a ρ).bind (fun x => (ev intDom tab tok n false b ρ).bind fun y => (cmpP intDom op x y).map PV.bool) = _
  rw [ha, hb]
  show (cmpP intDom op x y).map PV.bool = _
  rw [hc]; rfl
theorem ev_sub {n : Nat} {ρ : List (Option intDom.V)} {a b : Ix} {xs : List Int} {k : Nat} {x : Int} {p : Pos} (ha : ev intDom tab tok n false a ρ = some (intsL xs)) (hb : ev intDom tab tok n false b ρ = some (.int (k : Int))) (hk : k ≤ 1000000000) (h : xs[k]? = some x) : ev intDom tab tok (n + 1) false (.sub a b p) ρ = some (.int x) := by
  show (ev intDom tab tok n false a ρ).bind (fun x => (ev intDom tab tok n false b ρ).bind fun y => getP intDom x y) = _
  rw [ha, hb]
  have hm : (xs.map PV.int : List DV)[k]? = some (.int x) := by rw [List.getElem?_map, h]; rfl
  exact getP_list hk hm
noncomputable abbrev ρb (O I W : DV) (l s ov un : Int) (k r : Option intDom.V) : List (Option intDom.V) := [some O, some I, some W, some (.int l), some (.int s), some (.int ov), some (.int un), k, r, none, none, none]
noncomputable abbrev N12 : List (Option (List intDom.V)) := [none, none, none, none, none, none, none, none, none, none, none, none]
theorem mod_int {a b : Int} (h : b ≠ 0) : intBin .Mod a b = some (a.fmod b) := if_neg h
theorem fdiv_int {a b : Int} (h : b ≠ 0) (hb : Builtin.Int.intBits b ≤ 9000) : intBin .FloorDiv a b = some (a.fdiv b) := by
  show (if b = 0 ∨ _ then _ else _) = _
  rw [if_neg]
  rw [noPylong hb]
  simp [h]
set_option maxHeartbeats 4000000 in
theorem bal_step (h5 : ∀ xs d, divI2 xs = some d → tab 5 xs = some d) {os is ws : List Int} {l s ov un : Int} (h1 : ov = 1 ∨ ov = -1) (h2 : un = 1 ∨ un = -1) (hok : balOk os is ws) {k : Nat} (hk : k < ws.length) {r : Option intDom.V} :
    ∃ r', sx (ev intDom tab tok 8) 3 5 ba_body (ρb (intsL os) (intsL is) (intsL ws) l s ov un (some (.int (k : Int))) r, N12) = some (.next (ρb (intsL os) (intsL is) (intsL ws) l s ov un (some (.int (k : Int))) r', N12)) := by
  refine xAAA hok ?_; clear hok; intro e1 e2 e3 hall
  have ho : os[k]? = some os[k] := List.getElem?_eq_getElem (by lia)
  have hi : is[k]? = some is[k] := List.getElem?_eq_getElem (by lia)
  have hw : ws[k]? = some ws[k] := List.getElem?_eq_getElem hk
  generalize os[k] = o at ho
  generalize is[k] = i at hi
  generalize ws[k] = w at hw
  refine xAAAA (hall k o i w ho hi hw) ?_; intro q1 q2 q3 q4 q5
  have hk9 : k ≤ 1000000000 := by lia
  refine xA (bal_div (w := w) (l := l) q1 h1 h2) ?_; intro d1 d2
  have bm := bits_fmod (l := l) q1
  refine ⟨some (.int (l.fmod o)), ?_⟩
  refine sx_cons_next (sx_asg (d := .int (l.fmod o)) rfl (ev_binI (ev_var rfl) (ev_sub (k := k) (ev_var rfl) (ev_var rfl) hk9 ho) (mod_int (by lia))) rfl) ?_
  refine sx_cons_next (sx_ite (c := false) (ev_cmpV (x := fdm (ov * i + un * l.fmod o) (un * o)) (y := .tuple [.int (ov * un * w), .int (un * l.fmod o)]) (ev_user (vs := [.int (ov * i + un * l.fmod o), .int (un * o)]) (evL_cons (ev_binI (ev_binI (ev_var rfl) (ev_sub (k := k) (ev_var rfl) (ev_var rfl) hk9 hi) (mul_int' (mulOk_bits ?_))) (ev_binI (ev_var rfl) (ev_var rfl) (mul_int' (mulOk_bits ?_))) rfl) (evL_cons (ev_binI (ev_var rfl) (ev_sub (k := k) (ev_var rfl) (ev_var rfl) hk9 ho) (mul_int' (mulOk_bits ?_))) rfl)) (h5 _ _ ?_)) (ev_tup (evL_cons (ev_binI (ev_binI (ev_var rfl) (ev_var rfl) (mul_int' (mulOk_bits ?_))) (ev_sub (k := k) (ev_var rfl) (ev_var rfl) hk9 hw) (mul_int' (mulOk_bits ?_))) (evL_cons (ev_binI (ev_var rfl) (ev_var rfl) (mul_int' (mulOk_bits ?_))) rfl)) (show 2 ≤ 16777216 by decide)) ?_) rfl) rfl
  · have := sgn_bits h1; lia
  · have := sgn_bits h2; lia
  · have := sgn_bits h2; lia
  · show (if un * o ≠ 0 ∧ _ then _ else none) = _
    have b1 := bits_sgn (a := i) h1
    have b2 := bits_sgn (a := l.fmod o) h2
    have b3 := bits_sgn (a := o) h2
    have b4 : Builtin.Int.intBits (ov * i + un * l.fmod o) ≤ 400001 := bits_add (by lia) (by lia)
    rw [if_pos ⟨by rcases h2 with rfl | rfl <;> lia, by lia, by lia⟩]
  · have := sgn_bits h1; have := sgn_bits h2; lia
  · have := bits_sgn (a := un) h1; have := sgn_bits h2; lia
  · have := sgn_bits h2; lia
  · unfold fdm
    rw [q2, d1, d2]
    show some (!decide (_ = _)) = _
    rw [decide_eq_true rfl]; rfl
theorem bal_loop (h5 : ∀ xs d, divI2 xs = some d → tab 5 xs = some d) {os is ws : List Int} {l s ov un : Int} (h1 : ov = 1 ∨ ov = -1) (h2 : un = 1 ∨ un = -1) (hok : balOk os is ws) {p : Pos} : ∀ (m k : Nat) (o7 o8 : Option intDom.V), k + m = ws.length →
    ∃ o7' o8', forL (sx (ev intDom tab tok 8) 3 5 ba_body) (.one 7 p) ((List.range' k m).map fun (j : Nat) => .int (j : Int)) (ρb (intsL os) (intsL is) (intsL ws) l s ov un o7 o8, N12) = some (.next (ρb (intsL os) (intsL is) (intsL ws) l s ov un o7' o8', N12)) := by
  intro m
  induction m with
  | zero => intro k o7 o8 _; exact ⟨o7, o8, rfl⟩
  | succ m ih =>
    intro k o7 o8 hk
    refine xE (bal_step (tok := tok) h5 (l := l) (s := s) h1 h2 hok (k := k) (by lia) (r := o8)) ?_; intro r' hs
    refine xEE (ih (k + 1) (some (.int (k : Int))) r' (by lia)) ?_; intro a b hr
    refine ⟨a, b, ?_⟩
    rw [List.range'_succ, List.map_cons]
    exact (forL_one (σ1 := (ρb (intsL os) (intsL is) (intsL ws) l s ov un (some (.int (k : Int))) o8, N12)) rfl hs).trans hr
theorem range_it (n : Nat) : (rangeL 0 (n : Int)).map (dmInt intDom) = (List.range' 0 n).map fun (j : Nat) => (PV.int (j : Int) : intDom.V) := by
  unfold rangeL
  rw [List.map_map, List.range_eq_range', show ((n : Int) - 0).toNat = n by lia]
  refine List.map_congr_left fun k _ => ?_
  show PV.int (0 + (k : Int)) = _
  rw [Int.zero_add]; rfl
open Classical in
theorem bal_run (h5 : ∀ xs d, divI2 xs = some d → tab 5 xs = some d) {xs : List DV} {d : DV} (h : baI xs = some d) : runF (ev intDom tab tok 8) 3 6 nm_law_balanced 5 ir_law_balanced xs = some d := by
  refine oC_i h fun O r q h => oC_i h fun I r q1 h => oC_i h fun W r q2 h => I2_i h fun l s q3 h => ?_
  subst q3; subst q2; subst q1; subst q
  refine ifS h ?_; clear h; rintro ⟨os, is, ws, rfl, rfl, rfl, hok⟩ h; (have zz := Option.some.inj h; clear h; subst zz)
  · ·
      have m2 : ∀ x : Int, 0 ≤ x.fmod 2 ∧ x.fmod 2 < 2 := fun x => ⟨Int.fmod_nonneg_of_pos x (by decide), Int.fmod_lt_of_pos x (by decide)⟩
      have ms : ∀ x : Int, intBin .Mult (x.fmod 2) 2 = some (x.fmod 2 * 2) := fun x => mul_int' (mulOk_small (by have := m2 x; lia))
      refine xEE (bal_loop (tok := tok) h5 (l := l) (s := s) (sg2_ok s) (sg2_ok (s.fdiv 2)) hok (p := ⟨246, 8, 246, 9⟩) ws.length 0 none none (by lia)) ?_; intro a b hl
      refine runF_of rfl ?_
      refine sx_cons_next (sx_asgT (vs := [.int (sg2 s), .int (sg2 (s.fdiv 2))]) (evL_cons (ev_binI (y := s.fmod 2 * 2) rfl (ev_binI (x := s.fmod 2) (ev_binI (ev_var rfl) rfl (mod_int (b := 2) (by decide))) rfl (ms s)) rfl) (evL_cons (ev_binI (y := (s.fdiv 2).fmod 2 * 2) rfl (ev_binI (x := (s.fdiv 2).fmod 2) (ev_binI (x := s.fdiv 2) (ev_binI (ev_var rfl) rfl (fdiv_int (b := 2) (by decide) (by decide))) rfl (mod_int (b := 2) (by decide))) rfl (ms (s.fdiv 2))) rfl) rfl)) rfl rfl) ?_
      have hlen : lenP intDom (intsL ws) = some (.int ((ws.length : Nat) : Int)) := by
        show (if (ws.map PV.int : List DV).length ≤ fitLen then some (PV.int (((ws.map PV.int : List DV).length : Nat) : Int) : DV) else none) = _
        rw [if_pos (by rw [List.length_map]; have := hok.2.2.1; unfold fitLen; lia), List.length_map]; rfl
      have hr : rangeV (dm := intDom) [.int ((ws.length : Nat) : Int)] = some ((rangeL 0 (ws.length : Int)).map (dmInt intDom)) := if_pos (by
        have := hok.2.2.1
        unfold fitR
        rw [Bool.and_eq_true, decide_eq_true_eq, decide_eq_true_eq]
        lia)
      have hev : ev intDom tab tok 7 false (.fn .len [(.var 2 ⟨246, 23, 246, 30⟩)] ⟨246, 19, 246, 22⟩ ⟨246, 19, 246, 31⟩) (ρb (intsL os) (intsL is) (intsL ws) l s (sg2 s) (sg2 (s.fdiv 2)) none none) = some (.int ((ws.length : Nat) : Int)) := hlen
      refine sx_cons_next (σ' := (ρb (intsL os) (intsL is) (intsL ws) l s (sg2 s) (sg2 (s.fdiv 2)) a b, N12)) (sx_for (evI_some (xs := (rangeL 0 (ws.length : Int)).map (dmInt intDom)) ?_) ?_) (sx_cons_ret (sx_ret rfl))
      · show (evL (fun e => ev intDom tab tok 8 false e _) [_]).bind (rangeV (dm := intDom)) = _
        rw [evL_cons (vs := []) (v := .int ((ws.length : Nat) : Int)) hlen rfl]
        exact hr
      · rw [range_it]; exact hl
end
noncomputable def sxZ {dm : Dom} (evn : Ev dm) (wf n : Nat) : Nat → List St → Sg dm → Option (Out dm)
  | 0, l, σ => sx evn wf n l (frozen σ)
  | _ + 1, [], σ => some (.next σ)
  | k + 1, st :: l, σ => (sxStep evn wf (sx evn wf n) st σ).bind fun o => (match o with | .next σ' => sxZ evn wf n k l σ' | .ret d => some (.ret d))
noncomputable def runZ {dm : Dom} (evn : Ev dm) (wf n k : Nat) (nm : Names) (np : Nat) (l : List St) (xs : List dm.V) : Option dm.V :=
  if xs.length = np then (match sxZ evn wf n k l (sg0 dm nm xs) with | some (.ret d) => some d | _ => none) else none
section
variable {prog : Program} {w : World} {dm : Dom} {H : Heap} {tab : Nat → List dm.V → Option dm.V} {tok : Nat → Option dm.D} {r : Nat} {A : Around} {s : Shared} {env : Env} {nm : Names} {N wf n : Nat} {B : Nat}
theorem sxZ_ok (K : Cx prog w dm H tab tok r) (R : Room r A) : ∀ (k : Nat) (l : List St) (σ : Sg dm) (o : Out dm) (P W : Addr → Prop) (s : Shared), wfS nm l = true → sxZ (ev dm tab tok N) wf n k l σ = some o → SI dm H nm env B P W σ s → Ok (model prog w) A (execs (decS nm l) env) (SPost dm H nm env B P W s o) s
  | 0, l, σ, o, P, W, s, hw, he, S => (sx_ok K R n l (frozen σ) o _ _ s hw he S.freeze.1).mono fun fl s' z => z.next (Step.refl _ _) S.freeze.2
  | _ + 1, [], σ, o, P, W, s, _, he, S => by (have zz := Option.some.inj he; clear he; subst zz); exact wpAny_execs_nil ⟨P, W, .refl _ _, .refl _ _ _, S⟩
  | k + 1, st :: l, σ, o, P, W, s, hw, he, S => by
    rw [wfS, Bool.and_eq_true] at hw
    refine xBind he ?_; clear he; intro o1 h1 he
    have key := st_ok K R (fun l σ o P W s hw h S => sx_ok K R n l σ o P W s hw h S) st σ o1 P W s hw.1 h1 S
    rw [decS]
    refine wpAny_execs_cons (key.mono fun fl s₁ z => ?_)
    refine xEEAA z ?_; clear z; intro P' W' y G q
    cases o1 with
    | next σ' =>
      cases fl with
      | next => exact (sxZ_ok K R k l σ' o P' W' s₁ hw.2 he q).mono fun fl s₂ z => z.next y G
      | cont => exact q.elim
      | brk => exact q.elim
      | ret v => exact q.elim
    | ret d =>
      (have zz := Option.some.inj he; clear he; subst zz)
      cases fl with
      | next => exact q.elim
      | cont => exact q.elim
      | brk => exact q.elim
      | ret v => exact ⟨P', W', y, G, q⟩
theorem HasF.okZ {f np N wf n r k : Nat} {nm : Names} {l : List St} {tab : Nat → List dm.V → Option dm.V} (b : Base prog w H) (h : HasF H f nm np l) (hu : ∀ f, (∃ xs d, tab f xs = some d) → UserOk prog w dm H r f (tab f)) : UserOk prog w dm H (r + 1) f (runZ (ev dm tab (fun _ => none) N) wf n k nm np l) := by
  refine xEEA h ?_; clear h; intro a fd K G
  refine fun_core (fun σ o => sxZ (ev dm tab (fun _ => none) N) wf n k l σ = some o) K G (fun xs d he => ?_) fun A env B P W s σ o _ R he S => sxZ_ok (b.cx hu) R k l _ _ P W s K.wf he S
  unfold runZ at he
  have hlen : xs.length = np := by
    by_cases q : xs.length = np
    · exact q
    · rw [if_neg q] at he; exact nS he
  rw [if_pos hlen] at he
  refine ⟨hlen, ?_⟩
  revert he
  cases sxZ (ev dm tab (fun _ => none) N) wf n k l (sg0 dm nm xs) with
  | none => intro he; exact nS he
  | some o => cases o with
    | next σ => intro he; exact nS he
    | ret d' => intro he; (have zz := Option.some.inj he; clear he; subst zz); rfl
end
noncomputable def ca_body : List St := [.augI 1 ⟨203, 8, 203, 13⟩ (.bin (.var 2 ⟨203, 14, 203, 15⟩) .Mod (.int 7 0 ⟨203, 18, 203, 19⟩) ⟨203, 14, 203, 19⟩) ⟨203, 8, 203, 20⟩ .Add (.sub (.var 0 ⟨203, 24, 203, 30⟩) (.var 2 ⟨203, 31, 203, 32⟩) ⟨203, 24, 203, 33⟩) ⟨203, 8, 203, 33⟩]
noncomputable def cellsF (k : Nat) (cs : List Int) : List Int → List Int
  | [] => cs
  | x :: xs => cellsF (k + 1) (cs.set (k % 7) (cs.getD (k % 7) 0 + x)) xs
theorem cellsF_len : ∀ (xs : List Int) (k : Nat) (cs : List Int), (cellsF k cs xs).length = cs.length
  | [], _, _ => rfl
  | x :: xs, k, cs => by rw [cellsF, cellsF_len xs, List.length_set]
noncomputable def cells (xs : List Int) : List Int := cellsF 0 [0, 2, 2, 1, 5, 1, 0] xs
theorem cells_len (xs : List Int) : (cells xs).length = 7 := cellsF_len xs _ _
noncomputable def absI (c : Int) : Int := (c.natAbs : Int)
noncomputable def backOf (c : Int) : Int := if absI c < 2 ^ 64 then absI c else (absI c).fmod (2 ^ 4400)
noncomputable def entryOf (c : Int) : Int := 1 + (absI c).fmod (2 ^ 64)
noncomputable def cellOut (cs : List Int) : DV := .tuple [intsL cs, .int (backOf (cs.getD 1 0)), .int (entryOf (cs.getD 2 0))]
open Classical in
noncomputable def caI (xs : List DV) : Option DV := o1 xs fun x => oA x fun ys => if h : ∃ zs : List Int, ys = zs.map PV.int ∧ zs.length ≤ 63 then some (cellOut (cells h.choose)) else none
theorem map_int_inj : ∀ {a b : List Int}, (a.map PV.int : List DV) = b.map PV.int → a = b
  | [], [], _ => rfl
  | [], _ :: _, h => by cases h
  | _ :: _, [], h => by cases h
  | x :: a, y :: b, h => by
    simp only [List.map_cons, List.cons.injEq, PV.int.injEq] at h
    rw [h.1, map_int_inj h.2]
theorem caI_of {zs : List Int} (h : zs.length ≤ 63) : caI [.arr (zs.map PV.int)] = some (cellOut (cells zs)) := by
  have hx : ∃ is : List Int, (zs.map PV.int : List DV) = is.map PV.int ∧ is.length ≤ 63 := ⟨zs, rfl, h⟩
  refine (dif_pos hx).trans ?_
  rw [← map_int_inj hx.choose_spec.1]
section
variable {tab : Nat → List intDom.V → Option intDom.V} {tok : Nat → Option intDom.D}
theorem getP_arr {xs : List intDom.V} {k : Nat} {d : intDom.V} (hk : k ≤ 1000000000) (h : xs[k]? = some d) : getP intDom (.arr xs) (.int (k : Int)) = some d := by
  show (if fitI (k : Int) = true then ((seqIndex? (k : Int) xs.length).bind (xs[·]?)).bind some else none) = _
  have hl : k < xs.length := (List.getElem?_eq_some_iff.mp h).1
  rw [if_pos (by unfold fitI; simp; lia), seqIndex_nat (by lia) (by lia)]
  show (xs[k]?).bind some = _
  rw [h]; rfl
noncomputable abbrev ρc (xs : DV) (k b e : Option intDom.V) : List (Option intDom.V) := [some xs, none, k, b, e, none, none, none]
noncomputable abbrev Nc (cs : List Int) : List (Option (List intDom.V)) := [none, some (cs.map PV.int), none, none, none, none, none, none]
theorem mod7 (k : Nat) : (k : Int).fmod 7 = ((k % 7 : Nat) : Int) := by
  rw [Int.fmod_eq_emod_of_nonneg _ (by decide)]; rfl
theorem sx_augI {dm : Dom} {evn : Ev dm} {wf : Nat} {σ : Sg dm} {sxr : List St → Sg dm → Option (Out dm)} {i : Nat} {p q r : Pos} {ix e : Ix} {op : Operator} {xs : List dm.V} {kd a b c : dm.D} {k : Int} (h0 : ownAt σ i = some xs) (h1 : evn false ix σ.1 = some (.int kd)) (hv : dm.val kd = some k) (h2 : (decide (0 ≤ k) && decide (k < xs.length) && decide (xs.length ≤ fitLen)) = true)
    (h3 : xs[k.toNat]? = some (.int a)) (h4 : evn false e σ.1 = some (.int b)) (ho : augOp op = true) (hc : dm.bin op a b = some c) : sxStep evn wf sxr (.augI i p ix q op e r) σ = some (.next (setO σ i (xs.set k.toNat (.int c)))) := by
  show (ownAt σ i).bind _ = _
  rw [h0]
  show (evX evn ix σ).bind _ = _
  rw [evX_some h1]
  show (dm.val kd).bind _ = _
  rw [hv]
  show (if _ then _ else _) = _
  rw [if_pos h2]
  show (xs[k.toNat]?).bind _ = _
  rw [h3]
  show (evX evn e σ).bind _ = _
  rw [evX_some h4]
  show (if augOp op = true then _ else _) = _
  rw [if_pos ho, hc]; rfl
theorem ca_step {zs cs : List Int} {k : Nat} {x : Int} (hx : zs[k]? = some x) (hk : k ≤ 1000) (hc : cs.length = 7) :
    sx (ev intDom tab tok 8) 3 5 ca_body (ρc (.arr (zs.map PV.int)) (some (.int (k : Int))) none none, Nc cs) = some (.next (ρc (.arr (zs.map PV.int)) (some (.int (k : Int))) none none, Nc (cs.set (k % 7) (cs.getD (k % 7) 0 + x)))) := by
  refine sx_cons_next ?_ rfl
  have hk7 : k % 7 < 7 := Nat.mod_lt _ (by decide)
  have e1 : ev intDom tab tok 8 false (.bin (.var 2 ⟨203, 14, 203, 15⟩) .Mod (.int 7 0 ⟨203, 18, 203, 19⟩) ⟨203, 14, 203, 19⟩) (ρc (.arr (zs.map PV.int)) (some (.int (k : Int))) none none) = some (.int ((k % 7 : Nat) : Int)) := ev_binI (y := 7) (ev_var rfl) rfl (by rw [mod_int (by decide), mod7])
  have hm : (zs.map PV.int : List DV)[k]? = some (.int x) := by rw [List.getElem?_map, hx]; rfl
  have e2 : ev intDom tab tok 8 false (.sub (.var 0 ⟨203, 24, 203, 30⟩) (.var 2 ⟨203, 31, 203, 32⟩) ⟨203, 24, 203, 33⟩) (ρc (.arr (zs.map PV.int)) (some (.int (k : Int))) none none) = some (.int x) := getP_arr (by lia) hm
  have hl : (cs.map PV.int : List DV).length = 7 := by rw [List.length_map]; exact hc
  have ha : (cs.map PV.int : List DV)[k % 7]? = some (.int (cs.getD (k % 7) 0)) := by
    rw [List.getElem?_map, List.getElem?_eq_getElem (by lia), List.getD_eq_getElem?_getD, List.getElem?_eq_getElem (by lia)]; rfl
  have hcond : (decide (0 ≤ ((k % 7 : Nat) : Int)) && decide (((k % 7 : Nat) : Int) < ((cs.map PV.int : List DV).length : Nat)) && decide ((cs.map PV.int : List DV).length ≤ fitLen)) = true := by
    rw [hl]; simp only [Bool.and_eq_true, decide_eq_true_eq]; unfold fitLen; lia
  have hset : ((cs.map PV.int : List DV).set ((k % 7 : Nat) : Int).toNat (.int (cs.getD (k % 7) 0 + x))) = ((cs.set (k % 7) (cs.getD (k % 7) 0 + x)).map PV.int : List DV) := by rw [Int.toNat_natCast, List.map_set]
  exact (sx_augI (dm := intDom) (xs := (cs.map PV.int : List DV)) (kd := ((k % 7 : Nat) : Int)) (k := ((k % 7 : Nat) : Int)) (a := cs.getD (k % 7) 0) (b := x) (c := cs.getD (k % 7) 0 + x) rfl e1 rfl hcond ha e2 rfl rfl).trans (congrArg (fun (l : List DV) => some (Out.next (dm := intDom) (ρc (.arr (zs.map PV.int)) (some (.int (k : Int))) none none, [none, some l, none, none, none, none, none, none]))) hset)
theorem ca_loop {zs : List Int} {p : Pos} (hl : zs.length ≤ 63) : ∀ (xs pre cs : List Int) (o : Option intDom.V), zs = pre ++ xs → cs.length = 7 →
    ∃ o', forL (sx (ev intDom tab tok 8) 3 5 ca_body) (.one 2 p) ((List.range' pre.length xs.length).map fun (j : Nat) => .int (j : Int)) (ρc (.arr (zs.map PV.int)) o none none, Nc cs) = some (.next (ρc (.arr (zs.map PV.int)) o' none none, Nc (cellsF pre.length cs xs))) := by
  intro xs
  induction xs with
  | nil => intro pre cs o _ _; exact ⟨o, rfl⟩
  | cons x xs ih =>
    intro pre cs o he hc
    have hx : zs[pre.length]? = some x := by rw [he]; simp
    have hp : pre.length < zs.length := (List.getElem?_eq_some_iff.mp hx).1
    have hs := ca_step (tab := tab) (tok := tok) (cs := cs) hx (by lia) hc
    refine xE (ih (pre ++ [x]) (cs.set (pre.length % 7) (cs.getD (pre.length % 7) 0 + x)) (some (.int (pre.length : Int))) (by rw [he]; simp) (by rw [List.length_set]; exact hc)) ?_; intro o' hr
    refine ⟨o', ?_⟩
    rw [List.length_append, List.length_singleton] at hr
    rw [List.length_cons, List.range'_succ, List.map_cons]
    exact (forL_one (σ1 := (ρc (.arr (zs.map PV.int)) (some (.int (pre.length : Int))) none none, Nc cs)) rfl hs).trans hr
end
theorem sxZ_cons {dm : Dom} {evn : Ev dm} {wf n k : Nat} {st : St} {l : List St} {σ σ' : Sg dm} {o : Out dm} (h : sxStep evn wf (sx evn wf n) st σ = some (.next σ')) (h2 : sxZ evn wf n k l σ' = some o) : sxZ evn wf n (k + 1) (st :: l) σ = some o := by
  unfold sxZ
  rw [h]; exact h2
theorem runZ_of {dm : Dom} {evn : Ev dm} {wf n k np : Nat} {nm : Names} {l : List St} {xs : List dm.V} {d : dm.V} (h1 : xs.length = np) (h2 : sxZ evn wf n k l (sg0 dm nm xs) = some (.ret d)) : runZ evn wf n k nm np l xs = some d := by
  unfold runZ
  rw [if_pos h1, h2]
theorem abs_int (d : Int) : absP intDom (.int d) = some (.int (absI d)) := by
  show (some (decide (d < 0))).bind (fun b => if b then (some (-d : Int)).map PV.int else some (PV.int d)) = _
  rw [Option.bind_some]
  unfold absI
  by_cases h : d < 0
  · rw [decide_eq_true h, if_pos rfl, show ((d.natAbs : Nat) : Int) = -d by lia]; rfl
  · rw [decide_eq_false h, if_neg (by decide), show ((d.natAbs : Nat) : Int) = d by lia]; rfl
theorem absI_nonneg (c : Int) : 0 ≤ absI c := Int.natCast_nonneg _
theorem back_bits (c : Int) : Builtin.Int.intBits (backOf c) ≤ 4400 := by
  unfold backOf
  have h := absI_nonneg c
  have hp : (0 : Int) < 2 ^ 4400 := Int.pow_pos (by decide)
  have hn : ((2 : Int) ^ 4400).natAbs = 2 ^ 4400 := by rw [Int.natAbs_pow]; rfl
  have h3 := Int.fmod_nonneg_of_pos (absI c) hp
  have h4 := Int.fmod_lt_of_pos (absI c) hp
  have hle : (2 : Nat) ^ 64 ≤ 2 ^ 4400 := Nat.pow_le_pow_right (by decide) (by decide)
  generalize hX : (2 : Int) ^ 4400 = X at *
  generalize hY : (2 : Nat) ^ 4400 = Y at *
  split
  · rename_i h2
    refine intBits_le_iff.mpr ?_
    rw [hY]; lia
  · refine intBits_le_iff.mpr ?_
    rw [hY]; lia
theorem back_nonneg (c : Int) : 0 ≤ backOf c := by
  unfold backOf
  split
  · exact absI_nonneg c
  · exact Int.fmod_nonneg_of_pos _ (Int.pow_pos (by decide))
theorem entry_ok (c : Int) : 1 ≤ entryOf c ∧ Builtin.Int.intBits (entryOf c) ≤ 65 := by
  unfold entryOf
  have hp : (0 : Int) < 2 ^ 64 := by decide
  have h3 := Int.fmod_nonneg_of_pos (absI c) hp
  have h4 := Int.fmod_lt_of_pos (absI c) hp
  exact ⟨by lia, intBits_le_iff.mpr (by lia)⟩
section
variable {tab : Nat → List intDom.V → Option intDom.V} {tok : Nat → Option intDom.D}
noncomputable abbrev ρf (xs : DV) (cs : List Int) (k b e : Option intDom.V) : List (Option intDom.V) := [some xs, some (intsL cs), k, b, e, none, none, none]
noncomputable abbrev N8 : List (Option (List intDom.V)) := [none, none, none, none, none, none, none, none]
theorem len_arr {zs : List Int} (h : zs.length ≤ 63) : lenP intDom (.arr (zs.map PV.int)) = some (.int ((zs.length : Nat) : Int)) := by
  show (if (zs.map PV.int : List DV).length ≤ fitLen then some (PV.int (((zs.map PV.int : List DV).length : Nat) : Int) : DV) else none) = _
  rw [if_pos (by rw [List.length_map]; unfold fitLen; lia), List.length_map]; rfl
theorem range_nat {n : Nat} (h : n ≤ 1000000) : rangeV (dm := intDom) [.int (n : Int)] = some ((rangeL 0 (n : Int)).map (dmInt intDom)) := if_pos (by
  unfold fitR
  rw [Bool.and_eq_true, decide_eq_true_eq, decide_eq_true_eq]
  lia)
theorem pow_int {n : Nat} (h : n ≤ 10000) : intBin .Pow 2 (n : Int) = some (2 ^ n) := by
  show (if 0 ≤ (n : Int) ∧ ((Builtin.Int.intBits 2 : Nat) : Int) * n ≤ 2 ^ 27 then some ((2 : Int) ^ (n : Int).toNat) else none) = _
  have e : Builtin.Int.intBits 2 = 2 := by decide
  rw [if_pos ⟨by lia, by rw [e]; lia⟩, Int.toNat_natCast]
theorem ev_abs {n : Nat} {ρ : List (Option intDom.V)} {a : Ix} {x : Int} {p q : Pos} (h : ev intDom tab tok n false a ρ = some (.int x)) : ev intDom tab tok (n + 1) false (.fn .abs [a] p q) ρ = some (.int (absI x)) := by
  show (evL (fun e => ev intDom tab tok n false e ρ) [a]).bind (fnP intDom .abs) = _
  rw [evL_cons h rfl]
  exact abs_int x
theorem ev_ife {n : Nat} {ρ : List (Option intDom.V)} {t a b : Ix} {p : Pos} {c : Bool} {d : DV} (h1 : ev intDom tab tok n true t ρ = some (.bool c)) (h2 : ev intDom tab tok n false (if c then a else b) ρ = some d) : ev intDom tab tok (n + 1) false (.ife t a b p) ρ = some d := by
  show (ev intDom tab tok n true t ρ).bind _ = _
  rw [h1]
  cases c <;> exact h2
theorem ev_pow {n k : Nat} (h : k ≤ 10000) {ρ : List (Option intDom.V)} {p q r : Pos} : ev intDom tab tok (n + 2) false (.bin (.int 2 0 p) .Pow (.int k 0 q) r) ρ = some (.int ((2 : Int) ^ k)) := ev_binI (x := 2) (y := (k : Int)) rfl rfl (pow_int h)
theorem pow_ne (k : Nat) : (2 : Int) ^ k ≠ 0 := Int.ne_of_gt (Int.pow_pos (by decide))
theorem back_ev {n : Nat} {ρ : List (Option intDom.V)} {c : Int} {p1 p2 p3 p4 p5 p6 p7 p8 p9 q1 q2 q3 : Pos} (h : (ρ[3]?).join = some (.int (absI c))) :
    ev intDom tab tok (n + 4) false (.ife (.cmp (.var 3 p1) .Lt (.bin (.int 2 0 p2) .Pow (.int 64 0 p3) p4) p5) (.var 3 p6) (.bin (.var 3 p7) .Mod (.bin (.int 2 0 p8) .Pow (.int 4400 0 p9) q1) q2) q3) ρ = some (.int (backOf c)) := by
  refine ev_ife (c := decide (absI c < 2 ^ 64)) (ev_cmpV (ev_var h) (ev_pow (k := 64) (by decide)) rfl) ?_
  unfold backOf
  by_cases hb : absI c < 2 ^ 64
  · rw [decide_eq_true hb, if_pos hb]
    exact ev_var h
  · rw [decide_eq_false hb, if_neg hb]
    exact ev_binI (ev_var h) (ev_pow (k := 4400) (by decide)) (mod_int (pow_ne 4400))
theorem add_int (a b : Int) : intBin .Add a b = some (a + b) := rfl
theorem entry_ev {n : Nat} {ρ : List (Option intDom.V)} {a : Ix} {c : Int} {p1 p2 p3 p4 p5 p6 p7 p8 : Pos} (h : ev intDom tab tok (n + 1) false a ρ = some (.int c)) :
    ev intDom tab tok (n + 4) false (.bin (.int 1 0 p1) .Add (.bin (.fn .abs [a] p2 p3) .Mod (.bin (.int 2 0 p4) .Pow (.int 64 0 p5) p6) p7) p8) ρ = some (.int (entryOf c)) := by
  exact ev_binI (x := 1) (y := (absI c).fmod (2 ^ 64)) (z := entryOf c) rfl (ev_binI (x := absI c) (y := 2 ^ 64) (ev_abs h) (ev_pow (k := 64) (by decide)) (mod_int (pow_ne 64))) (add_int _ _)
open Classical in
theorem ca_run {xs : List DV} {d : DV} (h : caI xs = some d) : runZ (ev intDom tab tok 8) 3 5 2 nm_law_cells 1 ir_law_cells xs = some d := by
  refine o1_i h fun x q h1 => oA_i h1 fun ys q1 h2 => ?_
  clear h1 h; subst q1; subst q; have h := h2; clear h2
  · split at h
    · rename_i hx
      refine xA hx.choose_spec ?_; intro e hl
      generalize hx.choose = zs at e hl h
      subst e
      (have zz := Option.some.inj h; clear h; subst zz)
      refine xE (ca_loop (tab := tab) (tok := tok) (p := ⟨202, 8, 202, 9⟩) hl zs [] [0, 2, 2, 1, 5, 1, 0] none rfl rfl) ?_; intro o' hloop
      have h7 := cells_len zs
      refine runZ_of rfl ?_
      refine sxZ_cons (σ' := (ρc (.arr (zs.map PV.int)) none none none, Nc [0, 2, 2, 1, 5, 1, 0])) rfl ?_
      refine sxZ_cons (σ' := (ρc (.arr (zs.map PV.int)) o' none none, Nc (cells zs))) (sx_for (evI_some (xs := (rangeL 0 (zs.length : Int)).map (dmInt intDom)) ?_) ?_) ?_
      · show (evL (fun e => ev intDom tab tok 8 false e _) [_]).bind (rangeV (dm := intDom)) = _
        rw [evL_cons (vs := []) (v := .int ((zs.length : Nat) : Int)) (len_arr hl) rfl]
        exact range_nat (by lia)
      · rw [range_it]; exact hloop
      · show sx (ev intDom tab tok 8) 3 5 _ (ρf (.arr (zs.map PV.int)) (cells zs) o' none none, N8) = _
        generalize cells zs = cs at h7
        have g1 : cs[1]? = some (cs.getD 1 0) := by rw [List.getD_eq_getElem?_getD, List.getElem?_eq_getElem (by lia)]; rfl
        have g2 : cs[2]? = some (cs.getD 2 0) := by rw [List.getD_eq_getElem?_getD, List.getElem?_eq_getElem (by lia)]; rfl
        unfold cellOut
        generalize cs.getD 1 0 = c1 at g1
        generalize cs.getD 2 0 = c2 at g2
        refine sx_cons_next (σ' := (ρf (.arr (zs.map PV.int)) cs o' (some (.int (absI c1))) (some (.int (entryOf c2))), N8)) (sx_asgT (vs := [.int (absI c1), .int (entryOf c2)]) (evL_cons (ev_abs (ev_sub (k := 1) (ev_var rfl) rfl (by decide) g1)) (evL_cons (entry_ev (n := 4) (ev_sub (k := 2) (ev_var rfl) rfl (by decide) g2)) rfl)) rfl rfl) ?_
        have hb : ev intDom tab tok 7 false (.ife (.cmp (.var 3 ⟨205, 27, 205, 31⟩) .Lt (.bin (.int 2 0 ⟨205, 34, 205, 35⟩) .Pow (.int 64 0 ⟨205, 39, 205, 41⟩) ⟨205, 34, 205, 41⟩) ⟨205, 27, 205, 41⟩) (.var 3 ⟨205, 19, 205, 23⟩) (.bin (.var 3 ⟨205, 47, 205, 51⟩) .Mod (.bin (.int 2 0 ⟨205, 54, 205, 55⟩) .Pow (.int 4400 0 ⟨205, 59, 205, 63⟩) ⟨205, 54, 205, 63⟩) ⟨205, 47, 205, 63⟩) ⟨205, 19, 205, 63⟩) (ρf (.arr (zs.map PV.int)) cs o' (some (.int (absI c1))) (some (.int (entryOf c2)))) = some (.int (backOf c1)) := ?_
        · generalize backOf c1 = B at hb ⊢
          generalize entryOf c2 = E at hb ⊢
          have ha : ev intDom tab tok 7 false (.var 1 ⟨205, 12, 205, 17⟩) (ρf (.arr (zs.map PV.int)) cs o' (some (.int (absI c1))) (some (.int E))) = some (intsL cs) := rfl
          have hc : ev intDom tab tok 7 false (.var 4 ⟨205, 65, 205, 70⟩) (ρf (.arr (zs.map PV.int)) cs o' (some (.int (absI c1))) (some (.int E))) = some (.int E) := rfl
          refine sx_cons_ret (sx_ret ?_)
          exact ev_tup (evL_cons ha (evL_cons hb (evL_cons hc rfl))) (show 3 ≤ 16777216 by decide)
        exact back_ev rfl
    · exact nS h
end
section
variable {prog : Program} {w : World} {H : Heap}
theorem cel_ok (b : Base prog w H) (f10 : HasF H 10 nm_law_cells 1 ir_law_cells) : UserOk prog w intDom H 1 10 caI := (f10.okZ (dm := intDom) (N := 8) (wf := 3) (n := 5) (k := 2) (tab := tabL []) b (tabL_ok fun x h => by cases h)).sub fun xs d h => ca_run h
theorem bal_ok (b : Base prog w H) (u5 : UserOk prog w intDom H 27 5 divI2) (f15 : HasF H 15 nm_law_balanced 5 ir_law_balanced) : UserOk prog w intDom H 28 15 baI := (f15.ok (dm := intDom) (N := 8) (wf := 3) (n := 6) (tab := tabL [(5, divI2)]) b (tabL_ok fun x h => by
  rcases List.mem_singleton.mp h with rfl; exact u5)).sub fun xs d h => bal_run (fun _ _ h => h) h
end
noncomputable def symT (c : Nat) : List Nat := match c with
  | 0 => [40]
  | 1 => [41]
  | 2 => [92, 40]
  | 3 => [92, 92, 34, 40, 34]
  | 4 => [34, 92, 34, 40, 34]
  | 5 => [92, 41]
  | 6 => [92, 92, 34, 41, 34]
  | _ => [34, 92, 34, 41, 34]
noncomputable def symsT : List Nat → List Nat
  | [] => []
  | c :: l => symT c ++ symsT l
noncomputable def unS (k : List Nat → Option (List Nat)) (s : List Nat) : List Nat → Option (List Nat)
  | [] => none
  | c :: r => if (symT c).isPrefixOf s then (k (s.drop (symT c).length)).map (c :: ·) else unS k s r
noncomputable def unF : Nat → List Nat → Option (List Nat)
  | 0, _ => none
  | n + 1, s => if s = [] then some [] else unS (unF n) s [0, 1, 2, 3, 4, 5, 6, 7]
noncomputable def unT (s : List Nat) : Option (List Nat) := unF (s.length + 1) s
theorem unS_ok {k : List Nat → Option (List Nat)} {s l : List Nat} {G : Prop} : ∀ {q : List Nat}, unS k s q = some l → (∀ c l', c ∈ q → s = symT c ++ s.drop (symT c).length → k (s.drop (symT c).length) = some l' → c :: l' = l → G) → G
  | [], h, _ => nS h
  | c :: r, h, g => by
    by_cases hp : (symT c).isPrefixOf s = true
    · exact xMap ((if_pos hp).symm.trans h) fun l' h1 h2 => g c l' (List.mem_cons_self ..) (List.prefix_iff_eq_append.mp (List.isPrefixOf_iff_prefix.mp hp)).symm h1 h2
    · exact unS_ok ((if_neg hp).symm.trans h) fun c' l' m => g c' l' (List.mem_cons_of_mem _ m)
theorem unF_ok : ∀ (n : Nat) (s l : List Nat), unF n s = some l → s = symsT l ∧ ∀ c ∈ l, c < 8
  | 0, _, _, h => nS h
  | n + 1, s, l, h => by
    by_cases e : s = []
    · have := (if_pos e).symm.trans h
      subst e
      have := Option.some.inj this
      subst this
      exact ⟨rfl, fun _ q => nomatch q⟩
    · refine unS_ok ((if_neg e).symm.trans h) fun c l' m h1 h2 h3 => ?_
      subst h3
      have z := unF_ok n _ _ h2
      refine ⟨h1.trans (congrArg (symT c ++ ·) z.1), fun d hd => ?_⟩
      rcases List.mem_cons.mp hd with rfl | hd
      · exact (by decide : ∀ c ∈ [0, 1, 2, 3, 4, 5, 6, 7], c < 8) _ m
      · exact z.2 d hd
theorem unT_ok : ∀ (s l : List Nat), unT s = some l → s = symsT l ∧ ∀ c ∈ l, c < 8 := fun s l h => unF_ok _ s l h
noncomputable def gen : Nat → List (List Nat)
  | 0 => [[]]
  | n + 1 => (gen n).flatMap fun l => (List.range 8).map (· :: l)
theorem gen_mem (l : List Nat) (h : ∀ c ∈ l, c < 8) : l ∈ gen l.length := by
  induction l with
  | nil => exact List.mem_singleton.mpr rfl
  | cons c l ih => exact List.mem_flatMap.mpr ⟨l, ih fun c hc => h c (List.mem_cons_of_mem _ hc), List.mem_map.mpr ⟨c, List.mem_range.mpr (h c List.mem_cons_self), rfl⟩⟩
theorem gen_split {n : Nat} {l : List Nat} {G : Prop} (h : l ∈ gen (n + 1)) (k : ∀ c l', c < 8 → l' ∈ gen n → l = c :: l' → G) : G :=
  (List.mem_flatMap.mp h).elim fun l' h => (List.mem_map.mp h.2).elim fun c q => k c l' (List.mem_range.mp q.1) h.1 q.2.symm
theorem all8 {p : Nat → Prop} (h0 : p 0) (h1 : p 1) (h2 : p 2) (h3 : p 3) (h4 : p 4) (h5 : p 5) (h6 : p 6) (h7 : p 7) (c : Nat) (h : c < 8) : p c := by
  match c, h with
  | 0, _ => exact h0
  | 1, _ => exact h1
  | 2, _ => exact h2
  | 3, _ => exact h3
  | 4, _ => exact h4
  | 5, _ => exact h5
  | 6, _ => exact h6
  | 7, _ => exact h7
noncomputable def chkL (h : Nat) : List Nat → Bool
  | [] => h == 0
  | 0 :: l => chkL (h + 1) l
  | 1 :: l => (match h with | 0 => false | h + 1 => chkL h l)
  | _ :: l => chkL h l
noncomputable abbrev t0I : Nat → List DV → Option DV := fun _ _ => none
noncomputable abbrev tokI : Nat → Option Int := fun _ => none
noncomputable abbrev F8 : List DV → Option DV := runG (ev intDom t0I tokI 12) 3 12 nm_strip_quoted_realnames 1 ir_strip_quoted_realnames
noncomputable abbrev t8I : Nat → List DV → Option DV := fun f xs => if f = 8 then F8 xs else none
noncomputable abbrev F9 : List DV → Option DV := runG (ev intDom t8I tokI 12) 3 12 nm_check_parenthesis 1 ir_check_parenthesis
noncomputable def says (b : Bool) : Option DV → Bool
  | some (.bool c) => b == c
  | _ => false
theorem says_ok {b : Bool} {d : Option DV} (h : says b d = true) : d = some (.bool b) := by
  unfold says at h
  split at h
  · rename_i c
    have : b = c := by simpa using h
    rw [this]
  · cases h
noncomputable def goodL (l : List Nat) : Bool := says (chkL 0 l) (F9 [.str (symsT l)])
theorem good0 : (gen 0).all goodL = true := by kernel_rfl
theorem good1 : (gen 1).all goodL = true := by kernel_rfl
theorem good2 : (gen 2).all goodL = true := by kernel_rfl
theorem good3_0 : (gen 2).all (fun l => goodL (0 :: l)) = true := by kernel_rfl
theorem good3_1 : (gen 2).all (fun l => goodL (1 :: l)) = true := by kernel_rfl
theorem good3_2 : (gen 2).all (fun l => goodL (2 :: l)) = true := by kernel_rfl
theorem good3_3 : (gen 2).all (fun l => goodL (3 :: l)) = true := by kernel_rfl
theorem good3_4 : (gen 2).all (fun l => goodL (4 :: l)) = true := by kernel_rfl
theorem good3_5 : (gen 2).all (fun l => goodL (5 :: l)) = true := by kernel_rfl
theorem good3_6 : (gen 2).all (fun l => goodL (6 :: l)) = true := by kernel_rfl
theorem good3_7 : (gen 2).all (fun l => goodL (7 :: l)) = true := by kernel_rfl
theorem good_all : ∀ l : List Nat, (∀ c ∈ l, c < 8) → l.length ≤ 3 → F9 [.str (symsT l)] = some (.bool (chkL 0 l)) := by
  intro l h hl
  refine says_ok (?_ : goodL l = true)
  have m := gen_mem l h
  generalize l.length = n at m hl
  match n, hl with
  | 0, _ => exact List.all_eq_true.mp good0 _ m
  | 1, _ => exact List.all_eq_true.mp good1 _ m
  | 2, _ => exact List.all_eq_true.mp good2 _ m
  | 3, _ => exact gen_split m fun c l' hc m e => e ▸ List.all_eq_true.mp (all8 (p := fun c => (gen 2).all (fun l => goodL (c :: l)) = true) good3_0 good3_1 good3_2 good3_3 good3_4 good3_5 good3_6 good3_7 c hc) _ m
noncomputable def ckN (s : List Nat) : Option Bool := (unT s).bind fun l => if l.length ≤ 3 then some (chkL 0 l) else none
theorem ckN_ok {s : List Nat} {b : Bool} (h : ckN s = some b) : F9 [.str s] = some (.bool b) := by
  refine xBind h ?_; intro l h1 h2
  obtain ⟨rfl, h3⟩ := unT_ok s l h1
  by_cases hl : l.length ≤ 3
  · rw [if_pos hl] at h2
    cases h2
    exact good_all l h3 hl
  · rw [if_neg hl] at h2; cases h2
structure PX (d0 d1 d2 : Nat) where
  B : Int
  E : Int
  x : Int
  hB : Builtin.Int.intBits B ≤ 4400
  hE : Builtin.Int.intBits E ≤ 65
  h0 : (x.fdiv 1).fmod 3 = (d0 : Int)
  h1 : (x.fdiv 3).fmod 3 = (d1 : Int)
  h2 : (x.fdiv 9).fmod 3 = (d2 : Int)
section
variable {d0 d1 d2 : Nat}
noncomputable def PX.pe (e : PX d0 d1 d2) : PE false := peF e.B e.E e.hB e.hE
noncomputable def xDen (e : PX d0 d1 d2) : PD → Int
  | .p a => pDen e.B e.E a
  | .t 0 => e.x
  | .t 1 => e.x.fdiv 1
  | .t 2 => e.x.fdiv 3
  | .t _ => e.x.fdiv 9
noncomputable def xTok (d0 d1 d2 k : Nat) (op : Operator) (i : Int) : Option PD := match k with
  | 0 => if op = .FloorDiv then (if i = 1 then some (.t 1) else if i = 3 then some (.t 2) else if i = 9 then some (.t 3) else none) else none
  | 1 => if op = .Mod ∧ i = 3 then some (.p (pLit d0)) else none
  | 2 => if op = .Mod ∧ i = 3 then some (.p (pLit d1)) else none
  | 3 => if op = .Mod ∧ i = 3 then some (.p (pLit d2)) else none
  | _ => none
noncomputable def xBin (d0 d1 d2 : Nat) (op : Operator) (a b : PD) : Option PD := match a with
  | .p a => oP b fun b => (pBin op a b).map .p
  | .t k => oP b fun q => (pVal q).bind (xTok d0 d1 d2 k op)
theorem xBin_ok (e : PX d0 d1 d2) (op : Operator) (a b c : PD) (h : xBin d0 d1 d2 op a b = some c) : intBin op (xDen e a) (xDen e b) = some (xDen e c) := by
  have hx : ∀ i : Int, intBin .FloorDiv e.x i = if i = 0 ∨ Builtin.divisionGoesByPylong e.x i = true then none else some (e.x.fdiv i) := fun _ => rfl
  have hm : ∀ y : Int, intBin .Mod y 3 = some (y.fmod 3) := fun y => rfl
  cases a with
  | p a =>
    refine oP_i h fun b q h1 => xMap h1 fun c h2 q1 => ?_
    clear h h1
    subst q; subst q1
    exact pBin_ok e.pe h2
  | t k =>
    refine oP_i h fun b q h1 => xBind h1 fun i hi h2 => ?_
    clear h h1; have h := h2; clear h2; subst q
    rw [show xDen e (.p b) = i from pDen_val e.B e.E hi]
    match k, h with
    | 0, h =>
      refine ifS h ?_; clear h; rintro rfl h
      refine ifC h (fun q h => ?_) fun _ h => ifC h (fun q h => ?_) fun _ h => ifS h fun q h => ?_ <;>
        (clear hi; subst q; have h := Option.some.inj h; subst h; exact (hx _).trans (if_neg (by rw [noPylong (by decide)]; decide)))
    | 1, h => exact ifS h fun q h => by obtain ⟨rfl, rfl⟩ := q; have h := Option.some.inj h; subst h; exact (hm _).trans (congrArg some (e.h0.trans (pDen_lit e.B e.E _).symm))
    | 2, h => exact ifS h fun q h => by obtain ⟨rfl, rfl⟩ := q; have h := Option.some.inj h; subst h; exact (hm _).trans (congrArg some (e.h1.trans (pDen_lit e.B e.E _).symm))
    | 3, h => exact ifS h fun q h => by obtain ⟨rfl, rfl⟩ := q; have h := Option.some.inj h; subst h; exact (hm _).trans (congrArg some (e.h2.trans (pDen_lit e.B e.E _).symm))
    | _ + 4, h => exact nS h
noncomputable def xLt : PD → PD → Option Bool
  | .p a, .p b => (pVal a).bind fun x => (pVal b).map fun y => decide (x < y)
  | _, _ => none
noncomputable def xDom (e : PX d0 d1 d2) : Dom where
  D := PD
  den := xDen e
  lit := fun i => .p (pLit i)
  lit_den := fun i => pDen_lit e.B e.E i
  val := dVal
  val_den := fun d i h => by
    cases d with
    | p a => exact pDen_val e.B e.E h
    | t _ => exact nS h
  bin := xBin d0 d1 d2
  bin_ok := xBin_ok e
  neg := fun a => match a with | .p a => some (.p (pNeg a)) | .t _ => none
  neg_ok := fun a c h => by
    cases a with
    | p a => (have zz := Option.some.inj h; clear h; subst zz); exact pDen_neg e.B e.E a
    | t k => exact nS h
  lt := xLt
  lt_ok := fun a b t h => by
    cases a with
    | p a => cases b with
      | p b => exact dLt_ok e.pe (.p a) (.p b) t h
      | t _ => exact nS h
    | t _ => exact nS h
  eq := dEq
  eq_ok := fun a b t h => by
    cases a with
    | p a => cases b with
      | p b => exact dEq_ok e.pe (.p a) (.p b) t h
      | t _ => exact nS h
    | t _ => exact nS h
  chr := fun n => n
  chr_inj := fun _ _ h => h
  slit := some
  slit_ok := fun _ _ e => by (have zz := Option.some.inj e; clear e; subst zz); simp
  bl := dBl
  bl_ok := fun a c h => by
    cases a with
    | p a =>
      refine xMap h ?_; rintro x hx rfl
      show pDen e.B e.E (pLit _) = _
      rw [pDen_lit, show xDen e (.p a) = x from pDen_val e.B e.E hx]
    | t k => exact nS h
end
noncomputable abbrev PVX := PV PD
noncomputable def x9 (xs : List PVX) : Option PVX := o1 xs fun a => oS a fun s => (ckN s).map .bool
noncomputable def hidK (c : Nat) (d : PD) : Option PVX := if d = .p [] then some (.str [92, c]) else if d = .p [(0, 0, .ofNat 1)] then some (.str [92, 92, 34, c, 34]) else if d = .p [(0, 0, .ofNat 2)] then some (.str [34, 92, 34, c, 34]) else none
noncomputable def hidN (xs : List PVX) : Option PVX := o2 xs fun a b => oS a fun s => o1 s fun c => oI b fun d => hidK c d
noncomputable def waitL (l : List Nat) : Option Int := if chkL 0 l then some 0 else if chkL 0 (l ++ [1]) then some 1 else none
noncomputable def waitN (xs : List PVX) : Option PVX := o1 xs fun a => oS a fun s => (unT s).bind fun l => if l.length ≤ 2 then (waitL l).map fun i => .int (.p (pLit i)) else none
section
variable {d0 d1 d2 : Nat} (e : PX d0 d1 d2)
noncomputable abbrev tx0 : Nat → List PVX → Option PVX := fun _ _ => none
noncomputable abbrev tx9 : Nat → List PVX → Option PVX := fun f xs => if f = 9 then x9 xs else none
noncomputable abbrev tx19 : Nat → List PVX → Option PVX := fun f xs => if f = 9 then x9 xs else if f = 17 then hidN xs else if f = 18 then waitN xs else none
noncomputable abbrev txk : Nat → Option PD := fun _ => none
noncomputable abbrev F17 : List PVX → Option PVX := runF (ev (xDom e) tx0 txk 12) 3 12 nm_law_hidden 2 ir_law_hidden
noncomputable abbrev F18 : List PVX → Option PVX := runF (ev (xDom e) tx9 txk 12) 3 12 nm_law_waiting 1 ir_law_waiting
noncomputable abbrev F19 : List PVX → Option PVX := runF (ev (xDom e) tx19 txk 16) 3 12 nm_law_brackets 4 ir_law_brackets
theorem hid_ok : ∀ xs d, hidN xs = some d → F17 e xs = some d := by
  intro xs d h
  refine o2_i h fun a b q h => oS_i h fun s q1 h => o1_i h fun c q2 h => oI_i h fun i q3 h => ?_
  subst q; subst q1; subst q2; subst q3
  have h : (if i = .p [] then some (.str [92, c]) else if i = .p [(0, 0, .ofNat 1)] then some (.str [92, 92, 34, c, 34]) else if i = .p [(0, 0, .ofNat 2)] then some (.str [34, 92, 34, c, 34]) else none) = some d := h
  split at h
  · rename_i q; subst q; (have zz := Option.some.inj h; clear h; subst zz); kernel_rfl
  · split at h
    · rename_i q; subst q; (have zz := Option.some.inj h; clear h; subst zz); kernel_rfl
    · split at h
      · rename_i q; subst q; (have zz := Option.some.inj h; clear h; subst zz); kernel_rfl
      · exact nS h
end
noncomputable def saysP (i : Int) : Option PVX → Bool
  | some (.int (.p q)) => q == pLit i
  | _ => false
theorem saysP_ok {i : Int} {d : Option PVX} (h : saysP i d = true) : d = some (.int (.p (pLit i))) := by
  unfold saysP at h
  split at h
  · rename_i q
    have : q = pLit i := by simpa using h
    rw [this]
  · exact bF h
section
variable {d0 d1 d2 : Nat} (e : PX d0 d1 d2)
noncomputable def goodW (l : List Nat) : Bool := match waitL l with
  | none => true
  | some i => saysP i (F18 e [.str (symsT l)])
theorem w_0 : (gen 0).all (goodW e) = true := by kernel_rfl
theorem w_1 : (gen 1).all (goodW e) = true := by kernel_rfl
theorem w_2 : (gen 2).all (goodW e) = true := by kernel_rfl
noncomputable abbrev br (t : List Nat) : Option PVX := F19 e [.str t, .int (.p pB), .int (.p pE), .int (.t 0)]
end
theorem lt3 {P : Nat → Prop} (h0 : P 0) (h1 : P 1) (h2 : P 2) (d : Nat) (h : d < 3) : P d := by
  rcases d with _ | _ | _ | d
  · exact h0
  · exact h1
  · exact h2
  · exact absurd h (Nat.not_lt.mpr (Nat.le_add_left 3 d))
noncomputable abbrev brTo (l : List Poly) : List (Option PVX) := l.map fun q => some (.int (.p q))
theorem b2_00 (d2 : Nat) (e : PX 0 0 d2) : TX2.map (br e) = brTo WP2 := by kernel_rfl
theorem b2_01 (d2 : Nat) (e : PX 0 1 d2) : TX2.map (br e) = brTo WP2 := by kernel_rfl
theorem b2_02 (d2 : Nat) (e : PX 0 2 d2) : TX2.map (br e) = brTo WP2 := by kernel_rfl
theorem b2_10 (d2 : Nat) (e : PX 1 0 d2) : TX2.map (br e) = brTo WP2 := by kernel_rfl
theorem b2_11 (d2 : Nat) (e : PX 1 1 d2) : TX2.map (br e) = brTo WP2 := by kernel_rfl
theorem b2_12 (d2 : Nat) (e : PX 1 2 d2) : TX2.map (br e) = brTo WP2 := by kernel_rfl
theorem b2_20 (d2 : Nat) (e : PX 2 0 d2) : TX2.map (br e) = brTo WP2 := by kernel_rfl
theorem b2_21 (d2 : Nat) (e : PX 2 1 d2) : TX2.map (br e) = brTo WP2 := by kernel_rfl
theorem b2_22 (d2 : Nat) (e : PX 2 2 d2) : TX2.map (br e) = brTo WP2 := by kernel_rfl
theorem b2_all : ∀ d0, d0 < 3 → ∀ d1, d1 < 3 → ∀ d2 (e : PX d0 d1 d2), TX2.map (br e) = brTo WP2 := lt3 (P := fun d0 => ∀ d1, d1 < 3 → ∀ d2 (e : PX d0 d1 d2), TX2.map (br e) = brTo WP2) (lt3 (P := fun d1 => ∀ d2 (e : PX 0 d1 d2), TX2.map (br e) = brTo WP2) b2_00 b2_01 b2_02) (lt3 (P := fun d1 => ∀ d2 (e : PX 1 d1 d2), TX2.map (br e) = brTo WP2) b2_10 b2_11 b2_12) (lt3 (P := fun d1 => ∀ d2 (e : PX 2 d1 d2), TX2.map (br e) = brTo WP2) b2_20 b2_21 b2_22)
noncomputable def brB : List St := match ir_law_brackets with
  | _ :: .for _ _ b _ :: _ => b
  | _ => []
section
variable {d0 d1 d2 : Nat} (e : PX d0 d1 d2)
noncomputable abbrev brF (l : List Int) (σ : Sg (xDom e)) : Option (Out (xDom e)) := forL (dm := xDom e) (sx (ev (xDom e) tx19 txk 16) 3 11 brB) (.one 5 ⟨266, 8, 266, 14⟩) (l.map fun i => (.int (.p (pLit i)) : PVX)) σ
noncomputable abbrev σB (t : List Nat) (q : Poly) (m : Nat → Option PVX) : Sg (xDom e) := ([some (.str t), some (.int (.p pB)), some (.int (.p pE)), some (.int (.t 0)), some (.int (.p q)), m 0, m 1, m 2, m 3, m 4, m 5, m 6, m 7, m 8, none, none, none, none, none], List.replicate 19 none)
noncomputable def lcB (r : Option (Out (xDom e))) (k : Nat) : Option PVX := match r with
  | some (.next s) => s.1.getD (5 + k) none
  | _ => none
noncomputable abbrev brL (Q Q' : List Poly) : List (List Nat × Poly × Poly) := TX3.zip (Q.zip Q')
noncomputable def brS (c : Int) (Q Q' : List Poly) : Prop := ∀ m : Nat → Option PVX, (brL Q Q').map (fun p => brF e [c] (σB e p.1 p.2.1 m)) = (brL Q Q').map fun p => some (.next (σB e p.1 p.2.2 (lcB e (brF e [c] (σB e p.1 p.2.1 m)))))
noncomputable def brT (l : List Int) (t : List Nat) (q q' : Poly) : Prop := ∀ m : Nat → Option PVX, ∃ m' : Nat → Option PVX, brF e l (σB e t q m) = some (.next (σB e t q' m'))
variable {e}
theorem brT_of {c : Int} {Q Q' : List Poly} (h : brS e c Q Q') {i : Nat} {t : List Nat} (ht : TX3[i]? = some t) (hq : Q.length = 8) (hq' : Q'.length = 8) : brT e [c] t (Q.getD i []) (Q'.getD i []) := fun m => by
  have hi : i < 8 := (List.getElem?_eq_some_iff.mp ht).1
  have g : ∀ {Q : List Poly}, Q.length = 8 → Q[i]? = some (Q.getD i []) := fun {Q} e => by rw [List.getD_eq_getElem?_getD, List.getElem?_eq_getElem (by lia)]; rfl
  exact ⟨_, List.map_inj_left.mp (h m) (t, Q.getD i [], Q'.getD i []) (List.mem_of_getElem? (i := i) (List.getElem?_zip_eq_some.mpr ⟨ht, List.getElem?_zip_eq_some.mpr ⟨g hq, g hq'⟩⟩))⟩
theorem brT_cons {c : Int} {l : List Int} {t : List Nat} {q q1 q' : Poly} (h : brT e [c] t q q1) (k : brT e l t q1 q') : brT e (c :: l) t q q' := fun m =>
  (h m).elim fun m1 e1 => (k m1).imp fun _ e2 => (forL_append (dm := xDom e) e1).trans e2
end
noncomputable abbrev QL0 : List Poly := [[], [], [], [], [], [], [], []]
noncomputable abbrev QL1 : List Poly := [[(0, 0, 1)], [(0, 1, 1)], [(0, 1, 1)], [(0, 2, 1)], [(0, 1, 1)], [(0, 2, 1)], [(0, 2, 1)], [(0, 3, 1)]]
noncomputable abbrev QL2 : List Poly := [[(0, 0, 1)], [(0, 1, 1), (0, 2, 1), (1, 1, 1)], [(0, 1, 1)], [(0, 2, 1)], [(0, 1, 1)], [(0, 2, 1), (0, 3, 1), (1, 2, 1)], [(0, 2, 1)], [(0, 3, 1)]]
noncomputable abbrev QL3 : List Poly := [[(0, 0, 1)], [(0, 1, 1), (0, 2, 1), (0, 3, 1), (1, 1, 1), (1, 2, 2), (2, 1, 1)], [(0, 1, 1)], [(0, 2, 1), (0, 3, 1), (1, 2, 1), (1, 3, 1), (2, 2, 1)], [(0, 1, 1)], [(0, 2, 1), (0, 3, 1), (1, 2, 1)], [(0, 2, 1)], [(0, 3, 1)]]
noncomputable abbrev QL4 : List Poly := [[(0, 0, 1)], [(0, 1, 1), (0, 2, 1), (0, 3, 1), (1, 1, 1), (1, 2, 2), (2, 1, 1)], [(0, 1, 1), (0, 2, 1), (1, 1, 1)], [(0, 2, 1), (0, 3, 2), (1, 2, 2), (1, 3, 1), (2, 2, 1)], [(0, 1, 1)], [(0, 2, 1), (0, 3, 1), (1, 2, 1)], [(0, 2, 1)], [(0, 3, 1)]]
theorem s0_000 (e : PX 0 0 0) : brS e 0 QL0 QL1 := fun m => by kernel_rfl
theorem s0_001 (e : PX 0 0 1) : brS e 0 QL0 QL1 := fun m => by kernel_rfl
theorem s0_002 (e : PX 0 0 2) : brS e 0 QL0 QL1 := fun m => by kernel_rfl
theorem s0_010 (e : PX 0 1 0) : brS e 0 QL0 QL1 := fun m => by kernel_rfl
theorem s0_011 (e : PX 0 1 1) : brS e 0 QL0 QL1 := fun m => by kernel_rfl
theorem s0_012 (e : PX 0 1 2) : brS e 0 QL0 QL1 := fun m => by kernel_rfl
theorem s0_020 (e : PX 0 2 0) : brS e 0 QL0 QL1 := fun m => by kernel_rfl
theorem s0_021 (e : PX 0 2 1) : brS e 0 QL0 QL1 := fun m => by kernel_rfl
theorem s0_022 (e : PX 0 2 2) : brS e 0 QL0 QL1 := fun m => by kernel_rfl
theorem s0_100 (e : PX 1 0 0) : brS e 0 QL0 QL1 := fun m => by kernel_rfl
theorem s0_101 (e : PX 1 0 1) : brS e 0 QL0 QL1 := fun m => by kernel_rfl
theorem s0_102 (e : PX 1 0 2) : brS e 0 QL0 QL1 := fun m => by kernel_rfl
theorem s0_110 (e : PX 1 1 0) : brS e 0 QL0 QL1 := fun m => by kernel_rfl
theorem s0_111 (e : PX 1 1 1) : brS e 0 QL0 QL1 := fun m => by kernel_rfl
theorem s0_112 (e : PX 1 1 2) : brS e 0 QL0 QL1 := fun m => by kernel_rfl
theorem s0_120 (e : PX 1 2 0) : brS e 0 QL0 QL1 := fun m => by kernel_rfl
theorem s0_121 (e : PX 1 2 1) : brS e 0 QL0 QL1 := fun m => by kernel_rfl
theorem s0_122 (e : PX 1 2 2) : brS e 0 QL0 QL1 := fun m => by kernel_rfl
theorem s0_200 (e : PX 2 0 0) : brS e 0 QL0 QL1 := fun m => by kernel_rfl
theorem s0_201 (e : PX 2 0 1) : brS e 0 QL0 QL1 := fun m => by kernel_rfl
theorem s0_202 (e : PX 2 0 2) : brS e 0 QL0 QL1 := fun m => by kernel_rfl
theorem s0_210 (e : PX 2 1 0) : brS e 0 QL0 QL1 := fun m => by kernel_rfl
theorem s0_211 (e : PX 2 1 1) : brS e 0 QL0 QL1 := fun m => by kernel_rfl
theorem s0_212 (e : PX 2 1 2) : brS e 0 QL0 QL1 := fun m => by kernel_rfl
theorem s0_220 (e : PX 2 2 0) : brS e 0 QL0 QL1 := fun m => by kernel_rfl
theorem s0_221 (e : PX 2 2 1) : brS e 0 QL0 QL1 := fun m => by kernel_rfl
theorem s0_222 (e : PX 2 2 2) : brS e 0 QL0 QL1 := fun m => by kernel_rfl
theorem s0_all : ∀ d0, d0 < 3 → ∀ d1, d1 < 3 → ∀ d2, d2 < 3 → ∀ e : PX d0 d1 d2, brS e 0 QL0 QL1 := lt3 (P := fun d0 => ∀ d1, d1 < 3 → ∀ d2, d2 < 3 → ∀ e : PX d0 d1 d2, brS e 0 QL0 QL1) (lt3 (P := fun d1 => ∀ d2, d2 < 3 → ∀ e : PX 0 d1 d2, brS e 0 QL0 QL1) (lt3 (P := fun d2 => ∀ e : PX 0 0 d2, brS e 0 QL0 QL1) s0_000 s0_001 s0_002) (lt3 (P := fun d2 => ∀ e : PX 0 1 d2, brS e 0 QL0 QL1) s0_010 s0_011 s0_012) (lt3 (P := fun d2 => ∀ e : PX 0 2 d2, brS e 0 QL0 QL1) s0_020 s0_021 s0_022)) (lt3 (P := fun d1 => ∀ d2, d2 < 3 → ∀ e : PX 1 d1 d2, brS e 0 QL0 QL1) (lt3 (P := fun d2 => ∀ e : PX 1 0 d2, brS e 0 QL0 QL1) s0_100 s0_101 s0_102) (lt3 (P := fun d2 => ∀ e : PX 1 1 d2, brS e 0 QL0 QL1) s0_110 s0_111 s0_112) (lt3 (P := fun d2 => ∀ e : PX 1 2 d2, brS e 0 QL0 QL1) s0_120 s0_121 s0_122)) (lt3 (P := fun d1 => ∀ d2, d2 < 3 → ∀ e : PX 2 d1 d2, brS e 0 QL0 QL1) (lt3 (P := fun d2 => ∀ e : PX 2 0 d2, brS e 0 QL0 QL1) s0_200 s0_201 s0_202) (lt3 (P := fun d2 => ∀ e : PX 2 1 d2, brS e 0 QL0 QL1) s0_210 s0_211 s0_212) (lt3 (P := fun d2 => ∀ e : PX 2 2 d2, brS e 0 QL0 QL1) s0_220 s0_221 s0_222))
theorem s1_00 (d0 : Nat) (e : PX d0 0 0) : brS e 1 QL1 QL1 := fun m => by kernel_rfl
theorem s1_01 (d0 : Nat) (e : PX d0 0 1) : brS e 1 QL1 QL1 := fun m => by kernel_rfl
theorem s1_02 (d0 : Nat) (e : PX d0 0 2) : brS e 1 QL1 QL1 := fun m => by kernel_rfl
theorem s1_10 (d0 : Nat) (e : PX d0 1 0) : brS e 1 QL1 QL1 := fun m => by kernel_rfl
theorem s1_11 (d0 : Nat) (e : PX d0 1 1) : brS e 1 QL1 QL1 := fun m => by kernel_rfl
theorem s1_12 (d0 : Nat) (e : PX d0 1 2) : brS e 1 QL1 QL1 := fun m => by kernel_rfl
theorem s1_20 (d0 : Nat) (e : PX d0 2 0) : brS e 1 QL1 QL1 := fun m => by kernel_rfl
theorem s1_21 (d0 : Nat) (e : PX d0 2 1) : brS e 1 QL1 QL1 := fun m => by kernel_rfl
theorem s1_22 (d0 : Nat) (e : PX d0 2 2) : brS e 1 QL1 QL1 := fun m => by kernel_rfl
theorem s1_all : ∀ d1, d1 < 3 → ∀ d2, d2 < 3 → ∀ (d0 : Nat), ∀ e : PX d0 d1 d2, brS e 1 QL1 QL1 := lt3 (P := fun d1 => ∀ d2, d2 < 3 → ∀ (d0 : Nat), ∀ e : PX d0 d1 d2, brS e 1 QL1 QL1) (lt3 (P := fun d2 => ∀ (d0 : Nat), ∀ e : PX d0 0 d2, brS e 1 QL1 QL1) s1_00 s1_01 s1_02) (lt3 (P := fun d2 => ∀ (d0 : Nat), ∀ e : PX d0 1 d2, brS e 1 QL1 QL1) s1_10 s1_11 s1_12) (lt3 (P := fun d2 => ∀ (d0 : Nat), ∀ e : PX d0 2 d2, brS e 1 QL1 QL1) s1_20 s1_21 s1_22)
theorem s2_00 (d1 : Nat) (e : PX 0 d1 0) : brS e 2 QL1 QL1 := fun m => by kernel_rfl
theorem s2_01 (d1 : Nat) (e : PX 0 d1 1) : brS e 2 QL1 QL1 := fun m => by kernel_rfl
theorem s2_02 (d1 : Nat) (e : PX 0 d1 2) : brS e 2 QL1 QL1 := fun m => by kernel_rfl
theorem s2_10 (d1 : Nat) (e : PX 1 d1 0) : brS e 2 QL1 QL1 := fun m => by kernel_rfl
theorem s2_11 (d1 : Nat) (e : PX 1 d1 1) : brS e 2 QL1 QL1 := fun m => by kernel_rfl
theorem s2_12 (d1 : Nat) (e : PX 1 d1 2) : brS e 2 QL1 QL1 := fun m => by kernel_rfl
theorem s2_20 (d1 : Nat) (e : PX 2 d1 0) : brS e 2 QL1 QL1 := fun m => by kernel_rfl
theorem s2_21 (d1 : Nat) (e : PX 2 d1 1) : brS e 2 QL1 QL1 := fun m => by kernel_rfl
theorem s2_22 (d1 : Nat) (e : PX 2 d1 2) : brS e 2 QL1 QL1 := fun m => by kernel_rfl
theorem s2_all : ∀ d0, d0 < 3 → ∀ d2, d2 < 3 → ∀ (d1 : Nat), ∀ e : PX d0 d1 d2, brS e 2 QL1 QL1 := lt3 (P := fun d0 => ∀ d2, d2 < 3 → ∀ (d1 : Nat), ∀ e : PX d0 d1 d2, brS e 2 QL1 QL1) (lt3 (P := fun d2 => ∀ (d1 : Nat), ∀ e : PX 0 d1 d2, brS e 2 QL1 QL1) s2_00 s2_01 s2_02) (lt3 (P := fun d2 => ∀ (d1 : Nat), ∀ e : PX 1 d1 d2, brS e 2 QL1 QL1) s2_10 s2_11 s2_12) (lt3 (P := fun d2 => ∀ (d1 : Nat), ∀ e : PX 2 d1 d2, brS e 2 QL1 QL1) s2_20 s2_21 s2_22)
theorem s3_0 (d0 d1 : Nat) (e : PX d0 d1 0) : brS e 3 QL1 QL2 := fun m => by kernel_rfl
theorem s3_1 (d0 d1 : Nat) (e : PX d0 d1 1) : brS e 3 QL1 QL2 := fun m => by kernel_rfl
theorem s3_2 (d0 d1 : Nat) (e : PX d0 d1 2) : brS e 3 QL1 QL2 := fun m => by kernel_rfl
theorem s3_all : ∀ d2, d2 < 3 → ∀ (d0 d1 : Nat), ∀ e : PX d0 d1 d2, brS e 3 QL1 QL2 := lt3 (P := fun d2 => ∀ (d0 d1 : Nat), ∀ e : PX d0 d1 d2, brS e 3 QL1 QL2) s3_0 s3_1 s3_2
theorem s4_00 (d2 : Nat) (e : PX 0 0 d2) : brS e 4 QL2 QL2 := fun m => by kernel_rfl
theorem s4_01 (d2 : Nat) (e : PX 0 1 d2) : brS e 4 QL2 QL2 := fun m => by kernel_rfl
theorem s4_02 (d2 : Nat) (e : PX 0 2 d2) : brS e 4 QL2 QL2 := fun m => by kernel_rfl
theorem s4_10 (d2 : Nat) (e : PX 1 0 d2) : brS e 4 QL2 QL2 := fun m => by kernel_rfl
theorem s4_11 (d2 : Nat) (e : PX 1 1 d2) : brS e 4 QL2 QL2 := fun m => by kernel_rfl
theorem s4_12 (d2 : Nat) (e : PX 1 2 d2) : brS e 4 QL2 QL2 := fun m => by kernel_rfl
theorem s4_20 (d2 : Nat) (e : PX 2 0 d2) : brS e 4 QL2 QL2 := fun m => by kernel_rfl
theorem s4_21 (d2 : Nat) (e : PX 2 1 d2) : brS e 4 QL2 QL2 := fun m => by kernel_rfl
theorem s4_22 (d2 : Nat) (e : PX 2 2 d2) : brS e 4 QL2 QL2 := fun m => by kernel_rfl
theorem s4_all : ∀ d0, d0 < 3 → ∀ d1, d1 < 3 → ∀ (d2 : Nat), ∀ e : PX d0 d1 d2, brS e 4 QL2 QL2 := lt3 (P := fun d0 => ∀ d1, d1 < 3 → ∀ (d2 : Nat), ∀ e : PX d0 d1 d2, brS e 4 QL2 QL2) (lt3 (P := fun d1 => ∀ (d2 : Nat), ∀ e : PX 0 d1 d2, brS e 4 QL2 QL2) s4_00 s4_01 s4_02) (lt3 (P := fun d1 => ∀ (d2 : Nat), ∀ e : PX 1 d1 d2, brS e 4 QL2 QL2) s4_10 s4_11 s4_12) (lt3 (P := fun d1 => ∀ (d2 : Nat), ∀ e : PX 2 d1 d2, brS e 4 QL2 QL2) s4_20 s4_21 s4_22)
theorem s5_0 (d0 d2 : Nat) (e : PX d0 0 d2) : brS e 5 QL2 QL3 := fun m => by kernel_rfl
theorem s5_1 (d0 d2 : Nat) (e : PX d0 1 d2) : brS e 5 QL2 QL3 := fun m => by kernel_rfl
theorem s5_2 (d0 d2 : Nat) (e : PX d0 2 d2) : brS e 5 QL2 QL3 := fun m => by kernel_rfl
theorem s5_all : ∀ d1, d1 < 3 → ∀ (d0 d2 : Nat), ∀ e : PX d0 d1 d2, brS e 5 QL2 QL3 := lt3 (P := fun d1 => ∀ (d0 d2 : Nat), ∀ e : PX d0 d1 d2, brS e 5 QL2 QL3) s5_0 s5_1 s5_2
theorem s6_0 (d1 d2 : Nat) (e : PX 0 d1 d2) : brS e 6 QL3 QL4 := fun m => by kernel_rfl
theorem s6_1 (d1 d2 : Nat) (e : PX 1 d1 d2) : brS e 6 QL3 QL4 := fun m => by kernel_rfl
theorem s6_2 (d1 d2 : Nat) (e : PX 2 d1 d2) : brS e 6 QL3 QL4 := fun m => by kernel_rfl
theorem s6_all : ∀ d0, d0 < 3 → ∀ (d1 d2 : Nat), ∀ e : PX d0 d1 d2, brS e 6 QL3 QL4 := lt3 (P := fun d0 => ∀ (d1 d2 : Nat), ∀ e : PX d0 d1 d2, brS e 6 QL3 QL4) s6_0 s6_1 s6_2
theorem s7_ (d0 d1 d2 : Nat) (e : PX d0 d1 d2) : brS e 7 QL4 QL4 := fun m => by kernel_rfl
theorem s7_all : ∀ (d0 d1 d2 : Nat), ∀ e : PX d0 d1 d2, brS e 7 QL4 QL4 := s7_
theorem br_at {d0 d1 d2 : Nat} {e : PX d0 d1 d2} {TX : List (List Nat)} {WP : List Poly} (h : TX.map (br e) = brTo WP) {i : Nat} {t : List Nat} (ht : TX[i]? = some t) : br e t = some (.int (.p (WP.getD i []))) := by
  have h1 := congrArg (fun l => l[i]?) h
  rw [List.getElem?_map, ht, List.getElem?_map] at h1
  cases hw : WP[i]? with
  | none => rw [hw] at h1; cases h1
  | some q =>
    rw [hw] at h1
    rw [List.getD_eq_getElem?_getD, hw]
    exact Option.some.inj h1
section
variable {d0 d1 d2 : Nat}
theorem br2_eval (h0 : d0 < 3) (h1 : d1 < 3) (e : PX d0 d1 d2) (i : Nat) (t : List Nat) (h : TX2[i]? = some t) : br e t = some (.int (.p (WP2.getD i []))) := br_at (b2_all _ h0 _ h1 _ e) h
theorem br_rng (e : PX d0 d1 d2) : TX3.map (fun t => evI (ev (xDom e) tx19 txk 16) (.rng [(.bin (.int 2 0 ⟨266, 24, 266, 25⟩) .Pow (.fn .len [(.var 0 ⟨266, 33, 266, 37⟩)] ⟨266, 29, 266, 32⟩ ⟨266, 29, 266, 38⟩) ⟨266, 24, 266, 38⟩)] ⟨266, 18, 266, 23⟩ ⟨266, 18, 266, 39⟩) (σB e t [] fun _ => none)) = TX3.map fun t => some (([0, 1, 2, 3, 4, 5, 6, 7] : List Int).map fun i => (.int (.p (pLit i)) : PVX), σB e t [] fun _ => none) := by kernel_rfl
theorem br3_eval (h0 : d0 < 3) (h1 : d1 < 3) (h2 : d2 < 3) (e : PX d0 d1 d2) (i : Nat) (t : List Nat) (h : TX3[i]? = some t) : br e t = some (.int (.p (WP3.getD i []))) := by
  have z : brT e [0, 1, 2, 3, 4, 5, 6, 7] t (QL0.getD i []) (QL4.getD i []) := brT_cons (brT_of (s0_all _ h0 _ h1 _ h2 e) h rfl rfl) (brT_cons (brT_of (s1_all _ h1 _ h2 _ e) h rfl rfl) (brT_cons (brT_of (s2_all _ h0 _ h2 _ e) h rfl rfl) (brT_cons (brT_of (s3_all _ h2 _ _ e) h rfl rfl) (brT_cons (brT_of (s4_all _ h0 _ h1 _ e) h rfl rfl) (brT_cons (brT_of (s5_all _ h1 _ _ e) h rfl rfl) (brT_cons (brT_of (s6_all _ h0 _ _ e) h rfl rfl) (brT_of (s7_all _ _ _ e) h rfl rfl)))))))
  have q0 : QL0.getD i [] = [] := (by decide : ∀ i, i < 8 → QL0.getD i [] = []) i (List.getElem?_eq_some_iff.mp h).1
  rw [q0] at z
  refine (z fun _ => none).elim fun m' z => ?_
  refine runF_of rfl (sx_cons_next (σ' := σB e t [] fun _ => none) rfl (sx_cons_next (σ' := σB e t (WP3.getD i []) m') (sx_for (List.map_inj_left.mp (br_rng e) t (List.mem_of_getElem? h)) z) (sx_cons_ret (sx_ret rfl))))
end
structure GenOk (H : Heap) : Prop where
  en : GlobIs H "enumerate" (.type "enumerate")
  ok : ∃ (a : Addr) (fd : FuncData), GFnOk H a fd ∧ GlobIs H (ufName 7) (.ref a)
open Classical in
noncomputable def brI (xs : List DV) : Option DV := oC xs fun x r => oS x fun t => I3 r fun B E _ => if Builtin.Int.intBits B ≤ 4400 ∧ Builtin.Int.intBits E ≤ 65 then
      (if h : ∃ i : Nat, TX2[i]? = some t then some (.int (pDen B E (WP2.getD h.choose [])))
      else if h : ∃ i : Nat, TX3[i]? = some t then some (.int (pDen B E (WP3.getD h.choose []))) else none) else none
theorem tx2_inj : ∀ i j : Nat, ∀ t, TX2[i]? = some t → TX2[j]? = some t → i = j := by
  intro i j t h1 h2
  have hn : TX2.Nodup := by decide
  have l1 := (List.getElem?_eq_some_iff.mp h1).1
  exact (List.getElem?_inj l1 hn).mp (h1.trans h2.symm)
theorem tx3_inj : ∀ i j : Nat, ∀ t, TX3[i]? = some t → TX3[j]? = some t → i = j := by
  intro i j t h1 h2
  have hn : TX3.Nodup := by decide
  have l1 := (List.getElem?_eq_some_iff.mp h1).1
  exact (List.getElem?_inj l1 hn).mp (h1.trans h2.symm)
theorem brI_2 {B E x : Int} {t : List Nat} {i : Nat} (hB : Builtin.Int.intBits B ≤ 4400) (hE : Builtin.Int.intBits E ≤ 65) (h : TX2[i]? = some t) : brI [.str t, .int B, .int E, .int x] = some (.int (pDen B E (WP2.getD i []))) := by
  have hx : ∃ i : Nat, TX2[i]? = some t := ⟨i, h⟩
  refine (if_pos ⟨hB, hE⟩).trans ?_
  rw [dif_pos hx, tx2_inj _ _ _ hx.choose_spec h]
theorem brI_3 {B E x : Int} {t : List Nat} {i : Nat} (hB : Builtin.Int.intBits B ≤ 4400) (hE : Builtin.Int.intBits E ≤ 65) (h : TX3[i]? = some t) : brI [.str t, .int B, .int E, .int x] = some (.int (pDen B E (WP3.getD i []))) := by
  have hx : ∃ i : Nat, TX3[i]? = some t := ⟨i, h⟩
  have hn : ¬ ∃ i : Nat, TX2[i]? = some t := fun ⟨j, hj⟩ => by
    have h2 : ∀ t ∈ TX2, t.length = 2 := by decide
    have h3 : ∀ t ∈ TX3, t.length = 3 := by decide
    have := h2 t (List.mem_of_getElem? hj)
    have := h3 t (List.mem_of_getElem? h)
    lia
  refine (if_pos ⟨hB, hE⟩).trans ?_
  rw [dif_neg hn, dif_pos hx, tx3_inj _ _ _ hx.choose_spec h]
section
variable {prog : Program} {w : World} {H : Heap}
theorem chk_ok (b : Base prog w H) (g : GenOk H) (f8 : HasF H 8 nm_strip_quoted_realnames 1 ir_strip_quoted_realnames) (f9 : HasF H 9 nm_check_parenthesis 1 ir_check_parenthesis) : UserOk prog w intDom H 8 9 F9 := by
  refine xEEA g.ok ?_; intro a7 fd7 K7 g7
  refine xEEA f8 ?_; clear f8; intro a8 fd8 K8 g8
  refine xEEA f9 ?_; clear f9; intro a9 fd9 K9 g9
  have u8 : UserOk prog w intDom H 4 8 F8 := funG_ok (r := 0) (b.cx (dm := intDom) (tab := t0I) fun f => user_none fun _ => rfl) g.en K7 g7 K8 g8
  refine funG_ok (r := 4) (b.cx (dm := intDom) (tab := t8I) fun f hf => ?_) g.en K7 g7 K9 g9
  by_cases q : f = 8
  · subst q
    exact u8.sub fun xs d h => by
      have h : (if (8 : Nat) = 8 then F8 xs else none) = some d := h
      rwa [if_pos rfl] at h
  · refine xEE hf ?_; clear hf; intro xs d h
    have h : (if f = 8 then F8 xs else none) = some d := h
    rw [if_neg q] at h; exact nS h
variable {d0 d1 d2 : Nat} (e : PX d0 d1 d2)
theorem chkX_ok (b : Base prog w H) (u : UserOk prog w intDom H 8 9 F9) : UserOk prog w (xDom e) H 8 9 x9 := by
  refine UserOk.family u.addr fun (xs : List PVX) (d : PVX) h => ?_
  refine o1_i h fun a q h => oS_i h fun s q1 h => ?_
  subst q; subst q1
  refine xMap h ?_; rintro c h1 rfl
  exact ⟨intDom, F9, [.str s], .bool c, u, ckN_ok h1, rfl, rfl⟩
theorem waitN_ok : ∀ xs d, waitN xs = some d → F18 e xs = some d := by
  intro xs d h
  refine o1_i h fun a q h => oS_i h fun s q1 h => ?_
  subst q; subst q1
  refine xBind h ?_; intro l h1 h2
  refine xA (unT_ok s l h1) ?_; rintro rfl h3
  refine ifS h2 fun hl h2 => ?_
  refine xMap h2 ?_; rintro i h4 rfl
  have key : goodW e l = true := by
    have m := gen_mem l h3
    generalize l.length = n at m hl
    match n, hl with
    | 0, _ => exact List.all_eq_true.mp (w_0 e) _ m
    | 1, _ => exact List.all_eq_true.mp (w_1 e) _ m
    | 2, _ => exact List.all_eq_true.mp (w_2 e) _ m
  unfold goodW at key
  rw [h4] at key
  exact saysP_ok key
theorem brX_ok (b : Base prog w H) (u : UserOk prog w intDom H 8 9 F9) (f17 : HasF H 17 nm_law_hidden 2 ir_law_hidden) (f18 : HasF H 18 nm_law_waiting 1 ir_law_waiting) (f19 : HasF H 19 nm_law_brackets 4 ir_law_brackets) : UserOk prog w (xDom e) H 10 19 (F19 e) := by
  have u9 := chkX_ok e b u
  have u17 : UserOk prog w (xDom e) H 1 17 hidN := (f17.ok (dm := xDom e) (N := 12) (wf := 3) (n := 12) (tab := tx0) b fun f => user_none fun _ => rfl).sub (hid_ok e)
  have u18 : UserOk prog w (xDom e) H 9 18 waitN := (f18.ok (dm := xDom e) (r := 8) (N := 12) (wf := 3) (n := 12) (tab := tx9) b fun f hf => by
    by_cases q : f = 9
    · subst q
      exact u9.sub fun xs d h => by
        have h : (if (9 : Nat) = 9 then x9 xs else none) = some d := h
        rwa [if_pos rfl] at h
    · refine xEE hf ?_; clear hf; intro xs d h
      have h : (if f = 9 then x9 xs else none) = some d := h
      rw [if_neg q] at h; exact nS h).sub (waitN_ok e)
  refine f19.ok (dm := xDom e) (r := 9) (N := 16) (wf := 3) (n := 12) (tab := tx19) b fun f hf => ?_
  by_cases q : f = 9
  · subst q
    exact (u9.mono (by lia)).sub fun xs d h => by
      have h : (if (9 : Nat) = 9 then x9 xs else if (9 : Nat) = 17 then hidN xs else if (9 : Nat) = 18 then waitN xs else none) = some d := h
      rwa [if_pos rfl] at h
  by_cases q7 : f = 17
  · subst q7
    exact (u17.mono (by lia)).sub fun xs d h => by
      have h : (if (17 : Nat) = 9 then x9 xs else if (17 : Nat) = 17 then hidN xs else if (17 : Nat) = 18 then waitN xs else none) = some d := h
      rwa [if_neg (by decide), if_pos rfl] at h
  by_cases q8 : f = 18
  · subst q8
    exact u18.sub fun xs d h => by
      have h : (if (18 : Nat) = 9 then x9 xs else if (18 : Nat) = 17 then hidN xs else if (18 : Nat) = 18 then waitN xs else none) = some d := h
      rwa [if_neg (by decide), if_neg (by decide), if_pos rfl] at h
  · refine xEE hf ?_; clear hf; intro xs d h
    have h : (if f = 9 then x9 xs else if f = 17 then hidN xs else if f = 18 then waitN xs else none) = some d := h
    rw [if_neg q, if_neg q7, if_neg q8] at h; exact nS h
theorem brk_ok (b : Base prog w H) (g : GenOk H) (f8 : HasF H 8 nm_strip_quoted_realnames 1 ir_strip_quoted_realnames) (f9 : HasF H 9 nm_check_parenthesis 1 ir_check_parenthesis) (f17 : HasF H 17 nm_law_hidden 2 ir_law_hidden) (f18 : HasF H 18 nm_law_waiting 1 ir_law_waiting) (f19 : HasF H 19 nm_law_brackets 4 ir_law_brackets) : UserOk prog w intDom H 10 19 brI := by
  have u := chk_ok b g f8 f9
  have fa : FnAddr H 19 := by
    refine xEEA f19 ?_; clear f19; intro a fd K G
    refine xEAAA K.obj ?_; intro o hd hT1 hT2 ho
    exact ⟨a, G, o, fd, hd, fun s I => I.keep _ _ hT1 hT2 ho⟩
  refine UserOk.family fa fun (xs : List DV) (d : DV) h => ?_
  refine oC_i h fun y r q h => oS_i h fun t q1 h => I3_i h fun B E x q2 h => ?_
  subst q2; subst q1; subst q
  refine ifS h ?_; clear h; intro hb h
  · ·
      have m : ∀ y : Int, 0 ≤ y.fmod 3 ∧ y.fmod 3 < 3 := fun y => ⟨Int.fmod_nonneg_of_pos y (by decide), Int.fmod_lt_of_pos y (by decide)⟩
      have m0 := m (x.fdiv 1)
      have m1 := m (x.fdiv 3)
      have m2 := m (x.fdiv 9)
      let e : PX ((x.fdiv 1).fmod 3).toNat ((x.fdiv 3).fmod 3).toNat ((x.fdiv 9).fmod 3).toNat := ⟨B, E, x, hb.1, hb.2, by lia, by lia, by lia⟩
      have hd : ∀ t : List Nat, (xDom e).dvs [.str t, .int (.p pB), .int (.p pE), .int (.t 0)] = intDom.dvs [.str t, .int B, .int E, .int x] := fun t => by
        show ([.str (t.map fun n => n), .int (pDen B E pB), .int (pDen B E pE), .int x] : List DV) = intDom.dvs _
        rw [pden_B, pden_E]
        simp
        exact (dvs_id _).symm
      by_cases hx : ∃ i : Nat, TX2[i]? = some t
      · have h := Option.some.inj ((dif_pos hx).symm.trans h)
        subst h
        exact ⟨xDom e, F19 e, _, _, brX_ok e b u f17 f18 f19, br2_eval (by lia) (by lia) e _ t hx.choose_spec, hd t, rfl⟩
      · have h := (dif_neg hx).symm.trans h
        by_cases hx : ∃ i : Nat, TX3[i]? = some t
        · have h := Option.some.inj ((dif_pos hx).symm.trans h)
          subst h
          exact ⟨xDom e, F19 e, _, _, brX_ok e b u f17 f18 f19, br3_eval (by lia) (by lia) (by lia) e _ t hx.choose_spec, hd t, rfl⟩
        · have h := (dif_neg hx).symm.trans h
          exact nS h
end
set_option maxRecDepth 10000
noncomputable def tx_ix : Ix := (.comp (.meth .join (.str [] 0 ⟨285, 13, 285, 15⟩) [(.comp (.sub (.str [41, 40] 0 ⟨285, 22, 285, 26⟩) (.bin (.bin (.var 2 ⟨285, 27, 285, 32⟩) .FloorDiv (.bin (.int 2 0 ⟨285, 36, 285, 37⟩) .Pow (.var 1 ⟨285, 41, 285, 42⟩) ⟨285, 36, 285, 42⟩) ⟨285, 27, 285, 42⟩) .Mod (.int 2 0 ⟨285, 45, 285, 46⟩) ⟨285, 27, 285, 46⟩) ⟨285, 22, 285, 47⟩) (.cl (.one 1 ⟨285, 52, 285, 53⟩) (.rng [(.var 3 ⟨285, 63, 285, 69⟩)] ⟨285, 57, 285, 62⟩ ⟨285, 57, 285, 70⟩) [] .endc) [(".0", .«local»), ("k", .«local»), ("state", .free)] [none, none, some 1] ⟨285, 21, 285, 71⟩)] ⟨285, 13, 285, 20⟩ ⟨285, 13, 285, 72⟩) (.cl (.one 1 ⟨285, 77, 285, 82⟩) (.rng [(.bin (.int 2 0 ⟨285, 92, 285, 93⟩) .Pow (.var 4 ⟨285, 97, 285, 103⟩) ⟨285, 92, 285, 103⟩)] ⟨285, 86, 285, 91⟩ ⟨285, 86, 285, 104⟩) [] .endc) [(".0", .«local»), ("state", .cell), ("range", .globalImplicit), ("places", .free)] [none, none, none, some 4] ⟨285, 12, 285, 105⟩)
noncomputable abbrev ρL (a0 a1 a2 a3 a4 a5 a6 a7 a8 a9 a10 : Option intDom.V) : List (Option intDom.V) := [a0, a1, a2, a3, a4, a5, a6, a7, a8, a9, a10, none, none, none, none, none, none, none, none]
noncomputable abbrev N19 : List (Option (List intDom.V)) := [none, none, none, none, none, none, none, none, none, none, none, none, none, none, none, none, none, none, none]
theorem tx_2 {tab : Nat → List intDom.V → Option intDom.V} {tok : Nat → Option intDom.D} {a0 a1 a2 a3 a5 a6 a7 a8 a9 a10 : Option intDom.V} : ev intDom tab tok 10 false tx_ix (ρL a0 a1 a2 a3 (some (.int (2 : Int))) a5 a6 a7 a8 a9 a10) = some (.list (txs TX2)) := by kernel_rfl
theorem tx_3 {tab : Nat → List intDom.V → Option intDom.V} {tok : Nat → Option intDom.D} {a0 a1 a2 a3 a5 a6 a7 a8 a9 a10 : Option intDom.V} : ev intDom tab tok 10 false tx_ix (ρL a0 a1 a2 a3 (some (.int (3 : Int))) a5 a6 a7 a8 a9 a10) = some (.list (txs TX3)) := by kernel_rfl
structure Pack (pl : Nat) (TX : List (List Nat)) (WP OP IP : List Poly) : Prop where
  two : pl = 2 ∨ pl = 3
  len : TX.length = 2 ^ pl
  lenW : WP.length = 2 ^ pl
  texts : ∀ {tab : Nat → List intDom.V → Option intDom.V} {tok : Nat → Option intDom.D} {a0 a1 a2 a3 a5 a6 a7 a8 a9 a10 : Option intDom.V}, ev intDom tab tok 10 false tx_ix (ρL a0 a1 a2 a3 (some (.int (pl : Int))) a5 a6 a7 a8 a9 a10) = some (.list (txs TX))
  sign : ∀ s : Nat, s < 23 - pl → sliceL sgn (some (s : Int)) (some ((s : Int) + (pl : Int) + 1)) = signOf s (pl + 1)
  wts : ∀ (s : Nat) (B E : Int), s < 23 - pl → Builtin.Int.intBits B ≤ 4400 → Builtin.Int.intBits E ≤ 65 → wI [.str (signOf s (pl + 1)), .int B, .int E] = some (intsL (WP.map (pDen B E)))
  flo : ∀ (B E : Int), Builtin.Int.intBits B ≤ 4400 → Builtin.Int.intBits E ≤ 65 → flI [.list (txs TX), intsL (WP.map (pDen B E)), .int B, .int E] = some (.tuple [intsL (OP.map (pDen B E)), intsL (IP.map (pDen B E))])
  bal : ∀ (B E : Int), 0 ≤ B → 1 ≤ E → Builtin.Int.intBits B ≤ 4400 → Builtin.Int.intBits E ≤ 65 → balOk (OP.map (pDen B E)) (IP.map (pDen B E)) (WP.map (pDen B E))
  onc : ∀ (t : List Nat) (c : Nat), t ∈ TX → c < pl → onI [.str t, .int (c : Int)] = some (.bool true)
  brk : ∀ (i : Nat) (t : List Nat) (B E x : Int), TX[i]? = some t → Builtin.Int.intBits B ≤ 4400 → Builtin.Int.intBits E ≤ 65 → brI [.str t, .int B, .int E, .int x] = some (.int (pDen B E (WP.getD i [])))
theorem opoly {B E : Int} (hB : 0 ≤ B) (hE : 1 ≤ E) (bB : Builtin.Int.intBits B ≤ 4400) (bE : Builtin.Int.intBits E ≤ 65) : ∀ q ∈ ([[(0, 1, 1)], [(0, 0, 1)], [(0, 0, 1), (0, 1, 1), (1, 0, 1)], [(0, 0, 2), (1, 0, 1)]] : List Poly), 0 < pDen B E q ∧ Builtin.Int.intBits (pDen B E q) ≤ 5000 := by
  have e1 : pDen B E [(0, 1, 1)] = E := by simp [pDen, mDen, Int.pow_succ]
  have e2 : pDen B E [(0, 0, 1)] = 1 := by simp [pDen, mDen]
  have e3 : pDen B E [(0, 0, 1), (0, 1, 1), (1, 0, 1)] = 1 + (E + B) := by simp [pDen, mDen, Int.pow_succ]
  have e4 : pDen B E [(0, 0, 2), (1, 0, 1)] = 2 + B := by simp [pDen, mDen, Int.pow_succ]
  have b1 : Builtin.Int.intBits 1 ≤ 1 := by decide
  have b2 : Builtin.Int.intBits 2 ≤ 2 := by decide
  have b3 : Builtin.Int.intBits (E + B) ≤ 4401 := bits_add (by lia) (by lia)
  have b4 : Builtin.Int.intBits (1 + (E + B)) ≤ 4402 := bits_add (by lia) (by lia)
  have b5 : Builtin.Int.intBits (2 + B) ≤ 4401 := bits_add (by lia) (by lia)
  intro q hq
  simp only [List.mem_cons, List.not_mem_nil, or_false] at hq
  rcases hq with rfl | rfl | rfl | rfl
  · rw [e1]; exact ⟨by lia, by lia⟩
  · rw [e2]; exact ⟨by lia, by lia⟩
  · rw [e3]; exact ⟨by lia, by lia⟩
  · rw [e4]; exact ⟨by lia, by lia⟩
theorem bal_of {OP IP WP : List Poly} (h1 : OP.length = WP.length) (h2 : IP.length = WP.length) (h3 : WP.length ≤ 8) (ho : ∀ q ∈ OP, q ∈ ([[(0, 1, 1)], [(0, 0, 1)], [(0, 0, 1), (0, 1, 1), (1, 0, 1)], [(0, 0, 2), (1, 0, 1)]] : List Poly)) (hi : ∀ k, k < WP.length → IP.getD k [] = pMul (WP.getD k []) (OP.getD k [])) (hok : (IP ++ WP).all pOk = true)
    {B E : Int} (hB : 0 ≤ B) (hE : 1 ≤ E) (bB : Builtin.Int.intBits B ≤ 4400) (bE : Builtin.Int.intBits E ≤ 65) : balOk (OP.map (pDen B E)) (IP.map (pDen B E)) (WP.map (pDen B E)) := by
  refine ⟨by simp [h1], by simp [h2], by simp [h3], fun k o i w e1 e2 e3 => ?_⟩
  rw [List.getElem?_map] at e1 e2 e3
  refine xMap e1 ?_; rintro o' eo rfl
  refine xMap e2 ?_; rintro i' ei rfl
  refine xMap e3 ?_; rintro w' ew rfl
  have hk : k < WP.length := (List.getElem?_eq_some_iff.mp ew).1
  have hp := opoly hB hE bB bE o' (ho o' (List.mem_of_getElem? eo))
  have hm := hi k hk
  rw [List.getD_eq_getElem?_getD, List.getD_eq_getElem?_getD, List.getD_eq_getElem?_getD, eo, ei, ew] at hm
  have hm : i' = pMul w' o' := hm
  have oki := List.all_eq_true.mp hok i' (List.mem_append_left _ (List.mem_of_getElem? ei))
  have okw := List.all_eq_true.mp hok w' (List.mem_append_right _ (List.mem_of_getElem? ew))
  have b1 := pOk_bits bB bE oki
  have b2 := pOk_bits bB bE okw
  refine ⟨hp.1, by rw [hm, pDen_mul], hp.2, by lia, by lia⟩
theorem wI_of {B E : Int} {k : Nat} (hB : Builtin.Int.intBits B ≤ 4400) (hE : Builtin.Int.intBits E ≤ 65) (h : k < 21) : wI [.str (signOf k 3), .int B, .int E] = some (.list (WP2.map fun q => .int (pDen B E q))) := by
  refine (if_pos ⟨hB, hE⟩).trans ?_
  rw [if_pos ⟨k, h, rfl⟩]
theorem wI_of3 {B E : Int} {k : Nat} (hB : Builtin.Int.intBits B ≤ 4400) (hE : Builtin.Int.intBits E ≤ 65) (h : k < 20) : wI [.str (signOf k 4), .int B, .int E] = some (.list (WP3.map fun q => .int (pDen B E q))) := by
  have hn : ¬ ∃ j : Nat, j < 21 ∧ signOf k 4 = signOf j 3 := fun ⟨j, hj, e⟩ => by
    have h1 := sign4 k h
    have h2 := sign3 j hj
    rw [h1, h2] at e
    exact absurd (congrArg List.length e) (by simp)
  refine (if_pos ⟨hB, hE⟩).trans ?_
  rw [if_neg hn, if_pos ⟨k, h, rfl⟩]
theorem pack2 : Pack 2 TX2 WP2 OP2 IP2 where
  two := .inl rfl
  len := rfl
  lenW := rfl
  texts := tx_2
  sign := by decide
  wts := fun s B E h hB hE => wI_of hB hE h
  flo := fun B E hB hE => by
    show flI [.list (txs TX2), .list (WP2.map fun q => .int (pDen B E q)), .int B, .int E] = _
    refine (if_pos ⟨hB, hE⟩).trans ?_
    rw [if_pos ⟨rfl, rfl⟩]
    rfl
  bal := fun B E hB hE bB bE => bal_of (OP := OP2) (IP := IP2) (WP := WP2) rfl rfl (by decide) (by decide) (by decide) (by decide +kernel) hB hE bB bE
  onc := fun t c ht hc => by
    exact if_pos ⟨c, rfl, .inl ⟨ht, hc⟩⟩
  brk := fun i t B E x h hB hE => brI_2 hB hE h
theorem pack3 : Pack 3 TX3 WP3 OP3 IP3 where
  two := .inr rfl
  len := rfl
  lenW := rfl
  texts := tx_3
  sign := by decide
  wts := fun s B E h hB hE => wI_of3 hB hE h
  flo := fun B E hB hE => by
    show flI [.list (txs TX3), .list (WP3.map fun q => .int (pDen B E q)), .int B, .int E] = _
    have hn : ¬ ((txs TX3 : List DV) = txs TX2 ∧ (WP3.map fun q => (.int (pDen B E q) : DV)) = WP2.map fun q => .int (pDen B E q)) := fun ⟨e, _⟩ => by
      have := congrArg List.length e
      exact absurd this (by decide)
    refine (if_pos ⟨hB, hE⟩).trans ?_
    rw [if_neg hn, if_pos ⟨rfl, rfl⟩]
    rfl
  bal := fun B E hB hE bB bE => bal_of (OP := OP3) (IP := IP3) (WP := WP3) rfl rfl (by decide) (by decide) (by decide +kernel) (by decide +kernel) hB hE bB bE
  onc := fun t c ht hc => by
    exact if_pos ⟨c, rfl, .inr ⟨ht, hc⟩⟩
  brk := fun i t B E x h hB hE => brI_3 hB hE h
set_option maxRecDepth 10000
section
variable {tab : Nat → List intDom.V → Option intDom.V} {tok : Nat → Option intDom.D} {n : Nat} {ρ : List (Option intDom.V)} {σ σ' : Sg intDom} {p q : Pos}
theorem sx_asgC {evn : Ev intDom} {wf i : Nat} {sxr : List St → Sg intDom → Option (Out intDom)} {elt cls : Ix} {nm : Names} {link : List (Option Nat)} {r : Pos} {d : DV} (h : evn false (.comp elt cls nm link r) σ.1 = some d) (h2 : setV σ i d = some σ') : sxStep evn wf sxr (.asg i p (.comp elt cls nm link r) q) σ = some (.next σ') := by
  show (evA evn _ σ).bind _ = _
  have : evA evn (.comp elt cls nm link r) σ = some (d, σ) := by
    show (evn false (.comp elt cls nm link r) σ.1).map (fun d => (d, σ)) = _
    rw [h]; rfl
  rw [this]
  show (setV σ i d).map Out.next = _
  rw [h2]; rfl
theorem ev_subsI {a lo hi : Ix} {x : List Nat} {l h : Int} (ha : ev intDom tab tok n false a ρ = some (.str x)) (hl : ev intDom tab tok n false lo ρ = some (.int l)) (hh : ev intDom tab tok n false hi ρ = some (.int h)) (nl : ∀ v : Option intDom.V, partE v lo = v.map some) (nh : ∀ v : Option intDom.V, partE v hi = v.map some) (hz : x.length ≤ fitLen) :
    ev intDom tab tok (n + 1) false (.subs a lo hi p q) ρ = some (.str (sliceL x (some l) (some h))) := by
  show (ev intDom tab tok n false a ρ).bind (fun x => ((partE (ev intDom tab tok n false lo ρ) lo).bind (partP intDom)).bind fun l => ((partE (ev intDom tab tok n false hi ρ) hi).bind (partP intDom)).bind fun h => sliceP intDom x l h) = _
  rw [ha, nl, nh, hl, hh]
  exact if_pos hz
theorem ev_userT {f : Nat} {xs : List Ix} {vs : List DV} {b : Bool} (h : evL (fun e => ev intDom tab tok n false e ρ) xs = some vs) (h2 : tab f vs = some (.bool b)) : ev intDom tab tok (n + 2) true (.user f xs p q) ρ = some (.bool b) := by
  show (ev intDom tab tok (n + 1) false (.user f xs p q) ρ).bind (fun v => (truthP intDom v).map PV.bool) = _
  rw [ev_user h h2]; rfl
theorem ev_not {a : Ix} {b : Bool} (h : ev intDom tab tok n true a ρ = some (.bool b)) : ev intDom tab tok (n + 1) true (.not a p) ρ = some (.bool (!b)) := by
  show (ev intDom tab tok n true a ρ).bind _ = _
  rw [h]; rfl
theorem ev_orF {a b : Ix} {d : DV} (h : ev intDom tab tok n true a ρ = some (.bool false)) (h2 : ev intDom tab tok n true b ρ = some d) : ev intDom tab tok (n + 1) true (.or a b p) ρ = some d := by
  show (ev intDom tab tok n true a ρ).bind _ = _
  rw [h]; exact h2
theorem ev_cmpF {a b : Ix} {x y : DV} {op : CmpOp} {c : Bool} (ha : ev intDom tab tok n false a ρ = some x) (hb : ev intDom tab tok n false b ρ = some y) (hc : cmpP intDom op x y = some c) : ev intDom tab tok (n + 1) false (.cmp a op b p) ρ = some (.bool c) := by
  show (ev intDom tab tok n false a ρ).bind (fun x => (ev intDom tab tok n false b ρ).bind fun y => (cmpP intDom op x y).map PV.bool) = _
  rw [ha, hb]
  show (cmpP intDom op x y).map PV.bool = _
  rw [hc]; rfl
theorem ev_subS {a b : Ix} {xs : List (List Nat)} {k : Nat} {x : List Nat} (ha : ev intDom tab tok n false a ρ = some (.list (txs xs))) (hb : ev intDom tab tok n false b ρ = some (.int (k : Int))) (hk : k ≤ 1000000000) (h : xs[k]? = some x) : ev intDom tab tok (n + 1) false (.sub a b p) ρ = some (.str x) := by
  show (ev intDom tab tok n false a ρ).bind (fun x => (ev intDom tab tok n false b ρ).bind fun y => getP intDom x y) = _
  rw [ha, hb]
  have hm : (txs xs : List DV)[k]? = some (.str x) := by rw [List.getElem?_map, h]; rfl
  exact getP_list hk hm
theorem ev_lenL {a : Ix} {xs : List DV} (ha : ev intDom tab tok n false a ρ = some (.list xs)) (hz : xs.length ≤ 1000) : ev intDom tab tok (n + 1) false (.fn .len [a] p q) ρ = some (.int ((xs.length : Nat) : Int)) := by
  show (evL (fun e => ev intDom tab tok n false e ρ) [a]).bind (fnP intDom .len) = _
  rw [evL_cons ha rfl]
  exact if_pos (show xs.length ≤ 16777216 by lia)
theorem eq_int (a : Int) : cmpP intDom .Eq (.int a) (.int a) = some true := by
  show some (decide (a = a)) = _
  rw [decide_eq_true rfl]
theorem fmod_nat (a : Int) {m : Nat} (h : 0 < m) : ∃ s : Nat, a.fmod (m : Int) = (s : Int) ∧ s < m := by
  have h1 := Int.fmod_nonneg_of_pos a (show (0 : Int) < m by lia)
  have h2 := Int.fmod_lt_of_pos a (show (0 : Int) < m by lia)
  exact ⟨(a.fmod (m : Int)).toNat, by lia, by lia⟩
structure Tabs6 (tab : Nat → List intDom.V → Option intDom.V) : Prop where
  h10 : ∀ xs d, caI xs = some d → tab 10 xs = some d
  h12 : ∀ xs d, wI xs = some d → tab 12 xs = some d
  h14 : ∀ xs d, flI xs = some d → tab 14 xs = some d
  h15 : ∀ xs d, baI xs = some d → tab 15 xs = some d
  h16 : ∀ xs d, onI xs = some d → tab 16 xs = some d
  h19 : ∀ xs d, brI xs = some d → tab 19 xs = some d
theorem law_tail (T : Tabs6 tab) {pl : Nat} {TX : List (List Nat)} {WP OP IP : List Poly} (K : Pack pl TX WP OP IP) {cs : List Int} (h7 : cs.length = 7) {B E : Int} (hB : 0 ≤ B) (hE : 1 ≤ E) (bB : Builtin.Int.intBits B ≤ 4400) (bE : Builtin.Int.intBits E ≤ 65) (hp : 2 + (cs.getD 0 0).fmod 2 = (pl : Int)) {scr : Option intDom.V} :
    sx (ev intDom tab tok 10) 3 6 (ir_law.drop 1) (ρL scr (some (intsL cs)) (some (.int B)) (some (.int E)) none none none none none none none, N19) = some (.ret (.bool true)) := by
  have gk : ∀ k, k < 7 → cs[k]? = some (cs.getD k 0) := fun k hk => by rw [List.getD_eq_getElem?_getD, List.getElem?_eq_getElem (by lia)]; rfl
  have g0 := gk 0 (by decide)
  have g3 := gk 3 (by decide)
  have g4 := gk 4 (by decide)
  have g5 := gk 5 (by decide)
  have g6 := gk 6 (by decide)
  generalize cs.getD 0 0 = c0 at *
  generalize cs.getD 3 0 = c3 at *
  generalize cs.getD 4 0 = c4 at *
  generalize cs.getD 5 0 = c5 at *
  generalize cs.getD 6 0 = c6 at *
  have hpl : pl ≤ 3 ∧ 2 ≤ pl := by rcases K.two with h | h <;> lia
  have hL : TX.length ≤ 8 ∧ 0 < TX.length := by rw [K.len]; rcases K.two with h | h <;> rw [h] <;> decide
  refine xEA (fmod_nat (c0.fdiv 2) (m := 23 - pl) (by lia)) ?_; intro s hs hs'
  refine xEA (fmod_nat c3 (m := TX.length) hL.2) ?_; intro i hi hi'
  refine xEA (fmod_nat (c3.fdiv (TX.length : Nat)) (m := pl) (by lia)) ?_; intro c hc hc'
  have ht : TX[i]? = some TX[i] := List.getElem?_eq_getElem hi'
  generalize TX[i] = t at ht
  have hw : (WP.map (pDen B E))[i]? = some (pDen B E (WP.getD i [])) := by
    rw [List.getElem?_map, List.getD_eq_getElem?_getD, List.getElem?_eq_getElem (by rw [K.lenW, ← K.len]; exact hi')]; rfl
  have hxl : (txs TX : List DV).length = TX.length := List.length_map _
  have hcast : ((23 - pl : Nat) : Int) = 23 - (pl : Int) := by lia
  have bL : Builtin.Int.intBits ((TX.length : Nat) : Int) ≤ 9000 := Nat.le_trans (bits_le (m := 4) (by lia)) (by decide)
  have hne : ((TX.length : Nat) : Int) ≠ 0 := by lia
  -- places
  refine sx_cons_next (σ' := (ρL scr (some (intsL cs)) (some (.int B)) (some (.int E)) (some (.int (pl : Int))) none none none none none none, N19)) (sx_asg (d := .int (pl : Int)) rfl (ev_binI (x := 2) (y := c0.fmod 2) rfl (ev_binI (x := c0) (y := 2) (ev_sub (k := 0) (ev_var rfl) rfl (by decide) g0) rfl (mod_int (by decide))) (by rw [add_int, hp])) rfl) ?_
  -- start
  refine sx_cons_next (σ' := (ρL scr (some (intsL cs)) (some (.int B)) (some (.int E)) (some (.int (pl : Int))) (some (.int (s : Int))) none none none none none, N19)) (sx_asg (d := .int (s : Int)) rfl (ev_binI (x := c0.fdiv 2) (y := 23 - (pl : Int)) (ev_binI (x := c0) (y := 2) (ev_sub (k := 0) (ev_var rfl) rfl (by decide) g0) rfl (fdiv_int (by decide) (by decide))) (ev_binI (x := 23) (y := (pl : Int)) rfl (ev_var rfl) rfl) (by rw [← hcast, mod_int (by lia), hs])) rfl) ?_
  -- signs
  refine sx_cons_next (σ' := (ρL scr (some (intsL cs)) (some (.int B)) (some (.int E)) (some (.int (pl : Int))) (some (.int (s : Int))) (some (.str (signOf s (pl + 1)))) none none none none, N19)) (sx_asg (d := .str (signOf s (pl + 1))) rfl ?_ rfl) ?_
  · rw [← K.sign s hs']
    exact ev_subsI (x := sgn) rfl (ev_var rfl) (ev_binI (x := (s : Int) + (pl : Int)) (y := 1) (ev_binI (x := (s : Int)) (y := (pl : Int)) (ev_var rfl) (ev_var rfl) rfl) rfl rfl) (fun _ => rfl) (fun _ => rfl) (by decide)
  -- texts
  refine sx_cons_next (σ' := (ρL scr (some (intsL cs)) (some (.int B)) (some (.int E)) (some (.int (pl : Int))) (some (.int (s : Int))) (some (.str (signOf s (pl + 1)))) (some (.list (txs TX))) none none none, N19)) (sx_asgC (d := .list (txs TX)) K.texts rfl) ?_
  -- weights
  refine sx_cons_next (σ' := (ρL scr (some (intsL cs)) (some (.int B)) (some (.int E)) (some (.int (pl : Int))) (some (.int (s : Int))) (some (.str (signOf s (pl + 1)))) (some (.list (txs TX))) (some (intsL (WP.map (pDen B E)))) none none, N19)) (sx_asg (d := intsL (WP.map (pDen B E))) rfl (ev_user (vs := ([.str (signOf s (pl + 1)), .int B, .int E] : List DV)) rfl (T.h12 _ _ (K.wts s B E hs' bB bE))) rfl) ?_
  -- flows
  refine sx_cons_next (σ' := (ρL scr (some (intsL cs)) (some (.int B)) (some (.int E)) (some (.int (pl : Int))) (some (.int (s : Int))) (some (.str (signOf s (pl + 1)))) (some (.list (txs TX))) (some (intsL (WP.map (pDen B E)))) (some (.tuple [intsL (OP.map (pDen B E)), intsL (IP.map (pDen B E))])) none, N19)) (sx_asg (d := (.tuple [intsL (OP.map (pDen B E)), intsL (IP.map (pDen B E))] : DV)) rfl (ev_user (vs := ([.list (txs TX), intsL (WP.map (pDen B E)), .int B, .int E] : List DV)) rfl (T.h14 _ _ (K.flo B E bB bE))) rfl) ?_
  -- balanced
  have hba : baI [intsL (OP.map (pDen B E)), intsL (IP.map (pDen B E)), intsL (WP.map (pDen B E)), .int c5, .int c6] = some (.bool true) := by
    exact if_pos ⟨_, _, _, rfl, rfl, rfl, K.bal B E hB hE bB bE⟩
  refine sx_cons_next (σ' := (ρL scr (some (intsL cs)) (some (.int B)) (some (.int E)) (some (.int (pl : Int))) (some (.int (s : Int))) (some (.str (signOf s (pl + 1)))) (some (.list (txs TX))) (some (intsL (WP.map (pDen B E)))) (some (.tuple [intsL (OP.map (pDen B E)), intsL (IP.map (pDen B E))])) none, N19)) (sx_ite (c := false) (ev_orF (ev_cmpV (x := .tuple [intsL (OP.map (pDen B E)), intsL (IP.map (pDen B E))]) (y := .none) (ev_var rfl) rfl rfl) (ev_not (b := true) (ev_userT (vs := ([intsL (OP.map (pDen B E)), intsL (IP.map (pDen B E)), intsL (WP.map (pDen B E)), .int c5, .int c6] : List DV)) (evL_cons rfl (evL_cons rfl (evL_cons rfl (evL_cons (ev_sub (k := 5) (ev_var rfl) rfl (by decide) g5) (evL_cons (ev_sub (k := 6) (ev_var rfl) rfl (by decide) g6) rfl))))) (T.h15 _ _ hba)))) rfl) ?_
  -- drawn
  refine sx_cons_next (σ' := (ρL scr (some (intsL cs)) (some (.int B)) (some (.int E)) (some (.int (pl : Int))) (some (.int (s : Int))) (some (.str (signOf s (pl + 1)))) (some (.list (txs TX))) (some (intsL (WP.map (pDen B E)))) (some (.tuple [intsL (OP.map (pDen B E)), intsL (IP.map (pDen B E))])) (some (.int (i : Int))), N19)) (sx_asg (d := .int (i : Int)) rfl (ev_binI (x := c3) (y := ((TX.length : Nat) : Int)) (ev_sub (k := 3) (ev_var rfl) rfl (by decide) g3) ((ev_lenL (xs := txs TX) (ev_var rfl) (by lia)).trans (by rw [hxl])) (by rw [mod_int hne, hi])) rfl) ?_
  -- once
  refine sx_cons_next (σ' := (ρL scr (some (intsL cs)) (some (.int B)) (some (.int E)) (some (.int (pl : Int))) (some (.int (s : Int))) (some (.str (signOf s (pl + 1)))) (some (.list (txs TX))) (some (intsL (WP.map (pDen B E)))) (some (.tuple [intsL (OP.map (pDen B E)), intsL (IP.map (pDen B E))])) (some (.int (i : Int))), N19)) (sx_ite (c := false) (ev_not (b := true) (ev_userT (vs := ([.str t, .int (c : Int)] : List DV)) (evL_cons (ev_subS (k := i) (ev_var rfl) (ev_var rfl) (by lia) ht) (evL_cons (ev_binI (x := c3.fdiv ((TX.length : Nat) : Int)) (y := (pl : Int)) (ev_binI (x := c3) (y := ((TX.length : Nat) : Int)) (ev_sub (k := 3) (ev_var rfl) rfl (by decide) g3) ((ev_lenL (xs := txs TX) (ev_var rfl) (by lia)).trans (by rw [hxl])) (fdiv_int hne bL)) (ev_var rfl) (by rw [mod_int (by lia), hc])) rfl)) (T.h16 _ _ (K.onc t c (List.mem_of_getElem? ht) hc')))) rfl) ?_
  -- brackets
  exact sx_cons_ret (sx_ret (ev_cmpF (x := .int (pDen B E (WP.getD i []))) (y := .int (pDen B E (WP.getD i []))) (ev_user (vs := ([.str t, .int B, .int E, .int c4] : List DV)) (evL_cons (ev_subS (k := i) (ev_var rfl) (ev_var rfl) (by lia) ht) (evL_cons rfl (evL_cons rfl (evL_cons (ev_sub (k := 4) (ev_var rfl) rfl (by decide) g4) rfl)))) (T.h19 _ _ (K.brk i t B E c4 ht bB bE))) (ev_sub (k := i) (ev_var rfl) (ev_var rfl) (by lia) hw) (eq_int _)))
theorem law_run (T : Tabs6 tab) {zs : List Int} (hl : zs.length ≤ 63) : sx (ev intDom tab tok 10) 3 6 ir_law (sg0 intDom nm_law [.arr (zs.map PV.int)]) = some (.ret (.bool true)) := by
  have hca := T.h10 _ _ (caI_of hl)
  have h7 := cells_len zs
  have e1 := entry_ok ((cells zs).getD 2 0)
  have e2 := back_bits ((cells zs).getD 1 0)
  have e3 := back_nonneg ((cells zs).getD 1 0)
  unfold cellOut at hca
  generalize cells zs = cs at *
  generalize entryOf (cs.getD 2 0) = E at *
  generalize backOf (cs.getD 1 0) = B at *
  refine sx_cons_next (σ' := (ρL (some (.arr (zs.map PV.int))) (some (intsL cs)) (some (.int B)) (some (.int E)) none none none none none none none, N19)) (sx_unp (d := (.tuple [intsL cs, .int B, .int E] : DV)) (ev_user (vs := ([.arr (zs.map PV.int)] : List DV)) rfl hca) rfl) ?_
  have h1 := Int.fmod_nonneg_of_pos (cs.getD 0 0) (show (0 : Int) < 2 by decide)
  have h2 := Int.fmod_lt_of_pos (cs.getD 0 0) (show (0 : Int) < 2 by decide)
  by_cases h0 : (cs.getD 0 0).fmod 2 = 0
  · exact law_tail T pack2 h7 e3 e1.1 e2 e1.2 (by rw [h0]; rfl)
  · exact law_tail T pack3 h7 e3 e1.1 e2 e1.2 (by rw [show (cs.getD 0 0).fmod 2 = 1 by lia]; rfl)
end
noncomputable def fdAt (K : Frag) (a : Addr) : FuncData := match K.lookup a with
  | some o => (match o.data with | .func fd => fd | _ => default)
  | none => default
noncomputable def objAt (K : Frag) (a : Addr) : Obj := match K.lookup a with
  | some o => o
  | none => { cls := .none, data := .dict #[] }
noncomputable def vsAt (K : Frag) (a : Addr) : Array Value := match (objAt K a).data with
  | .fields vs => vs
  | _ => #[]
noncomputable def tkAt (K : Frag) (a : Addr) : Tok := match (vsAt K a)[1]? with
  | some (Value.str _ t) => t
  | _ => 0
theorem len1 {vs : List Value} (h : vs.length = 1) : ∃ a, vs = [a] := List.length_eq_one_iff.mp h
theorem len2 {vs : List Value} (h : vs.length = 2) : ∃ a b, vs = [a, b] := by
  cases vs with
  | nil => cases h
  | cons a vs => (refine xE (len1 (vs := vs) (by simpa using h)) ?_; rintro b rfl); exact ⟨a, b, rfl⟩
theorem len3 {vs : List Value} (h : vs.length = 3) : ∃ a b c, vs = [a, b, c] := by
  cases vs with
  | nil => cases h
  | cons a vs => (refine xEE (len2 (vs := vs) (by simpa using h)) ?_; rintro b c rfl); exact ⟨a, b, c, rfl⟩
theorem len4 {vs : List Value} (h : vs.length = 4) : ∃ a b c d, vs = [a, b, c, d] := by
  cases vs with
  | nil => cases h
  | cons a vs => (refine xEEE (len3 (vs := vs) (by simpa using h)) ?_; rintro b c d rfl); exact ⟨a, b, c, d, rfl⟩
theorem len5 {vs : List Value} (h : vs.length = 5) : ∃ a b c d e, vs = [a, b, c, d, e] := by
  cases vs with
  | nil => cases h
  | cons a vs => (refine xEEEE (len4 (vs := vs) (by simpa using h)) ?_; rintro b c d e rfl); exact ⟨a, b, c, d, e, rfl⟩
theorem len6 {vs : List Value} (h : vs.length = 6) : ∃ a b c d e f, vs = [a, b, c, d, e, f] := by
  cases vs with
  | nil => cases h
  | cons a vs => obtain ⟨b, c, d, e, f, rfl⟩ := len5 (vs := vs) (by simpa using h); exact ⟨a, b, c, d, e, f, rfl⟩
theorem noFree_of {nm : Names} (h : nm.all (fun x => x.2 != .free) = true) : ∀ x, nm.lookup x ≠ some .free := fun x e => by
  have := List.all_eq_true.mp h (x, .free) (mem_of_lookup e)
  simp at this
theorem ok_div2n1n (P : Params) (H : Heap) (X : (pre.heap_1 P).In H) : FnOk H 21 (fdAt (pre.heap_1 P) 21) nm_div2n1n 3 ir_div2n1n where
  obj := ⟨objAt (pre.heap_1 P) 21, by kernel_rfl, by decide, by decide, X _ _ (by kernel_rfl)⟩
  code := fun s I => ⟨20, objAt (pre.heap_1 P) 20, vsAt (pre.heap_1 P) 20, tkAt (pre.heap_1 P) 20, by kernel_rfl, I.keep _ _ (by decide) (by decide) (X _ _ (by kernel_rfl)), by kernel_rfl, by kernel_rfl⟩
  names := by kernel_rfl
  kind := by kernel_rfl
  co := by kernel_rfl
  gen := by kernel_rfl
  clo := by kernel_rfl
  glob := by kernel_rfl
  blt := by kernel_rfl
  body := by kernel_rfl
  bind := fun vs h => by
    refine xEEE (len3 h) ?_; rintro a b c rfl
    kernel_rfl
  nodup := by decide +kernel
  kinds := by decide +kernel
  npl := by decide +kernel
  noFree := noFree_of (by decide +kernel)
  wf := by decide +kernel
theorem ok_div3n2n (P : Params) (H : Heap) (X : (pre.heap_1 P).In H) : FnOk H 28 (fdAt (pre.heap_1 P) 28) nm_div3n2n 6 ir_div3n2n where
  obj := ⟨objAt (pre.heap_1 P) 28, by kernel_rfl, by decide, by decide, X _ _ (by kernel_rfl)⟩
  code := fun s I => ⟨27, objAt (pre.heap_1 P) 27, vsAt (pre.heap_1 P) 27, tkAt (pre.heap_1 P) 27, by kernel_rfl, I.keep _ _ (by decide) (by decide) (X _ _ (by kernel_rfl)), by kernel_rfl, by kernel_rfl⟩
  names := by kernel_rfl
  kind := by kernel_rfl
  co := by kernel_rfl
  gen := by kernel_rfl
  clo := by kernel_rfl
  glob := by kernel_rfl
  blt := by kernel_rfl
  body := by kernel_rfl
  bind := fun vs h => by
    obtain ⟨a, b, c, d, e, f, rfl⟩ := len6 h
    kernel_rfl
  nodup := by decide +kernel
  kinds := by decide +kernel
  npl := by decide +kernel
  noFree := noFree_of (by decide +kernel)
  wf := by decide +kernel
theorem ok_divmod_pos (P : Params) (H : Heap) (X : (pre.heap_1 P).In H) : FnOk H 49 (fdAt (pre.heap_1 P) 49) nm_divmod_pos 2 ir_divmod_pos where
  obj := ⟨objAt (pre.heap_1 P) 49, by kernel_rfl, by decide, by decide, X _ _ (by kernel_rfl)⟩
  code := fun s I => ⟨48, objAt (pre.heap_1 P) 48, vsAt (pre.heap_1 P) 48, tkAt (pre.heap_1 P) 48, by kernel_rfl, I.keep _ _ (by decide) (by decide) (X _ _ (by kernel_rfl)), by kernel_rfl, by kernel_rfl⟩
  names := by kernel_rfl
  kind := by kernel_rfl
  co := by kernel_rfl
  gen := by kernel_rfl
  clo := by kernel_rfl
  glob := by kernel_rfl
  blt := by kernel_rfl
  body := by kernel_rfl
  bind := fun vs h => by
    refine xEE (len2 h) ?_; rintro a b rfl
    kernel_rfl
  nodup := by decide +kernel
  kinds := by decide +kernel
  npl := by decide +kernel
  noFree := noFree_of (by decide +kernel)
  wf := by decide +kernel
theorem ok_int_divmod (P : Params) (H : Heap) (X : (pre.heap_1 P).In H) : FnOk H 56 (fdAt (pre.heap_1 P) 56) nm_int_divmod 2 ir_int_divmod where
  obj := ⟨objAt (pre.heap_1 P) 56, by kernel_rfl, by decide, by decide, X _ _ (by kernel_rfl)⟩
  code := fun s I => ⟨55, objAt (pre.heap_1 P) 55, vsAt (pre.heap_1 P) 55, tkAt (pre.heap_1 P) 55, by kernel_rfl, I.keep _ _ (by decide) (by decide) (X _ _ (by kernel_rfl)), by kernel_rfl, by kernel_rfl⟩
  names := by kernel_rfl
  kind := by kernel_rfl
  co := by kernel_rfl
  gen := by kernel_rfl
  clo := by kernel_rfl
  glob := by kernel_rfl
  blt := by kernel_rfl
  body := by kernel_rfl
  bind := fun vs h => by
    refine xEE (len2 h) ?_; rintro a b rfl
    kernel_rfl
  nodup := by decide +kernel
  kinds := by decide +kernel
  npl := by decide +kernel
  noFree := noFree_of (by decide +kernel)
  wf := by decide +kernel
theorem ok_ellipsis_match (P : Params) (H : Heap) (X : (pre.heap_1 P).In H) : FnOk H 63 (fdAt (pre.heap_1 P) 63) nm_ellipsis_match 2 ir_ellipsis_match where
  obj := ⟨objAt (pre.heap_1 P) 63, by kernel_rfl, by decide, by decide, X _ _ (by kernel_rfl)⟩
  code := fun s I => ⟨62, objAt (pre.heap_1 P) 62, vsAt (pre.heap_1 P) 62, tkAt (pre.heap_1 P) 62, by kernel_rfl, I.keep _ _ (by decide) (by decide) (X _ _ (by kernel_rfl)), by kernel_rfl, by kernel_rfl⟩
  names := by kernel_rfl
  kind := by kernel_rfl
  co := by kernel_rfl
  gen := by kernel_rfl
  clo := by kernel_rfl
  glob := by kernel_rfl
  blt := by kernel_rfl
  body := by kernel_rfl
  bind := fun vs h => by
    refine xEE (len2 h) ?_; rintro a b rfl
    kernel_rfl
  nodup := by decide +kernel
  kinds := by decide +kernel
  npl := by decide +kernel
  noFree := noFree_of (by decide +kernel)
  wf := by decide +kernel
theorem ok_strip_quoted_realnames (P : Params) (H : Heap) (X : (pre.heap_1 P).In H) : FnOk H 77 (fdAt (pre.heap_1 P) 77) nm_strip_quoted_realnames 1 ir_strip_quoted_realnames where
  obj := ⟨objAt (pre.heap_1 P) 77, by kernel_rfl, by decide, by decide, X _ _ (by kernel_rfl)⟩
  code := fun s I => ⟨76, objAt (pre.heap_1 P) 76, vsAt (pre.heap_1 P) 76, tkAt (pre.heap_1 P) 76, by kernel_rfl, I.keep _ _ (by decide) (by decide) (X _ _ (by kernel_rfl)), by kernel_rfl, by kernel_rfl⟩
  names := by kernel_rfl
  kind := by kernel_rfl
  co := by kernel_rfl
  gen := by kernel_rfl
  clo := by kernel_rfl
  glob := by kernel_rfl
  blt := by kernel_rfl
  body := by kernel_rfl
  bind := fun vs h => by
    refine xE (len1 h) ?_; rintro a rfl
    kernel_rfl
  nodup := by decide +kernel
  kinds := by decide +kernel
  npl := by decide +kernel
  noFree := noFree_of (by decide +kernel)
  wf := by decide +kernel
theorem ok_check_parenthesis (P : Params) (H : Heap) (X : (pre.heap_1 P).In H) : FnOk H 84 (fdAt (pre.heap_1 P) 84) nm_check_parenthesis 1 ir_check_parenthesis where
  obj := ⟨objAt (pre.heap_1 P) 84, by kernel_rfl, by decide, by decide, X _ _ (by kernel_rfl)⟩
  code := fun s I => ⟨83, objAt (pre.heap_1 P) 83, vsAt (pre.heap_1 P) 83, tkAt (pre.heap_1 P) 83, by kernel_rfl, I.keep _ _ (by decide) (by decide) (X _ _ (by kernel_rfl)), by kernel_rfl, by kernel_rfl⟩
  names := by kernel_rfl
  kind := by kernel_rfl
  co := by kernel_rfl
  gen := by kernel_rfl
  clo := by kernel_rfl
  glob := by kernel_rfl
  blt := by kernel_rfl
  body := by kernel_rfl
  bind := fun vs h => by
    refine xE (len1 h) ?_; rintro a rfl
    kernel_rfl
  nodup := by decide +kernel
  kinds := by decide +kernel
  npl := by decide +kernel
  noFree := noFree_of (by decide +kernel)
  wf := by decide +kernel
theorem ok_law_cells (P : Params) (H : Heap) (X : (pre.heap_1 P).In H) : FnOk H 94 (fdAt (pre.heap_1 P) 94) nm_law_cells 1 ir_law_cells where
  obj := ⟨objAt (pre.heap_1 P) 94, by kernel_rfl, by decide, by decide, X _ _ (by kernel_rfl)⟩
  code := fun s I => ⟨93, objAt (pre.heap_1 P) 93, vsAt (pre.heap_1 P) 93, tkAt (pre.heap_1 P) 93, by kernel_rfl, I.keep _ _ (by decide) (by decide) (X _ _ (by kernel_rfl)), by kernel_rfl, by kernel_rfl⟩
  names := by kernel_rfl
  kind := by kernel_rfl
  co := by kernel_rfl
  gen := by kernel_rfl
  clo := by kernel_rfl
  glob := by kernel_rfl
  blt := by kernel_rfl
  body := by kernel_rfl
  bind := fun vs h => by
    refine xE (len1 h) ?_; rintro a rfl
    kernel_rfl
  nodup := by decide +kernel
  kinds := by decide +kernel
  npl := by decide +kernel
  noFree := noFree_of (by decide +kernel)
  wf := by decide +kernel
theorem ok_law_rows (P : Params) (H : Heap) (X : (pre.heap_1 P).In H) : FnOk H 99 (fdAt (pre.heap_1 P) 99) nm_law_rows 1 ir_law_rows where
  obj := ⟨objAt (pre.heap_1 P) 99, by kernel_rfl, by decide, by decide, X _ _ (by kernel_rfl)⟩
  code := fun s I => ⟨98, objAt (pre.heap_1 P) 98, vsAt (pre.heap_1 P) 98, tkAt (pre.heap_1 P) 98, by kernel_rfl, I.keep _ _ (by decide) (by decide) (X _ _ (by kernel_rfl)), by kernel_rfl, by kernel_rfl⟩
  names := by kernel_rfl
  kind := by kernel_rfl
  co := by kernel_rfl
  gen := by kernel_rfl
  clo := by kernel_rfl
  glob := by kernel_rfl
  blt := by kernel_rfl
  body := by kernel_rfl
  bind := fun vs h => by
    refine xE (len1 h) ?_; rintro a rfl
    kernel_rfl
  nodup := by decide +kernel
  kinds := by decide +kernel
  npl := by decide +kernel
  noFree := noFree_of (by decide +kernel)
  wf := by decide +kernel
theorem ok_law_weights (P : Params) (H : Heap) (X : (pre.heap_1 P).In H) : FnOk H 104 (fdAt (pre.heap_1 P) 104) nm_law_weights 3 ir_law_weights where
  obj := ⟨objAt (pre.heap_1 P) 104, by kernel_rfl, by decide, by decide, X _ _ (by kernel_rfl)⟩
  code := fun s I => ⟨103, objAt (pre.heap_1 P) 103, vsAt (pre.heap_1 P) 103, tkAt (pre.heap_1 P) 103, by kernel_rfl, I.keep _ _ (by decide) (by decide) (X _ _ (by kernel_rfl)), by kernel_rfl, by kernel_rfl⟩
  names := by kernel_rfl
  kind := by kernel_rfl
  co := by kernel_rfl
  gen := by kernel_rfl
  clo := by kernel_rfl
  glob := by kernel_rfl
  blt := by kernel_rfl
  body := by kernel_rfl
  bind := fun vs h => by
    refine xEEE (len3 h) ?_; rintro a b c rfl
    kernel_rfl
  nodup := by decide +kernel
  kinds := by decide +kernel
  npl := by decide +kernel
  noFree := noFree_of (by decide +kernel)
  wf := by decide +kernel
theorem ok_law_steps (P : Params) (H : Heap) (X : (pre.heap_1 P).In H) : FnOk H 111 (fdAt (pre.heap_1 P) 111) nm_law_steps 3 ir_law_steps where
  obj := ⟨objAt (pre.heap_1 P) 111, by kernel_rfl, by decide, by decide, X _ _ (by kernel_rfl)⟩
  code := fun s I => ⟨110, objAt (pre.heap_1 P) 110, vsAt (pre.heap_1 P) 110, tkAt (pre.heap_1 P) 110, by kernel_rfl, I.keep _ _ (by decide) (by decide) (X _ _ (by kernel_rfl)), by kernel_rfl, by kernel_rfl⟩
  names := by kernel_rfl
  kind := by kernel_rfl
  co := by kernel_rfl
  gen := by kernel_rfl
  clo := by kernel_rfl
  glob := by kernel_rfl
  blt := by kernel_rfl
  body := by kernel_rfl
  bind := fun vs h => by
    refine xEEE (len3 h) ?_; rintro a b c rfl
    kernel_rfl
  nodup := by decide +kernel
  kinds := by decide +kernel
  npl := by decide +kernel
  noFree := noFree_of (by decide +kernel)
  wf := by decide +kernel
theorem ok_law_flows (P : Params) (H : Heap) (X : (pre.heap_1 P).In H) : FnOk H 118 (fdAt (pre.heap_1 P) 118) nm_law_flows 4 ir_law_flows where
  obj := ⟨objAt (pre.heap_1 P) 118, by kernel_rfl, by decide, by decide, X _ _ (by kernel_rfl)⟩
  code := fun s I => ⟨117, objAt (pre.heap_1 P) 117, vsAt (pre.heap_1 P) 117, tkAt (pre.heap_1 P) 117, by kernel_rfl, I.keep _ _ (by decide) (by decide) (X _ _ (by kernel_rfl)), by kernel_rfl, by kernel_rfl⟩
  names := by kernel_rfl
  kind := by kernel_rfl
  co := by kernel_rfl
  gen := by kernel_rfl
  clo := by kernel_rfl
  glob := by kernel_rfl
  blt := by kernel_rfl
  body := by kernel_rfl
  bind := fun vs h => by
    refine xEEEE (len4 h) ?_; rintro a b c d rfl
    kernel_rfl
  nodup := by decide +kernel
  kinds := by decide +kernel
  npl := by decide +kernel
  noFree := noFree_of (by decide +kernel)
  wf := by decide +kernel
theorem ok_law_balanced (P : Params) (H : Heap) (X : (pre.heap_1 P).In H) : FnOk H 125 (fdAt (pre.heap_1 P) 125) nm_law_balanced 5 ir_law_balanced where
  obj := ⟨objAt (pre.heap_1 P) 125, by kernel_rfl, by decide, by decide, X _ _ (by kernel_rfl)⟩
  code := fun s I => ⟨124, objAt (pre.heap_1 P) 124, vsAt (pre.heap_1 P) 124, tkAt (pre.heap_1 P) 124, by kernel_rfl, I.keep _ _ (by decide) (by decide) (X _ _ (by kernel_rfl)), by kernel_rfl, by kernel_rfl⟩
  names := by kernel_rfl
  kind := by kernel_rfl
  co := by kernel_rfl
  gen := by kernel_rfl
  clo := by kernel_rfl
  glob := by kernel_rfl
  blt := by kernel_rfl
  body := by kernel_rfl
  bind := fun vs h => by
    obtain ⟨a, b, c, d, e, rfl⟩ := len5 h
    kernel_rfl
  nodup := by decide +kernel
  kinds := by decide +kernel
  npl := by decide +kernel
  noFree := noFree_of (by decide +kernel)
  wf := by decide +kernel
theorem ok_law_once (P : Params) (H : Heap) (X : (pre.heap_1 P).In H) : FnOk H 130 (fdAt (pre.heap_1 P) 130) nm_law_once 2 ir_law_once where
  obj := ⟨objAt (pre.heap_1 P) 130, by kernel_rfl, by decide, by decide, X _ _ (by kernel_rfl)⟩
  code := fun s I => ⟨129, objAt (pre.heap_1 P) 129, vsAt (pre.heap_1 P) 129, tkAt (pre.heap_1 P) 129, by kernel_rfl, I.keep _ _ (by decide) (by decide) (X _ _ (by kernel_rfl)), by kernel_rfl, by kernel_rfl⟩
  names := by kernel_rfl
  kind := by kernel_rfl
  co := by kernel_rfl
  gen := by kernel_rfl
  clo := by kernel_rfl
  glob := by kernel_rfl
  blt := by kernel_rfl
  body := by kernel_rfl
  bind := fun vs h => by
    refine xEE (len2 h) ?_; rintro a b rfl
    kernel_rfl
  nodup := by decide +kernel
  kinds := by decide +kernel
  npl := by decide +kernel
  noFree := noFree_of (by decide +kernel)
  wf := by decide +kernel
theorem ok_law_hidden (P : Params) (H : Heap) (X : (pre.heap_1 P).In H) : FnOk H 137 (fdAt (pre.heap_1 P) 137) nm_law_hidden 2 ir_law_hidden where
  obj := ⟨objAt (pre.heap_1 P) 137, by kernel_rfl, by decide, by decide, X _ _ (by kernel_rfl)⟩
  code := fun s I => ⟨136, objAt (pre.heap_1 P) 136, vsAt (pre.heap_1 P) 136, tkAt (pre.heap_1 P) 136, by kernel_rfl, I.keep _ _ (by decide) (by decide) (X _ _ (by kernel_rfl)), by kernel_rfl, by kernel_rfl⟩
  names := by kernel_rfl
  kind := by kernel_rfl
  co := by kernel_rfl
  gen := by kernel_rfl
  clo := by kernel_rfl
  glob := by kernel_rfl
  blt := by kernel_rfl
  body := by kernel_rfl
  bind := fun vs h => by
    refine xEE (len2 h) ?_; rintro a b rfl
    kernel_rfl
  nodup := by decide +kernel
  kinds := by decide +kernel
  npl := by decide +kernel
  noFree := noFree_of (by decide +kernel)
  wf := by decide +kernel
theorem ok_law_waiting (P : Params) (H : Heap) (X : (pre.heap_1 P).In H) : FnOk H 144 (fdAt (pre.heap_1 P) 144) nm_law_waiting 1 ir_law_waiting where
  obj := ⟨objAt (pre.heap_1 P) 144, by kernel_rfl, by decide, by decide, X _ _ (by kernel_rfl)⟩
  code := fun s I => ⟨143, objAt (pre.heap_1 P) 143, vsAt (pre.heap_1 P) 143, tkAt (pre.heap_1 P) 143, by kernel_rfl, I.keep _ _ (by decide) (by decide) (X _ _ (by kernel_rfl)), by kernel_rfl, by kernel_rfl⟩
  names := by kernel_rfl
  kind := by kernel_rfl
  co := by kernel_rfl
  gen := by kernel_rfl
  clo := by kernel_rfl
  glob := by kernel_rfl
  blt := by kernel_rfl
  body := by kernel_rfl
  bind := fun vs h => by
    refine xE (len1 h) ?_; rintro a rfl
    kernel_rfl
  nodup := by decide +kernel
  kinds := by decide +kernel
  npl := by decide +kernel
  noFree := noFree_of (by decide +kernel)
  wf := by decide +kernel
theorem ok_law_brackets (P : Params) (H : Heap) (X : (pre.heap_1 P).In H) : FnOk H 149 (fdAt (pre.heap_1 P) 149) nm_law_brackets 4 ir_law_brackets where
  obj := ⟨objAt (pre.heap_1 P) 149, by kernel_rfl, by decide, by decide, X _ _ (by kernel_rfl)⟩
  code := fun s I => ⟨148, objAt (pre.heap_1 P) 148, vsAt (pre.heap_1 P) 148, tkAt (pre.heap_1 P) 148, by kernel_rfl, I.keep _ _ (by decide) (by decide) (X _ _ (by kernel_rfl)), by kernel_rfl, by kernel_rfl⟩
  names := by kernel_rfl
  kind := by kernel_rfl
  co := by kernel_rfl
  gen := by kernel_rfl
  clo := by kernel_rfl
  glob := by kernel_rfl
  blt := by kernel_rfl
  body := by kernel_rfl
  bind := fun vs h => by
    refine xEEEE (len4 h) ?_; rintro a b c d rfl
    kernel_rfl
  nodup := by decide +kernel
  kinds := by decide +kernel
  npl := by decide +kernel
  noFree := noFree_of (by decide +kernel)
  wf := by decide +kernel
theorem ok_law (P : Params) (H : Heap) (X : (pre.heap_1 P).In H) : FnOk H 154 (fdAt (pre.heap_1 P) 154) nm_law 1 ir_law where
  obj := ⟨objAt (pre.heap_1 P) 154, by kernel_rfl, by decide, by decide, X _ _ (by kernel_rfl)⟩
  code := fun s I => ⟨153, objAt (pre.heap_1 P) 153, vsAt (pre.heap_1 P) 153, tkAt (pre.heap_1 P) 153, by kernel_rfl, I.keep _ _ (by decide) (by decide) (X _ _ (by kernel_rfl)), by kernel_rfl, by kernel_rfl⟩
  names := by kernel_rfl
  kind := by kernel_rfl
  co := by kernel_rfl
  gen := by kernel_rfl
  clo := by kernel_rfl
  glob := by kernel_rfl
  blt := by kernel_rfl
  body := by kernel_rfl
  bind := fun vs h => by
    refine xE (len1 h) ?_; rintro a rfl
    kernel_rfl
  nodup := by decide +kernel
  kinds := by decide +kernel
  npl := by decide +kernel
  noFree := noFree_of (by decide +kernel)
  wf := by decide +kernel
theorem gok_iec (P : Params) (H : Heap) (X : (pre.heap_1 P).In H) : GFnOk H 70 (fdAt (pre.heap_1 P) 70) where
  obj := ⟨objAt (pre.heap_1 P) 70, by kernel_rfl, by decide, by decide, X _ _ (by kernel_rfl)⟩
  code := fun s I => ⟨69, objAt (pre.heap_1 P) 69, vsAt (pre.heap_1 P) 69, tkAt (pre.heap_1 P) 69, by kernel_rfl, I.keep _ _ (by decide) (by decide) (X _ _ (by kernel_rfl)), by kernel_rfl, by kernel_rfl⟩
  names := by kernel_rfl
  kind := by kernel_rfl
  co := by kernel_rfl
  gen := by kernel_rfl
  clo := by kernel_rfl
  glob := by kernel_rfl
  blt := by kernel_rfl
  body := by kernel_rfl
  bind := fun v => by kernel_rfl
theorem ok_i2d (P : Params) (H : Heap) (X : (pre.heap_1 P).In H) : FnOk H 35 (fdAt (pre.heap_1 P) 35) nm_i2d 2 [i2d_s1, .any i2d_def, .any i2d_if, .any i2d_r] where
  obj := ⟨objAt (pre.heap_1 P) 35, by kernel_rfl, by decide, by decide, X _ _ (by kernel_rfl)⟩
  code := fun s I => ⟨34, objAt (pre.heap_1 P) 34, vsAt (pre.heap_1 P) 34, tkAt (pre.heap_1 P) 34, by kernel_rfl, I.keep _ _ (by decide) (by decide) (X _ _ (by kernel_rfl)), by kernel_rfl, by kernel_rfl⟩
  names := by kernel_rfl
  kind := by kernel_rfl
  co := by kernel_rfl
  gen := by kernel_rfl
  clo := by kernel_rfl
  glob := by kernel_rfl
  blt := by kernel_rfl
  body := by kernel_rfl
  bind := fun vs h => by
    refine xEE (len2 h) ?_; rintro a b rfl
    kernel_rfl
  nodup := by decide +kernel
  kinds := by decide +kernel
  npl := by decide +kernel
  noFree := noFree_of (by decide +kernel)
  wf := by decide +kernel
theorem ok_d2i (P : Params) (H : Heap) (X : (pre.heap_1 P).In H) : FnOk H 42 (fdAt (pre.heap_1 P) 42) nm_d2i 2 [.any d2i_def, .any d2i_r] where
  obj := ⟨objAt (pre.heap_1 P) 42, by kernel_rfl, by decide, by decide, X _ _ (by kernel_rfl)⟩
  code := fun s I => ⟨41, objAt (pre.heap_1 P) 41, vsAt (pre.heap_1 P) 41, tkAt (pre.heap_1 P) 41, by kernel_rfl, I.keep _ _ (by decide) (by decide) (X _ _ (by kernel_rfl)), by kernel_rfl, by kernel_rfl⟩
  names := by kernel_rfl
  kind := by kernel_rfl
  co := by kernel_rfl
  gen := by kernel_rfl
  clo := by kernel_rfl
  glob := by kernel_rfl
  blt := by kernel_rfl
  body := by kernel_rfl
  bind := fun vs h => by
    refine xEE (len2 h) ?_; rintro a b rfl
    kernel_rfl
  nodup := by decide +kernel
  kinds := by decide +kernel
  npl := by decide +kernel
  noFree := noFree_of (by decide +kernel)
  wf := by decide +kernel
theorem i2d_code (P : Params) : (fdAt (pre.heap_1 P) 35).code = .ref 34 ∧ (fdAt (pre.heap_1 P) 35).qualname = "_int2digits" := ⟨by kernel_rfl, by kernel_rfl⟩
theorem d2i_code (P : Params) : (fdAt (pre.heap_1 P) 42).code = .ref 41 ∧ (fdAt (pre.heap_1 P) 42).qualname = "_digits2int" := ⟨by kernel_rfl, by kernel_rfl⟩
theorem hd_34 (P : Params) (H : Heap) (X : (pre.heap_1 P).In H) : CodeHd H 34 T1 := codeHd_of_K X (by kernel_rfl)
theorem hd_41 (P : Params) (H : Heap) (X : (pre.heap_1 P).In H) : CodeHd H 41 T2 := codeHd_of_K X (by kernel_rfl)
section
variable {P : Params} {H : Heap} {p : Program} {loose : List Str} {mean : ExcName → Option Value} {mg mb : Str → Option Value}
theorem glob_main {x : Str} {v : Value} (X : (pre.heap_1 P).In H) (T : Top p loose mean mg mb H) (h : nsIn (pre.heap_1 P) mainGlobals x = some (some v)) : GlobIs H x v :=
  ⟨mg, mb, ⟨T.g, T.b, T.nolimit⟩, .inl (mg_of X T.g h)⟩
theorem glob_blt {x : Str} {v : Value} (X : (pre.heap_1 P).In H) (T : Top p loose mean mg mb H) (h : nsIn (pre.heap_1 P) mainGlobals x = some none) (hx : x ≠ "__name__") (hv : bootBuiltins x = some v) : GlobIs H x v :=
  ⟨mg, mb, ⟨T.g, T.b, T.nolimit⟩, .inr ⟨mg_none_of X T.g h, (T.builtins x hx).trans hv⟩⟩
theorem top_h (T : Top p loose mean mg mb H) (h1 : H.get? T1 = some (tabObj #[])) (h2 : H.get? T2 = some (tabObj #[])) : TopH H mg mb := by
  obtain ⟨bm, ob, a1, a2, a3, a4, a5, a6⟩ := T.bmain
  refine ⟨⟨T.g, T.b, T.nolimit⟩, bm, ob, a1, a2, fun q => ?_, fun q => ?_, fun q => ?_, a3, a4, a5, a6⟩
  · refine xEEEAA T.g ?_; intro o es ep e hd _
    rw [q, e] at a3; (have zz := Option.some.inj a3; clear a3; subst zz); rw [hd] at a6; cases a6
  · rw [q, h1] at a3; (have zz := Option.some.inj a3; clear a3; subst zz); cases a4
  · rw [q, h2] at a3; (have zz := Option.some.inj a3; clear a3; subst zz); cases a4
noncomputable def esAt (K : Frag) (a : Addr) : Array DictEntry := match (objAt K a).data with
  | .dict es _ => es
  | _ => #[]
noncomputable def epAt (K : Frag) (a : Addr) : Nat := match (objAt K a).data with
  | .dict _ n => n
  | _ => 0
noncomputable def rowOf (e : DictEntry) : Str × KTD.Dat := (match e.key with | .str x _ => x | _ => Str.empty, .flat (match e.val with | .int i _ => .int i | _ => .none))
noncomputable def rowOk (e : DictEntry) : Bool := (match e.key with | .str _ _ => true | _ => false) && (match e.val with | .int _ _ => true | _ => false)
theorem rows_of {h : Heap} : ∀ {l : List DictEntry}, l.all rowOk = true → KTD.Rows (KTD.Dat.At h) l (l.map rowOf)
  | [], _ => .nil
  | e :: l, hl => by
    rw [List.all_cons, Bool.and_eq_true] at hl
    have he := hl.1
    unfold rowOk at he
    rw [Bool.and_eq_true] at he
    rw [List.map_cons]
    cases hk : e.key <;> rw [hk] at he <;> first | (cases he.1; done) | skip
    rename_i x t
    cases hv : e.val <;> rw [hv] at he <;> first | (cases he.2; done) | skip
    rename_i i u
    have er : rowOf e = (x, .flat (.int i)) := by unfold rowOf; rw [hk, hv]
    rw [er]
    exact .cons hk (by rw [hv]; exact PyProof.V.Flat.int i u) (rows_of hl.2)
noncomputable abbrev tokRows (P : Params) : List (Str × KTD.Dat) := (esAt (pre.heap_1 P) 85).toList.map rowOf
noncomputable def isInt (n : Nat) : Option KTD.Dat → Bool
  | some (.flat (.int i)) => i == (n : Int)
  | _ => false
theorem tok_at (P : Params) : ((sgn.zip sgnN).all fun q => isInt q.2 (KTD.datumAt (strOf [q.1]) (tokRows P))) = true := by kernel_rfl
theorem tok_tab (X : (pre.heap_1 P).In H) : KTD.TextTab H 85 (tokRows P) :=
  ⟨by decide, objAt (pre.heap_1 P) 85, esAt (pre.heap_1 P) 85, epAt (pre.heap_1 P) 85, X _ _ (by kernel_rfl), ⟨by kernel_rfl, by kernel_rfl, by kernel_rfl⟩, by kernel_rfl, rows_of (by kernel_rfl)⟩
noncomputable def tokOf : Option (Option Value) → Tok
  | some (some (.int _ t)) => t
  | some (some (.str _ t)) => t
  | _ => 0
theorem tok_look (P : Params) {k c n : Nat} (h1 : sgn[k]? = some c) (h2 : sgnN[k]? = some n) : KTD.datumAt (strOf [c]) (tokRows P) = some (.flat (.int (n : Int))) := by
  have hm : (c, n) ∈ sgn.zip sgnN := by
    refine List.mem_of_getElem? (i := k) ?_
    rw [List.getElem?_zip_eq_some]
    exact ⟨h1, h2⟩
  have := List.all_eq_true.mp (tok_at P) (c, n) hm
  dsimp only at this
  cases hd : KTD.datumAt (strOf [c]) (tokRows P) with
  | none => rw [hd] at this; exact bF this
  | some d =>
    rw [hd] at this
    cases d with
    | flat d =>
      cases d with
      | int i =>
        have : i = (n : Int) := by
          have h : (i == (n : Int)) = true := this
          simpa using h
        rw [this]
      | _ => exact bF this
    | _ => exact bF this
theorem tok_item {prog : Program} {w : World} (X : (pre.heap_1 P).In H) {k c n : Nat} (h1 : sgn[k]? = some c) (h2 : sgnN[k]? = some n) {A : Around} {E : Value → Shared → Prop} {s : Shared} {t : Tok} {value slice : Expr} {Q : Value → Shared → Prop} (I : Inv H s) (hs : noSlice slice = true)
    (hQ : ∀ t, Q (.int (n : Int) t) { s with toks := s.toks + 1 }) : wpAny (model prog w) A (subscriptTail value slice (.ref 85) (.str (strOf [c]) t)) Q E s := by
  have ho' : s.heap.get? 85 = some (objAt (pre.heap_1 P) 85) := I.keep _ _ (by decide) (by decide) (X _ _ (by kernel_rfl))
  have HH : KTD.Here s.heap s.heap 85 (tokRows P) := ⟨⟨by decide, objAt (pre.heap_1 P) 85, esAt (pre.heap_1 P) 85, epAt (pre.heap_1 P) 85, ho', ⟨by kernel_rfl, by kernel_rfl, by kernel_rfl⟩, by kernel_rfl, rows_of (by kernel_rfl)⟩, fun _ _ e => e⟩
  have hT : s.TypeIs (.ref 85) "dict" := ⟨_, ho', by kernel_rfl⟩
  refine subscriptTail_builtin_flat hT slot_dict_getitem.lookup ?_ (by cases slice <;> first | rfl | exact bF hs)
  unfold getItem
  try with_reducible refine wpAny_holding ?_
  refine wpAny_bind (wpAny_sequenceKey hT (by decide) ?_)
  refine wpAny_bind (wpAny_callSpecial?_slot (name := Str.ofString "__getitem__") hT slot_dict_getitem (wpAny_call_entry slot_dict_getitem hT entry_dict_getitem ?_ (args_dict_getitem _ _)))
  show wpAny _ _ (dictGet 85 (.str (strOf [c]) t) >>= _) _ _ s
  refine wpAny_bind (KTD.dictGet_text HH (fun d v ha hv => ?_) fun hn => ?_)
  · rw [tok_look P h1 h2] at ha
    (have zz := Option.some.inj ha; clear ha; subst zz)
    refine xE (PyProof.V.Flat.int_inv hv) ?_; rintro u rfl
    exact wpAny_pure ⟨_, rfl, wpAny_pure ⟨(fun a q => by cases q), hQ u⟩⟩
  · rw [tok_look P h1 h2] at hn; cases hn
theorem base_of {prog : Program} {w : World} (X : (pre.heap_1 P).In H) (T : Top p loose mean mg mb H) (hz : 37 < H.objs.size) : Base prog w H where
  fn := fun f => by
    cases f
    · exact glob_blt X T (by kernel_rfl) (by decide) (by kernel_rfl)
    · exact glob_blt X T (by kernel_rfl) (by decide) (by kernel_rfl)
    · exact glob_blt X T (by kernel_rfl) (by decide) (by kernel_rfl)
    · exact glob_blt X T (by kernel_rfl) (by decide) (by kernel_rfl)
    · exact glob_blt X T (by kernel_rfl) (by decide) (by kernel_rfl)
  gc := fun g => by
    cases g
    · exact ⟨_, glob_main X T (v := .int 4000 (tokOf (nsIn (pre.heap_1 P) mainGlobals "_DIV_LIMIT"))) (by kernel_rfl)⟩
    · exact ⟨_, glob_main X T (v := .str (strOf [46, 46, 46]) (tokOf (nsIn (pre.heap_1 P) mainGlobals "ELLIPSIS_MARKER"))) (by kernel_rfl)⟩
    · exact ⟨_, glob_main X T (v := .int 0 (tokOf (nsIn (pre.heap_1 P) mainGlobals "ENDMARKER"))) (by kernel_rfl)⟩
  rng := glob_blt X T (by kernel_rfl) (by decide) (by kernel_rfl)
  rev := glob_blt X T (by kernel_rfl) (by decide) (by kernel_rfl)
  big := hz
  tok := ⟨85, glob_main X T (by kernel_rfl), fun k c n h1 h2 A E s t value slice Q I hs hQ => tok_item X h1 h2 I hs hQ⟩
theorem glob_enum (X : (pre.heap_1 P).In H) (T : Top p loose mean mg mb H) : GlobIs H "enumerate" (.type "enumerate") := glob_blt X T (by kernel_rfl) (by decide) (by kernel_rfl)
end
theorem env_one {prog : Program} {w : World} {a : Addr} {fd : FuncData} {x : Str} {v : Value} {s : Shared} (hk : fd.scope.kind = .function) (hl : fd.scope.names.lookup x = some .local) : EnvNew prog w a fd [(x, v)] s := by
  intro A E Q hQ
  have hlE : (callEnvC fd s.heap.objs.size a).kindOf x = some .local := hl
  refine wpAny_mono (Q := fun env s' => (env = callEnvC fd s.heap.objs.size a ∧ InCallC s (callEnvC fd s.heap.objs.size a).locals (fun y => if y = x then some v else none) (callEnvC fd s.heap.objs.size a).cells (fun _ => none) s' ∧ 1 ≤ s'.toks) ∧ LeS s s') (wpAny_le ?_) (fun env s' z => ?_) fun _ _ z => z
  · simp only [newFunctionEnv, Option.isSome_none, Bool.false_eq_true, if_false]
    refine wpAny_bind (wpAny_alloc ?_)
    refine wpAny_bind (wpAny_layCells _ (fun name kind cells => by cases hkc : kind == NameKind.cell <;> simp [hkc]) _ _ _ _ ?_)
    have ok := cellsFrom_ok fd.scope.names (s.heap.push { cls := .type "frame", data := .dict #[] }) (s.heap.objs.size + 1) [] ⟨fun _ _ hm => (nomatch hm), List.Pairwise.nil⟩ (by rw [Heap.size_push]; exact Nat.le_refl _)
    rw [Heap.size_push] at ok
    rw [show ({ s with heap := s.heap.push { cls := .type "frame", data := .dict #[] } } : Shared).heap.objs.size = s.heap.objs.size + 1 from Heap.size_push ..]
    have x0 : InCallC s (callEnvC fd s.heap.objs.size a).locals (fun _ => none) (callEnvC fd s.heap.objs.size a).cells (fun _ => none) { s with heap := pushCells (s.heap.push { cls := .type "frame", data := .dict #[] }) fd.scope.names } :=
      ⟨⟨⟨_, _, rfl⟩, (Heap.Ns.new s.heap (.type "frame")).keeps (pushCells_keeps _ _), fun b o e => pushCells_keeps _ _ b o (Heap.get?_push_of_some _ e), Nat.le_refl _⟩, fun n c hc => (ok.empty n c (mem_of_lookup hc)).1, ok.apart, fun n c hm => (ok.empty n c hm).2⟩
    rw [List.forIn_cons]
    refine wpAny_bind (wpAny_bind (wpAny_bind (wpAny_storeName_local (env := callEnvC fd s.heap.objs.size a) hlE x0.toInCall.ns (fun h' hn' hs' => ?_) (by show (fd.scope.kind == ScopeKind.class || (fd.scope.kind == ScopeKind.module && _)) = false; rw [hk]; rfl))))
    refine wpAny_pure ?_
    dsimp only
    rw [List.forIn_nil]
    refine wpAny_pure (wpAny_pure ⟨rfl, ⟨⟨⟨h', _, rfl⟩, hn', fun b o e => ?_, x0.toInCall.fresh⟩, fun k c hc => ?_, x0.apart, x0.above⟩, Nat.le_add_left 1 _⟩)
    · exact hs'.extBut b o (Nat.ne_of_lt (Nat.lt_of_lt_of_le (Heap.lt_size e) x0.toInCall.fresh)) (x0.toInCall.keep b o e)
    · exact (x0.cell k c hc).sameBut hs' (Nat.ne_of_gt (x0.above k c (mem_of_lookup hc)))
  · refine xA z ?_; clear z; rintro ⟨rfl, ic, ht⟩ le
    refine hQ s' ?_ le ht
    unfold bindL bindC
    rw [if_pos hlE, if_pos hlE]
    exact ic
theorem ints_rep {P : Addr → Prop} {h : Heap} : ∀ {vs : List Value} {ns : List Int}, IntsAre vs ns → RepL P h vs (ns.map PV.int)
  | _, _, .nil => .nil
  | _, _, .cons n t r => .cons (.int n t) (ints_rep r)
section
variable {P : Params} {H : Heap} {prog : Program} {w : World} {loose : List Str} {mean : ExcName → Option Value} {mg mb : Str → Option Value} {vp : Program}
theorem hasF_of {f : Nat} {a : Addr} {fd : FuncData} {nm : Names} {np : Nat} {l : List St} (X : (pre.heap_1 P).In H) (T : Top vp loose mean mg mb H) (K : FnOk H a fd nm np l) (h : nsIn (pre.heap_1 P) mainGlobals (ufName f) = some (some (.ref a))) : HasF H f nm np l := ⟨a, fd, K, glob_main X T h⟩
theorem tables_ok (X : (pre.heap_1 P).In H) (T : Top vp loose mean mg mb H) (h1 : H.get? T1 = some (tabObj #[])) (h2 : H.get? T2 = some (tabObj #[])) :
    ∀ x ∈ ([(10, caI), (12, wI), (14, flI), (15, baI), (16, onI), (19, brI)] : List (Nat × (List DV → Option DV))), UserOk prog w intDom H 28 x.1 x.2 := by
  have b : Base prog w H := base_of X T (Heap.lt_size h2)
  have TH := top_h T h1 h2
  have cx0 : Cx prog w intDom H tab0 tok0 0 := b.cx fun f => user_none fun _ => rfl
  have U2 := i2d_ok cx0 TH (hd_34 P H X) (ok_i2d P H X) (i2d_code P).1 (i2d_code P).2 (glob_main X T (by kernel_rfl))
  have U3 := d2i_ok cx0 TH (hd_41 P H X) (ok_d2i P H X) (d2i_code P).1 (d2i_code P).2 (glob_main X T (by kernel_rfl))
  have u5 := div_tower b (hasF_of X T (ok_div2n1n P H X) (by kernel_rfl)) (hasF_of X T (ok_div3n2n P H X) (by kernel_rfl)) (hasF_of X T (ok_divmod_pos P H X) (by kernel_rfl)) (hasF_of X T (ok_int_divmod P H X) (by kernel_rfl)) U2 U3
  have g6 : GlobIs H (ufName 6) (.ref 63) := glob_main X T (by kernel_rfl)
  have g11 : GlobIs H (ufName 11) (.ref 99) := glob_main X T (by kernel_rfl)
  have g : GenOk H := ⟨glob_enum X T, 70, _, gok_iec P H X, glob_main X T (by kernel_rfl)⟩
  intro x hx
  simp only [List.mem_cons, List.not_mem_nil, or_false] at hx
  rcases hx with rfl | rfl | rfl | rfl | rfl | rfl
  · exact (cel_ok b (hasF_of X T (ok_law_cells P H X) (by kernel_rfl))).mono (by lia)
  · exact (wts_ok b (ok_ellipsis_match P H X) g6 (ok_law_rows P H X) g11 (ok_law_weights P H X) (glob_main X T (by kernel_rfl))).mono (by lia)
  · exact (flows_ok b (ok_ellipsis_match P H X) g6 (ok_law_rows P H X) g11 (ok_law_steps P H X) (glob_main X T (by kernel_rfl)) (ok_law_flows P H X) (glob_main X T (by kernel_rfl))).mono (by lia)
  · exact bal_ok b u5 (hasF_of X T (ok_law_balanced P H X) (by kernel_rfl))
  · exact (once_ok b (ok_ellipsis_match P H X) g6 (ok_law_rows P H X) g11 (ok_law_once P H X) (glob_main X T (by kernel_rfl))).mono (by lia)
  · exact (brk_ok b g (hasF_of X T (ok_strip_quoted_realnames P H X) (by kernel_rfl)) (hasF_of X T (ok_check_parenthesis P H X) (by kernel_rfl)) (hasF_of X T (ok_law_hidden P H X) (by kernel_rfl)) (hasF_of X T (ok_law_waiting P H X) (by kernel_rfl)) (hasF_of X T (ok_law_brackets P H X) (by kernel_rfl))).mono (by lia)
theorem law_call {s : Shared} {a : Addr} {vals : List Value} {zs : List Int} (X : (pre.heap_1 P).In s.heap) (T : Top vp loose mean mg mb s.heap) (h1 : s.heap.get? T1 = some (tabObj #[])) (h2 : s.heap.get? T2 = some (tabObj #[])) (hg : s.gens = #[]) (hL : s.heap.IsList a vals.toArray) (hI : IntsAre vals zs) (hz : zs.length ≤ 63) :
    Ok (model prog w) callerA (call (.ref 154) [.ref a]) (fun v s' => Step none' s s' ∧ v = .bool true) s := by
  have hu := tables_ok (prog := prog) (w := w) X T h1 h2
  have b : Base prog w s.heap := base_of X T (Heap.lt_size h2)
  have C := b.cx (dm := intDom) (tab := tabL [(10, caI), (12, wI), (14, flI), (15, baI), (16, onI), (19, brI)]) (tabL_ok hu)
  have T6 : Tabs6 (tabL [(10, caI), (12, wI), (14, flI), (15, baI), (16, onI), (19, brI)]) := ⟨fun _ _ h => h, fun _ _ h => h, fun _ _ h => h, fun _ _ h => h, fun _ _ h => h, fun _ _ h => h⟩
  have I : Inv s.heap { s with toks := s.toks + 1 } := ⟨fun _ _ _ _ e => e, Nat.le_refl _, ⟨⟨#[], h1, .inl rfl⟩, ⟨#[], h2, .inl rfl⟩⟩, .of_eq hg, Nat.le_add_left 1 _⟩
  have K := ok_law P s.heap X
  refine (call_core (prog := prog) (w := w) (dm := intDom) (r := 28) (P := fun _ => True) (d := .bool true) (xs := [.arr (zs.map PV.int)]) (fun σ o => sx (ev intDom (tabL [(10, caI), (12, wI), (14, flI), (15, baI), (16, onI), (19, brI)]) (fun _ => none) 10) 3 6 ir_law σ = some o) K rfl (law_run T6 hz) (fun A env B P W s σ o _ R he S => sx_ok C R 6 ir_law _ _ P W s K.wf he S) ⟨rfl, by decide, by decide⟩ I T.nolimit (K.code { s with toks := s.toks + 1 } I) (fun _ _ => trivial) (.cons (.arr trivial hL ?_) .nil) (env_one K.kind (by rw [K.names]; decide +kernel))).mono fun v s' z => ⟨z.1, ?_⟩
  · exact Eq.mpr (congrArg (RepL _ s.heap vals.toArray.toList) (dvs_id _)) (by rw [List.toList_toArray]; exact ints_rep hI)
  · have := Eq.mp (congrArg (Rep _ s'.heap v) (denD _)) z.2
    (have zq : _ = _ := Rep.inv this; clear this; subst zq); rfl
theorem old_ok {s s' : Shared} (X : (pre.heap_1 P).In s.heap) (h1 : s.heap.get? T1 = some (tabObj #[])) (h2 : s.heap.get? T2 = some (tabObj #[])) (y : Step none' s s') : OldK s.heap s'.heap := by
  refine xA (y.tabs ⟨⟨#[], h1, .inl rfl⟩, ⟨#[], h2, .inl rfl⟩⟩) ?_; rintro ⟨ps1, e1, _⟩ ⟨ps2, e2, _⟩
  refine ⟨fun b o e => ?_, fun b o e => ?_⟩
  · by_cases q1 : b = T1
    · subst q1
      obtain rfl := Option.some.inj (h1.symm.trans e)
      exact .inr (.inl ⟨((hd_34 P s.heap X).tab h1).isCodeTable, rfl, #[], ps1, rfl, by rw [Array.empty_append]; exact e1⟩)
    · by_cases q2 : b = T2
      · subst q2
        obtain rfl := Option.some.inj (h2.symm.trans e)
        exact .inr (.inl ⟨((hd_41 P s.heap X).tab h2).isCodeTable, rfl, #[], ps2, rfl, by rw [Array.empty_append]; exact e2⟩)
      · exact .inl (y.keep b o (fun q => q) q1 q2 e)
  · by_cases q1 : b = T1
    · subst q1; exact ⟨_, e1⟩
    · by_cases q2 : b = T2
      · subst q2; exact ⟨_, e2⟩
      · exact ⟨o, y.keep b o (fun q => q) q1 q2 e⟩
end
theorem the_walk : WalkO vP looseK (XL vP []) HK.says rP dK kK fun f vs => PySem.call f vs := by
  intro w s₀ s₁ mg mb G Y fa o pm cd doc dV kV ho hd hcd hD hmg hg args vals as hpre hlay hrd hwl hlo
  have X := km_in_of Y
  have hT := km_tabs_of Y
  clear ho hd hcd hD
  refine Ground.open G ?_
  intro T B D TE TW
  have h37 : s₁.heap.get? T2 = some (tabObj #[]) := hT 37 (by decide)
  have h30 : s₁.heap.get? T1 = some (tabObj #[]) := hT 30 (by decide)
  have hn : dK.name = "law" := by kernel_rfl
  rw [hn] at hmg
  have hm : mg "law" = some (.ref 154) := mg_of X T.g (by kernel_rfl)
  have hfa : fa = 154 := by rw [hm] at hmg; injection hmg with e; injection e with e; exact e.symm
  subst hfa
  clear B D TE TW G Y
  wrow_args hpre hlay hrd hwl hlo
  rename_i hcond _
  refine wpAny_mono (law_call (prog := rP.prog) (w := w) X T h30 h37 hg (by assumption) (by assumption) (by lia)) (fun v s' z => ?_) fun _ _ z => z.elim
  refine xA z ?_; clear z; rintro y rfl
  exact ⟨.inl ⟨_, .bool true, [], rfl, fun _ => rfl, .bool true, by wrow_post, fun _ => ⟨List.nodup_nil, fun _ h => nomatch h⟩⟩, old_ok X h30 h37 y, y.os, y.bare (.of_eq hg)⟩
end Mine
theorem PySem.Challenge.cw_uc0043_01_holds : PySem.Challenge.rw_uc0043_01.Holds :=
  Mine.hd Mine.the_walk
