import PyProof.Rows.All
import Wide.All
import OpenK.AllK
import Wide.FinOn
import PySem.Challenge.RW_oy0305_01
set_option Elab.async false
set_option maxRecDepth 100000
set_option linter.unusedVariables false
set_option linter.unusedSimpArgs false
set_option rowWalk.seconds 0
set_option compiler.extract_closed false
section
open PySem PySem.W PyProof.Rows
set_option Elab.async false
set_option maxRecDepth 100000
set_option maxHeartbeats 8000000
namespace Mine
noncomputable def fencedF (p : Program) (w : World) (N : Nat) : Option Shared :=
  (PySem.W.Fast.tw10274390034422433532 PySem.W.Fast.tw14364793385576792824 (opening p) w N (PySem.W.Fast.tw1435165496053646825 (opening p)).1 (PySem.W.Fast.tw1435165496053646825 (opening p)).2).bind (PySem.W.Fast.tw14289696077712309145 p)
theorem fencedF_eq (p : Program) (w : World) (N : Nat) : fencedOpening treeTable p w N = fencedF p w N := by
  unfold fencedF fencedOpening
  rw [PySem.W.Fast.te10274390034422433532, PySem.W.Fast.te14364793385576792824, PySem.W.Fast.te1435165496053646825, PySem.W.Fast.te14289696077712309145]
noncomputable def ofObjs : List Obj → Nat → BT → BT
  | [], _, t => t
  | o :: r, n, t => ofObjs r (n + 1) (t.ins n o)
noncomputable def toT (s : Shared) : SharedT := ⟨ofObjs s.heap.objs.toList 0 .nil, s.heap.objs.size, s.heap.life, s.gens, s.drawn, s.toks, s.os⟩
noncomputable def topRunF (tb : String → Option Builtin) (p : Program) (w : World) (n₀ : Nat) (ann : Option Value) (n : Nat) : SharedT → Thread → Option SharedT :=
  n.rec (fun _ _ => none) fun _ more s t => bif through t then some s else bif PySem.W.Fast.tw6613529449190102663 n₀ ann t then (PySem.W.Fast.tw10156331382660048174 (PySem.W.Fast.tw11892475500146522536 tb) p w s t).bind fun r => more r.1 r.2 else none
theorem topRunF_of {tb : String → Option Builtin} {p : Program} {w : World} {n₀ : Nat} {ann : Option Value} (n : Nat) : ∀ (s r : SharedT) (t : Thread), topRunF tb p w n₀ ann n s t = some r → topRun tb p w n₀ ann n s.abs t = some r.abs := by
  induction n with
  | zero => exact fun _ _ _ h => nomatch h
  | succ n ih =>
    intro s r t h
    replace h : (bif through t then some s else bif PySem.W.Fast.tw6613529449190102663 n₀ ann t then (PySem.W.Fast.tw10156331382660048174 (PySem.W.Fast.tw11892475500146522536 tb) p w s t).bind fun r => topRunF tb p w n₀ ann n r.1 r.2 else none) = some r := h
    rw [← PySem.W.Fast.te6613529449190102663, ← PySem.W.Fast.te10156331382660048174, ← PySem.W.Fast.te11892475500146522536] at h
    rw [topRun]
    rcases Bool.eq_false_or_eq_true (through t) with x | x <;> rw [x] at h ⊢
    · exact congrArg (Option.map SharedT.abs) h
    · rcases Bool.eq_false_or_eq_true (stepOk n₀ ann t) with y | y <;> rw [y] at h ⊢
      · obtain ⟨q, hq, hr⟩ := Option.bind_eq_some_iff.mp h
        have z := stepT_spec hq
        simp only [z]
        exact ih _ _ _ hr
      · exact nomatch h
noncomputable def RT (p : Program) (N : Nat) (w : World) (s : Shared) : Option SharedT :=
  topRunF PySem.W.Fast.tw14364793385576792824 p w s.heap.objs.size (s.heap.nsMap mainGlobals "__annotations__") N (toT s) (topStub p)
noncomputable def lookT (p : Program) (s : Shared) (r : SharedT) : Bool :=
  (s.heap.isNs mainGlobals && s.gens.size == 0) && (staticsOk (PySem.W.Fast.tw5923862056798008813 p.main.body) s.heap r.abs.heap && namesBound p r.abs.heap && gensDone r.abs && laidKept s.heap r.abs.heap)
theorem top_of {p : Program} {N : Nat} {w : World} {s : Shared} {r : SharedT} (ha : (toT s).abs = s) (h : RT p N w s = some r) (c : lookT p s r = true) : topFrom treeTable p w N s = some r.abs := by
  obtain ⟨c1, c2⟩ := Bool.and_eq_true_iff.mp c
  unfold RT at h
  rw [← PySem.W.Fast.te14364793385576792824] at h
  have t := topRunF_of _ _ _ _ h
  rw [ha] at t
  rw [← PySem.W.Fast.te5923862056798008813] at c2
  unfold topFrom
  rw [c1]
  show (topRun treeTable p w s.heap.objs.size (s.heap.nsMap mainGlobals "__annotations__") N s (topStub p)).bind _ = _
  rw [t]
  show (match staticsOk (importedModules p.main.body) s.heap r.abs.heap && namesBound p r.abs.heap && gensDone r.abs && laidKept s.heap r.abs.heap with | true => some r.abs | false => none) = _
  rw [c2]
theorem left_of {p q : Program} {loose : List Str} {Xt : Shared → Bool} {α : Type} {Yf : Shared → α} {Ya : World → α} {N : Nat}
    (h0 : ∀ w, (fencedF p w N).map (fun s => (toT s).abs) = fencedF p w N)
    (h1 : ∀ w, (fencedF p w N).bind (fun s => (RT p N w s).map fun r => lookT p s r) = some true)
    (h2 : ∀ w, ((fencedF p w N).bind (RT p N w)).map (fun r => PySem.W.Fast.tw4187177175401517315 q loose (PySem.W.Fast.tw5923862056798008813 p.main.body) Xt true r.abs) = some (openGood q loose))
    (h3 : ∀ w, ((fencedF p w N).bind (RT p N w)).map (fun r => Yf r.abs) = some (Ya w)) : LeftO p q loose Xt Yf Ya N := by
  intro w
  have a := h0 w
  have b := h1 w
  have c := h2 w
  have d := h3 w
  cases hs : fencedF p w N with
  | none => rw [hs] at b; cases b
  | some s =>
    rw [hs] at a b c d
    have a' : (toT s).abs = s := Option.some.inj a
    cases hr : RT p N w s with
    | none =>
      replace b : (RT p N w s).map (fun r => lookT p s r) = some true := b
      rw [hr] at b; cases b
    | some r =>
      replace b : (RT p N w s).map (fun r => lookT p s r) = some true := b
      replace c : (RT p N w s).map _ = _ := c
      replace d : (RT p N w s).map _ = _ := d
      rw [hr] at b c d
      have b' : lookT p s r = true := Option.some.inj b
      have x := Option.some.inj c
      rw [← PySem.W.Fast.te4187177175401517315, ← PySem.W.Fast.te5923862056798008813] at x
      unfold openEnds
      rw [fencedF_eq, hs]
      show (topFrom treeTable p w N s).map _ = _
      rw [top_of a' hr b']
      exact congrArg some (Prod.ext x (Option.some.inj d))
noncomputable def view : Program := PySem.W.view PySem.Challenge.rw_oy0305_01.row.toRowW.prog [0, 46]
noncomputable def loose : List Str := [Str.ofString "_wall", Str.ofString "_twin_re_1", Str.ofString "_twin_re_2", Str.ofString "CRLF", Str.ofString "quotedata", Str.ofString "_NODE_OUT", Str.ofString "_NODE_DONE", Str.ofString "_NodeInfo", Str.ofString "CycleError", Str.ofString "TopologicalSorter", Str.ofString "S_IMODE", Str.ofString "S_IFMT", Str.ofString "S_IFDIR", Str.ofString "S_IFCHR", Str.ofString "S_IFBLK", Str.ofString "S_IFREG", Str.ofString "S_IFIFO", Str.ofString "S_IFLNK", Str.ofString "S_IFSOCK", Str.ofString "S_ISDIR", Str.ofString "S_ISLNK", Str.ofString "S_ISUID", Str.ofString "S_ISGID", Str.ofString "S_ISVTX", Str.ofString "S_IRUSR", Str.ofString "S_IWUSR", Str.ofString "S_IXUSR", Str.ofString "S_IRGRP", Str.ofString "S_IWGRP", Str.ofString "S_IXGRP", Str.ofString "S_IROTH", Str.ofString "S_IWOTH", Str.ofString "S_IXOTH", Str.ofString "_filemode_table", Str.ofString "filemode", Str.ofString "_law_files", Str.ofString "_law_rounds", Str.ofString "_law_text", Str.ofString "_law_shown", Str.ofString "_law_plain", Str.ofString "_law_depth"]

open PySem.W.Fast in
theorem said_ok : PySem.Challenge.rw_oy0305_01.wellSaid = true := by
  unfold OpenLaw.wellSaid OpenRow.wellSaid OpenRow.partSaid looksOpen
  repeat' with_reducible refine look_both ?_ ?_
  all_goals try rw [te11788848310118352699]
  all_goals try rw [te12862048085361865435]
  all_goals try rw [te9807087744658564304]
  all_goals try rw [te8377067652309620493]
  all_goals try rw [te18344453789297297638]
  all_goals try rw [te14412699480532031325]
  all_goals try rw [te8326940854005059898]
  all_goals try rw [te17119622794617984870]
  all_goals try rw [te5923862056798008813]
  all_goals try rw [te17691160309236699985]
  all_goals try rw [te13343964577679436407]
  all_goals try rw [te17868728402115742887]
  all_goals try rw [te10501279942588096481]
  all_goals try rw [te8179353310426384613]
  all_goals try rw [te9558739934217749035]
  all_goals try rw [te16286561074155671207]
  all_goals try rw [te797321630700447069]
  all_goals try rw [te6984425678791042302]
  all_goals decide +kernel
theorem hole {r : OpenRow} (H : Hook) (hw : r.toRowW.promised) (hc : H = H → r.Holds) : r.Holds := hc rfl
section
set_option hygiene false in
local macro_rules | `(tactic| o_law) => `(tactic| refine holds_law said_ok fun said => ?_)
set_option hygiene false in
local macro_rules | `(tactic| o_head $H) => `(tactic| refine hole $H ?hw ?hc)
open_top h0 for PySem.Challenge.rw_oy0305_01
end
end Mine
end
section
open PySem PySem.W PyProof.Rows
set_option Elab.async false
set_option maxRecDepth 100000
set_option maxHeartbeats 8000000
namespace Mine
noncomputable def asL : List Nat := [2, 3, 32, 34, 35, 37, 38, 42, 43, 47, 48, 49, 51, 52, 54, 55, 63, 64, 66, 67, 69, 70, 71, 73, 74, 75, 76, 77, 80, 87, 88, 89, 90, 100, 101, 103, 104, 106, 107, 108, 110, 111, 113, 114, 115, 117, 118, 120, 121, 122, 125, 126, 127, 129, 130, 132, 133, 134, 136, 137, 139, 140, 141, 143, 144, 146, 147, 148, 150, 151, 153, 154, 155, 157, 158, 160, 161, 162, 164, 165, 167, 168, 169, 170, 171, 172, 173, 176, 178, 179, 181, 182, 183, 185, 186, 188, 189, 190, 192, 193, 195, 196, 197, 199, 200, 202, 203, 204, 205, 206, 207, 208, 209, 210, 211, 212, 213, 214, 215, 216, 217, 218, 219, 220, 221, 222, 223, 224, 225, 226, 227, 228, 229, 230, 231, 232, 233, 234, 235, 236, 237, 239, 240, 242, 243, 244, 246, 247, 249, 250, 251, 254, 255, 256, 258, 259, 261, 262, 263, 265, 266, 268, 269, 270, 273, 274, 275, 277, 278, 280, 281, 282, 285, 286]
theorem keysK : ∀ P, asL = (h0.heap_1 P).map (·.1) := fun _ => by kernel_rfl!
theorem run0 (w : World) : (fencedF PySem.Challenge.rw_oy0305_01.row.toRowW.prog w 4018).map (fun s => (toT s).abs) = fencedF PySem.Challenge.rw_oy0305_01.row.toRowW.prog w 4018 := by kernel_rfl!
theorem run1 (w : World) : (fencedF PySem.Challenge.rw_oy0305_01.row.toRowW.prog w 4018).bind (fun s => (RT PySem.Challenge.rw_oy0305_01.row.toRowW.prog 4018 w s).map fun r => lookT PySem.Challenge.rw_oy0305_01.row.toRowW.prog s r) = some true := by kernel_rfl!
theorem run2 (w : World) : ((fencedF PySem.Challenge.rw_oy0305_01.row.toRowW.prog w 4018).bind (RT PySem.Challenge.rw_oy0305_01.row.toRowW.prog 4018 w)).map (fun r => PySem.W.Fast.tw4187177175401517315 view loose (PySem.W.Fast.tw5923862056798008813 PySem.Challenge.rw_oy0305_01.row.toRowW.prog.main.body) (fun s => xlAt view [] s && recOk (RowW.records PySem.Challenge.rw_oy0305_01.row.toRowW) s) true r.abs) = some (openGood view loose) := by kernel_rfl!
theorem run3 (w : World) : ((fencedF PySem.Challenge.rw_oy0305_01.row.toRowW.prog w 4018).bind (RT PySem.Challenge.rw_oy0305_01.row.toRowW.prog 4018 w)).map (fun r => (kHook h0.heap_1 asL keysK).obs r.abs) = some ((kHook h0.heap_1 asL keysK).val w) := by kernel_rfl!
theorem left : LeftO PySem.Challenge.rw_oy0305_01.row.toRowW.prog view loose (fun s => xlAt view [] s && recOk (RowW.records PySem.Challenge.rw_oy0305_01.row.toRowW) s) (kHook h0.heap_1 asL keysK).obs (kHook h0.heap_1 asL keysK).val 4018 :=
  left_of run0 run1 run2 run3
end Mine
end
section
open PySem PySem.W PyProof.Rows
set_option Elab.async false
set_option maxRecDepth 100000
set_option maxHeartbeats 8000000
namespace Mine
theorem open_law {d : DefRec} {kwd : List (Str × PySem.Expr)} (said : PySem.Challenge.rw_oy0305_01.row.wellSaid = true)
    (hdef : defOf view PySem.Challenge.rw_oy0305_01.row.name = some (d, kwd)) (hp : PySem.Challenge.rw_oy0305_01.row.prog.theDef PySem.Challenge.rw_oy0305_01.row.name = some (d.params, d.body, d.scope)) (hk : kwWritten? d.params.kwonlyargs d.params.kw_defaults = some kwd)
    (hw : PySem.Challenge.rw_oy0305_01.row.toRowW.promised) (call : WalkO view loose (XL view []) (kHook h0.heap_1 asL keysK).says PySem.Challenge.rw_oy0305_01.row.toRowW d kwd fun f vs => PySem.call f vs) : PySem.Challenge.rw_oy0305_01.row.Holds :=
  holds_open (q := view) (loose := loose) (XP := XL view []) (YP := (kHook h0.heap_1 asL keysK).says) (N := 4018) left (kHook h0.heap_1 asL keysK).of (kHook h0.heap_1 asL keysK).keeps (fun s e => xl_of s (Bool.and_eq_true_iff.mp e).1) XL.keeps hdef hp hk (fun s e => recFacts_of (Bool.and_eq_true_iff.mp e).2) (by rfl) said (by decide +kernel) ⟨rfl, rfl, rfl, rfl, rfl, by decide +kernel⟩ hw call
section
set_option hygiene false in
local macro_rules | `(tactic| o_law) => `(tactic| refine holds_law said_ok fun said => ?_)
set_option hygiene false in
local macro_rules | `(tactic| o_head $H) => `(tactic| refine open_law said (by rfl) (by rfl) (by rfl) ?hw ?hc)
open_top hd for PySem.Challenge.rw_oy0305_01
end
end Mine
end
section
open PySem PySem.W PyProof.Rows PySem.Spec PySem.Calls
set_option Elab.async false
set_option maxRecDepth 100000
set_option maxHeartbeats 4000000
namespace Mine
theorem ob_a {p1 : Prop} {p2 : Prop} {G : Prop} (h : p1 ∧ p2) (k : p1 → p2 → G) : G := k h.1 h.2
theorem ob_aa {p1 : Prop} {p2 : Prop} {p3 : Prop} {G : Prop} (h : p1 ∧ p2 ∧ p3) (k : p1 → p2 → p3 → G) : G := k h.1 h.2.1 h.2.2
theorem ob_aaa {p1 : Prop} {p2 : Prop} {p3 : Prop} {p4 : Prop} {G : Prop} (h : p1 ∧ p2 ∧ p3 ∧ p4) (k : p1 → p2 → p3 → p4 → G) : G := k h.1 h.2.1 h.2.2.1 h.2.2.2
theorem ob_aaaa {p1 : Prop} {p2 : Prop} {p3 : Prop} {p4 : Prop} {p5 : Prop} {G : Prop} (h : p1 ∧ p2 ∧ p3 ∧ p4 ∧ p5) (k : p1 → p2 → p3 → p4 → p5 → G) : G := k h.1 h.2.1 h.2.2.1 h.2.2.2.1 h.2.2.2.2
theorem ob_aaaaa {p1 : Prop} {p2 : Prop} {p3 : Prop} {p4 : Prop} {p5 : Prop} {p6 : Prop} {G : Prop} (h : p1 ∧ p2 ∧ p3 ∧ p4 ∧ p5 ∧ p6) (k : p1 → p2 → p3 → p4 → p5 → p6 → G) : G := k h.1 h.2.1 h.2.2.1 h.2.2.2.1 h.2.2.2.2.1 h.2.2.2.2.2
theorem ob_aaaaaa {p1 : Prop} {p2 : Prop} {p3 : Prop} {p4 : Prop} {p5 : Prop} {p6 : Prop} {p7 : Prop} {G : Prop} (h : p1 ∧ p2 ∧ p3 ∧ p4 ∧ p5 ∧ p6 ∧ p7) (k : p1 → p2 → p3 → p4 → p5 → p6 → p7 → G) : G := k h.1 h.2.1 h.2.2.1 h.2.2.2.1 h.2.2.2.2.1 h.2.2.2.2.2.1 h.2.2.2.2.2.2
theorem ob_aaaaaaa {p1 : Prop} {p2 : Prop} {p3 : Prop} {p4 : Prop} {p5 : Prop} {p6 : Prop} {p7 : Prop} {p8 : Prop} {G : Prop} (h : p1 ∧ p2 ∧ p3 ∧ p4 ∧ p5 ∧ p6 ∧ p7 ∧ p8) (k : p1 → p2 → p3 → p4 → p5 → p6 → p7 → p8 → G) : G := k h.1 h.2.1 h.2.2.1 h.2.2.2.1 h.2.2.2.2.1 h.2.2.2.2.2.1 h.2.2.2.2.2.2.1 h.2.2.2.2.2.2.2
theorem ob_aaaaaaaa {p1 : Prop} {p2 : Prop} {p3 : Prop} {p4 : Prop} {p5 : Prop} {p6 : Prop} {p7 : Prop} {p8 : Prop} {p9 : Prop} {G : Prop} (h : p1 ∧ p2 ∧ p3 ∧ p4 ∧ p5 ∧ p6 ∧ p7 ∧ p8 ∧ p9) (k : p1 → p2 → p3 → p4 → p5 → p6 → p7 → p8 → p9 → G) : G := k h.1 h.2.1 h.2.2.1 h.2.2.2.1 h.2.2.2.2.1 h.2.2.2.2.2.1 h.2.2.2.2.2.2.1 h.2.2.2.2.2.2.2.1 h.2.2.2.2.2.2.2.2
theorem ob_aaaaaaaaa {p1 : Prop} {p2 : Prop} {p3 : Prop} {p4 : Prop} {p5 : Prop} {p6 : Prop} {p7 : Prop} {p8 : Prop} {p9 : Prop} {p10 : Prop} {G : Prop} (h : p1 ∧ p2 ∧ p3 ∧ p4 ∧ p5 ∧ p6 ∧ p7 ∧ p8 ∧ p9 ∧ p10) (k : p1 → p2 → p3 → p4 → p5 → p6 → p7 → p8 → p9 → p10 → G) : G := k h.1 h.2.1 h.2.2.1 h.2.2.2.1 h.2.2.2.2.1 h.2.2.2.2.2.1 h.2.2.2.2.2.2.1 h.2.2.2.2.2.2.2.1 h.2.2.2.2.2.2.2.2.1 h.2.2.2.2.2.2.2.2.2
theorem ob_aaaaaaaaaa {p1 : Prop} {p2 : Prop} {p3 : Prop} {p4 : Prop} {p5 : Prop} {p6 : Prop} {p7 : Prop} {p8 : Prop} {p9 : Prop} {p10 : Prop} {p11 : Prop} {G : Prop} (h : p1 ∧ p2 ∧ p3 ∧ p4 ∧ p5 ∧ p6 ∧ p7 ∧ p8 ∧ p9 ∧ p10 ∧ p11) (k : p1 → p2 → p3 → p4 → p5 → p6 → p7 → p8 → p9 → p10 → p11 → G) : G := k h.1 h.2.1 h.2.2.1 h.2.2.2.1 h.2.2.2.2.1 h.2.2.2.2.2.1 h.2.2.2.2.2.2.1 h.2.2.2.2.2.2.2.1 h.2.2.2.2.2.2.2.2.1 h.2.2.2.2.2.2.2.2.2.1 h.2.2.2.2.2.2.2.2.2.2
theorem ob_ae.{u1} {p1 : Prop} {α1 : Sort u1} {p2 : α1 → Prop} {G : Prop} (h : p1 ∧ ∃ x1 : α1, p2 x1) (k : p1 → ∀ x1 : α1, p2 x1 → G) : G := Exists.elim h.2 fun x1 y1 => k h.1 x1 y1
theorem ob_aea.{u1} {p1 : Prop} {α1 : Sort u1} {p2 : α1 → Prop} {p3 : α1 → Prop} {G : Prop} (h : p1 ∧ ∃ x1 : α1, p2 x1 ∧ p3 x1) (k : p1 → ∀ x1 : α1, p2 x1 → p3 x1 → G) : G := Exists.elim h.2 fun x1 y1 => k h.1 x1 y1.1 y1.2
theorem ob_aeaa.{u1} {p1 : Prop} {α1 : Sort u1} {p2 : α1 → Prop} {p3 : α1 → Prop} {p4 : α1 → Prop} {G : Prop} (h : p1 ∧ ∃ x1 : α1, p2 x1 ∧ p3 x1 ∧ p4 x1) (k : p1 → ∀ x1 : α1, p2 x1 → p3 x1 → p4 x1 → G) : G := Exists.elim h.2 fun x1 y1 => k h.1 x1 y1.1 y1.2.1 y1.2.2
theorem ob_aeea.{u1, u2} {p1 : Prop} {α1 : Sort u1} {α2 : Sort u2} {p2 : α1 → α2 → Prop} {p3 : α1 → α2 → Prop} {G : Prop} (h : p1 ∧ ∃ x1 : α1, ∃ x2 : α2, p2 x1 x2 ∧ p3 x1 x2) (k : p1 → ∀ x1 : α1, ∀ x2 : α2, p2 x1 x2 → p3 x1 x2 → G) : G := Exists.elim h.2 fun x1 y1 => Exists.elim y1 fun x2 y2 => k h.1 x1 x2 y2.1 y2.2
theorem ob_e.{u1} {α1 : Sort u1} {p1 : α1 → Prop} {G : Prop} (h : ∃ x1 : α1, p1 x1) (k : ∀ x1 : α1, p1 x1 → G) : G := Exists.elim h fun x1 y1 => k x1 y1
theorem ob_ea.{u1} {α1 : Sort u1} {p1 : α1 → Prop} {p2 : α1 → Prop} {G : Prop} (h : ∃ x1 : α1, p1 x1 ∧ p2 x1) (k : ∀ x1 : α1, p1 x1 → p2 x1 → G) : G := Exists.elim h fun x1 y1 => k x1 y1.1 y1.2
theorem ob_eaa.{u1} {α1 : Sort u1} {p1 : α1 → Prop} {p2 : α1 → Prop} {p3 : α1 → Prop} {G : Prop} (h : ∃ x1 : α1, p1 x1 ∧ p2 x1 ∧ p3 x1) (k : ∀ x1 : α1, p1 x1 → p2 x1 → p3 x1 → G) : G := Exists.elim h fun x1 y1 => k x1 y1.1 y1.2.1 y1.2.2
theorem ob_eaaa.{u1} {α1 : Sort u1} {p1 : α1 → Prop} {p2 : α1 → Prop} {p3 : α1 → Prop} {p4 : α1 → Prop} {G : Prop} (h : ∃ x1 : α1, p1 x1 ∧ p2 x1 ∧ p3 x1 ∧ p4 x1) (k : ∀ x1 : α1, p1 x1 → p2 x1 → p3 x1 → p4 x1 → G) : G := Exists.elim h fun x1 y1 => k x1 y1.1 y1.2.1 y1.2.2.1 y1.2.2.2
theorem ob_eaae.{u1, u2} {α1 : Sort u1} {p1 : α1 → Prop} {p2 : α1 → Prop} {α2 : Sort u2} {p3 : α1 → α2 → Prop} {G : Prop} (h : ∃ x1 : α1, p1 x1 ∧ p2 x1 ∧ ∃ x2 : α2, p3 x1 x2) (k : ∀ x1 : α1, p1 x1 → p2 x1 → ∀ x2 : α2, p3 x1 x2 → G) : G := Exists.elim h fun x1 y1 => Exists.elim y1.2.2 fun x2 y2 => k x1 y1.1 y1.2.1 x2 y2
theorem ob_ee.{u1, u2} {α1 : Sort u1} {α2 : Sort u2} {p1 : α1 → α2 → Prop} {G : Prop} (h : ∃ x1 : α1, ∃ x2 : α2, p1 x1 x2) (k : ∀ x1 : α1, ∀ x2 : α2, p1 x1 x2 → G) : G := Exists.elim h fun x1 y1 => Exists.elim y1 fun x2 y2 => k x1 x2 y2
theorem ob_eea.{u1, u2} {α1 : Sort u1} {α2 : Sort u2} {p1 : α1 → α2 → Prop} {p2 : α1 → α2 → Prop} {G : Prop} (h : ∃ x1 : α1, ∃ x2 : α2, p1 x1 x2 ∧ p2 x1 x2) (k : ∀ x1 : α1, ∀ x2 : α2, p1 x1 x2 → p2 x1 x2 → G) : G := Exists.elim h fun x1 y1 => Exists.elim y1 fun x2 y2 => k x1 x2 y2.1 y2.2
theorem ob_eeaa.{u1, u2} {α1 : Sort u1} {α2 : Sort u2} {p1 : α1 → α2 → Prop} {p2 : α1 → α2 → Prop} {p3 : α1 → α2 → Prop} {G : Prop} (h : ∃ x1 : α1, ∃ x2 : α2, p1 x1 x2 ∧ p2 x1 x2 ∧ p3 x1 x2) (k : ∀ x1 : α1, ∀ x2 : α2, p1 x1 x2 → p2 x1 x2 → p3 x1 x2 → G) : G := Exists.elim h fun x1 y1 => Exists.elim y1 fun x2 y2 => k x1 x2 y2.1 y2.2.1 y2.2.2
theorem ob_eee.{u1, u2, u3} {α1 : Sort u1} {α2 : Sort u2} {α3 : Sort u3} {p1 : α1 → α2 → α3 → Prop} {G : Prop} (h : ∃ x1 : α1, ∃ x2 : α2, ∃ x3 : α3, p1 x1 x2 x3) (k : ∀ x1 : α1, ∀ x2 : α2, ∀ x3 : α3, p1 x1 x2 x3 → G) : G := Exists.elim h fun x1 y1 => Exists.elim y1 fun x2 y2 => Exists.elim y2 fun x3 y3 => k x1 x2 x3 y3
theorem ob_eeea.{u1, u2, u3} {α1 : Sort u1} {α2 : Sort u2} {α3 : Sort u3} {p1 : α1 → α2 → α3 → Prop} {p2 : α1 → α2 → α3 → Prop} {G : Prop} (h : ∃ x1 : α1, ∃ x2 : α2, ∃ x3 : α3, p1 x1 x2 x3 ∧ p2 x1 x2 x3) (k : ∀ x1 : α1, ∀ x2 : α2, ∀ x3 : α3, p1 x1 x2 x3 → p2 x1 x2 x3 → G) : G := Exists.elim h fun x1 y1 => Exists.elim y1 fun x2 y2 => Exists.elim y2 fun x3 y3 => k x1 x2 x3 y3.1 y3.2
theorem ob_eeee.{u1, u2, u3, u4} {α1 : Sort u1} {α2 : Sort u2} {α3 : Sort u3} {α4 : Sort u4} {p1 : α1 → α2 → α3 → α4 → Prop} {G : Prop} (h : ∃ x1 : α1, ∃ x2 : α2, ∃ x3 : α3, ∃ x4 : α4, p1 x1 x2 x3 x4) (k : ∀ x1 : α1, ∀ x2 : α2, ∀ x3 : α3, ∀ x4 : α4, p1 x1 x2 x3 x4 → G) : G := Exists.elim h fun x1 y1 => Exists.elim y1 fun x2 y2 => Exists.elim y2 fun x3 y3 => Exists.elim y3 fun x4 y4 => k x1 x2 x3 x4 y4
theorem ob_eeeee.{u1, u2, u3, u4, u5} {α1 : Sort u1} {α2 : Sort u2} {α3 : Sort u3} {α4 : Sort u4} {α5 : Sort u5} {p1 : α1 → α2 → α3 → α4 → α5 → Prop} {G : Prop} (h : ∃ x1 : α1, ∃ x2 : α2, ∃ x3 : α3, ∃ x4 : α4, ∃ x5 : α5, p1 x1 x2 x3 x4 x5) (k : ∀ x1 : α1, ∀ x2 : α2, ∀ x3 : α3, ∀ x4 : α4, ∀ x5 : α5, p1 x1 x2 x3 x4 x5 → G) : G := Exists.elim h fun x1 y1 => Exists.elim y1 fun x2 y2 => Exists.elim y2 fun x3 y3 => Exists.elim y3 fun x4 y4 => Exists.elim y4 fun x5 y5 => k x1 x2 x3 x4 x5 y5
theorem ob_eeeeee.{u1, u2, u3, u4, u5, u6} {α1 : Sort u1} {α2 : Sort u2} {α3 : Sort u3} {α4 : Sort u4} {α5 : Sort u5} {α6 : Sort u6} {p1 : α1 → α2 → α3 → α4 → α5 → α6 → Prop} {G : Prop} (h : ∃ x1 : α1, ∃ x2 : α2, ∃ x3 : α3, ∃ x4 : α4, ∃ x5 : α5, ∃ x6 : α6, p1 x1 x2 x3 x4 x5 x6) (k : ∀ x1 : α1, ∀ x2 : α2, ∀ x3 : α3, ∀ x4 : α4, ∀ x5 : α5, ∀ x6 : α6, p1 x1 x2 x3 x4 x5 x6 → G) : G := Exists.elim h fun x1 y1 => Exists.elim y1 fun x2 y2 => Exists.elim y2 fun x3 y3 => Exists.elim y3 fun x4 y4 => Exists.elim y4 fun x5 y5 => Exists.elim y5 fun x6 y6 => k x1 x2 x3 x4 x5 x6 y6
theorem ob_eeeeeee.{u1, u2, u3, u4, u5, u6, u7} {α1 : Sort u1} {α2 : Sort u2} {α3 : Sort u3} {α4 : Sort u4} {α5 : Sort u5} {α6 : Sort u6} {α7 : Sort u7} {p1 : α1 → α2 → α3 → α4 → α5 → α6 → α7 → Prop} {G : Prop} (h : ∃ x1 : α1, ∃ x2 : α2, ∃ x3 : α3, ∃ x4 : α4, ∃ x5 : α5, ∃ x6 : α6, ∃ x7 : α7, p1 x1 x2 x3 x4 x5 x6 x7) (k : ∀ x1 : α1, ∀ x2 : α2, ∀ x3 : α3, ∀ x4 : α4, ∀ x5 : α5, ∀ x6 : α6, ∀ x7 : α7, p1 x1 x2 x3 x4 x5 x6 x7 → G) : G := Exists.elim h fun x1 y1 => Exists.elim y1 fun x2 y2 => Exists.elim y2 fun x3 y3 => Exists.elim y3 fun x4 y4 => Exists.elim y4 fun x5 y5 => Exists.elim y5 fun x6 y6 => Exists.elim y6 fun x7 y7 => k x1 x2 x3 x4 x5 x6 x7 y7
theorem ob_eeeeeeeee.{u1, u2, u3, u4, u5, u6, u7, u8, u9} {α1 : Sort u1} {α2 : Sort u2} {α3 : Sort u3} {α4 : Sort u4} {α5 : Sort u5} {α6 : Sort u6} {α7 : Sort u7} {α8 : Sort u8} {α9 : Sort u9} {p1 : α1 → α2 → α3 → α4 → α5 → α6 → α7 → α8 → α9 → Prop} {G : Prop} (h : ∃ x1 : α1, ∃ x2 : α2, ∃ x3 : α3, ∃ x4 : α4, ∃ x5 : α5, ∃ x6 : α6, ∃ x7 : α7, ∃ x8 : α8, ∃ x9 : α9, p1 x1 x2 x3 x4 x5 x6 x7 x8 x9) (k : ∀ x1 : α1, ∀ x2 : α2, ∀ x3 : α3, ∀ x4 : α4, ∀ x5 : α5, ∀ x6 : α6, ∀ x7 : α7, ∀ x8 : α8, ∀ x9 : α9, p1 x1 x2 x3 x4 x5 x6 x7 x8 x9 → G) : G := Exists.elim h fun x1 y1 => Exists.elim y1 fun x2 y2 => Exists.elim y2 fun x3 y3 => Exists.elim y3 fun x4 y4 => Exists.elim y4 fun x5 y5 => Exists.elim y5 fun x6 y6 => Exists.elim y6 fun x7 y7 => Exists.elim y7 fun x8 y8 => Exists.elim y8 fun x9 y9 => k x1 x2 x3 x4 x5 x6 x7 x8 x9 y9
noncomputable def Held (P : Prop) : Prop := P
theorem held {P : Prop} (h : Held P) : P := h
noncomputable abbrev Led := List (Addr × Obj)

structure Kept (H h : Heap) (news news' : List (Addr × Obj)) : Prop where
  keep : ∀ b o, H.get? b = some o → b ∉ news.map (·.1) → h.get? b = some o
  new : ∀ p ∈ news', H.get? p.1 = none ∨ p.1 ∈ news.map (·.1)
theorem kept {H g h : Heap} {L : Addr} {m : Str → Option Value} {news : List (Addr × Obj)} (G : GSub H g (news.map (·.1))) (F : Fr g L h m) : Kept H h news news :=
  ⟨fun b o e hb => F.keep b o (G b o e hb), fun p hp => .inr (List.mem_map_of_mem hp)⟩
theorem keptN {H g h : Heap} {L : Addr} {m : Str → Option Value} {news news' led : List (Addr × Obj)} (G : GSub H g (news.map (·.1))) (F : Fr g L h m) (N : News g L h led) (hs : ∀ p ∈ news', p ∈ led) : Kept H h news news' :=
  ⟨fun b o e hb => F.keep b o (G b o e hb), fun p hp => by
    by_cases hb : p.1 ∈ news.map (·.1)
    · exact .inr hb
    · refine .inl ?_
      cases q : H.get? p.1 with
      | none => rfl
      | some o => have := G _ _ q hb; rw [(N p (hs p hp)).2.2] at this; cases this⟩
noncomputable def Ctr (f : Addr) (w : World) (vs : List Value) (pre : Led → Prop) (post : Led → Value → Led → Prop) : Prop :=
  ∀ (p : Program) (loose : List Str) (mean : ExcName → Option Value) (mg mb : Str → Option Value) (dp un : Nat) (gd : Option (List Code)) (cn : Str) (cs : Scope) (a : Addr) (ccd : Value) (cl : List (Str × Addr)) (outer : List Env) (A₀ : Around) (base h₀ : Heap) (L : Addr) (m : Str → Option Value) (news : Led) (s : Shared) (Q E : Value → Shared → Prop),
    Below A₀ base outer h₀ → Fr h₀ L s.heap m → (h0.heap_1 w.params).In h₀ → News h₀ L s.heap news → Top p loose mean mg mb h₀ → cs.kind = .function → pre news →
    dp + 20 < recursionLimit → un + 20 < cLine →
    (∀ v news' h' tk', Fr h₀ L h' m → News h₀ L h' news' → post news v news' → Kept s.heap h' news news' → Q v { s with heap := h', toks := tk' }) →
      wpAny (model PySem.Challenge.rw_oy0305_01.row.prog w) (ktrTop dp un gd cn cs L a ccd cl outer) (call (.ref f) vs) Q E s

theorem Ctr.use {f : Addr} {w : World} {vs : List Value} {pre : Led → Prop} {post : Led → Value → Led → Prop} (c : Ctr f w vs pre post)
    {p : Program} {loose : List Str} {mean : ExcName → Option Value} {mg mb : Str → Option Value} {dp un : Nat} {gd : Option (List Code)} {cn : Str} {cs : Scope} {a : Addr} {ccd : Value} {cl : List (Str × Addr)} {outer : List Env} {A₀ : Around} {base h₀ : Heap} {L : Addr} {m : Str → Option Value} {news : Led} {s : Shared} {Q E : Value → Shared → Prop}
    (B : Below A₀ base outer h₀) (F : Fr h₀ L s.heap m) (K : (h0.heap_1 w.params).In h₀) (N : News h₀ L s.heap news) (T : Top p loose mean mg mb h₀) (hk : cs.kind = .function) (hp : pre news)
    (hd : dp + 20 < recursionLimit) (hu : un + 20 < cLine)
    (k : ∀ v news' h' tk', Fr h₀ L h' m → News h₀ L h' news' → post news v news' → Kept s.heap h' news news' → Q v { s with heap := h', toks := tk' }) :
      wpAny (model PySem.Challenge.rw_oy0305_01.row.prog w) (ktrTop dp un gd cn cs L a ccd cl outer) (call (.ref f) vs) Q E s :=
  c _ _ _ _ _ _ _ _ _ _ _ _ _ _ _ _ _ _ _ _ _ _ _ B F K N T hk hp hd hu k

noncomputable def At (m : Str → Option Value) : List (Str × Value) → Prop
  | [] => True
  | (x, v) :: r => m x = some v ∧ At m r
noncomputable def ov (m : Str → Option Value) : List (Str × Value) → Str → Option Value
  | [] => m
  | (x, v) :: r => fun y => if y = x then some v else ov m r y
theorem At.eq {m : Str → Option Value} : ∀ {l : List (Str × Value)}, At m l → ov m l = m
  | [], _ => rfl
  | (x, v) :: r, h => by
    funext y
    show (if y = x then some v else ov m r y) = m y
    rw [At.eq h.2]
    by_cases e : y = x
    · rw [if_pos e, e, h.1]
    · rw [if_neg e]
theorem At.fr {h₀ h : Heap} {L : Addr} {m : Str → Option Value} {l : List (Str × Value)} (a : At m l) (F : Fr h₀ L h m) : Fr h₀ L h (ov m l) := by rw [a.eq]; exact F
noncomputable abbrev lstO (vs : List Value) (n : Nat) : Obj := { cls := .type "list", data := .seq vs.toArray n }
noncomputable abbrev tupO (vs : List Value) (n : Nat) : Obj := { cls := .type "tuple", data := .seq vs.toArray n }

structure File where
  ah : Option Nat
  nm : Str
  en : Str
  nu : Nat

noncomputable def ahV : Option Nat → Tok → Value
  | none, _ => .none
  | some j, t => .int (j : Nat) t

structure FilesIn (news : Led) (l : Addr) (fs : Nat → File) (fa : Nat → Addr) : Prop where
  lst : ∃ n, (l, lstO ((List.range 6).map fun i => .ref (fa i)) n) ∈ news
  tup : ∀ k, k < 6 → ∃ t0 t1 t2 t3 n, (fa k, tupO [ahV (fs k).ah t0, .str (fs k).nm t1, .str (fs k).en t2, .int ((fs k).nu : Nat) t3] n) ∈ news

theorem FilesIn.mono {news news' : Led} {l : Addr} {fs : Nat → File} {fa : Nat → Addr} (h : FilesIn news l fs fa) (hs : ∀ p ∈ news, p ∈ news') : FilesIn news' l fs fa :=
  ⟨let ⟨n, h⟩ := h.lst; ⟨n, hs _ h⟩, fun k hk => let ⟨a, b, c, d, n, h⟩ := h.tup k hk; ⟨a, b, c, d, n, hs _ h⟩⟩

section
variable {prog : Program} {w : World} {A : Around} {E : Value → Shared → Prop} {s : Shared} {h₀ : Heap} {L : Addr} {news : Led} {Q : Value → Shared → Prop}

theorem News.lst {l : Addr} {vs : List Value} {n : Nat} {h : Heap} (N : News h₀ L h news) (hm : (l, lstO vs n) ∈ news) : h.IsList l vs.toArray := ⟨_, (N _ hm).1, rfl, n, rfl⟩

theorem item_at {value slice : Expr} {l : Addr} {vs : List Value} {n k : Nat} {u : Tok} {v : Value} (N : News h₀ L s.heap news) (hm : (l, lstO vs n) ∈ news)
    (hhi : k < 2 ^ 62) (hx : vs[k]? = some v) (h : Q v s)
    (hs : subscripted slice false (.ref l) (.int k u) = operate [.ref l, .int k u] (getItem (.ref l) (.int k u)) := by with_unfolding_all rfl) :
    wpAny (model prog w) A (subscriptTail value slice (.ref l) (.int (k : Nat) u)) Q E s :=
  have hl := News.lst N hm
  tail_any hl.typeIs slot_list_getitem.lookup (wpAny_getItem_list hl (Int.natCast_nonneg _) (by omega) (by simpa using hx) h) hs
theorem files_item {value slice : Expr} {l : Addr} {fs : Nat → File} {fa : Nat → Addr} {k : Nat} {u : Tok} (N : News h₀ L s.heap news) (hf : FilesIn news l fs fa)
    (hk : k < 6) (h : Q (.ref (fa k)) s)
    (hs : subscripted slice false (.ref l) (.int k u) = operate [.ref l, .int k u] (getItem (.ref l) (.int k u)) := by with_unfolding_all rfl) :
    wpAny (model prog w) A (subscriptTail value slice (.ref l) (.int (k : Nat) u)) Q E s := by
  obtain ⟨n, hm⟩ := hf.lst
  exact item_at N hm (by omega) (by simp [hk]) h hs
end
end Mine
end
section
open PySem PySem.W PyProof.Rows PySem.Spec PySem.Calls
set_option Elab.async false
set_option maxRecDepth 100000
set_option maxHeartbeats 4000000
set_option linter.unusedVariables false
namespace Mine
section
variable {prog : Program} {w : World} {A : Around} {E : Value → Shared → Prop} {s : Shared}

theorem nextOf_tup {it t : Addr} {i : Nat} {items : Array Value} {x : Value} {Q : Value → Shared → Prop} (hit : s.heap.IsTupleIter it t i)
    (ht : s.heap.IsTuple t items) (hx : items[i]? = some x)
    (hQ : ∀ h', h'.IsTupleIter it t (i + 1) → Heap.SameBut it s.heap h' → Q x { s with heap := h' }) :
    wpAny (model prog w) A (Builtin.SmallTypes.nextOf (.ref it)) Q E s := by
  refine ob_eaa (id hit) ?_
  intro o ho hc hd
  refine ob_eaae (ht) ?_
  clear ht
  intro ol hol _ nl hdl
  unfold Builtin.SmallTypes.nextOf
  refine wpAny_bind (wpAny_callSpecial?_slot (name := Str.ofString "__next__") hit.typeIs F.slot_tuple_iterator_next
    (wpAny_call_entry F.slot_tuple_iterator_next hit.typeIs F.entry_tuple_iterator_next ?_ (F.args_tuple_iterator_next_1 _)))
  show wpAny _ _ (field (.ref it) 0 >>= _) _ _ s
  refine wpAny_bind (wpAny_field ho hd (x := .ref t) rfl ?_)
  show wpAny _ _ (if (Value.ref t == Value.none) = true then _ else _) _ _ s
  rw [if_neg (show ¬ ((Value.ref t == Value.none) = true) from Bool.false_ne_true)]
  show wpAny _ _ (field (.ref it) 1 >>= _) _ _ s
  refine wpAny_bind (wpAny_field ho hd (x := .int i 0) rfl ?_)
  show wpAny _ _ (seqItems? (.ref t) >>= _) _ _ s
  refine wpAny_bind (wpAny_seqItems hol hdl ?_)
  simp only [Int.toNat_natCast, hx]
  refine wpAny_bind (wpAny_setField ho hd (by simp) (wpAny_pure ⟨x, rfl, wpAny_pure (hQ _ ?_ (Heap.SameBut.update ..))⟩))
  exact ⟨_, Heap.get?_update_self _ ho (Obj.isFreed_of_fields (Obj.data_mapFields hd _)), (Obj.cls_mapFields ..).trans hc, by
    rw [Obj.data_mapFields hd]; simp [rawInt]⟩

theorem nextOf_tup_end {it t : Addr} {i : Nat} {items : Array Value} {Q : Value → Shared → Prop} (hh : A.handled = none)
    (hit : s.heap.IsTupleIter it t i) (ht : s.heap.IsTuple t items) (hx : items[i]? = none)
    (hE : ∀ h' e, Heap.ExtBut it s.heap h' → (∃ o, h'.get? e = some o ∧ o.cls = .type "StopIteration") → E (.ref e) { s with heap := h' }) :
    wpAny (model prog w) A (Builtin.SmallTypes.nextOf (.ref it)) Q E s := by
  refine ob_eaa (id hit) ?_
  intro o ho hc hd
  refine ob_eaae (ht) ?_
  clear ht
  intro ol hol _ nl hdl
  unfold Builtin.SmallTypes.nextOf
  refine wpAny_bind (wpAny_callSpecial?_slot (name := Str.ofString "__next__") hit.typeIs F.slot_tuple_iterator_next
    (wpAny_call_entry F.slot_tuple_iterator_next hit.typeIs F.entry_tuple_iterator_next ?_ (F.args_tuple_iterator_next_1 _)))
  show wpAny _ _ (field (.ref it) 0 >>= _) _ _ s
  refine wpAny_bind (wpAny_field ho hd (x := .ref t) rfl ?_)
  show wpAny _ _ (if (Value.ref t == Value.none) = true then _ else _) _ _ s
  rw [if_neg (show ¬ ((Value.ref t == Value.none) = true) from Bool.false_ne_true)]
  show wpAny _ _ (field (.ref it) 1 >>= _) _ _ s
  refine wpAny_bind (wpAny_field ho hd (x := .int i 0) rfl ?_)
  show wpAny _ _ (seqItems? (.ref t) >>= _) _ _ s
  refine wpAny_bind (wpAny_seqItems hol hdl ?_)
  simp only [Int.toNat_natCast, hx]
  refine wpAny_bind (wpAny_rule (wpAny_bind (wpAny_setField ho hd (by simp) ?_)))
  show wpAny _ _ (newExc (.type "StopIteration") [] >>= _) _ _ _
  refine wpAny_bind ?_
  simp only [newExc, newTuple]
  refine wpAny_bind (wpAny_newObj_type ?_ (by size_fits))
  refine wpAny_bind (m := firstArgMember _ _) (wpAny_of_eq (a := Value.none) (by first | rfl | (simp only [firstArgMember]; rfl)) ?_)
  refine wpAny_newObj_type ?_ (by size_fits)
  simp only [raiseNew]
  refine wpAny_bind (wpAny_handled ?_)
  first | rw [show A.in1.handled = none from hh] | rw [hh]
  refine wpAny_bind (wpAny_pure (wpAny_throw ?_))
  exact hE _ _ (((Heap.SameBut.update ..).extBut.push _).push _) ⟨_, Heap.get?_push_size _ rfl, rfl⟩

theorem enum_next {e it : Addr} {i : Int} {x old : Value} {Q : Option Value → Shared → Prop} {St : Heap → Prop} (he : IsEnum s.heap e it i old) (hne : e ≠ it)
    (hst : ∀ h h', St h → (∀ b o, b ≠ e → h.get? b = some o → h'.get? b = some o) → St h')
    (hnext : ∀ (A' : Around) (E' : Value → Shared → Prop) (Q' : Value → Shared → Prop), A'.handled = A.handled → (∀ h', St h' → Heap.SameBut it s.heap h' → Q' x { s with heap := h' }) → wpAny (model prog w) A' (Builtin.SmallTypes.nextOf (.ref it)) Q' E' s)
    (hQ : ∀ h', IsEnumOut h' e it (i + 1) x s.heap.objs.size → St h' → h'.get? s.heap.objs.size = some { cls := .type "tuple", data := .seq #[.int i s.toks, x] } →
      (∀ b o, b ≠ e → b ≠ it → s.heap.get? b = some o → h'.get? b = some o) → Q (some (.ref s.heap.objs.size)) { s with heap := h', toks := s.toks + 1 }) :
    wpAny (model prog w) A (pyNext (.ref e)) Q E s := by
  have hT : s.TypeIs (.ref e) "enumerate" := ⟨_, he, rfl⟩
  have body : ∀ (A' : Around) (E' : Value → Shared → Prop), A'.handled = A.handled → wpAny (model prog w) A' (Builtin.«enumerate.__next__» ⟨[.ref e], []⟩) (fun fin s' => ∃ v, fin = .done (.ret v) ∧ Q (some v) s') E' s := by
    intro A' E' hA'
    obtain ⟨hp, g, d, tk, os⟩ := s
    have hel : e < hp.objs.size := Heap.lt_size he
    show wpAny _ _ (field (.ref e) 2 >>= _) _ _ _
    refine wpAny_bind (wpAny_field he rfl (x := .ref it) rfl (wpAny_bind (hnext A' _ _ hA' fun h₁ st₁ hs₁ => ?_)))
    replace hs₁ : Heap.SameBut it hp h₁ := hs₁
    have he₁ : IsEnum h₁ e it i old := (hs₁.2 e hne).trans he
    show wpAny _ _ (field (.ref e) 3 >>= _) _ _ ⟨h₁, g, d, tk, os⟩
    refine wpAny_bind (wpAny_field he₁ rfl (x := rawInt i) rfl ?_)
    show wpAny _ _ (field (.ref e) 4 >>= _) _ _ ⟨h₁, g, d, tk, os⟩
    refine wpAny_bind (wpAny_field he₁ rfl (x := .none) rfl ?_)
    show wpAny _ _ (mkInt i >>= _) _ _ ⟨h₁, g, d, tk, os⟩
    refine wpAny_bind (wpAny_mkInt ?_)
    show wpAny _ _ (setField (.ref e) 3 (rawInt (i + 1)) >>= _) _ _ ⟨h₁, g, d, tk + 1, os⟩
    refine wpAny_bind (wpAny_setField_rec he₁ (by simp) fun h₂ he₂ hs₂ => ?_)
    replace hs₂ : Heap.SameBut e h₁ h₂ := hs₂
    replace he₂ : IsEnum h₂ e it (i + 1) old := he₂
    show wpAny _ _ (setField (.ref e) 4 .none >>= _) _ _ ⟨h₂, g, d, tk + 1, os⟩
    refine wpAny_bind (wpAny_setField_rec he₂ (by simp) fun h₃ he₃ hs₃ => ?_)
    replace hs₃ : Heap.SameBut e h₂ h₃ := hs₃
    replace he₃ : IsEnum h₃ e it (i + 1) old := he₃
    show wpAny _ _ (newTuple [.int i tk, x] >>= _) _ _ ⟨h₃, g, d, tk + 1, os⟩
    refine wpAny_bind (wpAny_newTuple ?_)
    have hsz : h₃.objs.size = hp.objs.size := by rw [hs₃.1, hs₂.1, hs₁.1]
    have st₄ : St (h₃.push { cls := .type "tuple", data := .seq #[.int i tk, x] }) := hst _ _ st₁ fun b o hb q => Heap.get?_push_of_some _ (hs₃.extBut b o hb (hs₂.extBut b o hb q))
    have he₄ : IsEnum (h₃.push { cls := .type "tuple", data := .seq #[.int i tk, x] }) e it (i + 1) old := Heap.get?_push_of_some _ he₃
    have ht₄ : (h₃.push { cls := .type "tuple", data := .seq #[.int i tk, x] }).get? hp.objs.size = some { cls := .type "tuple", data := .seq #[.int i tk, x] } := by rw [← hsz]; exact Heap.get?_push_size _ rfl
    have hk₄ : ∀ b o, b ≠ e → b ≠ it → hp.get? b = some o → (h₃.push { cls := .type "tuple", data := .seq #[.int i tk, x] }).get? b = some o := fun b o hbe hbi hb =>
      Heap.get?_push_of_some _ (hs₃.extBut b o hbe (hs₂.extBut b o hbe (hs₁.extBut b o hbi hb)))
    show wpAny _ _ (Builtin.SmallTypes.ownedTupleIsFree (.ref e) >>= _) _ _ ⟨_, g, d, tk + 1, os⟩
    rw [hsz]
    generalize h₃.push { cls := .type "tuple", data := .seq #[.int i tk, x] } = h₄ at st₄ he₄ ht₄ hk₄ ⊢
    unfold Builtin.SmallTypes.ownedTupleIsFree
    refine wpAny_bind (wpAny_bind (wpAny_field he₄ rfl (x := .none) rfl (wpAny_pure ?_)))
    simp only [if_true]
    refine wpAny_bind (wpAny_rule ?_)
    refine wpAny_bind (wpAny_field he₄ rfl (x := old) rfl ?_)
    refine wpAny_bind (wpAny_setField_rec he₄ (by simp) fun h₅ he₅ hs₅ => ?_)
    replace hs₅ : Heap.SameBut e h₄ h₅ := hs₅
    replace he₅ : IsEnum h₅ e it (i + 1) x := he₅
    show wpAny _ _ (Builtin.SmallTypes.ownedTupleHandOut (.ref e) (.ref hp.objs.size) >>= _) _ _ ⟨h₅, g, d, tk + 1, os⟩
    refine wpAny_bind ?_
    unfold Builtin.SmallTypes.ownedTupleHandOut
    refine wpAny_bind (wpAny_setField_rec he₅ (by simp) fun h₆ he₆ hs₆ => ?_)
    replace hs₆ : Heap.SameBut e h₅ h₆ := hs₆
    replace he₆ : IsEnumOut h₆ e it (i + 1) x hp.objs.size := he₆
    refine wpAny_setField_rec he₆ (by simp) fun h₇ he₇ hs₇ => ?_
    replace hs₇ : Heap.SameBut e h₆ h₇ := hs₇
    replace he₇ : IsEnumOut h₇ e it (i + 1) x hp.objs.size := he₇
    have up : ∀ b o, b ≠ e → h₄.get? b = some o → h₇.get? b = some o := fun b o hb q => hs₇.extBut b o hb (hs₆.extBut b o hb (hs₅.extBut b o hb q))
    exact wpAny_bind (wpAny_letGo (wpAny_pure ⟨_, rfl, hQ h₇ he₇ (hst _ _ st₄ up) (up _ _ (Nat.ne_of_gt hel) ht₄) fun b o hbe hbi hb => up b o hbe (hk₄ b o hbe hbi hb)⟩))
  unfold pyNext
  refine wpAny_bind (wpAny_attempt (wpAny_callSpecial?_slot (name := Str.ofString "__next__") hT F.slot_enumerate_next
    (wpAny_call_entry F.slot_enumerate_next hT F.entry_enumerate_next (wpAny_mono (body _ _ rfl) (fun fin s' h => ?_) fun _ _ x => x) (F.args_enumerate_next_1 _))))
  refine ob_ea (h) ?_
  clear h
  intro v er1 hv
  subst er1
  exact ⟨v, rfl, wpAny_pure hv⟩

theorem enum_end {e it : Addr} {i : Int} {old : Value} {Q : Option Value → Shared → Prop} (he : IsEnum s.heap e it i old)
    (hnext : ∀ (A' : Around) (E' : Value → Shared → Prop) (Q' : Value → Shared → Prop), A'.handled = A.handled → (∀ h' x, Heap.ExtBut it s.heap h' → (∃ o, h'.get? x = some o ∧ o.cls = .type "StopIteration") → E' (.ref x) { s with heap := h' }) → wpAny (model prog w) A' (Builtin.SmallTypes.nextOf (.ref it)) Q' E' s)
    (hQ : ∀ h', Heap.ExtBut it s.heap h' → Q none { s with heap := h' }) : wpAny (model prog w) A (pyNext (.ref e)) Q E s := by
  have hT : s.TypeIs (.ref e) "enumerate" := ⟨_, he, rfl⟩
  unfold pyNext
  refine wpAny_bind (wpAny_attempt (wpAny_callSpecial?_slot (name := Str.ofString "__next__") hT F.slot_enumerate_next
    (wpAny_call_entry F.slot_enumerate_next hT F.entry_enumerate_next ?_ (F.args_enumerate_next_1 _))))
  show wpAny _ _ (field (.ref e) 2 >>= _) _ _ _
  refine wpAny_bind (wpAny_field he rfl (x := .ref it) rfl (wpAny_bind (hnext _ _ _ rfl fun h' x he' hx' => ?_)))
  refine ob_ea (hx') ?_
  clear hx'
  intro o ho hc
  refine wpAny_bind (wpAny_isInstance (T := "StopIteration") (b := true) ⟨o, ho, hc⟩ isSubtype_stop ?_)
  exact wpAny_pure (hQ _ he')

theorem enum_new_tup (l : Addr) (items : Array Value) (n : Nat) :
    Meets (Builtin.«enumerate.__new__» ⟨[.type "enumerate", .ref l], []⟩) (fun _ R s => s.heap.get? l = some { cls := .type "tuple", dict := none, data := .seq items n, slots := #[] } ∧
      R (.ok (.ret (.ref (s.heap.push { cls := .type "tuple_iterator", data := .fields #[.ref l, .int 0 0] }).objs.size)))
        { s with heap := (s.heap.push { cls := .type "tuple_iterator", data := .fields #[.ref l, .int 0 0] }).push { cls := .type "enumerate", data := .fields #[.none, .bool false, .ref s.heap.objs.size, rawInt 0, .none, .none] } }) :=
  .of_wp fun prog w A R s h => by
    obtain ⟨hp, g, d, tk, os⟩ := s; obtain ⟨hl, h⟩ := h
    have hsub := sub_enumerate
    have hL : Heap.IsTuple (Shared.heap ⟨hp, g, d, tk, os⟩) l items := ⟨_, hl, rfl, n, rfl⟩
    wp_walk using AutoSeq1.wpAny_loadPart' hl
    refine wpAny_stack_any fun st => wpAny_pure ?_
    split
    · rename_i c _ _ _ _ _
      cases (c == Value.type "enumerate")
      · wp_walk using AutoSeq1.wpAny_loadPart' hl, wpAny_pyIter_tuple hL
        exact ⟨_, rfl, h⟩
      · wp_walk using AutoSeq1.wpAny_loadPart' hl, wpAny_pyIter_tuple hL
        exact ⟨_, rfl, h⟩
    · wp_walk using AutoSeq1.wpAny_loadPart' hl, wpAny_pyIter_tuple hL
      exact ⟨_, rfl, h⟩

theorem enum_tup {l : Addr} {items : Array Value} {n : Nat} {Q : Value → Shared → Prop}
    (hl : s.heap.get? l = some { cls := .type "tuple", dict := none, data := .seq items n, slots := #[] })
    (h : ∀ h', IsEnum h' (s.heap.objs.size + 1) s.heap.objs.size 0 .none → h'.IsTupleIter s.heap.objs.size l 0 →
      (∀ b o, s.heap.get? b = some o → h'.get? b = some o) → Q (.ref (s.heap.objs.size + 1)) { s with heap := h' }) :
    wpAny (model prog w) A (call (.type "enumerate") [.ref l]) Q E s := by
  refine callType_new F.called_enumerate (by decide) (F.typeCall_enumerate_1 _) (F.newCall_enumerate_1 _) (fun obj => F.args_object_init_2 obj _) F.entry_enumerate_new
    (enum_new_tup l items n) ⟨hl, ?_⟩
  have hz : (s.heap.push { cls := .type "tuple_iterator", data := .fields #[.ref l, .int 0 0] }).objs.size = s.heap.objs.size + 1 := Heap.size_push ..
  show _ ∧ _
  rw [hz]
  have he := Heap.get?_push_size (s.heap.push { cls := .type "tuple_iterator", data := .fields #[.ref l, .int 0 0] })
      (o := { cls := .type "enumerate", data := .fields #[.none, .bool false, .ref s.heap.objs.size, rawInt 0, .none, .none] }) rfl
  rw [hz] at he
  exact ⟨⟨_, he, rfl⟩, h _ he ⟨_, Heap.get?_push_of_some _ (Heap.get?_push_size _ rfl), rfl, rfl⟩ fun b o x => Heap.get?_push_of_some _ (Heap.get?_push_of_some _ x)⟩
end

structure Src (prog : Program) (w : World) (A : Around) (target : Expr) (I : Addr) (fp wr : List Addr) (n : Nat) (P : Nat → Value → Led → Prop) (St : Nat → Heap → Prop) : Prop where
  sub : ∀ b ∈ wr, b ∈ fp
  frame : ∀ i h h', St i h → (∀ b ∈ fp, ∀ o, h.get? b = some o → h'.get? b = some o) → St i h'
  live : ∀ i h, St i h → ∀ b ∈ wr, ∃ o, h.get? b = some o
  item : ∀ i (s : Shared) (Q : Value → Shared → Prop) (E E' : Value → Shared → Prop), i < n → St i s.heap →
    (∀ v mk h' tk, P i v mk → (∀ p ∈ mk, h'.get? p.1 = some p.2 ∧ s.heap.get? p.1 = none) → St (i + 1) h' → (∀ b o, b ∉ wr → s.heap.get? b = some o → h'.get? b = some o) → Q v { s with heap := h', toks := tk }) →
    wpAny (model prog w) A (pyNext (.ref I)) (fun r s₁ => match r with | none => False | some v => wpAny (model prog w) A (letOwnedTupleGo target (.ref I) v) (fun _ s₂ => Q v s₂) E' s₁) E s
  done : ∀ (s : Shared) (Q : Option Value → Shared → Prop) (E : Value → Shared → Prop), St n s.heap →
    (∀ h' tk, (∀ b o, b ∉ wr → s.heap.get? b = some o → h'.get? b = some o) → Q none { s with heap := h', toks := tk }) → wpAny (model prog w) A (pyNext (.ref I)) Q E s

theorem Src.ofWalks {prog : Program} {w : World} {A : Around} {target : Expr} {I : Addr} {fp wr : List Addr} {n : Nat} {P : Nat → Value → Prop} {St : Nat → Heap → Prop} (W : Walks prog w A I fp wr n P St)
    (hl : ∀ i h, St i h → ∀ b ∈ wr, ∃ o, h.get? b = some o)
    (hgo : ∀ i (s' : Shared) v (Q' : Unit → Shared → Prop) (E' : Value → Shared → Prop), St i s'.heap → Q' () s' → wpAny (model prog w) A (letOwnedTupleGo target (.ref I) v) Q' E' s') :
    Src prog w A target I fp wr n (fun i v mk => P i v ∧ mk = []) St where
  sub := W.sub
  frame := W.frame
  live := hl
  item := fun i s Q E E' hi st hQ => W.item i s _ E hi st fun v h' tk hP st' hk => hgo (i + 1) _ _ _ _ st' (hQ v [] h' tk ⟨hP, rfl⟩ (fun _ hp => nomatch hp) st' hk)
  done := W.done

theorem go_name {prog : Program} {w : World} {A : Around} {x : Str} {px : Pos} {it : Value} {s' : Shared} {v : Value} {Q' : Unit → Shared → Prop} {E' : Value → Shared → Prop} (h : Q' () s') :
    wpAny (model prog w) A (letOwnedTupleGo (.Name x px) it v) Q' E' s' := wpAny_pure h

theorem Src.enumTup {prog : Program} {w : World} {A : Around} (hh : A.handled = none) {elts : List Expr} {x1 : Nat} {tp : Pos} (I it l : Addr) (h1 : I ≠ it) (h2 : l ≠ I) (h3 : l ≠ it) (items : Array Value) :
    Src prog w A (.Tuple elts x1 tp) I [I, it, l] [I, it] items.size (fun i v mk => ∃ a tk x, items[i]? = some x ∧ v = .ref a ∧ mk = [(a, tupO [.int (i : Nat) tk, x] 0)])
      (fun i h => (∃ old, IsEnum h I it (i : Nat) old) ∧ h.IsTupleIter it l i ∧ h.IsTuple l items) where
  sub := fun b hb => by simp at hb ⊢; rcases hb with h | h <;> simp [h]
  frame := fun i h h' st hk => ⟨let ⟨old, q⟩ := st.1; ⟨old, hk I (by simp) _ q⟩, st.2.1.at fun o q => hk it (by simp) o q, st.2.2.at fun o q => hk l (by simp) o q⟩
  live := fun i h st b hb => by
    simp at hb
    rcases hb with rfl | rfl
    · obtain ⟨_, q⟩ := st.1
      exact ⟨_, q⟩
    · refine ob_ea (st.2.1) ?_
      intro o q _
      exact ⟨o, q⟩
  item := fun i s Q E E' hi st hQ => by
    obtain ⟨⟨old, he⟩, hit, ht⟩ := st
    have heI : I < s.heap.objs.size := Heap.lt_size he
    have hfr : s.heap.get? s.heap.objs.size = none := Heap.get?_none_of_le (Nat.le_refl _)
    refine enum_next (x := items[i]) (St := fun h => h.IsTupleIter it l (i + 1) ∧ h.IsTuple l items) he h1 (fun h h' st k => ⟨st.1.at fun o q => k it o (Ne.symm h1) q, st.2.at fun o q => k l o h2 q⟩)
      (fun A' E'' Q' _ k => nextOf_tup hit ht (by simp [hi]) fun h' a b => k h' ⟨a, ht.extBut b.extBut h3⟩ b) fun h' ho st' ha hk => ?_
    refine wpAny_letOwnedTupleGo_enum ho fun h₂ he₂ hs₂ => ?_
    have up : ∀ b o, b ≠ I → h'.get? b = some o → h₂.get? b = some o := fun b o hb q => hs₂.extBut b o hb q
    exact hQ _ [(s.heap.objs.size, tupO [.int (i : Nat) s.toks, items[i]] 0)] h₂ _ ⟨_, _, _, by simp [hi], rfl, rfl⟩
      (fun p hp => by rw [List.mem_singleton.mp hp]; exact ⟨up _ _ (Nat.ne_of_gt heI) ha, hfr⟩)
      ⟨⟨_, by have := he₂; simpa using this⟩, st'.1.at fun o q => up it o (Ne.symm h1) q, st'.2.at fun o q => up l o h2 q⟩
      fun b o hb q => up b o (fun e => hb (by simp [e])) (hk b o (fun e => hb (by simp [e])) (fun e => hb (by simp [e])) q)
  done := fun s Q E st hQ => by
    obtain ⟨⟨old, he⟩, hit, ht⟩ := st
    exact enum_end he (fun A' E' Q' hA' k => nextOf_tup_end (hA'.trans hh) hit ht (by simp) k) fun h' k => hQ h' s.toks fun b o hb q => k b o (fun e => hb (by simp [e])) q

theorem Src.enumList {prog : Program} {w : World} {A : Around} (hh : A.handled = none) {elts : List Expr} {x1 : Nat} {tp : Pos} (I it l : Addr) (h1 : I ≠ it) (h2 : l ≠ I) (h3 : l ≠ it) (items : Array Value) :
    Src prog w A (.Tuple elts x1 tp) I [I, it, l] [I, it] items.size (fun i v mk => ∃ a tk x, items[i]? = some x ∧ v = .ref a ∧ mk = [(a, tupO [.int (i : Nat) tk, x] 0)])
      (fun i h => (∃ old, IsEnum h I it (i : Nat) old) ∧ h.IsListIter it l i ∧ h.IsList l items) where
  sub := fun b hb => by simp at hb ⊢; rcases hb with h | h <;> simp [h]
  frame := fun i h h' st hk => ⟨let ⟨old, q⟩ := st.1; ⟨old, hk I (by simp) _ q⟩, st.2.1.at fun o q => hk it (by simp) o q, st.2.2.at fun o q => hk l (by simp) o q⟩
  live := fun i h st b hb => by
    simp at hb
    rcases hb with rfl | rfl
    · obtain ⟨_, q⟩ := st.1
      exact ⟨_, q⟩
    · refine ob_ea (st.2.1) ?_
      intro o q _
      exact ⟨o, q⟩
  item := fun i s Q E E' hi st hQ => by
    obtain ⟨⟨old, he⟩, hit, ht⟩ := st
    have heI : I < s.heap.objs.size := Heap.lt_size he
    have hfr : s.heap.get? s.heap.objs.size = none := Heap.get?_none_of_le (Nat.le_refl _)
    refine enum_next (x := items[i]) (St := fun h => h.IsListIter it l (i + 1) ∧ h.IsList l items) he h1 (fun h h' st k => ⟨st.1.at fun o q => k it o (Ne.symm h1) q, st.2.at fun o q => k l o h2 q⟩)
      (fun A' E'' Q' _ k => wpAny_nextOf_list_item hit ht (by simp [hi]) fun h' a b => k h' ⟨a, ht.extBut b.extBut h3⟩ b) fun h' ho st' ha hk => ?_
    refine wpAny_letOwnedTupleGo_enum ho fun h₂ he₂ hs₂ => ?_
    have up : ∀ b o, b ≠ I → h'.get? b = some o → h₂.get? b = some o := fun b o hb q => hs₂.extBut b o hb q
    exact hQ _ [(s.heap.objs.size, tupO [.int (i : Nat) s.toks, items[i]] 0)] h₂ _ ⟨_, _, _, by simp [hi], rfl, rfl⟩
      (fun p hp => by rw [List.mem_singleton.mp hp]; exact ⟨up _ _ (Nat.ne_of_gt heI) ha, hfr⟩)
      ⟨⟨_, by have := he₂; simpa using this⟩, st'.1.at fun o q => up it o (Ne.symm h1) q, st'.2.at fun o q => up l o h2 q⟩
      fun b o hb q => up b o (fun e => hb (by simp [e])) (hk b o (fun e => hb (by simp [e])) (fun e => hb (by simp [e])) q)
  done := fun s Q E st hQ => by
    obtain ⟨⟨old, he⟩, hit, ht⟩ := st
    exact enum_end he (fun A' E' Q' hA' k => wpAny_nextOf_list_end (hA'.trans hh) hit ht (by simp) k) fun h' k => hQ h' s.toks fun b o hb q => k b o (fun e => hb (by simp [e])) q

noncomputable def FStep (h₀ : Heap) (L : Addr) (wr : List Addr) (own : Led) (Jn : (Str → Option Value) → Led → Prop) (s₁ : Shared) (Q : Flow → Shared → Prop) (f : Flow) (s₂ : Shared) : Prop :=
  match f with
  | .ret v => Q (.ret v) s₂
  | .brk => Q .next s₂
  | _ => ∃ h' tk m' news', s₂ = { s₁ with heap := h', toks := tk } ∧ Fr h₀ L h' m' ∧ News h₀ L h' (news' ++ own) ∧ (∀ p ∈ news', p.1 ∉ wr) ∧ Jn m' news'

theorem FStep.brk {h₀ : Heap} {L : Addr} {wr : List Addr} {own : Led} {Jn : (Str → Option Value) → Led → Prop} {s₁ : Shared} {Q : Flow → Shared → Prop} {s₂ : Shared} (h : Q .next s₂) : FStep h₀ L wr own Jn s₁ Q .brk s₂ := h
theorem FStep.ret {h₀ : Heap} {L : Addr} {wr : List Addr} {own : Led} {Jn : (Str → Option Value) → Led → Prop} {s₁ : Shared} {Q : Flow → Shared → Prop} {v : Value} {s₂ : Shared} (h : Q (.ret v) s₂) : FStep h₀ L wr own Jn s₁ Q (.ret v) s₂ := h
theorem FStep.next {h₀ : Heap} {L : Addr} {wr : List Addr} {own led : Led} {Jn : (Str → Option Value) → Led → Prop} {s₁ : Shared} {Q : Flow → Shared → Prop} {h' : Heap} {tk : Nat} {m' : Str → Option Value} (news' : Led)
    (F : Fr h₀ L h' m') (N : News h₀ L h' led) (hs : ∀ p ∈ news' ++ own, p ∈ led) (ho : ∀ p ∈ news', p.1 ∉ wr) (hj : Jn m' news') : FStep h₀ L wr own Jn s₁ Q .next { s₁ with heap := h', toks := tk } :=
  ⟨h', tk, m', news', rfl, F, fun p hp => N p (hs p hp), ho, hj⟩
theorem FStep.head {h₀ : Heap} {L : Addr} {wr : List Addr} {own more : Led} {e : Addr × Obj} {Jn : (Str → Option Value) → Led → Prop} {s₁ : Shared} {Q : Flow → Shared → Prop} {h' : Heap} {tk : Nat} {m' : Str → Option Value} (news' : Led)
    (F : Fr h₀ L h' m') (N : News h₀ L h' (e :: more)) (hs : ∀ p ∈ news' ++ own, p ∈ more) (ho : ∀ p ∈ e :: news', p.1 ∉ wr) (hj : Jn m' (e :: news')) : FStep h₀ L wr own Jn s₁ Q .next { s₁ with heap := h', toks := tk } :=
  ⟨h', tk, m', e :: news', rfl, F, fun p hp => by
    rcases List.mem_cons.mp hp with rfl | hp
    · exact N _ (.head _)
    · exact N p (List.mem_cons_of_mem _ (hs p hp)), ho, hj⟩
theorem FStep.cont {h₀ : Heap} {L : Addr} {wr : List Addr} {own led : Led} {Jn : (Str → Option Value) → Led → Prop} {s₁ : Shared} {Q : Flow → Shared → Prop} {h' : Heap} {tk : Nat} {m' : Str → Option Value} (news' : Led)
    (F : Fr h₀ L h' m') (N : News h₀ L h' led) (hs : ∀ p ∈ news' ++ own, p ∈ led) (ho : ∀ p ∈ news', p.1 ∉ wr) (hj : Jn m' news') : FStep h₀ L wr own Jn s₁ Q .cont { s₁ with heap := h', toks := tk } :=
  ⟨h', tk, m', news', rfl, F, fun p hp => N p (hs p hp), ho, hj⟩
section
variable {prog : Program} {w : World} {A : Around} {E : Value → Shared → Prop} {s : Shared} {env : Env} {h₀ : Heap} {Q : Flow → Shared → Prop}

noncomputable def ForAt (prog : Program) (w : World) (A : Around) (h₀ : Heap) (env : Env) (target : Expr) (body orelse : List Stmt) (Q : Flow → Shared → Prop) (E : Value → Shared → Prop) (it : Value) (s₂ : Shared) : Prop :=
  ∃ (I : Addr) (fp wr : List Addr) (n : Nat) (P : Nat → Value → Led → Prop) (St : Nat → Heap → Prop) (m : Str → Option Value) (news : Led) (J : Nat → (Str → Option Value) → Led → Prop),
    it = .ref I ∧ Src prog w A target I fp wr n P St ∧ env.locals ∉ fp ∧ (∀ b ∈ wr, h₀.get? b = none) ∧ (∀ p ∈ news, p.1 ∉ wr) ∧ St 0 s₂.heap ∧ Fr h₀ env.locals s₂.heap m ∧ News h₀ env.locals s₂.heap news ∧ J 0 m news ∧
    (∀ i v mk m₁ news₁ h tk own, i < n → P i v mk → J i m₁ news₁ → (∀ p ∈ news₁, p.1 ∉ wr) → (∀ p ∈ own, p.1 ∈ fp) → (∀ b ∈ wr, ∃ o, (b, o) ∈ own) → Fr h₀ env.locals h m₁ → News h₀ env.locals h (mk ++ (news₁ ++ own)) →
      wpAny (model prog w) A (assign target env v) (fun _ s₃ => wpAny (model prog w) A (execs body env) (FStep h₀ env.locals wr own (J (i + 1)) { s₂ with heap := h, toks := tk } Q) E s₃) E { s₂ with heap := h, toks := tk }) ∧
    ∀ h' tk m' news', Fr h₀ env.locals h' m' → News h₀ env.locals h' news' → J n m' news' → (∀ b ∈ fp, b ∉ wr → ∀ o, s₂.heap.get? b = some o → h'.get? b = some o) → wpAny (model prog w) A (execs orelse env) Q E { s₂ with heap := h', toks := tk }

noncomputable abbrev forSt (h₀ : Heap) (L : Addr) (s₂ : Shared) (fp wr : List Addr) (n : Nat) (St : Nat → Heap → Prop) (J : Nat → (Str → Option Value) → Led → Prop) (k : Nat) (s' : Shared) : Prop := ∃ h' tk m' news' i, s' = { s₂ with heap := h', toks := tk } ∧ St i h' ∧ Fr h₀ L h' m' ∧ News h₀ L h' news' ∧ (∀ p ∈ news', p.1 ∉ wr) ∧ J i m' news' ∧ i ≤ n ∧ k = n + 1 - i ∧ (∀ b ∈ fp, b ∉ wr → ∀ o, s₂.heap.get? b = some o → h'.get? b = some o)
theorem for_inv {target iter : Expr} {body orelse : List Stmt} {pos : Pos} {m₀ : Str → Option Value} (_F : Fr h₀ env.locals s.heap m₀)
    (h : wpAny (model prog w) A (eval iter env) (fun xv s₁ => wpAny (model prog w) A (pyIter xv) (fun it s₂ => ForAt prog w A h₀ env target body orelse Q E it s₂) E s₁) E s)
    (hs : ∀ x, foldedSetIterable iter env x = pure x := by intro _; rfl)
    (hE : PassesOwn (model prog w) A env E := by passes_own) :
    wpAny (model prog w) A (exec (.For target iter body orelse pos) env) Q E s := by
  refine wpAny_For (wpAny_mono h (fun xv s₁ h₁ => wpAny_mono h₁ (fun it s₂ h₂ => ?_) fun _ _ e => e) fun _ _ e => e) hs
  refine ob_eeeeeeeee (h₂) ?_
  clear h₂
  intro I fp wr n P St m news J hq0
  refine ob_aaaaaaaaaa hq0 ?_
  clear hq0
  intro er2 W hLf hwr hnw hst F N h0 step hdone
  subst er2
  have hLw : env.locals ∉ wr := fun h => hLf (W.sub _ h)
  have old : ∀ b o, h₀.get? b = some o → b ∉ wr := fun b o e hb => by rw [hwr b hb] at e; cases e
  refine codeAny_forLoop_any
    (forSt h₀ env.locals s₂ fp wr n St J) ?_ (n + 1)
    ⟨s₂.heap, s₂.toks, m, news, 0, rfl, hst, F, N, hnw, h0, Nat.zero_le _, rfl, fun _ _ _ _ e => e⟩
  intro k s' hZ
  refine ob_eeeee hZ ?_
  clear hZ
  intro h' tk m' news' i hq0
  refine ob_aaaaaaaa hq0 ?_
  clear hq0
  intro er3 hst' F' N' hnw' hJ hi er4 hfp
  subst er3
  subst er4
  by_cases hlt : i < n
  · refine wpAny_mono (W.item i { s₂ with heap := h', toks := tk } (fun v s₄ => wpAny (model prog w) A (assign target env v) (fun _ s₅ => wpAny (model prog w) A (execs body env) (fun f s₆ => match f with
            | .next | .cont => ∃ m₆, m₆ < n + 1 - i ∧ forSt h₀ env.locals s₂ fp wr n St J m₆ s₆
            | .brk => Q .next s₆
            | .ret v => Q (.ret v) s₆) E s₅) E s₄) E E hlt hst' fun v mk h₁ tk₁ hP hmk hst₁ hk₁ => ?_) (fun r s₁ h₁ => ?_) hE
    · have F₁ : Fr h₀ env.locals h₁ m' := ⟨F'.ns.at' fun o e => hk₁ _ o hLw e, fun b o e => hk₁ b o (old b o e) (F'.keep b o e), F'.above⟩
      have N₁ : News h₀ env.locals h₁ news' := fun p hp => ⟨hk₁ _ _ (hnw' p hp) (N' p hp).1, (N' p hp).2⟩
      have Nown : News h₀ env.locals h₁ (ownOf h₀ fp h₁) := news_ownOf hLf
      have Nmk : News h₀ env.locals h₁ mk := fun p hp => ⟨(hmk p hp).1, fun e => by
        refine ob_eeea (F'.ns) ?_
        intro oL _ _ hL _
        have := (hmk p hp).2
        rw [e] at this
        exact absurd (hL.symm.trans this) (by simp), by
        cases hq : h₀.get? p.1 with
        | none => rfl
        | some o => have := F'.keep _ _ hq; rw [(hmk p hp).2] at this; cases this⟩
      refine wpAny_mono (step i v mk m' news' h₁ tk₁ (ownOf h₀ fp h₁) hlt hP hJ hnw' ownOf_sub (fun b hb => by
        obtain ⟨o, ho⟩ := W.live _ _ hst₁ b hb
        exact ⟨o, mem_ownOf (W.sub b hb) (hwr b hb) ho⟩) F₁ (Nmk.append (N₁.append Nown))) (fun _ s₃ h₃ => wpAny_mono h₃ (fun f s₄ h₄ => ?_) fun _ _ e => e) fun _ _ e => e
      have fin : (∃ h' tk m' news', s₄ = { s₂ with heap := h', toks := tk } ∧ Fr h₀ env.locals h' m' ∧ News h₀ env.locals h' (news' ++ ownOf h₀ fp h₁) ∧ (∀ p ∈ news', p.1 ∉ wr) ∧ J (i + 1) m' news') →
          ∃ m₆, m₆ < n + 1 - i ∧ forSt h₀ env.locals s₂ fp wr n St J m₆ s₄ := by
        intro hZ
        refine ob_eeee hZ ?_
        clear hZ
        intro h₅ tk₅ m₅ news₅ hq0
        refine ob_aaaa hq0 ?_
        clear hq0
        intro er5 F₅ N₅ ha₅ hJ₅
        subst er5
        have keepfp : ∀ b ∈ fp, ∀ o, h₁.get? b = some o → h₅.get? b = some o := fun b hb o e => by
          cases hn : h₀.get? b with
          | some o₀ =>
            have : o₀ = o := by have := F₁.keep b o₀ hn; rw [e] at this; exact (Option.some.inj this).symm
            exact this ▸ F₅.keep b o₀ hn
          | none => exact (N₅ _ (List.mem_append_right _ (mem_ownOf hb hn e))).1
        exact ⟨n + 1 - (i + 1), by omega, h₅, tk₅, m₅, news₅, i + 1, rfl, W.frame _ _ _ hst₁ keepfp, F₅, fun p hp => N₅ p (List.mem_append_left _ hp), ha₅, hJ₅, hlt, rfl,
          fun b hb hbw o e => keepfp b hb o (hk₁ b o hbw (hfp b hb hbw o e))⟩
      cases f with
      | ret v => exact h₄
      | brk => exact h₄
      | cont => exact fin h₄
      | next => exact fin h₄
    · cases r with
      | none => exact h₁.elim
      | some v => exact wpAny_mono h₁ (fun _ s₄ h₄ => wpAny_mono h₄ (fun _ s₅ h₅ => wpAny_mono h₅ (fun f s₆ h₆ => by cases f <;> exact h₆) hE) hE) hE
  · have hin : i = n := by omega
    subst hin
    refine W.done _ _ _ hst' fun h₁ tk₁ hk₁ => ?_
    have F₁ : Fr h₀ env.locals h₁ m' := ⟨F'.ns.at' fun o e => hk₁ _ o hLw e, fun b o e => hk₁ b o (old b o e) (F'.keep b o e), F'.above⟩
    have N₁ : News h₀ env.locals h₁ news' := fun p hp => ⟨hk₁ _ _ (hnw' p hp) (N' p hp).1, (N' p hp).2⟩
    exact wpAny_mono (hdone h₁ tk₁ m' news' F₁ N₁ hJ fun b hb hbw o e => hk₁ b o hbw (hfp b hb hbw o e)) (fun f s₃ h₃ => h₃) hE

noncomputable def Own (fp wr : List Addr) (news own : Led) : Prop := (∀ p ∈ news, p.1 ∉ wr) ∧ (∀ p ∈ own, p.1 ∈ fp) ∧ ∀ b ∈ wr, ∃ o, (b, o) ∈ own

theorem fresh_of {h₀ h : Heap} {L : Addr} {m : Str → Option Value} (F : Fr h₀ L h m) {a : Addr} (ha : h.objs.size ≤ a) : h₀.get? a = none ∧ a ≠ L := by
  refine ob_eeea (F.ns) ?_
  intro oL _ _ hL _
  refine ⟨?_, fun e => absurd (Nat.lt_of_lt_of_le (Heap.lt_size hL) (e ▸ ha)) (Nat.lt_irrefl _)⟩
  cases q : h₀.get? a with
  | none => rfl
  | some o => exact absurd (Nat.lt_of_lt_of_le (Heap.lt_size (F.keep _ _ q)) ha) (Nat.lt_irrefl _)

theorem at_enumTup {elts : List Expr} {x1 : Nat} {tp : Pos} {body orelse : List Stmt} {l : Addr} {items : Array Value} {n : Nat} {m : Str → Option Value} {news : Led} (J : Nat → (Str → Option Value) → Led → Prop)
    (hh : A.handled = none) (F : Fr h₀ env.locals s.heap m) (N : News h₀ env.locals s.heap news) (hl : s.heap.get? l = some { cls := .type "tuple", dict := none, data := .seq items n, slots := #[] }) (h0 : J 0 m news)
    (turn : ∀ i x a tk m₁ news₁ h tk' fp wr own, items[i]? = some x → J i m₁ news₁ → Own fp wr news₁ own → (∀ p ∈ own, p.1 = l ∨ (p.1 ∈ wr ∧ s.heap.objs.size ≤ p.1)) → Fr h₀ env.locals h m₁ → News h₀ env.locals h ((a, tupO [.int (i : Nat) tk, x] 0) :: (news₁ ++ own)) →
      wpAny (model prog w) A (assign (.Tuple elts x1 tp) env (.ref a)) (fun _ s₃ => wpAny (model prog w) A (execs body env) (FStep h₀ env.locals wr own (J (i + 1)) { s with heap := h, toks := tk' } Q) E s₃) E { s with heap := h, toks := tk' })
    (done : ∀ h' tk m' news', Fr h₀ env.locals h' m' → News h₀ env.locals h' news' → J items.size m' news' → wpAny (model prog w) A (execs orelse env) Q E { s with heap := h', toks := tk }) :
    wpAny (model prog w) A (call (.type "enumerate") [.ref l]) (fun xv s₁ => wpAny (model prog w) A (pyIter xv) (fun it s₂ => ForAt prog w A h₀ env (.Tuple elts x1 tp) body orelse Q E it s₂) E s₁) E s := by
  refine enum_tup hl fun h2 he hit hk => wpAny_pyIter_enum he ?_
  have F2 := F.keeps hk
  have N2 : News h₀ env.locals h2 news := fun p hp => ⟨hk _ _ (N p hp).1, (N p hp).2⟩
  have hlt := Heap.lt_size hl
  have hL : l ≠ env.locals := F.tup_ne (items := items) ⟨_, hl, rfl, n, rfl⟩
  have f0 := fresh_of F (Nat.le_refl s.heap.objs.size)
  have f1 := fresh_of F (Nat.le_succ s.heap.objs.size)
  have hlt' : ∀ p ∈ news, p.1 < s.heap.objs.size := fun p hp => Heap.lt_size (N p hp).1
  refine ⟨_, _, _, _, _, _, m, news, J, rfl, Src.enumTup hh (s.heap.objs.size + 1) s.heap.objs.size l (Nat.succ_ne_self _) (Nat.ne_of_lt (Nat.lt_succ_of_lt hlt)) (Nat.ne_of_lt hlt) items, ?_, ?_, ?_, ⟨⟨_, he⟩, hit, ⟨_, hk _ _ hl, rfl, n, rfl⟩⟩, F2, N2, h0, ?_, ?_⟩
  · simp only [List.mem_cons, List.not_mem_nil, or_false, not_or]
    exact ⟨Ne.symm f1.2, Ne.symm f0.2, Ne.symm hL⟩
  · intro b hb
    simp only [List.mem_cons, List.not_mem_nil, or_false] at hb
    rcases hb with rfl | rfl
    · exact f1.1
    · exact f0.1
  · intro p hp hb
    simp only [List.mem_cons, List.not_mem_nil, or_false] at hb
    rcases hb with e | e
    · exact absurd (e ▸ hlt' p hp) (Nat.not_lt.mpr (Nat.le_succ _))
    · exact absurd (e ▸ hlt' p hp) (Nat.lt_irrefl _)
  · intro i v mk m₁ news₁ h tk own hi hZ  hJ o1 o2 o3 F₁ N₁
    refine ob_eee hZ ?_
    clear hZ
    intro a tk' x hq0
    refine ob_aa hq0 ?_
    clear hq0
    intro hx er6 er7
    subst er6
    subst er7
    refine turn i x a tk' m₁ news₁ h tk _ _ own hx hJ ⟨o1, o2, o3⟩ (fun p hp => ?_) F₁ N₁
    rcases List.mem_cons.mp (o2 p hp) with e | e
    · exact .inr ⟨by simp [e], e ▸ Nat.le_succ _⟩
    · rcases List.mem_cons.mp e with e | e
      · exact .inr ⟨by simp [e], Nat.le_of_eq e.symm⟩
      · exact .inl (List.mem_singleton.mp e)
  · intro h' tk m' news' F' N' hJ _
    exact done h' tk m' news' F' N' hJ

theorem at_enumList {elts : List Expr} {x1 : Nat} {tp : Pos} {body orelse : List Stmt} {l : Addr} {items : Array Value} {m : Str → Option Value} {news : Led} (J : Nat → (Str → Option Value) → Led → Prop)
    (hh : A.handled = none) (F : Fr h₀ env.locals s.heap m) (N : News h₀ env.locals s.heap news) (hL' : s.heap.IsList l items) (hL : l ≠ env.locals) (h0 : J 0 m news)
    (turn : ∀ i x a tk m₁ news₁ h tk' fp wr own, items[i]? = some x → J i m₁ news₁ → Own fp wr news₁ own → (∀ p ∈ own, p.1 = l ∨ (p.1 ∈ wr ∧ s.heap.objs.size ≤ p.1)) → Fr h₀ env.locals h m₁ → News h₀ env.locals h ((a, tupO [.int (i : Nat) tk, x] 0) :: (news₁ ++ own)) →
      wpAny (model prog w) A (assign (.Tuple elts x1 tp) env (.ref a)) (fun _ s₃ => wpAny (model prog w) A (execs body env) (FStep h₀ env.locals wr own (J (i + 1)) { s with heap := h, toks := tk' } Q) E s₃) E { s with heap := h, toks := tk' })
    (done : ∀ h' tk m' news', Fr h₀ env.locals h' m' → News h₀ env.locals h' news' → J items.size m' news' → wpAny (model prog w) A (execs orelse env) Q E { s with heap := h', toks := tk }) :
    wpAny (model prog w) A (call (.type "enumerate") [.ref l]) (fun xv s₁ => wpAny (model prog w) A (pyIter xv) (fun it s₂ => ForAt prog w A h₀ env (.Tuple elts x1 tp) body orelse Q E it s₂) E s₁) E s := by
  refine call_enumerate_list hL' fun h2 he hit _ hk => wpAny_pyIter_enum he ?_
  have F2 := F.keeps hk
  have N2 : News h₀ env.locals h2 news := fun p hp => ⟨hk _ _ (N p hp).1, (N p hp).2⟩
  have hlt : l < s.heap.objs.size := by obtain ⟨_, q, _⟩ := hL'; exact Heap.lt_size q
  have f0 := fresh_of F (Nat.le_refl s.heap.objs.size)
  have f1 := fresh_of F (Nat.le_succ s.heap.objs.size)
  have hlt' : ∀ p ∈ news, p.1 < s.heap.objs.size := fun p hp => Heap.lt_size (N p hp).1
  refine ⟨_, _, _, _, _, _, m, news, J, rfl, Src.enumList hh (s.heap.objs.size + 1) s.heap.objs.size l (Nat.succ_ne_self _) (Nat.ne_of_lt (Nat.lt_succ_of_lt hlt)) (Nat.ne_of_lt hlt) items, ?_, ?_, ?_, ⟨⟨_, he⟩, hit, hL'.at fun o q => hk _ _ q⟩, F2, N2, h0, ?_, ?_⟩
  · simp only [List.mem_cons, List.not_mem_nil, or_false, not_or]
    exact ⟨Ne.symm f1.2, Ne.symm f0.2, Ne.symm hL⟩
  · intro b hb
    simp only [List.mem_cons, List.not_mem_nil, or_false] at hb
    rcases hb with rfl | rfl
    · exact f1.1
    · exact f0.1
  · intro p hp hb
    simp only [List.mem_cons, List.not_mem_nil, or_false] at hb
    rcases hb with e | e
    · exact absurd (e ▸ hlt' p hp) (Nat.not_lt.mpr (Nat.le_succ _))
    · exact absurd (e ▸ hlt' p hp) (Nat.lt_irrefl _)
  · intro i v mk m₁ news₁ h tk own hi hZ  hJ o1 o2 o3 F₁ N₁
    refine ob_eee hZ ?_
    clear hZ
    intro a tk' x hq0
    refine ob_aa hq0 ?_
    clear hq0
    intro hx er8 er9
    subst er8
    subst er9
    refine turn i x a tk' m₁ news₁ h tk _ _ own hx hJ ⟨o1, o2, o3⟩ (fun p hp => ?_) F₁ N₁
    rcases List.mem_cons.mp (o2 p hp) with e | e
    · exact .inr ⟨by simp [e], e ▸ Nat.le_succ _⟩
    · rcases List.mem_cons.mp e with e | e
      · exact .inr ⟨by simp [e], Nat.le_of_eq e.symm⟩
      · exact .inl (List.mem_singleton.mp e)
  · intro h' tk m' news' F' N' hJ _
    exact done h' tk m' news' F' N' hJ

theorem at_tup {target : Expr} {body orelse : List Stmt} {l : Addr} {items : Array Value} {m : Str → Option Value} {news : Led} (J : Nat → (Str → Option Value) → Led → Prop)
    (hh : A.handled = none) (F : Fr h₀ env.locals s.heap m) (N : News h₀ env.locals s.heap news) (ht : s.heap.IsTuple l items) (h0 : J 0 m news)
    (turn : ∀ i x m₁ news₁ h tk' fp wr own, items[i]? = some x → J i m₁ news₁ → Own fp wr news₁ own → (∀ p ∈ own, p.1 = l ∨ (p.1 ∈ wr ∧ s.heap.objs.size ≤ p.1)) → Fr h₀ env.locals h m₁ → News h₀ env.locals h (news₁ ++ own) →
      wpAny (model prog w) A (assign target env x) (fun _ s₃ => wpAny (model prog w) A (execs body env) (FStep h₀ env.locals wr own (J (i + 1)) { s with heap := h, toks := tk' } Q) E s₃) E { s with heap := h, toks := tk' })
    (done : ∀ h' tk m' news', Fr h₀ env.locals h' m' → News h₀ env.locals h' news' → J items.size m' news' → h'.IsTuple l items → wpAny (model prog w) A (execs orelse env) Q E { s with heap := h', toks := tk }) :
    wpAny (model prog w) A (pyIter (.ref l)) (fun it s₂ => ForAt prog w A h₀ env target body orelse Q E it s₂) E s := by
  refine wpAny_pyIter_tuple ht ?_
  have hlt : l < s.heap.objs.size := by obtain ⟨_, q, _⟩ := ht; exact Heap.lt_size q
  have hL : l ≠ env.locals := F.tup_ne (items := items) ht
  have f0 := fresh_of F (Nat.le_refl s.heap.objs.size)
  refine ⟨_, _, _, _, _, _, m, news, J, rfl, Src.ofWalks (Walks.tuple hh s.heap.objs.size l (Nat.ne_of_lt hlt) items) (fun i h st b hb => ?_) (fun i s' v Q' E' st q => letGo_tupleiter st.1 q), ?_, ?_, ?_,
    ⟨⟨_, Heap.get?_push_size _ rfl, rfl, rfl⟩, ht.at fun o e => Heap.get?_push_of_some _ e⟩, F.push _, fun p hp => ⟨Heap.get?_push_of_some _ (N p hp).1, (N p hp).2⟩, h0, ?_, ?_⟩
  · rw [List.mem_singleton.mp hb]
    refine ob_ea (st.1) ?_
    intro o q _
    exact ⟨o, q⟩
  · simp only [List.mem_cons, List.not_mem_nil, or_false, not_or]
    exact ⟨Ne.symm f0.2, Ne.symm hL⟩
  · intro b hb
    rw [List.mem_singleton.mp hb]
    exact f0.1
  · intro p hp hb
    have := Heap.lt_size (N p hp).1
    rw [List.mem_singleton.mp hb] at this
    exact absurd this (Nat.lt_irrefl _)
  · rintro i v mk m₁ news₁ h tk own hi ⟨hx, rfl⟩ hJ o1 o2 o3 F₁ N₁
    refine turn i v m₁ news₁ h tk _ _ own hx hJ ⟨o1, o2, o3⟩ (fun p hp => ?_) F₁ N₁
    rcases List.mem_cons.mp (o2 p hp) with e | e
    · exact .inr ⟨by simp [e], Nat.le_of_eq e.symm⟩
    · exact .inl (List.mem_singleton.mp e)
  · intro h' tk m' news' F' N' hJ hk
    exact done h' tk m' news' F' N' hJ (ht.at fun o e => hk l (by simp) (by simpa using Nat.ne_of_lt hlt) o (Heap.get?_push_of_some _ e))

theorem at_list {x₀ : Str} {px : Pos} {body orelse : List Stmt} {l : Addr} {items : Array Value} {m : Str → Option Value} {news : Led} (J : Nat → (Str → Option Value) → Led → Prop)
    (hh : A.handled = none) (F : Fr h₀ env.locals s.heap m) (N : News h₀ env.locals s.heap news) (ht : s.heap.IsList l items) (hL : l ≠ env.locals) (h0 : J 0 m news)
    (turn : ∀ i x m₁ news₁ h tk' fp wr own, items[i]? = some x → J i m₁ news₁ → Own fp wr news₁ own → (∀ p ∈ own, p.1 = l ∨ (p.1 ∈ wr ∧ s.heap.objs.size ≤ p.1)) → Fr h₀ env.locals h m₁ → News h₀ env.locals h (news₁ ++ own) →
      wpAny (model prog w) A (assign (.Name x₀ px) env x) (fun _ s₃ => wpAny (model prog w) A (execs body env) (FStep h₀ env.locals wr own (J (i + 1)) { s with heap := h, toks := tk' } Q) E s₃) E { s with heap := h, toks := tk' })
    (done : ∀ h' tk m' news', Fr h₀ env.locals h' m' → News h₀ env.locals h' news' → J items.size m' news' → (∀ o, s.heap.get? l = some o → h'.get? l = some o) → wpAny (model prog w) A (execs orelse env) Q E { s with heap := h', toks := tk }) :
    wpAny (model prog w) A (pyIter (.ref l)) (fun it s₂ => ForAt prog w A h₀ env (.Name x₀ px) body orelse Q E it s₂) E s := by
  refine wpAny_pyIter_list ht ?_
  have hlt : l < s.heap.objs.size := by obtain ⟨_, q, _⟩ := ht; exact Heap.lt_size q
  have f0 := fresh_of F (Nat.le_refl s.heap.objs.size)
  refine ⟨_, _, _, _, _, _, m, news, J, rfl, Src.ofWalks (Walks.list hh s.heap.objs.size l (Nat.ne_of_lt hlt) items) (fun i h st b hb => ?_) (fun i s' v Q' E' st q => go_name q), ?_, ?_, ?_,
    ⟨⟨_, Heap.get?_push_size _ rfl, rfl, rfl⟩, ht.at fun o e => Heap.get?_push_of_some _ e⟩, F.push _, fun p hp => ⟨Heap.get?_push_of_some _ (N p hp).1, (N p hp).2⟩, h0, ?_, ?_⟩
  · rw [List.mem_singleton.mp hb]
    refine ob_ea (st.1) ?_
    intro o q _
    exact ⟨o, q⟩
  · simp only [List.mem_cons, List.not_mem_nil, or_false, not_or]
    exact ⟨Ne.symm f0.2, Ne.symm hL⟩
  · intro b hb
    rw [List.mem_singleton.mp hb]
    exact f0.1
  · intro p hp hb
    have := Heap.lt_size (N p hp).1
    rw [List.mem_singleton.mp hb] at this
    exact absurd this (Nat.lt_irrefl _)
  · rintro i v mk m₁ news₁ h tk own hi ⟨hx, rfl⟩ hJ o1 o2 o3 F₁ N₁
    refine turn i v m₁ news₁ h tk _ _ own hx hJ ⟨o1, o2, o3⟩ (fun p hp => ?_) F₁ N₁
    rcases List.mem_cons.mp (o2 p hp) with e | e
    · exact .inr ⟨by simp [e], Nat.le_of_eq e.symm⟩
    · exact .inl (List.mem_singleton.mp e)
  · intro h' tk m' news' F' N' hJ hk
    exact done h' tk m' news' F' N' hJ fun o e => hk l (by simp) (by simpa using Nat.ne_of_lt hlt) o (Heap.get?_push_of_some _ e)

theorem at_range {x₀ : Str} {px : Pos} {body orelse : List Stmt} {r : Addr} {a b : Int} {t u v : Tok} {n : Nat} {m : Str → Option Value} {news : Led} (J : Nat → (Str → Option Value) → Led → Prop)
    (hh : A.handled = none) (F : Fr h₀ env.locals s.heap m) (N : News h₀ env.locals s.heap news) (hr : IsRange s.heap r a b 1 t u v) (hs : Builtin.Range.small a b 1 = true) (hn : Builtin.Range.rangeSize a b 1 = (n : Int)) (h0 : J 0 m news)
    (turn : ∀ i tx m₁ news₁ h tk' fp wr own, i < n → J i m₁ news₁ → Own fp wr news₁ own → (∀ p ∈ own, p.1 ∈ wr ∧ s.heap.objs.size ≤ p.1) → Fr h₀ env.locals h m₁ → News h₀ env.locals h (news₁ ++ own) →
      wpAny (model prog w) A (assign (.Name x₀ px) env (.int (a + (i : Nat)) tx)) (fun _ s₃ => wpAny (model prog w) A (execs body env) (FStep h₀ env.locals wr own (J (i + 1)) { s with heap := h, toks := tk' } Q) E s₃) E { s with heap := h, toks := tk' })
    (done : ∀ h' tk m' news', Fr h₀ env.locals h' m' → News h₀ env.locals h' news' → J n m' news' → wpAny (model prog w) A (execs orelse env) Q E { s with heap := h', toks := tk }) :
    wpAny (model prog w) A (pyIter (.ref r)) (fun it s₂ => ForAt prog w A h₀ env (.Name x₀ px) body orelse Q E it s₂) E s := by
  refine wpAny_pyIter_range hr hs ?_
  have f0 := fresh_of F (Nat.le_refl s.heap.objs.size)
  refine ⟨_, _, _, _, _, _, m, news, J, rfl, Src.ofWalks (Walks.range hh s.heap.objs.size a 1 n) (fun i h st b hb => ?_) (fun i s' v Q' E' st q => go_name q), ?_, ?_, ?_,
    ?_, F.push _, fun p hp => ⟨Heap.get?_push_of_some _ (N p hp).1, (N p hp).2⟩, h0, ?_, ?_⟩
  · rw [List.mem_singleton.mp hb]
    exact ⟨_, st⟩
  · simp only [List.mem_cons, List.not_mem_nil, or_false]
    exact Ne.symm f0.2
  · intro b hb
    rw [List.mem_singleton.mp hb]
    exact f0.1
  · intro p hp hb
    have := Heap.lt_size (N p hp).1
    rw [List.mem_singleton.mp hb] at this
    exact absurd this (Nat.lt_irrefl _)
  · have := Heap.get?_push_size s.heap (o := { cls := .type "range_iterator", data := .fields #[rawInt a, rawInt (Builtin.Range.rangeSize a b 1), rawInt 1] }) rfl
    rw [hn] at this
    simpa [IsRangeIter, hn] using this
  · rintro i v mk m₁ news₁ h tk own hi ⟨⟨tx, rfl⟩, rfl⟩ hJ o1 o2 o3 F₁ N₁
    rw [Int.mul_one]
    exact turn i tx m₁ news₁ h tk _ _ own hi hJ ⟨o1, o2, o3⟩ (fun p hp => ⟨o2 p hp, by rw [List.mem_singleton.mp (o2 p hp)]; exact Nat.le_refl _⟩) F₁ N₁
  · intro h' tk m' news' F' N' hJ hk
    exact done h' tk m' news' F' N' hJ
end

section
variable {prog : Program} {w : World} {A : Around} {E : Value → Shared → Prop} {s : Shared} {h₀ : Heap} {L a : Addr} {name : Str} {scope : Scope} {cd : Value} {m : Str → Option Value} {news : Led} {Q : Unit → Shared → Prop}
theorem grown_of {h h' : Heap} (hx : Heap.ExtBut h.objs.size h h') : ∀ b o, h.get? b = some o → h'.get? b = some o := fun b o e => hx b o (Nat.ne_of_lt (Heap.lt_size e)) e
theorem st_name {x : Str} {px : Pos} {v : Value} (F : Fr h₀ L s.heap m) (N : News h₀ L s.heap news)
    (h : ∀ h', Fr h₀ L h' (fun y => if y = x then some v else m y) → News h₀ L h' news → Q () { s with heap := h', toks := s.toks + 1 })
    (hk : scope.kind = .function := by rfl) (hl : (envOf name scope L a cd).kindOf x = some .local := by rfl) :
    wpAny (model prog w) A (assign (.Name x px) (envOf name scope L a cd) v) Q E s := wpAny_assign_Name (stN F N h hk hl)
theorem assign_two {x1 x2 : Str} {p1 p2 tp : Pos} {c : Nat} {t : Addr} {v1 v2 : Value} (hh : A.handled = none) (F : Fr h₀ L s.heap m) (N : News h₀ L s.heap news) (ht : s.heap.IsTuple t #[v1, v2])
    (k : ∀ h' tk, Fr h₀ L h' (fun y => if y = x2 then some v2 else if y = x1 then some v1 else m y) → News h₀ L h' news → Q () { s with heap := h', toks := tk })
    (hk : scope.kind = .function := by rfl) (hl1 : (envOf name scope L a cd).kindOf x1 = some .local := by rfl) (hl2 : (envOf name scope L a cd).kindOf x2 = some .local := by rfl) :
    wpAny (model prog w) A (assign (.Tuple [.Name x1 p1, .Name x2 p2] c tp) (envOf name scope L a cd) (.ref t)) Q E s := by
  refine wpAny_assign_Tuple hh ht rfl rfl fun h₃ hx => ?_
  have F3 := F.keeps (grown_of hx)
  have N3 := News.grown N (grown_of hx)
  show wpAny _ A (do holding [v2] (assign (.Name x1 p1) (envOf name scope L a cd) v1); do holding [] (assign (.Name x2 p2) (envOf name scope L a cd) v2); pure ()) _ _ _
  refine wpAny_bind (wpAny_holding (st_name F3 N3 (fun h4 F4 N4 => ?_) hk hl1))
  refine wpAny_bind (wpAny_holding (st_name F4 N4 (fun h5 F5 N5 => wpAny_pure ?_) hk hl2))
  exact k h5 _ F5 N5
end

section
variable {prog : Program} {w : World} {A : Around} {E : Value → Shared → Prop} {s : Shared} {h₀ : Heap} {L l : Addr} {m : Str → Option Value} {vs : List Value} {n : Nat} {x : Value} {Q : Value → Shared → Prop}
theorem append_led {rest : Led} (F : Fr h₀ L s.heap m) (N : News h₀ L s.heap ((l, lstO vs n) :: rest)) (hne : ∀ p ∈ rest, p.1 ≠ l) (hsz : vs.length ≤ 1000)
    (k : ∀ h', Fr h₀ L h' m → News h₀ L h' ((l, lstO (vs ++ [x]) (n + 1)) :: rest) → Q .none { s with heap := h' }) :
    wpAny (model prog w) A (call (.builtin "list.append") [.ref l, x]) Q E s := by
  refine append_K F N (Upd.head hne) (fun h' F' N' => k h' F' ?_) ?_
  · have e : (vs ++ [x]).toArray = vs.toArray.push x := by simp
    unfold lstO
    rw [e]
    exact N'
  · rw [sizeLine_eq]; simp; omega
end

theorem strsAre_values : ∀ {vs : List Value} {xs : List Str}, StrsAre vs xs → ∃ l : List (Str × Tok), vs = strValues l ∧ l.map (·.1) = xs
  | _, _, .nil => ⟨[], rfl, rfl⟩
  | _, _, .cons y t r => let ⟨l, a, b⟩ := strsAre_values r; ⟨(y, t) :: l, by rw [a]; rfl, by rw [← b]; rfl⟩
section
variable {prog : Program} {w : World} {A : Around} {E : Value → Shared → Prop} {s : Shared} {Q : Value → Shared → Prop}
theorem join_strs {l : Addr} {vs : List Value} {xs : List Str} {x : Str} {t : Tok} (B : Nat) (hl : s.heap.IsList l vs.toArray) (hv : StrsAre vs xs) (hB : ∀ y ∈ xs, y.length ≤ B) (hb : xs.length * B + xs.length * x.length ≤ 16777216)
    (k : ∀ t' tk, Q (.str (Txt.join x xs) t') { s with toks := tk }) : wpAny (model prog w) A (call (.builtin "str.join") [.str x t, .ref l]) Q E s := by
  refine ob_ea (strsAre_values hv) ?_
  intro lv er10 hx
  subst er10
  exact SC.join hl hx (by unfold JoinOk; rw [StrLaws.joinFits hB hb]; rfl) k
end
end Mine
end
section
local macro_rules | `(tactic| k_room) => `(tactic| ktr_room)
local macro_rules | `(tactic| k_units) => `(tactic| ktr_units)
local macro_rules | `(tactic| cell_enter) => `(tactic| (refine' PySem.W.code_defG ?k1 ?k2 ?k3 ?k4 ?k5 ?kA ?kF ?kK ?k6 ?k7 ?k8 ?k9 ?kB ?_ ?c2 ?c3 ?c4 ?c5; (case kA => exact rfl); (case kF => exact rfl); (case kK => assumption); (case k1 => k_asm); (case k2 => k_asm); (case k3 => k_asm); (case k4 => k_asm); (case k5 => k_asm); (case k6 => k_is); (case k7 => k_is); (case k8 => ktr_room); (case k9 => exact PySem.BindsTo.of_eq rfl); (case c5 => decide); (case kB => exact PyProof.Rows.locs rfl); (case c2 => exact rfl); (case c3 => exact rfl); (case c4 => exact rfl); k_whole; intro g' L' h' FG' F' N' B' X' T' kG'; (try dsimp only); (try k_lift B'); (try k_fold)))
section
open PySem PySem.W PyProof.Rows PySem.Spec PySem.Calls
set_option Elab.async false
set_option maxRecDepth 100000
set_option maxHeartbeats 4000000
namespace Mine
theorem calm_C1 : True := by
  w_top off
  k_with_none
  trivial
noncomputable def dep (fs : Nat → File) : Nat → Nat → Nat
  | 0, _ => 0
  | f + 1, k => match (fs k).ah with | none => 0 | some j => dep fs f j + 1

noncomputable def fr3 (x1 x2 x3 : Str) (v1 v2 v3 : Value) : Str → Option Value := fun x => if x = x1 then some v1 else if x = x2 then some v2 else if x = x3 then some v3 else none

theorem c_depth (w : World) (l : Addr) (fs : Nat → File) (fa : Nat → Addr) (k : Nat) (t : Tok) (hk6 : k < 6) (hah : ∀ i j, (fs i).ah = some j → j < 6) :
    Ctr 281 w [.ref l, .int k t] (fun news => FilesIn news l fs fa) (fun news v news' => news' = news ∧ ∃ t', v = .int (dep fs 7 k) t') := by
  unfold Ctr
  k_fill
  intro p loose mean mg mb dp un gd cn cs a ccd cl outer A₀ base h₀ L m news s Q E B F KX N T hk hpre hd9 hu9 hret
  k_with_none
  k_with "exec While BoolOp cons nil" => refine held ?_
  k_with "subscriptTail Name Name ref int" => (with_unfolding_all refine' files_item ?a ?b ?c ?_; (case a => k_asm); (case b => assumption); (case c => assumption))
  refine wpAny_call ?_
  k_dflt cell_enter
  k_steps
  show wpAny _ _ _ _ _ _
  with_reducible rename Fr _ _ _ _ => F1
  with_reducible rename News _ _ _ _ => N1
  refine While_inv2 (fun n m' nx => nx = news ∧ ∃ (d j : Nat) (td tj : Tok), d ≤ 7 ∧ j < 6 ∧ n = 7 - d ∧ d + dep fs (7 - d) j = dep fs 7 k ∧ At m' [("files", .ref l), ("k", .int j tj), ("depth", .int d td)]) (n₀ := 7) F1 N1 ?_ ?_ ?_
  · exact ⟨rfl, 0, k, _, _, by omega, hk6, rfl, by simp, by (with_unfolding_all rfl), by (with_unfolding_all rfl), by (with_unfolding_all rfl), trivial⟩
  · intro n m1 nx h1 tk1 F2 N2 hZ
    refine ob_a hZ ?_
    clear hZ
    intro er1 hq0
    refine ob_eeee hq0 ?_
    clear hq0
    intro d j td tj hq1
    refine ob_aaaa hq1 ?_
    clear hq1
    intro hd hj er2 he hA
    subst er1
    subst er2
    replace F2 := hA.fr F2
    clear hA F1 N1
    refine ob_eeeee (hpre.tup j hj) ?_
    intro t0 t1 t2 t3 n0 ht
    k_steps
    cases hahj : (fs j).ah with
    | none =>
      dsimp only [ahV]
      k_steps
      exact hret _ _ _ _ (by assumption) (by assumption) ⟨rfl, td, by
        rw [← he]; cases hz : 7 - d <;> simp [dep, hahj]⟩ (by exact kept (by assumption) (by assumption))
    | some i =>
      dsimp only [ahV]
      rw [hahj] at ht
      have hi := hah _ _ hahj
      k_steps
      · exact ⟨_, _, _, _, _, rfl, by assumption, by assumption, by omega, rfl, d + 1, i, _, _, by omega, hi, rfl, (by rw [← he, show 7 - d = (7 - (d + 1)) + 1 by omega]; simp only [dep, hahj]; omega), by (with_unfolding_all rfl), by (with_unfolding_all rfl), by (with_unfolding_all rfl), trivial⟩
      · exact hret _ _ _ _ (by assumption) (by assumption) ⟨rfl, td, by
          rw [← he, show 7 - d = 0 by omega]; simp [dep]⟩ (by exact kept (by assumption) (by assumption))
  all_goals passes_own
end Mine
end
section
open PySem PySem.W PyProof.Rows PySem.Spec PySem.Calls
set_option Elab.async false
set_option maxRecDepth 100000
set_option maxHeartbeats 4000000
namespace Mine
theorem calm_C2 : True := by
  w_top off
  k_with_none
  trivial
local macro_rules | `(tactic| k_all) => `(tactic| assumption)

theorem c_isdir (w : World) (n : Nat) (t : Tok) :
    Ctr 196 w [.int (n : Nat) t] (fun _ => True) (fun news v news' => news' = news ∧ v = .bool (Builtin.bitAnd (n : Nat) 61440 == 16384)) := by
  unfold Ctr
  k_fill
  intro p loose mean mg mb dp un gd cn cs a ccd cl outer A₀ base h₀ L m news s Q E B F KX N T hk hpre hd9 hu9 hret
  k_with_none
  refine wpAny_call ?_
  k_dflt cell_enter
  k_steps
  exact hret _ _ _ _ (by assumption) (by assumption) ⟨rfl, rfl⟩ (by exact kept (by assumption) (by assumption))
theorem c_islnk (w : World) (n : Nat) (t : Tok) :
    Ctr 203 w [.int (n : Nat) t] (fun _ => True) (fun news v news' => news' = news ∧ v = .bool (Builtin.bitAnd (n : Nat) 61440 == 40960)) := by
  unfold Ctr
  k_fill
  intro p loose mean mg mb dp un gd cn cs a ccd cl outer A₀ base h₀ L m news s Q E B F KX N T hk hpre hd9 hu9 hret
  k_with_none
  refine wpAny_call ?_
  k_dflt cell_enter
  k_steps
  exact hret _ _ _ _ (by assumption) (by assumption) ⟨rfl, rfl⟩ (by exact kept (by assumption) (by assumption))
theorem c_imode (w : World) (n : Nat) (t : Tok) :
    Ctr 182 w [.int (n : Nat) t] (fun _ => True) (fun news v news' => news' = news ∧ ∃ t', v = .int (Builtin.bitAnd (n : Nat) 4095) t') := by
  unfold Ctr
  k_fill
  intro p loose mean mg mb dp un gd cn cs a ccd cl outer A₀ base h₀ L m news s Q E B F KX N T hk hpre hd9 hu9 hret
  k_with_none
  refine wpAny_call ?_
  k_dflt cell_enter
  k_steps
  exact hret _ _ _ _ (by assumption) (by assumption) ⟨rfl, _, rfl⟩ (by exact kept (by assumption) (by assumption))

noncomputable def fmRows : List (Addr × List (Addr × Nat × String)) := [(211, [(204, 40960, "l"), (205, 49152, "s"), (206, 32768, "-"), (207, 24576, "b"), (208, 16384, "d"), (209, 8192, "c"), (210, 4096, "p")]), (213, [(212, 256, "r")]), (215, [(214, 128, "w")]), (219, [(216, 2112, "s"), (217, 2048, "S"), (218, 64, "x")]), (221, [(220, 32, "r")]), (223, [(222, 16, "w")]), (227, [(224, 1032, "s"), (225, 1024, "S"), (226, 8, "x")]), (229, [(228, 4, "r")]), (231, [(230, 2, "w")]), (235, [(232, 513, "t"), (233, 512, "T"), (234, 1, "x")])]
noncomputable def fmHit (n : Int) (i : Nat) (p : Addr × Nat × String) : Bool := if i = 0 then Builtin.bitAnd n 61440 == (p.2.1 : Int) else Builtin.bitAnd n p.2.1 == (p.2.1 : Int)
noncomputable def fmPick (n : Int) (i : Nat) (l : List (Addr × Nat × String)) : Str := match l.find? (fmHit n i) with | some p => Str.ofString p.2.2 | none => Str.ofString (if i = 0 then "?" else "-")
noncomputable def fmList (n : Int) (k : Nat) : List Str := (fmRows.take k).zipIdx.map fun p => fmPick n p.2 p.1.2

noncomputable def FmIn (g : Heap) : Prop := ∀ r ∈ fmRows, (∃ n, g.get? r.1 = some (tupO (r.2.map fun e => .ref e.1) n)) ∧ ∀ e ∈ r.2, ∃ t u n, g.get? e.1 = some (tupO [.int (e.2.1 : Nat) t, .str (Str.ofString e.2.2) u] n)
theorem fm_in (w : World) (g : Heap) (X : (h0.heap_1 w.params).In g) : PySem.Challenge.rw_oy0305_01.name = Str.ofString "law" → FmIn g := by
  k_fill
  intro _
  unfold FmIn fmRows
  repeat' (first | exact List.forall_mem_nil _ | refine List.forall_mem_cons.mpr ⟨?_, ?_⟩ | exact ⟨_, X _ _ (by k_is)⟩ | exact ⟨_, _, _, X _ _ (by k_is)⟩ | refine And.intro ?_ ?_)

theorem fm_row {i : Nat} {x : Value} (hx : (#[.ref 211, .ref 213, .ref 215, .ref 219, .ref 221, .ref 223, .ref 227, .ref 229, .ref 231, .ref 235] : Array Value)[i]? = some x) : ∃ r, fmRows[i]? = some r ∧ x = .ref r.1 := by
  have e : (#[.ref 211, .ref 213, .ref 215, .ref 219, .ref 221, .ref 223, .ref 227, .ref 229, .ref 231, .ref 235] : Array Value) = (fmRows.map fun r => Value.ref r.1).toArray := rfl
  rw [e, List.getElem?_toArray, List.getElem?_map] at hx
  refine ob_ea (Option.map_eq_some_iff.mp hx) ?_
  intro r hr hx
  exact ⟨r, hr, hx.symm⟩
theorem fmList_succ (n : Int) {i : Nat} {r : Addr × List (Addr × Nat × String)} (h : fmRows[i]? = some r) : fmList n (i + 1) = fmList n i ++ [fmPick n i r.2] := by
  have hi : i < fmRows.length := (List.getElem?_eq_some_iff.mp h).1
  unfold fmList
  rw [List.take_add_one, h]
  simp [List.zipIdx_append, Nat.min_eq_left (Nat.le_of_lt hi)]

theorem fmHit_0 {n : Int} {i : Nat} {e : Addr × Nat × String} (h0 : (i : Int) = 0) (h : Builtin.bitAnd n 61440 = (e.2.1 : Int)) : fmHit n i e = true := by
  obtain rfl : i = 0 := by omega
  simp [fmHit, h]
theorem fmMiss_0 {n : Int} {i : Nat} {e : Addr × Nat × String} (h0 : (i : Int) = 0) (h : ¬ Builtin.bitAnd n 61440 = (e.2.1 : Int)) : fmHit n i e = false := by
  obtain rfl : i = 0 := by omega
  simp [fmHit, h]
theorem fmHit_1 {n : Int} {i : Nat} {e : Addr × Nat × String} (h0 : ¬ (i : Int) = 0) (h : Builtin.bitAnd n e.2.1 = (e.2.1 : Int)) : fmHit n i e = true := by
  have : ¬ i = 0 := by omega
  simp [fmHit, h, this]
theorem fmMiss_1 {n : Int} {i : Nat} {e : Addr × Nat × String} (h0 : ¬ (i : Int) = 0) (h : ¬ Builtin.bitAnd n e.2.1 = (e.2.1 : Int)) : fmHit n i e = false := by
  have : ¬ i = 0 := by omega
  simp [fmHit, h, this]
theorem fm_one : ∀ r ∈ fmRows, ∀ e ∈ r.2, (Str.ofString e.2.2).length = 1 := by decide +kernel
theorem fmList_one (n : Int) (k : Nat) : ∀ y ∈ fmList n k, y.length ≤ 1 := by
  intro y hy
  unfold fmList at hy
  refine ob_ea (List.mem_map.mp hy) ?_
  intro p hp er1
  subst er1
  have hr : p.1 ∈ fmRows := List.mem_of_mem_take (List.fst_mem_of_mem_zipIdx hp)
  unfold fmPick
  cases q : p.1.2.find? (fmHit n p.2) with
  | some e => exact Nat.le_of_eq (fm_one _ hr _ (List.mem_of_find?_eq_some q))
  | none => dsimp only; split <;> decide
theorem strs_snoc {x : Str} {t : Tok} : ∀ {vs : List Value} {xs : List Str}, StrsAre vs xs → StrsAre (vs ++ [.str x t]) (xs ++ [x])
  | _, _, .nil => .cons x t .nil
  | _, _, .cons y u r => .cons y u (strs_snoc r)

noncomputable abbrev mOut (n : Nat) (t : Tok) (l' : Addr) (news : Led) (i : Nat) (m' : Str → Option Value) (nx : Led) : Prop := ∃ vs ep, StrsAre vs (fmList n i) ∧ nx = (l', lstO vs ep) :: news ∧ At m' [("mode", .int (n : Nat) t), ("perm", .ref l')]
noncomputable abbrev mIn (n : Nat) (t : Tok) (l' : Addr) (news : Led) (own : Led) (vs : List Value) (ep : Nat) (r : Addr × List (Addr × Nat × String)) (i : Nat) (tk1 : Tok) (j : Nat) (m' : Str → Option Value) (nx : Led) : Prop := nx = (l', lstO vs ep) :: (news ++ own) ∧ (∀ q ∈ r.2.take j, fmHit n i q = false) ∧ At m' [("mode", .int (n : Nat) t), ("perm", .ref l'), ("index", .int (i : Nat) tk1)]
theorem c_filemode (w : World) (n : Nat) (t : Tok) :
    Ctr 243 w [.int (n : Nat) t] (fun _ => True) (fun news v news' => news' = news ∧ ∃ t', v = .str (Txt.join (Str.ofString "") (fmList n 10)) t') := by
  unfold Ctr
  k_fill
  intro p loose mean mg mb dp un gd cn cs a ccd cl outer A₀ base h₀ L m news s Q E B F KX N T hk hpre hd9 hu9 hret
  k_with_none
  k_with "exec For Tuple Call cons nil" => refine held ?_
  k_with "exec For Tuple Name cons cons" => refine held ?_
  k_with "call builtin:list.append cons nil" => (refine' append_led ?a ?b ?c ?d ?_; (case a => k_asm); (case b => k_asm); (case c => assumption); (case d => assumption); intro h' F' N')
  k_with "FStep brk" => refine FStep.brk ?_
  refine wpAny_call ?_
  k_dflt cell_enter
  k_steps
  show wpAny _ _ _ _ _ _
  refine for_inv (by assumption) ?_
  k_steps
  with_reducible rename Fr _ _ _ _ => F1
  with_reducible rename News _ _ _ _ => N1
  with_reducible rename Frag.In _ _ => X1
  have hfm := fm_in w _ X1 rfl
  have h236 := (X1.keeps F1.keep) 236 _ (by k_is)
  have h236b : ∀ p ∈ news, p.1 ≠ 236 := fun p hp e => by
    have := (N1 p (List.mem_cons_of_mem _ hp)).2.2
    rw [e, X1 236 _ (by k_is)] at this
    cases this
  rename_i l' h' l1 h''
  have hl236 : l' ≠ 236 := fun e => by
    have := (N1 _ (.head _)).2.2
    rw [show ((l', W.listOf #[] 0) : Addr × Obj).1 = 236 from e, X1 236 _ (by k_is)] at this
    cases this
  have hlsz := Heap.lt_size (N1 _ (.head _)).1
  refine at_enumTup (mOut n t l' news) rfl F1 N1 h236 ?_ ?_ ?_
  · exact ⟨[], 0, .nil, rfl, by (with_unfolding_all rfl), by (with_unfolding_all rfl), trivial⟩
  · intro i x a1 tk1 m1 nx h2 tk2 fp wr own hx hZ  hown hfar F2 N2
    refine ob_eeaa hZ ?_
    clear hZ
    intro vs ep hvs er2 hA
    subst er2
    have hne : ∀ p ∈ news ++ own, p.1 ≠ l' := fun p hp e => by
      rcases List.mem_append.mp hp with hp | hp
      · exact absurd (e ▸ l1 p hp) (Nat.lt_irrefl _)
      · rcases hfar p hp with q | q
        · exact hl236 (e ▸ q)
        · exact absurd (Nat.lt_of_lt_of_le hlsz (e ▸ q.2)) (Nat.lt_irrefl _)
    replace F2 := hA.fr F2
    refine assign_two rfl F2 N2 ⟨_, (N2 _ (.head _)).1, rfl, _, rfl⟩ (fun h3 tk3 F3 N3 => ?_)
    replace N3 : News _ _ h3 ((l', lstO vs ep) :: (news ++ own)) := fun p hp => N3 p (List.mem_cons_of_mem _ hp)
    refine ob_ea (fm_row hx) ?_
    intro r hr er3
    subst er3
    clear N2 F2 F1 N1 hx
    k_steps
    show wpAny _ _ _ _ _ _
    refine for_inv (by assumption) ?_
    k_steps
    have hr' := List.mem_of_getElem? hr
    obtain ⟨n1, ht1⟩ := (hfm r hr').1
    have hrl : r.1 ≠ l' := fun e => by
      have := (N3 _ (.head _)).2.2
      rw [show ((l', lstO vs ep) : Addr × Obj).1 = r.1 from e.symm, ht1] at this
      cases this
    have hlsz3 := Heap.lt_size (N3 _ (.head _)).1
    refine at_tup (mIn n t l' news own vs ep r i tk1) rfl F3 N3 ⟨_, F3.keep _ _ ht1, rfl, _, rfl⟩ ?_ ?_ ?_
    · exact ⟨rfl, by simp, by (with_unfolding_all rfl), by (with_unfolding_all rfl), by (with_unfolding_all rfl), trivial⟩
    · intro j x m4 nx h4 tk4 fp4 wr4 own4 hx hZ  hown4 hfar4 F4 N4
      refine ob_aa hZ ?_
      clear hZ
      intro er4 hmiss hA
      subst er4
      have hne4 : ∀ p ∈ (news ++ own) ++ own4, p.1 ≠ l' := fun p hp e => by
        rcases List.mem_append.mp hp with hp | hp
        · exact hne p hp e
        · rcases hfar4 p hp with q | q
          · exact hrl (q ▸ e)
          · exact absurd (Nat.lt_of_lt_of_le hlsz3 (e ▸ q.2)) (Nat.lt_irrefl _)
      replace F4 := hA.fr F4
      obtain ⟨e, he, rfl⟩ : ∃ e, r.2[j]? = some e ∧ x = .ref e.1 := by
        simp only [List.getElem?_toArray, List.getElem?_map] at hx
        cases q : r.2[j]? with
        | none => rw [q] at hx; cases hx
        | some e => rw [q] at hx; exact ⟨e, rfl, (Option.some.inj hx).symm⟩
      refine ob_eee ((hfm r hr').2 e (List.mem_of_getElem? he)) ?_
      intro t5 u5 n5 ht5
      refine assign_two rfl F4 N4 ⟨_, F4.keep _ _ ht5, rfl, _, rfl⟩ (fun h5 tk5 F5 N5 => ?_)
      simp only [List.cons_append] at N5
      clear N4 F4 N3 F3 hx
      have hsz : vs.length ≤ 1000 := by
        have h1 := hvs.length
        have h2 : (fmList n i).length ≤ 10 := by unfold fmList; simp [fmRows]; omega
        omega
      have hend : ∀ p ∈ (l', lstO (vs ++ [.str (Str.ofString e.2.2) u5]) (ep + 1)) :: news, p.1 ∉ wr := fun p hp => by
        rcases List.mem_cons.mp hp with rfl | hp
        · exact hown.1 (l', lstO vs ep) (.head _)
        · exact hown.1 p (List.mem_cons_of_mem _ hp)
      have hpk : fmHit n i e = true → fmList n (i + 1) = fmList n i ++ [Str.ofString e.2.2] := fun hh => by
        rw [fmList_succ n hr]
        have : r.2.find? (fmHit n i) = some e := by
          rw [List.find?_eq_some_iff_getElem]
          obtain ⟨hlt, heq⟩ := List.getElem?_eq_some_iff.mp he
          refine ⟨hh, j, hlt, heq, fun q hq => ?_⟩
          simp [hmiss r.2[q] (List.mem_take_iff_getElem.mpr ⟨q, by omega, rfl⟩)]
        rw [fmPick, this]
      have hms : fmHit n i e = false → ∀ q ∈ r.2.take (j + 1), fmHit n i q = false := fun hh q hq => by
        rw [List.take_add_one, he] at hq
        rcases List.mem_append.mp hq with hq | hq
        · exact hmiss q hq
        · rw [List.mem_singleton.mp hq]; exact hh
      k_steps
      · refine FStep.next ((l', lstO (vs ++ [.str (Str.ofString e.2.2) u5]) (ep + 1)) :: news) (by assumption) (by assumption) ?_ hend ⟨_, _, ?_, rfl, ?_⟩
        · intro p hp
          simp only [List.cons_append, List.mem_cons, List.mem_append] at hp ⊢
          rcases hp with h | h | h <;> simp [h]
        · rw [hpk (by first | exact fmHit_0 (by assumption) (by assumption) | exact fmHit_1 (by assumption) (by assumption))]; exact strs_snoc hvs
        · exact ⟨by (with_unfolding_all rfl), by (with_unfolding_all rfl), trivial⟩
      · refine FStep.next ((l', lstO vs ep) :: (news ++ own)) (by assumption) (by assumption) (fun p hp => by simpa using hp) hown4.1 ⟨rfl, ?_, ?_⟩
        · exact hms (by first | exact fmMiss_0 (by assumption) (by assumption) | exact fmMiss_1 (by assumption) (by assumption))
        · exact ⟨by (with_unfolding_all rfl), by (with_unfolding_all rfl), by (with_unfolding_all rfl), trivial⟩
      · refine FStep.next ((l', lstO (vs ++ [.str (Str.ofString e.2.2) u5]) (ep + 1)) :: news) (by assumption) (by assumption) ?_ hend ⟨_, _, ?_, rfl, ?_⟩
        · intro p hp
          simp only [List.cons_append, List.mem_cons, List.mem_append] at hp ⊢
          rcases hp with h | h | h <;> simp [h]
        · rw [hpk (by first | exact fmHit_0 (by assumption) (by assumption) | exact fmHit_1 (by assumption) (by assumption))]; exact strs_snoc hvs
        · exact ⟨by (with_unfolding_all rfl), by (with_unfolding_all rfl), trivial⟩
      · refine FStep.next ((l', lstO vs ep) :: (news ++ own)) (by assumption) (by assumption) (fun p hp => by simpa using hp) hown4.1 ⟨rfl, ?_, ?_⟩
        · exact hms (by first | exact fmMiss_0 (by assumption) (by assumption) | exact fmMiss_1 (by assumption) (by assumption))
        · exact ⟨by (with_unfolding_all rfl), by (with_unfolding_all rfl), by (with_unfolding_all rfl), trivial⟩
    · intro h6 tk6 m6 nx F6 N6 hZ  _
      refine ob_aa hZ ?_
      clear hZ
      intro er5 hmiss hA
      subst er5
      replace F6 := hA.fr F6
      have hsz : vs.length ≤ 1000 := by
        have h1 := hvs.length
        have h2 : (fmList n i).length ≤ 10 := by unfold fmList; simp [fmRows]; omega
        omega
      have hpk : fmList n (i + 1) = fmList n i ++ [Str.ofString (if i = 0 then "?" else "-")] := by
        rw [fmList_succ n hr, fmPick, List.find?_eq_none.mpr]
        intro q hq
        rw [hmiss q]
        · simp
        · obtain ⟨k, hk, rfl⟩ := List.getElem_of_mem hq
          exact List.mem_take_iff_getElem.mpr ⟨k, by simp [hk], rfl⟩
      have hend : ∀ c u, ∀ p ∈ (l', lstO (vs ++ [.str c u]) (ep + 1)) :: news, p.1 ∉ wr := fun c u p hp => by
        rcases List.mem_cons.mp hp with rfl | hp
        · exact hown.1 (l', lstO vs ep) (.head _)
        · exact hown.1 p (List.mem_cons_of_mem _ hp)
      clear F3 N3
      k_steps
      · refine FStep.head news (by assumption) (by assumption) (fun p hp => hp) (hend _ _) ⟨_, _, ?_, rfl, ?_⟩
        · rw [hpk, if_pos (by omega)]; exact strs_snoc hvs
        · exact ⟨by (with_unfolding_all rfl), by (with_unfolding_all rfl), trivial⟩
      · refine FStep.head news (by assumption) (by assumption) (fun p hp => hp) (hend _ _) ⟨_, _, ?_, rfl, ?_⟩
        · rw [hpk, if_neg (by omega)]; exact strs_snoc hvs
        · exact ⟨by (with_unfolding_all rfl), by (with_unfolding_all rfl), trivial⟩
  · intro h7 tk7 m7 nx F7 N7 hZ
    refine ob_eeaa hZ ?_
    clear hZ
    intro vs ep hvs er7 hA
    subst er7
    replace F7 := hA.fr F7
    clear F1 N1
    k_steps
    refine join_strs 1 (News.lst N7 (.head _)) hvs (fmList_one _ _) (by unfold fmList; simp [fmRows]; decide) fun t9 tk9 => ?_
    k_steps
    exact hret _ _ _ _ (by assumption) (fun p hp => by exact (by assumption : News h₀ L _ ((l', lstO vs ep) :: news)) p (List.mem_cons_of_mem _ hp)) ⟨rfl, _, rfl⟩ (by exact kept (by assumption) (by assumption))
end Mine
end
section
set_option Elab.async false
set_option maxRecDepth 100000
set_option maxHeartbeats 4000000
set_option linter.unusedVariables false
namespace Mine
namespace Rx
open PySem PySem.Sre
noncomputable abbrev c1 : Array Nat := #[14, 4, 0, 1, 1, 6, 1, 16, 46, 1]
noncomputable abbrev c2 : Array Nat := #[14, 9, 4, 1, 2, 16, 10, 16, 13, 0, 7, 7, 16, 13, 16, 10, 15, 18, 5, 16, 10, 15, 13, 11, 16, 13, 5, 5, 0, 16, 10, 1, 15, 2, 0, 1]

theorem runFor_add (a b : Nat) (m : M) : M.runFor (a + b) m = M.runFor b (M.runFor a m) := by
  induction a generalizing m with
  | zero => rw [Nat.zero_add]; rfl
  | succ a ih =>
    rw [Nat.succ_add]
    show (if m.outcome.isSome then m else M.runFor (a + b) m.step) = M.runFor b (if m.outcome.isSome then m else M.runFor a m.step)
    by_cases h : m.outcome.isSome = true
    · rw [if_pos h, if_pos h]
      cases b with
      | zero => rfl
      | succ b => show m = if m.outcome.isSome then m else _; rw [if_pos h]
    · rw [if_neg h, if_neg h]; exact ih _
theorem runFor_done {m : M} (h : m.outcome.isSome = true) (n : Nat) : M.runFor n m = m := by
  cases n with
  | zero => rfl
  | succ n => show (if m.outcome.isSome then m else _) = m; rw [if_pos h]
theorem runFor_one {m : M} (h : m.outcome = none) : M.runFor 1 m = m.step := by
  show (if m.outcome.isSome then m else M.runFor 0 m.step) = m.step
  rw [h]; rfl

noncomputable def A1 (tx : Array Nat) (s : Nat) (mu fi : Bool) (ha : Nat) (sn : Sre.Seen) : M :=
  { code := c1, text := tx, lim := tx.size, start := s, lastStart := tx.size, mustAdvance := mu, pc := 5, pos := s, handed := ha, outermost := fi, marks := #[], frames := [{ wait := .nextStart, pc := 5, pos := s, outermost := fi }], weight := 1, seen := sn }

theorem a1_start (tx : Array Nat) (s : Nat) (mu : Bool) (hs : s < tx.size) : forSearch c1 tx 0 s tx.size mu = A1 tx s mu true s (({} : Sre.Seen).add 14) := by
  unfold forSearch
  rw [if_neg (by simp [header, ops]; omega)]
  rfl
theorem a1_over (tx : Array Nat) (s : Nat) (mu : Bool) (hs : tx.size ≤ s) : (M.runFor 1 (forSearch c1 tx 0 s tx.size mu)).outcome = some .failed := by
  unfold forSearch
  rw [if_pos (by simp [header, ops]; omega)]
  rfl
noncomputable def L1 (tx : Array Nat) (s : Nat) (mu fi : Bool) (ha : Nat) (sn : Sre.Seen) : M := { A1 tx s mu fi ha sn with pc := 7 }
theorem a1_step (tx : Array Nat) (s : Nat) (mu fi : Bool) (ha : Nat) (sn : Sre.Seen) :
    M.step (A1 tx s mu fi ha sn) = if (s == 0 || tx.getD (s - 1) 0 == 10) = true then L1 tx s mu fi ha ((sn.add 6).add 44) else M.say (A1 tx s mu fi ha ((sn.add 6).add 44)) false := rfl
theorem a1_no (tx : Array Nat) (s : Nat) (mu fi : Bool) (ha : Nat) (sn : Sre.Seen) :
    M.step (M.say (A1 tx s mu fi ha sn) false) = if s < tx.size then A1 tx (s + 1) false false (s + 1) sn else M.say { A1 tx s mu fi ha sn with frames := [], weight := 0 } false := rfl
theorem l1_no (tx : Array Nat) (s : Nat) (mu fi : Bool) (ha : Nat) (sn : Sre.Seen) :
    M.step (M.say (L1 tx s mu fi ha sn) false) = if s < tx.size then A1 tx (s + 1) false false (s + 1) sn else M.say { A1 tx s mu fi ha sn with frames := [], weight := 0 } false := rfl
theorem l1_step (tx : Array Nat) (s : Nat) (mu fi : Bool) (ha : Nat) (sn : Sre.Seen) :
    M.step (L1 tx s mu fi ha sn) = if s ≥ tx.size then M.say (L1 tx s mu fi ha (sn.add 16)) false else
      match (tx.getD s 0 == 46) with
      | true => { A1 tx s mu fi ha (sn.add 16) with pc := 9, pos := s + 1 }
      | false => M.say (L1 tx s mu fi ha (sn.add 16)) false := by
  have e : M.step (L1 tx s mu fi ha sn) = if s ≥ tx.size then M.say (L1 tx s mu fi ha (sn.add 16)) false else
      match (Except.ok (tx.getD s 0 == 46, sn.add 16) : Except String (Bool × Sre.Seen)) with
      | .error why => M.stick (L1 tx s mu fi ha (sn.add 16)) why
      | .ok (false, seen) => M.say (L1 tx s mu fi ha seen) false
      | .ok (true, seen) => { A1 tx s mu fi ha seen with pc := 9, pos := s + 1 } := rfl
  rw [e]
  split
  · rfl
  · cases (tx.getD s 0 == 46) <;> rfl
theorem s1_step (tx : Array Nat) (s : Nat) (fi : Bool) (ha : Nat) (sn : Sre.Seen) :
    M.step { A1 tx s false fi ha sn with pc := 9, pos := s + 1 } = M.say { A1 tx s false fi (s + 1) (sn.add 1) with pc := 9, pos := s + 1 } true := by
  have e : M.step { A1 tx s false fi ha sn with pc := 9, pos := s + 1 } = if (fi && ((false && (s + 1) != tx.size) || (false && (s + 1) == s))) = true then M.say { A1 tx s false fi ha (sn.add 1) with pc := 9, pos := s + 1 } false else M.say { A1 tx s false fi (s + 1) (sn.add 1) with pc := 9, pos := s + 1 } true := rfl
  rw [e, if_neg (by simp)]

noncomputable def Ends (m : M) (n : Nat) (r : Option (Nat × Nat)) : Prop :=
  match r with
  | some (b, e) => (M.runFor n m).outcome = some .matched ∧ (M.runFor n m).start = b ∧ (M.runFor n m).handed = e
  | none => (M.runFor n m).outcome = some .failed
theorem Ends.step {m m' : M} {a n : Nat} {r : Option (Nat × Nat)} (h : M.runFor a m = m') (e : Ends m' n r) : Ends m (a + n) r := by
  unfold Ends at *
  rw [runFor_add, h]; exact e
theorem ends_one {m m' : M} {n : Nat} {r : Option (Nat × Nat)} (h0 : m.outcome = none) (h : m.step = m') (e : Ends m' n r) : Ends m (1 + n) r := Ends.step (runFor_one h0 |>.trans h) e

noncomputable def isDot (tx : Array Nat) (s : Nat) : Bool := (s == 0 || tx.getD (s - 1) 0 == 10) && tx.getD s 0 == 46
theorem a1_hit (tx : Array Nat) (s : Nat) (fi : Bool) (ha : Nat) (sn : Sre.Seen) (hs : s < tx.size) (h : isDot tx s = true) : Ends (A1 tx s false fi ha sn) 5 (some (s, s + 1)) := by
  obtain ⟨h1, h2⟩ := Bool.and_eq_true_iff.mp h
  refine ends_one (n := 4) rfl ((a1_step ..).trans (if_pos h1)) ?_
  refine ends_one (n := 3) rfl ((l1_step ..).trans ((if_neg (by omega)).trans (by rw [h2]))) ?_
  refine ends_one (n := 2) rfl (s1_step ..) ?_
  exact ⟨rfl, rfl, rfl⟩
theorem a1_miss (tx : Array Nat) (s : Nat) (fi : Bool) (ha : Nat) (sn : Sre.Seen) (hs : s < tx.size) (h : isDot tx s = false) :
    ∃ j ha' sn', j ≤ 3 ∧ ∀ n r, Ends (A1 tx (s + 1) false false ha' sn') n r → Ends (A1 tx s false fi ha sn) (j + n) r := by
  cases h1 : (s == 0 || tx.getD (s - 1) 0 == 10) with
  | false =>
    refine ⟨2, s + 1, (sn.add 6).add 44, by omega, fun n r k => ?_⟩
    rw [show 2 + n = 1 + (1 + n) by omega]
    refine ends_one rfl ((a1_step ..).trans (if_neg (by rw [h1]; decide))) ?_
    exact ends_one rfl ((a1_no ..).trans (if_pos hs)) k
  | true =>
    have h2 : (tx.getD s 0 == 46) = false := by
      unfold isDot at h
      rw [h1] at h
      simpa using h
    refine ⟨3, s + 1, ((sn.add 6).add 44).add 16, by omega, fun n r k => ?_⟩
    rw [show 3 + n = 1 + (1 + (1 + n)) by omega]
    refine ends_one rfl ((a1_step ..).trans (if_pos h1)) ?_
    refine ends_one rfl ((l1_step ..).trans ((if_neg (by omega)).trans (by rw [h2]))) ?_
    exact ends_one rfl ((l1_no ..).trans (if_pos hs)) k
theorem a1_end (tx : Array Nat) (s : Nat) (fi : Bool) (ha : Nat) (sn : Sre.Seen) (hs : s = tx.size) : ∃ j, j ≤ 5 ∧ Ends (A1 tx s false fi ha sn) j none := by
  cases h1 : (s == 0 || tx.getD (s - 1) 0 == 10) with
  | false =>
    refine ⟨3, by omega, ?_⟩
    refine ends_one (n := 2) rfl ((a1_step ..).trans (if_neg (by rw [h1]; decide))) ?_
    refine ends_one (n := 1) rfl ((a1_no ..).trans (if_neg (by omega))) ?_
    rfl
  | true =>
    refine ⟨4, by omega, ?_⟩
    refine ends_one (n := 3) rfl ((a1_step ..).trans (if_pos h1)) ?_
    refine ends_one (n := 2) rfl ((l1_step ..).trans (if_pos (by omega))) ?_
    refine ends_one (n := 1) rfl ((l1_no ..).trans (if_neg (by omega))) ?_
    rfl
noncomputable def nextDot (tx : Array Nat) : Nat → Nat → Option Nat
  | 0, _ => none
  | f + 1, s => if isDot tx s then some s else nextDot tx f (s + 1)
theorem a1_runs (tx : Array Nat) : ∀ (f s : Nat) (fi : Bool) (ha : Nat) (sn : Sre.Seen), s + f = tx.size → ∃ n, n ≤ 3 * f + 5 ∧ Ends (A1 tx s false fi ha sn) n ((nextDot tx f s).map fun p => (p, p + 1))
  | 0, s, fi, ha, sn, h => by
    obtain ⟨j, hj, e⟩ := a1_end tx s fi ha sn (by omega)
    exact ⟨j, by omega, e⟩
  | f + 1, s, fi, ha, sn, h => by
    unfold nextDot
    cases hd : isDot tx s with
    | true => exact ⟨5, by omega, by simpa using a1_hit tx s fi ha sn (by omega) hd⟩
    | false =>
      obtain ⟨j, ha', sn', hj, k⟩ := a1_miss tx s fi ha sn (by omega) hd
      obtain ⟨n, hn, e⟩ := a1_runs tx f (s + 1) false ha' sn' (by omega)
      exact ⟨j + n, by omega, k _ _ (by simpa using e)⟩
theorem search1 (tx : Array Nat) (s : Nat) : ∃ n, n ≤ 3 * tx.size + 5 ∧ Ends (forSearch c1 tx 0 s tx.size false) n ((nextDot tx (tx.size - s) s).map fun p => (p, p + 1)) := by
  by_cases hs : s < tx.size
  · rw [a1_start tx s false hs]
    obtain ⟨n, hn, e⟩ := a1_runs tx (tx.size - s) s true s (({} : Sre.Seen).add 14) (by omega)
    exact ⟨n, by omega, e⟩
  · refine ⟨1, by omega, ?_⟩
    rw [show tx.size - s = 0 by omega]
    exact a1_over tx s false (by omega)

noncomputable def isNl (tx : Array Nat) (s : Nat) : Bool := tx.getD s 0 == 10 || tx.getD s 0 == 13
noncomputable def G2 (tx : Array Nat) (st : Nat) (pc pos ha : Nat) (om : Bool) (fr : List Sre.Frame) (wt : Nat) (sn : Sre.Seen) : M :=
  { code := c2, text := tx, lim := tx.size, start := st, lastStart := tx.size, pc := pc, pos := pos, handed := ha, outermost := om, marks := #[], frames := fr, weight := wt, seen := sn }
noncomputable def fS (s : Nat) (fi : Bool) : Sre.Frame := { wait := .nextStart, pc := 10, pos := s, outermost := fi }
noncomputable def fB (b s : Nat) (fi : Bool) : Sre.Frame := { wait := .nextBranch, pc := b, pos := s, outermost := fi }
theorem inSet_nl (c : Nat) (sn : Sre.Seen) : ∃ sn', inSet c2 c 36 5 true sn = .ok (c == 10 || c == 13, sn') := by
  have e : inSet c2 c 36 5 true sn = if (c == 10) = true then .ok (true, sn.add 16) else if (c == 13) = true then .ok (true, (sn.add 16).add 16) else .ok (false, ((sn.add 16).add 16).add 0) := rfl
  rw [e]
  cases (c == 10) <;> cases (c == 13) <;> exact ⟨_, rfl⟩
noncomputable def nextNl (tx : Array Nat) : Nat → Nat → Option Nat
  | 0, _ => none
  | f + 1, s => if isNl tx s then some s else nextNl tx f (s + 1)
theorem admitted_nl (m : M) (hc : m.code = c2) (hl : m.lim = m.text.size) : ∀ (f s : Nat) (sn : Sre.Seen), s + f = m.text.size → ∃ sn', M.admitted m (f + 1) s sn = .ok (nextNl m.text f s, sn')
  | 0, s, sn, h => ⟨sn, by unfold M.admitted; rw [hl, if_pos (by omega)]; rfl⟩
  | f + 1, s, sn, h => by
    unfold M.admitted
    rw [hl, if_neg (by omega), hc]
    obtain ⟨sn', e⟩ := inSet_nl (m.text.getD s 0) sn
    rw [show c2.size = 36 from rfl, e]
    unfold nextNl isNl
    cases h1 : (m.text.getD s 0 == 10 || m.text.getD s 0 == 13) with
    | true => exact ⟨sn', by simp⟩
    | false =>
      obtain ⟨sn'', e2⟩ := admitted_nl m hc hl f (s + 1) sn' (by omega)
      exact ⟨sn'', by simpa using e2⟩
section
variable (tx : Array Nat) (st pc pos ha wt : Nat) (om : Bool) (fr : List Sre.Frame) (sn : Sre.Seen)
theorem g_lit (hp : pc = 12 ∨ pc = 24) : M.step (G2 tx st pc pos ha om fr wt sn) = if pos ≥ tx.size then M.say (G2 tx st pc pos ha om fr wt (sn.add 16)) false else
    match (tx.getD pos 0 == 13) with
    | true => G2 tx st (pc + 2) (pos + 1) ha om fr wt (sn.add 16)
    | false => M.say (G2 tx st pc pos ha om fr wt (sn.add 16)) false := by
  have e : M.step (G2 tx st pc pos ha om fr wt sn) = if pos ≥ tx.size then M.say (G2 tx st pc pos ha om fr wt (sn.add 16)) false else
      match (Except.ok (tx.getD pos 0 == 13, sn.add 16) : Except String (Bool × Sre.Seen)) with
      | .error why => M.stick (G2 tx st pc pos ha om fr wt (sn.add 16)) why
      | .ok (false, seen) => M.say (G2 tx st pc pos ha om fr wt seen) false
      | .ok (true, seen) => G2 tx st (pc + 2) (pos + 1) ha om fr wt seen := by
    rcases hp with rfl | rfl <;> rfl
  rw [e]
  split
  · rfl
  · cases (tx.getD pos 0 == 13) <;> rfl
theorem g_lit10 (hp : pc = 14 ∨ pc = 19 ∨ pc = 29) : M.step (G2 tx st pc pos ha om fr wt sn) = if pos ≥ tx.size then M.say (G2 tx st pc pos ha om fr wt (sn.add 16)) false else
    match (tx.getD pos 0 == 10) with
    | true => G2 tx st (pc + 2) (pos + 1) ha om fr wt (sn.add 16)
    | false => M.say (G2 tx st pc pos ha om fr wt (sn.add 16)) false := by
  have e : M.step (G2 tx st pc pos ha om fr wt sn) = if pos ≥ tx.size then M.say (G2 tx st pc pos ha om fr wt (sn.add 16)) false else
      match (Except.ok (tx.getD pos 0 == 10, sn.add 16) : Except String (Bool × Sre.Seen)) with
      | .error why => M.stick (G2 tx st pc pos ha om fr wt (sn.add 16)) why
      | .ok (false, seen) => M.say (G2 tx st pc pos ha om fr wt seen) false
      | .ok (true, seen) => G2 tx st (pc + 2) (pos + 1) ha om fr wt seen := by
    rcases hp with rfl | rfl | rfl <;> rfl
  rw [e]
  split
  · rfl
  · cases (tx.getD pos 0 == 10) <;> rfl
theorem g_jump (hp : pc = 16 ∨ pc = 21 ∨ pc = 32) : M.step (G2 tx st pc pos ha om fr wt sn) = G2 tx st 35 pos ha om fr wt (sn.add 15) := by
  rcases hp with rfl | rfl | rfl <;> rfl
theorem g_succ (hp : pc = 35) : M.step (G2 tx st pc pos ha om fr wt sn) = M.say (G2 tx st pc pos pos om fr wt (sn.add 1)) true := by
  subst hp
  have e : M.step (G2 tx st 35 pos ha om fr wt sn) = if (om && ((false && pos != tx.size) || (false && pos == st))) = true then M.say (G2 tx st 35 pos ha om fr wt (sn.add 1)) false else M.say (G2 tx st 35 pos pos om fr wt (sn.add 1)) true := rfl
  rw [e, if_neg (by simp)]
theorem g_branch (b : Bool) : M.step (G2 tx st 10 pos ha b [fS pos b] 1 sn) = G2 tx st 12 pos pos b [fB 11 pos b, fS pos b] 2 (sn.add 7) := rfl
theorem g_alt1 (b : Bool) (q hq : Nat) : M.step (M.say (G2 tx st pc q hq om [fB 11 pos b, fS pos b] 2 sn) false) = G2 tx st 19 pos pos b [fB 18 pos b, fS pos b] 2 sn := rfl
theorem g_alt2 (b : Bool) (q hq : Nat) : M.step (M.say (G2 tx st pc q hq om [fB 18 pos b, fS pos b] 2 sn) false) = G2 tx st 24 pos pos b [fB 23 pos b, fS pos b] 2 sn := rfl
noncomputable def fL (pos : Nat) (om : Bool) : Sre.Frame := { wait := .lookNot, pc := 26, pos := pos, outermost := om }
theorem g_not (f1 f2 : Sre.Frame) : M.step (G2 tx st 26 pos ha om [f1, f2] 2 sn) = G2 tx st 29 pos pos false [fL pos om, f1, f2] 3 (sn.add 5) := rfl
theorem g_look (f1 f2 : Sre.Frame) (q hq : Nat) (b : Bool) : M.step (M.say (G2 tx st pc q hq b [fL pos om, f1, f2] 3 sn) false) = G2 tx st 32 pos hq om [f1, f2] 2 sn := rfl
theorem g_yes1 (b : Nat) (q hq s : Nat) (fi om' : Bool) : M.step (M.say (G2 tx st pc q hq om' [fB b s fi, fS s fi] 2 sn) true) = M.say (G2 tx st b s hq fi [fS s fi] 1 sn) true := rfl
theorem g_yes2 (q hq s : Nat) (fi om' : Bool) : M.step (M.say (G2 tx st pc q hq om' [fS s fi] 1 sn) true) = M.say (G2 tx st 10 s hq fi [] 0 sn) true := rfl
end
theorem g_end (tx : Array Nat) (st pc q hq b s : Nat) (fi om' : Bool) (sn : Sre.Seen) : Ends (M.say (G2 tx st pc q hq om' [fB b s fi, fS s fi] 2 sn) true) 3 (some (st, hq)) := by
  refine ends_one (n := 2) rfl (g_yes1 ..) ?_
  refine ends_one (n := 1) rfl (g_yes2 ..) ?_
  exact ⟨rfl, rfl, rfl⟩
noncomputable def nlLen (tx : Array Nat) (s : Nat) : Nat := if tx.getD s 0 = 13 ∧ s + 1 < tx.size ∧ tx.getD (s + 1) 0 = 10 then 2 else 1
theorem g_match (tx : Array Nat) (s : Nat) (fi : Bool) (ha : Nat) (sn : Sre.Seen) (hs : s < tx.size) (h : isNl tx s = true) : ∃ n, n ≤ 16 ∧ Ends (G2 tx s 10 s ha fi [fS s fi] 1 sn) n (some (s, s + nlLen tx s)) := by
  by_cases h13 : tx.getD s 0 = 13
  · have b13 : (tx.getD s 0 == 13) = true := by rw [h13]; rfl
    have n10 : (tx.getD s 0 == 10) = false := by rw [h13]; rfl
    by_cases h2 : s + 1 < tx.size ∧ tx.getD (s + 1) 0 = 10
    · have b10 : (tx.getD (s + 1) 0 == 10) = true := by rw [h2.2]; rfl
      rw [show nlLen tx s = 2 from if_pos ⟨h13, h2⟩]
      refine ⟨8, by omega, ?_⟩
      refine ends_one (n := 7) rfl (g_branch ..) ?_
      refine ends_one (n := 6) rfl ((g_lit _ _ _ _ _ _ _ _ _ (.inl rfl)).trans ((if_neg (by omega)).trans (by rw [b13]))) ?_
      refine ends_one (n := 5) rfl ((g_lit10 _ _ _ _ _ _ _ _ _ (.inl rfl)).trans ((if_neg (by omega)).trans (by rw [b10]))) ?_
      refine ends_one (n := 4) rfl (g_jump _ _ _ _ _ _ _ _ _ (.inl rfl)) ?_
      refine ends_one (n := 3) rfl (g_succ _ _ _ _ _ _ _ _ _ rfl) ?_
      exact g_end ..
    · rw [show nlLen tx s = 1 from if_neg (fun q => h2 q.2)]
      have lit10 : ∀ (pc : Nat) (hp : pc = 14 ∨ pc = 19 ∨ pc = 29) ha om fr wt sn, M.step (G2 tx s pc (s + 1) ha om fr wt sn) = M.say (G2 tx s pc (s + 1) ha om fr wt (sn.add 16)) false := fun pc hp ha om fr wt sn => by
        rw [g_lit10 _ _ _ _ _ _ _ _ _ hp]
        by_cases hl : s + 1 ≥ tx.size
        · rw [if_pos hl]
        · rw [if_neg hl, show (tx.getD (s + 1) 0 == 10) = false by
            rw [beq_eq_false_iff_ne]; exact fun q => h2 ⟨by omega, q⟩]
      refine ⟨15, by omega, ?_⟩
      refine ends_one (n := 14) rfl (g_branch ..) ?_
      refine ends_one (n := 13) rfl ((g_lit _ _ _ _ _ _ _ _ _ (.inl rfl)).trans ((if_neg (by omega)).trans (by rw [b13]))) ?_
      refine ends_one (n := 12) rfl (lit10 14 (.inl rfl) ..) ?_
      refine ends_one (n := 11) rfl (g_alt1 ..) ?_
      refine ends_one (n := 10) rfl ((g_lit10 _ _ _ _ _ _ _ _ _ (.inr (.inl rfl))).trans ((if_neg (by omega)).trans (by rw [n10]))) ?_
      refine ends_one (n := 9) rfl (g_alt2 ..) ?_
      refine ends_one (n := 8) rfl ((g_lit _ _ _ _ _ _ _ _ _ (.inr rfl)).trans ((if_neg (by omega)).trans (by rw [b13]))) ?_
      refine ends_one (n := 7) rfl (g_not ..) ?_
      refine ends_one (n := 6) rfl (lit10 29 (.inr (.inr rfl)) ..) ?_
      refine ends_one (n := 5) rfl (g_look ..) ?_
      refine ends_one (n := 4) rfl (g_jump _ _ _ _ _ _ _ _ _ (.inr (.inr rfl))) ?_
      refine ends_one (n := 3) rfl (g_succ _ _ _ _ _ _ _ _ _ rfl) ?_
      exact g_end ..
  · have n13 : (tx.getD s 0 == 13) = false := by rw [beq_eq_false_iff_ne]; exact h13
    have b10 : (tx.getD s 0 == 10) = true := by
      unfold isNl at h
      rw [n13, Bool.or_false] at h
      exact h
    rw [show nlLen tx s = 1 from if_neg (fun q => h13 q.1)]
    refine ⟨9, by omega, ?_⟩
    refine ends_one (n := 8) rfl (g_branch ..) ?_
    refine ends_one (n := 7) rfl ((g_lit _ _ _ _ _ _ _ _ _ (.inl rfl)).trans ((if_neg (by omega)).trans (by rw [n13]))) ?_
    refine ends_one (n := 6) rfl (g_alt1 ..) ?_
    refine ends_one (n := 5) rfl ((g_lit10 _ _ _ _ _ _ _ _ _ (.inr (.inl rfl))).trans ((if_neg (by omega)).trans (by rw [b10]))) ?_
    refine ends_one (n := 4) rfl (g_jump _ _ _ _ _ _ _ _ _ (.inr (.inl rfl))) ?_
    refine ends_one (n := 3) rfl (g_succ _ _ _ _ _ _ _ _ _ rfl) ?_
    exact g_end ..
theorem nextNl_some (tx : Array Nat) : ∀ (f s p : Nat), nextNl tx f s = some p → s ≤ p ∧ p < s + f ∧ isNl tx p = true
  | 0, _, _, h => by cases h
  | f + 1, s, p, h => by
    unfold nextNl at h
    split at h
    · rename_i q
      cases h
      exact ⟨Nat.le_refl _, by omega, q⟩
    · have := nextNl_some tx f (s + 1) p h
      exact ⟨by omega, by omega, this.2.2⟩
theorem search2 (tx : Array Nat) (s : Nat) : ∃ n, n ≤ 16 ∧ Ends (forSearch c2 tx 0 s tx.size false) n ((nextNl tx (tx.size - s) s).map fun p => (p, p + nlLen tx p)) := by
  by_cases hs : s < tx.size
  · unfold forSearch
    rw [if_neg (by simp [header, ops]; omega)]
    obtain ⟨sn', e⟩ := admitted_nl (G2 tx s 10 s s true [] 0 (({} : Sre.Seen).add 14)) rfl rfl (tx.size - s) s (({} : Sre.Seen).add 14) (by show s + (tx.size - s) = tx.size; omega)
    have e' : M.admitted (G2 tx s 10 s s true [] 0 (({} : Sre.Seen).add 14)) (tx.size + 1 - s) s (({} : Sre.Seen).add 14) = .ok (nextNl tx (tx.size - s) s, sn') := by
      rw [show tx.size + 1 - s = tx.size - s + 1 by omega]; exact e
    have e2 : ∀ r, M.admitted (G2 tx s 10 s s true [] 0 (({} : Sre.Seen).add 14)) (tx.size + 1 - s) s (({} : Sre.Seen).add 14) = r → M.attemptFrom (G2 tx s 10 s s true [] 0 (({} : Sre.Seen).add 14)) s true =
        (match r with
        | .ok (some p, seen) => M.attemptAt { (G2 tx s 10 s s true [] 0 (({} : Sre.Seen).add 14)) with mustAdvance := false, seen } p true
        | .ok (none, seen) => M.say { (G2 tx s 10 s s true [] 0 (({} : Sre.Seen).add 14)) with seen } false
        | .error why => M.stick (G2 tx s 10 s s true [] 0 (({} : Sre.Seen).add 14)) why) := fun r hr => by subst hr; rfl
    have e3 := e2 _ e'
    show ∃ n, n ≤ 16 ∧ Ends (M.attemptFrom (G2 tx s 10 s s true [] 0 (({} : Sre.Seen).add 14)) s true) n _
    rw [e3]
    cases hp : nextNl tx (tx.size - s) s with
    | none => exact ⟨1, by omega, rfl⟩
    | some p =>
      obtain ⟨h1, h2, h3⟩ := nextNl_some _ _ _ _ hp
      exact g_match tx p true p sn' (by omega) h3
  · refine ⟨1, by omega, ?_⟩
    rw [show tx.size - s = 0 by omega]
    unfold forSearch
    rw [if_pos (by simp [header, ops]; omega)]
    rfl
end Rx
end Mine
end
section
open PySem PySem.W PyProof.Rows PySem.Spec PySem.Calls
set_option Elab.async false
set_option maxRecDepth 100000
set_option maxHeartbeats 4000000
set_option linter.unusedVariables false
namespace Mine
namespace Rx
section
variable {M : Model} {A : Around} {s : Shared}
theorem drive {E : Value → Shared → Prop} {Q : Sre.M → Shared → Prop} : ∀ (T n : Nat) (m : Sre.M), n ≤ 4 * T → 0 < T → (Sre.M.runFor n m).outcome.isSome = true → Q (Sre.M.runFor n m) s → wpAny M A (Builtin.Re.reDrive T m) Q E s
  | 0, _, _, _, h, _, _ => absurd h (Nat.lt_irrefl _)
  | T + 1, n, m, hn, _, ho, hq => by
    show wpAny M A (if (Sre.M.runFor 4 m).outcome.isSome = true then pure (Sre.M.runFor 4 m) else (do rule "sre.turn"; Builtin.Re.reDrive T (Sre.M.runFor 4 m))) Q E s
    by_cases h4 : n ≤ 4
    · have e : Sre.M.runFor 4 m = Sre.M.runFor n m := by
        rw [show (4 : Nat) = n + (4 - n) by omega, runFor_add, runFor_done ho]
      rw [e, if_pos ho]
      exact wpAny_pure hq
    · by_cases hm : (Sre.M.runFor 4 m).outcome.isSome = true
      · rw [if_pos hm]
        have e : Sre.M.runFor n m = Sre.M.runFor 4 m := by
          rw [show n = 4 + (n - 4) by omega, runFor_add, runFor_done hm]
        exact wpAny_pure (e ▸ hq)
      · rw [if_neg hm]
        have e : Sre.M.runFor n m = Sre.M.runFor (n - 4) (Sre.M.runFor 4 m) := by
          rw [← runFor_add]; congr 1; omega
        rw [e] at ho hq
        exact wpAny_bind (wpAny_rule (drive T (n - 4) _ (by omega) (by omega) ho hq))

theorem rules {E : Value → Shared → Prop} {Q : PUnit → Shared → Prop} (f : Nat → Bool) (g : Nat → String) (hq : Q ⟨⟩ s) : ∀ l : List Nat,
    wpAny M A (forIn l PUnit.unit fun i r => if f i = true then (do rule (g i); pure (ForInStep.yield PUnit.unit)) else pure (ForInStep.yield PUnit.unit)) Q E s
  | [] => wpAny_pure hq
  | i :: l => by
    rw [List.forIn_cons]
    refine wpAny_bind ?_
    split
    · exact wpAny_bind (wpAny_rule (wpAny_pure (rules f g hq l)))
    · exact wpAny_pure (rules f g hq l)

theorem runs_end {E : Value → Shared → Prop} {Q : Option Sre.M → Shared → Prop} {n : Nat} {m : Sre.M} {r : Option (Nat × Nat)} (hn : n ≤ 2 ^ 60) (h : Ends m n r)
    (k : ∀ m' : Option Sre.M, m'.map (fun m => (m.start, m.handed)) = r → Q m' s) : wpAny M A (Builtin.Re.reRunToEnd m) Q E s := by
  unfold Builtin.Re.reRunToEnd
  have ho : (Sre.M.runFor n m).outcome.isSome = true := by
    unfold Ends at h
    cases r with
    | none => rw [h]; rfl
    | some p => rw [h.1]; rfl
  refine wpAny_bind (drive (2 ^ 64) n m (by omega) (by omega) ho ?_)
  refine wpAny_bind (rules (fun i => (Sre.M.runFor n m).seen.has i) (fun i => Sre.names.getD i "") ?_ _)
  unfold Ends at h
  cases r with
  | none =>
    rw [h]
    exact wpAny_pure (k none rfl)
  | some p =>
    obtain ⟨b, e⟩ := p
    obtain ⟨h1, h2, h3⟩ := h
    rw [h1]
    exact wpAny_pure (k (some _) (by simp [h2, h3]))
end

section
variable {prog : Program} {w : World} {A : Around} {E : Value → Shared → Prop} {s : Shared}
theorem push_list {l : Addr} {vs : List Value} {n : Nat} {x : Value} {Q : Unit → Shared → Prop} (hl : s.heap.get? l = some (lstO vs n)) (hsz : vs.length ≤ 10000)
    (k : ∀ h', h'.get? l = some (lstO (vs ++ [x]) (n + 1)) → Heap.SameBut l s.heap h' → Q () { s with heap := h' }) : wpAny (model prog w) A (updateSeq l (·.push x)) Q E s := by
  refine wpAny_updateSeq hl rfl (k _ ?_ (Heap.SameBut.update ..)) (by rw [sizeLine_eq]; simp; omega) (by rw [sizeLine_eq]; simp; omega)
  rw [Heap.get?_update_self _ hl rfl]
  simp [Obj.mapSeq]

structure PatAt (h : Heap) (pa ca : Addr) (code : Array Nat) : Prop where
  at_ : ∃ (x : Str) (t u : Tok) (fl : Int) (vals : Array Value) (n : Nat), h.get? pa = some { cls := .type "re.Pattern", data := .fields #[.str x t, .int fl u, .int 0 0, .none, .none, .ref ca, .int 0 0] } ∧
    h.get? ca = some { cls := .type "tuple", data := .seq vals n } ∧ (vals.map Builtin.Re.reRawOf).map (·.toNat) = code

theorem PatAt.keeps {h h' : Heap} {pa ca : Addr} {code : Array Nat} (p : PatAt h pa ca code) (k : ∀ b o, h.get? b = some o → h'.get? b = some o) : PatAt h' pa ca code :=
  ⟨let ⟨x, t, u, fl, vals, n, a, b, c⟩ := p.at_; ⟨x, t, u, fl, vals, n, k _ _ a, k _ _ b, c⟩⟩

theorem whole {pa ca : Addr} {code : Array Nat} {x : Str} {t : Tok} {Q : Builtin.Re.ReTarget → Shared → Prop} (hp : PatAt s.heap pa ca code)
    (k : Q { pattern := .ref pa, string := .str x t, code := code, text := x.cps, kind := 0, groups := 0, pos := 0, lim := x.cps.size } s) : wpAny (model prog w) A (Builtin.Re.reWholeTarget (.ref pa) (.str x t)) Q E s := by
  obtain ⟨y, u, v, fl, vals, n, h1, h2, h3⟩ := hp.at_
  unfold Builtin.Re.reWholeTarget
  refine wpAny_bind (wpAny_fieldsOf h1 rfl ?_)
  unfold Builtin.Re.reTextOf
  refine wpAny_bind (wpAny_bind (wpAny_pure ?_))
  refine wpAny_pure ?_
  show wpAny _ _ (Builtin.Re.reNoCollectionInside (.str x t) 0 >>= _) _ _ _
  refine wpAny_bind (wpAny_pure ?_)
  show wpAny _ _ ((Builtin.Re.reRawItems (.ref ca)) >>= _) _ _ _
  unfold Builtin.Re.reRawItems
  refine wpAny_bind (wpAny_bind (wpAny_seqItems h2 rfl (wpAny_pure ?_)))
  refine wpAny_pure ?_
  subst h3
  exact k

theorem entry_loop : entryFor table "re.Pattern.sub.loop" = some Builtin.«re.Pattern.sub.loop» := entryFor_of_tree (by kernel_rfl)

theorem slice {tx : Array Nat} {b e : Nat} {Q : Value → Shared → Prop} (hz : tx.size ≤ 1000) (k : Q (.str ⟨tx.extract b e⟩ s.toks) { s with toks := s.toks + 1 }) : wpAny (model prog w) A (Builtin.Re.reSlice tx 0 b e) Q E s := by
  show wpAny _ _ (mkStr ⟨tx.extract b e⟩) _ _ _
  refine wpAny_mkStr k ?_
  rw [sizeLine_eq]
  show (tx.extract b e).size ≤ _
  rw [Array.size_extract]
  omega

theorem strs_snoc' {x : Str} {t : Tok} : ∀ {vs : List Value} {xs : List Str}, StrsAre vs xs → StrsAre (vs ++ [.str x t]) (xs ++ [x])
  | _, _, .nil => .cons x t .nil
  | _, _, .cons y u r => .cons y u (strs_snoc' r)

noncomputable abbrev lpC (pa l : Addr) (x rep : Str) (t tr : Tok) (mc : Int) (d : Nat) : Code :=
  .builtin "re.Pattern.sub.loop" ⟨[.ref pa, .str x t, .str rep tr, rawInt 0, rawInt 0, rawInt mc, rawInt (d : Nat), rawInt (d : Nat), .bool false, .ref l, .bool false], []⟩
noncomputable def mid (x : Str) (d b : Nat) : List Str := if d < b then [⟨x.cps.extract d b⟩] else []

theorem loop_step {pa ca l : Addr} {code : Array Nat} {x rep : Str} {t tr : Tok} {d : Nat} {vs : List Value} {n : Nat} {acc : List Str} {mc : Int} {R : Result → Shared → Prop} (nx : Nat → Option (Nat × Nat)) (hz : x.cps.size ≤ 1000) (hr : rep.length ≤ 1000)
    (hs : ∃ n, n ≤ 2 ^ 60 ∧ Ends (Sre.forSearch code x.cps 0 d x.cps.size false) n (nx d)) (hb : ∀ b e, nx d = some (b, e) → d ≤ b ∧ b < e ∧ e ≤ x.cps.size)
    (hd : d ≤ x.cps.size) (hp : PatAt s.heap pa ca code) (hl : s.heap.get? l = some (lstO vs n)) (hv : StrsAre vs acc) (ha : acc.length ≤ 2 * d) (hB : ∀ y ∈ acc, y.length ≤ 1000)
    (hnone : nx d = none → ∀ t' tk h', (∀ b o, b ≠ l → s.heap.get? b = some o → h'.get? b = some o) → R (.ok (.ret (.str (Txt.join (Str.mk #[]) (acc ++ mid x d x.cps.size)) t'))) { s with heap := h', toks := tk })
    (hsome : ∀ b e, nx d = some (b, e) → ∀ vs' n' h' tk, (∀ b o, b ≠ l → s.heap.get? b = some o → h'.get? b = some o) → h'.get? l = some (lstO vs' n') → StrsAre vs' (acc ++ mid x d b ++ [rep]) →
      codeAny (model prog w) A (lpC pa l x rep t tr (mc + 1) e) R { s with heap := h', toks := tk }) :
    codeAny (model prog w) A (lpC pa l x rep t tr mc d) R s := by
  have hvl := hv.length
  refine codeAny_builtin entry_loop ?_
  unfold Builtin.«re.Pattern.sub.loop»
  show wpAny _ _ (Builtin.Re.reWholeTarget (.ref pa) (.str x t) >>= _) _ _ _
  refine wpAny_bind (whole hp ?_)
  show wpAny _ _ ((Builtin.Re.reLiteralCannotBeTurned (.str rep tr)) >>= _) _ _ _
  refine wpAny_bind (wpAny_pure ?_)
  obtain ⟨n1, hn1, he1⟩ := hs
  show wpAny _ _ (Builtin.Re.reRunToEnd (Sre.forSearch code x.cps 0 d x.cps.size false) >>= _) _ _ _
  refine wpAny_bind (runs_end hn1 he1 fun m' hm' => ?_)
  cases hx : nx d with
  | none =>
    rw [hx] at hm'
    cases m' with
    | some m => cases hm'
    | none =>
      dsimp only
      have fin : ∀ (s' : Shared) (vs' : List Value) (n' : Nat) (h' : Heap) (tk : Nat), s' = { s with heap := h', toks := tk } → h'.get? l = some (lstO vs' n') → (∀ b o, b ≠ l → s.heap.get? b = some o → h'.get? b = some o) → StrsAre vs' (acc ++ mid x d x.cps.size) →
          wpAny (model prog w) (A.under (lpC pa l x rep t tr mc d)) (do
            let joiner ← Builtin.Re.reSlice x.cps 0 0 0
            let o ← seqItems? (.ref l)
            if (o.getD #[]).isEmpty = true then (do let text ← pure joiner; ret text) else (do let text ← call (.builtin "str.join") [joiner, .ref l]; ret text)) (fun fin s' => match fin with | .done f => R (.ok f) s' | .again c' => c'.quiet = true ∧ codeAny (model prog w) A c' R s') (fun e s' => R (.error e) s') s' := by
        rintro s' vs' n' h' tk rfl hl' hk hv'
        refine wpAny_bind (slice hz ?_)
        refine wpAny_bind (wpAny_seqItems hl' rfl ?_)
        have e0 : (⟨x.cps.extract 0 0⟩ : Str) = Str.mk #[] := by simp
        rw [e0]
        cases hvs : vs' with
        | nil =>
          subst hvs
          have hnil : acc ++ mid x d x.cps.size = [] := by
            have := hv'.length
            exact List.length_eq_zero_iff.mp this.symm
          show wpAny _ _ (pure (Value.str (Str.mk #[]) _) >>= _) _ _ _
          refine wpAny_bind (wpAny_pure (wpAny_pure ?_))
          have := hnone hx tk (tk + 1) h' hk
          rw [hnil] at this
          exact this
        | cons v0 r0 =>
          show wpAny _ _ (call (.builtin "str.join") [Value.str (Str.mk #[]) _, .ref l] >>= _) _ _ _
          refine wpAny_bind (join_strs 1000 (l := l) (vs := vs') ⟨_, hl', rfl, _, rfl⟩ hv' ?_ ?_ fun t' tk' => wpAny_pure ?_)
          · intro y hy
            rcases List.mem_append.mp hy with hy | hy
            · exact hB y hy
            · unfold mid at hy
              split at hy
              · rw [List.mem_singleton.mp hy]
                show (x.cps.extract d x.cps.size).size ≤ 1000
                rw [Array.size_extract]; omega
              · cases hy
          · have h1 : (acc ++ mid x d x.cps.size).length ≤ 2 * d + 1 := by
              rw [List.length_append]
              have : (mid x d x.cps.size).length ≤ 1 := by unfold mid; split <;> simp
              omega
            show _ + _ * (Str.mk #[]).length ≤ _
            have h0 : (Str.mk #[]).length = 0 := rfl
            rw [h0]
            have := Nat.mul_le_mul_right 1000 h1
            omega
          · exact hnone hx t' tk' h' hk
      by_cases hlt : d < x.cps.size
      · show wpAny _ _ (if d < x.cps.size then _ else _) _ _ _
        rw [if_pos hlt]
        refine wpAny_bind (slice hz (wpAny_bind (push_list hl (by omega) fun h' hl' hsb => ?_)))
        refine fin _ _ _ h' _ rfl hl' (fun b o hb q => hsb.extBut b o hb q) ?_
        rw [show mid x d x.cps.size = [⟨x.cps.extract d x.cps.size⟩] from if_pos hlt]
        exact strs_snoc' hv
      · show wpAny _ _ (if d < x.cps.size then _ else _) _ _ _
        rw [if_neg hlt]
        refine fin _ _ _ s.heap s.toks rfl hl (fun b o hb q => q) ?_
        rw [show mid x d x.cps.size = [] from if_neg hlt, List.append_nil]
        exact hv
  | some p =>
    obtain ⟨b, e⟩ := p
    rw [hx] at hm'
    cases m' with
    | none => cases hm'
    | some m =>
      obtain ⟨rfl, rfl⟩ : m.start = b ∧ m.handed = e := by simpa using hm'
      obtain ⟨h1, h2, h3⟩ := hb _ _ hx
      dsimp only
      have hne : (m.handed == m.start) = false := by rw [beq_eq_false_iff_ne]; omega
      have fin : ∀ (s' : Shared) (vs' : List Value) (n' : Nat) (h' : Heap) (tk : Nat), s' = { s with heap := h', toks := tk } → vs'.length ≤ 5000 → h'.get? l = some (lstO vs' n') → (∀ b o, b ≠ l → s.heap.get? b = some o → h'.get? b = some o) → StrsAre vs' (acc ++ mid x d m.start) →
          wpAny (model prog w) (A.under (lpC pa l x rep t tr mc d)) (do
            let item ← (pure (Value.str rep tr) : Sem Value)
            if item != .none then updateSeq l (·.push item)
            again (.builtin "re.Pattern.sub.loop" ⟨[.ref pa, .str x t, .str rep tr, rawInt 0, rawInt 0, rawInt (mc + 1), rawInt m.handed, rawInt m.handed, .bool (m.handed == m.start), .ref l, .bool false], []⟩))
            (fun fin s' => match fin with | .done f => R (.ok f) s' | .again c' => c'.quiet = true ∧ codeAny (model prog w) A c' R s') (fun e s' => R (.error e) s') s' := by
        rintro s' vs' n' h' tk rfl hsz hl' hk hv'
        refine wpAny_bind (wpAny_pure ?_)
        show wpAny _ _ (updateSeq l (·.push (Value.str rep tr)) >>= _) _ _ _
        refine wpAny_bind (push_list hl' (by omega) fun h2' hl2 hsb => wpAny_pure ⟨Code.quiet_builtin _ (by decide +kernel), ?_⟩)
        rw [hne]
        exact hsome _ _ hx _ _ h2' tk (fun b o hb q => hsb.extBut b o hb (hk b o hb q)) hl2 (strs_snoc' hv')
      by_cases hlt : d < m.start
      · show wpAny _ _ (if d < m.start then _ else _) _ _ _
        rw [if_pos hlt]
        refine wpAny_bind (slice hz (wpAny_bind (push_list hl (by omega) fun h' hl' hsb => ?_)))
        refine fin _ _ _ h' _ rfl (by simp; omega) hl' (fun b o hb q => hsb.extBut b o hb q) ?_
        rw [show mid x d m.start = [⟨x.cps.extract d m.start⟩] from if_pos hlt]
        exact strs_snoc' hv
      · show wpAny _ _ (if d < m.start then _ else _) _ _ _
        rw [if_neg hlt]
        refine fin _ _ _ s.heap s.toks rfl (by omega) hl (fun b o hb q => q) ?_
        rw [show mid x d m.start = [] from if_neg hlt, List.append_nil]
        exact hv

noncomputable def pieces (nx : Nat → Option (Nat × Nat)) (x rep : Str) : Nat → Nat → List Str
  | 0, d => mid x d x.cps.size
  | f + 1, d => match nx d with
    | none => mid x d x.cps.size
    | some (b, e) => mid x d b ++ [rep] ++ pieces nx x rep f e

theorem mid_le (x : Str) (d b : Nat) (hz : x.cps.size ≤ 1000) : ∀ y ∈ mid x d b, y.length ≤ 1000 := fun y hy => by
  unfold mid at hy
  split at hy
  · rw [List.mem_singleton.mp hy]
    show (x.cps.extract d b).size ≤ 1000
    rw [Array.size_extract]; omega
  · cases hy

theorem sub_loop {pa ca l : Addr} {code : Array Nat} {x rep : Str} {t tr : Tok} (nx : Nat → Option (Nat × Nat)) (hz : x.cps.size ≤ 1000) (hr : rep.length ≤ 1000)
    (hs : ∀ d, ∃ n, n ≤ 2 ^ 60 ∧ Ends (Sre.forSearch code x.cps 0 d x.cps.size false) n (nx d)) (hb : ∀ d b e, nx d = some (b, e) → d ≤ b ∧ b < e ∧ e ≤ x.cps.size)
    (hkp : ∀ h h' : Heap, PatAt h pa ca code → (∀ b o, b ≠ l → h.get? b = some o → h'.get? b = some o) → PatAt h' pa ca code) (R : Result → Shared → Prop) :
    ∀ (f d : Nat) (vs : List Value) (n : Nat) (acc : List Str) (mc : Int) (s : Shared), x.cps.size - d ≤ f → d ≤ x.cps.size → PatAt s.heap pa ca code → s.heap.get? l = some (lstO vs n) →
      StrsAre vs acc → acc.length ≤ 2 * d → (∀ y ∈ acc, y.length ≤ 1000) →
      (∀ t' tk h', (∀ b o, b ≠ l → s.heap.get? b = some o → h'.get? b = some o) → R (.ok (.ret (.str (Txt.join (Str.mk #[]) (acc ++ pieces nx x rep f d)) t'))) { s with heap := h', toks := tk }) →
      codeAny (model prog w) A (lpC pa l x rep t tr mc d) R s
  | 0, d, vs, n, acc, mc, s, hf, hd, hp, hl, hv, ha, hB, k => by
    refine loop_step nx hz hr (hs d) (hb d) hd hp hl hv ha hB (fun _ t' tk h' hk => k t' tk h' hk) fun b e hx => ?_
    have := hb _ _ _ hx
    omega
  | f + 1, d, vs, n, acc, mc, s, hf, hd, hp, hl, hv, ha, hB, k => by
    refine loop_step nx hz hr (hs d) (hb d) hd hp hl hv ha hB (fun hx t' tk h' hk => ?_) fun b e hx vs' n' h' tk hk hl' hv' => ?_
    · have := k t' tk h' hk
      unfold pieces at this
      rw [hx] at this
      exact this
    · obtain ⟨h1, h2, h3⟩ := hb _ _ _ hx
      refine sub_loop nx hz hr hs hb hkp R f e vs' n' _ (mc + 1) { s with heap := h', toks := tk } (by omega) h3 (hkp _ _ hp hk) hl' hv' ?_ ?_ fun t' tk' h'' hk' => ?_
      · have : (mid x d b).length ≤ 1 := by unfold mid; split <;> simp
        simp only [List.length_append, List.length_singleton]
        omega
      · intro y hy
        rcases List.mem_append.mp hy with hy | hy
        · rcases List.mem_append.mp hy with hy | hy
          · exact hB y hy
          · exact mid_le x d b hz y hy
        · rw [List.mem_singleton.mp hy]; exact hr
      · have := k t' tk' h'' fun b' o hb' q => hk' b' o hb' (hk b' o hb' q)
        unfold pieces at this
        rw [hx] at this
        simp only [List.append_assoc] at this ⊢
        exact this

theorem plainAttrs_pat : PlainAttrs "re.Pattern" :=
  ⟨⟨"object.__getattribute__", by rw [typeLookup_type, builtinLookup_eq_fast]; kernel_rfl, by decide +kernel⟩, by rw [typeLookup_type, builtinLookup_eq_fast]; kernel_rfl⟩
theorem slot_sub : Slot "re.Pattern" "sub" "re.Pattern.sub" :=
  .of (owner := "re.Pattern") (n := "sub") (by rw [typeLookup_type, builtinLookup_eq_fast]; kernel_rfl) (by decide +kernel) (by decide +kernel) (by decide +kernel)
    (by first | exact .inl (by decide +kernel) | exact .inr (by decide +kernel)) (by rw [isSubtype_type]; kernel_rfl)
theorem type_sub : typeOf (.builtin "re.Pattern.sub") = pure (.type "method_descriptor") := by show builtinType _ = _; rw [builtinType_eq_fast]; kernel_rfl
theorem entry_sub : entryFor table "re.Pattern.sub" = some Builtin.«re.Pattern.sub» := entryFor_of_tree (by kernel_rfl)
theorem args_sub (a b c : Value) : argsOk "re.Pattern.sub" ⟨[a, b, c], []⟩ := by unfold argsOk; kernel_rfl
theorem pat_method {pa ca : Addr} {code : Array Nat} {pl : Sem Bool} {Q : Value × List Value → Shared → Prop} (hp : PatAt s.heap pa ca code) (h : Q (.builtin "re.Pattern.sub", [.ref pa]) s) :
    wpAny (model prog w) A (getMethod (.ref pa) "sub" pl) Q E s := by
  obtain ⟨y, u, v, fl, vals, n, h1, h2, h3⟩ := hp.at_
  exact getMethod_builtin ⟨_, h1, rfl⟩ plainAttrs_pat slot_sub type_sub (fun a e => by cases e; exact ⟨_, h1, rfl⟩) h
theorem named (a b : Value) : Builtin.Re.reNamed "re.Pattern.sub" "sub" ["repl", "string", "count"] 2 [a, b] [] = pure [some a, some b, none] := by kernel_rfl
theorem str_nocall : typeLookup (.type "str") "__call__" = pure none := by rw [typeLookup_type, builtinLookup_eq_fast]; kernel_rfl
theorem call_sub {pa ca : Addr} {code : Array Nat} {x rep : Str} {t tr : Tok} {Q : Value → Shared → Prop} (nx : Nat → Option (Nat × Nat)) (hz : x.cps.size ≤ 1000) (hr : rep.length ≤ 1000) (hrc : rep.cps.contains 92 = false)
    (hs : ∀ d, ∃ n, n ≤ 2 ^ 60 ∧ Ends (Sre.forSearch code x.cps 0 d x.cps.size false) n (nx d)) (hb : ∀ d b e, nx d = some (b, e) → d ≤ b ∧ b < e ∧ e ≤ x.cps.size)
    (hp : PatAt s.heap pa ca code)
    (k : ∀ t' tk h', (∀ b o, s.heap.get? b = some o → h'.get? b = some o) → Q (.str (Txt.join (Str.mk #[]) (pieces nx x rep x.cps.size 0)) t') { s with heap := h', toks := tk }) :
    wpAny (model prog w) A (call (.builtin "re.Pattern.sub") [.ref pa, .str rep tr, .str x t]) Q E s := by
  have hp0 := hp
  obtain ⟨y, u, v, fl, vals, n, h1, h2, h3⟩ := hp.at_
  refine wpAny_call (codeAny_call_builtin slot_sub.plain entry_sub (slot_sub.check _ _ _ _ _ _ _ _ ⟨_, h1, rfl⟩ (args_sub _ _ _) ?_))
  unfold Builtin.«re.Pattern.sub» Builtin.Re.reSubstitute
  show wpAny _ _ (Builtin.Re.reNamed "re.Pattern.sub" "sub" ["repl", "string", "count"] 2 [.str rep tr, .str x t] [] >>= _) _ _ _
  rw [named]
  refine wpAny_bind (wpAny_pure ?_)
  dsimp only
  refine wpAny_bind (wpAny_pure ?_)
  refine wpAny_bind (wpAny_specialOf_val rfl str_nocall ?_)
  simp only [Option.isSome_none, Bool.false_eq_true, if_false]
  refine wpAny_bind (m := asStr? _) (wpAny_pure ?_)
  dsimp only
  refine wpAny_bind (wpAny_pure ?_)
  rw [hrc]
  simp only [Bool.not_false, if_true]
  refine wpAny_bind (wpAny_pure ?_)
  refine wpAny_bind (wpAny_holding (whole hp ?_))
  refine wpAny_bind (wpAny_newObj_type (wpAny_pure ⟨Code.quiet_builtin _ (by decide +kernel), ?_⟩) (by size_fits))
  have up : ∀ b o, s.heap.get? b = some o → (s.heap.push { cls := .type "list", dict := none, data := .seq ([] : List Value).toArray }).get? b = some o := fun b o q => Heap.get?_push_of_some _ q
  have e0 : Txt.join (Str.mk #[]) ([] ++ pieces nx x rep x.cps.size 0) = Txt.join (Str.mk #[]) (pieces nx x rep x.cps.size 0) := rfl
  refine sub_loop (l := s.heap.objs.size) nx hz hr hs hb (fun h h' p q => ?_) _ x.cps.size 0 [] 0 [] 0 _ (by omega) (Nat.zero_le _) (hp0.keeps up) (Heap.get?_push_size _ rfl) .nil (by simp) (fun _ h => nomatch h) fun t' tk h' hk => ?_
  · obtain ⟨y, u, v, fl, vals, n, g1, g2, g3⟩ := p.at_
    exact ⟨y, u, v, fl, vals, n, q _ _ (Nat.ne_of_lt (Heap.lt_size h1)) g1, q _ _ (Nat.ne_of_lt (Heap.lt_size h2)) g2, g3⟩
  · exact k t' tk h' fun b o q => hk b o (Nat.ne_of_lt (Heap.lt_size q)) (up b o q)
end
end Rx
end Mine
end
section
open PySem PySem.W PyProof.Rows PySem.Spec PySem.Calls
set_option Elab.async false
set_option maxRecDepth 100000
set_option maxHeartbeats 4000000
set_option linter.unusedVariables false
namespace Mine
theorem calm_C3 : True := by
  w_top off
  k_with_none
  trivial
local macro_rules | `(tactic| walk_at "getMethod ref") => `(tactic| ((with_reducible show wpAny _ _ (getMethod (Value.ref 43) _ _) _ _ _); refine held ?_))
local macro_rules | `(tactic| walk_at "getMethod ref") => `(tactic| ((with_reducible show wpAny _ _ (getMethod (Value.ref 48) _ _) _ _ _); refine held ?_))
local macro_rules | `(tactic| walk_at "call builtin:re.Pattern.sub cons nil") => `(tactic| refine held ?_)

open Rx
noncomputable def nx1 (x : Str) (d : Nat) : Option (Nat × Nat) := (nextDot x.cps (x.cps.size - d) d).map fun p => (p, p + 1)
noncomputable def nx2 (x : Str) (d : Nat) : Option (Nat × Nat) := (nextNl x.cps (x.cps.size - d) d).map fun p => (p, p + nlLen x.cps p)
noncomputable def qSub1 (x : Str) : Str := Txt.join (Str.mk #[]) (pieces (nx1 x) x (Str.ofString "..") x.cps.size 0)
noncomputable def qSub2 (x : Str) : Str := Txt.join (Str.mk #[]) (pieces (nx2 x) x (Str.ofString "\r\n") x.cps.size 0)
theorem nextDot_some (tx : Array Nat) : ∀ (f s p : Nat), nextDot tx f s = some p → s ≤ p ∧ p < s + f
  | 0, _, _, h => by cases h
  | f + 1, s, p, h => by
    unfold nextDot at h
    split at h
    · cases h; exact ⟨Nat.le_refl _, by omega⟩
    · have := nextDot_some tx f (s + 1) p h
      exact ⟨by omega, by omega⟩
theorem nx1_ok (x : Str) (d b e : Nat) (h : nx1 x d = some (b, e)) : d ≤ b ∧ b < e ∧ e ≤ x.cps.size := by
  unfold nx1 at h
  obtain ⟨p, hp, e⟩ := Option.map_eq_some_iff.mp h
  cases e
  have := nextDot_some _ _ _ _ hp
  omega
theorem nx2_ok (x : Str) (d b e : Nat) (h : nx2 x d = some (b, e)) : d ≤ b ∧ b < e ∧ e ≤ x.cps.size := by
  unfold nx2 at h
  obtain ⟨p, hp, e⟩ := Option.map_eq_some_iff.mp h
  cases e
  have := nextNl_some _ _ _ _ hp
  unfold nlLen
  split <;> omega

theorem c_quote (w : World) (x : Str) (t : Tok) (hx : x.cps.size ≤ 500) (hx2 : (qSub2 x).cps.size ≤ 1000) :
    Ctr 55 w [.str x t] (fun _ => True) (fun news v news' => news' = news ∧ ∃ t', v = .str (qSub1 (qSub2 x)) t') := by
  unfold Ctr
  k_fill
  intro p loose mean mg mb dp un gd cn cs a ccd cl outer A₀ base h₀ L m news s Q E B F KX N T hk hpre hd9 hu9 hret
  k_with_none
  refine wpAny_call ?_
  k_dflt cell_enter
  k_steps
  with_reducible rename Fr _ _ _ _ => F1
  with_reducible rename News _ _ _ _ => N1
  with_reducible rename Frag.In _ _ => X1
  have p1 : ∀ h : Heap, (∀ b o, (_ : Heap).get? b = some o → h.get? b = some o) → PatAt h 43 42 c1 := fun h k => ⟨_, _, _, _, _, _, k _ _ (X1 43 _ (by k_is)), k _ _ (X1 42 _ (by k_is)), by decide +kernel⟩
  have p2 : ∀ h : Heap, (∀ b o, (_ : Heap).get? b = some o → h.get? b = some o) → PatAt h 48 47 c2 := fun h k => ⟨_, _, _, _, _, _, k _ _ (X1 48 _ (by k_is)), k _ _ (X1 47 _ (by k_is)), by decide +kernel⟩
  show wpAny _ _ _ _ _ _
  refine pat_method (p1 _ F1.keep) ?_
  k_steps
  show wpAny _ _ _ _ _ _
  refine pat_method (p2 _ F1.keep) ?_
  k_steps
  show wpAny _ _ _ _ _ _
  refine call_sub (nx2 x) (by omega) (by decide) (by decide +kernel) (fun d => ?_) (nx2_ok x) (p2 _ F1.keep) fun t1 tk1 h1 hk1 => ?_
  · obtain ⟨n, hn, e⟩ := search2 x.cps d
    exact ⟨n, by omega, e⟩
  have F2 := F1.keeps hk1
  have N2 := News.grown N1 hk1
  clear F1 N1
  k_steps
  show wpAny _ _ _ _ _ _
  refine call_sub (nx1 _) hx2 (by decide) (by decide +kernel) (fun d => ?_) (nx1_ok _) (p1 _ F2.keep) fun t2 tk2 h2 hk2 => ?_
  · obtain ⟨n, hn, e⟩ := search1 (qSub2 x).cps d
    exact ⟨n, by omega, e⟩
  have F3 := F2.keeps hk2
  have N3 := News.grown N2 hk2
  clear F2 N2
  k_steps
  exact hret _ _ _ _ (by assumption) (by assumption) ⟨rfl, _, rfl⟩ (by exact kept (by assumption) (by assumption))
end Mine
end
section
open PySem PySem.W PyProof.Rows PySem.Spec PySem.Calls
set_option Elab.async false
set_option maxRecDepth 100000
set_option maxHeartbeats 4000000
set_option linter.unusedVariables false
namespace Mine
noncomputable abbrev PG : Program := PySem.Challenge.rw_oy0305_01.row.prog

noncomputable def off (a : Addr) (news : Led) : Led := news.filter fun p => !(p.1 == a)
theorem off_ne {a : Addr} {news : Led} : ∀ p ∈ off a news, p.1 ≠ a := fun p hp e => by
  have := (List.mem_filter.mp hp).2
  rw [e] at this
  simp at this
theorem mem_off {a : Addr} {news : Led} {p : Addr × Obj} (h : p ∈ news) (hne : p.1 ≠ a) : p ∈ off a news := List.mem_filter.mpr ⟨h, by simp [hne]⟩
theorem off_sub {a : Addr} {news : Led} {p : Addr × Obj} (h : p ∈ off a news) : p ∈ news := (List.mem_filter.mp h).1
theorem News.focus {h₀ h : Heap} {L a : Addr} {o : Obj} {news : Led} (N : News h₀ L h news) (hm : (a, o) ∈ news) : News h₀ L h ((a, o) :: off a news) := fun p hp => by
  rcases List.mem_cons.mp hp with rfl | hp
  · exact N _ hm
  · exact N _ (off_sub hp)
theorem News.same {h₀ h : Heap} {L a : Addr} {o o' : Obj} {news : Led} (N : News h₀ L h news) (h1 : (a, o) ∈ news) (h2 : (a, o') ∈ news) : o = o' :=
  Option.some.inj ((N _ h1).1.symm.trans (N _ h2).1)

inductive IV : List Value → List Nat → Prop
  | nil : IV [] []
  | cons {vs l} (j : Nat) (t : Tok) : IV vs l → IV (.int (j : Nat) t :: vs) (j :: l)
theorem IV.length : ∀ {vs : List Value} {l : List Nat}, IV vs l → vs.length = l.length
  | _, _, .nil => rfl
  | _, _, .cons j t r => by simp [r.length]
theorem IV.get : ∀ {vs : List Value} {l : List Nat}, IV vs l → ∀ {i : Nat} {j : Nat}, l[i]? = some j → ∃ t, vs[i]? = some (.int (j : Nat) t)
  | _, _, .nil, _, _, h => by simp at h
  | _, _, .cons j t r, 0, _, h => ⟨t, by simp at h; subst h; rfl⟩
  | _, _, .cons j t r, i + 1, _, h => by simp at h; simpa using r.get h
theorem IV.item : ∀ {vs : List Value} {l : List Nat}, IV vs l → ∀ {i : Nat} {v : Value}, vs[i]? = some v → ∃ j t, l[i]? = some j ∧ v = .int (j : Nat) t
  | _, _, .nil, _, _, h => by simp at h
  | _, _, .cons j t r, 0, _, h => ⟨j, t, rfl, by simpa using h.symm⟩
  | _, _, .cons j t r, i + 1, _, h => by simp at h; simpa using r.item h
theorem IV.append : ∀ {vs us : List Value} {l k : List Nat}, IV vs l → IV us k → IV (vs ++ us) (l ++ k)
  | _, _, _, _, .nil, h => h
  | _, _, _, _, .cons j t r, h => .cons j t (r.append h)
theorem IV.snoc {vs : List Value} {l : List Nat} (h : IV vs l) (j : Nat) (t : Tok) : IV (vs ++ [.int (j : Nat) t]) (l ++ [j]) := h.append (.cons j t .nil)

structure Pu where
  ord : List Nat
  np : Nat → Int
  su : Nat → List Nat
  rd : Option (List Nat)
  po : Nat
  nf : Nat
structure Srt where
  x : Addr
  dx : Addr
  d : Addr
  r : Addr
  ia : Nat → Addr
  da : Nat → Addr
  sa : Nat → Addr
  role : Addr → Option (Nat × Nat)
  pu : Pu

noncomputable abbrev nodeO (da sa : Addr) (v k : Value) : Obj := ⟨.ref 74, some da, .plain, #[some k, some v, some (.ref sa)]⟩
noncomputable abbrev soDict (w : World) (t1 t2 t3 t4 : Tok) (d : Addr) (v1 v2 v3 : Value) : Obj :=
  dictOf [⟨PyData.keyHash w.params (Str.ofString "_node2info"), .str (Str.ofString "_node2info") t1, .ref d⟩, ⟨PyData.keyHash w.params (Str.ofString "_ready_nodes"), .str (Str.ofString "_ready_nodes") t2, v1⟩, ⟨PyData.keyHash w.params (Str.ofString "_npassedout"), .str (Str.ofString "_npassedout") t3, v2⟩, ⟨PyData.keyHash w.params (Str.ofString "_nfinished"), .str (Str.ofString "_nfinished") t4, v3⟩] 4
noncomputable def rdV (σ : Srt) : Value := match σ.pu.rd with
  | none => .none
  | some _ => .ref σ.r

noncomputable def Free (σ : Srt) (a : Addr) : Prop := σ.role a = none ∨ (σ.pu.rd ≠ none ∧ ∃ j, σ.role a = some (6, j))
theorem Free.ne {σ : Srt} {a b : Addr} {t : Nat × Nat} (h : Free σ a) (hb : σ.role b = some t) (ht : t.1 ≠ 6) : a ≠ b := fun e => by
  subst e
  rcases h with h | ⟨_, j, h⟩
  · rw [hb] at h; cases h
  · rw [hb] at h; cases h; exact ht rfl
theorem Free.none_ {σ : Srt} {a : Addr} (h : Free σ a) (h0 : σ.pu.rd = none) : σ.role a = none := h.resolve_right fun x => x.1 h0
theorem Free.ro {σ σ' : Srt} {a : Addr} (h : Free σ a) (hr : σ'.role a = σ.role a) (hp : σ.pu.rd ≠ none → σ'.pu.rd ≠ none) : Free σ' a :=
  h.imp (fun e => hr.trans e) fun ⟨x, j, e⟩ => ⟨hp x, j, hr.trans e⟩
structure So (w : World) (σ : Srt) (rest news : Led) : Prop where
  inst : (σ.x, instObj 171 σ.dx) ∈ news
  dict : ∃ t1 t2 t3 t4 t5 t6, (σ.dx, soDict w t1 t2 t3 t4 σ.d (rdV σ) (.int (σ.pu.po : Nat) t5) (.int (σ.pu.nf : Nat) t6)) ∈ news
  n2i : ∃ o, (σ.d, o) ∈ news ∧ o.IsDictOf (intKind PG w) (σ.pu.ord.map fun k => ((k : Nat), .ref (σ.ia k)))
  lo : (σ.d == sysModules) = false
  cell : ∀ k ∈ σ.pu.ord, ∃ t1 t2, (σ.ia k, nodeO (σ.da k) (σ.sa k) (.int (σ.pu.np k) t1) (.int (k : Nat) t2)) ∈ news
  dic : ∀ k ∈ σ.pu.ord, (σ.da k, dictOf [] 0) ∈ news
  suc : ∀ k ∈ σ.pu.ord, ∃ vs n, IV vs (σ.pu.su k) ∧ (σ.sa k, lstO vs n) ∈ news
  rdy : ∀ l, σ.pu.rd = some l → ∃ vs n, IV vs l ∧ (σ.r, lstO vs n) ∈ news
  rx : σ.role σ.x = some (0, 0)
  rdx : σ.role σ.dx = some (1, 0)
  rd_ : σ.role σ.d = some (2, 0)
  rr : ∀ l, σ.pu.rd = some l → σ.role σ.r = some (3, 0)
  ria : ∀ k ∈ σ.pu.ord, σ.role (σ.ia k) = some (4, k)
  rda : ∀ k ∈ σ.pu.ord, σ.role (σ.da k) = some (5, k)
  rsa : ∀ k ∈ σ.pu.ord, σ.role (σ.sa k) = some (6, k)
  dom : ∀ a, σ.role a ≠ none → a ∈ news.map (·.1)
  rest : ∀ p ∈ rest, p ∈ news ∧ Free σ p.1

section
variable {w : World} {σ : Srt} {rest news news' : Led}

theorem ne_role {role : Addr → Option (Nat × Nat)} {a b : Addr} {x y : Option (Nat × Nat)} (ha : role a = x) (hb : role b = y) (h : x ≠ y) : a ≠ b := fun e => h (by rw [← ha, ← hb, e])

theorem dom_keep {role : Addr → Option (Nat × Nat)} {c : Addr} {o : Obj} (dom : ∀ a, role a ≠ none → a ∈ news.map (·.1)) (hnew : (c, o) ∈ news') (hkeep : ∀ p ∈ news, p.1 ≠ c → p ∈ news') : ∀ a, role a ≠ none → a ∈ news'.map (·.1) := fun a ha => by
  obtain ⟨p, hp, rfl⟩ := List.mem_map.mp (dom a ha)
  by_cases e : p.1 = c
  · exact List.mem_map.mpr ⟨_, hnew, e.symm⟩
  · exact List.mem_map.mpr ⟨_, hkeep p hp e, rfl⟩

theorem So.mono (S : So w σ rest news) (hs : ∀ p ∈ news, p ∈ news') : So w σ rest news' where
  inst := hs _ S.inst
  dict := let ⟨a, b, c, d, e, f, h⟩ := S.dict; ⟨a, b, c, d, e, f, hs _ h⟩
  n2i := let ⟨o, a, b⟩ := S.n2i; ⟨o, hs _ a, b⟩
  lo := S.lo
  cell := fun k hk => let ⟨a, b, h⟩ := S.cell k hk; ⟨a, b, hs _ h⟩
  dic := fun k hk => hs _ (S.dic k hk)
  suc := fun k hk => let ⟨a, b, c, h⟩ := S.suc k hk; ⟨a, b, c, hs _ h⟩
  rdy := fun l hl => let ⟨a, b, c, h⟩ := S.rdy l hl; ⟨a, b, c, hs _ h⟩
  rx := S.rx
  rdx := S.rdx
  rd_ := S.rd_
  rr := S.rr
  ria := S.ria
  rda := S.rda
  rsa := S.rsa
  dom := fun a ha => let ⟨p, hp, e⟩ := List.mem_map.mp (S.dom a ha); List.mem_map.mpr ⟨p, hs _ hp, e⟩
  rest := fun p hp => ⟨hs _ (S.rest p hp).1, (S.rest p hp).2⟩
theorem So.push (S : So w σ rest news) {a : Addr} {o : Obj} (hm : (a, o) ∈ news') (hf : ∀ p ∈ news, p.1 ≠ a) (hs : ∀ p ∈ news, p ∈ news') : So w σ ((a, o) :: rest) news' :=
  { S.mono hs with
    rest := fun p hp => by
      rcases List.mem_cons.mp hp with rfl | hp
      · refine ⟨hm, .inl ?_⟩
        cases q : σ.role a with
        | none => rfl
        | some t =>
          obtain ⟨p, hp, e⟩ := List.mem_map.mp (S.dom a (by rw [q]; exact Option.some_ne_none _))
          exact absurd e (hf p hp)
      · exact (S.mono hs).rest p hp }
theorem So.drop (S : So w σ rest news) {rest' : Led} (h : ∀ p ∈ rest', p ∈ rest) : So w σ rest' news := { S with rest := fun p hp => S.rest p (h p hp) }

theorem So.wr_none {fp wr : List Addr} {own : Led} (S : So w σ rest news) (o : Own fp wr news own) : ∀ b ∈ wr, σ.role b = none := fun b hb => by
  cases z : σ.role b with
  | none => rfl
  | some t =>
    obtain ⟨q, hq, e⟩ := List.mem_map.mp (S.dom b (by rw [z]; exact Option.some_ne_none _))
    exact absurd (e ▸ hb) (o.1 q hq)
theorem So.own {fp wr : List Addr} {own : Led} (S : So w σ rest news) (o : Own fp wr news own) (hf : ∀ p ∈ own, p.1 ∈ wr ∨ Free σ p.1) : So w σ (own ++ rest) (news ++ own) :=
  { S.mono (fun p hp => List.mem_append_left _ hp) with
    rest := fun p hp => by
      rcases List.mem_append.mp hp with hp | hp
      · refine ⟨List.mem_append_right _ hp, ?_⟩
        rcases hf p hp with h | h
        · exact .inl (S.wr_none o _ h)
        · exact h
      · exact ⟨List.mem_append_left _ (S.rest p hp).1, (S.rest p hp).2⟩ }
theorem So.wr_rd {fp wr : List Addr} {own news₀ : Led} (S : So w σ (own ++ rest) news) (o : Own fp wr news₀ own) (h0 : σ.pu.rd = none) : ∀ b ∈ wr, σ.role b = none := fun b hb => by
  obtain ⟨ob, ho⟩ := o.2.2 b hb
  exact (S.rest _ (List.mem_append_left _ ho)).2.none_ h0
theorem So.restrict (S : So w σ rest news) {rest' : Led} (h1 : ∀ p ∈ news, σ.role p.1 ≠ none → p ∈ news') (h2 : ∀ p ∈ rest', p ∈ rest ∧ p ∈ news') : So w σ rest' news' :=
  have r : ∀ {a : Addr} {t}, σ.role a = some t → σ.role a ≠ none := fun h => by rw [h]; exact Option.some_ne_none _
  { inst := h1 _ S.inst (r S.rx)
    dict := let ⟨a, b, c, d, e, f, h⟩ := S.dict; ⟨a, b, c, d, e, f, h1 _ h (r S.rdx)⟩
    n2i := let ⟨o, a, b⟩ := S.n2i; ⟨o, h1 _ a (r S.rd_), b⟩
    lo := S.lo
    cell := fun k hk => let ⟨a, b, h⟩ := S.cell k hk; ⟨a, b, h1 _ h (r (S.ria k hk))⟩
    dic := fun k hk => h1 _ (S.dic k hk) (r (S.rda k hk))
    suc := fun k hk => let ⟨a, b, c, h⟩ := S.suc k hk; ⟨a, b, c, h1 _ h (r (S.rsa k hk))⟩
    rdy := fun l hl => let ⟨a, b, c, h⟩ := S.rdy l hl; ⟨a, b, c, h1 _ h (r (S.rr l hl))⟩
    rx := S.rx
    rdx := S.rdx
    rd_ := S.rd_
    rr := S.rr
    ria := S.ria
    rda := S.rda
    rsa := S.rsa
    dom := fun a ha => let ⟨p, hp, e⟩ := List.mem_map.mp (S.dom a ha); List.mem_map.mpr ⟨p, h1 p hp (by rw [e]; exact ha), e⟩
    rest := fun p hp => ⟨(h2 p hp).2, (S.rest p (h2 p hp).1).2⟩ }
noncomputable def cutL (wr : List Addr) (news : Led) : Led := news.filter fun p => !(wr.contains p.1)
theorem mem_cut {wr : List Addr} {p : Addr × Obj} : p ∈ cutL wr news ↔ p ∈ news ∧ p.1 ∉ wr := by
  unfold cutL
  rw [List.mem_filter]
  simp
theorem So.cut {wr : List Addr} {own : Led} (S : So w σ (own ++ rest) news) (hw : ∀ b ∈ wr, σ.role b = none) (hr : ∀ p ∈ rest, p.1 ∉ wr) : So w σ rest (cutL wr news) :=
  S.restrict (fun p hp h => mem_cut.mpr ⟨hp, fun q => h (hw _ q)⟩) fun p hp => ⟨List.mem_append_right _ hp, mem_cut.mpr ⟨(S.rest p (List.mem_append_right _ hp)).1, hr p hp⟩⟩
theorem So.led {wr : List Addr} {own : Led} (S : So w σ (own ++ rest) news) : ∀ p ∈ cutL wr news ++ own, p ∈ news := fun p hp => by
  rcases List.mem_append.mp hp with h | h
  · exact (mem_cut.mp h).1
  · exact (S.rest p (List.mem_append_left _ h)).1

theorem So.key {k : Nat} (hk : k ∈ σ.pu.ord) : valueAt (σ.pu.ord.map fun k => (((k : Nat) : Int), Value.ref (σ.ia k))) (k : Int) = some (.ref (σ.ia k)) := by
  generalize σ.pu.ord = l at hk
  unfold valueAt
  induction l with
  | nil => cases hk
  | cons j l ih =>
    by_cases e : j = k
    · subst e; simp
    · rcases List.mem_cons.mp hk with q | q
      · exact absurd q.symm e
      · have : ¬ ((j : Int) = (k : Int)) := by omega
        simp only [List.map_cons, List.find?_cons, this, decide_false]
        exact ih q
theorem So.nokey {k : Nat} (hk : k ∉ σ.pu.ord) : valueAt (σ.pu.ord.map fun k => (((k : Nat) : Int), Value.ref (σ.ia k))) (k : Int) = none := by
  generalize σ.pu.ord = l at hk
  unfold valueAt
  induction l with
  | nil => rfl
  | cons j l ih =>
    have : ¬ ((j : Int) = (k : Int)) := fun e => hk (by rw [show k = j by omega]; exact .head _)
    simp only [List.map_cons, List.find?_cons, this, decide_false]
    exact ih fun q => hk (.tail _ q)

noncomputable def Srt.setNp (σ : Srt) (k : Nat) (z : Int) : Srt := { σ with pu := { σ.pu with np := fun j => if j = k then z else σ.pu.np j } }
theorem So.upd_np {k : Nat} {z : Int} {t t2 : Tok} (S : So w σ rest news) (hk : k ∈ σ.pu.ord) (hnew : (σ.ia k, nodeO (σ.da k) (σ.sa k) (.int z t) (.int (k : Nat) t2)) ∈ news') (hkeep : ∀ p ∈ news, p.1 ≠ σ.ia k → p ∈ news') : So w (σ.setNp k z) rest news' where
  inst := hkeep _ S.inst (ne_role S.rx (S.ria k hk) (by simp))
  dict := let ⟨a, b, c, d, e, f, h⟩ := S.dict; ⟨a, b, c, d, e, f, hkeep _ h (ne_role S.rdx (S.ria k hk) (by simp))⟩
  n2i := let ⟨o, a, b⟩ := S.n2i; ⟨o, hkeep _ a (ne_role S.rd_ (S.ria k hk) (by simp)), b⟩
  lo := S.lo
  cell := fun j hj => by
    by_cases e : j = k
    · subst e
      exact ⟨t, t2, by simpa [Srt.setNp] using hnew⟩
    · obtain ⟨a, b, h⟩ := S.cell j hj
      exact ⟨a, b, by simpa [Srt.setNp, e] using hkeep _ h (ne_role (S.ria j hj) (S.ria k hk) (by simpa using e))⟩
  dic := fun j hj => hkeep _ (S.dic j hj) (ne_role (S.rda j hj) (S.ria k hk) (by simp))
  suc := fun j hj => let ⟨a, b, c, h⟩ := S.suc j hj; ⟨a, b, c, hkeep _ h (ne_role (S.rsa j hj) (S.ria k hk) (by simp))⟩
  rdy := fun l hl => let ⟨a, b, c, h⟩ := S.rdy l hl; ⟨a, b, c, hkeep _ h (ne_role (S.rr l hl) (S.ria k hk) (by simp))⟩
  rx := S.rx
  rdx := S.rdx
  rd_ := S.rd_
  rr := S.rr
  ria := S.ria
  rda := S.rda
  rsa := S.rsa
  dom := dom_keep S.dom hnew hkeep
  rest := fun p hp => ⟨hkeep _ (S.rest p hp).1 ((S.rest p hp).2.ne (S.ria k hk) (by simp)), (S.rest p hp).2⟩

noncomputable def Srt.setSu (σ : Srt) (k : Nat) (l : List Nat) : Srt := { σ with pu := { σ.pu with su := fun j => if j = k then l else σ.pu.su j } }
theorem So.upd_su {k : Nat} {l : List Nat} {vs : List Value} {n : Nat} (S : So w σ rest news) (h0 : σ.pu.rd = none) (hk : k ∈ σ.pu.ord) (hv : IV vs l) (hnew : (σ.sa k, lstO vs n) ∈ news') (hkeep : ∀ p ∈ news, p.1 ≠ σ.sa k → p ∈ news') : So w (σ.setSu k l) rest news' where
  inst := hkeep _ S.inst (ne_role S.rx (S.rsa k hk) (by simp))
  dict := let ⟨a, b, c, d, e, f, h⟩ := S.dict; ⟨a, b, c, d, e, f, hkeep _ h (ne_role S.rdx (S.rsa k hk) (by simp))⟩
  n2i := let ⟨o, a, b⟩ := S.n2i; ⟨o, hkeep _ a (ne_role S.rd_ (S.rsa k hk) (by simp)), b⟩
  lo := S.lo
  cell := fun j hj => let ⟨a, b, h⟩ := S.cell j hj; ⟨a, b, hkeep _ h (ne_role (S.ria j hj) (S.rsa k hk) (by simp))⟩
  dic := fun j hj => hkeep _ (S.dic j hj) (ne_role (S.rda j hj) (S.rsa k hk) (by simp))
  suc := fun j hj => by
    by_cases e : j = k
    · subst e
      exact ⟨vs, n, by simpa [Srt.setSu] using hv, hnew⟩
    · obtain ⟨a, b, c, h⟩ := S.suc j hj
      exact ⟨a, b, by simpa [Srt.setSu, e] using c, hkeep _ h (ne_role (S.rsa j hj) (S.rsa k hk) (by simpa using e))⟩
  rdy := fun l hl => let ⟨a, b, c, h⟩ := S.rdy l hl; ⟨a, b, c, hkeep _ h (ne_role (S.rr l hl) (S.rsa k hk) (by simp))⟩
  rx := S.rx
  rdx := S.rdx
  rd_ := S.rd_
  rr := S.rr
  ria := S.ria
  rda := S.rda
  rsa := S.rsa
  dom := dom_keep S.dom hnew hkeep
  rest := fun p hp => ⟨hkeep _ (S.rest p hp).1 (ne_role ((S.rest p hp).2.none_ h0) (S.rsa k hk) (by simp)), (S.rest p hp).2⟩

noncomputable def Srt.setPo (σ : Srt) (n : Nat) : Srt := { σ with pu := { σ.pu with po := n } }
noncomputable def Srt.setNf (σ : Srt) (n : Nat) : Srt := { σ with pu := { σ.pu with nf := n } }
theorem So.upd_dx {pu : Pu} {t1 t2 t3 t4 t5 t6 : Tok} (S : So w σ rest news) (ho : pu.ord = σ.pu.ord) (hn : pu.np = σ.pu.np) (hsu : pu.su = σ.pu.su) (hrd : pu.rd = σ.pu.rd)
    (hnew : (σ.dx, soDict w t1 t2 t3 t4 σ.d (rdV σ) (.int (pu.po : Nat) t5) (.int (pu.nf : Nat) t6)) ∈ news') (hkeep : ∀ p ∈ news, p.1 ≠ σ.dx → p ∈ news') : So w { σ with pu := pu } rest news' := by
  obtain ⟨po, pn, ps, pr, pp, pf⟩ := pu
  dsimp only at ho hn hsu hrd hnew
  subst ho hn hsu hrd
  exact {
    inst := hkeep _ S.inst (ne_role S.rx S.rdx (by simp))
    dict := ⟨_, _, _, _, _, _, hnew⟩
    n2i := let ⟨o, a, b⟩ := S.n2i; ⟨o, hkeep _ a (ne_role S.rd_ S.rdx (by simp)), b⟩
    lo := S.lo
    cell := fun j hj => let ⟨a, b, h⟩ := S.cell j hj; ⟨a, b, hkeep _ h (ne_role (S.ria j hj) S.rdx (by simp))⟩
    dic := fun j hj => hkeep _ (S.dic j hj) (ne_role (S.rda j hj) S.rdx (by simp))
    suc := fun j hj => let ⟨a, b, c, h⟩ := S.suc j hj; ⟨a, b, c, hkeep _ h (ne_role (S.rsa j hj) S.rdx (by simp))⟩
    rdy := fun l hl => let ⟨a, b, c, h⟩ := S.rdy l hl; ⟨a, b, c, hkeep _ h (ne_role (S.rr l hl) S.rdx (by simp))⟩
    rx := S.rx
    rdx := S.rdx
    rd_ := S.rd_
    rr := S.rr
    ria := S.ria
    rda := S.rda
    rsa := S.rsa
    dom := dom_keep S.dom hnew hkeep
    rest := fun p hp => ⟨hkeep _ (S.rest p hp).1 ((S.rest p hp).2.ne S.rdx (by decide)), (S.rest p hp).2⟩ }

noncomputable def Srt.setRd (σ : Srt) (l : List Nat) : Srt := { σ with pu := { σ.pu with rd := some l } }
theorem So.upd_rd {l l' : List Nat} {vs : List Value} {n : Nat} (S : So w σ rest news) (hl : σ.pu.rd = some l) (hv : IV vs l') (hnew : (σ.r, lstO vs n) ∈ news') (hkeep : ∀ p ∈ news, p.1 ≠ σ.r → p ∈ news') : So w (σ.setRd l') rest news' where
  inst := hkeep _ S.inst (ne_role S.rx (S.rr l hl) (by simp))
  dict := let ⟨a, b, c, d, e, f, h⟩ := S.dict; ⟨a, b, c, d, e, f, by
    have h' := hkeep _ h (ne_role S.rdx (S.rr l hl) (by simp))
    have e1 : rdV (σ.setRd l') = rdV σ := by unfold rdV; rw [hl]; rfl
    rw [e1]; exact h'⟩
  n2i := let ⟨o, a, b⟩ := S.n2i; ⟨o, hkeep _ a (ne_role S.rd_ (S.rr l hl) (by simp)), b⟩
  lo := S.lo
  cell := fun j hj => let ⟨a, b, h⟩ := S.cell j hj; ⟨a, b, hkeep _ h (ne_role (S.ria j hj) (S.rr l hl) (by simp))⟩
  dic := fun j hj => hkeep _ (S.dic j hj) (ne_role (S.rda j hj) (S.rr l hl) (by simp))
  suc := fun j hj => let ⟨a, b, c, h⟩ := S.suc j hj; ⟨a, b, c, hkeep _ h (ne_role (S.rsa j hj) (S.rr l hl) (by simp))⟩
  rdy := fun l2 hl2 => by cases (show some l' = some l2 from hl2); exact ⟨vs, n, hv, hnew⟩
  rx := S.rx
  rdx := S.rdx
  rd_ := S.rd_
  rr := fun _ _ => S.rr l hl
  ria := S.ria
  rda := S.rda
  rsa := S.rsa
  dom := dom_keep S.dom hnew hkeep
  rest := fun p hp => ⟨hkeep _ (S.rest p hp).1 ((S.rest p hp).2.ne (S.rr l hl) (by decide)), (S.rest p hp).2.ro rfl fun _ => Option.some_ne_none _⟩

noncomputable def Srt.newRd (σ : Srt) (r : Addr) (l : List Nat) : Srt := { σ with r := r, role := fun a => if a = r then some (3, 0) else σ.role a, pu := { σ.pu with rd := some l } }
theorem So.new_rd {r : Addr} {l : List Nat} {vs : List Value} {n : Nat} {t1 t2 t3 t4 t5 t6 : Tok} (S : So w σ rest news) (h0 : σ.pu.rd = none) (hv : IV vs l) (hr : (r, lstO vs n) ∈ news') (hf : ∀ p ∈ news, p.1 ≠ r)
    (hnew : (σ.dx, soDict w t1 t2 t3 t4 σ.d (.ref r) (.int (σ.pu.po : Nat) t5) (.int (σ.pu.nf : Nat) t6)) ∈ news') (hkeep : ∀ p ∈ news, p.1 ≠ σ.dx → p ∈ news') : So w (σ.newRd r l) rest news' := by
  have ro : ∀ a, a ∈ news.map (·.1) → (σ.newRd r l).role a = σ.role a := fun a ha => by
    obtain ⟨p, hp, rfl⟩ := List.mem_map.mp ha
    exact if_neg (hf p hp)
  have mm : ∀ {a o}, (a, o) ∈ news → a ∈ news.map (·.1) := fun h => List.mem_map.mpr ⟨_, h, rfl⟩
  exact {
    inst := hkeep _ S.inst (ne_role S.rx S.rdx (by simp))
    dict := ⟨_, _, _, _, _, _, hnew⟩
    n2i := let ⟨o, a, b⟩ := S.n2i; ⟨o, hkeep _ a (ne_role S.rd_ S.rdx (by simp)), b⟩
    lo := S.lo
    cell := fun j hj => let ⟨a, b, h⟩ := S.cell j hj; ⟨a, b, hkeep _ h (ne_role (S.ria j hj) S.rdx (by simp))⟩
    dic := fun j hj => hkeep _ (S.dic j hj) (ne_role (S.rda j hj) S.rdx (by simp))
    suc := fun j hj => let ⟨a, b, c, h⟩ := S.suc j hj; ⟨a, b, c, hkeep _ h (ne_role (S.rsa j hj) S.rdx (by simp))⟩
    rdy := fun l2 hl2 => by cases (show some l = some l2 from hl2); exact ⟨vs, n, hv, hr⟩
    rx := (ro _ (mm S.inst)).trans S.rx
    rdx := (let ⟨_, _, _, _, _, _, h⟩ := S.dict; ro _ (mm h)).trans S.rdx
    rd_ := (let ⟨_, h, _⟩ := S.n2i; ro _ (mm h)).trans S.rd_
    rr := fun _ _ => if_pos rfl
    ria := fun j hj => (let ⟨_, _, h⟩ := S.cell j hj; ro _ (mm h)).trans (S.ria j hj)
    rda := fun j hj => (ro _ (mm (S.dic j hj))).trans (S.rda j hj)
    rsa := fun j hj => (let ⟨_, _, _, h⟩ := S.suc j hj; ro _ (mm h)).trans (S.rsa j hj)
    dom := fun a ha => by
      by_cases e : a = r
      · exact List.mem_map.mpr ⟨_, hr, e.symm⟩
      · refine dom_keep S.dom hnew hkeep a ?_
        rwa [show (σ.newRd r l).role a = σ.role a from if_neg e] at ha
    rest := fun p hp => ⟨hkeep _ (S.rest p hp).1 ((S.rest p hp).2.ne S.rdx (by decide)), (S.rest p hp).2.ro (ro _ (mm (S.rest p hp).1)) fun _ => Option.some_ne_none _⟩ }

noncomputable def Pu.add (pu : Pu) (k : Nat) : Pu := if k ∈ pu.ord then pu else { pu with ord := pu.ord ++ [k], np := fun j => if j = k then 0 else pu.np j, su := fun j => if j = k then [] else pu.su j }
noncomputable def Srt.newNode (σ : Srt) (k : Nat) (i d l : Addr) : Srt :=
  { σ with ia := fun j => if j = k then i else σ.ia j, da := fun j => if j = k then d else σ.da j, sa := fun j => if j = k then l else σ.sa j,
           role := fun a => if a = i then some (4, k) else if a = d then some (5, k) else if a = l then some (6, k) else σ.role a, pu := σ.pu.add k }
theorem So.new_node {k : Nat} {i d l : Addr} {n : Nat} {t1 t2 : Tok} {o : Obj} (S : So w σ rest news) (h0 : k ∉ σ.pu.ord) (hi : ∀ p ∈ news, p.1 ≠ i) (hd : ∀ p ∈ news, p.1 ≠ d) (hl : ∀ p ∈ news, p.1 ≠ l) (hid : i ≠ d) (hil : i ≠ l) (hdl : d ≠ l)
    (ni : (i, nodeO d l (.int 0 t1) (.int (k : Nat) t2)) ∈ news') (nd : (d, dictOf [] 0) ∈ news') (nl : (l, lstO [] n) ∈ news')
    (hnew : (σ.d, o) ∈ news') (ho : o.IsDictOf (intKind PG w) (stored (σ.pu.ord.map fun k => (((k : Nat) : Int), Value.ref (σ.ia k))) (k : Int) (.ref i))) (hkeep : ∀ p ∈ news, p.1 ≠ σ.d → p ∈ news') : So w (σ.newNode k i d l) rest news' := by
  have ep : (σ.newNode k i d l).pu.ord = σ.pu.ord ++ [k] := by show (σ.pu.add k).ord = _; unfold Pu.add; rw [if_neg h0]
  have en : (σ.newNode k i d l).pu.np = fun j => if j = k then 0 else σ.pu.np j := by show (σ.pu.add k).np = _; unfold Pu.add; rw [if_neg h0]
  have es : (σ.newNode k i d l).pu.su = fun j => if j = k then [] else σ.pu.su j := by show (σ.pu.add k).su = _; unfold Pu.add; rw [if_neg h0]
  have er : (σ.newNode k i d l).pu.rd = σ.pu.rd := by show (σ.pu.add k).rd = _; unfold Pu.add; rw [if_neg h0]
  have e1 : (σ.newNode k i d l).pu.po = σ.pu.po := by show (σ.pu.add k).po = _; unfold Pu.add; rw [if_neg h0]
  have e2 : (σ.newNode k i d l).pu.nf = σ.pu.nf := by show (σ.pu.add k).nf = _; unfold Pu.add; rw [if_neg h0]
  have ev : rdV (σ.newNode k i d l) = rdV σ := by unfold rdV; rw [er]; rfl
  have ro : ∀ a, a ∈ news.map (·.1) → (σ.newNode k i d l).role a = σ.role a := fun a ha => by
    obtain ⟨p, hp, rfl⟩ := List.mem_map.mp ha
    show (if p.1 = i then _ else if p.1 = d then _ else if p.1 = l then _ else σ.role p.1) = _
    rw [if_neg (hi p hp), if_neg (hd p hp), if_neg (hl p hp)]
  have mm : ∀ {a o}, (a, o) ∈ news → a ∈ news.map (·.1) := fun h => List.mem_map.mpr ⟨_, h, rfl⟩
  have mem : ∀ {P : Nat → Prop}, P k → (∀ j ∈ σ.pu.ord, j ≠ k → P j) → ∀ j ∈ (σ.newNode k i d l).pu.ord, P j := fun hk hj j hj' => by
    rw [ep] at hj'
    rcases List.mem_append.mp hj' with q | q
    · exact hj j q fun e => h0 (e ▸ q)
    · rw [List.mem_singleton.mp q]; exact hk
  have aik : (σ.newNode k i d l).ia k = i := if_pos rfl
  have adk : (σ.newNode k i d l).da k = d := if_pos rfl
  have ask : (σ.newNode k i d l).sa k = l := if_pos rfl
  have ai : ∀ j, j ≠ k → (σ.newNode k i d l).ia j = σ.ia j := fun j h => if_neg h
  have ad : ∀ j, j ≠ k → (σ.newNode k i d l).da j = σ.da j := fun j h => if_neg h
  have as' : ∀ j, j ≠ k → (σ.newNode k i d l).sa j = σ.sa j := fun j h => if_neg h
  exact {
    inst := hkeep _ S.inst (ne_role S.rx S.rd_ (by simp))
    dict := let ⟨a, b, c, d, e, f, h⟩ := S.dict; ⟨a, b, c, d, e, f, by rw [ev, e1, e2]; exact hkeep _ h (ne_role S.rdx S.rd_ (by simp))⟩
    n2i := ⟨o, hnew, by
      have : stored (σ.pu.ord.map fun k => (((k : Nat) : Int), Value.ref (σ.ia k))) (k : Int) (.ref i) = (σ.newNode k i d l).pu.ord.map fun j => (((j : Nat) : Int), Value.ref ((σ.newNode k i d l).ia j)) := by
        unfold stored
        rw [if_neg, ep, List.map_append]
        · refine congr (congrArg _ (List.map_congr_left fun j hj => ?_)) ?_
          · rw [ai j fun e => h0 (e ▸ hj)]
          · simp only [List.map_cons, List.map_nil, aik]
        · simp only [List.any_map, List.any_eq_true, Function.comp, decide_eq_true_eq, not_exists, not_and]
          intro j hj e
          exact h0 (by rw [show k = j by omega]; exact hj)
      rw [← this]; exact ho⟩
    lo := S.lo
    cell := mem ⟨t1, t2, by rw [aik, adk, ask, en]; simpa using ni⟩ fun j hj hne => let ⟨a, b, h⟩ := S.cell j hj; ⟨a, b, by rw [ai j hne, ad j hne, as' j hne, en]; simpa [hne] using hkeep _ h (ne_role (S.ria j hj) S.rd_ (by simp))⟩
    dic := mem (by rw [adk]; exact nd) fun j hj hne => by rw [ad j hne]; exact hkeep _ (S.dic j hj) (ne_role (S.rda j hj) S.rd_ (by simp))
    suc := mem ⟨[], n, by rw [es]; simpa using IV.nil, by rw [ask]; exact nl⟩ fun j hj hne => let ⟨a, b, c, h⟩ := S.suc j hj; ⟨a, b, by rw [es]; simpa [hne] using c, by rw [as' j hne]; exact hkeep _ h (ne_role (S.rsa j hj) S.rd_ (by simp))⟩
    rdy := fun l' hl' => let ⟨a, b, c, h⟩ := S.rdy l' (er ▸ hl'); ⟨a, b, c, hkeep _ h (ne_role (S.rr l' (er ▸ hl')) S.rd_ (by simp))⟩
    rx := (ro _ (mm S.inst)).trans S.rx
    rdx := (let ⟨_, _, _, _, _, _, h⟩ := S.dict; ro _ (mm h)).trans S.rdx
    rd_ := (let ⟨_, h, _⟩ := S.n2i; ro _ (mm h)).trans S.rd_
    rr := fun l' hl' => (let ⟨_, _, _, h⟩ := S.rdy l' (er ▸ hl'); ro _ (mm h)).trans (S.rr l' (er ▸ hl'))
    ria := mem (by rw [aik]; exact if_pos rfl) fun j hj hne => by rw [ai j hne]; exact (let ⟨_, _, h⟩ := S.cell j hj; ro _ (mm h)).trans (S.ria j hj)
    rda := mem (by rw [adk]; exact (if_neg (Ne.symm hid)).trans (if_pos rfl)) fun j hj hne => by rw [ad j hne]; exact (ro _ (mm (S.dic j hj))).trans (S.rda j hj)
    rsa := mem (by rw [ask]; exact (if_neg (Ne.symm hil)).trans ((if_neg (Ne.symm hdl)).trans (if_pos rfl))) fun j hj hne => by rw [as' j hne]; exact (let ⟨_, _, _, h⟩ := S.suc j hj; ro _ (mm h)).trans (S.rsa j hj)
    dom := fun a ha => by
      by_cases e1 : a = i
      · exact List.mem_map.mpr ⟨_, ni, e1.symm⟩
      by_cases e2 : a = d
      · exact List.mem_map.mpr ⟨_, nd, e2.symm⟩
      by_cases e3 : a = l
      · exact List.mem_map.mpr ⟨_, nl, e3.symm⟩
      refine dom_keep S.dom hnew hkeep a ?_
      rwa [show (σ.newNode k i d l).role a = σ.role a from (if_neg e1).trans ((if_neg e2).trans (if_neg e3))] at ha
    rest := fun p hp => ⟨hkeep _ (S.rest p hp).1 ((S.rest p hp).2.ne S.rd_ (by decide)), (S.rest p hp).2.ro (ro _ (mm (S.rest p hp).1)) fun h => by rw [er]; exact h⟩ }
end
end Mine
end
section
open PySem PySem.W PyProof.Rows PySem.Spec PySem.Calls
set_option Elab.async false
set_option maxRecDepth 100000
set_option maxHeartbeats 4000000
set_option linter.unusedVariables false
namespace Mine
theorem memM {α : Type} {a : α} {l : List α} (h : a ∈ l) : List.Mem a l := h
theorem all_ne_lt {news : Led} {a b : Nat} (h : ∀ p ∈ news, p.1 < a) (hab : a ≤ b) : ∀ p ∈ news, p.1 ≠ b := fun p hp e => by
  have := ltN (h p hp)
  have e : @Eq Nat p.1 b := e
  omega
end Mine
end
local macro_rules | `(tactic| k_mem) => `(tactic| first | with_reducible assumption | (with_reducible refine Mine.memM ?_; with_reducible assumption))
local macro_rules | `(tactic| k_all) => `(tactic| first | with_reducible assumption | exact Mine.all_ne_lt (by with_reducible assumption) (by omega))
section
open PySem PySem.W PyProof.Rows PySem.Spec PySem.Calls
set_option Elab.async false
set_option maxRecDepth 100000
set_option maxHeartbeats 4000000
set_option linter.unusedVariables false
namespace Mine
theorem calm_S1 : True := by
  w_top off
  k_with_none
  trivial
noncomputable def Ctr0 (b : Nat) (f : Addr) (w : World) (vs : List Value) (pre : Led → Prop) (post : Led → Value → Led → Prop) : Prop :=
  ∀ (p : Program) (loose : List Str) (mean : ExcName → Option Value) (mg mb : Str → Option Value) (dp un : Nat) (gd : Option (List Code)) (cn : Str) (cs : Scope) (a : Addr) (ccd : Value) (cl : List (Str × Addr)) (outer : List Env) (A₀ : Around) (base h₀ : Heap) (L : Addr) (m : Str → Option Value) (news : Led) (s : Shared) (Q E : Value → Shared → Prop),
    Below A₀ base outer h₀ → Fr h₀ L s.heap m → (h0.heap_1 w.params).In h₀ → News h₀ L s.heap news → Top p loose mean mg mb h₀ → cs.kind = .function → pre news →
    dp + b < recursionLimit → un + b < cLine →
    (∀ v news' h' tk', Fr h₀ L h' m → News h₀ L h' news' → post news v news' → Q v { s with heap := h', toks := tk' }) →
      wpAny (model PySem.Challenge.rw_oy0305_01.row.prog w) (ktrTop dp un gd cn cs L a ccd cl outer) (call (.ref f) vs) Q E s
theorem Ctr.to0 {b : Nat} (hb : 20 ≤ b) {f : Addr} {w : World} {vs : List Value} {pre : Led → Prop} {post : Led → Value → Led → Prop} (c : Ctr f w vs pre post) : Ctr0 b f w vs pre post :=
  fun _ _ _ _ _ _ _ _ _ _ _ _ _ _ _ _ _ _ _ _ _ _ _ B F K N T hk hp hd hu k => c _ _ _ _ _ _ _ _ _ _ _ _ _ _ _ _ _ _ _ _ _ _ _ B F K N T hk hp (by omega) (by omega) fun v n h tk a b c _ => k v n h tk a b c
theorem Ctr0.use {b : Nat} {f : Addr} {w : World} {vs : List Value} {pre : Led → Prop} {post : Led → Value → Led → Prop} (c : Ctr0 b f w vs pre post)
    {p : Program} {loose : List Str} {mean : ExcName → Option Value} {mg mb : Str → Option Value} {dp un : Nat} {gd : Option (List Code)} {cn : Str} {cs : Scope} {a : Addr} {ccd : Value} {cl : List (Str × Addr)} {outer : List Env} {A₀ : Around} {base h₀ : Heap} {L : Addr} {m : Str → Option Value} {news : Led} {s : Shared} {Q E : Value → Shared → Prop}
    (B : Below A₀ base outer h₀) (F : Fr h₀ L s.heap m) (K : (h0.heap_1 w.params).In h₀) (N : News h₀ L s.heap news) (T : Top p loose mean mg mb h₀) (hk : cs.kind = .function) (hp : pre news)
    (hd : dp + b < recursionLimit) (hu : un + b < cLine)
    (k : ∀ v news' h' tk', Fr h₀ L h' m → News h₀ L h' news' → post news v news' → Q v { s with heap := h', toks := tk' }) :
      wpAny (model PySem.Challenge.rw_oy0305_01.row.prog w) (ktrTop dp un gd cn cs L a ccd cl outer) (call (.ref f) vs) Q E s :=
  c _ _ _ _ _ _ _ _ _ _ _ _ _ _ _ _ _ _ _ _ _ _ _ B F K N T hk hp hd hu k

noncomputable def Ctr0C (b : Nat) (f : Addr) (w : World) (vs : List Value) (pre : Led → Prop) (post : Led → Value → Led → Prop) : Prop :=
  ∀ (p : Program) (loose : List Str) (mean : ExcName → Option Value) (mg mb : Str → Option Value) (dp un : Nat) (gd : Option (List Code)) (cn : Str) (cs : Scope) (a : Addr) (ccd : Value) (cl : List (Str × Addr)) (outer : List Env) (A₀ : Around) (base h₀ : Heap) (L : Addr) (m : Str → Option Value) (news : Led) (s : Shared) (Q E : Value → Shared → Prop),
    Below A₀ base outer h₀ → Fr h₀ L s.heap m → (h0.heap_1 w.params).In h₀ → News h₀ L s.heap news → Top p loose mean mg mb h₀ → cs.kind = .function → pre news →
    dp + b < recursionLimit → un + b < cLine →
    (∀ v news' h' tk', Fr h₀ L h' m → News h₀ L h' news' → post news v news' → Q v { s with heap := h', toks := tk' }) →
      codeAny (model PySem.Challenge.rw_oy0305_01.row.prog w) (ktrTop dp un gd cn cs L a ccd cl outer) (.call (.ref f) ⟨vs, []⟩) (fun r s' => match r with | .ok (.ret v) => Q v s' | .ok _ => False | .error e => E e s') s
theorem Ctr0C.use {b : Nat} {f : Addr} {w : World} {vs : List Value} {pre : Led → Prop} {post : Led → Value → Led → Prop} (c : Ctr0C b f w vs pre post)
    {p : Program} {loose : List Str} {mean : ExcName → Option Value} {mg mb : Str → Option Value} {dp un : Nat} {gd : Option (List Code)} {cn : Str} {cs : Scope} {a : Addr} {ccd : Value} {cl : List (Str × Addr)} {outer : List Env} {A₀ : Around} {base h₀ : Heap} {L : Addr} {m : Str → Option Value} {news : Led} {s : Shared} {Q E : Value → Shared → Prop}
    (B : Below A₀ base outer h₀) (F : Fr h₀ L s.heap m) (K : (h0.heap_1 w.params).In h₀) (N : News h₀ L s.heap news) (T : Top p loose mean mg mb h₀) (hk : cs.kind = .function) (hp : pre news)
    (hd : dp + b < recursionLimit) (hu : un + b < cLine)
    (k : ∀ v news' h' tk', Fr h₀ L h' m → News h₀ L h' news' → post news v news' → Q v { s with heap := h', toks := tk' }) :
      codeAny (model PySem.Challenge.rw_oy0305_01.row.prog w) (ktrTop dp un gd cn cs L a ccd cl outer) (.call (.ref f) ⟨vs, []⟩) (fun r s' => match r with | .ok (.ret v) => Q v s' | .ok _ => False | .error e => E e s') s :=
  c _ _ _ _ _ _ _ _ _ _ _ _ _ _ _ _ _ _ _ _ _ _ _ B F K N T hk hp hd hu k

section
variable {prog : Program} {w : World} {K : Type} [DecidableEq K] {knd : KeyKind prog w K} {A : Around} {E : Value → Shared → Prop} {s : Shared} {h₀ : Heap} {L d : Addr} {m : Str → Option Value} {news : List (Addr × Obj)} {o : Obj} {kvs : List (K × Value)} {k : K} {key v : Value} {Q : Value → Shared → Prop}
theorem kdg_yes (N : News h₀ L s.heap news) (hp : (d, o) ∈ news) (hd : o.IsDictOf knd kvs) (lo : (d == sysModules) = false) (hkey : knd.is k key = true) (hl : valueAt kvs k = some v) (h : Q v { s with toks := s.toks + 1 }) :
    wpAny (model prog w) A (call (.builtin "dict.get") [.ref d, key]) Q E s := kdg_get1 N hp hd lo hkey _ hl h
theorem kdg_no (N : News h₀ L s.heap news) (hp : (d, o) ∈ news) (hd : o.IsDictOf knd kvs) (lo : (d == sysModules) = false) (hkey : knd.is k key = true) (hl : valueAt kvs k = none) (h : Q .none { s with toks := s.toks + 1 }) :
    wpAny (model prog w) A (call (.builtin "dict.get") [.ref d, key]) Q E s := kdg_get1 N hp hd lo hkey _ hl h
end
section
variable {prog : Program} {w : World} {K : Type} [DecidableEq K] {knd : KeyKind prog w K} {A : Around} {E : Value → Shared → Prop} {s : Shared} {h₀ : Heap} {L d : Addr} {m : Str → Option Value} {news : List (Addr × Obj)} {o : Obj} {kvs : List (K × Value)} {k : K} {key v : Value} {Q : Unit → Shared → Prop}
theorem set_at (F : Fr h₀ L s.heap m) (N : News h₀ L s.heap news) (hp : (d, o) ∈ news) (hd : o.IsDictOf knd kvs) (hkey : knd.is k key = true) (hsz : kvs.length ≤ 1000)
    (h : ∀ h' o', Fr h₀ L h' m → News h₀ L h' ((d, o') :: off d news) → o'.IsDictOf knd (stored kvs k v) → Q () { s with heap := h', toks := s.toks + 1 }) : wpAny (model prog w) A (setItem (.ref d) key v) Q E s :=
  kda_set F (News.focus N hp) (UpdF.head off_ne) hd hkey (by rw [sizeLine_eq]; omega) h
end
section
variable {w : World} {A : Around} {E : Value → Shared → Prop} {s : Shared} {h₀ : Heap} {L x da sa : Addr} {m : Str → Option Value} {news : Led} {v v' kv : Value} {Q : Unit → Shared → Prop}
theorem st_np (F : Fr h₀ L s.heap m) (X₀ : (h0.heap_1 w.params).In h₀) (N : News h₀ L s.heap news) (h1 : (x, nodeO da sa v kv) ∈ news) (h2 : (da, dictOf [] 0) ∈ news)
    (h : ∀ h', Fr h₀ L h' m → News h₀ L h' ((x, nodeO da sa v' kv) :: off x news) → Q () { s with heap := h', toks := s.toks + 1 }) :
    wpAny (model PySem.Challenge.rw_oy0305_01.row.prog w) A (setAttr (.ref x) (Str.ofString "npredecessors") v') Q E s := by
  revert X₀
  k_fill
  intro X₀
  refine' set_slot F X₀ (News.focus N h1) (InstAt.of_news N h1 h2) ?k5 ?k6 ?k7 ?k8 ?k9 ?k10 ?k11 ?k12 (Upd.head off_ne) h
  case k5 => k_is
  case k6 => k_is
  case k7 => k_is
  case k8 => k_is
  case k9 => k_is
  case k10 => decide
  case k11 => k_slotset
  case k12 => exact rfl
end
section
variable {w : World} {A : Around} {E : Value → Shared → Prop} {s : Shared} {h₀ : Heap} {L a : Addr} {m : Str → Option Value} {news : Led} {vs : List Value} {n : Nat} {Q : Value → Shared → Prop}
theorem len_tup {j : Nat} (N : News h₀ L s.heap news) (hm : (a, tupO vs n) ∈ news) (hj : vs.length = j) (hz : j ≤ 1000) (h : Q (.int (j : Nat) (s.toks + 1)) { s with toks := s.toks + 1 + 1 }) :
    wpAny (model PG w) A (call (.builtin "len") [.ref a]) Q E s := by
  subst hj
  have e : vs.toArray.size = vs.length := List.size_toArray ..
  exact P.len_tuple (items := vs.toArray) (n := n) (N _ hm).1 (by rw [e]; omega) (by rw [e]; exact h)
theorem len_lst {j : Nat} (N : News h₀ L s.heap news) (hm : (a, lstO vs n) ∈ news) (hj : vs.length = j) (hz : j ≤ 1000) (h : Q (.int (j : Nat) (s.toks + 1)) { s with toks := s.toks + 1 + 1 }) :
    wpAny (model PG w) A (call (.builtin "len") [.ref a]) Q E s := by
  subst hj
  have e : vs.toArray.size = vs.length := List.size_toArray ..
  exact call_len_list (News.lst N hm) (by rw [e]; omega) (by rw [e]; exact h)
end
section
variable {w : World} {A : Around} {E : Value → Shared → Prop} {s : Shared} {h₀ : Heap} {L : Addr} {m : Str → Option Value} {rest news : Led} {σ : Srt} {k : Nat}
theorem so_np {z : Int} {t : Tok} {Q : Unit → Shared → Prop} (F : Fr h₀ L s.heap m) (X₀ : (h0.heap_1 w.params).In h₀) (N : News h₀ L s.heap news) (S : So w σ rest news) (hk : k ∈ σ.pu.ord)
    (h : ∀ h' news', Fr h₀ L h' m → News h₀ L h' news' → So w (σ.setNp k z) rest news' → Q () { s with heap := h', toks := s.toks + 1 }) :
    wpAny (model PG w) A (setAttr (.ref (σ.ia k)) (Str.ofString "npredecessors") (.int z t)) Q E s := by
  refine ob_ee (S.cell k hk) ?_
  intro u1 u2 q1
  exact st_np F X₀ N q1 (S.dic k hk) fun h' F' N' => h h' _ F' N' (So.upd_np S hk (.head _) fun p hp hne => .tail _ (mem_off hp hne))
theorem so_app {j : Nat} {t : Tok} {Q : Value → Shared → Prop} (F : Fr h₀ L s.heap m) (N : News h₀ L s.heap news) (S : So w σ rest news) (h0 : σ.pu.rd = none) (hk : k ∈ σ.pu.ord) (hz : (σ.pu.su k).length ≤ 1000)
    (h : ∀ h' news', Fr h₀ L h' m → News h₀ L h' news' → So w (σ.setSu k (σ.pu.su k ++ [j])) rest news' → Q .none { s with heap := h' }) :
    wpAny (model PG w) A (call (.builtin "list.append") [.ref (σ.sa k), .int (j : Nat) t]) Q E s := by
  refine ob_eea (S.suc k hk) ?_
  intro vs n hv q
  exact append_led F (News.focus N q) off_ne (by rw [hv.length]; exact hz) fun h' F' N' => h h' _ F' N' (So.upd_su S h0 hk (hv.snoc j t) (.head _) fun p hp hne => .tail _ (mem_off hp hne))
theorem so_rapp {l : List Nat} {x : Addr} {j : Nat} {t : Tok} {Q : Value → Shared → Prop} (F : Fr h₀ L s.heap m) (N : News h₀ L s.heap news) (S : So w σ rest news) (hl : σ.pu.rd = some l) (hz : l.length ≤ 1000) (hx : σ.r = x)
    (h : ∀ h' news', Fr h₀ L h' m → News h₀ L h' news' → So w (σ.setRd (l ++ [j])) rest news' → Q .none { s with heap := h' }) :
    wpAny (model PG w) A (call (.builtin "list.append") [.ref x, .int (j : Nat) t]) Q E s := by
  subst hx
  refine ob_eea (S.rdy l hl) ?_
  intro vs n hv q
  exact append_led F (News.focus N q) off_ne (by rw [hv.length]; exact hz) fun h' F' N' => h h' _ F' N' (So.upd_rd S hl (hv.snoc j t) (.head _) fun p hp hne => .tail _ (mem_off hp hne))
end
theorem c_getn (w : World) (σ : Srt) (rest : Led) (k : Nat) (t : Tok) :
    Ctr 114 w [.ref σ.x, .int (k : Nat) t] (fun news => So w σ rest news ∧ σ.pu.ord.length ≤ 100) (fun news v news' => ∃ σ', So w σ' rest news' ∧ v = .ref (σ'.ia k) ∧ σ'.pu = σ.pu.add k ∧ σ'.x = σ.x) := by
  unfold Ctr
  k_fill
  intro p loose mean mg mb dp un gd cn cs a ccd cl outer A₀ base h₀ L m news s Q E B F KX N T hk hpre hd9 hu9 hret
  obtain ⟨S, hlen⟩ := hpre
  have p1 := S.inst
  refine ob_eeeeee (S.dict) ?_
  intro t1 t2 t3 t4 t5 t6 p2
  refine ob_ea (S.n2i) ?_
  intro o p3 hdo
  have hlo := S.lo
  by_cases hk' : k ∈ σ.pu.ord
  · k_with_none
    k_with "call builtin:dict.get" => refine kdg_yes (by assumption) p3 hdo hlo (intKind_is _ _ _ _) (So.key hk') ?_
    k_with "getMethod ref" => refine kdg_method (by assumption) p3 hdo ?_
    refine wpAny_call ?_
    k_dflt cell_enter
    k_steps
    exact hret _ _ _ _ (by assumption) (by assumption) ⟨σ, S, rfl, by unfold Pu.add; rw [if_pos hk'], rfl⟩ (by exact kept (by assumption) (by assumption))
  · k_with_none
    k_with "call builtin:dict.get" => refine kdg_no (by assumption) p3 hdo hlo (intKind_is _ _ _ _) (So.nokey hk') ?_
    k_with "getMethod ref" => refine kdg_method (by assumption) p3 hdo ?_
    k_with "setItem ref int" => (refine set_at (by assumption) (by assumption) (List.Mem.tail _ (List.Mem.tail _ (List.Mem.tail _ p3))) hdo (intKind_is _ _ _ _) (by simpa using by omega) ?_; intro h8 o8 F8 N8 hd8)
    refine wpAny_call ?_
    k_dflt cell_enter
    k_steps
    rename _ ∧ _ ∧ AllLt _ _ => q3
    rename ∀ p ∈ news, p.1 < _ => q4
    refine hret _ _ _ _ (by assumption) (by assumption) ⟨_, So.new_node S hk' ?_ ?_ ?_ ?_ ?_ ?_ (.tail _ (mem_off (.tail _ (.head _)) ?_)) (.tail _ (mem_off (.tail _ (.tail _ (.head _))) ?_)) (.tail _ (mem_off (.head _) ?_)) (.head _) hd8 ?_, ?_, rfl, rfl⟩ (by exact keptN (by assumption) (by assumption) (by assumption) fun _ h => h)
    · exact all_ne_lt q4 (by omega)
    · exact all_ne_lt q4 (by omega)
    · exact all_ne_lt q4 (by omega)
    · refine neN ?_; omega
    · refine neN ?_; omega
    · refine neN ?_; omega
    · exact Ne.symm (all_ne_lt q4 (by omega) _ p3)
    · exact Ne.symm (all_ne_lt q4 (by omega) _ p3)
    · exact Ne.symm (all_ne_lt q4 (by omega) _ p3)
    · intro p hp hne
      exact .tail _ (mem_off (.tail _ (.tail _ (.tail _ hp))) hne)
    · show Value.ref _ = Value.ref (if k = k then _ else _)
      rw [if_pos rfl]
end Mine
end
section
open PySem PySem.W PyProof.Rows PySem.Spec PySem.Calls
set_option Elab.async false
set_option maxRecDepth 100000
set_option maxHeartbeats 4000000
set_option linter.unusedVariables false
namespace Mine
theorem calm_S2 : True := by
  w_top off
  k_with_none
  trivial

local macro_rules | `(tactic| walk_at "call ref") => `(tactic| ((with_reducible show wpAny _ _ (call (Value.ref 114) _) _ _ _); refine held ?_))
noncomputable def Pu.inc (pu : Pu) (k n : Nat) : Pu := { pu with np := fun i => if i = k then pu.np k + n else pu.np i }
noncomputable def Pu.app (pu : Pu) (j k : Nat) : Pu := { pu with su := fun i => if i = j then pu.su j ++ [k] else pu.su i }
noncomputable def Pu.link (pu : Pu) (k j : Nat) : Pu := (pu.add j).app j k
theorem d_getn (w : World) (σ : Srt) (rest : Led) (k : Nat) (t : Tok) (x : Addr) (hx : σ.x = x) :
    Ctr0 20 114 w [.ref x, .int (k : Nat) t] (fun news => So w σ rest news ∧ σ.pu.ord.length ≤ 100) (fun news v news' => ∃ σ', So w σ' rest news' ∧ v = .ref (σ'.ia k) ∧ σ'.pu = σ.pu.add k ∧ σ'.x = x) := by
  subst hx
  exact Ctr.to0 (by decide) (c_getn w σ rest k t)
theorem Pu.mem_add (p : Pu) (k : Nat) : k ∈ (p.add k).ord := by
  unfold Pu.add
  by_cases h : k ∈ p.ord
  · rw [if_pos h]; exact h
  · rw [if_neg h]; exact List.mem_append_right _ (.head _)
theorem Pu.add_ord (p : Pu) (k : Nat) : (p.add k).ord.length ≤ p.ord.length + 1 := by
  unfold Pu.add
  split
  · omega
  · simp
theorem link_ord (k : Nat) : ∀ (l : List Nat) (p : Pu), (l.foldl (fun p j => p.link k j) p).ord.length ≤ p.ord.length + l.length
  | [], p => by simp
  | j :: l, p => by
    have h1 := link_ord k l (p.link k j)
    have h2 := Pu.add_ord p j
    have h3 : (p.link k j).ord = (p.add j).ord := rfl
    simp only [List.foldl_cons, List.length_cons]
    rw [h3] at h1
    omega
theorem Pu.add_rd (p : Pu) (k : Nat) : (p.add k).rd = p.rd := by
  unfold Pu.add
  split <;> rfl
theorem link_rd (k : Nat) : ∀ (l : List Nat) (p : Pu), (l.foldl (fun p j => p.link k j) p).rd = p.rd
  | [], p => rfl
  | j :: l, p => (link_rd k l (p.link k j)).trans (Pu.add_rd p j)
theorem Pu.add_su (p : Pu) (k i : Nat) : ((p.add k).su i).length ≤ (p.su i).length := by
  unfold Pu.add
  split
  · omega
  · dsimp only; split <;> simp
theorem link_su (k : Nat) : ∀ (l : List Nat) (p : Pu) (i : Nat), ((l.foldl (fun p j => p.link k j) p).su i).length ≤ (p.su i).length + l.length
  | [], p, i => by simp
  | j :: l, p, i => by
    have h1 := link_su k l (p.link k j) i
    have h2 : ((p.link k j).su i).length ≤ (p.su i).length + 1 := by
      have a := Pu.add_su p j i
      have b := Pu.add_su p j j
      show (if i = j then (p.add j).su j ++ [k] else (p.add j).su i).length ≤ _
      split
      · subst i; simp; omega
      · omega
    simp only [List.foldl_cons, List.length_cons]
    omega
theorem c_add (w : World) (σ : Srt) (rest : Led) (k : Nat) (t : Tok) (vs : List Value) (l : List Nat) (hv : IV vs l) (hl : l.length ≤ 1) :
    Ctr0C 30 121 w (.ref σ.x :: .int (k : Nat) t :: vs) (fun news => So w σ rest news ∧ σ.pu.ord.length ≤ 90 ∧ (∀ i, (σ.pu.su i).length ≤ 900) ∧ σ.pu.rd = none) (fun news v news' => v = .none ∧ ∃ σ', So w σ' rest news' ∧ σ'.pu = l.foldl (fun p j => p.link k j) ((σ.pu.add k).inc k l.length) ∧ σ'.x = σ.x) := by
  unfold Ctr0C
  k_fill
  intro p loose mean mg mb dp un gd cn cs a ccd cl outer A₀ base h₀ L m news s Q E B F KX N T hk hpre hd9 hu9 hret
  refine ob_aaa (hpre) ?_
  clear hpre
  intro S hlen hsu hrd
  have p1 := S.inst
  refine ob_eeeeee (S.dict) ?_
  intro t1 t2 t3 t4 t5 t6 p2
  have e0 : rdV σ = .none := by unfold rdV; rw [hrd]
  rw [e0] at p2
  k_with_none
  k_with "setAttr ref int" => (refine so_np (by assumption) (by assumption) (by assumption) (by assumption) (by assumption) ?_; intro h8 news8 F8 N8 S8)
  k_with "call builtin:list.append cons nil" => (refine so_app (by assumption) (by assumption) (by assumption) (by assumption) (by assumption) (by assumption) ?_; intro h9 news9 F9 N9 S9)
  k_with "call builtin:len cons nil" => refine len_tup (by assumption) (by assumption) hv.length (by omega) ?_
  k_with "exec For Name Name cons nil" => refine held ?_
  k_dflt (refine' kp_rest (vs := vs) (g₁ := fun D => some [(Str.ofString "self", .ref σ.x), (Str.ofString "node", .int (k : Nat) t), (Str.ofString "predecessors", .ref D)]) (binds := fun D => [(Str.ofString "self", .ref σ.x), (Str.ofString "node", .int (k : Nat) t), (Str.ofString "predecessors", .ref D)]) ?k1 ?k2 ?k3 ?k4 ?k5 ?kA ?kF ?kK ?k6 ?k7 ?k8 ?kV ?kP ?kG ?kB ?_ ?c2 ?c3 ?c4 ?c5; (case kA => exact rfl); (case kF => exact rfl); (case kK => assumption); (case k1 => k_asm); (case k2 => k_asm); (case k3 => k_asm); (case k4 => k_asm); (case k5 => k_asm); (case k6 => k_is); (case k7 => k_is); (case k8 => k_room); (case kV => exact rfl); (case kP => (rcases hv with _ | ⟨j, tj, _ | ⟨j2, t2, r⟩⟩; exact rfl; exact rfl; (simp at hl; done))); (case kG => exact fun _ => rfl); (case kB => exact fun _ => locs rfl); (case c5 => decide); (case c2 => exact rfl); (case c3 => exact rfl); (case c4 => exact rfl); k_whole; intro D' g' L' h' l1 FG' F' N' B' X' T'; (try k_lt l1); (try dsimp only); (try k_lift B'); (try k_fold))
  k_steps
  show wpAny _ _ _ _ _ _
  refine Ctr0.use (d_getn w σ ((D', tupO vs 0) :: rest) k t _ rfl) (by assumption) (by assumption) (by assumption) (by assumption) (by assumption) rfl ⟨?_, by omega⟩ (by k_room) (by k_units) ?_
  · refine S.push (.head _) (fun p hp => Nat.ne_of_lt (l1 p hp)) fun p hp => .tail _ hp
  intro v news1 h1 tk1 F1 N1 hZ
  refine ob_eaaa hZ ?_
  clear hZ
  intro σ1 S1 er1 e1 x1
  subst er1
  have hk1 : k ∈ σ1.pu.ord := by rw [e1]; exact Pu.mem_add _ _
  refine ob_ee (S1.cell k hk1) ?_
  intro u1 u2 q1
  have q2 := S1.dic k hk1
  have q3 := (S1.rest _ (.head _)).1
  k_steps
  show wpAny _ _ _ _ _ _
  refine for_inv (by assumption) ?_
  k_steps
  have ht := (S8.rest _ (.head _)).1
  refine at_tup (fun i m' nx => ∃ σ2, So w σ2 ((D', tupO vs 0) :: rest) nx ∧ σ2.pu = (l.take i).foldl (fun p j => p.link k j) ((σ.pu.add k).inc k l.length) ∧ σ2.x = σ.x ∧ At m' [("self", .ref σ.x), ("node", .int (k : Nat) t)]) rfl F8 N8 ⟨_, (N8 _ ht).1, rfl, _, rfl⟩ ?_ ?_ ?_
  · refine ⟨_, S8, ?_, x1, by (with_unfolding_all rfl), by (with_unfolding_all rfl), trivial⟩
    simp only [Srt.setNp, e1, List.take_zero, List.foldl_nil, Pu.inc]
  · intro i v m1 nx h1 tk1 fp wr own hx hZ  hown hfar F2 N2
    refine ob_eaaa hZ ?_
    clear hZ
    intro σ2 S2 e2 x2 hA
    replace F2 := hA.fr F2
    rw [List.getElem?_toArray] at hx
    refine ob_eea (hv.item hx) ?_
    intro j tj hj er2
    subst er2
    clear F8 N8 S8 hret
    have S3 := So.own S2 hown fun p hp => (hfar p hp).symm.imp (fun h => h.1) fun h => by rw [h]; exact (S2.rest _ (.head _)).2
    have r1 := S3.inst
    refine ob_eeeeee (S3.dict) ?_
    intro w1 w2 w3 w4 w5 w6 r2
    rw [x2] at r1
    clear p1 p2 e0 q1 q2 q3 ht hk1
    k_steps
    show wpAny _ _ _ _ _ _
    refine Ctr0.use (d_getn w σ2 (own ++ (D', tupO vs 0) :: rest) j tj _ x2) (by assumption) (by assumption) (by assumption) (by assumption) (by assumption) rfl ⟨S3, ?_⟩ (by k_room) (by k_units) ?_
    · rw [e2]
      exact Nat.le_trans (link_ord _ _ _) (by rw [show ((σ.pu.add k).inc k l.length).ord = (σ.pu.add k).ord from rfl]; have := Pu.add_ord σ.pu k; have := List.length_take_le' i l; omega)
    intro v4 news4 h4 tk4 F4 N4 hZ
    refine ob_eaaa hZ ?_
    clear hZ
    intro σ4 S4 er3 e4 x4
    subst er3
    have hk4 : j ∈ σ4.pu.ord := by rw [e4]; exact Pu.mem_add _ _
    refine ob_ee (S4.cell j hk4) ?_
    intro u1 u2 q1
    have q2 := S4.dic j hk4
    refine ob_eea (S4.suc j hk4) ?_
    intro vs4 n4 hv4 q3
    have hlen4 : (σ4.pu.su j).length ≤ 1000 := by
      rw [e4, e2]
      have a1 := Pu.add_su (List.foldl (fun p j => p.link k j) ((σ.pu.add k).inc k l.length) (List.take i l)) j j
      have a2 := link_su k (List.take i l) ((σ.pu.add k).inc k l.length) j
      have a3 := Pu.add_su σ.pu k j
      have a4 := hsu j
      have a5 := List.length_take_le' i l
      rw [show ((σ.pu.add k).inc k l.length).su j = (σ.pu.add k).su j from rfl] at a2
      omega
    have hrd4 : σ4.pu.rd = none := by rw [e4, Pu.add_rd, e2, link_rd]; exact (Pu.add_rd _ _).trans hrd
    clear r1 r2 F2 N2
    k_steps
    have hend : σ4.setSu j (σ4.pu.su j ++ [k]) = { σ4 with pu := σ2.pu.link k j } := by
      unfold Srt.setSu Pu.link Pu.app
      rw [e4]
    refine FStep.next (cutL wr news9) (by assumption) (by assumption) (So.led S9) (fun p hp => (mem_cut.mp hp).2) ⟨_, So.cut S9 (So.wr_rd S9 hown hrd4) fun p hp => hown.1 _ (S2.rest p hp).1, ?_, x4, by (with_unfolding_all rfl), by (with_unfolding_all rfl), trivial⟩
    rw [hend, List.take_add_one, hj, List.foldl_append, e2]
    rfl
  · intro h5 tk5 m5 nx F5 N5 hZ  _
    refine ob_eaaa hZ ?_
    clear hZ
    intro σ2 S2 e2 x2 hA
    replace F5 := hA.fr F5
    clear F8 N8 S8
    k_steps
    refine hret _ _ _ _ (by assumption) (by assumption) ⟨rfl, σ2, S2.drop (fun p hp => .tail _ hp), ?_, x2⟩
    rw [e2, List.take_of_length_le]
    simp [hv.length]
end Mine
end
section
open PySem PySem.W PyProof.Rows PySem.Spec PySem.Calls
set_option Elab.async false
set_option maxRecDepth 100000
set_option maxHeartbeats 4000000
set_option linter.unusedVariables false
namespace Mine
theorem calm_S3 : True := by
  w_top off
  k_with_none
  trivial

section
variable {prog : Program} {w : World} {A : Around} {E : Value → Shared → Prop} {s : Shared}
theorem bool_of_list (l : Addr) (items : Array Value) (hfit : (items.size : Int) < 2 ^ 63) :
    Meets (Builtin.«bool.__new__» ⟨[.type "bool", .ref l], []⟩) (fun _ R s => s.heap.IsList l items ∧ R (.ok (.ret (.bool (!items.isEmpty)))) { s with toks := s.toks + 1 + 1 }) :=
  .of_wp fun prog w A R s h => by
    obtain ⟨hl, h⟩ := h
    obtain ⟨hp, g, d, tk, os⟩ := s
    have f1 := F.conv_sub_bool
    repeat (any_goals (first | assumption | (with_reducible refine wpAny_truthy_list hl hfit ?_) | wp_step))
    all_goals first | exact ⟨_, rfl, h⟩ | skip
theorem call_bool_list {l : Addr} {vs : List Value} {n : Nat} {h₀ : Heap} {L : Addr} {news : Led} {Q : Value → Shared → Prop} (N : News h₀ L s.heap news) (hm : (l, lstO vs n) ∈ news) (hz : vs.length ≤ 1000)
    (h : Q (.bool (!vs.isEmpty)) { s with toks := s.toks + 1 + 1 }) : wpAny (model prog w) A (call (.type "bool") [.ref l]) Q E s := by
  have e : vs.toArray.isEmpty = vs.isEmpty := by cases vs <;> rfl
  exact call_bool_1 (bool_of_list l vs.toArray (by rw [List.size_toArray]; omega)) ⟨News.lst N hm, by rw [e]; exact ⟨rfl, h⟩⟩
end
section
variable {w : World} {A : Around} {E : Value → Shared → Prop} {s : Shared} {h₀ : Heap} {L x dx d : Addr} {m : Str → Option Value} {news : Led} {v1 v2 v3 v : Value} {t1 t2 t3 t4 : Tok} {Q : Unit → Shared → Prop}
theorem st_po (F : Fr h₀ L s.heap m) (X₀ : (h0.heap_1 w.params).In h₀) (N : News h₀ L s.heap news) (h1 : (x, instObj 171 dx) ∈ news) (h2 : (dx, soDict w t1 t2 t3 t4 d v1 v2 v3) ∈ news)
    (h : ∀ h', Fr h₀ L h' m → News h₀ L h' ((dx, soDict w t1 t2 t3 t4 d v1 v v3) :: off dx news) → Q () { s with heap := h', toks := s.toks + 2 }) :
    wpAny (model PySem.Challenge.rw_oy0305_01.row.prog w) A (setAttr (.ref x) (Str.ofString "_npassedout") v) Q E s := by
  revert X₀
  k_fill
  intro X₀
  refine' set_dict F X₀ (News.focus N h2) (InstAt.of_news N h1 h2) rfl ?k6 ?k7 ?k8 ?k9 ?k10 ?k11 (Upd.head off_ne) ?k13 h
  case k6 => k_is
  case k7 => k_is
  case k8 => k_is
  case k9 => k_is
  case k10 => k_get
  case k11 => k_put
  case k13 => exact Nat.le_of_ble_eq_true rfl
theorem st_nf (F : Fr h₀ L s.heap m) (X₀ : (h0.heap_1 w.params).In h₀) (N : News h₀ L s.heap news) (h1 : (x, instObj 171 dx) ∈ news) (h2 : (dx, soDict w t1 t2 t3 t4 d v1 v2 v3) ∈ news)
    (h : ∀ h', Fr h₀ L h' m → News h₀ L h' ((dx, soDict w t1 t2 t3 t4 d v1 v2 v) :: off dx news) → Q () { s with heap := h', toks := s.toks + 2 }) :
    wpAny (model PySem.Challenge.rw_oy0305_01.row.prog w) A (setAttr (.ref x) (Str.ofString "_nfinished") v) Q E s := by
  revert X₀
  k_fill
  intro X₀
  refine' set_dict F X₀ (News.focus N h2) (InstAt.of_news N h1 h2) rfl ?k6 ?k7 ?k8 ?k9 ?k10 ?k11 (Upd.head off_ne) ?k13 h
  case k6 => k_is
  case k7 => k_is
  case k8 => k_is
  case k9 => k_is
  case k10 => k_get
  case k11 => k_put
  case k13 => exact Nat.le_of_ble_eq_true rfl
theorem st_rd (F : Fr h₀ L s.heap m) (X₀ : (h0.heap_1 w.params).In h₀) (N : News h₀ L s.heap news) (h1 : (x, instObj 171 dx) ∈ news) (h2 : (dx, soDict w t1 t2 t3 t4 d v1 v2 v3) ∈ news)
    (h : ∀ h', Fr h₀ L h' m → News h₀ L h' ((dx, soDict w t1 t2 t3 t4 d v v2 v3) :: off dx news) → Q () { s with heap := h', toks := s.toks + 2 }) :
    wpAny (model PySem.Challenge.rw_oy0305_01.row.prog w) A (setAttr (.ref x) (Str.ofString "_ready_nodes") v) Q E s := by
  revert X₀
  k_fill
  intro X₀
  refine' set_dict F X₀ (News.focus N h2) (InstAt.of_news N h1 h2) rfl ?k6 ?k7 ?k8 ?k9 ?k10 ?k11 (Upd.head off_ne) ?k13 h
  case k6 => k_is
  case k7 => k_is
  case k8 => k_is
  case k9 => k_is
  case k10 => k_get
  case k11 => k_put
  case k13 => exact Nat.le_of_ble_eq_true rfl
end
section
variable {w : World} {A : Around} {E : Value → Shared → Prop} {s : Shared} {h₀ : Heap} {L : Addr} {m : Str → Option Value} {rest news : Led} {σ : Srt} {k : Nat}
theorem so_po {z : Int} {n : Nat} {t : Tok} {x : Addr} {Q : Unit → Shared → Prop} (F : Fr h₀ L s.heap m) (X₀ : (h0.heap_1 w.params).In h₀) (N : News h₀ L s.heap news) (S : So w σ rest news) (hz : z = (n : Nat)) (hx : σ.x = x)
    (h : ∀ h' news', Fr h₀ L h' m → News h₀ L h' news' → So w (σ.setPo n) rest news' → Q () { s with heap := h', toks := s.toks + 2 }) :
    wpAny (model PG w) A (setAttr (.ref x) (Str.ofString "_npassedout") (.int z t)) Q E s := by
  subst hx
  refine ob_eeeeee (S.dict) ?_
  intro t1 t2 t3 t4 t5 t6 q
  subst hz
  exact st_po F X₀ N S.inst q fun h' F' N' => h h' _ F' N' (So.upd_dx (pu := { σ.pu with po := n }) S rfl rfl rfl rfl (.head _) fun p hp hne => .tail _ (mem_off hp hne))
theorem so_nf {z : Int} {n : Nat} {t : Tok} {x : Addr} {Q : Unit → Shared → Prop} (F : Fr h₀ L s.heap m) (X₀ : (h0.heap_1 w.params).In h₀) (N : News h₀ L s.heap news) (S : So w σ rest news) (hz : z = (n : Nat)) (hx : σ.x = x)
    (h : ∀ h' news', Fr h₀ L h' m → News h₀ L h' news' → So w (σ.setNf n) rest news' → Q () { s with heap := h', toks := s.toks + 2 }) :
    wpAny (model PG w) A (setAttr (.ref x) (Str.ofString "_nfinished") (.int z t)) Q E s := by
  subst hx
  refine ob_eeeeee (S.dict) ?_
  intro t1 t2 t3 t4 t5 t6 q
  subst hz
  exact st_nf F X₀ N S.inst q fun h' F' N' => h h' _ F' N' (So.upd_dx (pu := { σ.pu with nf := n }) S rfl rfl rfl rfl (.head _) fun p hp hne => .tail _ (mem_off hp hne))
theorem so_clear {l : List Nat} {x : Addr} {Q : Value → Shared → Prop} (F : Fr h₀ L s.heap m) (N : News h₀ L s.heap news) (S : So w σ rest news) (hl : σ.pu.rd = some l) (hne : l ≠ []) (hz : l.length ≤ 1000) (hx : σ.r = x)
    (h : ∀ h' news', Fr h₀ L h' m → News h₀ L h' news' → So w (σ.setRd []) rest news' → Q .none { s with heap := h' }) :
    wpAny (model PG w) A (call (.builtin "list.clear") [.ref x]) Q E s := by
  subst hx
  refine ob_eea (S.rdy l hl) ?_
  intro vs n hv q
  have hvl := hv.length
  have : l.length ≠ 0 := fun e => hne (List.length_eq_zero_iff.mp e)
  refine kl_clear (its := vs.toArray) (n := n) F (News.focus N q) (Upd.head off_ne) (by simpa using fun e => this (by rw [← hvl, e]; rfl)) (by rw [sizeLine_eq]; simp; omega) fun h' F' N' => h h' _ F' N' (So.upd_rd S hl .nil (.head _) fun p hp hne => .tail _ (mem_off hp hne))
end
theorem c_active (w : World) (σ : Srt) (rest : Led) (l : List Nat) (hl : σ.pu.rd = some l) (hz : l.length ≤ 1000) :
    Ctr0 20 140 w [.ref σ.x] (fun news => So w σ rest news) (fun news v news' => v = .bool (decide (σ.pu.nf < σ.pu.po) || !l.isEmpty) ∧ So w σ rest news') := by
  unfold Ctr0
  k_fill
  intro p loose mean mg mb dp un gd cn cs a ccd cl outer A₀ base h₀ L m news s Q E B F KX N T hk S hd9 hu9 hret
  have p1 := S.inst
  refine ob_eeeeee (S.dict) ?_
  intro t1 t2 t3 t4 t5 t6 p2
  refine ob_eea (S.rdy l hl) ?_
  intro vs n hv p3
  have e0 : rdV σ = .ref σ.r := by unfold rdV; rw [hl]
  rw [e0] at p2
  k_with_none
  k_with "call type:bool cons nil" => refine call_bool_list (by assumption) (by assumption) (by rw [hv.length]; exact hz) ?_
  refine wpAny_call ?_
  k_dflt cell_enter
  k_steps
  all_goals refine hret _ _ _ _ (by assumption) (by assumption) ⟨?_, S⟩
  · rename (_ : Int) < _ => h1
    rw [decide_eq_true h1, decide_eq_true (show σ.pu.nf < σ.pu.po by omega)]; rfl
  · rename ¬ (_ : Int) < _ => h1
    rw [decide_eq_false (show ¬ σ.pu.nf < σ.pu.po by omega), Bool.false_or]
    cases hv <;> rfl
theorem c_ready (w : World) (σ : Srt) (rest : Led) (l : List Nat) (hl : σ.pu.rd = some l) (hz : l.length ≤ 1000) (hne : l ≠ []) (hin : ∀ j ∈ l, j ∈ σ.pu.ord) :
    Ctr0 20 133 w [.ref σ.x] (fun news => So w σ rest news) (fun news v news' => ∃ b vs n, v = .ref b ∧ IV vs l ∧ So w { σ with pu := { σ.pu with np := fun j => if j ∈ l then -1 else σ.pu.np j, rd := some [], po := σ.pu.po + l.length } } ((b, tupO vs n) :: rest) news') := by
  unfold Ctr0
  k_fill
  intro p loose mean mg mb dp un gd cn cs a ccd cl outer A₀ base h₀ L m news s Q E B F KX N T hk S hd9 hu9 hret
  have p1 := S.inst
  refine ob_eeeeee (S.dict) ?_
  intro t1 t2 t3 t4 t5 t6 p2
  refine ob_eea (S.rdy l hl) ?_
  intro vs n hv p3
  have e0 : rdV σ = .ref σ.r := by unfold rdV; rw [hl]
  rw [e0] at p2
  k_with_none
  k_with "exec For Name Name cons nil" => refine held ?_
  k_with "call type:tuple cons nil" => (refine kde_tupleOf (by assumption) (by assumption) (News.lst (by assumption) (by assumption)) (by rw [List.size_toArray, hv.length]; omega) (List.toList_toArray) ?_; intro D8 h8 F8 N8 l8)
  k_with "setAttr ref int" => (refine so_np (by assumption) (by assumption) (by assumption) (by assumption) (by assumption) ?_; intro h9 news9 F9 N9 S9)
  k_with "call builtin:len cons nil" => refine len_tup (by assumption) (by assumption) hv.length (by omega) ?_

  refine wpAny_call ?_
  k_dflt cell_enter
  k_steps
  have S1 : So w σ ((D8, tupO vs 0) :: rest) ((D8, tupO vs 0) :: news) := S.push (.head _) (fun p hp => Nat.ne_of_lt (l8 p hp)) fun p hp => .tail _ hp
  with_reducible rename Fr _ _ _ _ => F8
  with_reducible rename News _ _ _ _ => N8
  show wpAny _ _ _ _ _ _
  refine for_inv (by assumption) ?_
  k_steps
  refine at_tup (fun i m' nx => So w { σ with pu := { σ.pu with np := fun j => if j ∈ l.take i then -1 else σ.pu.np j } } ((D8, tupO vs 0) :: rest) nx ∧ At m' [("self", .ref σ.x), ("result", .ref D8), ("n2i", .ref σ.d)]) rfl F8 N8 ⟨_, (N8 _ (.head _)).1, rfl, _, rfl⟩ ?_ ?_ ?_
  · refine ⟨?_, by (with_unfolding_all rfl), by (with_unfolding_all rfl), by (with_unfolding_all rfl), trivial⟩
    simpa using S1
  · rintro i v m1 nx h1 tk1 fp wr own hx ⟨S2, hA⟩ hown hfar F2 N2
    replace F2 := hA.fr F2
    rw [List.getElem?_toArray] at hx
    refine ob_eea (hv.item hx) ?_
    intro j tj hj er1
    subst er1
    clear F8 N8 hret
    have S3 := So.own S2 hown fun p hp => (hfar p hp).symm.imp (fun h => h.1) fun h => by rw [h]; exact (S2.rest _ (.head _)).2
    have hjo : j ∈ σ.pu.ord := hin j (List.mem_of_getElem? hj)
    refine ob_ea (S3.n2i) ?_
    intro o3 r1 r2
    k_with "subscriptTail Name Name ref int" => refine kda_item (by assumption) r1 r2 (intKind_is _ _ _ _) (So.key hjo) ?_
    clear p1 p2 e0 p3
    k_steps
    refine FStep.next (cutL wr news9) (by assumption) (by assumption) (So.led S9) (fun p hp => (mem_cut.mp hp).2) ⟨?_, by (with_unfolding_all rfl), by (with_unfolding_all rfl), by (with_unfolding_all rfl), trivial⟩
    refine cast (congrArg (fun f => So w { σ with pu := { σ.pu with np := f } } ((D8, tupO vs 0) :: rest) (cutL wr news9)) ?_) (So.cut S9 (by have hw := So.wr_none S2 hown; exact hw) fun p hp => hown.1 _ (S2.rest p hp).1)
    funext i'
    rw [List.take_add_one, hj]
    by_cases e : i' = j
    · subst e; simp
    · simp [e]
  · rintro h1 tk1 m1 nx F2 N2 ⟨S2, hA⟩ _
    replace F2 := hA.fr F2
    rw [List.take_of_length_le (by simp [hv.length])] at S2
    clear F8 N8 S1 p1 p2 p3
    have q1 : (σ.x, instObj 171 σ.dx) ∈ nx := S2.inst
    refine ob_eeeeee (S2.dict) ?_
    intro w1 w2 w3 w4 w5 w6 q2
    replace q2 : (σ.dx, soDict w w1 w2 w3 w4 σ.d (rdV σ) (.int (σ.pu.po : Nat) w5) (.int (σ.pu.nf : Nat) w6)) ∈ nx := q2
    rw [e0] at q2
    refine ob_eea (S2.rdy l hl) ?_
    intro vs2 n2 hv2 q3
    replace q3 : (σ.r, lstO vs2 n2) ∈ nx := q3
    k_with "call builtin:list.clear cons nil" => (refine so_clear (by assumption) (by assumption) S2 hl hne hz rfl ?_; intro h7 news7 F7 N7 S7; refine held ?_)
    k_steps
    show wpAny _ _ _ _ _ _
    have r1 : (σ.x, instObj 171 σ.dx) ∈ news7 := S7.inst
    refine ob_eeeeee (S7.dict) ?_
    intro w1 w2 w3 w4 w5 w6 r2
    replace r2 : (σ.dx, soDict w w1 w2 w3 w4 σ.d (.ref σ.r) (.int (σ.pu.po : Nat) w5) (.int (σ.pu.nf : Nat) w6)) ∈ news7 := r2
    have r3 := (S7.rest _ (.head _)).1
    clear q1 q2 q3
    k_with "setAttr ref int" => (refine so_po (n := σ.pu.po + l.length) (by assumption) (by assumption) (by assumption) S7 (by omega) rfl ?_; intro h9 news9 F9 N9 S9)
    k_steps
    exact hret _ _ _ _ (by assumption) (by assumption) ⟨_, _, _, rfl, hv, S9⟩
end Mine
end
section
open PySem PySem.W PyProof.Rows PySem.Spec PySem.Calls
set_option Elab.async false
set_option maxRecDepth 100000
set_option maxHeartbeats 4000000
set_option linter.unusedVariables false
namespace Mine
local macro_rules | `(tactic| walk_at "none S4 0") => `(tactic| skip)
theorem calm_S4 : True := by
  w_top off
  k_with_none
  trivial

local macro_rules | `(tactic| walk_at "exec For Name Attribute cons nil") => `(tactic| refine held ?_)
noncomputable def Pu.dec (p : Pu) (s : Nat) : Pu := { p with np := fun i => if i = s then p.np s - 1 else p.np i, rd := if p.np s - 1 = 0 then p.rd.map (· ++ [s]) else p.rd }
noncomputable def Pu.out (p : Pu) (j : Nat) : Pu := { p with np := fun i => if i = j then -2 else p.np i }
noncomputable def Pu.fin (p : Pu) (j : Nat) : Pu := { (p.su j).foldl Pu.dec (p.out j) with nf := p.nf + 1 }

theorem decs_ord : ∀ (l : List Nat) (p : Pu), (l.foldl Pu.dec p).ord = p.ord
  | [], _ => rfl
  | s :: l, p => decs_ord l (p.dec s)
theorem decs_su : ∀ (l : List Nat) (p : Pu), (l.foldl Pu.dec p).su = p.su
  | [], _ => rfl
  | s :: l, p => decs_su l (p.dec s)
theorem decs_np (i : Nat) : ∀ (l : List Nat) (p : Pu), i ∉ l → (l.foldl Pu.dec p).np i = p.np i
  | [], _, _ => rfl
  | s :: l, p, h => (decs_np i l (p.dec s) fun q => h (.tail _ q)).trans (if_neg (by rintro rfl; exact h (.head _)))
theorem decs_rd : ∀ (l : List Nat) (p : Pu) (r : List Nat), p.rd = some r → ∃ r', (l.foldl Pu.dec p).rd = some r' ∧ r'.length ≤ r.length + l.length
  | [], _, r, h => ⟨r, h, by simp⟩
  | s :: l, p, r, h => by
    have : ∃ r1, (p.dec s).rd = some r1 ∧ r1.length ≤ r.length + 1 := by
      show ∃ r1, (if p.np s - 1 = 0 then p.rd.map (· ++ [s]) else p.rd) = some r1 ∧ _
      split
      · exact ⟨r ++ [s], by rw [h]; rfl, by simp⟩
      · exact ⟨r, h, by omega⟩
    refine ob_ea (this) ?_
    clear this
    intro r1 e1 h1
    refine ob_ea (decs_rd l (p.dec s) r1 e1) ?_
    intro r2 e2 h2
    exact ⟨r2, e2, by simp only [List.length_cons]; omega⟩
theorem decs_nf : ∀ (l : List Nat) (p : Pu), (l.foldl Pu.dec p).nf = p.nf
  | [], _ => rfl
  | s :: l, p => decs_nf l (p.dec s)
theorem fins_ord : ∀ (l : List Nat) (p : Pu), (l.foldl Pu.fin p).ord = p.ord
  | [], _ => rfl
  | j :: l, p => (fins_ord l (p.fin j)).trans (decs_ord _ _)
theorem fins_su : ∀ (l : List Nat) (p : Pu), (l.foldl Pu.fin p).su = p.su
  | [], _ => rfl
  | j :: l, p => (fins_su l (p.fin j)).trans (decs_su _ _)
theorem fins_np (i : Nat) : ∀ (l : List Nat) (p : Pu), i ∉ l → (∀ j ∈ l, i ∉ p.su j) → (l.foldl Pu.fin p).np i = p.np i
  | [], _, _, _ => rfl
  | j :: l, p, h, hs => by
    have e : (p.fin j).su = p.su := decs_su _ _
    refine (fins_np i l (p.fin j) (fun q => h (.tail _ q)) fun k hk => by rw [e]; exact hs k (.tail _ hk)).trans ?_
    refine (decs_np i _ _ (hs j (.head _))).trans ?_
    exact if_neg (by rintro rfl; exact h (.head _))
theorem fins_rd : ∀ (l : List Nat) (p : Pu) (r : List Nat), p.rd = some r → (∀ j ∈ l, (p.su j).length ≤ 50) → ∃ r', (l.foldl Pu.fin p).rd = some r' ∧ r'.length ≤ r.length + 50 * l.length
  | [], _, r, h, _ => ⟨r, h, by simp⟩
  | j :: l, p, r, h, hs => by
    refine ob_ea (decs_rd (p.su j) (p.out j) r h) ?_
    intro r1 e1 h1
    have e : (p.fin j).su = p.su := decs_su _ _
    obtain ⟨r2, e2, h2⟩ := fins_rd l (p.fin j) r1 e1 fun k hk => by rw [e]; exact hs k (.tail _ hk)
    have := hs j (.head _)
    exact ⟨r2, e2, by simp only [List.length_cons]; omega⟩
theorem take_get {α : Type} {l : List α} {i : Nat} {x : α} (h : l[i]? = some x) (hn : l.Nodup) : x ∉ l.take i := fun hx => by
  obtain ⟨k, hk, e⟩ := List.mem_take_iff_getElem.mp hx
  obtain ⟨hi, e2⟩ := List.getElem?_eq_some_iff.mp h
  have := (List.getElem_inj hn (i := k) (j := i) (h₀ := by omega) (h₁ := hi)).mp (e.trans e2.symm)
  omega

noncomputable abbrev dOut (w : World) (σ : Srt) (rest : Led) (vs : List Value) (l : List Nat) (D' : Addr) (x : Addr) (i : Nat) (m' : Str → Option Value) (nx : Led) : Prop := ∃ σ2, So w σ2 ((D', tupO vs 0) :: rest) nx ∧ σ2.pu = (l.take i).foldl Pu.fin σ.pu ∧ σ2.x = x ∧ σ2.role = σ.role ∧ At m' [("self", .ref x), ("nodes", .ref D'), ("n2i", .ref σ2.d)]
noncomputable abbrev dIn (w : World) (σ2 : Srt) (rest : Led) (own : Led) (vs : List Value) (j : Nat) (D' : Addr) (x : Addr) (k : Nat) (m' : Str → Option Value) (nx : Led) : Prop := ∃ σ3, So w σ3 (own ++ (D', tupO vs 0) :: rest) nx ∧ σ3.pu = ((σ2.pu.su j).take k).foldl Pu.dec (σ2.pu.out j) ∧ σ3.x = x ∧ σ3.role = σ2.role ∧ σ3.sa = σ2.sa ∧ At m' [("self", .ref x), ("nodes", .ref D'), ("n2i", .ref σ3.d)]
theorem c_done (w : World) (σ : Srt) (rest : Led) (x : Addr) (hx : σ.x = x) (vs : List Value) (l r0 : List Nat) (hv : IV vs l) (hl : l.length ≤ 6) (hrd : σ.pu.rd = some r0) (hr0 : r0.length ≤ 100)
    (h1 : ∀ j ∈ l, j ∈ σ.pu.ord ∧ σ.pu.np j = -1) (hnd : l.Nodup) (h2 : ∀ j ∈ l, (σ.pu.su j).length ≤ 50 ∧ ∀ s ∈ σ.pu.su j, s ∈ σ.pu.ord ∧ s ∉ l) :
    Ctr0C 20 154 w (.ref x :: vs) (fun news => So w σ rest news) (fun news v news' => v = .none ∧ ∃ σ', So w σ' rest news' ∧ σ'.pu = l.foldl Pu.fin σ.pu ∧ σ'.x = x ∧ σ'.role = σ.role) := by
  unfold Ctr0C
  k_fill
  intro p loose mean mg mb dp un gd cn cs a ccd cl outer A₀ base h₀ L m news s Q E B F KX N T hk S hd9 hu9 hret
  have p1 := S.inst
  refine ob_eeeeee (S.dict) ?_
  intro t1 t2 t3 t4 t5 t6 p2
  have e0 : rdV σ = .ref σ.r := by unfold rdV; rw [hrd]
  rw [e0] at p2
  rw [hx] at p1
  k_with_none
  k_with "exec For Name Name cons nil" => refine held ?_
  k_dflt (refine' kp_rest (vs := vs) (g₁ := fun D => some [(Str.ofString "self", .ref x), (Str.ofString "nodes", .ref D)]) (binds := fun D => [(Str.ofString "self", .ref x), (Str.ofString "nodes", .ref D)]) ?k1 ?k2 ?k3 ?k4 ?k5 ?kA ?kF ?kK ?k6 ?k7 ?k8 ?kV ?kP ?kG ?kB ?_ ?c2 ?c3 ?c4 ?c5; (case kA => exact rfl); (case kF => exact rfl); (case kK => assumption); (case k1 => k_asm); (case k2 => k_asm); (case k3 => k_asm); (case k4 => k_asm); (case k5 => k_asm); (case k6 => k_is); (case k7 => k_is); (case k8 => k_room); (case kV => exact rfl); (case kP => (clear hret h1 hnd h2; rcases hv with _ | ⟨j, tj, _ | ⟨j2, tj2, _ | ⟨j3, tj3, _ | ⟨j4, tj4, _ | ⟨j5, tj5, _ | ⟨j6, tj6, _ | ⟨j7, tj7, r⟩⟩⟩⟩⟩⟩⟩; exact rfl; exact rfl; exact rfl; exact rfl; exact rfl; exact rfl; exact rfl; (exfalso; simp only [List.length_cons] at hl; omega))); (case kG => exact fun _ => rfl); (case kB => exact fun _ => locs rfl); (case c5 => decide); (case c2 => exact rfl); (case c3 => exact rfl); (case c4 => exact rfl); k_whole; intro D' g' L' h' l1 FG' F' N' B' X' T'; (try k_lt l1); (try dsimp only); (try k_lift B'); (try k_fold))
  k_steps
  have S1 : So w σ ((D', tupO vs 0) :: rest) ((D', tupO vs 0) :: news) := S.push (.head _) (fun p hp => Nat.ne_of_lt (l1 p hp)) fun p hp => .tail _ hp
  with_reducible rename Fr _ _ _ _ => F8
  with_reducible rename News _ _ _ _ => N8
  show wpAny _ _ _ _ _ _
  refine for_inv (by assumption) ?_
  k_steps
  refine at_tup (dOut w σ rest vs l D' x) rfl F8 N8 ⟨_, (N8 _ (.head _)).1, rfl, _, rfl⟩ ?_ ?_ ?_
  · exact ⟨σ, S1, rfl, hx, rfl, by (with_unfolding_all rfl), by (with_unfolding_all rfl), by (with_unfolding_all rfl), trivial⟩
  · intro i v m1 nx h3 tk1 fp wr own hi hZ  hown hfar F2 N2
    refine ob_e hZ ?_
    clear hZ
    intro σ2 hq0
    refine ob_aaaa hq0 ?_
    clear hq0
    intro S2 e2 x2 ro2 hA
    replace F2 := hA.fr F2
    rw [List.getElem?_toArray] at hi
    obtain ⟨j, tj, hj, rfl⟩ := hv.item hi
    clear F8 N8 hret
    have S3 := So.own S2 hown fun p hp => (hfar p hp).symm.imp (fun h => h.1) fun h => by rw [h]; exact (S2.rest _ (.head _)).2
    have hjl : j ∈ l := List.mem_of_getElem? hj
    have es2 : σ2.pu.su = σ.pu.su := by rw [e2]; exact fins_su _ _
    have eo2 : σ2.pu.ord = σ.pu.ord := by rw [e2]; exact fins_ord _ _
    have hjo : j ∈ σ2.pu.ord := by rw [eo2]; exact (h1 j hjl).1
    have hjn : σ2.pu.np j = -1 := by
      rw [e2, fins_np j _ _ (take_get hj hnd) fun k hk q => ((h2 k (List.mem_of_mem_take hk)).2 j q).2 hjl]
      exact (h1 j hjl).2
    refine ob_ea (fins_rd (l.take i) σ.pu r0 hrd fun k hk => (h2 k (List.mem_of_mem_take hk)).1) ?_
    intro r2' er2 hr2
    rw [← e2] at er2
    have htk := List.length_take_le' i l
    refine ob_ea (S3.n2i) ?_
    intro o3 r1 r2
    refine ob_ee (S3.cell j hjo) ?_
    intro u1 u2 q1
    have q2 := S3.dic j hjo
    refine ob_eea (S3.suc j hjo) ?_
    intro us nu hus q3
    have hlo := S3.lo
    rw [hjn] at q1
    clear p1 p2 e0
    k_with "call builtin:dict.get" => refine kdg_yes (by assumption) r1 r2 hlo (intKind_is _ _ _ _) (So.key hjo) ?_
    k_with "getMethod ref" => refine kdg_method (by assumption) r1 r2 ?_
    k_with "setAttr ref int" => (refine so_np (by assumption) (by assumption) (by assumption) (by assumption) (by assumption) ?_; intro h9 news9 F9 N9 S9; refine held ?_)
    k_steps
    show wpAny _ _ _ _ _ _
    refine ob_ee (S9.cell j hjo) ?_
    intro u3 u4 q4
    have q5 := S9.dic j hjo
    refine ob_eea (S9.suc j hjo) ?_
    intro us nu hus q6
    replace q4 : (σ2.ia j, nodeO (σ2.da j) (σ2.sa j) (.int ((σ2.setNp j (-2)).pu.np j) u3) (.int (j : Nat) u4)) ∈ news9 := q4
    replace q5 : (σ2.da j, dictOf [] 0) ∈ news9 := q5
    replace q6 : (σ2.sa j, lstO us nu) ∈ news9 := q6
    clear q1 q2 q3 r1 r2 F2 N2
    k_steps
    show wpAny _ _ _ _ _ _
    refine for_inv (by assumption) ?_
    k_steps
    refine at_list (dIn w σ2 rest own vs j D' x) rfl F9 N9 (News.lst N9 q6) (N9 _ q6).2.1 ?_ ?_ ?_
    · exact ⟨_, S9, rfl, x2, rfl, rfl, by (with_unfolding_all rfl), by (with_unfolding_all rfl), by (with_unfolding_all rfl), trivial⟩
    · intro k v m4 nx4 h4 tk4 fp4 wr4 own4 hk4 hZ  hown4 hfar4 F4 N4
      refine ob_e hZ ?_
      clear hZ
      intro σ3 hq0
      refine ob_aaaaa hq0 ?_
      clear hq0
      intro S4 e3 x3 ro3 sa3 hA4
      replace F4 := hA4.fr F4
      rw [List.getElem?_toArray] at hk4
      obtain ⟨s4, ts4, hs4, rfl⟩ := hus.item hk4
      replace hs4 : (σ2.pu.su j)[k]? = some s4 := hs4
      have eo3 : σ3.pu.ord = σ2.pu.ord := by rw [e3]; exact decs_ord _ _
      have hsl : s4 ∈ σ2.pu.su j := List.mem_of_getElem? hs4
      have hso : s4 ∈ σ3.pu.ord := by rw [eo3, eo2]; rw [es2] at hsl; exact ((h2 j hjl).2 s4 hsl).1
      refine ob_ea (decs_rd ((σ2.pu.su j).take k) (σ2.pu.out j) r2' er2) ?_
      intro r3 er3 hr3
      rw [← e3] at er3
      have hsj : j ∈ σ3.pu.ord := by rw [eo3]; exact hjo
      have S5 := So.own S4 hown4 fun p hp => (hfar4 p hp).symm.imp (fun h => h.1) fun h => .inr ⟨by rw [er3]; exact Option.some_ne_none _, j, by rw [h, ← sa3]; exact S4.rsa j hsj⟩
      refine ob_ea (S5.n2i) ?_
      intro o4 r1 r2
      refine ob_ee (S5.cell s4 hso) ?_
      intro z1 z2 y1
      have y2 := S5.dic s4 hso
      clear F9 N9 q4 q5 q6
      k_with "subscriptTail Name Name ref int" => refine kda_item (by assumption) r1 r2 (intKind_is _ _ _ _) (So.key hso) ?_
      k_steps
      show wpAny _ _ _ _ _ _
      refine ob_ee (S9.cell s4 hso) ?_
      intro z3 z4 y3
      replace y3 : (σ3.ia s4, nodeO (σ3.da s4) (σ3.sa s4) (.int (σ3.pu.np s4 - 1) z3) (.int (s4 : Nat) z4)) ∈ news9 := by simpa [Srt.setNp] using y3
      have y4 : (σ3.da s4, dictOf [] 0) ∈ news9 := S9.dic s4 hso
      have y5 : (σ3.x, instObj 171 σ3.dx) ∈ news9 := S9.inst
      rw [x3] at y5
      refine ob_eeeeee (S9.dict) ?_
      intro t1 t2 t3 t4 t5 t6 y6
      have e9 : rdV (σ3.setNp s4 (σ3.pu.np s4 - 1)) = .ref σ3.r := by show (match σ3.pu.rd with | none => Value.none | some _ => .ref σ3.r) = _; rw [er3]
      rw [e9] at y6
      replace y6 : (σ3.dx, soDict w t1 t2 t3 t4 σ3.d (.ref σ3.r) (.int (σ3.pu.po : Nat) t5) (.int (σ3.pu.nf : Nat) t6)) ∈ news9 := y6
      refine ob_eea (S9.rdy r3 er3) ?_
      intro rv rn hrv y7
      replace y7 : (σ3.r, lstO rv rn) ∈ news9 := y7
      have hw4 := So.wr_none S4 hown4
      have hr4 : ∀ p ∈ own ++ (D', tupO vs 0) :: rest, p.1 ∉ wr4 := fun p hp => hown4.1 p (S4.rest p hp).1
      have hfold : ((σ2.pu.su j).take (k + 1)).foldl Pu.dec (σ2.pu.out j) = σ3.pu.dec s4 := by
        rw [List.take_add_one, hs4, List.foldl_append, ← e3]; rfl
      have hrl : r3.length ≤ 1000 := by
        have h5 := List.length_take_le' k (σ2.pu.su j)
        have h6 := (h2 j hjl).1
        rw [es2] at h5 hr3
        omega
      clear y1 y2 r1 r2 F4 N4
      k_with "call builtin:list.append cons nil" => (refine so_rapp (by assumption) (by assumption) S9 er3 hrl rfl ?_; intro h10 news10 F10 N10 S10)
      k_steps
      · rename (_ : Int) = 0 => hz
        refine FStep.next (cutL wr4 news10) (by assumption) (by assumption) (So.led S10) (fun p hp => (mem_cut.mp hp).2) ⟨_, So.cut S10 (by exact hw4) hr4, ?_, x3, ro3, sa3, by (with_unfolding_all rfl), by (with_unfolding_all rfl), by (with_unfolding_all rfl), trivial⟩
        rw [hfold]
        unfold Pu.dec
        rw [if_pos hz, er3]
        rfl
      · rename ¬ (_ : Int) = 0 => hz
        refine FStep.next (cutL wr4 news9) (by assumption) (by assumption) (So.led S9) (fun p hp => (mem_cut.mp hp).2) ⟨_, So.cut S9 (by exact hw4) hr4, ?_, x3, ro3, sa3, by (with_unfolding_all rfl), by (with_unfolding_all rfl), by (with_unfolding_all rfl), trivial⟩
        rw [hfold]
        unfold Pu.dec
        rw [if_neg hz]
        rfl
    · intro h4 tk4 m4 nx4 F4 N4 hZ  _
      refine ob_e hZ ?_
      clear hZ
      intro σ3 hq0
      refine ob_aaaaa hq0 ?_
      clear hq0
      intro S4 e3 x3 ro3 sa3 hA4
      replace F4 := hA4.fr F4
      rw [List.take_of_length_le (by rw [List.size_toArray, hus.length]; exact Nat.le_refl _)] at e3
      have y5 : (σ3.x, instObj 171 σ3.dx) ∈ nx4 := S4.inst
      rw [x3] at y5
      refine ob_eeeeee (S4.dict) ?_
      intro t1 t2 t3 t4 t5 t6 y6
      have hw := So.wr_none S2 hown
      clear F9 N9 q4 q5 q6
      k_with "setAttr ref int" => (refine so_nf (n := σ3.pu.nf + 1) (by assumption) (by assumption) (by assumption) S4 (by omega) x3 ?_; intro h9 news9 F9 N9 S9)
      k_steps
      refine FStep.next (cutL wr news9) (by assumption) (by assumption) (So.led S9) (fun p hp => (mem_cut.mp hp).2) ⟨_, So.cut S9 (show ∀ b ∈ wr, σ3.role b = none by rw [ro3]; exact hw) (fun p hp => hown.1 _ (S2.rest p hp).1), ?_, x3, ro3.trans ro2, by (with_unfolding_all rfl), by (with_unfolding_all rfl), by (with_unfolding_all rfl), trivial⟩
      rw [List.take_add_one, hj, List.foldl_append, ← e2]
      show { σ3.pu with nf := σ3.pu.nf + 1 } = σ2.pu.fin j
      unfold Pu.fin
      rw [← e3, show σ3.pu.nf = σ2.pu.nf by rw [e3]; exact decs_nf _ _]
  · intro h3 tk1 m1 nx F2 N2 hZ  _
    refine ob_e hZ ?_
    clear hZ
    intro σ2 hq0
    refine ob_aaaa hq0 ?_
    clear hq0
    intro S2 e2 x2 ro2 hA
    replace F2 := hA.fr F2
    clear F8 N8
    k_steps
    refine hret _ _ _ _ (by assumption) (by assumption) ⟨rfl, σ2, S2.drop (fun p hp => .tail _ hp), ?_, x2, ro2⟩
    rw [e2, List.take_of_length_le]
    simp [hv.length]
end Mine
end
section
open PySem PySem.W PyProof.Rows PySem.Spec PySem.Calls
set_option Elab.async false
set_option maxRecDepth 100000
set_option maxHeartbeats 4000000
set_option linter.unusedVariables false
namespace Mine
noncomputable abbrev frs (l : List Env) : List Addr := l.filterMap (·.frame)

noncomputable def LeaveT (fs : List Addr) (A₀ : Around) (base : Heap) (outer : List Env) (h₀ : Heap) (L : Addr) (m : Str → Option Value) (g : Heap) (R : Result → Shared → Prop) (v : Value) (s' : Shared) : Prop :=
  ∃ g' L' m' news', KtsTurn fs g g' ∧ Fr g' L' s'.heap m' ∧ News g' L' s'.heap news' ∧
    ∀ h₀', KtsTurn (frs outer) h₀ h₀' → Fr h₀' L s'.heap m → News h₀' L s'.heap news' → Below A₀ base outer h₀' → R (.ok (.ret v)) s'

section
variable {prog : Program} {w : World} {A₀ A : Around} {s : Shared} {base h₀ : Heap} {outer : List Env} {L : Addr} {m : Str → Option Value} {env : Env} {news : Led} {K : Frag} {p : Program} {loose : List Str} {mean : ExcName → Option Value} {mg mb : Str → Option Value}
  {R : Result → Shared → Prop}

theorem turn_back {g g' h' : Heap} {L' : Addr} {m' : Str → Option Value} {news' : Led} (B : Below A₀ base outer h₀) (FG : Fr h₀ L g m) (st : h₀.StaysIn g) (hd : ∃ o es n, g.get? L = some o ∧ o.data = .dict es n) (hf : env.frame = some L)
    (T : KtsTurn (frs (env :: outer)) g g') (F' : Fr g' L' h' m') (N' : News g' L' h' news') :
    ∃ h₀', KtsTurn (frs outer) h₀ h₀' ∧ Fr h₀' L h' m ∧ News h₀' L h' news' ∧ Below A₀ base outer h₀' := by
  have nL : h₀.get? L = none := kts_self FG
  have mem : ∀ b, b ∈ frs (env :: outer) → b = L ∨ b ∈ frs outer := fun b hb => by
    refine ob_ea (List.mem_filterMap.mp hb) ?_
    intro e he q
    rcases List.mem_cons.mp he with rfl | he
    · exact .inl (Option.some.inj (q.symm.trans hf))
    · exact .inr (List.mem_filterMap.mpr ⟨e, he, q⟩)
  refine ob_eeea (hd) ?_
  clear hd
  intro oL es n hL hLd
  obtain ⟨sl, hs⟩ := T.up hL
  obtain ⟨T₁, S₁⟩ := kts_turn_at (h := h') (fs := frs outer) (g := h₀)
    (fun b hb => let ⟨_, o, ho, _⟩ := B.frames.mem hb; ⟨o, ho⟩)
    (fun b o e nm => F'.keep b o (T.other b o (st b o e) (fun q => (mem b q).elim (fun z => by rw [z, nL] at e; cases e) nm)))
    (fun b o e hm => let ⟨sl', hs'⟩ := T.up (st b o e); ⟨sl', F'.keep _ _ hs'⟩)
  have B₃ : Below A₀ base outer (ktsHeap h' (frs outer) h₀) := ⟨B.stack, fun b o e => T₁.other b o (B.stays b o e) (fun hm => by rw [(B.frames.mem hm).1] at e; cases e),
    B.frames.of_keeps fun b o e _ => let ⟨sl', hs'⟩ := T₁.up e; ⟨_, hs', rfl⟩⟩
  have ns : Heap.Ns h' L m := by
    refine ob_eee (FG.ns) ?_
    intro o es' ep hq0
    refine ob_aa hq0 ?_
    clear hq0
    intro ho hod r
    rw [hL] at ho
    cases ho
    exact ⟨_, es', ep, F'.keep _ _ hs, hod, r⟩
  refine ⟨_, T₁, ⟨ns, S₁, by rw [T₁.size]; exact FG.above⟩, fun p hp => ⟨(N' p hp).1, fun q => ?_, T₁.none_ _ ?_⟩, B₃⟩
  · have := (N' p hp).2.2; rw [q, hs] at this; cases this
  · cases q : h₀.get? p.1 with
    | none => rfl
    | some o =>
      obtain ⟨sl', hs'⟩ := T.up (st _ _ q)
      have := (N' p hp).2.2
      rw [hs'] at this
      cases this

theorem code_defT {name qual : Str} {params : Arguments} {body : List Stmt} {scope : Scope} {dV kV doc pm cdv ct oc : Value} {an od : Option Addr} {osl : Array (Option Value)} {f : Addr} {args : Args} {binds : List (Str × Value)}
    (B : Below A₀ base outer h₀) (F : Fr h₀ L s.heap m) (X₀ : K.In h₀) (N : News h₀ L s.heap news) (T : Top p loose mean mg mb h₀) (D : KtsDicts (frs outer) h₀) (hA : A.frames = some (env :: outer)) (hf : env.frame = some L) (hke : env.scope.kind = .function)
    (ho : K.lookup f = some ⟨oc, od, .func (fnOf name qual params body scope dV kV doc pm an cdv ct), osl⟩) (hcd : codeIn K cdv qual = true) (hroom : A.depth < recursionLimit)
    (hbind : BindsTo s (fnOf name qual params body scope dV kV doc pm an cdv ct) args binds) (hloc : ∀ y ∈ binds, scope.names.lookup y.1 = some .local)
    (h : ∀ g L' h₁, Fr h₀ L g m → Fr g L' h₁ (fun y => binds.reverse.lookup y) → News g L' h₁ news → Below A base (env :: outer) g → K.In g → Top p loose mean mg mb g → KtsDicts (frs (env :: outer)) g → (∀ a ∈ frs (env :: outer), a < L') →
      wpAny (model prog w) (A.deeper (envOf qual scope L' f cdv)) (execs body (envOf qual scope L' f cdv))
        (fun fl s' => LeaveT (frs (env :: outer)) A₀ base outer h₀ L m g R (match fl with | .ret v => v | _ => .none) s')
        (fun e s' => wpAny (model prog w) (A.deeper (envOf qual scope L' f cdv)) (leaving (envOf qual scope L' f cdv) e) (fun _ s'' => R (.error e) s'') (fun e' s'' => R (.error e') s'') s')
        { s with heap := h₁, toks := s.toks + binds.length })
    (hco : scope.isCoroutine = false) (hgen : scope.isGenerator = false) (hk : scope.kind = .function)
    (hcell : ∀ x ∈ scope.names, x.2 ≠ .cell) : codeAny (model prog w) A (.call (.ref f) args) R s := by
  refine ob_aaa (groundX (R := R) B F N hA hf hke) ?_
  intro FG BG st _
  have hdL : ∃ o es n, (hideAll s.heap (news.map (·.1))).get? L = some o ∧ o.data = .dict es n := by
    refine ob_eee (FG.ns) ?_
    intro o es ep hq0
    refine ob_aa hq0 ?_
    clear hq0
    intro ho' hod _
    exact ⟨o, es, ep, ho', hod⟩
  have mem : ∀ b, b ∈ frs (env :: outer) → b = L ∨ b ∈ frs outer := fun b hb => by
    refine ob_ea (List.mem_filterMap.mp hb) ?_
    intro e he q
    rcases List.mem_cons.mp he with rfl | he
    · exact .inl (Option.some.inj (q.symm.trans hf))
    · exact .inr (List.mem_filterMap.mpr ⟨e, he, q⟩)
  have DG : KtsDicts (frs (env :: outer)) (hideAll s.heap (news.map (·.1))) := fun b hb => by
    rcases mem b hb with rfl | hb
    · exact hdL
    · refine ob_eeea (D b hb) ?_
      intro o es n h1 h2
      exact ⟨o, es, n, st _ _ h1, h2⟩
  refine codeAny_call_def (fd := fnOf name qual params body scope dV kV doc pm an cdv ct) (body := body) (binds := binds) hroom ((X₀.keeps F.keep) _ _ ho) rfl (T.nolimit.keeps F.keep) (codeRec_of (X₀.keeps F.keep) hcd) rfl hbind hcell hloc (fun h₁ hns hk₁ => ?_) hco hgen hk
  refine wpAny_mono (h _ s.heap.objs.size h₁ FG ⟨hns, fun b o e => hk₁ b o (of_hideAll _ e), Nat.le_of_eq (hideAll_size _ _)⟩
    (fun p hp => ⟨hk₁ _ _ (N p hp).1, Nat.ne_of_lt (Heap.lt_size (N p hp).1), hideAll_none _ (List.mem_map_of_mem hp)⟩) BG (X₀.keeps st) (T.keeps st) DG (fun a ha => ?_)) (fun fl s' hl => ?_) fun _ _ y => y
  · refine ob_aea (BG.frames.mem ha) ?_
    intro _ o ho' _
    have := Heap.lt_size ho'
    rwa [hideAll_size] at this
  · refine ob_eeee (hl) ?_
    clear hl
    intro g' L' m' news' hq0
    refine ob_aaa hq0 ?_
    clear hq0
    intro T' F' N' k
    refine ob_eaaa (turn_back B FG st hdL hf T' F' N') ?_
    intro h₀' t1 t2 t3 t4
    exact k h₀' t1 t2 t3 t4
end
noncomputable def FrUp (fs : List Addr) (g₀ : Heap) (nx : Led) : Prop := ∀ b ∈ fs, ∀ o, g₀.get? b = some o → ∃ sl, (b, { o with slots := sl }) ∈ nx
noncomputable def frLed (fs : List Addr) (g : Heap) : Led := fs.filterMap fun b => (g.get? b).map (b, ·)
theorem hideAll_of (l : List Addr) {h : Heap} {b : Addr} {o : Obj} (e : (hideAll h l).get? b = some o) : b ∉ l := fun hb => by rw [hideAll_none l hb] at e; cases e

section
variable {A₀ : Around} {g₀ g h : Heap} {L : Addr} {m : Str → Option Value} {nx : Led} {fs : List Addr} {base : Heap} {outer : List Env}
theorem to_gt (F : Fr g L h m) (N : News g L h nx) (hfs : ∀ b ∈ fs, b < L) : Fr (hideAll g fs) L h m ∧ News (hideAll g fs) L h (frLed fs g ++ nx) ∧ FrUp fs g (frLed fs g ++ nx) := by
  refine ⟨⟨F.ns, fun b o e => F.keep b o (of_hideAll fs e), by rw [hideAll_size]; exact F.above⟩, fun p hp => ?_, fun b hb o e => ⟨o.slots, List.mem_append_left _ (List.mem_filterMap.mpr ⟨b, hb, by rw [e]; rfl⟩)⟩⟩
  rcases List.mem_append.mp hp with hp | hp
  · refine ob_ea (List.mem_filterMap.mp hp) ?_
    intro b hb e
    refine ob_ea (Option.map_eq_some_iff.mp e) ?_
    intro o ho er1
    subst er1
    exact ⟨F.keep _ _ ho, Nat.ne_of_lt (hfs b hb), hideAll_none _ hb⟩
  · refine ⟨(N p hp).1, (N p hp).2.1, ?_⟩
    cases q : (hideAll g fs).get? p.1 with
    | none => rfl
    | some o => have := of_hideAll fs q; rw [(N p hp).2.2] at this; cases this
theorem from_gt (B : Below A₀ base outer g₀) (F : Fr (hideAll g₀ (frs outer)) L h m) (N : News (hideAll g₀ (frs outer)) L h nx) (U : FrUp (frs outer) g₀ nx) :
    ∃ g', KtsTurn (frs outer) g₀ g' ∧ Fr g' L h m ∧ Below A₀ base outer g' ∧ ∀ p ∈ nx, p.1 ∉ frs outer → h.get? p.1 = some p.2 ∧ p.1 ≠ L ∧ g'.get? p.1 = none := by
  obtain ⟨T, S⟩ := kts_turn_at (h := h) (fs := frs outer) (g := g₀)
    (fun b hb => let ⟨_, o, ho, _⟩ := B.frames.mem hb; ⟨o, ho⟩)
    (fun b o e nm => F.keep b o (hideAll_get _ e nm))
    (fun b o e hm => let ⟨sl, hs⟩ := U b hm o e; ⟨sl, (N _ hs).1⟩)
  refine ⟨_, T, ⟨F.ns, S, by rw [T.size, ← hideAll_size (frs outer) g₀]; exact F.above⟩, ⟨B.stack, fun b o e => T.other b o (B.stays b o e) (fun hm => by rw [(B.frames.mem hm).1] at e; cases e), B.frames.of_keeps fun b o e _ => let ⟨sl, hs⟩ := T.up e; ⟨_, hs, rfl⟩⟩, fun p hp hn => ⟨(N p hp).1, (N p hp).2.1, T.none_ _ ?_⟩⟩
  cases q : g₀.get? p.1 with
  | none => rfl
  | some o => have := hideAll_get (frs outer) q hn; rw [(N p hp).2.2] at this; cases this
end

section
variable {M : Model} {A : Around} {E : Value → Shared → Prop} {s : Shared}
theorem noteFrame_firstW {base : Heap} {env : Env} {outer : List Env} {L e : Addr} {oe : Obj} {vs : Array Value} {a0 : Value} {Q : Unit → Shared → Prop}
    (hfr : A.frames = some (env :: outer)) (hl : s.heap.FunFrames base (env :: outer)) (hf : env.frame = some L)
    (he : s.heap.get? e = some oe) (hkb : base.StaysIn s.heap) (hen : base.get? e = none) (hd : oe.data = .fields vs) (h1 : vs[1]? = some .none) (h0 : vs[0]? = some a0)
    (h : ∀ h', Heap.NotedW base (env :: outer) e oe.cls a0 (rawInt L) s.heap h' → Q () { s with heap := h' }) : wpAny M A (noteFrame (.ref e) env) Q E s := by
  unfold noteFrame
  simp only [hf]
  refine wpAny_bind (wpAny_field he hd h1 ?_)
  rw [if_neg (by decide)]
  exact wpAny_entryW hfr hl hf he hkb hen hd (Array.getElem?_eq_some_iff.mp h1).1 h0 h
end

theorem stop_exc : isSubtype (.type "StopIteration") (.type "BaseException") = pure true := by rw [isSubtype_type]; kernel_rfl
theorem stop_stop : isSubtype (.type "StopIteration") (.type "StopIteration") = pure true := by rw [isSubtype_type]; kernel_rfl
theorem stop_tup : isSubtype (.type ((Manifest.find? "StopIteration").elim "type" fun y => y.metatype)) (.type "tuple") = pure false := by
  rw [show (Manifest.find? "StopIteration").elim "type" (fun y => y.metatype) = "type" by kernel_rfl, isSubtype_type]; kernel_rfl

section
variable {prog : Program} {w : World} {A₀ : Around} {E : Value → Shared → Prop} {s' : Shared} {g₀ h base : Heap} {outer : List Env} {L a e : Addr} {m : Str → Option Value} {name : Str} {scope : Scope} {cd : Value}
  {b₀ : Stmt} {suite : List Stmt} {pos np : Pos} {rest : List ExceptHandler} {Q : Flow → Shared → Prop} {nx : Led} {KF : Frag} {p : Program} {loose : List Str} {mean : ExcName → Option Value} {mg mb : Str → Option Value}
theorem catch_stop (B : Below A₀ base outer g₀) (hx : Heap.NewExc h s'.heap e "StopIteration") (F : Fr (hideAll g₀ (frs outer)) L h m) (N : News (hideAll g₀ (frs outer)) L h nx) (U : FrUp (frs outer) g₀ nx)
    (X : KF.In (hideAll g₀ (frs outer))) (P : TopRead p loose mg mb (hideAll g₀ (frs outer))) (ex : nsIn KF mainGlobals (Str.ofString "StopIteration") = some none)
    (k : ∀ h' nx', Fr (hideAll g₀ (frs outer)) L h' m → News (hideAll g₀ (frs outer)) L h' nx' → (∀ p ∈ nx, p.1 ∉ frs outer → p ∈ nx') → FrUp (frs outer) g₀ nx' →
      wpAny (model prog w) ((A₀.deeper (envOf name scope L a cd)).mark (some (.ref e))) (execs (b₀ :: suite) (envOf name scope L a cd)) Q E { s' with heap := h' })
    (hk : scope.kind = .function := by rfl) (hkx : (envOf name scope L a cd).kindOf (Str.ofString "StopIteration") = some .globalImplicit := by rfl)
    (hE : PassesOwnAt (model prog w) ((A₀.deeper (envOf name scope L a cd)).mark (some (.ref e))) (A₀.deeper (envOf name scope L a cd)) (envOf name scope L a cd) E := by passes_own) :
    wpAny (model prog w) (A₀.deeper (envOf name scope L a cd)) (noteFrame (.ref e) (envOf name scope L a cd))
      (fun _ s₂ => wpAny (model prog w) (A₀.deeper (envOf name scope L a cd)) (setFlight (.ref e) none) (fun _ s₃ =>
        wpAny (model prog w) (A₀.deeper (envOf name scope L a cd)) (handleBy (.ref e) (envOf name scope L a cd) (.ExceptHandler (some (.Name (Str.ofString "StopIteration") np)) none (b₀ :: suite) pos :: rest)) Q E s₃) E s₂) E s' := by
  refine ob_eaaa (from_gt B F N U) ?_
  intro g T Fg Bg Ng
  have K' := Bg.push (name := name) (scope := scope) (a := a) (cd := cd) Fg hk
  have hin : ∀ env ∈ (envOf name scope L a cd :: outer), ∀ b, env.frame = some b → b ∈ frs (envOf name scope L a cd :: outer) := fun env he b hb => List.mem_filterMap.mpr ⟨env, he, hb⟩
  have memf : ∀ b, b ∈ frs (envOf name scope L a cd :: outer) → b = L ∨ b ∈ frs outer := fun b hb => kts_mem hb
  have hgt : ∀ b o, (hideAll g₀ (frs outer)).get? b = some o → (hideAll h (frs (envOf name scope L a cd :: outer))).get? b = some o := fun b o q => hideAll_get _ (F.keep b o q) fun hm => by
    rcases memf b hm with z | z
    · rw [z, kts_self F] at q; cases q
    · exact hideAll_of _ q z
  have hnx : ∀ q ∈ nx, q.1 ∉ frs outer → (hideAll h (frs (envOf name scope L a cd :: outer))).get? q.1 = some q.2 := fun q hq hn => hideAll_get _ (N q hq).1 fun hm => by
    rcases memf _ hm with z | z
    · exact (N q hq).2.1 z
    · exact hn z
  refine ob_eeaa (hx.there) ?_
  intro ob tp he hcls hd
  have hen : (hideAll h (frs (envOf name scope L a cd :: outer))).get? e = none := by
    cases q : (hideAll h (frs (envOf name scope L a cd :: outer))).get? e with
    | none => rfl
    | some o => have := of_hideAll _ q; rw [hx.new] at this; cases this
  refine noteFrame_firstW (a0 := tp) K'.stack ((funFrames_hide K'.frames hin).of_keeps fun b o hb _ => ⟨o, hx.keeps b o hb, rfl⟩) rfl he (fun b o hb => hx.keeps b o (of_hideAll _ hb)) hen hd rfl rfl fun h₄ hN => ?_
  refine ob_aaa (hN) ?_
  clear hN
  intro n1 n2 n3 n4
  rw [hcls] at n3
  refine wpAny_landsW ⟨n1, hen, n2, n3⟩ fun h₅ hfl sm₅ => ?_
  have sm : h.UpToSlots h₅ := ((Heap.UpToSlots.of_keeps hx.keeps).trans n4).trans sm₅
  have F₅ : Fr (hideAll g₀ (frs outer)) L h₅ m := ⟨sm.ns F.ns, fun b o q => hfl.1 b o (hgt b o q), F.above⟩
  refine ob_ea (hfl.there) ?_
  intro oe hoe hoc
  refine wpAny_handleBy_builtin (X := "StopIteration") (T := "StopIteration") (b := true) stop_exc stop_tup stop_stop (name_B F₅ X P ex PyProof.Rows.Boot.«StopIteration» (by decide) ⟨rfl, ⟨oe, hoe, hoc⟩, ?_⟩ hk hkx)
  rw [if_pos rfl]
  refine lands_againW hfl fun h₆ hfl₆ sm₆ => ?_
  have smm := sm.trans sm₆
  refine wpAny_passesOwnAt hE (k h₆ (nx.filter (fun q => !((frs outer).contains q.1)) ++ frLed (frs outer) h₆) ⟨smm.ns F.ns, fun b o q => hfl₆.1 b o (hgt b o q), F.above⟩ (fun q hq => ?_) (fun q hq hn => List.mem_append_left _ (List.mem_filter.mpr ⟨hq, by simpa using hn⟩)) fun b hb o ho => ?_)
  · rcases List.mem_append.mp hq with hq | hq
    · obtain ⟨hq, hn⟩ := List.mem_filter.mp hq
      have hn : q.1 ∉ frs outer := by simpa using hn
      exact ⟨hfl₆.1 _ _ (hnx q hq hn), (N q hq).2⟩
    · refine ob_ea (List.mem_filterMap.mp hq) ?_
      intro b hb ho
      refine ob_ea (Option.map_eq_some_iff.mp ho) ?_
      intro o ho2 er2
      subst er2
      refine ob_aea (B.frames.mem hb) ?_
      intro _ o₁ ho₁ _
      obtain ⟨sl, hs⟩ := U b hb o₁ ho₁
      exact ⟨ho2, (N _ hs).2⟩
  · obtain ⟨sl, hs⟩ := U b hb o ho
    refine ob_aea (B.frames.mem hb) ?_
    intro _ o₁ ho₁ hd₁
    rw [ho] at ho₁
    cases ho₁
    obtain ⟨sl', hs'⟩ := smm b _ (N _ hs).1 hd₁
    exact ⟨sl', List.mem_append_right _ (List.mem_filterMap.mpr ⟨b, hb, by rw [hs']; rfl⟩)⟩
end
end Mine
end
section
open PySem PySem.W PyProof.Rows PySem.Spec PySem.Calls
set_option Elab.async false
set_option maxRecDepth 100000
set_option maxHeartbeats 4000000
set_option linter.unusedVariables false
namespace Mine
namespace NX
theorem slot_ga : Slot "list_iterator" "__getattribute__" "object.__getattribute__" :=
  .of (owner := "object") (n := "__getattribute__") (by rw [typeLookup_type, builtinLookup_eq_fast]; kernel_rfl) (by decide +kernel) (by decide +kernel) (by decide +kernel)
    (by first | exact .inl (by decide +kernel) | exact .inr (by decide +kernel)) (by rw [isSubtype_type]; kernel_rfl)
theorem entry_ga : entryFor table "object.__getattribute__" = some Builtin.«object.__getattribute__» := entryFor_of_tree (by kernel_rfl)
theorem args_ga (a b : Value) : argsOk "object.__getattribute__" ⟨[a, b], []⟩ := by unfold argsOk; kernel_rfl
theorem lk : typeLookup (.type "list_iterator") "__next__" = pure (some (.builtin "list_iterator.__next__")) := by rw [typeLookup_type, builtinLookup_eq_fast]; kernel_rfl
theorem ty : typeOf (.builtin "list_iterator.__next__") = pure (.type "wrapper_descriptor") := by show builtinType _ = _; rw [builtinType_eq_fast]; kernel_rfl
theorem slot_get : Slot "wrapper_descriptor" "__get__" "wrapper_descriptor.__get__" :=
  .of (owner := "wrapper_descriptor") (n := "__get__") (by rw [typeLookup_type, builtinLookup_eq_fast]; kernel_rfl) (by decide +kernel) (by decide +kernel) (by decide +kernel)
    (by first | exact .inl (by decide +kernel) | exact .inr (by decide +kernel)) (by rw [isSubtype_type]; kernel_rfl)
theorem entry_get : entryFor table "wrapper_descriptor.__get__" = some Builtin.«wrapper_descriptor.__get__» := entryFor_of_tree (by kernel_rfl)
theorem args_get (a b c : Value) : argsOk "wrapper_descriptor.__get__" ⟨[a, b, c], []⟩ := by unfold argsOk; kernel_rfl
theorem noset : typeLookup (.type "wrapper_descriptor") "__set__" = pure none := by rw [typeLookup_type, builtinLookup_eq_fast]; kernel_rfl
theorem nodel : typeLookup (.type "wrapper_descriptor") "__delete__" = pure none := by rw [typeLookup_type, builtinLookup_eq_fast]; kernel_rfl
theorem owner : (".".intercalate ("list_iterator.__next__".cutAt '.').dropLast) = "list_iterator" := by
  have e0 : "list_iterator.__next__".cutAt '.' = ["list_iterator", "__next__"] := by first | rfl | decide +kernel
  rw [e0]; decide +kernel
noncomputable abbrev wrap (it : Addr) : Obj := { cls := .type "method-wrapper", data := .fields #[.builtin "list_iterator.__next__", .ref it] }
section
variable {prog : Program} {w : World} {A : Around} {E : Value → Shared → Prop} {h : Heap} {g : Array GenState} {d : Drawn} {t : Nat} {os : OsState} {a : Addr} {o : Obj}
theorem get {R : Result → Shared → Prop} (hx : h.get? a = some o) (hc : o.cls = .type "list_iterator") (hq : R (.ok (.ret (.ref h.objs.size))) ⟨h.push (wrap a), g, d, t, os⟩) :
    codeAny (model prog w) A (.call (.builtin "wrapper_descriptor.__get__") ⟨[.builtin "list_iterator.__next__", .ref a, .type "list_iterator"], []⟩) R ⟨h, g, d, t, os⟩ := by
  have hT : (⟨h, g, d, t, os⟩ : Shared).TypeIs (.ref a) "list_iterator" := ⟨_, hx, hc⟩
  have hT5 : (⟨h, g, d, t, os⟩ : Shared).TypeIs (.builtin "list_iterator.__next__") "wrapper_descriptor" := ty
  have f8 : isSubtype (.type "list_iterator") (.type (".".intercalate ("list_iterator.__next__".cutAt '.').dropLast)) = pure true := by rw [owner, isSubtype_type]; kernel_rfl
  refine codeAny_call_builtin slot_get.plain entry_get (slot_get.check _ _ _ _ _ _ _ _ hT5 (args_get _ _ _) ?_)
  repeat (any_goals (first | assumption | wp_step))
theorem entry {tk : Tok} {Q : Fin → Shared → Prop} {vs : Array Value} (hx : h.get? a = some ⟨.type "list_iterator", none, .fields vs, #[]⟩) (hq : Q (.done (.ret (.ref h.objs.size))) ⟨h.push (wrap a), g, d, t, os⟩) :
    wpAny (model prog w) A (Builtin.«object.__getattribute__» ⟨[.ref a, .str "__next__" tk], []⟩) Q E ⟨h, g, d, t, os⟩ := by
  have hT : (⟨h, g, d, t, os⟩ : Shared).TypeIs (.ref a) "list_iterator" := ⟨_, hx, rfl⟩
  have hT5 : (⟨h, g, d, t, os⟩ : Shared).TypeIs (.builtin "list_iterator.__next__") "wrapper_descriptor" := ty
  have f4 := lk
  have f5 := ty
  have f6 := slot_get.lookup
  have f7 := noset
  have f8 := nodel
  repeat (any_goals (first | assumption | wp_step))
  refine get hx rfl ?_
  repeat (any_goals (first | assumption | wp_step))
theorem ga {tk : Tok} {R : Result → Shared → Prop} {vs : Array Value} (hx : h.get? a = some ⟨.type "list_iterator", none, .fields vs, #[]⟩) (hq : R (.ok (.ret (.ref h.objs.size))) ⟨h.push (wrap a), g, d, t, os⟩) :
    codeAny (model prog w) A (.call (.builtin "object.__getattribute__") ⟨[.ref a, .str "__next__" tk], []⟩) R ⟨h, g, d, t, os⟩ :=
  codeAny_call_builtin slot_ga.plain entry_ga (slot_ga.check _ _ _ _ _ _ _ _ (show (⟨h, g, d, t, os⟩ : Shared).TypeIs (.ref a) "list_iterator" from ⟨_, hx, rfl⟩) (args_ga _ _) (entry hx hq))
theorem by_ {tk : Tok} {fill expr : Bool} {Q : Value → Shared → Prop} {vs : Array Value} (hx : h.get? a = some ⟨.type "list_iterator", none, .fields vs, #[]⟩) (hq : Q (.ref h.objs.size) ⟨h.push (wrap a), g, d, t, os⟩) :
    wpAny (model prog w) A (getAttrBy (.ref a) (.str "__next__" tk) fill expr) Q E ⟨h, g, d, t, os⟩ := by
  have hT : (⟨h, g, d, t, os⟩ : Shared).TypeIs (.ref a) "list_iterator" := ⟨_, hx, rfl⟩
  have f2 := slot_ga.lookup
  have f3 := slot_ga.bind (.ref a)
  have hx0 : (expr && onTheHeap (Value.builtin "object.__getattribute__")) = false := by cases expr <;> rfl
  repeat (any_goals (first | assumption | wp_step))
  refine ga hx ?_
  repeat (any_goals (first | assumption | wp_step))
theorem attr {expr : Bool} {Q : Value → Shared → Prop} {vs : Array Value} (hx : h.get? a = some ⟨.type "list_iterator", none, .fields vs, #[]⟩) (hq : Q (.ref h.objs.size) ⟨h.push (wrap a), g, d, t + 1, os⟩) :
    wpAny (model prog w) A (getAttr (.ref a) "__next__" expr) Q E ⟨h, g, d, t, os⟩ := by
  unfold getAttr
  repeat (any_goals (first | assumption | with_reducible apply by_ hx | wp_step))
end

noncomputable abbrev iterO (l : Addr) (i : Nat) : Obj := ⟨.type "list_iterator", none, .fields #[.ref l, .int (i : Nat) 0], #[]⟩
theorem bound_ok (it : Addr) : checkBoundCall "list_iterator.__next__" ⟨[.ref it], []⟩ = pure () := by first | kernel_rfl | rfl
theorem entry_next : entryFor table "list_iterator.__next__" = some Builtin.«list_iterator.__next__» := entryFor_of_tree (by kernel_rfl)
section
variable {prog : Program} {w : World} {A : Around} {E : Value → Shared → Prop} {s : Shared}
theorem call_of {b it : Addr} {Q : Value → Shared → Prop} (hb : s.heap.get? b = some (wrap it))
    (h : wpAny (model prog w) (A.under (.builtin "list_iterator.__next__" ⟨[.ref it], []⟩)) (Builtin.«list_iterator.__next__» ⟨[.ref it], []⟩) (fun fin s' => ∃ v, fin = .done (.ret v) ∧ Q v s') E s) :
    wpAny (model prog w) A (call (.ref b) []) Q E s := by
  refine wpAny_call (codeAny_of_tree ?_)
  show wpAny _ _ (callAny (.ref b) ⟨[], []⟩) _ _ s
  simp only [callAny]
  refine wpAny_bind (wpAny_load hb ?_)
  simp only [wrap, show (Value.type "method-wrapper" == Value.type "method" || Value.type "method-wrapper" == Value.type "builtin_function_or_method" || Value.type "method-wrapper" == Value.type "method-wrapper") = true by decide, show (Value.type "method-wrapper" != Value.type "method") = true by decide, if_true]
  show wpAny _ _ (checkBoundCall "list_iterator.__next__" ⟨[.ref it], []⟩ >>= fun _ => again (.builtin "list_iterator.__next__" ⟨[.ref it], []⟩)) _ _ s
  refine wpAny_bind (wpAny_of_eq (a := ()) (bound_ok it) ?_)
  refine wpAny_pure ⟨Code.quiet_builtin _ (by decide +kernel), codeAny_builtin entry_next (wpAny_mono h (fun fin s' q => ?_) fun _ _ q => q)⟩
  obtain ⟨v, rfl, q⟩ := q
  exact q

theorem item {b it l : Addr} {i : Nat} {items : Array Value} {x : Value} {Q : Value → Shared → Prop} (hb : s.heap.get? b = some (wrap it)) (hit : s.heap.get? it = some (iterO l i)) (hl : s.heap.IsList l items) (hx : items[i]? = some x)
    (hQ : ∀ h', h'.get? it = some (iterO l (i + 1)) → Heap.SameBut it s.heap h' → Q x { s with heap := h' }) : wpAny (model prog w) A (call (.ref b) []) Q E s := by
  refine call_of hb ?_
  refine ob_eaae (hl) ?_
  clear hl
  intro ol hol _ nl hdl
  show wpAny _ _ (field (.ref it) 0 >>= _) _ _ s
  refine wpAny_bind (wpAny_field hit rfl (x := .ref l) rfl ?_)
  show wpAny _ _ (if (Value.ref l == Value.none) = true then _ else _) _ _ s
  rw [if_neg (show ¬ ((Value.ref l == Value.none) = true) from Bool.false_ne_true)]
  show wpAny _ _ (field (.ref it) 1 >>= _) _ _ s
  refine wpAny_bind (wpAny_field hit rfl (x := .int i 0) rfl ?_)
  show wpAny _ _ (seqItems? (.ref l) >>= _) _ _ s
  refine wpAny_bind (wpAny_seqItems hol hdl ?_)
  simp only [Int.toNat_natCast, hx]
  refine wpAny_bind (wpAny_setField_rec hit (by simp) fun h₃ he₃ hs₃ => ?_)
  refine wpAny_pure ⟨x, rfl, hQ _ ?_ hs₃⟩
  exact he₃

theorem stop {b it l : Addr} {i : Nat} {items : Array Value} {Q : Value → Shared → Prop} (hh : A.handled = none) (hb : s.heap.get? b = some (wrap it)) (hit : s.heap.get? it = some (iterO l i)) (hl : s.heap.IsList l items) (hx : items[i]? = none)
    (hE : ∀ h₁ h' e, Heap.SameBut it s.heap h₁ → Heap.NewExc h₁ h' e "StopIteration" → E (.ref e) { s with heap := h' }) : wpAny (model prog w) A (call (.ref b) []) Q E s := by
  refine call_of hb ?_
  refine ob_eaae (hl) ?_
  clear hl
  intro ol hol _ nl hdl
  show wpAny _ _ (field (.ref it) 0 >>= _) _ _ s
  refine wpAny_bind (wpAny_field hit rfl (x := .ref l) rfl ?_)
  show wpAny _ _ (if (Value.ref l == Value.none) = true then _ else _) _ _ s
  rw [if_neg (show ¬ ((Value.ref l == Value.none) = true) from Bool.false_ne_true)]
  show wpAny _ _ (field (.ref it) 1 >>= _) _ _ s
  refine wpAny_bind (wpAny_field hit rfl (x := .int i 0) rfl ?_)
  show wpAny _ _ (seqItems? (.ref l) >>= _) _ _ s
  refine wpAny_bind (wpAny_seqItems hol hdl ?_)
  simp only [Int.toNat_natCast, hx]
  refine wpAny_bind (wpAny_rule (wpAny_bind (wpAny_setField_rec hit (by simp) fun h₃ he₃ hs₃ => ?_)))
  show wpAny _ _ (newExc (.type "StopIteration") [] >>= _) _ _ _
  refine wpAny_bind ?_
  simp only [newExc, newTuple]
  refine wpAny_bind (wpAny_newObj_type ?_ (by size_fits))
  refine wpAny_bind (m := firstArgMember _ _) (wpAny_of_eq (a := Value.none) (by first | rfl | (simp only [firstArgMember]; rfl)) ?_)
  refine wpAny_newObj_type ?_ (by size_fits)
  simp only [raiseNew]
  refine wpAny_bind (wpAny_handled ?_)
  first | rw [show (A.under (.builtin "list_iterator.__next__" ⟨[.ref it], []⟩)).handled = none from hh] | rw [hh]
  refine wpAny_bind (wpAny_pure (wpAny_throw ?_))
  refine hE h₃ _ _ hs₃ ⟨fun b o q => Heap.get?_push_of_some _ (Heap.get?_push_of_some _ q), ?_, ⟨_, _, Heap.get?_push_size _ rfl, rfl, rfl⟩⟩
  exact Heap.get?_none_of_le (by simp)
end
end NX

section
variable {prog : Program} {w : World} {A : Around} {E : Value → Shared → Prop} {s : Shared} {h₀ : Heap} {L l it b : Addr} {m : Str → Option Value} {news : Led} {vs : List Value} {n i : Nat}
theorem iter_lst {Q : Value → Shared → Prop} (F : Fr h₀ L s.heap m) (N : News h₀ L s.heap news) (hm : (l, lstO vs n) ∈ news)
    (h : ∀ it h', Fr h₀ L h' m → News h₀ L h' ((it, NX.iterO l 0) :: news) → (∀ p ∈ news, p.1 < it) → Q (.ref it) { s with heap := h' }) : wpAny (model prog w) A (call (.builtin "iter") [.ref l]) Q E s := by
  refine call_function_entry (by decide +kernel) (by decide +kernel) kdk_entry_iter (kdk_args_iter _) ?_
  unfold Builtin.«iter»
  refine wpAny_bind (m := someArgs "iter" 1 2 _) (wpAny_of_eq (a := [Value.ref l]) (by first | rfl | kernel_rfl!) ?_)
  show wpAny _ _ (pyIter (.ref l) >>= _) _ _ _
  refine wpAny_bind (wpAny_pyIter_list (News.lst N hm) ?_)
  exact wpAny_pure ⟨_, rfl, h _ _ (F.push _) (News.push F N _ rfl) (fun q hq => Heap.lt_size (N q hq).1)⟩
theorem attr_next {expr : Bool} {Q : Value → Shared → Prop} (F : Fr h₀ L s.heap m) (N : News h₀ L s.heap news) (hm : (it, NX.iterO l i) ∈ news)
    (h : ∀ b h', Fr h₀ L h' m → News h₀ L h' ((b, NX.wrap it) :: news) → (∀ p ∈ news, p.1 < b) → Q (.ref b) { s with heap := h', toks := s.toks + 1 }) : wpAny (model prog w) A (getAttr (.ref it) (Str.ofString "__next__") expr) Q E s := by
  obtain ⟨hp, g, d, t, os⟩ := s
  exact NX.attr (N _ hm).1 (h _ _ (F.push _) (News.push F N _ rfl) (fun q hq => Heap.lt_size (N q hq).1))
theorem next_item {x : Value} {Q : Value → Shared → Prop} (F : Fr h₀ L s.heap m) (N : News h₀ L s.heap news) (hb : (b, NX.wrap it) ∈ news) (hit : (it, NX.iterO l i) ∈ news) (hl : (l, lstO vs n) ∈ news) (hx : vs[i]? = some x)
    (h : ∀ h', Fr h₀ L h' m → News h₀ L h' ((it, NX.iterO l (i + 1)) :: off it news) → Q x { s with heap := h' }) : wpAny (model prog w) A (call (.ref b) []) Q E s := by
  refine NX.item (N _ hb).1 (N _ hit).1 (News.lst N hl) (by simpa using hx) fun h' e hs => ?_
  refine h h' (F.change hs (N _ hit).2.1 (N _ hit).2.2) fun p hp => ?_
  rcases List.mem_cons.mp hp with rfl | hp
  · exact ⟨e, (N _ hit).2⟩
  · exact ⟨(hs.2 _ (off_ne p hp)).trans (N p (off_sub hp)).1, (N p (off_sub hp)).2⟩
theorem next_stop {Q : Value → Shared → Prop} (hh : A.handled = none) (F : Fr h₀ L s.heap m) (N : News h₀ L s.heap news) (hb : (b, NX.wrap it) ∈ news) (hit : (it, NX.iterO l i) ∈ news) (hl : (l, lstO vs n) ∈ news) (hx : vs[i]? = none)
    (h : ∀ h₁ h' e, Fr h₀ L h₁ m → News h₀ L h₁ (off it news) → Heap.NewExc h₁ h' e "StopIteration" → E (.ref e) { s with heap := h' }) : wpAny (model prog w) A (call (.ref b) []) Q E s := by
  refine NX.stop hh (N _ hb).1 (N _ hit).1 (News.lst N hl) (by simpa using hx) fun h₁ h' e hs hx => h h₁ h' e (F.change hs (N _ hit).2.1 (N _ hit).2.2) (fun p hp => ?_) hx
  exact ⟨(hs.2 _ (off_ne p hp)).trans (N p (off_sub hp)).1, (N p (off_sub hp)).2⟩
end
end Mine
end
section
open PySem PySem.W PyProof.Rows PySem.Spec PySem.Calls
set_option Elab.async false
set_option maxRecDepth 100000
set_option maxHeartbeats 4000000
set_option linter.unusedVariables false
namespace Mine
theorem calm_S7 : True := by
  w_top off
  k_with_none
  trivial
theorem int_of_is {prog : Program} {w : World} {k : Int} {v : Value} (h : (intKind prog w).is k v = true) : ∃ t, v = .int k t := by
  cases v <;> simp [intKind, Value.isInt] at h
  exact ⟨_, by rw [h]⟩
section
variable {prog : Program} {w : World} {A : Around} {E : Value → Shared → Prop} {s : Shared} {env : Env} {h₀ : Heap} {Q : Flow → Shared → Prop}
theorem at_keys {x₀ : Str} {px : Pos} {body orelse : List Stmt} {d : Addr} {o : Obj} {kvs : List (Int × Value)} {m : Str → Option Value} {news : Led} (J : Nat → (Str → Option Value) → Led → Prop)
    (hh : A.handled = none) (F : Fr h₀ env.locals s.heap m) (N : News h₀ env.locals s.heap news) (hm : (d, o) ∈ news) (hd : o.IsDictOf (intKind prog w) kvs) (lo : (d == sysModules) = false) (h0 : J 0 m news)
    (turn : ∀ i k t m₁ news₁ h tk' fp wr own, (kvs[i]?).map (·.1) = some k → J i m₁ news₁ → Own fp wr news₁ own → (∀ p ∈ own, p.1 = d ∨ (p.1 ∈ wr ∧ s.heap.objs.size ≤ p.1)) → Fr h₀ env.locals h m₁ → News h₀ env.locals h (news₁ ++ own) →
      wpAny (model prog w) A (assign (.Name x₀ px) env (.int k t)) (fun _ s₃ => wpAny (model prog w) A (execs body env) (FStep h₀ env.locals wr own (J (i + 1)) { s with heap := h, toks := tk' } Q) E s₃) E { s with heap := h, toks := tk' })
    (done : ∀ h' tk m' news', Fr h₀ env.locals h' m' → News h₀ env.locals h' news' → J kvs.length m' news' → wpAny (model prog w) A (execs orelse env) Q E { s with heap := h', toks := tk }) :
    wpAny (model prog w) A (pyIter (.ref d)) (fun it s₂ => ForAt prog w A h₀ env (.Name x₀ px) body orelse Q E it s₂) E s := by
  obtain ⟨ep, hat⟩ := (kda_dict N hm hd).dictAt
  refine wpAny_pyIter_dict lo hat ?_
  have hlt : d < s.heap.objs.size := Heap.lt_size (N _ hm).1
  have hL : d ≠ env.locals := (N _ hm).2.1
  have f0 := fresh_of F (Nat.le_refl s.heap.objs.size)
  refine ⟨_, _, _, _, _, _, m, news, J, rfl, Src.ofWalks (Walks.dictKeys hh s.heap.objs.size d (Nat.ne_of_lt hlt) kvs ep) (fun i h st b hb => ?_) (fun i s' v Q' E' st q => go_name q), ?_, ?_, ?_,
    ⟨⟨_, Heap.get?_push_size _ rfl, rfl, rfl⟩, hat.at' fun o e => Heap.get?_push_of_some _ e⟩, F.push _, fun p hp => ⟨Heap.get?_push_of_some _ (N p hp).1, (N p hp).2⟩, h0, ?_, ?_⟩
  · rw [List.mem_singleton.mp hb]
    refine ob_ea (st.1) ?_
    intro o q _
    exact ⟨o, q⟩
  · simp only [List.mem_cons, List.not_mem_nil, or_false, not_or]
    exact ⟨Ne.symm f0.2, Ne.symm hL⟩
  · intro b hb
    rw [List.mem_singleton.mp hb]
    exact f0.1
  · intro p hp hb
    have := Heap.lt_size (N p hp).1
    rw [List.mem_singleton.mp hb] at this
    exact absurd this (Nat.lt_irrefl _)
  · rintro i v mk m₁ news₁ h tk own hi ⟨⟨k, x, hx, hkv⟩, rfl⟩ hJ o1 o2 o3 F₁ N₁
    obtain ⟨t, rfl⟩ := int_of_is hkv
    refine turn i k t m₁ news₁ h tk _ _ own (by rw [hx]; rfl) hJ ⟨o1, o2, o3⟩ (fun p hp => ?_) F₁ N₁
    rcases List.mem_cons.mp (o2 p hp) with e | e
    · exact .inr ⟨by simp [e], Nat.le_of_eq e.symm⟩
    · exact .inl (List.mem_singleton.mp e)
  · intro h' tk m' news' F' N' hJ _
    exact done h' tk m' news' F' N' hJ

theorem While_else {test : Expr} {body orelse : List Stmt} {pos : Pos} {L : Addr} {m : Str → Option Value} {news : Led} (J : Nat → (Str → Option Value) → Led → Prop) {n₀ : Nat}
    (F : Fr h₀ L s.heap m) (N : News h₀ L s.heap news) (hJ : J n₀ m news)
    (turn : ∀ n m₁ news₁ h₁ tk₁, Fr h₀ L h₁ m₁ → News h₀ L h₁ news₁ → J n m₁ news₁ →
      wpAny (model prog w) A (isTrue test env (eval test env)) (fun b s₂ =>
        if b = true then wpAny (model prog w) A (execs body env) (WhileStep2 h₀ L s J Q n) E s₂ else wpAny (model prog w) A (execs orelse env) Q E s₂) E { s with heap := h₁, toks := tk₁ })
    (hE : PassesOwn (model prog w) A env E := by passes_own) :
    wpAny (model prog w) A (exec (.While test body orelse pos) env) Q E s := by
  refine wpAny_While (codeAny_whileLoop (fun n s' => ∃ h₁ tk₁ m₁ news₁, s' = { s with heap := h₁, toks := tk₁ } ∧ Fr h₀ L h₁ m₁ ∧ News h₀ L h₁ news₁ ∧ J n m₁ news₁) ?_ n₀ ⟨s.heap, s.toks, m, news, rfl, F, N, hJ⟩)
  intro n s' hZ
  refine ob_eeee hZ ?_
  clear hZ
  intro h₁ tk₁ m₁ news₁ hq0
  refine ob_aaa hq0 ?_
  clear hq0
  intro er1 F₁ N₁ J₁
  subst er1
  refine wpAny_mono (turn n m₁ news₁ h₁ tk₁ F₁ N₁ J₁) (fun b s₂ h₂ => ?_) hE
  cases b with
  | false => exact wpAny_mono h₂ (fun f s₃ h₃ => h₃) hE
  | true =>
    refine wpAny_mono h₂ (fun f s₃ h₃ => ?_) hE
    cases f with
    | next =>
      refine ob_eeeee (h₃) ?_
      clear h₃
      intro h' tk m₂ news₂ n' hq0
      refine ob_aaaa hq0 ?_
      clear hq0
      intro er2 F₂ N₂ hn J₂
      subst er2
      exact ⟨n', hn, h', tk, m₂, news₂, rfl, F₂, N₂, J₂⟩
    | cont =>
      refine ob_eeeee (h₃) ?_
      clear h₃
      intro h' tk m₂ news₂ n' hq0
      refine ob_aaaa hq0 ?_
      clear hq0
      intro er3 F₂ N₂ hn J₂
      subst er3
      exact ⟨n', hn, h', tk, m₂, news₂, rfl, F₂, N₂, J₂⟩
    | brk => exact h₃
    | ret v => exact h₃
end

structure Dst where
  st : Addr
  its : Addr
  se : Addr
  nd : Addr
  ba : Nat → Addr
  ta : Nat → Addr
  ρ : Addr → Option (Nat × Nat)
  stk : List (Nat × Nat)
  seen : List Nat
noncomputable def ndk (l : List Nat) (ts : Nat → Tok) : List (Int × Value) := l.zipIdx.map fun p => (((p.1 : Nat) : Int), .int (p.2 : Nat) (ts p.2))
noncomputable def refs (ba : Nat → Addr) (n : Nat) : List Value := (List.range n).map fun i => .ref (ba i)

structure Df (w : World) (sa : Nat → Addr) (fs : List Addr) (bs : Led) (δ : Dst) (nx : Led) : Prop where
  base : ∀ p ∈ bs, p ∈ nx ∧ δ.ρ p.1 = none ∧ p.1 ∉ fs
  stack : ∃ vs n, IV vs (δ.stk.map (·.1)) ∧ (δ.st, lstO vs n) ∈ nx
  its_ : ∃ n, (δ.its, lstO (refs δ.ba δ.stk.length) n) ∈ nx
  seen_ : ∃ o, (δ.se, o) ∈ nx ∧ o.SetObjOf (intKind PG w) (fun k => decide (k ∈ δ.seen.map fun j => ((j : Nat) : Int))) δ.seen.length
  nd_ : ∃ o ts, (δ.nd, o) ∈ nx ∧ o.IsDictOf (intKind PG w) (ndk (δ.stk.map (·.1)) ts)
  lo : (δ.nd == sysModules) = false
  ent : ∀ i e, δ.stk[i]? = some e → (δ.ba i, NX.wrap (δ.ta i)) ∈ nx ∧ (δ.ta i, NX.iterO (sa e.1) e.2) ∈ nx
  r0 : δ.ρ δ.st = some (0, 0)
  r1 : δ.ρ δ.its = some (1, 0)
  r2 : δ.ρ δ.se = some (2, 0)
  r3 : δ.ρ δ.nd = some (3, 0)
  r4 : ∀ i, i < δ.stk.length → δ.ρ (δ.ba i) = some (4, i)
  r5 : ∀ i, i < δ.stk.length → δ.ρ (δ.ta i) = some (5, i)
  dom : ∀ a, δ.ρ a ≠ none → a ∈ nx.map (·.1) ∧ a ∉ fs
  nod : (δ.stk.map (·.1)).Nodup

section
variable {w : World} {sa : Nat → Addr} {fs : List Addr} {bs nx nx' : Led} {δ : Dst}
theorem lt_of_get {α : Type} {l : List α} {i : Nat} {x : α} (h : l[i]? = some x) : i < l.length := (List.getElem?_eq_some_iff.mp h).1
theorem some_ne {α : Type} {x : Option α} {y : α} (h : x = some y) : x ≠ none := by rw [h]; exact Option.some_ne_none _

theorem Df.move (D : Df w sa fs bs δ nx) {bs' : Led} (hk : ∀ p ∈ nx, δ.ρ p.1 ≠ none → p ∈ nx') (hb : ∀ p ∈ bs', p ∈ nx' ∧ δ.ρ p.1 = none ∧ p.1 ∉ fs) : Df w sa fs bs' δ nx' where
  base := hb
  stack := let ⟨a, b, c, h⟩ := D.stack; ⟨a, b, c, hk _ h (some_ne D.r0)⟩
  its_ := let ⟨a, h⟩ := D.its_; ⟨a, hk _ h (some_ne D.r1)⟩
  seen_ := let ⟨a, h, b⟩ := D.seen_; ⟨a, hk _ h (some_ne D.r2), b⟩
  nd_ := let ⟨a, t, h, b⟩ := D.nd_; ⟨a, t, hk _ h (some_ne D.r3), b⟩
  lo := D.lo
  ent := fun i e h => let ⟨a, b⟩ := D.ent i e h; ⟨hk _ a (some_ne (D.r4 i (lt_of_get h))), hk _ b (some_ne (D.r5 i (lt_of_get h)))⟩
  r0 := D.r0
  r1 := D.r1
  r2 := D.r2
  r3 := D.r3
  r4 := D.r4
  r5 := D.r5
  dom := fun a ha => ⟨let ⟨p, hp, e⟩ := List.mem_map.mp (D.dom a ha).1; List.mem_map.mpr ⟨p, hk p hp (e ▸ ha), e⟩, (D.dom a ha).2⟩
  nod := D.nod
theorem Df.keepOut (D : Df w sa fs bs δ nx) (h : ∀ p ∈ nx, p.1 ∉ fs → p ∈ nx') : Df w sa fs bs δ nx' :=
  D.move (fun p hp hr => h p hp (D.dom _ hr).2) fun p hp => ⟨h p (D.base p hp).1 (D.base p hp).2.2, (D.base p hp).2⟩
theorem Df.own {fp wr : List Addr} {own : Led} (D : Df w sa fs bs δ nx) (o : Own fp wr nx own) (hf : ∀ p ∈ own, p.1 ∉ fs ∧ (p.1 ∈ wr ∨ δ.ρ p.1 = none)) : Df w sa fs (own ++ bs) δ (nx ++ own) :=
  D.move (fun p hp _ => List.mem_append_left _ hp) fun p hp => by
    rcases List.mem_append.mp hp with hp | hp
    · refine ⟨List.mem_append_right _ hp, ?_, (hf p hp).1⟩
      rcases (hf p hp).2 with h | h
      · cases z : δ.ρ p.1 with
        | none => rfl
        | some t =>
          refine ob_ea (List.mem_map.mp (D.dom p.1 (some_ne z)).1) ?_
          intro q hq e
          exact absurd (e ▸ h) (o.1 q hq)
      · exact h
    · exact ⟨List.mem_append_left _ (D.base p hp).1, (D.base p hp).2⟩
theorem Df.cut {fp wr : List Addr} {own news₀ : Led} (D : Df w sa fs (own ++ bs) δ nx) (o : Own fp wr news₀ own) (hb : ∀ p ∈ bs, p.1 ∉ wr) : Df w sa fs bs δ (cutL wr nx) :=
  D.move (fun p hp hr => mem_cut.mpr ⟨hp, fun q => by
    obtain ⟨ob, h⟩ := o.2.2 _ q
    exact hr (D.base _ (List.mem_append_left _ h)).2.1⟩) fun p hp => ⟨mem_cut.mpr ⟨(D.base p (List.mem_append_right _ hp)).1, hb p hp⟩, (D.base p (List.mem_append_right _ hp)).2⟩
theorem Df.led {wr : List Addr} {own : Led} (D : Df w sa fs (own ++ bs) δ nx) : ∀ p ∈ cutL wr nx ++ own, p ∈ nx := fun p hp => by
  rcases List.mem_append.mp hp with h | h
  · exact (mem_cut.mp h).1
  · exact (D.base p (List.mem_append_left _ h)).1

theorem ndk_key (l : List Nat) (ts : Nat → Tok) : (ndk l ts).map (·.1) = l.map fun j => ((j : Nat) : Int) := by
  unfold ndk
  rw [List.map_map]
  show l.zipIdx.map ((fun j : Nat => ((j : Nat) : Int)) ∘ Prod.fst) = _
  rw [← List.map_map, List.zipIdx_map_fst]
theorem ndk_stored {l : List Nat} {ts : Nat → Tok} {k : Nat} {t : Tok} (hk : k ∉ l) : stored (ndk l ts) (k : Int) (.int (l.length : Nat) t) = ndk (l ++ [k]) fun i => if i = l.length then t else ts i := by
  unfold stored
  rw [if_neg]
  · unfold ndk
    rw [List.zipIdx_append, List.map_append]
    refine congr (congrArg _ (List.map_congr_left fun p hp => ?_)) ?_
    · have := List.snd_lt_add_of_mem_zipIdx hp
      show _ = (((p.1 : Nat) : Int), Value.int (p.2 : Nat) (if p.2 = l.length then t else ts p.2))
      rw [if_neg (by omega)]
    · simp
  · intro h
    refine ob_ea (List.any_eq_true.mp h) ?_
    intro kv hkv e
    have : kv.1 ∈ (ndk l ts).map (·.1) := List.mem_map_of_mem hkv
    rw [ndk_key] at this
    refine ob_ea (List.mem_map.mp this) ?_
    intro j hj e2
    have e := of_decide_eq_true e
    exact hk (by rw [show k = j by omega]; exact hj)
theorem ndk_without {l : List Nat} {ts : Nat → Tok} {k : Nat} (hk : k ∉ l) : without (ndk (l ++ [k]) ts) (k : Int) = ndk l ts := by
  have e : ndk (l ++ [k]) ts = ndk l ts ++ [((k : Int), .int (l.length : Nat) (ts l.length))] := by
    unfold ndk
    rw [List.zipIdx_append, List.map_append]
    simp
  unfold without
  rw [e, List.filter_append]
  simp only [List.filter_cons, ne_eq, not_true_eq_false, decide_false, List.filter_nil, List.append_nil]
  refine (List.append_nil _).trans (List.filter_eq_self.mpr fun kv hkv => ?_)
  have : kv.1 ∈ (ndk l ts).map (·.1) := List.mem_map_of_mem hkv
  rw [ndk_key] at this
  refine ob_ea (List.mem_map.mp this) ?_
  intro j hj e2
  refine decide_eq_true fun e3 => hk ?_
  rw [show k = j by omega]
  exact hj
theorem ndk_there {l : List Nat} {ts : Nat → Tok} {k : Nat} : (valueAt (ndk l ts) (k : Int)).isSome = decide (k ∈ l) := by
  unfold valueAt
  rw [Option.isSome_map]
  by_cases h : k ∈ l
  · rw [decide_eq_true h, List.find?_isSome]
    have : ((k : Nat) : Int) ∈ (ndk l ts).map (·.1) := by rw [ndk_key]; exact List.mem_map_of_mem (f := fun j : Nat => ((j : Nat) : Int)) h
    refine ob_ea (List.mem_map.mp this) ?_
    intro kv h1 h2
    exact ⟨kv, h1, decide_eq_true h2⟩
  · rw [decide_eq_false h, List.find?_eq_none.mpr]
    · rfl
    · intro kv hkv e
      have : kv.1 ∈ (ndk l ts).map (·.1) := List.mem_map_of_mem hkv
      rw [ndk_key] at this
      refine ob_ea (List.mem_map.mp this) ?_
      intro j hj e2
      have e := of_decide_eq_true e
      exact h (by rw [show k = j by omega]; exact hj)

theorem refs_succ {ba : Nat → Addr} {n : Nat} {b : Addr} : refs ba n ++ [.ref b] = refs (fun i => if i = n then b else ba i) (n + 1) := by
  unfold refs
  rw [List.range_succ, List.map_append]
  refine congr (congrArg _ (List.map_congr_left fun i hi => ?_)) (by simp)
  have := List.mem_range.mp hi
  show Value.ref (ba i) = .ref (if i = n then b else ba i)
  rw [if_neg (by omega)]

theorem mm2 {nx' : Led} {a : Addr} {o : Obj} (h : (a, o) ∈ nx') : a ∈ nx'.map (·.1) := List.mem_map.mpr ⟨_, h, rfl⟩
noncomputable def Dst.push (δ : Dst) (k : Nat) (b it : Addr) : Dst :=
  { δ with ba := fun i => if i = δ.stk.length then b else δ.ba i, ta := fun i => if i = δ.stk.length then it else δ.ta i,
           ρ := fun a => if a = b then some (4, δ.stk.length) else if a = it then some (5, δ.stk.length) else δ.ρ a, stk := δ.stk ++ [(k, 0)], seen := δ.seen ++ [k] }
theorem Df.push {k : Nat} {b it : Addr} {vs : List Value} {n n' : Nat} {o o' : Obj} {t : Tok} {ts : Nat → Tok} (D : Df w sa fs bs δ nx) (hk : k ∉ δ.stk.map (·.1)) (hks : k ∉ δ.seen)
    (hit : ∀ p ∈ nx, p.1 ≠ it) (hb : ∀ p ∈ nx, p.1 ≠ b) (hbi : b ≠ it) (hif : it ∉ fs) (hbf : b ∉ fs)
    (n1 : (δ.st, lstO (vs) n) ∈ nx') (hv : IV vs (δ.stk.map (·.1) ++ [k])) (n2 : (δ.its, lstO (refs δ.ba δ.stk.length ++ [.ref b]) n') ∈ nx')
    (n3 : (δ.se, o) ∈ nx') (ho : o.SetObjOf (intKind PG w) (fun k' => decide (k' ∈ δ.seen.map fun j => ((j : Nat) : Int)) || decide (k' = ((k : Nat) : Int))) (if decide (((k : Nat) : Int) ∈ δ.seen.map fun j => ((j : Nat) : Int)) = true then δ.seen.length else δ.seen.length + 1))
    (n4 : (δ.nd, o') ∈ nx') (ho' : o'.IsDictOf (intKind PG w) (stored (ndk (δ.stk.map (·.1)) ts) (k : Int) (.int (δ.stk.length : Nat) t)))
    (n5 : (b, NX.wrap it) ∈ nx') (n6 : (it, NX.iterO (sa k) 0) ∈ nx')
    (hkeep : ∀ p ∈ nx, p.1 ≠ δ.st → p.1 ≠ δ.its → p.1 ≠ δ.se → p.1 ≠ δ.nd → p ∈ nx') : Df w sa fs bs (δ.push k b it) nx' := by
  have mm : ∀ {a o}, (a, o) ∈ nx → a ∈ nx.map (·.1) := fun h => List.mem_map.mpr ⟨_, h, rfl⟩
  have ro : ∀ a, a ∈ nx.map (·.1) → (δ.push k b it).ρ a = δ.ρ a := fun a ha => by
    refine ob_ea (List.mem_map.mp ha) ?_
    intro p hp er4
    subst er4
    show (if p.1 = b then _ else if p.1 = it then _ else δ.ρ p.1) = _
    rw [if_neg (hb p hp), if_neg (hit p hp)]
  have rr : ∀ {a t}, δ.ρ a = some t → (δ.push k b it).ρ a = some t := fun h => (ro _ (D.dom _ (some_ne h)).1).trans h
  have len : (δ.push k b it).stk.length = δ.stk.length + 1 := by show (δ.stk ++ [(k, 0)]).length = _; simp
  have mp : (δ.push k b it).stk.map (·.1) = δ.stk.map (·.1) ++ [k] := by show (δ.stk ++ [(k, 0)]).map _ = _; simp
  have kp : ∀ p ∈ nx, (∀ j, δ.ρ p.1 ≠ some (0, j) ∧ δ.ρ p.1 ≠ some (1, j) ∧ δ.ρ p.1 ≠ some (2, j) ∧ δ.ρ p.1 ≠ some (3, j)) → p ∈ nx' := fun p hp h =>
    hkeep p hp (fun e => (h 0).1 (by rw [e]; exact D.r0)) (fun e => (h 0).2.1 (by rw [e]; exact D.r1)) (fun e => (h 0).2.2.1 (by rw [e]; exact D.r2)) (fun e => (h 0).2.2.2 (by rw [e]; exact D.r3))
  have hkm : ((k : Nat) : Int) ∉ δ.seen.map fun j => ((j : Nat) : Int) := fun h => by
    refine ob_ea (List.mem_map.mp h) ?_
    intro j hj e
    exact hks (by rw [show k = j by omega]; exact hj)
  exact {
    base := fun p hp => ⟨kp p (D.base p hp).1 (by rw [(D.base p hp).2.1]; simp), (ro _ (mm (D.base p hp).1)).trans (D.base p hp).2.1, (D.base p hp).2.2⟩
    stack := ⟨vs, n, by rw [mp]; exact hv, n1⟩
    its_ := ⟨n', by rw [len]; rw [refs_succ] at n2; exact n2⟩
    seen_ := ⟨o, n3, by
      rw [if_neg (by rw [decide_eq_false hkm]; exact Bool.false_ne_true)] at ho
      have e1 : (fun k' : Int => decide (k' ∈ (δ.push k b it).seen.map fun j => ((j : Nat) : Int))) = fun k' => decide (k' ∈ δ.seen.map fun j => ((j : Nat) : Int)) || decide (k' = ((k : Nat) : Int)) := by
        funext k'
        show decide (k' ∈ (δ.seen ++ [k]).map fun j => ((j : Nat) : Int)) = _
        rw [← Bool.decide_or]
        congr 1
        simp only [List.map_append, List.map_cons, List.map_nil, List.mem_append, List.mem_singleton]
      have e2 : (δ.push k b it).seen.length = δ.seen.length + 1 := by show (δ.seen ++ [k]).length = _; simp
      rw [e1, e2]; exact ho⟩
    nd_ := ⟨o', fun i => if i = δ.stk.length then t else ts i, n4, by
      have := ndk_stored (l := δ.stk.map (·.1)) (ts := ts) (t := t) hk
      rw [List.length_map] at this
      rw [mp, ← this]; exact ho'⟩
    lo := D.lo
    ent := fun i e h => by
      replace h : (δ.stk ++ [(k, 0)])[i]? = some e := h
      by_cases hi : i < δ.stk.length
      · rw [List.getElem?_append_left hi] at h
        obtain ⟨h1, h2⟩ := D.ent i e h
        have a1 : (δ.push k b it).ba i = δ.ba i := if_neg (by omega)
        have a2 : (δ.push k b it).ta i = δ.ta i := if_neg (by omega)
        rw [a1, a2]
        exact ⟨kp _ h1 (by show ∀ j, δ.ρ (δ.ba i) ≠ _ ∧ δ.ρ (δ.ba i) ≠ _ ∧ δ.ρ (δ.ba i) ≠ _ ∧ δ.ρ (δ.ba i) ≠ _; rw [D.r4 i hi]; simp), kp _ h2 (by show ∀ j, δ.ρ (δ.ta i) ≠ _ ∧ δ.ρ (δ.ta i) ≠ _ ∧ δ.ρ (δ.ta i) ≠ _ ∧ δ.ρ (δ.ta i) ≠ _; rw [D.r5 i hi]; simp)⟩
      · have hlt := lt_of_get h
        have : i = δ.stk.length := by simp at hlt; omega
        subst this
        rw [List.getElem?_append_right (Nat.le_refl _)] at h
        simp at h
        subst h
        have a1 : (δ.push k b it).ba δ.stk.length = b := if_pos rfl
        have a2 : (δ.push k b it).ta δ.stk.length = it := if_pos rfl
        rw [a1, a2]
        exact ⟨n5, n6⟩
    r0 := rr D.r0
    r1 := rr D.r1
    r2 := rr D.r2
    r3 := rr D.r3
    r4 := fun i hi => by
      rw [len] at hi
      by_cases e : i = δ.stk.length
      · subst e
        show (δ.push k b it).ρ (if _ then b else _) = _
        rw [if_pos rfl]
        exact if_pos rfl
      · show (δ.push k b it).ρ (if i = δ.stk.length then b else δ.ba i) = _
        rw [if_neg e]
        exact rr (D.r4 i (by omega))
    r5 := fun i hi => by
      rw [len] at hi
      by_cases e : i = δ.stk.length
      · subst e
        show (δ.push k b it).ρ (if _ then it else _) = _
        rw [if_pos rfl]
        exact (if_neg (Ne.symm hbi)).trans (if_pos rfl)
      · show (δ.push k b it).ρ (if i = δ.stk.length then it else δ.ta i) = _
        rw [if_neg e]
        exact rr (D.r5 i (by omega))
    dom := fun a ha => by
      by_cases e1 : a = b
      · subst e1; exact ⟨mm2 n5, hbf⟩
      by_cases e2 : a = it
      · subst e2; exact ⟨mm2 n6, hif⟩
      have ha' : δ.ρ a ≠ none := by
        rwa [show (δ.push k b it).ρ a = δ.ρ a from (if_neg e1).trans (if_neg e2)] at ha
      refine ⟨?_, (D.dom a ha').2⟩
      refine ob_ea (List.mem_map.mp (D.dom a ha').1) ?_
      intro p hp er5
      subst er5
      by_cases z0 : p.1 = δ.st
      · rw [z0]; exact mm2 n1
      by_cases z1 : p.1 = δ.its
      · rw [z1]; exact mm2 n2
      by_cases z2 : p.1 = δ.se
      · rw [z2]; exact mm2 n3
      by_cases z3 : p.1 = δ.nd
      · rw [z3]; exact mm2 n4
      exact List.mem_map.mpr ⟨p, hkeep p hp z0 z1 z2 z3, rfl⟩
    nod := by rw [mp]; exact List.nodup_append.mpr ⟨D.nod, by simp, fun a ha b' hb' e => by rw [List.mem_singleton.mp hb'] at e; exact hk (e ▸ ha)⟩ }
noncomputable def Dst.next (δ : Dst) (s : List (Nat × Nat)) (k i : Nat) : Dst := { δ with stk := s ++ [(k, i)] }
theorem Df.next {s : List (Nat × Nat)} {k i : Nat} (D : Df w sa fs bs δ nx) (hs : δ.stk = s ++ [(k, i)]) (n1 : (δ.ta s.length, NX.iterO (sa k) (i + 1)) ∈ nx') (hkeep : ∀ p ∈ nx, p.1 ≠ δ.ta s.length → p ∈ nx') : Df w sa fs bs (δ.next s k (i + 1)) nx' := by
  have len : (δ.next s k (i + 1)).stk.length = δ.stk.length := by rw [hs]; show (s ++ [(k, i + 1)]).length = _; simp
  have mp : (δ.next s k (i + 1)).stk.map (·.1) = δ.stk.map (·.1) := by rw [hs]; show (s ++ [(k, i + 1)]).map _ = _; simp
  have top : s.length < δ.stk.length := by rw [hs]; simp
  have rt := D.r5 _ top
  have ne : ∀ {a t}, δ.ρ a = t → t ≠ some (5, s.length) → a ≠ δ.ta s.length := fun h h2 e => h2 (by rw [← h, e]; exact rt)
  exact {
    base := fun p hp => ⟨hkeep p (D.base p hp).1 (ne (D.base p hp).2.1 (by simp)), (D.base p hp).2⟩
    stack := let ⟨a, b, c, h⟩ := D.stack; ⟨a, b, by rw [mp]; exact c, hkeep _ h (ne D.r0 (by simp))⟩
    its_ := let ⟨a, h⟩ := D.its_; ⟨a, by rw [len]; exact hkeep _ h (ne D.r1 (by simp))⟩
    seen_ := let ⟨a, h, b⟩ := D.seen_; ⟨a, hkeep _ h (ne D.r2 (by simp)), b⟩
    nd_ := let ⟨a, t, h, b⟩ := D.nd_; ⟨a, t, hkeep _ h (ne D.r3 (by simp)), by rw [mp]; exact b⟩
    lo := D.lo
    ent := fun j e h => by
      replace h : (s ++ [(k, i + 1)])[j]? = some e := h
      by_cases hj : j < s.length
      · rw [List.getElem?_append_left hj] at h
        obtain ⟨h1, h2⟩ := D.ent j e (by rw [hs, List.getElem?_append_left hj]; exact h)
        exact ⟨hkeep _ h1 (ne (D.r4 j (by omega)) (by simp)), hkeep _ h2 (ne (D.r5 j (by omega)) (by simp; omega))⟩
      · have hlt := lt_of_get h
        have : j = s.length := by simp at hlt; omega
        subst this
        rw [List.getElem?_append_right (Nat.le_refl _)] at h
        simp at h
        subst h
        obtain ⟨h1, h2⟩ := D.ent s.length (k, i) (by rw [hs, List.getElem?_append_right (Nat.le_refl _)]; simp)
        exact ⟨hkeep _ h1 (ne (D.r4 _ top) (by simp)), n1⟩
    r0 := D.r0
    r1 := D.r1
    r2 := D.r2
    r3 := D.r3
    r4 := fun j hj => D.r4 j (by rw [len] at hj; exact hj)
    r5 := fun j hj => D.r5 j (by rw [len] at hj; exact hj)
    dom := fun a ha => by
      refine ⟨?_, (D.dom a ha).2⟩
      refine ob_ea (List.mem_map.mp (D.dom a ha).1) ?_
      intro p hp er6
      subst er6
      by_cases z0 : p.1 = δ.ta s.length
      · rw [z0]; exact List.mem_map.mpr ⟨_, n1, rfl⟩
      exact List.mem_map.mpr ⟨p, hkeep p hp z0, rfl⟩
    nod := by rw [mp]; exact D.nod }

noncomputable def Dst.pop (δ : Dst) (s : List (Nat × Nat)) : Dst := { δ with stk := s, ρ := fun a => if a = δ.ta s.length then none else δ.ρ a }
theorem Df.pop {s : List (Nat × Nat)} {k i : Nat} {vs : List Value} {n n' : Nat} {o : Obj} {ts : Nat → Tok} (D : Df w sa fs bs δ nx) (hs : δ.stk = s ++ [(k, i)])
    (n1 : (δ.st, lstO vs n) ∈ nx') (hv : IV vs (s.map (·.1))) (n2 : (δ.its, lstO (refs δ.ba s.length) n') ∈ nx') (n4 : (δ.nd, o) ∈ nx') (ho : o.IsDictOf (intKind PG w) (without (ndk (δ.stk.map (·.1)) ts) (k : Int)))
    (hkeep : ∀ p ∈ nx, p.1 ≠ δ.st → p.1 ≠ δ.its → p.1 ≠ δ.nd → p.1 ≠ δ.ta s.length → p ∈ nx') : Df w sa fs bs (δ.pop s) nx' := by
  have top : s.length < δ.stk.length := by rw [hs]; simp
  have rt := D.r5 _ top
  have ne : ∀ {a t}, δ.ρ a = t → t ≠ some (5, s.length) → a ≠ δ.ta s.length := fun h h2 e => h2 (by rw [← h, e]; exact rt)
  have rr : ∀ {a t}, δ.ρ a = t → t ≠ some (5, s.length) → (δ.pop s).ρ a = t := fun h h2 => (if_neg (ne h h2)).trans h
  have mp : δ.stk.map (·.1) = s.map (·.1) ++ [k] := by rw [hs]; simp
  have nod := D.nod
  rw [mp] at nod
  have hks : k ∉ s.map (·.1) := fun h => (List.nodup_append.mp nod).2.2 k h k (by simp) rfl
  have kp : ∀ p ∈ nx, ∀ t, δ.ρ p.1 = t → t ≠ some (5, s.length) → t ≠ some (0, 0) → t ≠ some (1, 0) → t ≠ some (3, 0) → p ∈ nx' := fun p hp t h h5 h0 h1 h3 =>
    hkeep p hp (fun e => h0 (by rw [← h, e]; exact D.r0)) (fun e => h1 (by rw [← h, e]; exact D.r1)) (fun e => h3 (by rw [← h, e]; exact D.r3)) (ne h h5)
  exact {
    base := fun p hp => ⟨kp p (D.base p hp).1 _ (D.base p hp).2.1 (by simp) (by simp) (by simp) (by simp), rr (D.base p hp).2.1 (by simp), (D.base p hp).2.2⟩
    stack := ⟨vs, n, hv, n1⟩
    its_ := ⟨n', n2⟩
    seen_ := let ⟨a, h, b⟩ := D.seen_; ⟨a, kp _ h _ D.r2 (by simp) (by simp) (by simp) (by simp), b⟩
    nd_ := ⟨o, ts, n4, by rw [mp, ndk_without hks] at ho; exact ho⟩
    lo := D.lo
    ent := fun j e h => by
      replace h : s[j]? = some e := h
      have hj := lt_of_get h
      obtain ⟨h1, h2⟩ := D.ent j e (by rw [hs, List.getElem?_append_left hj]; exact h)
      exact ⟨kp _ h1 _ (D.r4 j (Nat.lt_trans hj top)) (by simp) (by simp) (by simp) (by simp), kp _ h2 _ (D.r5 j (Nat.lt_trans hj top)) (by simp; exact Nat.ne_of_lt hj) (by simp) (by simp) (by simp)⟩
    r0 := rr D.r0 (by simp)
    r1 := rr D.r1 (by simp)
    r2 := rr D.r2 (by simp)
    r3 := rr D.r3 (by simp)
    r4 := fun j hj => rr (D.r4 j (Nat.lt_trans hj top)) (by simp)
    r5 := fun j hj => rr (D.r5 j (Nat.lt_trans hj top)) (by simp; exact Nat.ne_of_lt hj)
    dom := fun a ha => by
      have hat : a ≠ δ.ta s.length := fun e => ha (if_pos e)
      have ha' : δ.ρ a ≠ none := by rwa [show (δ.pop s).ρ a = δ.ρ a from if_neg hat] at ha
      refine ⟨?_, (D.dom a ha').2⟩
      refine ob_ea (List.mem_map.mp (D.dom a ha').1) ?_
      intro p hp er7
      subst er7
      by_cases z0 : p.1 = δ.st
      · rw [z0]; exact List.mem_map.mpr ⟨_, n1, rfl⟩
      by_cases z1 : p.1 = δ.its
      · rw [z1]; exact List.mem_map.mpr ⟨_, n2, rfl⟩
      by_cases z3 : p.1 = δ.nd
      · rw [z3]; exact List.mem_map.mpr ⟨_, n4, rfl⟩
      exact List.mem_map.mpr ⟨p, hkeep p hp z0 z1 z3 hat, rfl⟩
    nod := (List.nodup_append.mp nod).1 }
end
end Mine
end
section
set_option Elab.async false
set_option linter.unusedVariables false
namespace Mine
noncomputable def FinOk (su : Nat → List Nat) (fin : List Nat) : Prop := ∀ i u, fin[i]? = some u → ∀ v ∈ su u, ∃ j : Nat, j < i ∧ fin[j]? = some v
noncomputable def Cyc (su : Nat → List Nat) : Prop := ∃ C : List Nat, C ≠ [] ∧ ∀ u ∈ C, ∃ p ∈ C, u ∈ su p
noncomputable def nodes (stk : List (Nat × Nat)) : List Nat := stk.map (·.1)
structure Dg (su : Nat → List Nat) (ord : List Nat) (stk : List (Nat × Nat)) (seen fin : List Nat) (cur : Option Nat) : Prop where
  sub : ∀ u ∈ seen, u ∈ fin ∨ u ∈ nodes stk
  on : ∀ u ∈ nodes stk, u ∈ seen
  fin_ : FinOk su fin
  cons : ∀ i e, stk[i]? = some e → ∀ j, j < e.2 → ∀ v, (su e.1)[j]? = some v → v ∈ fin ∨ (nodes stk ++ cur.toList)[i + 1]? = some v
  path : ∀ i e v, stk[i]? = some e → (nodes stk ++ cur.toList)[i + 1]? = some v → v ∈ su e.1
  bound : ∀ e ∈ stk, e.2 ≤ (su e.1).length
  nod : seen.Nodup
  inord : ∀ u ∈ seen, u ∈ ord
noncomputable def phi (su : Nat → List Nat) (ord : List Nat) (stk : List (Nat × Nat)) (seen : List Nat) : Nat :=
  ((ord.filter fun u => !(seen.contains u)).map fun u => (su u).length + 2).sum + (stk.map fun e => (su e.1).length + 1 - e.2).sum

section
variable {su : Nat → List Nat} {ord : List Nat} {stk : List (Nat × Nat)} {seen fin : List Nat} {k : Nat}
theorem nodes_get {i : Nat} {e : Nat × Nat} (h : stk[i]? = some e) : (nodes stk)[i]? = some e.1 := by unfold nodes; rw [List.getElem?_map, h]; rfl
theorem nodes_len : (nodes stk).length = stk.length := List.length_map ..
theorem lt_get {α : Type} {l : List α} {i : Nat} {x : α} (h : l[i]? = some x) : i < l.length := (List.getElem?_eq_some_iff.mp h).1
theorem get_last {α : Type} {l : List α} {x y : α} {i : Nat} (h : (l ++ [x])[i]? = some y) : l[i]? = some y ∨ (i = l.length ∧ y = x) := by
  by_cases hi : i < l.length
  · rw [List.getElem?_append_left hi] at h; exact .inl h
  · have hl := lt_get h
    simp at hl
    have : i = l.length := by omega
    subst this
    rw [List.getElem?_append_right (Nat.le_refl _)] at h
    simp at h
    exact .inr ⟨rfl, h.symm⟩

theorem Dg.push (D : Dg su ord stk seen fin (some k)) (hk : k ∉ seen) (ho : k ∈ ord) : Dg su ord (stk ++ [(k, 0)]) (seen ++ [k]) fin none := by
  have en : nodes (stk ++ [(k, 0)]) ++ (none : Option Nat).toList = nodes stk ++ (some k).toList := by simp [nodes]
  have en' : nodes (stk ++ [(k, 0)]) = nodes stk ++ [k] := by simp [nodes]
  refine ⟨fun u hu => ?_, fun u hu => ?_, D.fin_, fun i e h j hj v hv => ?_, fun i e v h hv => ?_, fun e he => ?_, ?_, fun u hu => ?_⟩
  · rw [en']
    rcases List.mem_append.mp hu with hu | hu
    · rcases D.sub u hu with h | h
      · exact .inl h
      · exact .inr (List.mem_append_left _ h)
    · exact .inr (List.mem_append_right _ hu)
  · rw [en'] at hu
    rcases List.mem_append.mp hu with hu | hu
    · exact List.mem_append_left _ (D.on u hu)
    · exact List.mem_append_right _ hu
  · rw [en]
    rcases get_last h with h | ⟨rfl, rfl⟩
    · exact D.cons i e h j hj v hv
    · exact absurd hj (Nat.not_lt_zero _)
  · rw [en] at hv
    rcases get_last h with h | ⟨rfl, rfl⟩
    · exact D.path i e v h hv
    · have := lt_get hv
      rw [List.length_append, nodes_len] at this
      simp at this
  · rcases List.mem_append.mp he with he | he
    · exact D.bound e he
    · rw [List.mem_singleton.mp he]; exact Nat.zero_le _
  · exact List.nodup_append.mpr ⟨D.nod, by simp, fun a ha b hb e => by rw [List.mem_singleton.mp hb] at e; exact hk (e ▸ ha)⟩
  · rcases List.mem_append.mp hu with hu | hu
    · exact D.inord u hu
    · rw [List.mem_singleton.mp hu]; exact ho

theorem Dg.skip (D : Dg su ord stk seen fin (some k)) (hk : k ∈ seen) (hn : k ∉ nodes stk) : Dg su ord stk seen fin none := by
  have hf : k ∈ fin := (D.sub k hk).resolve_right hn
  refine ⟨D.sub, D.on, D.fin_, fun i e h j hj v hv => ?_, fun i e v h hv => ?_, D.bound, D.nod, D.inord⟩
  · rcases D.cons i e h j hj v hv with q | q
    · exact .inl q
    · rw [show (some k).toList = [k] from rfl] at q
      rcases get_last q with q | ⟨_, rfl⟩
      · exact .inr (by simpa using q)
      · exact .inl hf
  · refine D.path i e v h ?_
    rw [show (none : Option Nat).toList = [] from rfl, List.append_nil] at hv
    rw [List.getElem?_append_left (lt_get hv)]
    exact hv

theorem Dg.next {s : List (Nat × Nat)} {u i v : Nat} (D : Dg su ord (s ++ [(u, i)]) seen fin none) (hv : (su u)[i]? = some v) : Dg su ord (s ++ [(u, i + 1)]) seen fin (some v) := by
  have en : nodes (s ++ [(u, i + 1)]) = nodes (s ++ [(u, i)]) := by simp [nodes]
  have en2 : nodes (s ++ [(u, i)]) = nodes s ++ [u] := by simp [nodes]
  refine ⟨fun x hx => by rw [en]; exact D.sub x hx, fun x hx => D.on x (by rw [← en]; exact hx), D.fin_, fun a e h j hj x hx => ?_, fun a e x h hx => ?_, fun e he => ?_, D.nod, D.inord⟩
  · rw [en]
    rcases get_last h with h | ⟨rfl, rfl⟩
    · rcases D.cons a e (by rw [List.getElem?_append_left (lt_get h)]; exact h) j hj x hx with q | q
      · exact .inl q
      · rw [show (none : Option Nat).toList = [] from rfl, List.append_nil] at q
        exact .inr (by rw [List.getElem?_append_left (lt_get q)]; exact q)
    · by_cases hji : j = i
      · subst hji
        rw [hv] at hx
        cases hx
        refine .inr ?_
        rw [List.getElem?_append_right (by rw [nodes_len]; simp), nodes_len]
        simp
      · rcases D.cons s.length (u, i) (by rw [List.getElem?_append_right (Nat.le_refl _)]; simp) j (by show j < i; exact Nat.lt_of_le_of_ne (Nat.le_of_lt_succ hj) hji) x hx with q | q
        · exact .inl q
        · have := lt_get q
          rw [show (none : Option Nat).toList = [] from rfl, List.append_nil, nodes_len] at this
          simp at this
  · rw [en] at hx
    rcases get_last h with h | ⟨rfl, rfl⟩
    · have hlt := lt_get h
      rw [List.getElem?_append_left (by rw [nodes_len]; simp; omega)] at hx
      refine D.path a e x (by rw [List.getElem?_append_left hlt]; exact h) ?_
      rw [show (none : Option Nat).toList = [] from rfl, List.append_nil]
      exact hx
    · rw [List.getElem?_append_right (by rw [nodes_len]; simp), nodes_len] at hx
      simp at hx
      subst hx
      exact List.mem_of_getElem? hv
  · rcases List.mem_append.mp he with he | he
    · exact D.bound e (List.mem_append_left _ he)
    · rw [List.mem_singleton.mp he]; exact lt_get hv

theorem Dg.pop {s : List (Nat × Nat)} {u i : Nat} (D : Dg su ord (s ++ [(u, i)]) seen fin none) (hv : (su u)[i]? = none) : Dg su ord s seen (fin ++ [u]) none := by
  have en2 : nodes (s ++ [(u, i)]) = nodes s ++ [u] := by simp [nodes]
  refine ⟨fun x hx => ?_, fun x hx => D.on x (by rw [en2]; exact List.mem_append_left _ hx), fun a x h v hv' => ?_, fun a e h j hj x hx => ?_, fun a e x h hx => ?_, fun e he => D.bound e (List.mem_append_left _ he), D.nod, D.inord⟩
  · rcases D.sub x hx with q | q
    · exact .inl (List.mem_append_left _ q)
    · rw [en2] at q
      rcases List.mem_append.mp q with q | q
      · exact .inr q
      · exact .inl (List.mem_append_right _ q)
  · rcases get_last h with h | ⟨rfl, rfl⟩
    · obtain ⟨j, hj, e⟩ := D.fin_ a x h v hv'
      exact ⟨j, hj, by rw [List.getElem?_append_left (lt_get e)]; exact e⟩
    · obtain ⟨j, hj⟩ := List.getElem?_of_mem hv'
      have hji : j < i := by
        have h1 := lt_get hj
        have h2 : (su x).length ≤ i := by simpa using hv
        omega
      rcases D.cons s.length (x, i) (by rw [List.getElem?_append_right (Nat.le_refl _)]; simp) j hji v hj with q | q
      · obtain ⟨b, hb⟩ := List.getElem?_of_mem q
        exact ⟨b, lt_get hb, by rw [List.getElem?_append_left (lt_get hb)]; exact hb⟩
      · have := lt_get q
        rw [show (none : Option Nat).toList = [] from rfl, List.append_nil, nodes_len] at this
        simp at this
  · rcases D.cons a e (by rw [List.getElem?_append_left (lt_get h)]; exact h) j hj x hx with q | q
    · exact .inl (List.mem_append_left _ q)
    · rw [show (none : Option Nat).toList = [] from rfl, List.append_nil, en2] at q
      rcases get_last q with q | ⟨_, rfl⟩
      · exact .inr (by simpa using q)
      · exact .inl (List.mem_append_right _ (by simp))
  · rw [show (none : Option Nat).toList = [] from rfl, List.append_nil] at hx
    refine D.path a e x (by rw [List.getElem?_append_left (lt_get h)]; exact h) ?_
    rw [show (none : Option Nat).toList = [] from rfl, List.append_nil, en2, List.getElem?_append_left (lt_get hx)]
    exact hx

theorem Dg.start (D : Dg su ord [] seen fin none) (k : Nat) : Dg su ord [] seen fin (some k) :=
  ⟨D.sub, D.on, D.fin_, fun i e h => by simp at h, fun i e v h => by simp at h, D.bound, D.nod, D.inord⟩

theorem Dg.cyc (D : Dg su ord stk seen fin (some k)) (hk : k ∈ nodes stk) : Cyc su := by
  obtain ⟨j, hj⟩ := List.getElem?_of_mem hk
  have hjl := lt_get hj
  rw [nodes_len] at hjl
  refine ⟨(nodes stk).drop j, fun e => ?_, fun u hu => ?_⟩
  · have := congrArg List.length e
    rw [List.length_drop, nodes_len] at this
    simp at this
    omega
  · have step : ∀ i, j ≤ i → ∀ v, (nodes stk ++ [k])[i + 1]? = some v → i < stk.length → ∃ p ∈ (nodes stk).drop j, v ∈ su p := fun i hi v hv hl => by
      have he : stk[i]? = some stk[i] := List.getElem?_eq_getElem hl
      refine ⟨stk[i].1, ?_, D.path i _ v he hv⟩
      have hm := nodes_get he
      refine List.mem_of_getElem? (i := i - j) ?_
      rw [List.getElem?_drop, show j + (i - j) = i by omega]
      exact hm
    obtain ⟨a, ha⟩ := List.getElem?_of_mem hu
    rw [List.getElem?_drop] at ha
    have hal := lt_get ha
    rw [nodes_len] at hal
    cases a with
    | zero =>
      rw [Nat.add_zero, hj] at ha
      cases ha
      refine step (stk.length - 1) (by omega) k ?_ (by omega)
      rw [List.getElem?_append_right (by rw [nodes_len]; omega), nodes_len, show stk.length - 1 + 1 - stk.length = 0 by omega]
      rfl
    | succ a =>
      refine step (j + a) (by omega) u ?_ (by omega)
      rw [List.getElem?_append_left (by rw [nodes_len]; omega)]
      exact ha

theorem phi_push (hk : k ∉ seen) (ho : k ∈ ord) (hnd : ord.Nodup) : phi su ord (stk ++ [(k, 0)]) (seen ++ [k]) < phi su ord stk seen := by
  unfold phi
  have key : ∀ l : List Nat, l.Nodup → k ∈ l → ((l.filter fun u => !((seen ++ [k]).contains u)).map fun u => (su u).length + 2).sum + ((su k).length + 2) = ((l.filter fun u => !(seen.contains u)).map fun u => (su u).length + 2).sum := by
    intro l hl hk'
    induction l with
    | nil => cases hk'
    | cons x l ih =>
      have hx := (List.nodup_cons.mp hl).1
      by_cases e : x = k
      · subst e
        have h1 : (l.filter fun u => !((seen ++ [x]).contains u)) = l.filter fun u => !(seen.contains u) := by
          refine List.filter_congr fun y hy => ?_
          have hyx : y ≠ x := fun e => hx (e ▸ hy)
          have : (y ∈ seen ++ [x]) ↔ y ∈ seen := by simp [hyx]
          simp only [List.contains_eq_mem, this]
        rw [List.filter_cons_of_neg (by simp), List.filter_cons_of_pos (by simpa using hk), h1, List.map_cons, List.sum_cons]
        omega
      · have hkl : k ∈ l := by
          rcases List.mem_cons.mp hk' with q | q
          · exact absurd q.symm e
          · exact q
        have := ih (List.nodup_cons.mp hl).2 hkl
        have hiff : (x ∈ seen ++ [k]) ↔ x ∈ seen := by simp [e]
        by_cases hs : x ∈ seen
        · rw [List.filter_cons_of_neg (by simp [hs]), List.filter_cons_of_neg (by simp [hs])]
          exact this
        · rw [List.filter_cons_of_pos (by simp [hs, e]), List.filter_cons_of_pos (by simp [hs]), List.map_cons, List.map_cons, List.sum_cons, List.sum_cons]
          omega
  have := key ord hnd ho
  rw [List.map_append, List.sum_append]
  simp only [List.map_cons, List.map_nil, List.sum_cons, List.sum_nil]
  omega
theorem phi_next {s : List (Nat × Nat)} {u i v : Nat} (hv : (su u)[i]? = some v) : phi su ord (s ++ [(u, i + 1)]) seen < phi su ord (s ++ [(u, i)]) seen := by
  have := lt_get hv
  unfold phi
  rw [List.map_append, List.map_append, List.sum_append, List.sum_append]
  simp
  omega
theorem phi_pop {s : List (Nat × Nat)} {u i : Nat} (hb : i ≤ (su u).length) : phi su ord s seen < phi su ord (s ++ [(u, i)]) seen := by
  unfold phi
  rw [List.map_append, List.sum_append]
  simp
  omega
end
end Mine
end
section
open PySem PySem.W PyProof.Rows PySem.Spec PySem.Calls
set_option Elab.async false
set_option maxRecDepth 100000
set_option maxHeartbeats 4000000
set_option linter.unusedVariables false
namespace Mine
local macro_rules | `(tactic| walk_at "none S9 0") => `(tactic| skip)
local macro_rules | `(tactic| walk_at "none S9 1") => `(tactic| skip)
theorem calm_S9 : True := by
  w_top off
  k_with_none
  trivial

local macro_rules | `(tactic| walk_at "exec If") => `(tactic| ((with_reducible show wpAny _ _ (exec (Stmt.If (Expr.Compare (Expr.Name _ _) [CmpOp.In] _ _) (Stmt.If _ _ _ _ :: _) _ _) _) _ _ _); refine held ?_))
local macro_rules | `(tactic| walk_at "exec While Constant cons nil") => `(tactic| refine held ?_)
local macro_rules | `(tactic| walk_at "exec While Name cons cons") => `(tactic| refine held ?_)
noncomputable def CtrT (b : Nat) (f : Addr) (w : World) (vs : List Value) (pre : Led → Prop) (post : Led → Value → Led → Prop) : Prop :=
  ∀ (p : Program) (loose : List Str) (mean : ExcName → Option Value) (mg mb : Str → Option Value) (dp un : Nat) (gd : Option (List Code)) (cn : Str) (cs : Scope) (a : Addr) (ccd : Value) (cl : List (Str × Addr)) (outer : List Env) (A₀ : Around) (base h₀ : Heap) (L : Addr) (m : Str → Option Value) (news : Led) (s : Shared) (Q E : Value → Shared → Prop),
    Below A₀ base outer h₀ → Fr h₀ L s.heap m → (h0.heap_1 w.params).In h₀ → News h₀ L s.heap news → Top p loose mean mg mb h₀ → (h0.heap_1 w.params).In base → Top p loose mean mg mb base → KtsDicts (frs outer) h₀ → cs.kind = .function → pre news →
    dp + b < recursionLimit → un + b < cLine →
    (∀ v news' h' tk' h₀', KtsTurn (frs outer) h₀ h₀' → Fr h₀' L h' m → News h₀' L h' news' → Below A₀ base outer h₀' → post news v news' → Q v { s with heap := h', toks := tk' }) →
      wpAny (model PySem.Challenge.rw_oy0305_01.row.prog w) (ktrTop dp un gd cn cs L a ccd cl outer) (call (.ref f) vs) Q E s
theorem gt_in {K : Frag} {A : Around} {base g : Heap} {l : List Env} (B : Below A base l g) (X : K.In base) : K.In (hideAll g (frs l)) := fun b o e => hideAll_get _ (B.stays _ _ (X b o e)) fun hb => by
  have := (B.frames.mem hb).1
  rw [X b o e] at this
  cases this
theorem gt_stays {A : Around} {base g : Heap} {l : List Env} (B : Below A base l g) : base.StaysIn (hideAll g (frs l)) := fun b o e => hideAll_get _ (B.stays _ _ e) fun hb => by
  have := (B.frames.mem hb).1
  rw [e] at this
  cases this
section
variable {w : World} {sa : Nat → Addr} {fs : List Addr} {bs nx bs' : Led} {δ : Dst}
theorem Df.init {st its se nd : Addr} {o so : Obj} (hb : ∀ p ∈ bs, p ∈ bs' ∧ p.1 ∉ fs) (hfs : ∀ b ∈ fs, b ∈ bs'.map (·.1)) (l1 : ∀ p ∈ bs', p.1 < st) (l2 : @LT.lt Nat _ st its ∧ AllLt its bs') (l3 : @LT.lt Nat _ its se ∧ @LT.lt Nat _ st se ∧ AllLt se bs') (l4 : @LT.lt Nat _ se nd ∧ @LT.lt Nat _ its nd ∧ @LT.lt Nat _ st nd ∧ AllLt nd bs')
    (lo : (nd == sysModules) = false) (hso : so.SetObjOf (intKind PG w) (fun _ => false) 0) (hd : o.IsDictOf (intKind PG w) []) :
    ∃ δ : Dst, δ.st = st ∧ δ.its = its ∧ δ.se = se ∧ δ.nd = nd ∧ δ.stk = [] ∧ δ.seen = [] ∧ Df w sa fs bs δ ((nd, o) :: (se, so) :: (its, lstO [] 0) :: (st, lstO [] 0) :: bs') := by
  refine ⟨⟨st, its, se, nd, fun _ => 0, fun _ => 0, fun a => if a = st then some (0, 0) else if a = its then some (1, 0) else if a = se then some (2, 0) else if a = nd then some (3, 0) else none, [], []⟩, rfl, rfl, rfl, rfl, rfl, rfl, ?_⟩
  have far : ∀ p ∈ bs', p.1 ≠ st ∧ p.1 ≠ its ∧ p.1 ≠ se ∧ p.1 ≠ nd := fun p hp => by
    have h := ltN (l1 p hp)
    refine ⟨neN ?_, neN ?_, neN ?_, neN ?_⟩ <;> omega
  have e1 : its ≠ st := neN (by omega)
  have e2 : se ≠ st := neN (by omega)
  have e3 : se ≠ its := neN (by omega)
  have e4 : nd ≠ st := neN (by omega)
  have e5 : nd ≠ its := neN (by omega)
  have e6 : nd ≠ se := neN (by omega)
  have nf : ∀ a, (∀ p ∈ bs', p.1 ≠ a) → a ∉ fs := fun a h q => by
    refine ob_ea (List.mem_map.mp (hfs a q)) ?_
    intro p hp e
    exact h p hp e
  exact {
    base := fun p hp => ⟨.tail _ (.tail _ (.tail _ (.tail _ (hb p hp).1))), by
      refine ob_aaa (far p (hb p hp).1) ?_
      intro f1 f2 f3 f4
      show (if p.1 = st then _ else if p.1 = its then _ else if p.1 = se then _ else if p.1 = nd then _ else _) = _
      rw [if_neg f1, if_neg f2, if_neg f3, if_neg f4], (hb p hp).2⟩
    stack := ⟨[], 0, .nil, .tail _ (.tail _ (.tail _ (.head _)))⟩
    its_ := ⟨0, .tail _ (.tail _ (.head _))⟩
    seen_ := ⟨so, .tail _ (.head _), by simpa using hso⟩
    nd_ := ⟨o, fun _ => 0, .head _, hd⟩
    lo := lo
    ent := fun i e h => by simp at h
    r0 := if_pos rfl
    r1 := (if_neg e1).trans (if_pos rfl)
    r2 := (if_neg e2).trans ((if_neg e3).trans (if_pos rfl))
    r3 := (if_neg e4).trans ((if_neg e5).trans ((if_neg e6).trans (if_pos rfl)))
    r4 := fun i h => absurd h (Nat.not_lt_zero _)
    r5 := fun i h => absurd h (Nat.not_lt_zero _)
    dom := fun a ha => by
      by_cases q1 : a = st
      · subst q1; exact ⟨by simp, nf _ fun p hp => (far p hp).1⟩
      by_cases q2 : a = its
      · subst q2; exact ⟨by simp, nf _ fun p hp => (far p hp).2.1⟩
      by_cases q3 : a = se
      · subst q3; exact ⟨by simp, nf _ fun p hp => (far p hp).2.2.1⟩
      by_cases q4 : a = nd
      · subst q4; exact ⟨by simp, nf _ fun p hp => (far p hp).2.2.2⟩
      exact absurd ((if_neg q1).trans ((if_neg q2).trans ((if_neg q3).trans (if_neg q4)))) ha
    nod := List.nodup_nil }

variable {A : Around} {E : Value → Shared → Prop} {s : Shared} {h₀ : Heap} {L : Addr} {Q : Value → Shared → Prop} {k : Nat} {t : Tok}
theorem df_seen (N : News h₀ L s.heap nx) (D : Df w sa fs bs δ nx) (hb : δ.seen.length ≤ 100) (h : Q (.bool (decide (k ∈ δ.seen))) { s with toks := s.toks + 1 }) :
    wpAny (model PG w) A (compareOp .In (.int (k : Nat) t) (.ref δ.se)) Q E s := by
  refine ob_ea (D.seen_) ?_
  intro o hm ho
  refine kse_in (News.focus N hm) (UpdF.head off_ne) ho (by unfold scanBound; omega) (intKind_is _ _ _ _) rfl ?_
  have e : decide (((k : Nat) : Int) ∈ δ.seen.map fun j => ((j : Nat) : Int)) = decide (k ∈ δ.seen) := by
    refine decide_eq_decide.mpr ⟨fun h => ?_, fun h => List.mem_map_of_mem (f := fun j : Nat => ((j : Nat) : Int)) h⟩
    refine ob_ea (List.mem_map.mp h) ?_
    intro j hj e
    rw [show k = j by omega]; exact hj
  rw [e]; exact h
theorem df_seen_yes (N : News h₀ L s.heap nx) (D : Df w sa fs bs δ nx) (hb : δ.seen.length ≤ 100) (hk : k ∈ δ.seen) (h : Q (.bool true) { s with toks := s.toks + 1 }) :
    wpAny (model PG w) A (compareOp .In (.int (k : Nat) t) (.ref δ.se)) Q E s := df_seen N D hb (by rw [decide_eq_true hk]; exact h)
theorem df_seen_no (N : News h₀ L s.heap nx) (D : Df w sa fs bs δ nx) (hb : δ.seen.length ≤ 100) (hk : k ∉ δ.seen) (h : Q (.bool false) { s with toks := s.toks + 1 }) :
    wpAny (model PG w) A (compareOp .In (.int (k : Nat) t) (.ref δ.se)) Q E s := df_seen N D hb (by rw [decide_eq_false hk]; exact h)
theorem df_on_yes (N : News h₀ L s.heap nx) (D : Df w sa fs bs δ nx) (hk : k ∈ nodes δ.stk) (h : Q (.bool true) { s with toks := s.toks + 1 }) :
    wpAny (model PG w) A (compareOp .In (.int (k : Nat) t) (.ref δ.nd)) Q E s := by
  refine ob_eea (D.nd_) ?_
  intro o ts hm ho
  exact kda_in N hm ho D.lo (intKind_is _ _ _ _) _ (ndk_there.trans (decide_eq_true hk)) h
theorem df_on_no (N : News h₀ L s.heap nx) (D : Df w sa fs bs δ nx) (hk : k ∉ nodes δ.stk) (h : Q (.bool false) { s with toks := s.toks + 1 }) :
    wpAny (model PG w) A (compareOp .In (.int (k : Nat) t) (.ref δ.nd)) Q E s := by
  refine ob_eea (D.nd_) ?_
  intro o ts hm ho
  exact kda_in N hm ho D.lo (intKind_is _ _ _ _) _ (ndk_there.trans (decide_eq_false hk)) h
theorem df_on (N : News h₀ L s.heap nx) (D : Df w sa fs bs δ nx) (h : Q (.bool (decide (k ∈ nodes δ.stk))) { s with toks := s.toks + 1 }) :
    wpAny (model PG w) A (compareOp .In (.int (k : Nat) t) (.ref δ.nd)) Q E s := by
  refine ob_eea (D.nd_) ?_
  intro o ts hm ho
  exact kda_in N hm ho D.lo (intKind_is _ _ _ _) _ ndk_there h
end
section
variable {w : World} {A : Around} {E : Value → Shared → Prop} {s : Shared} {h₀ : Heap} {L l d : Addr} {m : Str → Option Value} {nx : Led} {vs : List Value} {n : Nat} {x : Value} {o : Obj}
theorem op_app {Q : Value → Shared → Prop} (F : Fr h₀ L s.heap m) (N : News h₀ L s.heap nx) (hm : (l, lstO vs n) ∈ nx) (hz : vs.length ≤ 1000)
    (h : ∀ h' nx', Fr h₀ L h' m → News h₀ L h' nx' → (l, lstO (vs ++ [x]) (n + 1)) ∈ nx' → (∀ p ∈ nx, p.1 ≠ l → p ∈ nx') → Held (Q .none { s with heap := h' })) : wpAny (model PG w) A (call (.builtin "list.append") [.ref l, x]) Q E s :=
  append_led F (News.focus N hm) off_ne hz fun h' F' N' => h h' _ F' N' (.head _) fun p hp hne => .tail _ (mem_off hp hne)
theorem op_set {K : Type} [DecidableEq K] {knd : KeyKind PG w K} {kvs : List (K × Value)} {k : K} {key v : Value} {Q : Unit → Shared → Prop} (F : Fr h₀ L s.heap m) (N : News h₀ L s.heap nx) (hp : (d, o) ∈ nx) (hd : o.IsDictOf knd kvs) (hkey : knd.is k key = true) (hsz : kvs.length ≤ 1000)
    (h : ∀ h' nx' o', Fr h₀ L h' m → News h₀ L h' nx' → (d, o') ∈ nx' → o'.IsDictOf knd (stored kvs k v) → (∀ p ∈ nx, p.1 ≠ d → p ∈ nx') → Held (Q () { s with heap := h', toks := s.toks + 1 })) : wpAny (model PG w) A (setItem (.ref d) key v) Q E s :=
  set_at F N hp hd hkey hsz fun h' o' F' N' hd' => h h' _ o' F' N' (.head _) hd' fun p hp hne => .tail _ (mem_off hp hne)
theorem op_del {K : Type} [DecidableEq K] {knd : KeyKind PG w K} {kvs : List (K × Value)} {k : K} {key : Value} {Q : Unit → Shared → Prop} (F : Fr h₀ L s.heap m) (N : News h₀ L s.heap nx) (hp : (d, o) ∈ nx) (hd : o.IsDictOf knd kvs) (hkey : knd.is k key = true) (hl : (valueAt kvs k).isSome = true) (hsz : kvs.length ≤ 1000)
    (h : ∀ h' nx' o', Fr h₀ L h' m → News h₀ L h' nx' → (d, o') ∈ nx' → o'.IsDictOf knd (without kvs k) → (∀ p ∈ nx, p.1 ≠ d → p ∈ nx') → Held (Q () { s with heap := h', toks := s.toks + 1 })) : wpAny (model PG w) A (delItem (.ref d) key) Q E s :=
  kob_del F (News.focus N hp) (UpdF.head off_ne) hd hkey hl (by rw [sizeLine_eq]; omega) fun h' o' F' N' hd' => h h' _ o' F' N' (.head _) hd' fun p hp hne => .tail _ (mem_off hp hne)
theorem op_pop {Q : Value → Shared → Prop} (F : Fr h₀ L s.heap m) (N : News h₀ L s.heap nx) (hm : (l, lstO (vs ++ [x]) n) ∈ nx) (hz : vs.length ≤ 1000)
    (h : ∀ h' nx', Fr h₀ L h' m → News h₀ L h' nx' → (l, lstO vs (n + 1)) ∈ nx' → (∀ p ∈ nx, p.1 ≠ l → p ∈ nx') → Held (Q x { s with heap := h' })) : wpAny (model PG w) A (call (.builtin "list.pop") [.ref l]) Q E s :=
  kl_pop (its := (vs ++ [x]).toArray) (n := n) F (News.focus N hm) (by rw [List.toList_toArray]; exact kpa_last x vs) (Upd.head off_ne) (by rw [sizeLine_eq]; simp; omega) fun h' F' N' => h h' _ F' N' (.head _) fun p hp hne => .tail _ (mem_off hp hne)
theorem op_add {S : Int → Bool} {c : Nat} {k : Int} {t : Tok} {Q : Value → Shared → Prop} (F : Fr h₀ L s.heap m) (N : News h₀ L s.heap nx) (hp : (d, o) ∈ nx) (hso : o.SetObjOf (intKind PG w) S c) (hb : c ≤ 100)
    (h : ∀ h' nx' o', Fr h₀ L h' m → News h₀ L h' nx' → (d, o') ∈ nx' → o'.SetObjOf (intKind PG w) (fun k' => S k' || decide (k' = k)) (if S k then c else c + 1) → (∀ p ∈ nx, p.1 ≠ d → p ∈ nx') → Held (Q .none { s with heap := h', toks := s.toks + 1 })) :
    wpAny (model PG w) A (call (.builtin "set.add") [.ref d, .int k t]) Q E s :=
  kse_add F (News.focus N hp) (UpdF.head off_ne) hso (by unfold scanBound; omega) (intKind_is _ _ _ _) rfl fun h' o' F' N' hs => h h' _ o' F' N' (.head _) hs fun p hp hne => .tail _ (mem_off hp hne)
theorem op_addM {S : Int → Bool} {c : Nat} {pl : Sem Bool} {Q : Value × List Value → Shared → Prop} (N : News h₀ L s.heap nx) (hp : (d, o) ∈ nx) (hso : o.SetObjOf (intKind PG w) S c) (hb : c ≤ 100) (h : Q (.builtin "set.add", [.ref d]) s) :
    wpAny (model PG w) A (getMethod (.ref d) "add" pl) Q E s := kse_method (News.focus N hp) (UpdF.head off_ne) hso (by unfold scanBound; omega) h
theorem ndk_val {l : List Nat} {ts : Nat → Tok} {k : Nat} (hk : k ∈ l) : ∃ j, j < l.length ∧ valueAt (ndk l ts) (k : Int) = some (.int (j : Nat) (ts j)) := by
  have h := ndk_there (ts := ts) (k := k) (l := l)
  rw [decide_eq_true hk] at h
  obtain ⟨v, hv⟩ := Option.isSome_iff_exists.mp h
  rw [hv]
  unfold valueAt at hv
  refine ob_ea (Option.map_eq_some_iff.mp hv) ?_
  intro kv h1 er1
  subst er1
  have hm := List.mem_of_find?_eq_some h1
  refine ob_ea (List.mem_map.mp hm) ?_
  intro p hp er2
  subst er2
  have := List.snd_lt_add_of_mem_zipIdx hp
  exact ⟨p.2, by omega, rfl⟩
end
section
variable {w : World} {A : Around} {E : Value → Shared → Prop} {s : Shared} {h₀ : Heap} {L l : Addr} {m : Str → Option Value} {nx : Led} {vs : List Value} {n : Nat} {x : Value}
theorem truthy_yes {Q : Bool → Shared → Prop} (N : News h₀ L s.heap nx) (hm : (l, lstO vs n) ∈ nx) (hz : vs.length ≤ 1000) (hb : vs ≠ []) (h : Q true { s with toks := s.toks + 1 + 1 }) : wpAny (model PG w) A (truthy (.ref l)) Q E s :=
  wpAny_truthy_list (News.lst N hm) (by rw [List.size_toArray]; omega) (by rw [show vs.toArray.isEmpty = vs.isEmpty by cases vs <;> rfl]; cases vs with | nil => exact absurd rfl hb | cons a b => exact h)
theorem truthy_no {Q : Bool → Shared → Prop} (N : News h₀ L s.heap nx) (hm : (l, lstO [] n) ∈ nx) (h : Q false { s with toks := s.toks + 1 + 1 }) : wpAny (model PG w) A (truthy (.ref l)) Q E s :=
  wpAny_truthy_list (News.lst N hm) (by simp) h
theorem last_item {value slice : PySem.Expr} {u : Tok} {Q : Value → Shared → Prop} (N : News h₀ L s.heap nx) (hm : (l, lstO (vs ++ [x]) n) ∈ nx) (hz : vs.length ≤ 1000) (h : Q x s)
    (hs : subscripted slice false (.ref l) (.int (-1) u) = operate [.ref l, .int (-1) u] (getItem (.ref l) (.int (-1) u)) := by with_unfolding_all rfl) (hg : ∀ r, letTemporaryGo value (.ref l) r = pure () := by intro _; with_unfolding_all rfl) :
    wpAny (model PG w) A (subscriptTail value slice (.ref l) (.int (-1) u)) Q E s :=
  kim_back N hm rfl rfl (by omega) (by simp; omega) (by omega) (by rw [show ((-1 : Int) + ((vs ++ [x]).length : Int)).toNat = vs.length by simp; omega]; simp) h hs hg
end
theorem callWith_wrap {M : Model} {A : Around} {E : Value → Shared → Prop} {s : Shared} {b it : Addr} {pos : Pos} {first : List Value} {env : Env} {Q : Value → Shared → Prop} (hb : s.heap.get? b = some (NX.wrap it)) (h : wpAny M A (call (.ref b) (first ++ [])) Q E s) :
    wpAny M A (callWith pos (.ref b) first (backTo pos (starEach [] env)) []) Q E s := by
  refine callWith_of (P := fun h => h.get? b = some (NX.wrap it)) rfl (fun h ho => ⟨.machine, .inr (.inl rfl), ?_⟩) (evalArgs_nil3 ⟨hb, h⟩)
  intro A Q E s k q
  unfold keeperOf
  refine wpAny_bind (wpAny_load (k _ _ ho) ?_)
  simp only [show (Value.type "method-wrapper" != Value.type "method") = true by decide, show (Value.type "method-wrapper" == Value.type "builtin_function_or_method" || Value.type "method-wrapper" == Value.type "method-wrapper") = true by decide, if_true]
  exact wpAny_pure q
theorem IV.snoc_inv : ∀ {l : List Nat} {vs : List Value} {j : Nat}, IV vs (l ++ [j]) → ∃ us t, vs = us ++ [.int (j : Nat) t] ∧ IV us l
  | [], _, _, .cons j t .nil => ⟨[], t, rfl, .nil⟩
  | _ :: _, _, _, .cons j t r => let ⟨us, t', e, h⟩ := IV.snoc_inv r; ⟨_, t', by rw [e]; rfl, .cons j t h⟩
theorem Df.popF {w : World} {sa : Nat → Addr} {fs : List Addr} {bs nx nx' : Led} {δ : Dst} {st : List (Nat × Nat)} {k i : Nat} {vs : List Value} {n n' : Nat} {o : Obj} {ts : Nat → Tok} (D : Df w sa fs bs δ nx) (hs : δ.stk = st ++ [(k, i)])
    (n1 : (δ.st, lstO vs n) ∈ nx') (hv : IV vs (st.map (·.1))) (n2 : (δ.its, lstO (refs δ.ba st.length) n') ∈ nx') (n4 : (δ.nd, o) ∈ nx') (ho : o.IsDictOf (intKind PG w) (without (ndk (δ.stk.map (·.1)) ts) (k : Int)))
    (hkeep : ∀ p ∈ nx, p.1 ≠ δ.st → p.1 ≠ δ.its → p.1 ≠ δ.nd → p.1 ≠ δ.ta st.length → p.1 ∉ fs → p ∈ nx') : Df w sa fs bs (δ.pop st) nx' :=
  Df.pop (nx := nx.filter fun p => !(fs.contains p.1)) (D.keepOut fun p hp hf => List.mem_filter.mpr ⟨hp, by simpa using hf⟩) hs n1 hv n2 n4 ho fun p hp h0 h1 h3 h5 =>
    hkeep p (List.mem_filter.mp hp).1 h0 h1 h3 h5 (by simpa using (List.mem_filter.mp hp).2)
theorem mid {M : Model} {A : Around} {x : Sem Flow} {E : Value → Shared → Prop} {s : Shared} {Q : Flow → Shared → Prop} (Mid : Shared → Prop) (h : wpAny M A x (fun f s' => (f = .next ∧ Mid s') ∨ (f ≠ .next ∧ Q f s')) E s) (k : ∀ s', Mid s' → Q .next s') : wpAny M A x Q E s :=
  wpAny_mono h (by rintro f s' (⟨rfl, h⟩ | ⟨_, h⟩); exact k _ h; exact h) (fun _ _ e => e)
theorem nd_len : ∀ (l₁ l₂ : List Nat), l₁.Nodup → (∀ x ∈ l₁, x ∈ l₂) → l₁.length ≤ l₂.length
  | [], _, _, _ => Nat.zero_le _
  | x :: l, l₂, h, hs => by
    have h1 := List.nodup_cons.mp h
    have ih := nd_len l (l₂.erase x) h1.2 fun y hy => (List.mem_erase_of_ne (by rintro rfl; exact h1.1 hy)).mpr (hs y (.tail _ hy))
    have hm := hs x (.head _)
    have := List.length_erase_of_mem hm
    have := List.length_pos_of_mem hm
    simp only [List.length_cons]
    omega
theorem FrUp.cut {fs wr : List Addr} {g : Heap} {nx : Led} (U : FrUp fs g nx) (h : ∀ b ∈ fs, b ∉ wr) : FrUp fs g (cutL wr nx) := fun b hb o ho => let ⟨sl, hs⟩ := U b hb o ho; ⟨sl, mem_cut.mpr ⟨hs, h b hb⟩⟩
theorem FrUp.mono {fs : List Addr} {g : Heap} {nx nx' : Led} (U : FrUp fs g nx) (h : ∀ p ∈ nx, p.1 ∈ fs → p ∈ nx') : FrUp fs g nx' := fun b hb o ho => let ⟨sl, hs⟩ := U b hb o ho; ⟨sl, h _ hs hb⟩
theorem leave_gt {A A₀ : Around} {base h₀ g : Heap} {env : Env} {outer : List Env} {L L' : Addr} {m m' : Str → Option Value} {R : Result → Shared → Prop} {v : Value} {s' : Shared} {nx : Led} (B : Below A base (env :: outer) g) (F : Fr (hideAll g (frs (env :: outer))) L' s'.heap m') (N : News (hideAll g (frs (env :: outer))) L' s'.heap nx) (U : FrUp (frs (env :: outer)) g nx)
    (k : ∀ h₀', KtsTurn (frs outer) h₀ h₀' → Fr h₀' L s'.heap m → News h₀' L s'.heap (cutL (frs (env :: outer)) nx) → Below A₀ base outer h₀' → R (.ok (.ret v)) s') : LeaveT (frs (env :: outer)) A₀ base outer h₀ L m g R v s' := by
  refine ob_eaaa (from_gt B F N U) ?_
  intro g2 T2 F2 _ N2
  exact ⟨g2, L', m', _, T2, F2, fun p hp => N2 p (mem_cut.mp hp).1 (mem_cut.mp hp).2, k⟩
noncomputable abbrev fKeys (w : World) (σ : Srt) (fr : List Addr) (news : Led) (g' : Heap) (x : Addr) (i : Nat) (m' : Str → Option Value) (nx : Led) : Prop := ∃ (δ : Dst) (fin : List Nat), Df w σ.sa fr news δ nx ∧ FrUp fr g' nx ∧ Dg σ.pu.su σ.pu.ord [] δ.seen fin none ∧ δ.stk = [] ∧ (∀ j, j < i → ∀ k, σ.pu.ord[j]? = some k → k ∈ δ.seen) ∧ At m' [("self", .ref x), ("n2i", .ref σ.d), ("stack", .ref δ.st), ("itstack", .ref δ.its), ("seen", .ref δ.se), ("node2stacki", .ref δ.nd)]
noncomputable abbrev fWhile (w : World) (σ : Srt) (fr : List Addr) (own : Led) (news : Led) (g' : Heap) (i : Nat) (k : Nat) (x : Addr) (n : Nat) (m' : Str → Option Value) (nx' : Led) : Prop := ∃ (δ : Dst) (fin : List Nat) (c : Nat) (tc : Tok), Df w σ.sa fr (own ++ news) δ nx' ∧ FrUp fr g' nx' ∧ Dg σ.pu.su σ.pu.ord δ.stk δ.seen fin (some c) ∧ c ∈ σ.pu.ord ∧ (∀ j, j < i → ∀ k, σ.pu.ord[j]? = some k → k ∈ δ.seen) ∧ (k ∈ δ.seen ∨ c = k) ∧ n = phi σ.pu.su σ.pu.ord δ.stk δ.seen ∧ At m' [("self", .ref x), ("n2i", .ref σ.d), ("stack", .ref δ.st), ("itstack", .ref δ.its), ("seen", .ref δ.se), ("node2stacki", .ref δ.nd), ("node", .int (c : Nat) tc)]
noncomputable abbrev fMid (s : Shared) (g' : Heap) (fr : List Addr) (L' : Addr) (w : World) (σ : Srt) (own : Led) (news : Led) (i : Nat) (k : Nat) (n : Nat) (x : Addr) (s' : Shared) : Prop := ∃ (δ : Dst) (fin : List Nat) (h' : Heap) (tk' : Nat) (m' : Str → Option Value) (nx' : Led), s' = { s with heap := h', toks := tk' } ∧ Fr (hideAll g' fr) L' h' m' ∧ News (hideAll g' fr) L' h' nx' ∧ Df w σ.sa fr (own ++ news) δ nx' ∧ FrUp fr g' nx' ∧ Dg σ.pu.su σ.pu.ord δ.stk δ.seen fin none ∧ (∀ j, j < i → ∀ k, σ.pu.ord[j]? = some k → k ∈ δ.seen) ∧ k ∈ δ.seen ∧ phi σ.pu.su σ.pu.ord δ.stk δ.seen ≤ n ∧ At m' [("self", .ref x), ("n2i", .ref σ.d), ("stack", .ref δ.st), ("itstack", .ref δ.its), ("seen", .ref δ.se), ("node2stacki", .ref δ.nd)]
noncomputable abbrev fElse (w : World) (σ : Srt) (fr : List Addr) (own : Led) (news : Led) (g' : Heap) (i : Nat) (k : Nat) (n : Nat) (x : Addr) (q : Nat) (m' : Str → Option Value) (nx' : Led) : Prop := ∃ (δ : Dst) (fin : List Nat), Df w σ.sa fr (own ++ news) δ nx' ∧ FrUp fr g' nx' ∧ Dg σ.pu.su σ.pu.ord δ.stk δ.seen fin none ∧ (∀ j, j < i → ∀ k, σ.pu.ord[j]? = some k → k ∈ δ.seen) ∧ k ∈ δ.seen ∧ q = phi σ.pu.su σ.pu.ord δ.stk δ.seen ∧ q ≤ n ∧ At m' [("self", .ref x), ("n2i", .ref σ.d), ("stack", .ref δ.st), ("itstack", .ref δ.its), ("seen", .ref δ.se), ("node2stacki", .ref δ.nd)]
theorem c_find (w : World) (σ : Srt) (rest : Led) (x : Addr) (hx : σ.x = x) (l : List Nat) (hl : σ.pu.rd = some l) (hord : σ.pu.ord.Nodup) (hol : σ.pu.ord.length ≤ 50) (hsu : ∀ k ∈ σ.pu.ord, (σ.pu.su k).length ≤ 900 ∧ ∀ v ∈ σ.pu.su k, v ∈ σ.pu.ord) :
    CtrT 20 161 w [.ref x] (fun news => So w σ rest news) (fun news v news' => (∀ p ∈ news, p ∈ news') ∧ ((v = .none ∧ ∃ fin, FinOk σ.pu.su fin ∧ ∀ k ∈ σ.pu.ord, k ∈ fin) ∨ (Cyc σ.pu.su ∧ ∃ a vs n, v = .ref a ∧ vs ≠ [] ∧ vs.length ≤ 1000 ∧ (a, lstO vs n) ∈ news' ∧ ∀ p ∈ news, p.1 ≠ a))) := by
  unfold CtrT
  k_fill
  intro p loose mean mg mb dp un gd cn cs a ccd cl outer A₀ base h₀ L m news s Q E B F KX N T XB TB DD hk S hd9 hu9 hret
  have p1 := S.inst
  refine ob_eeeeee (S.dict) ?_
  intro t1 t2 t3 t4 t5 t6 p2
  have e0 : rdV σ = .ref σ.r := by unfold rdV; rw [hl]
  rw [e0] at p2
  rw [hx] at p1
  k_with_none
  k_with "exec For Name Name cons nil" => refine held ?_
  refine wpAny_call ?_
  k_dflt (refine' code_defT ?k1 ?k2 ?k3 ?k4 ?k5 ?kD ?kA ?kF ?kK ?k6 ?k7 ?k8 ?k9 ?kB ?_ ?c2 ?c3 ?c4 ?c5; (case kA => exact rfl); (case kF => exact rfl); (case kK => assumption); (case kD => assumption); (case k1 => k_asm); (case k2 => k_asm); (case k3 => k_asm); (case k4 => k_asm); (case k5 => k_asm); (case k6 => k_is); (case k7 => k_is); (case k8 => ktr_room); (case k9 => exact BindsTo.of_eq rfl); (case c5 => decide); (case kB => exact locs rfl); (case c2 => exact rfl); (case c3 => exact rfl); (case c4 => exact rfl); k_whole; intro g' L' h' FG' F' N' B' X' T' D' hlt'; (try dsimp only); (try k_fold))
  have XG := gt_in B' XB
  have TG := TB.keeps (gt_stays B')
  refine ob_aa (to_gt F' N' hlt') ?_
  intro FT NT UT
  have hnf : ∀ p ∈ news, p.1 ∉ frs (envX cn cs L a ccd cl :: outer) := fun p hp hb => by
    refine ob_aea (B'.frames.mem hb) ?_
    intro _ o ho _
    rw [(N' p hp).2.2] at ho
    cases ho
  clear F' N' X' T' KX T
  have p3 := List.mem_append_right (frLed (frs (envX cn cs L a ccd cl :: outer)) g') p1
  have p4 := List.mem_append_right (frLed (frs (envX cn cs L a ccd cl :: outer)) g') p2
  have hb0 : ∀ p ∈ news, p ∈ frLed (frs (envX cn cs L a ccd cl :: outer)) g' ++ news ∧ p.1 ∉ frs (envX cn cs L a ccd cl :: outer) := fun p hp => ⟨List.mem_append_right _ hp, hnf p hp⟩
  have hb1 : ∀ b ∈ frs (envX cn cs L a ccd cl :: outer), b ∈ (frLed (frs (envX cn cs L a ccd cl :: outer)) g' ++ news).map (·.1) := fun b hb => by
    refine ob_aea (B'.frames.mem hb) ?_
    intro _ o ho _
    obtain ⟨sl, hs⟩ := UT b hb o ho
    exact List.mem_map.mpr ⟨_, hs, rfl⟩
  k_steps
  show wpAny _ _ _ _ _ _
  with_reducible rename Fr _ _ _ _ => F8
  with_reducible rename News _ _ _ _ => N8
  refine ob_e (Df.init (sa := σ.sa) (w := w) (so := _) (o := _) hb0 hb1 (by assumption) (by assumption) (by assumption) (by assumption) (by assumption) (by assumption) (by assumption)) ?_
  intro δ0 hq0
  refine ob_aaaaaa hq0 ?_
  clear hq0
  intro er3 er4 er5 er6 ee ef D0
  subst er3
  subst er4
  subst er5
  subst er6
  have U0 : ∀ a1 a2 a3 a4, FrUp (frs (envX cn cs L a ccd cl :: outer)) g' (a1 :: a2 :: a3 :: a4 :: (frLed (frs (envX cn cs L a ccd cl :: outer)) g' ++ news)) := fun _ _ _ _ b hb o ho => let ⟨sl, hs⟩ := UT b hb o ho; ⟨sl, List.Mem.tail _ (.tail _ (.tail _ (.tail _ hs)))⟩
  have hno := S.n2i
  have hLs : L' < _ := (let ⟨_, _, _, q, _⟩ := F8.ns; Heap.lt_size q)
  refine ob_ea (hno) ?_
  clear hno
  intro od pd hod
  refine for_inv (by assumption) ?_
  k_steps
  refine at_keys (fKeys w σ (frs (envX cn cs L a ccd cl :: outer)) news g' x) rfl F8 N8 (D0.base _ pd).1 hod S.lo ?_ ?_ ?_
  · refine ⟨δ0, [], D0, U0 _ _ _ _, ?_, ee, fun j hj => absurd hj (Nat.not_lt_zero _), by (with_unfolding_all rfl), by (with_unfolding_all rfl), by (with_unfolding_all rfl), by (with_unfolding_all rfl), by (with_unfolding_all rfl), by (with_unfolding_all rfl), trivial⟩
    rw [ef]
    exact ⟨fun u h => by simp at h, fun u h => by simp [nodes] at h, fun i u h => by simp at h, fun i e h => by simp at h, fun i e v h => by simp at h, fun e h => by simp at h, List.nodup_nil, fun u h => by simp at h⟩
  · intro i kz tz m1 nx h1 tk1 fp wr own hkz hZ  hown hfar F2 N2
    refine ob_ee hZ ?_
    clear hZ
    intro δ1 fin1 hq0
    refine ob_aaaaa hq0 ?_
    clear hq0
    intro D1 U1 G1 es1 hs1 hA
    replace F2 := hA.fr F2
    obtain ⟨k, hk1, rfl⟩ : ∃ k, σ.pu.ord[i]? = some k ∧ kz = ((k : Nat) : Int) := by
      rw [List.getElem?_map] at hkz
      cases q : σ.pu.ord[i]? with
      | none => rw [q] at hkz; cases hkz
      | some k => rw [q] at hkz; exact ⟨k, rfl, (Option.some.inj hkz).symm⟩
    have hko : k ∈ σ.pu.ord := List.mem_of_getElem? hk1
    have hsl : δ1.seen.length ≤ 100 := by
      have := nd_len _ _ G1.nod G1.inord
      omega
    have hof : ∀ p ∈ own, p.1 ∉ frs (envX cn cs L a ccd cl :: outer) := fun p hp hb => by
      rcases hfar p hp with h | h
      · exact (D1.base _ pd).2.2 (by rw [← h]; exact hb)
      · exact absurd (Nat.lt_of_lt_of_le (Nat.lt_trans (hlt' _ hb) hLs) h.2) (Nat.lt_irrefl _)
    have hwf : ∀ b ∈ frs (envX cn cs L a ccd cl :: outer), b ∉ wr := fun b hb hw => by
      obtain ⟨ob, ho⟩ := hown.2.2 b hw
      exact hof _ ho hb
    have D2 := D1.own hown (fun p hp => ⟨hof p hp, (hfar p hp).symm.imp (fun h => h.1) fun h => by rw [h]; exact (D1.base _ pd).2.1⟩)
    have U2 : FrUp (frs (envX cn cs L a ccd cl :: outer)) g' (nx ++ own) := fun b hb o ho => let ⟨sl, hs⟩ := U1 b hb o ho; ⟨sl, List.mem_append_left _ hs⟩
    clear F8 N8 D0
    by_cases hks : k ∈ δ1.seen
    · k_with "compareOp In int ref" => refine df_seen_yes (by assumption) D2 hsl hks ?_
      k_steps
      refine FStep.cont (cutL wr (nx ++ own)) (by assumption) (by assumption) (Df.led D2) (fun p hp => (mem_cut.mp hp).2) ⟨δ1, fin1, Df.cut D2 hown (fun p hp => hown.1 p (D1.base p hp).1), U2.cut hwf, G1, es1, fun j hj k' hk' => ?_, by (with_unfolding_all rfl), by (with_unfolding_all rfl), by (with_unfolding_all rfl), by (with_unfolding_all rfl), by (with_unfolding_all rfl), by (with_unfolding_all rfl), trivial⟩
      by_cases e : j = i
      · subst e; rw [hk1] at hk'; cases hk'; exact hks
      · exact hs1 j (by omega) k' hk'
    · k_with "compareOp In int ref" => refine df_seen_no (by assumption) D2 hsl hks ?_
      k_steps
      show wpAny _ _ _ _ _ _
      with_reducible rename Fr _ _ _ _ => F3
      with_reducible rename News _ _ _ _ => N3
      refine While_inv2 (fWhile w σ (frs (envX cn cs L a ccd cl :: outer)) own news g' i k x) F3 N3 ⟨δ1, fin1, k, tz, D2, U2, ?_, hko, hs1, .inr rfl, rfl, by (with_unfolding_all rfl), by (with_unfolding_all rfl), by (with_unfolding_all rfl), by (with_unfolding_all rfl), by (with_unfolding_all rfl), by (with_unfolding_all rfl), by (with_unfolding_all rfl), trivial⟩ ?_
      · rw [es1]; exact G1.start k
      · intro n m4 nx4 h4 tk4 F4 N4 hZ
        refine ob_eeee hZ ?_
        clear hZ
        intro δ4 fin4 c tc hq0
        refine ob_aaaaaaa hq0 ?_
        clear hq0
        intro D4 U4 G4 hc4 hs4 hk4 hn4 hA4
        replace F4 := hA4.fr F4
        clear F3 N3 D2 U1 U2 F2 N2 hA es1 hs1 G1
        have hsl4 : δ4.seen.length ≤ 100 := by
          have := nd_len _ _ G4.nod G4.inord
          omega
        k_steps
        show wpAny _ _ _ _ _ _
        refine mid (fMid s g' (frs (envX cn cs L a ccd cl :: outer)) L' w σ own news i k n x) ?_ ?_
        · refine wpAny_If ?_
          by_cases hcs : c ∈ δ4.seen
          · by_cases hcn : c ∈ nodes δ4.stk
            · k_with "compareOp In int ref" => first | refine df_seen_yes (by assumption) D4 hsl4 hcs ?_ | refine df_on_yes (by assumption) D4 hcn ?_
              refine ob_eea (D4.nd_) ?_
              intro ond ts4 mnd hnd4
              refine ob_ea (ndk_val (ts := ts4) hcn) ?_
              intro jx hjx hval
              refine ob_eea (D4.stack) ?_
              intro sv sn hsv mst
              k_with "subscriptTail Name Name ref int" => refine kda_item (by assumption) mnd hnd4 (intKind_is _ _ _ _) hval ?_
              have hsz4 : sv.toArray.size ≤ sizeLine := by
                rw [List.size_toArray, hsv.length, sizeLine_eq]
                have := nd_len _ _ D4.nod (fun u hu => G4.inord u (G4.on u hu))
                omega
              k_with "binaryOp Add ref ref" => (refine' kmk_add_lit ?zF ?zN ?za ?zb ?ze ?_ ?zz; (case zF => k_asm); (case zN => k_asm); (case za => kmk_list); (case zb => kmk_list); (case ze => exact rfl); (case zz => (rw [Array.length_toList, Array.length_toList]; exact Nat.le_trans (Nat.add_le_add_right (slicePick_size_le sv.toArray _ _ _) _) hsz5)); intro D10 h10 F10 N10 l10)
              have hsz5 : sv.toArray.size + 1 ≤ sizeLine := by
                rw [List.size_toArray, hsv.length, sizeLine_eq]
                have := nd_len _ _ D4.nod (fun u hu => G4.inord u (G4.on u hu))
                omega
              k_with "subscriptTail Name Slice ref ref" => (refine' kmk_slice (its := sv.toArray) ?zF ?zN ?zl ?zp ?zq ?_ ?zs ?zt ?zz; (case zF => k_asm); (case zN => k_asm); (case zl => exact News.lst (by assumption) mst); (case zp => kmk_part); (case zq => kmk_part); (case zs => with_unfolding_all rfl); (case zt => kmk_pure); (case zz => exact hsz4); intro D9 h9 F9 N9 l9)
              k_steps
              have lt10 : ∀ p ∈ nx4, p.1 ≠ D10 := fun p hp => Nat.ne_of_lt (l10 p (.tail _ (.tail _ hp)))
              have U10 : ∀ a1 a2 a3, FrUp (frs (envX cn cs L a ccd cl :: outer)) g' (a1 :: a2 :: a3 :: nx4) := fun _ _ _ => U4.mono fun p hp _ => .tail _ (.tail _ (.tail _ hp))
              refine .inr ⟨fun e => (by cases e), ?_⟩
              unfold WhileStep2
              dsimp only
              unfold FStep
              dsimp only
              show LeaveT _ _ _ _ _ _ _ _ _ _ _
              refine leave_gt B' F10 N10 (U10 _ _ _) ?_
              intro h₀' t1 f1 n1 b1
              refine hret _ _ _ _ h₀' t1 f1 n1 b1 ⟨fun p hp => mem_cut.mpr ⟨.tail _ (.tail _ (.tail _ (D4.base p (List.mem_append_right _ hp)).1)), hnf p hp⟩, .inr ⟨G4.cyc hcn, D10, _, 0, rfl, ?_, ?_, mem_cut.mpr ⟨.head _, fun hb => ?_⟩, fun p hp => lt10 p (D4.base p (List.mem_append_right _ hp)).1⟩⟩
              · simp
              · have h9 : sv.length ≤ 60 := by
                  rw [hsv.length]
                  have := nd_len _ _ D4.nod (fun u hu => G4.inord u (G4.on u hu))
                  omega
                refine Nat.le_trans ?_ (show sv.toArray.size + 1 ≤ 1000 by rw [List.size_toArray]; omega)
                simp only [List.length_append, Array.length_toList, List.length_cons, List.length_nil]
                exact Nat.add_le_add_right (slicePick_size_le sv.toArray _ _ _) _
              · refine ob_aea (B'.frames.mem hb) ?_
                intro _ o ho _
                obtain ⟨sl, hs⟩ := U4 _ hb o ho
                exact lt10 _ hs rfl
            · k_with "compareOp In int ref" => first | refine df_seen_yes (by assumption) D4 hsl4 hcs ?_ | refine df_on_no (by assumption) D4 hcn ?_
              k_steps
              refine .inl ⟨rfl, δ4, fin4, _, _, _, _, rfl, by assumption, by assumption, D4, U4, G4.skip hcs hcn, hs4, hk4.elim id (fun e => e ▸ hcs), by omega, by (with_unfolding_all rfl), by (with_unfolding_all rfl), by (with_unfolding_all rfl), by (with_unfolding_all rfl), by (with_unfolding_all rfl), by (with_unfolding_all rfl), trivial⟩
          · k_with "compareOp In int ref" => first | refine df_seen_no (by assumption) D4 hsl4 hcs ?_
            refine ob_ea (D4.seen_) ?_
            intro oset mset hset
            k_with "getMethod ref" => refine op_addM (by assumption) mset hset hsl4 ?_
            k_with "call builtin:set.add cons cons nil" => (refine op_add (by assumption) (by assumption) mset hset hsl4 ?_; intro h5 nx5 o5 F5 N5 m5 hs5 k5)
            k_with "call builtin:set.add cons nil" => (refine op_add (by assumption) (by assumption) mset hset hsl4 ?_; intro h5 nx5 o5 F5 N5 m5 hs5 k5)
            k_steps
            show wpAny _ _ _ _ _ _
            have ner : ∀ {a b : Addr} {t u}, δ4.ρ a = t → δ4.ρ b = u → t ≠ u → a ≠ b := fun h1 h2 h3 e => h3 (by rw [← h1, ← h2, e])
            have fb5 : ∀ p ∈ news, p ∈ nx5 := fun p hp => k5 p (D4.base p (List.mem_append_right _ hp)).1 (ner (D4.base p (List.mem_append_right _ hp)).2.1 D4.r2 (by simp))
            have pd5 := fb5 _ pd
            refine ob_ee (S.cell c hc4) ?_
            intro u1 u2 cl5
            have cl5' := fb5 _ cl5
            have cd5 := fb5 _ (S.dic c hc4)
            refine ob_eea (S.suc c hc4) ?_
            intro us5 un5 huv5 cs5
            have cs5' := fb5 _ cs5
            obtain ⟨ni4, mits⟩ := D4.its_
            have mits5 := k5 _ mits (ner D4.r1 D4.r2 (by simp))
            refine ob_eea (D4.stack) ?_
            intro sv sn hsv mst
            have mst5 := k5 _ mst (ner D4.r0 D4.r2 (by simp))
            refine ob_eea (D4.nd_) ?_
            intro ond ts4 mnd hnd4
            have mnd5 := k5 _ mnd (ner D4.r3 D4.r2 (by simp))
            have hstl : δ4.stk.length ≤ 60 := by
              have := nd_len _ _ D4.nod (fun u hu => G4.inord u (G4.on u hu))
              rw [List.length_map] at this
              omega
            have hrl : (refs δ4.ba δ4.stk.length).length ≤ 1000 := by unfold refs; simp; omega
            k_with "subscriptTail Name Name ref int" => refine kda_item (by assumption) pd5 hod (intKind_is _ _ _ _) (So.key hc4) ?_
            k_with "call builtin:iter cons nil" => (refine iter_lst (by assumption) (by assumption) cs5' ?_; intro it h6 F6 N6 l6)
            k_with "getAttr ref true" => ((with_reducible show wpAny _ _ (getAttr _ (Str.ofString "__next__") _) _ _ _); refine attr_next (by assumption) (by assumption) (.head _) ?_; intro b h7 F7 N7 l7)
            k_with "call builtin:list.append cons nil" => (refine op_app (by assumption) (by assumption) (.tail _ (.tail _ mits5)) hrl ?_; intro h8 nx8 F8 N8 m8 k8)
            clear F4 N4
            k_steps
            show wpAny _ _ _ _ _ _
            have fresh : ∀ a : Addr, (∀ p ∈ nx5, p.1 < a) → ∀ p ∈ nx4, p.1 ≠ a := fun a h p hp => by
              by_cases e : p.1 = δ4.se
              · rw [e]; exact Nat.ne_of_lt (h _ m5)
              · exact Nat.ne_of_lt (h _ (k5 p hp e))
            have fit := fresh it l6
            have fbb := fresh b fun p hp => l7 p (.tail _ hp)
            have ffs : ∀ y : Addr, (∀ p ∈ nx4, p.1 ≠ y) → y ∉ frs (envX cn cs L a ccd cl :: outer) := fun y h hb => by
              refine ob_aea (B'.frames.mem hb) ?_
              intro _ o ho _
              obtain ⟨sl, hs⟩ := U4 _ hb o ho
              exact h _ hs rfl
            have mst8 := k8 _ (.tail _ (.tail _ mst5)) (ner D4.r0 D4.r1 (by simp))
            have mnd8 := k8 _ (.tail _ (.tail _ mnd5)) (ner D4.r3 D4.r1 (by simp))
            k_with "call builtin:len cons nil" => refine len_lst (by assumption) mst8 (by rw [hsv.length, List.length_map] : sv.length = δ4.stk.length) (by omega) ?_
            k_with "setItem ref int" => (refine op_set (by assumption) (by assumption) mnd8 hnd4 (intKind_is _ _ _ _) (by unfold ndk; simp; omega) ?_; intro h9 nx9 o9 F9 N9 m9 hd9' k9)
            k_steps
            show wpAny _ _ _ _ _ _
            have mst9 := k9 _ mst8 (ner D4.r0 D4.r3 (by simp))
            k_with "call builtin:list.append cons nil" => (refine op_app (by assumption) (by assumption) mst9 (by rw [hsv.length, List.length_map]; omega) ?_; intro h10 nx10 F10 N10 m10 k10)
            k_steps
            show wpAny _ _ _ _ _ _
            k_steps
            have keep10 : ∀ p ∈ nx4, p.1 ≠ δ4.st → p.1 ≠ δ4.its → p.1 ≠ δ4.se → p.1 ≠ δ4.nd → p ∈ nx10 := fun p hp h0 h1 h2 h3 => k10 _ (k9 _ (k8 _ (.tail _ (.tail _ (k5 p hp h2))) h1) h3) h0
            have lb : ∀ {y o}, (y, o) ∈ nx5 → b ≠ y := fun h => Ne.symm (Nat.ne_of_lt (l7 _ (.tail _ h)))
            have li : ∀ {y o}, (y, o) ∈ nx5 → it ≠ y := fun h => Ne.symm (Nat.ne_of_lt (l6 _ h))
            have DP := Df.push (nx' := nx10) D4 (k := c) (b := b) (it := it) (fun h => hcs (G4.on _ h)) hcs fit fbb (Ne.symm (Nat.ne_of_lt (l7 _ (.head _)))) (ffs it fit) (ffs b fbb)
              m10 (hsv.snoc c tc) (k10 _ (k9 _ m8 (ner D4.r1 D4.r3 (by simp))) (ner D4.r1 D4.r0 (by simp))) (k10 _ (k9 _ (k8 _ (.tail _ (.tail _ m5)) (ner D4.r2 D4.r1 (by simp))) (ner D4.r2 D4.r3 (by simp))) (ner D4.r2 D4.r0 (by simp))) hs5
              (k10 _ m9 (ner D4.r3 D4.r0 (by simp))) hd9' (k10 _ (k9 _ (k8 _ (.head _) (lb mits5)) (lb mnd5)) (lb mst5)) (k10 _ (k9 _ (k8 _ (.tail _ (.head _)) (li mits5)) (li mnd5)) (li mst5)) keep10
            have UP : FrUp (frs (envX cn cs L a ccd cl :: outer)) g' nx10 := U4.mono fun p hp hf => keep10 p hp (fun e => (D4.dom _ (some_ne D4.r0)).2 (e ▸ hf)) (fun e => (D4.dom _ (some_ne D4.r1)).2 (e ▸ hf)) (fun e => (D4.dom _ (some_ne D4.r2)).2 (e ▸ hf)) (fun e => (D4.dom _ (some_ne D4.r3)).2 (e ▸ hf))
            refine .inl ⟨rfl, _, fin4, _, _, _, _, rfl, F10, N10, DP, UP, G4.push hcs hc4, fun j hj k' hk' => List.mem_append_left _ (hs4 j hj k' hk'), ?_, ?_, by (with_unfolding_all rfl), by (with_unfolding_all rfl), by (with_unfolding_all rfl), by (with_unfolding_all rfl), by (with_unfolding_all rfl), by (with_unfolding_all rfl), trivial⟩
            · rcases hk4 with h | h
              · exact List.mem_append_left _ h
              · rw [← h]; exact List.mem_append_right _ (.head _)
            · rw [hn4]; exact Nat.le_of_lt (phi_push hcs hc4 hord)
        · intro s' hZ
          refine ob_eeeeee hZ ?_
          clear hZ
          intro δ6 fin6 h6 tk6 m6 nx6 hq0
          refine ob_aaaaaaaaa hq0 ?_
          clear hq0
          intro er7 F6 N6 D6 U6 G6 hs6 hk6 hph6 hA6
          subst er7
          replace F6 := hA6.fr F6
          clear F4 N4 D4 U4 G4 hA4 hs4 hk4
          k_steps
          show wpAny _ _ _ _ _ _
          refine While_else (fElse w σ (frs (envX cn cs L a ccd cl :: outer)) own news g' i k n x) F6 N6 ⟨δ6, fin6, D6, U6, G6, hs6, hk6, rfl, hph6, by (with_unfolding_all rfl), by (with_unfolding_all rfl), by (with_unfolding_all rfl), by (with_unfolding_all rfl), by (with_unfolding_all rfl), by (with_unfolding_all rfl), trivial⟩ ?_
          intro q m7 nx7 h7 tk7 F7 N7 hZ
          refine ob_ee hZ ?_
          clear hZ
          intro δ7 fin7 hq0
          refine ob_aaaaaaa hq0 ?_
          clear hq0
          intro D7 U7 G7 hs7 hk7 hq7 hqn7 hA7
          replace F7 := hA7.fr F7
          clear F6 N6 D6 U6 G6 hs6 hk6 hA6
          refine ob_eea (D7.stack) ?_
          intro sv sn hsv mst
          rcases List.eq_nil_or_concat δ7.stk with he | ⟨st, ⟨u, iu⟩, he⟩
          · rw [he] at hsv
            cases hsv
            k_with "truthy ref" => refine truthy_no (by assumption) mst ?_
            k_steps
            unfold WhileStep2
            dsimp only
            k_steps
            rw [he] at G7
            refine FStep.next (cutL wr nx7) (by assumption) (by assumption) (Df.led D7) (fun p hp => (mem_cut.mp hp).2) ⟨δ7, fin7, Df.cut D7 hown (fun p hp => hown.1 p (D1.base p hp).1), U7.cut hwf, G7, he, fun j hj k' hk' => ?_, by (with_unfolding_all rfl), by (with_unfolding_all rfl), by (with_unfolding_all rfl), by (with_unfolding_all rfl), by (with_unfolding_all rfl), by (with_unfolding_all rfl), trivial⟩
            by_cases e : j = i
            · subst e; rw [hk1] at hk'; cases hk'; exact hk7
            · exact hs7 j (by omega) k' hk'
          · rw [List.concat_eq_append] at he
            have hvl : sv.length ≤ 60 := by
              have := nd_len _ _ D7.nod (fun u hu => G7.inord u (G7.on u hu))
              rw [hsv.length]
              omega
            obtain ⟨ni7, mits⟩ := D7.its_
            have hstl : δ7.stk.length = st.length + 1 := by rw [he]; simp
            have hsvn : sv ≠ [] := fun e => by
              have := hsv.length
              rw [e, List.length_map, hstl] at this
              cases this
            have hrefs : refs δ7.ba δ7.stk.length = refs δ7.ba st.length ++ [.ref (δ7.ba st.length)] := by
              rw [hstl]
              unfold refs
              rw [List.range_succ, List.map_append]
              rfl
            rw [hrefs] at mits
            obtain ⟨eb, ei⟩ := D7.ent st.length (u, iu) (by rw [he, List.getElem?_append_right (Nat.le_refl _)]; simp)
            k_with "truthy ref" => refine truthy_yes (by assumption) mst (by omega) hsvn ?_
            k_with "subscriptTail Name UnaryOp ref int" => refine last_item (by assumption) mits (by unfold refs; simp; have := hsv.length; rw [List.length_map] at this; omega) ?_
            k_with "callWith ref nil nil" => refine callWith_wrap ((by assumption : News _ _ _ nx7) _ eb).1 ?_
            obtain ⟨cu, vu, hcu⟩ : ∃ cu : List Value, ∃ vu, IV cu (σ.pu.su u) ∧ (σ.sa u, lstO cu vu) ∈ nx7 := by
              have huo : u ∈ σ.pu.ord := G7.inord u (G7.on u (by unfold nodes; rw [he]; simp))
              refine ob_eea (S.suc u huo) ?_
              intro a1 a2 a3 a4
              exact ⟨a1, a2, a3, (D7.base _ (List.mem_append_right _ a4)).1⟩
            k_with "call ref nil" => refine held ?_
            k_steps
            show wpAny _ _ _ _ _ _
            have top7 : st.length < δ7.stk.length := by rw [hstl]; omega
            have nft : ∀ p ∈ nx7, p.1 ∈ frs (envX cn cs L a ccd cl :: outer) → p.1 ≠ δ7.ta st.length := fun p hp hf e => (D7.dom _ (some_ne (D7.r5 _ top7))).2 (e ▸ hf)
            have G7' := G7
            rw [he] at G7'
            cases hvu : (σ.pu.su u)[iu]? with
            | some v =>
              obtain ⟨tv, hxv⟩ := hcu.1.get hvu
              refine next_item (by assumption) (by assumption) eb ei hcu.2 hxv fun h8 F8 N8 => ?_
              have D8 := Df.next (nx' := _ :: off (δ7.ta st.length) nx7) D7 he (.head _) fun p hp hne => .tail _ (mem_off hp hne)
              have U8 := U7.mono (nx' := (δ7.ta st.length, NX.iterO (σ.sa u) (iu + 1)) :: off (δ7.ta st.length) nx7) fun p hp hf => .tail _ (mem_off hp (nft p hp hf))
              clear F7 N7
              k_steps
              unfold WhileStep2
              dsimp only
              refine wpAny_execs_nil ?_
              have hvo : v ∈ σ.pu.ord := (hsu u (G7.inord u (G7.on u (by unfold nodes; rw [he]; simp)))).2 v (List.mem_of_getElem? hvu)
              refine ⟨_, _, _, _, phi σ.pu.su σ.pu.ord (st ++ [(u, iu + 1)]) δ7.seen, rfl, by assumption, by assumption, ?_, _, fin7, v, tv, D8, U8, G7'.next hvu, hvo, hs7, .inl hk7, rfl, by (with_unfolding_all rfl), by (with_unfolding_all rfl), by (with_unfolding_all rfl), by (with_unfolding_all rfl), by (with_unfolding_all rfl), by (with_unfolding_all rfl), by (with_unfolding_all rfl), trivial⟩
              have := phi_next (ord := σ.pu.ord) (seen := δ7.seen) (s := st) hvu
              rw [he] at hq7
              omega
            | none =>
              have hxn : cu[iu]? = none := by
                rw [List.getElem?_eq_none_iff] at hvu ⊢
                rw [hcu.1.length]; exact hvu
              refine next_stop rfl (by assumption) (by assumption) eb ei hcu.2 hxn fun h8 h9 e9 F8 N8 hx8 => ?_
              have U8 := U7.mono (nx' := off (δ7.ta st.length) nx7) fun p hp hf => mem_off hp (nft p hp hf)
              show wpAny _ _ _ _ _ _
              refine catch_stop B' hx8 F8 N8 U8 XG (topRead_of TG) (by k_is) ?_
              intro h10 nx10 F10 N10 k10 U10
              clear F7 N7 F8 N8
              obtain ⟨us7, tu7, rfl, hus7⟩ := IV.snoc_inv (show IV sv (st.map (·.1) ++ [u]) by rw [he] at hsv; simpa using hsv)
              have ner : ∀ {a b : Addr} {t y}, δ7.ρ a = t → δ7.ρ b = y → t ≠ y → a ≠ b := fun h1 h2 h3 e => h3 (by rw [← h1, ← h2, e])
              have k10' : ∀ p ∈ nx7, p.1 ≠ δ7.ta st.length → p.1 ∉ frs (envX cn cs L a ccd cl :: outer) → p ∈ nx10 := fun p hp h1 h2 => k10 p (mem_off hp h1) h2
              have mst10 := k10' _ mst (ner D7.r0 (D7.r5 _ top7) (by simp)) (D7.dom _ (some_ne D7.r0)).2
              have mits10 := k10' _ mits (ner D7.r1 (D7.r5 _ top7) (by simp)) (D7.dom _ (some_ne D7.r1)).2
              refine ob_eea (D7.nd_) ?_
              intro ond ts7 mnd hnd7
              have mnd10 := k10' _ mnd (ner D7.r3 (D7.r5 _ top7) (by simp)) (D7.dom _ (some_ne D7.r3)).2
              have hum : u ∈ δ7.stk.map (·.1) := by rw [he]; simp
              have hul : us7.length ≤ 60 := by simp at hvl; omega
              k_with "call builtin:list.pop cons nil" => (refine op_pop (by assumption) (by assumption) mst10 (by omega) ?_; intro h11 nx11 F11 N11 m11 k11)
              k_steps
              show wpAny _ _ _ _ _ _
              have mnd11 := k11 _ mnd10 (ner D7.r3 D7.r0 (by simp))
              have mits11 := k11 _ mits10 (ner D7.r1 D7.r0 (by simp))
              k_with "delItem ref int" => (refine op_del (by assumption) (by assumption) mnd11 hnd7 (intKind_is _ _ _ _) (ndk_there.trans (decide_eq_true hum)) (by unfold ndk; simp; rw [hstl]; have := hus7.length; simp at this; omega) ?_; intro h12 nx12 o12 F12 N12 m12 hd12 k12)
              k_steps
              show wpAny _ _ _ _ _ _
              have mits12 := k12 _ mits11 (ner D7.r1 D7.r3 (by simp))
              k_with "call builtin:list.pop cons nil" => (refine op_pop (by assumption) (by assumption) mits12 (by unfold refs; simp; have := hus7.length; simp at this; omega) ?_; intro h13 nx13 F13 N13 m13 k13)
              k_steps
              show wpAny _ _ _ _ _ _
              k_steps
              have keep13 : ∀ p ∈ nx7, p.1 ≠ δ7.st → p.1 ≠ δ7.its → p.1 ≠ δ7.nd → p.1 ≠ δ7.ta st.length → p.1 ∉ frs (envX cn cs L a ccd cl :: outer) → p ∈ nx13 := fun p hp h0 h1 h3 h5 hf => k13 _ (k12 _ (k11 _ (k10' p hp h5 hf) h0) h3) h1
              have DQ := Df.popF (nx' := nx13) D7 he (k13 _ (k12 _ m11 (ner D7.r0 D7.r3 (by simp))) (ner D7.r0 D7.r1 (by simp))) hus7 m13 (k13 _ m12 (ner D7.r3 D7.r1 (by simp))) hd12 keep13
              have U13 := U10.mono (nx' := nx13) fun p hp hf => k13 _ (k12 _ (k11 _ hp (fun e => (D7.dom _ (some_ne D7.r0)).2 (e ▸ hf))) (fun e => (D7.dom _ (some_ne D7.r3)).2 (e ▸ hf))) (fun e => (D7.dom _ (some_ne D7.r1)).2 (e ▸ hf))
              have hpp := phi_pop (su := σ.pu.su) (ord := σ.pu.ord) (seen := δ7.seen) (s := st) (u := u) (i := iu) (G7'.bound (u, iu) (by simp))
              rw [he] at hq7
              exact ⟨_, _, _, _, phi σ.pu.su σ.pu.ord st δ7.seen, rfl, by assumption, by assumption, by omega, _, fin7 ++ [u], DQ, U13, G7'.pop hvu, hs7, hk7, rfl, by omega, by (with_unfolding_all rfl), by (with_unfolding_all rfl), by (with_unfolding_all rfl), by (with_unfolding_all rfl), by (with_unfolding_all rfl), by (with_unfolding_all rfl), trivial⟩
  · intro h1 tk1 m1 nx F2 N2 hZ
    refine ob_ee hZ ?_
    clear hZ
    intro δ1 fin1 hq0
    refine ob_aaaaa hq0 ?_
    clear hq0
    intro D1 U1 G1 es1 hs1 hA
    replace F2 := hA.fr F2
    clear F8 N8 D0
    k_steps
    show LeaveT _ _ _ _ _ _ _ _ _ _ _
    refine leave_gt B' (by assumption) (by assumption) U1 ?_
    intro h₀' t1 f1 n1 b1
    refine hret _ _ _ _ h₀' t1 f1 n1 b1 ⟨fun p hp => mem_cut.mpr ⟨(D1.base p hp).1, hnf p hp⟩, .inl ⟨rfl, fin1, G1.fin_, fun k hk => ?_⟩⟩
    obtain ⟨j, hj⟩ := List.getElem?_of_mem hk
    rcases G1.sub k (hs1 j (by rw [List.length_map]; exact lt_get hj) k hj) with h | h
    · exact h
    · simp [nodes] at h
end Mine
end
section
set_option Elab.async false
set_option linter.unusedVariables false
namespace Mine
noncomputable def Pu.put (p : Pu) (k : Nat) (l : List Nat) : Pu := l.foldl (fun p j => p.link k j) ((p.add k).inc k l.length)

noncomputable def Pu.ready (p : Pu) : List Nat := p.ord.filter fun k => decide (p.np k = 0)
theorem dep_min (fs : Nat → File) : ∀ (n k : Nat), dep fs n k = min n (dep fs (n + 1) k)
  | 0, k => by simp [dep]
  | n + 1, k => by
    cases h : (fs k).ah with
    | none => simp [dep, h]
    | some j =>
      have := dep_min fs n j
      have e1 : dep fs (n + 1) k = dep fs n j + 1 := by simp [dep, h]
      have e2 : dep fs (n + 1 + 1) k = dep fs (n + 1) j + 1 := by simp [dep, h]
      omega
theorem dep_le (fs : Nat → File) (n k : Nat) : dep fs n k ≤ n := by have := dep_min fs n k; omega
theorem dep_some {fs : Nat → File} {k j : Nat} (h : (fs k).ah = some j) : dep fs 7 k = min 6 (dep fs 7 j) + 1 := by
  have e1 : dep fs 7 k = dep fs 6 j + 1 := by simp [dep, h]
  have : dep fs 6 j = min 6 (dep fs 7 j) := dep_min fs 6 j
  omega
theorem dep_none {fs : Nat → File} {k : Nat} (h : (fs k).ah = none) : dep fs 7 k = 0 := by simp [dep, h]

section
variable {fs : Nat → File} (hah : ∀ i j, (fs i).ah = some j → j < 6)
include hah
theorem dep_down {k d : Nat} (hk : k < 6) (h : dep fs 7 k = d) (hd : d ≤ 6) : ∀ e, e ≤ d → ∃ k', k' < 6 ∧ dep fs 7 k' = e := by
  induction d generalizing k with
  | zero => exact fun e he => ⟨k, hk, by omega⟩
  | succ d ih =>
    intro e he
    cases q : (fs k).ah with
    | none => rw [dep_none q] at h; omega
    | some j =>
      have := dep_some q
      by_cases e1 : e = d + 1
      · exact ⟨k, hk, by omega⟩
      · exact ih (hah k j q) (by omega) (by omega) e (by omega)
theorem dep_no6 {k : Nat} (hk : k < 6) : dep fs 7 k ≠ 6 := fun h => by
  have hd := dep_down hah hk h (by omega)
  have hf : ∃ f : Nat → Nat, ∀ e, e ≤ 6 → f e < 6 ∧ dep fs 7 (f e) = e := by
    refine ⟨fun e => if he : e ≤ 6 then (hd e he).choose else 0, fun e he => ?_⟩
    dsimp only
    rw [dif_pos he]
    exact (hd e he).choose_spec
  obtain ⟨f, hf⟩ := hf
  have h1 : ((List.range 7).map f).Nodup := by
    rw [List.Nodup, List.pairwise_map]
    refine List.Pairwise.imp_of_mem ?_ (List.nodup_range (n := 7))
    intro a b ha hb hab e
    have a1 := (hf a (by have := List.mem_range.mp ha; omega)).2
    have b1 := (hf b (by have := List.mem_range.mp hb; omega)).2
    rw [e] at a1
    omega
  have h2 := nd_len _ (List.range 6) h1 fun x hx => by
    obtain ⟨e, he, rfl⟩ := List.mem_map.mp hx
    exact List.mem_range.mpr (hf e (by have := List.mem_range.mp he; omega)).1
  simp at h2
end

noncomputable def fstAt : List Nat → Nat → Nat
  | [], _ => 0
  | x :: l, u => if x = u then 0 else fstAt l u + 1
theorem fstAt_get : ∀ {l : List Nat} {u : Nat}, u ∈ l → l[fstAt l u]? = some u
  | x :: l, u, h => by
    by_cases e : x = u
    · simp [fstAt, e]
    · have : u ∈ l := by
        rcases List.mem_cons.mp h with q | q
        · exact absurd q.symm e
        · exact q
      simp only [fstAt, if_neg e, List.getElem?_cons_succ]
      exact fstAt_get this
theorem fstAt_le : ∀ {l : List Nat} {u j : Nat}, l[j]? = some u → fstAt l u ≤ j
  | x :: l, u, 0, h => by simp at h; simp [fstAt, h]
  | x :: l, u, j + 1, h => by
    simp only [List.getElem?_cons_succ] at h
    have := fstAt_le h
    simp only [fstAt]
    split <;> omega

structure Gr (fs : Nat → File) (p : Pu) : Prop where
  nod : p.ord.Nodup
  all : ∀ k, k ∈ p.ord ↔ k < 6
  np : ∀ k, k < 6 → p.np k = if (fs k).ah.isSome then 2 else 0
  su : ∀ j k, (p.su j).count k = if k < 6 ∧ (fs k).ah = some j then 2 else 0
  len : ∀ j, (p.su j).length ≤ 50
  rd : p.rd = none
  po : p.po = 0
  nf : p.nf = 0

structure Bu (fs : Nat → File) (p : Pu) (c : Nat → Nat) (n : Nat) : Prop where
  nod : p.ord.Nodup
  lt : ∀ k ∈ p.ord, k < 6
  mem : ∀ k, 0 < c k → k ∈ p.ord
  pred : ∀ k j, 0 < c k → (fs k).ah = some j → j ∈ p.ord
  np : ∀ k, p.np k = if (fs k).ah.isSome then (c k : Int) else 0
  su : ∀ j k, (p.su j).count k = if (fs k).ah = some j then c k else 0
  len : ∀ j, (p.su j).length ≤ n
  rd : p.rd = none
  po : p.po = 0
  nf : p.nf = 0

section
variable {fs : Nat → File} {p : Pu} {c : Nat → Nat} {n : Nat}
theorem Bu.len_ord (B : Bu fs p c n) : p.ord.length ≤ 6 := by
  have := nd_len _ (List.range 6) B.nod fun x hx => List.mem_range.mpr (B.lt x hx)
  simpa using this
theorem Bu.gone (B : Bu fs p c n) {k : Nat} (hk : k ∉ p.ord) : p.np k = 0 ∧ p.su k = [] := by
  have h0 : c k = 0 := by
    cases q : c k with
    | zero => rfl
    | succ m => exact absurd (B.mem k (by omega)) hk
  refine ⟨by rw [B.np, h0]; simp, ?_⟩
  cases q : p.su k with
  | nil => rfl
  | cons x l =>
    have h1 := B.su k x
    rw [q, List.count_cons_self] at h1
    by_cases e : (fs x).ah = some k
    · rw [if_pos e] at h1
      exact absurd (B.pred x k (by omega) e) hk
    · rw [if_neg e] at h1
      omega
theorem Bu.add_eq (B : Bu fs p c n) {k : Nat} (hk : k ∉ p.ord) : p.add k = { p with ord := p.ord ++ [k] } := by
  obtain ⟨h1, h2⟩ := B.gone hk
  unfold Pu.add
  rw [if_neg hk]
  congr 1
  · funext j; by_cases e : j = k
    · subst e; simp [h1]
    · simp [e]
  · funext j; by_cases e : j = k
    · subst e; simp [h2]
    · simp [e]
theorem Bu.add (B : Bu fs p c n) {k : Nat} (hk : k < 6) : Bu fs (p.add k) c n := by
  by_cases h : k ∈ p.ord
  · have : p.add k = p := by unfold Pu.add; rw [if_pos h]
    rw [this]; exact B
  · rw [B.add_eq h]
    exact {
      nod := List.nodup_append.mpr ⟨B.nod, by simp, fun a ha b hb e => by rw [List.mem_singleton.mp hb] at e; exact h (e ▸ ha)⟩
      lt := fun j hj => by
        rcases List.mem_append.mp hj with q | q
        · exact B.lt j q
        · rw [List.mem_singleton.mp q]; exact hk
      mem := fun j hj => List.mem_append_left _ (B.mem j hj)
      pred := fun i j hi hj => List.mem_append_left _ (B.pred i j hi hj)
      np := B.np
      su := B.su
      len := B.len
      rd := B.rd
      po := B.po
      nf := B.nf }
theorem Pu.add_keep (q : Pu) {k j : Nat} (h : k ∈ q.ord) : k ∈ (q.add j).ord := by
  unfold Pu.add
  split
  · exact h
  · exact List.mem_append_left _ h
theorem inc_0 (q : Pu) (k : Nat) : q.inc k 0 = q := by
  have : (fun i => if i = k then q.np k + ((0 : Nat) : Int) else q.np i) = q.np := by
    funext i
    by_cases e : i = k
    · subst e; simp
    · simp [e]
  unfold Pu.inc
  rw [this]
theorem add_inc (q : Pu) {k j : Nat} (hk : k ∈ q.ord) (m : Nat) : (q.inc k m).add j = (q.add j).inc k m := by
  by_cases h : j ∈ q.ord
  · unfold Pu.add
    rw [if_pos h, if_pos (show j ∈ (q.inc k m).ord from h)]
  · have hjk : k ≠ j := fun e => h (e ▸ hk)
    unfold Pu.add
    rw [if_neg h, if_neg (show j ∉ (q.inc k m).ord from h)]
    unfold Pu.inc
    dsimp only
    congr 1
    funext i
    by_cases e1 : i = j
    · subst e1; simp [hjk, Ne.symm hjk]
    · by_cases e2 : i = k
      · subst e2; simp [e1, hjk]
      · simp [e1, e2]
theorem Bu.put (B : Bu fs p c n) (hah : ∀ i j, (fs i).ah = some j → j < 6) {k : Nat} (hk : k < 6) : Bu fs (p.put k (fs k).ah.toList) (fun i => if i = k then c i + 1 else c i) (n + 1) := by
  have B1 := B.add hk
  have hm := Pu.mem_add p k
  cases q : (fs k).ah with
  | none =>
    have e : p.put k (none : Option Nat).toList = p.add k := by
      exact inc_0 _ k
    rw [e]
    exact {
      nod := B1.nod
      lt := B1.lt
      mem := fun j hj => by
        by_cases e : j = k
        · rw [e]; exact hm
        · exact B1.mem j (by simpa [e] using hj)
      pred := fun i j hi hj => by
        by_cases e : i = k
        · subst e; rw [q] at hj; cases hj
        · exact B1.pred i j (by simpa [e] using hi) hj
      np := fun i => by
        by_cases e : i = k
        · subst e; rw [B1.np, q]; rfl
        · rw [B1.np]; simp [e]
      su := fun j i => by
        by_cases e : i = k
        · subst e; rw [B1.su, q]; simp
        · rw [B1.su]; simp [e]
      len := fun j => Nat.le_succ_of_le (B1.len j)
      rd := B1.rd
      po := B1.po
      nf := B1.nf }
  | some j =>
    have hj := hah k j q
    have B2 := B1.add hj
    have hmj := Pu.mem_add (p.add k) j
    have hmk : k ∈ ((p.add k).add j).ord := Pu.add_keep _ hm
    have e : p.put k (some j).toList = (((p.add k).add j).inc k 1).app j k := by
      show (((p.add k).inc k 1).add j).app j k = _
      rw [add_inc _ hm]
    rw [e]
    exact {
      nod := B2.nod
      lt := B2.lt
      mem := fun i hi => by
        by_cases e : i = k
        · rw [e]; exact hmk
        · exact B2.mem i (by simpa [e] using hi)
      pred := fun i j' hi hj' => by
        by_cases e : i = k
        · subst e; rw [q] at hj'; cases hj'; exact hmj
        · exact B2.pred i j' (by simpa [e] using hi) hj'
      np := fun i => by
        show (if i = k then ((p.add k).add j).np k + (1 : Nat) else ((p.add k).add j).np i) = _
        by_cases e : i = k
        · subst e; rw [if_pos rfl, B2.np, q]; simp
        · rw [if_neg e, B2.np]; simp [e]
      su := fun j' i => by
        show (if j' = j then ((p.add k).add j).su j ++ [k] else ((p.add k).add j).su j').count i = _
        by_cases e1 : j' = j
        · subst e1
          rw [if_pos rfl, List.count_append, B2.su]
          by_cases e : i = k
          · subst e; simp [q]
          · have : ¬ (k = i) := fun h => e h.symm
            simp [e, this]
        · rw [if_neg e1, B2.su]
          by_cases e : i = k
          · subst e
            have : ¬ ((fs i).ah = some j') := fun h => e1 (by rw [q] at h; exact (Option.some.inj h).symm)
            simp [this]
          · simp [e]
      len := fun j' => by
        show (if j' = j then ((p.add k).add j).su j ++ [k] else ((p.add k).add j).su j').length ≤ _
        have a1 := B2.len j
        have a2 := B2.len j'
        split
        · simp; omega
        · omega
      rd := B2.rd
      po := B2.po
      nf := B2.nf }
noncomputable def pu0 : Pu := ⟨[], fun _ => 0, fun _ => [], none, 0, 0⟩
theorem bu0 (fs : Nat → File) : Bu fs pu0 (fun _ => 0) 0 :=
  ⟨List.nodup_nil, (fun k h => nomatch h), (fun k h => absurd h (by decide)), (fun k j h => absurd h (by decide)), fun k => by simp [pu0], fun j k => by simp [pu0], fun j => by simp [pu0], rfl, rfl, rfl⟩
theorem Bu.gr (B : Bu fs p (fun i => if i < 6 then 2 else 0) 12) : Gr fs p where
  nod := B.nod
  all := fun k => ⟨B.lt k, fun h => B.mem k (by simp [h])⟩
  np := fun k hk => by rw [B.np]; simp [hk]
  su := fun j k => by
    rw [B.su]
    by_cases h1 : (fs k).ah = some j
    · by_cases h2 : k < 6 <;> simp [h1, h2]
    · simp [h1]
  len := fun j => Nat.le_trans (B.len j) (by omega)
  rd := B.rd
  po := B.po
  nf := B.nf
end

section
variable {fs : Nat → File} {p : Pu} (hah : ∀ i j, (fs i).ah = some j → j < 6) (G : Gr fs p)
include G
theorem Gr.mem {i j : Nat} : i ∈ p.su j ↔ i < 6 ∧ (fs i).ah = some j := by
  rw [← List.count_pos_iff, G.su]
  split
  · rename_i h; simp [h]
  · rename_i h; simp [h]
theorem Gr.ordlen : p.ord.length ≤ 6 := by
  have := nd_len _ (List.range 6) G.nod fun x hx => List.mem_range.mpr ((G.all x).mp hx)
  simpa using this
include hah
theorem Gr.acyc {fin : List Nat} (hf : FinOk p.su fin) (ha : ∀ k ∈ p.ord, k ∈ fin) {k : Nat} (hk : k < 6) : dep fs 7 k ≠ 7 := fun h7 => by
  have key : ∀ n k, k < 6 → dep fs n k = n → ∃ l : List Nat, l.length = n ∧ l.Nodup ∧ ∀ x ∈ l, x < 6 ∧ fstAt fin k < fstAt fin x := by
    intro n
    induction n with
    | zero => exact fun k hk _ => ⟨[], rfl, List.nodup_nil, fun x h => by cases h⟩
    | succ n ih =>
      intro k hk h
      cases q : (fs k).ah with
      | none => simp [dep, q] at h
      | some j =>
        have hj := hah k j q
        obtain ⟨l, h1, h2, h3⟩ := ih j hj (by simpa [dep, q] using h)
        have hlt : fstAt fin k < fstAt fin j := by
          obtain ⟨i, hi, e⟩ := hf _ j (fstAt_get (ha j ((G.all j).mpr hj))) k (G.mem.mpr ⟨hk, q⟩)
          have := fstAt_le e
          omega
        refine ⟨j :: l, by simp [h1], List.nodup_cons.mpr ⟨fun hm => ?_, h2⟩, fun x hx => ?_⟩
        · have := (h3 j hm).2; omega
        · rcases List.mem_cons.mp hx with rfl | hx
          · exact ⟨hj, hlt⟩
          · have := h3 x hx; exact ⟨this.1, by omega⟩
  obtain ⟨l, h1, h2, h3⟩ := key 7 k hk h7
  have := nd_len l (List.range 6) h2 fun x hx => List.mem_range.mpr (h3 x hx).1
  rw [h1] at this
  simp at this
omit hah in
theorem Gr.cyc (hc : Cyc p.su) : ∃ k, k < 6 ∧ dep fs 7 k = 7 := by
  obtain ⟨C, hne, hC⟩ := hc
  have key : ∀ n u, u ∈ C → dep fs n u = n := by
    intro n
    induction n with
    | zero => intro u _; rfl
    | succ n ih =>
      intro u hu
      obtain ⟨q, hq, hs⟩ := hC u hu
      simp [dep, (G.mem.mp hs).2, ih q hq]
  cases C with
  | nil => exact absurd rfl hne
  | cons u C =>
    obtain ⟨q, _, hs⟩ := hC u (.head _)
    exact ⟨u, (G.mem.mp hs).1, key 7 u (.head _)⟩
end

theorem decs_po : ∀ (l : List Nat) (p : Pu), (l.foldl Pu.dec p).po = p.po
  | [], _ => rfl
  | s :: l, p => decs_po l (p.dec s)
theorem fins_po : ∀ (l : List Nat) (p : Pu), (l.foldl Pu.fin p).po = p.po
  | [], _ => rfl
  | s :: l, p => (fins_po l (p.fin s)).trans (decs_po _ _)
theorem fins_nf : ∀ (l : List Nat) (p : Pu), (l.foldl Pu.fin p).nf = p.nf + l.length
  | [], _ => rfl
  | s :: l, p => by
    rw [List.foldl_cons, fins_nf l (p.fin s), show (p.fin s).nf = p.nf + 1 from rfl, List.length_cons]
    omega

theorem decs : ∀ (t : List Nat) (p : Pu) (q : List Nat), p.rd = some q → q.Nodup → (∀ i ∈ t, p.np i = (t.count i : Nat) ∧ i ∉ q) →
    (∀ i, (t.foldl Pu.dec p).np i = p.np i - (t.count i : Nat)) ∧ ∃ q', (t.foldl Pu.dec p).rd = some q' ∧ q'.Nodup ∧ ∀ i, i ∈ q' ↔ i ∈ q ∨ i ∈ t
  | [], p, q, h, hn, _ => ⟨fun i => by simp, q, h, hn, fun i => by simp⟩
  | x :: t, p, q, h, hn, ht => by
    have hx := ht x (.head _)
    rw [List.count_cons_self] at hx
    have hnp : ∀ i, (p.dec x).np i = if i = x then p.np x - 1 else p.np i := fun i => rfl
    by_cases hz : t.count x = 0
    · have hxt : x ∉ t := List.count_eq_zero.mp hz
      have hrd : (p.dec x).rd = some (q ++ [x]) := by
        show (if p.np x - 1 = 0 then p.rd.map (· ++ [x]) else p.rd) = _
        rw [if_pos (by rw [hx.1, hz]; rfl), h]; rfl
      obtain ⟨h1, q', h2, h3, h4⟩ := decs t (p.dec x) (q ++ [x]) hrd (List.nodup_append.mpr ⟨hn, by simp, fun a ha b hb e => by rw [List.mem_singleton.mp hb] at e; exact hx.2 (e ▸ ha)⟩) fun i hi => by
        have hne : i ≠ x := fun e => hxt (e ▸ hi)
        have := ht i (.tail _ hi)
        rw [List.count_cons_of_ne (Ne.symm hne)] at this
        exact ⟨by rw [hnp, if_neg hne]; exact this.1, by simp [this.2, hne]⟩
      refine ⟨fun i => ?_, q', h2, h3, fun i => ?_⟩
      · rw [List.foldl_cons, h1, hnp]
        by_cases e : i = x
        · subst e; rw [if_pos rfl, List.count_cons_self]; omega
        · rw [if_neg e, List.count_cons_of_ne (Ne.symm e)]
      · rw [h4]; simp [or_assoc]
    · have hxt : x ∈ t := List.count_pos_iff.mp (by omega)
      have hrd : (p.dec x).rd = some q := by
        show (if p.np x - 1 = 0 then p.rd.map (· ++ [x]) else p.rd) = _
        rw [if_neg (by rw [hx.1]; omega), h]
      obtain ⟨h1, q', h2, h3, h4⟩ := decs t (p.dec x) q hrd hn fun i hi => by
        have := ht i (.tail _ hi)
        by_cases e : i = x
        · subst e
          rw [List.count_cons_self] at this
          exact ⟨by rw [hnp, if_pos rfl, this.1]; omega, this.2⟩
        · rw [List.count_cons_of_ne (Ne.symm e)] at this
          exact ⟨by rw [hnp, if_neg e]; exact this.1, this.2⟩
      refine ⟨fun i => ?_, q', h2, h3, fun i => ?_⟩
      · rw [List.foldl_cons, h1, hnp]
        by_cases e : i = x
        · subst e; rw [if_pos rfl, List.count_cons_self]; omega
        · rw [if_neg e, List.count_cons_of_ne (Ne.symm e)]
      · rw [h4]
        simp only [List.mem_cons]
        constructor
        · rintro (a | a)
          · exact .inl a
          · exact .inr (.inr a)
        · rintro (a | rfl | a)
          · exact .inl a
          · exact .inr hxt
          · exact .inr a

theorem fins : ∀ (t : List Nat) (p : Pu) (q : List Nat), p.rd = some q → q.Nodup → t.Nodup → (∀ j ∈ t, ∀ i ∈ p.su j, p.np i = ((p.su j).count i : Nat) ∧ i ∉ q ∧ i ∉ t) → (∀ j ∈ t, ∀ j' ∈ t, j ≠ j' → ∀ i ∈ p.su j, i ∉ p.su j') →
    (∀ i, (t.foldl Pu.fin p).np i = if i ∈ t then -2 else if ∃ j ∈ t, i ∈ p.su j then 0 else p.np i) ∧ ∃ q', (t.foldl Pu.fin p).rd = some q' ∧ q'.Nodup ∧ ∀ i, i ∈ q' ↔ i ∈ q ∨ ∃ j ∈ t, i ∈ p.su j
  | [], p, q, h, hn, _, _, _ => ⟨fun i => by simp, q, h, hn, fun i => by simp⟩
  | x :: t, p, q, h, hn, htn, h1, h2 => by
    obtain ⟨hxt, htn'⟩ := List.nodup_cons.mp htn
    have hxs : ∀ j ∈ x :: t, x ∉ p.su j := fun j hj hm => (h1 j hj x hm).2.2 (.head _)
    have hnx : ∀ i, i ≠ x → (p.out x).np i = p.np i := fun i e => if_neg e
    have hxx : (p.out x).np x = -2 := if_pos rfl
    obtain ⟨d1, q1, d2, d3, d4⟩ := decs (p.su x) (p.out x) q h hn fun i hi => by
      have := h1 x (.head _) i hi
      refine ⟨?_, this.2.1⟩
      rw [hnx i (fun e => hxs x (.head _) (e ▸ hi))]
      exact this.1
    have es : (p.fin x).su = p.su := decs_su _ _
    have en : ∀ i, (p.fin x).np i = (p.out x).np i - ((p.su x).count i : Nat) := d1
    have er : (p.fin x).rd = some q1 := d2
    obtain ⟨f1, q', f2, f3, f4⟩ := fins t (p.fin x) q1 er d3 htn' (fun j hj i hi => by
      rw [es] at hi
      have a := h1 j (.tail _ hj) i hi
      have hnot : i ∉ p.su x := h2 j (.tail _ hj) x (.head _) (fun e => hxt (e ▸ hj)) i hi
      rw [es, en, hnx i (fun e => a.2.2 (e ▸ .head _)), List.count_eq_zero.mpr hnot]
      refine ⟨by rw [a.1]; simp, ?_, fun hm => a.2.2 (.tail _ hm)⟩
      rw [d4]
      exact fun hm => hm.elim a.2.1 hnot) (fun j hj j' hj' hne i hi => by
      rw [es] at hi ⊢
      exact h2 j (.tail _ hj) j' (.tail _ hj') hne i hi)
    rw [es] at f1 f4
    refine ⟨fun i => ?_, q', f2, f3, fun i => ?_⟩
    · rw [List.foldl_cons, f1, en]
      by_cases e : i = x
      · subst e
        rw [if_neg hxt, if_neg (by rintro ⟨j, hj, hm⟩; exact hxs j (.tail _ hj) hm), if_pos (List.mem_cons_self ..), hxx, List.count_eq_zero.mpr (hxs i (.head _))]
        rfl
      · have m1 : (i ∈ x :: t) ↔ i ∈ t := by simp [e]
        rw [hnx i e]
        by_cases ht : i ∈ t
        · rw [if_pos ht, if_pos (m1.mpr ht)]
        · rw [if_neg ht, if_neg (fun h => ht (m1.mp h))]
          by_cases hx : i ∈ p.su x
          · rw [if_pos (⟨x, .head _, hx⟩ : ∃ j ∈ x :: t, i ∈ p.su j), (h1 x (.head _) i hx).1]
            split
            · rfl
            · omega
          · rw [List.count_eq_zero.mpr hx]
            by_cases hex : ∃ j ∈ t, i ∈ p.su j
            · obtain ⟨j, hj, hm⟩ := hex
              rw [if_pos ⟨j, hj, hm⟩, if_pos ⟨j, .tail _ hj, hm⟩]
            · rw [if_neg hex, if_neg (by
                rintro ⟨j, hj, hm⟩
                rcases List.mem_cons.mp hj with rfl | hj
                · exact hx hm
                · exact hex ⟨j, hj, hm⟩)]
              simp
    · rw [f4, d4]
      constructor
      · rintro ((a | a) | ⟨j, hj, a⟩)
        · exact .inl a
        · exact .inr ⟨x, .head _, a⟩
        · exact .inr ⟨j, .tail _ hj, a⟩
      · rintro (a | ⟨j, hj, a⟩)
        · exact .inl (.inl a)
        · rcases List.mem_cons.mp hj with rfl | hj
          · exact .inl (.inr a)
          · exact .inr ⟨j, hj, a⟩

structure Kn (fs : Nat → File) (g p : Pu) (r : Nat) (l : List Nat) : Prop where
  ord : p.ord = g.ord
  su : p.su = g.su
  rd : p.rd = some l
  nod : l.Nodup
  mem : ∀ k, k ∈ l ↔ k < 6 ∧ dep fs 7 k = r
  np : ∀ k, k < 6 → p.np k = if dep fs 7 k < r then -2 else if dep fs 7 k = r then 0 else 2
  pn : p.po = p.nf
section
variable {fs : Nat → File} {g p : Pu} {r : Nat} {l : List Nat} (hah : ∀ i j, (fs i).ah = some j → j < 6) (G : Gr fs g)
include G
theorem Kn.start : Kn fs g { g with rd := some g.ready } 0 g.ready where
  ord := rfl
  su := rfl
  rd := rfl
  nod := G.nod.sublist List.filter_sublist
  mem := fun k => by
    unfold Pu.ready
    rw [List.mem_filter, G.all]
    constructor
    · rintro ⟨h1, h2⟩
      refine ⟨h1, dep_none ?_⟩
      have h2 : g.np k = 0 := of_decide_eq_true h2
      rw [G.np k h1] at h2
      cases q : (fs k).ah with
      | none => rfl
      | some j => rw [q] at h2; simp at h2
    · rintro ⟨h1, h2⟩
      refine ⟨h1, decide_eq_true ?_⟩
      rw [G.np k h1]
      cases q : (fs k).ah with
      | none => rfl
      | some j => have := dep_some q; exact absurd h2 (by omega)
  np := fun k hk => by
    show g.np k = _
    rw [G.np k hk, if_neg (show ¬ dep fs 7 k < 0 by omega)]
    cases q : (fs k).ah with
    | none => rw [if_pos (dep_none q)]; rfl
    | some j => have := dep_some q; rw [if_neg (show ¬ dep fs 7 k = 0 by omega)]; rfl
  pn := by rw [show ({ g with rd := some g.ready } : Pu).po = g.po from rfl, show ({ g with rd := some g.ready } : Pu).nf = g.nf from rfl, G.po, G.nf]
noncomputable abbrev Pu.take (p : Pu) (l : List Nat) : Pu := { p with np := fun j => if j ∈ l then -1 else p.np j, rd := some [], po := p.po + l.length }
include hah
theorem Kn.step (K : Kn fs g p r l) (hr6 : r ≤ 6) (hne : l ≠ []) : r ≤ 5 ∧ ∃ l', Kn fs g (l.foldl Pu.fin (p.take l)) (r + 1) l' := by
  obtain ⟨k0, hk0⟩ := List.exists_mem_of_ne_nil l hne
  obtain ⟨hk6, hk0⟩ := (K.mem k0).mp hk0
  have hr : r ≤ 5 := by
    have h2 := dep_no6 hah hk6
    omega
  refine ⟨hr, ?_⟩
  have hsm : ∀ j i, i ∈ (p.take l).su j ↔ i < 6 ∧ (fs i).ah = some j := fun j i => by
    show i ∈ p.su j ↔ _
    rw [K.su]; exact G.mem
  have hd : ∀ j ∈ l, ∀ i, (fs i).ah = some j → dep fs 7 i = r + 1 := fun j hj i hi => by
    have := ((K.mem j).mp hj).2
    have := dep_some hi
    omega
  obtain ⟨f1, q', f2, f3, f4⟩ := fins l (p.take l) [] rfl List.nodup_nil K.nod (fun j hj i hi => by
    obtain ⟨h1, h2⟩ := (hsm j i).mp hi
    have h3 := hd j hj i h2
    have hil : i ∉ l := fun h => by have := ((K.mem i).mp h).2; omega
    refine ⟨?_, by simp, hil⟩
    show (if i ∈ l then -1 else p.np i) = ((p.su j).count i : Nat)
    rw [if_neg hil, K.np i h1, if_neg (by omega), if_neg (by omega), K.su, G.su, if_pos ⟨h1, h2⟩]
    rfl) (fun j hj j' hj' hne i hi hi' => by
    have h1 := ((hsm j i).mp hi).2
    have h2 := ((hsm j' i).mp hi').2
    rw [h1] at h2
    exact hne (Option.some.inj h2))
  have hex : ∀ k, k < 6 → ((∃ j ∈ l, k ∈ (p.take l).su j) ↔ dep fs 7 k = r + 1) := fun k hk => by
    constructor
    · rintro ⟨j, hj, hm⟩
      exact hd j hj k ((hsm j k).mp hm).2
    · intro h
      cases q : (fs k).ah with
      | none => rw [dep_none q] at h; omega
      | some j =>
        have := dep_some q
        exact ⟨j, (K.mem j).mpr ⟨hah k j q, by omega⟩, (hsm j k).mpr ⟨hk, q⟩⟩
  refine ⟨q', ⟨(fins_ord _ _).trans K.ord, (fins_su _ _).trans K.su, f2, f3, fun k => ?_, fun k hk => ?_, ?_⟩⟩
  · rw [f4]
    constructor
    · rintro (h | ⟨j, hj, hm⟩)
      · cases h
      · exact ⟨((hsm j k).mp hm).1, hd j hj k ((hsm j k).mp hm).2⟩
    · rintro ⟨h1, h2⟩
      exact .inr ((hex k h1).mpr h2)
  · rw [f1]
    by_cases h1 : k ∈ l
    · have := ((K.mem k).mp h1).2
      rw [if_pos h1, if_pos (by omega)]
    · rw [if_neg h1]
      have h2 : dep fs 7 k ≠ r := fun h => h1 ((K.mem k).mpr ⟨hk, h⟩)
      by_cases h3 : dep fs 7 k = r + 1
      · rw [if_pos ((hex k hk).mpr h3), if_neg (by omega), if_pos h3]
      · rw [if_neg (fun h => h3 ((hex k hk).mp h))]
        show (if k ∈ l then -1 else p.np k) = _
        rw [if_neg h1, K.np k hk]
        by_cases h4 : dep fs 7 k < r
        · rw [if_pos h4, if_pos (by omega)]
        · rw [if_neg h4, if_neg h2, if_neg (by omega), if_neg h3]
  · rw [fins_po, fins_nf]
    show p.po + l.length = p.nf + l.length
    rw [K.pn]
end
end Mine
end
section
open PySem PySem.W PyProof.Rows PySem.Spec PySem.Calls
set_option Elab.async false
set_option maxRecDepth 100000
set_option maxHeartbeats 4000000
set_option linter.unusedVariables false
namespace Mine
local macro_rules | `(tactic| walk_at "none S10 0") => `(tactic| skip)
local macro_rules | `(tactic| walk_at "none S10 1") => `(tactic| skip)
local macro_rules | `(tactic| walk_at "none S10 2") => `(tactic| skip)
theorem calm_S10 : True := by
  w_top off
  k_with_none
  trivial

local macro_rules | `(tactic| walk_at "call ref") => `(tactic| ((with_reducible show wpAny _ _ (call (Value.ref 161) _) _ _ _); refine held ?_))
local macro_rules | `(tactic| walk_at "And") => `(tactic| ((with_reducible show _ ∧ Keeps _ _); refine held ?_))
local macro_rules | `(tactic| walk_at "eval ListComp") => `(tactic| refine held ?_)
theorem CtrT.use {b : Nat} {f : Addr} {w : World} {vs : List Value} {pre : Led → Prop} {post : Led → Value → Led → Prop} (c : CtrT b f w vs pre post)
    {p : Program} {loose : List Str} {mean : ExcName → Option Value} {mg mb : Str → Option Value} {dp un : Nat} {gd : Option (List Code)} {cn : Str} {cs : Scope} {a : Addr} {ccd : Value} {cl : List (Str × Addr)} {outer : List Env} {A₀ : Around} {base h₀ : Heap} {L : Addr} {m : Str → Option Value} {news : Led} {s : Shared} {Q E : Value → Shared → Prop}
    (B : Below A₀ base outer h₀) (F : Fr h₀ L s.heap m) (K : (h0.heap_1 w.params).In h₀) (N : News h₀ L s.heap news) (T : Top p loose mean mg mb h₀) (XB : (h0.heap_1 w.params).In base) (TB : Top p loose mean mg mb base) (D : KtsDicts (frs outer) h₀) (hk : cs.kind = .function) (hp : pre news)
    (hd : dp + b < recursionLimit) (hu : un + b < cLine)
    (k : ∀ v news' h' tk' h₀', KtsTurn (frs outer) h₀ h₀' → Fr h₀' L h' m → News h₀' L h' news' → Below A₀ base outer h₀' → post news v news' → Q v { s with heap := h', toks := tk' }) :
      wpAny (model PG w) (ktrTop dp un gd cn cs L a ccd cl outer) (call (.ref f) vs) Q E s :=
  c _ _ _ _ _ _ _ _ _ _ _ _ _ _ _ _ _ _ _ _ _ _ _ B F K N T XB TB D hk hp hd hu k
theorem so_newrd {w : World} {A : Around} {E : Value → Shared → Prop} {s : Shared} {h₀ : Heap} {L D x : Addr} {m : Str → Option Value} {rest news : Led} {σ : Srt} {vs : List Value} {n : Nat} {l : List Nat} {Q : Unit → Shared → Prop}
    (F : Fr h₀ L s.heap m) (X₀ : (h0.heap_1 w.params).In h₀) (N : News h₀ L s.heap ((D, lstO vs n) :: news)) (S : So w σ rest news) (h0 : σ.pu.rd = none) (hv : IV vs l) (hf : ∀ p ∈ news, p.1 ≠ D) (hx : σ.x = x)
    (h : ∀ h' news', Fr h₀ L h' m → News h₀ L h' news' → So w (σ.newRd D l) rest news' → Held (Q () { s with heap := h', toks := s.toks + 2 })) : wpAny (model PG w) A (setAttr (.ref x) (Str.ofString "_ready_nodes") (.ref D)) Q E s := by
  subst hx
  refine ob_eeeeee (S.dict) ?_
  intro t1 t2 t3 t4 t5 t6 q
  exact st_rd F X₀ N (.tail _ S.inst) (.tail _ q) fun h' F' N' => h h' _ F' N' (So.new_rd S h0 hv (.tail _ (mem_off (.head _) (fun e => hf _ q e.symm))) hf (.head _) fun p hp hne => .tail _ (mem_off (.tail _ hp) hne))
theorem paired_iv {w : World} {σ : Srt} {rest news : Led} (S : So w σ rest news) : ∀ {l : List Nat} {ys : List Value}, (∀ j ∈ l, j ∈ σ.pu.ord) → Paired (fun (v y : Value) => ∃ k ∈ σ.pu.ord, v = Value.ref (σ.ia k) ∧ ∃ t, y = Value.int (k : Nat) t) (l.map fun j => Value.ref (σ.ia j)) ys → IV ys l
  | [], _, _, .nil => .nil
  | j :: l, _, hs, .cons ⟨k, hk, e, t, hy⟩ r => by
    have h1 := S.ria j (hs j (.head _))
    rw [Value.ref.inj e, S.ria k hk] at h1
    cases h1
    rw [hy]
    exact .cons j t (paired_iv S (fun i hi => hs i (.tail _ hi)) r)
noncomputable def CtrP (b : Nat) (f : Addr) (w : World) (vs : List Value) (pre : Led → Prop) (post : Led → Value → Led → Prop) (C : Addr) (postE : Led → Led → Prop) : Prop :=
  ∀ (p : Program) (loose : List Str) (mean : ExcName → Option Value) (mg mb : Str → Option Value) (dp un : Nat) (gd : Option (List Code)) (cn : Str) (cs : Scope) (a : Addr) (ccd : Value) (cl : List (Str × Addr)) (outer : List Env) (A₀ : Around) (base h₀ : Heap) (L : Addr) (m : Str → Option Value) (news : Led) (s : Shared) (Q E : Value → Shared → Prop),
    Below A₀ base outer h₀ → Fr h₀ L s.heap m → (h0.heap_1 w.params).In h₀ → News h₀ L s.heap news → Top p loose mean mg mb h₀ → (h0.heap_1 w.params).In base → Top p loose mean mg mb base → KtsDicts (frs outer) h₀ → cs.kind = .function → pre news →
    dp + b < recursionLimit → un + b < cLine →
    (∀ v news' h' tk' h₀', KtsTurn (frs outer) h₀ h₀' → Fr h₀' L h' m → News h₀' L h' news' → Below A₀ base outer h₀' → post news v news' → Q v { s with heap := h', toks := tk' }) →
    (∀ e t xs news' h' tk' h₀' G, KtsTurn (frs outer) h₀ h₀' → Fr h₀' L G m → Below A₀ base outer h₀' → RaisedS base G (envX cn cs L a ccd cl :: outer) e (.ref C) t xs news' h' → G.UpToSlots h' → postE news news' → E (.ref e) { s with heap := h', toks := tk' }) →
      wpAny (model PySem.Challenge.rw_oy0305_01.row.prog w) (ktrTop dp un gd cn cs L a ccd cl outer) (call (.ref f) vs) Q E s
theorem CtrP.use {b : Nat} {f : Addr} {w : World} {vs : List Value} {pre : Led → Prop} {post : Led → Value → Led → Prop} {C : Addr} {postE : Led → Led → Prop} (c : CtrP b f w vs pre post C postE)
    {p : Program} {loose : List Str} {mean : ExcName → Option Value} {mg mb : Str → Option Value} {dp un : Nat} {gd : Option (List Code)} {cn : Str} {cs : Scope} {a : Addr} {ccd : Value} {cl : List (Str × Addr)} {outer : List Env} {A₀ : Around} {base h₀ : Heap} {L : Addr} {m : Str → Option Value} {news : Led} {s : Shared} {Q E : Value → Shared → Prop}
    (B : Below A₀ base outer h₀) (F : Fr h₀ L s.heap m) (K : (h0.heap_1 w.params).In h₀) (N : News h₀ L s.heap news) (T : Top p loose mean mg mb h₀) (XB : (h0.heap_1 w.params).In base) (TB : Top p loose mean mg mb base) (D : KtsDicts (frs outer) h₀) (hk : cs.kind = .function) (hp : pre news)
    (hd : dp + b < recursionLimit) (hu : un + b < cLine)
    (k : ∀ v news' h' tk' h₀', KtsTurn (frs outer) h₀ h₀' → Fr h₀' L h' m → News h₀' L h' news' → Below A₀ base outer h₀' → post news v news' → Q v { s with heap := h', toks := tk' })
    (kE : ∀ e t xs news' h' tk' h₀' G, KtsTurn (frs outer) h₀ h₀' → Fr h₀' L G m → Below A₀ base outer h₀' → RaisedS base G (envX cn cs L a ccd cl :: outer) e (.ref C) t xs news' h' → G.UpToSlots h' → postE news news' → E (.ref e) { s with heap := h', toks := tk' }) :
      wpAny (model PG w) (ktrTop dp un gd cn cs L a ccd cl outer) (call (.ref f) vs) Q E s :=
  c _ _ _ _ _ _ _ _ _ _ _ _ _ _ _ _ _ _ _ _ _ _ _ B F K N T XB TB D hk hp hd hu k kE
theorem turn_up {A₀ : Around} {base h₀ : Heap} {outer : List Env} {L : Addr} {m : Str → Option Value} {env : Env} {g g' : Heap} (B : Below A₀ base outer h₀) (FG : Fr h₀ L g m) (hf : env.frame = some L)
    (T : KtsTurn (frs (env :: outer)) g g') : ∃ h₀', KtsTurn (frs outer) h₀ h₀' ∧ Fr h₀' L g' m ∧ Below A₀ base outer h₀' := by
  have nL : h₀.get? L = none := kts_self FG
  have mem : ∀ b, b ∈ frs (env :: outer) → b = L ∨ b ∈ frs outer := fun b hb => by
    refine ob_ea (List.mem_filterMap.mp hb) ?_
    intro e he q
    rcases List.mem_cons.mp he with rfl | he
    · exact .inl (Option.some.inj (q.symm.trans hf))
    · exact .inr (List.mem_filterMap.mpr ⟨e, he, q⟩)
  obtain ⟨oL, es, n, hL, hLd⟩ : ∃ o es n, g.get? L = some o ∧ o.data = .dict es n := by
    refine ob_eee (FG.ns) ?_
    intro o es ep hq0
    refine ob_aa hq0 ?_
    clear hq0
    intro ho' hod _
    exact ⟨o, es, ep, ho', hod⟩
  obtain ⟨sl, hs⟩ := T.up hL
  obtain ⟨T₁, S₁⟩ := kts_turn_at (h := g') (fs := frs outer) (g := h₀)
    (fun b hb => let ⟨_, o, ho, _⟩ := B.frames.mem hb; ⟨o, ho⟩)
    (fun b o e nm => T.other b o (FG.keep b o e) (fun q => (mem b q).elim (fun z => by rw [z, nL] at e; cases e) nm))
    (fun b o e hm => T.up (FG.keep b o e))
  have B₃ : Below A₀ base outer (ktsHeap g' (frs outer) h₀) := ⟨B.stack, fun b o e => T₁.other b o (B.stays b o e) (fun hm => by rw [(B.frames.mem hm).1] at e; cases e),
    B.frames.of_keeps fun b o e _ => let ⟨sl', hs'⟩ := T₁.up e; ⟨_, hs', rfl⟩⟩
  have ns : Heap.Ns g' L m := by
    refine ob_eee (FG.ns) ?_
    intro o es' ep hq0
    refine ob_aa hq0 ?_
    clear hq0
    intro ho hod r
    rw [hL] at ho
    cases ho
    exact ⟨_, es', ep, hs, hod, r⟩
  exact ⟨_, T₁, ⟨ns, S₁, by rw [T₁.size]; exact FG.above⟩, B₃⟩
theorem c_prep (w : World) (σ : Srt) (rest : Led) (x : Addr) (hx : σ.x = x) (hrd : σ.pu.rd = none) (hord : σ.pu.ord.Nodup) (hol : σ.pu.ord.length ≤ 50) (hsu : ∀ k ∈ σ.pu.ord, (σ.pu.su k).length ≤ 900 ∧ ∀ v ∈ σ.pu.su k, v ∈ σ.pu.ord) :
    CtrP 30 126 w [.ref x] (fun news => So w σ rest news) (fun news v news' => v = .none ∧ (∃ fin, FinOk σ.pu.su fin ∧ ∀ k ∈ σ.pu.ord, k ∈ fin) ∧ ∃ σ', So w σ' rest news' ∧ σ'.pu = { σ.pu with rd := some σ.pu.ready } ∧ σ'.x = x) 89 (fun news news' => Cyc σ.pu.su ∧ ∃ σ', So w σ' rest news' ∧ σ'.pu = { σ.pu with rd := some σ.pu.ready } ∧ σ'.x = x) := by
  unfold CtrP
  k_fill
  intro p loose mean mg mb dp un gd cn cs a ccd cl outer A₀ base h₀ L m news s Q E B F KX N T XB TB DD hk S hd9 hu9 hret hrai
  have p1 := S.inst
  refine ob_eeeeee (S.dict) ?_
  intro t1 t2 t3 t4 t5 t6 p2
  have e0 : rdV σ = .none := by unfold rdV; rw [hrd]
  rw [e0] at p2
  rw [hx] at p1
  k_with_none
  refine wpAny_call ?_
  k_dflt (refine' code_defT ?k1 ?k2 ?k3 ?k4 ?k5 ?kD ?kA ?kF ?kK ?k6 ?k7 ?k8 ?k9 ?kB ?_ ?c2 ?c3 ?c4 ?c5; (case kA => exact rfl); (case kF => exact rfl); (case kK => assumption); (case kD => assumption); (case k1 => k_asm); (case k2 => k_asm); (case k3 => k_asm); (case k4 => k_asm); (case k5 => k_asm); (case k6 => k_is); (case k7 => k_is); (case k8 => ktr_room); (case k9 => exact BindsTo.of_eq rfl); (case c5 => decide); (case kB => exact locs rfl); (case c2 => exact rfl); (case c3 => exact rfl); (case c4 => exact rfl); k_whole; intro g' L' h' FG' F' N' B' X' T' D' hlt'; (try dsimp only); (try k_fold))
  refine ob_ea (S.n2i) ?_
  intro od pd hod
  have hlo := S.lo
  k_steps
  show wpAny _ _ _ _ _ _
  with_reducible rename Fr _ _ _ _ => F8
  with_reducible rename News _ _ _ _ => N8
  refine wpAny_ListComp_free (cl := []) (fun v => decide (∃ k ∈ σ.pu.ord, v = .ref (σ.ia k) ∧ σ.pu.np k = 0)) (fun v y => ∃ k ∈ σ.pu.ord, v = .ref (σ.ia k) ∧ ∃ t, y = .int (k : Nat) t) (by with_unfolding_all rfl) (by decide) (by rfl) (by decide) (by rfl) ?_
  k_with "getMethod ref" => refine kob_method PySem.F.slot_dict_values PySem.F.type_dict_values (by assumption) pd hod ?_
  k_with "call builtin:dict.values cons nil" => (refine kta_callValues (by assumption) (by assumption) pd hod hlo ?_; intro h9 hv9 F9 N9; refine held ?_)
  k_steps
  show wpAny _ _ _ _ _ _
  obtain ⟨ep, hat⟩ := (Heap.dictOf_iff.mpr ⟨od, (N9 _ pd).1, hod⟩).dictAt
  refine wpAny_pyIter_values hv9 hat ?_
  have hlt : σ.d < h9.objs.size := Heap.lt_size (N9 _ pd).1
  refine ⟨_, _, _, _, _, _, rfl, Walks.dictValues rfl _ σ.d (Nat.ne_of_lt hlt) _ ep, by rw [sizeLine_eq]; simp; omega, ⟨⟨_, Heap.get?_push_size _ rfl, rfl, rfl⟩, hat.at' fun o e => Heap.get?_push_of_some _ e⟩, ?_, ⟨?_, ?_⟩, ?_⟩
  · intro b hb
    simp only [List.mem_cons, List.not_mem_nil, or_false] at hb
    show b < (h9.push _).objs.size
    rw [Heap.size_push]
    rcases hb with rfl | rfl
    · exact Nat.lt_succ_self _
    · exact Nat.lt_succ_of_lt hlt
  · rintro C i v s₃ m₃ E' hC ⟨kk, hkv⟩ hns hmi hk₃ htk
    obtain ⟨j, hj, rfl⟩ : ∃ j, σ.pu.ord[i]? = some j ∧ v = .ref (σ.ia j) := by
      rw [List.getElem?_map] at hkv
      cases q : σ.pu.ord[i]? with
      | none => rw [q] at hkv; cases hkv
      | some j => rw [q] at hkv; cases hkv; exact ⟨j, rfl, rfl⟩
    have hjo : j ∈ σ.pu.ord := List.mem_of_getElem? hj
    have up : ∀ b o, h9.get? b = some o → s₃.heap.get? b = some o := fun b o e => hk₃ b o (by simpa using Nat.ne_of_lt (Heap.lt_size e)) (Heap.get?_push_of_some _ e)
    have F₃ := F9.keeps up
    have N₃ := News.grown N9 up
    refine ob_ee (S.cell j hjo) ?_
    intro u1 u2 c1
    have c2 := S.dic j hjo
    clear F8 N8 F9 N9
    rw [List.forIn_cons]
    refine wpAny_bind ?_
    rw [if_pos rfl]
    refine wpAny_bind ?_
    k_with "eval Name" => refine ldVarK hns hmi ?_ (by rfl) (by rfl) (by decide)
    k_steps
    refine wpAny_pure ?_
    refine wpAny_pure ⟨?_, _, _, rfl, fun _ _ e => e⟩
    have inj : ∀ k ∈ σ.pu.ord, Value.ref (σ.ia j) = .ref (σ.ia k) → j = k := fun k hk e => by
      have h1 := S.ria j hjo
      rw [Value.ref.inj e, S.ria k hk] at h1
      cases h1
      rfl
    by_cases hz : σ.pu.np j = 0
    · rw [beq_iff_eq.mpr hz]
      exact (decide_eq_true ⟨j, hjo, rfl, hz⟩).symm
    · rw [show (σ.pu.np j == 0) = false from beq_eq_false_iff_ne.mpr hz]
      exact (decide_eq_false fun ⟨k, hk, e, h0⟩ => hz (by rw [inj k hk e]; exact h0)).symm
  · rintro C i v s₃ m₃ E' hC ⟨kk, hkv⟩ hpv hns hmi hk₃ htk
    obtain ⟨j, hj, rfl⟩ : ∃ j, σ.pu.ord[i]? = some j ∧ v = .ref (σ.ia j) := by
      rw [List.getElem?_map] at hkv
      cases q : σ.pu.ord[i]? with
      | none => rw [q] at hkv; cases hkv
      | some j => rw [q] at hkv; cases hkv; exact ⟨j, rfl, rfl⟩
    have hjo : j ∈ σ.pu.ord := List.mem_of_getElem? hj
    have up : ∀ b o, h9.get? b = some o → s₃.heap.get? b = some o := fun b o e => hk₃ b o (by simpa using Nat.ne_of_lt (Heap.lt_size e)) (Heap.get?_push_of_some _ e)
    have F₃ := F9.keeps up
    have N₃ := News.grown N9 up
    refine ob_ee (S.cell j hjo) ?_
    intro u1 u2 c1
    have c2 := S.dic j hjo
    clear F8 N8 F9 N9
    k_with "eval Name" => refine ldVarK hns hmi ?_ (by rfl) (by rfl) (by decide)
    k_steps
    show _ ∧ Keeps _ _
    exact ⟨⟨j, hjo, rfl, _, rfl⟩, _, _, rfl, fun _ _ e => e⟩
  · rintro D h10 tk10 ys vs hD hl hpl hlen hP hF hk10
    have up : ∀ b o, h9.get? b = some o → h10.get? b = some o := fun b o e => hk10 b o (by simpa using Nat.ne_of_lt (Heap.lt_size e)) (Heap.get?_push_of_some _ e)
    have F10 := F9.keeps up
    have N10 := News.grown N9 up
    have hvs : vs = σ.pu.ord.map fun j => .ref (σ.ia j) := by
      refine List.ext_getElem? fun i => ?_
      rw [List.getElem?_map]
      cases q : vs[i]? with
      | none =>
        rw [List.getElem?_eq_none_iff] at q
        rw [hlen, List.length_map] at q
        rw [List.getElem?_eq_none_iff.mpr q]
        rfl
      | some v =>
        obtain ⟨k, hk⟩ := hP i v q
        rw [List.getElem?_map] at hk
        cases z : σ.pu.ord[i]? with
        | none => rw [z] at hk; cases hk
        | some j => rw [z] at hk; cases hk; rfl
    have inj : ∀ j ∈ σ.pu.ord, ∀ k ∈ σ.pu.ord, Value.ref (σ.ia j) = .ref (σ.ia k) → j = k := fun j hj k hk e => by
      have h1 := S.ria j hj
      rw [Value.ref.inj e, S.ria k hk] at h1
      cases h1
      rfl
    have hiv : IV ys.toList σ.pu.ready := by
      rw [hvs, List.filter_map] at hF
      have e : σ.pu.ord.filter ((fun v => decide (∃ k ∈ σ.pu.ord, v = Value.ref (σ.ia k) ∧ σ.pu.np k = 0)) ∘ fun j => Value.ref (σ.ia j)) = σ.pu.ready := by
        unfold Pu.ready
        refine List.filter_congr fun j hj => ?_
        exact decide_eq_decide.mpr ⟨fun ⟨k, hk, e, h0⟩ => by rw [inj j hj k hk e]; exact h0, fun h => ⟨j, hj, rfl, h⟩⟩
      rw [e] at hF
      exact paired_iv S (fun j hj => (List.mem_filter.mp hj).1) hF
    obtain ⟨nD, hDo⟩ := hpl
    have hD9 : h9.get? D = none := by
      cases q : h9.get? D with
      | none => rfl
      | some o => rw [show (h9.push _).get? D = some o from Heap.get?_push_of_some _ q] at hD; cases hD
    have hDL : D ≠ L' := by
      rintro rfl
      refine ob_eeea (F9.ns) ?_
      intro o _ _ q _
      rw [hD9] at q
      cases q
    have hDg : g'.get? D = none := by
      cases q : g'.get? D with
      | none => rfl
      | some o => have := F9.keep D o q; rw [hD9] at this; cases this
    have fD : ∀ p ∈ news, p.1 ≠ D := fun p hp e => by
      have := (N9 p hp).1
      rw [e, hD9] at this
      cases this
    have N11 : News g' L' h10 ((D, lstO ys.toList nD) :: news) := fun p hp => by
      rcases List.mem_cons.mp hp with rfl | hp
      · exact ⟨hDo, hDL, hDg⟩
      · exact N10 p hp
    have p5 : (x, instObj 171 σ.dx) ∈ (D, lstO ys.toList nD) :: news := .tail _ p1
    clear F8 N8 F9 N9 N10
    k_with "setAttr ref ref" => (refine so_newrd (by assumption) (by assumption) N11 S hrd hiv fD hx ?_; intro h12 news12 F12 N12 S12)
    k_steps
    show wpAny _ _ _ _ _ _
    have p6 : (x, instObj 171 σ.dx) ∈ news12 := by have := S12.inst; rw [show (σ.newRd D σ.pu.ready).x = x from hx] at this; exact this
    refine ob_eeeeee (S12.dict) ?_
    intro y1 y2 y3 y4 y5 y6 p7
    replace p7 : (σ.dx, soDict w y1 y2 y3 y4 σ.d (.ref D) (.int (σ.pu.po : Nat) y5) (.int (σ.pu.nf : Nat) y6)) ∈ news12 := p7
    k_steps
    show wpAny _ _ _ _ _ _
    refine CtrT.use (c_find w (σ.newRd D σ.pu.ready) rest x hx σ.pu.ready rfl hord hol hsu) B' (by assumption) (by assumption) (by assumption) (by assumption) XB TB D' rfl S12 (by k_room) (by k_units) ?_
    rintro v news13 h13 tk13 g13 T13 F13 N13 B13 ⟨hk13, hres⟩
    have X13 : (h0.heap_1 w.params).In g13 := XB.keeps B13.stays
    have P13 := TB.keeps B13.stays
    have D13 := D'.turn T13
    have S13 := S12.mono hk13
    clear F12 N12 X' T'
    rcases hres with ⟨rfl, hacy⟩ | ⟨hcyc, b, vs13, n13, rfl, hne13, hlen13, hm13, hf13⟩
    · k_steps
      exact ⟨_, _, _, _, T13, by assumption, by assumption, fun h₀' t1 f1 n1 b1 => hret _ _ _ _ h₀' t1 f1 n1 b1 ⟨rfl, hacy, _, S13, rfl, hx⟩⟩
    · k_with "truthy ref" => refine truthy_yes (by assumption) hm13 (by omega) hne13 ?_
      k_steps
      refine ob_eaa (turn_up B FG' rfl T13) ?_
      intro h₀' t1 f1 b1
      refine hrai _ _ _ _ _ _ h₀' _ t1 f1 b1 (by assumption) (by assumption) ⟨hcyc, _, S13, rfl, hx⟩
end Mine
end
section
open PySem PySem.W PyProof.Rows PySem.Spec PySem.Calls
set_option Elab.async false
set_option maxRecDepth 100000
set_option linter.unusedVariables false
namespace Mine
noncomputable def level (fs : Nat → File) (d : Nat) : List Nat := (List.range 6).filter fun k => decide (dep fs 7 k = d)
theorem mem_level {fs : Nat → File} {d k : Nat} : k ∈ level fs d ↔ k < 6 ∧ dep fs 7 k = d := by
  unfold level
  rw [List.mem_filter, List.mem_range]
  simp
theorem level_sorted (fs : Nat → File) (d : Nat) : (level fs d).Pairwise (· < ·) := List.Pairwise.sublist List.filter_sublist List.pairwise_lt_range
theorem level_nodup (fs : Nat → File) (d : Nat) : (level fs d).Nodup := (level_sorted fs d).imp (fun h => Nat.ne_of_lt h)
theorem level_of {fs : Nat → File} {d : Nat} {l : List Nat} (hn : l.Nodup) (hm : ∀ k, k ∈ l ↔ k < 6 ∧ dep fs 7 k = d) : l.Perm (level fs d) :=
  (List.perm_ext_iff_of_nodup hn (level_nodup fs d)).mpr fun k => by rw [hm, mem_level]
theorem IV.ints : ∀ {vs : List Value} {l : List Nat}, IV vs l → IntsAre vs (l.map fun j => ((j : Nat) : Int))
  | _, _, .nil => .nil
  | _, _, .cons j t r => .cons _ t r.ints
theorem IV.of_ints : ∀ {l : List Nat} {vs : List Value} {ns : List Int}, IntsAre vs ns → ns = l.map (fun j => ((j : Nat) : Int)) → IV vs l
  | [], _, _, .nil, _ => .nil
  | j :: l, _, _, .cons _ t r, e => by
    rw [List.map_cons, List.cons.injEq] at e
    rw [e.1]
    exact .cons j t (IV.of_ints r e.2)
section
variable {prog : Program} {w : World} {A : Around} {E : Value → Shared → Prop} {s : Shared} {h₀ : Heap} {L l : Addr} {m : Str → Option Value} {news : Led} {vs : List Value} {n : Nat} {Q : Value → Shared → Prop}
theorem sorted_tup {ns : List Int} (F : Fr h₀ L s.heap m) (N : News h₀ L s.heap news) (hm : (l, tupO vs n) ∈ news) (hI : IntsAre vs ns) (h64 : vs.length < 64)
    (h : ∀ (h' : Heap) (D : Addr) (vs' : List Value) (ns' : List Int) (e : Nat), Fr h₀ L h' m → News h₀ L h' ((D, lstO vs' e) :: news) → (∀ p ∈ news, p.1 < D) →
      IntsAre vs' ns' → ns'.Perm ns → ns'.Pairwise (· ≤ ·) → Q (.ref D) { s with heap := h' }) :
    wpAny (model prog w) A (call (.builtin "sorted") [.ref l]) Q E s := by
  refine Calls.call_function_entry kind_sorted plain_sorted entry_sorted (args_sorted1 _) ?_
  unfold Builtin.«sorted»
  refine wpAny_bind (m := checkCount "sorted" 1 1 _) (wpAny_pure ?_)
  refine wpAny_bind (wpAny_collect_seq l (.inr rfl) (N _ hm).1 rfl rfl (fun h1 k1 => ?_) (by rw [List.size_toArray, sizeLine_eq]; omega))
  rw [List.toList_toArray]
  refine wpAny_bind (wpAny_newList ?_)
  have hoL : (h1.push (seqObj "list" vs.toArray 0)).get? h1.objs.size = some (seqObj "list" vs.toArray 0) := Heap.get?_push_size _ rfl
  show wpAny _ _ _ _ _ { s with heap := h1.push (seqObj "list" vs.toArray 0) }
  refine wpAny_bind (wpAny_holding (wpAny_call_entry slot_list_sort ⟨_, hoL, rfl⟩ entry_list_sort (list_sort_tree hoL hI h64 fun out ns' a1 a2 a3 => ⟨_, rfl, ?_⟩) (args_list_sort _)))
  obtain ⟨e, he⟩ := sortedHeap_at (out := out) hoL
  have old : ∀ b o, s.heap.get? b = some o → (sortedHeap (h1.push (seqObj "list" vs.toArray 0)) h1.objs.size vs out).get? b = some o := fun b o hb => by
    have hb1 := k1 b o hb
    have hlt := Heap.lt_size hb1
    rw [sortedHeap_old (Nat.ne_of_lt hlt) (by rw [size_push']; exact Nat.lt_succ_of_lt hlt)]
    exact Heap.get?_push_of_some _ hb1
  have lt1 : ∀ b o, s.heap.get? b = some o → b < h1.objs.size := fun b o hb => Heap.lt_size (k1 b o hb)
  refine wpAny_pure ⟨_, rfl, h _ _ out.toList ns' e (F.kept old) (fun p hp => ?_) (fun p hp => lt1 _ _ (N p hp).1) a1 a2 a3⟩
  rcases List.mem_cons.mp hp with rfl | hp
  · refine ⟨by simpa using he, ?_, ?_⟩
    · obtain ⟨oL, _, _, hL, _⟩ := F.ns
      exact Ne.symm (Nat.ne_of_lt (lt1 _ _ hL))
    · cases q : h₀.get? h1.objs.size with
      | none => rfl
      | some o => exact absurd (lt1 _ _ (F.keep _ _ q)) (Nat.lt_irrefl _)
  · exact ⟨old _ _ (N p hp).1, (N p hp).2⟩
theorem sorted_level {fs : Nat → File} {r : Nat} {ls : List Nat} (F : Fr h₀ L s.heap m) (N : News h₀ L s.heap news) (hm : (l, tupO vs n) ∈ news) (hv : IV vs ls) (hn : ls.Nodup) (hmem : ∀ k, k ∈ ls ↔ k < 6 ∧ dep fs 7 k = r)
    (h : ∀ (h' : Heap) (D : Addr) (us : List Value) (e : Nat), Fr h₀ L h' m → News h₀ L h' ((D, lstO us e) :: news) → (∀ p ∈ news, p.1 < D) → IV us (level fs r) → Held (Q (.ref D) { s with heap := h' })) :
    wpAny (model prog w) A (call (.builtin "sorted") [.ref l]) Q E s := by
  have hlen : ls.length ≤ 6 := by
    have := nd_len _ (List.range 6) hn fun x hx => List.mem_range.mpr ((hmem x).mp hx).1
    simpa using this
  refine sorted_tup F N hm hv.ints (by rw [hv.length]; omega) fun h' D us ns e F' N' l1 hi hp ho => h h' D us e F' N' l1 (IV.of_ints hi ?_)
  refine lks_uniq (hp.trans ((level_of hn hmem).map _)) ho ?_
  rw [List.pairwise_map]
  exact (level_sorted fs r).imp fun q => by omega
end

inductive Rows (led : Led) : List Value → List (List Nat) → Prop
  | nil : Rows led [] []
  | cons {a : Addr} {us : List Value} {n : Nat} {r : List Nat} {vs : List Value} {rs : List (List Nat)} (h : (a, lstO us n) ∈ led) (hv : IV us r) (t : Rows led vs rs) : Rows led (.ref a :: vs) (r :: rs)
theorem Rows.mono {led led' : Led} (h : ∀ p ∈ led, p ∈ led') : ∀ {vs : List Value} {rs : List (List Nat)}, Rows led vs rs → Rows led' vs rs
  | _, _, .nil => .nil
  | _, _, .cons a b c => .cons (h _ a) b (c.mono h)
theorem Rows.snoc {led : Led} {a : Addr} {us : List Value} {n : Nat} {r : List Nat} (h : (a, lstO us n) ∈ led) (hv : IV us r) : ∀ {vs : List Value} {rs : List (List Nat)}, Rows led vs rs → Rows led (vs ++ [.ref a]) (rs ++ [r])
  | _, _, .nil => .cons h hv .nil
  | _, _, .cons a b c => .cons a b (c.snoc h hv)
theorem Rows.length {led : Led} : ∀ {vs : List Value} {rs : List (List Nat)}, Rows led vs rs → vs.length = rs.length
  | _, _, .nil => rfl
  | _, _, .cons _ _ c => by simp [c.length]

noncomputable def told (fs : Nat → File) : List (List Nat) := ((List.range 6).map (level fs)).filter fun r => decide (r ≠ [])
theorem told_of {fs : Nat → File} (hah : ∀ i j, (fs i).ah = some j → j < 6) {r : Nat} (hr : r ≤ 6) (hf : ∀ d, d < r → level fs d ≠ []) (he : level fs r = []) : (List.range r).map (level fs) = told fs := by
  have up : ∀ d, r ≤ d → d ≤ 6 → level fs d = [] := by
    intro d h1 h2
    cases q : level fs d with
    | nil => rfl
    | cons k l =>
      have hk : k ∈ level fs d := by rw [q]; exact .head _
      obtain ⟨h3, h4⟩ := mem_level.mp hk
      obtain ⟨k', h5, h6⟩ := dep_down hah h3 h4 h2 r h1
      have : k' ∈ level fs r := mem_level.mpr ⟨h5, h6⟩
      rw [he] at this
      cases this
  have e6 : List.range 6 = List.range r ++ (List.range' r (6 - r)) := by
    have h := List.range'_append_1 (s := 0) (m := r) (n := 6 - r)
    rw [Nat.zero_add, show r + (6 - r) = 6 by omega] at h
    rw [List.range_eq_range', List.range_eq_range', h]
  unfold told
  rw [e6, List.map_append, List.filter_append]
  rw [List.filter_eq_self.mpr, List.filter_eq_nil_iff.mpr]
  · simp
  · intro x hx
    obtain ⟨d, hd, rfl⟩ := List.mem_map.mp hx
    have := List.mem_range'_1.mp hd
    simp [up d (by omega) (by omega)]
  · intro x hx
    obtain ⟨d, hd, rfl⟩ := List.mem_map.mp hx
    simpa using hf d (List.mem_range.mp hd)
theorem Kn.ok {fs : Nat → File} {g p : Pu} {r : Nat} {l : List Nat} (hah : ∀ i j, (fs i).ah = some j → j < 6) (G : Gr fs g) (K : Kn fs g p r l) (hr6 : r ≤ 6) :
    (∀ j ∈ l, j ∈ (p.take l).ord ∧ (p.take l).np j = -1) ∧ ∀ j ∈ l, ((p.take l).su j).length ≤ 50 ∧ ∀ s ∈ (p.take l).su j, s ∈ (p.take l).ord ∧ s ∉ l := by
  refine ⟨fun j hj => ⟨by show j ∈ p.ord; rw [K.ord]; exact (G.all j).mpr ((K.mem j).mp hj).1, if_pos hj⟩, fun j hj => ⟨by show (p.su j).length ≤ 50; rw [K.su]; exact G.len j, fun s hs => ?_⟩⟩
  replace hs : s ∈ p.su j := hs
  rw [K.su] at hs
  obtain ⟨h1, h2⟩ := G.mem.mp hs
  refine ⟨by show s ∈ p.ord; rw [K.ord]; exact (G.all s).mpr h1, fun hm => ?_⟩
  have a := ((K.mem s).mp hm).2
  have b := ((K.mem j).mp hj).2
  have := dep_some h2
  omega
theorem Kn.len {fs : Nat → File} {g p : Pu} {r : Nat} {l : List Nat} (K : Kn fs g p r l) : l.length ≤ 6 := by
  have := nd_len _ (List.range 6) K.nod fun x hx => List.mem_range.mpr ((K.mem x).mp hx).1
  simpa using this
section
variable {w : World} {σ : Srt} {rest news news' : Led} {l : Addr} {o o' : Obj}
theorem So.fresh (S : So w σ rest news) (hf : ∀ p ∈ news, p.1 ≠ l) : σ.role l = none := by
  cases q : σ.role l with
  | none => rfl
  | some t =>
    obtain ⟨p, hp, e⟩ := List.mem_map.mp (S.dom l (by rw [q]; exact Option.some_ne_none _))
    exact absurd e (hf p hp)
theorem So.upd_own (S : So w σ ((l, o) :: rest) news) (h0 : σ.role l = none) (hr : ∀ p ∈ rest, p.1 ≠ l) (hnew : (l, o') ∈ news') (hkeep : ∀ p ∈ news, p.1 ≠ l → p ∈ news') : So w σ ((l, o') :: rest) news' :=
  have S1 : So w σ rest news' := So.restrict (rest' := rest) S (fun p hp h => hkeep p hp fun e => h (by rw [e]; exact h0)) fun p hp => ⟨.tail _ hp, hkeep p (S.rest p (.tail _ hp)).1 (hr p hp)⟩
  { S1 with
    rest := fun p hp => by
      rcases List.mem_cons.mp hp with rfl | hp
      · exact ⟨hnew, .inl h0⟩
      · exact S1.rest p hp }
theorem d_active (w : World) (σ : Srt) (rest : Led) (l : List Nat) (x : Addr) (hx : σ.x = x) (hl : σ.pu.rd = some l) (hz : l.length ≤ 1000) :
    Ctr0 20 140 w [.ref x] (fun news => So w σ rest news) (fun news v news' => v = .bool (decide (σ.pu.nf < σ.pu.po) || !l.isEmpty) ∧ So w σ rest news') := by
  subst hx
  exact c_active w σ rest l hl hz
theorem d_ready (w : World) (σ : Srt) (rest : Led) (l : List Nat) (x : Addr) (hx : σ.x = x) (hl : σ.pu.rd = some l) (hz : l.length ≤ 1000) (hne : l ≠ []) (hin : ∀ j ∈ l, j ∈ σ.pu.ord) :
    Ctr0 20 133 w [.ref x] (fun news => So w σ rest news) (fun news v news' => ∃ b vs n, v = .ref b ∧ IV vs l ∧ So w { σ with pu := σ.pu.take l } ((b, tupO vs n) :: rest) news') := by
  subst hx
  exact c_ready w σ rest l hl hz hne hin
end
end Mine
end
section
open PySem PySem.W PyProof.Rows PySem.Spec PySem.Calls
set_option Elab.async false
set_option maxRecDepth 100000
set_option maxHeartbeats 4000000
set_option linter.unusedVariables false
namespace Mine
theorem calm_S11 : True := by
  w_top off
  k_with_none
  trivial
theorem off_lt {I C D : Addr} : ∀ {l : Led}, (∀ p ∈ l, p.1 ≠ I ∧ p.1 ≠ C ∧ p.1 ≠ D) → LCg.Off3 I C D l
  | [], _ => trivial
  | q :: l, h => ⟨h q (.head _), off_lt fun p hp => h p (.tail _ hp)⟩
local macro_rules | `(tactic| walk_at "CompEnd") => `(tactic| ((refine LCg.CompEnd.intro (by assumption) (by assumption) _ (fun p hp => hp) ?cOff (by lcg_src) ?_); (case cOff => first | with_reducible assumption | ((with_reducible rename _ ∧ LCg.Off3 _ _ _ _ => offZ); exact offZ))))
section
variable {M : Model} {A : Around} {E : Value → Shared → Prop} {s : Shared} {K : Frag} {env : Env} {pos p : Pos} {first : List Value} {Q : Value → Shared → Prop} {h₀ : Heap} {L q g : Addr} {self : Value} {e : Expr} {rest : List Expr} {news : Led}
theorem MethodStar_ {o : Expr} {name : Str} {apos : Pos} {args : List Expr}
    (h : wpAny M A (eval o env) (fun ov s₁ => wpAny M A (getAttr ov name true) (fun f s₂ => wpAny M A (callWith pos f [] (backTo pos (starEach args env)) []) Q E s₂) E s₁) E s)
    (he : eval (.Call (.Attribute o name apos) args [] pos) env = (do
      let ov ← eval o env
      standAt apos.atName
      let (f, first) ← holding [ov] (do pure (← getAttr ov name true, []))
      callWith pos f first (backTo pos (starEach args env)) []) := by rfl) :
    wpAny M A (eval (.Call (.Attribute o name apos) args [] pos) env) Q E s := by
  rw [he]
  exact wpAny_bind (wpAny_mono h (fun ov s₁ h₁ => wpAny_bind (wpAny_standAt (wpAny_bind (wpAny_holding (wpAny_bind (wpAny_mono h₁ (fun fx s₂ h₂ => wpAny_pure h₂) fun _ _ x => x)))))) fun _ _ x => x)
theorem callWith_SM (_X : K.In h₀) (_N : News h₀ L s.heap news) (_q : (q, methodObj (.ref g) self) ∈ news) (hf : fnIn K g = true) (h : wpAny M A (eval e env) (fun v s₁ => StarOf M A E v (fun vs s₂ => MethP K q g self s₂.heap ∧ wpAny M A (call (.ref q) (first ++ vs)) Q E s₂) s₁) E s)
    (he : starEach [.Starred e p] env = [(true, eval e env)] := by rfl) :
    wpAny M A (callWith pos (.ref q) first (backTo pos (starEach [.Starred e p] env)) []) Q E s := by
  rw [he]
  exact ks_call rfl (keeps_M hf) (ks_lone h)
theorem callWith_SM2 (_X : K.In h₀) (_N : News h₀ L s.heap news) (_q : (q, methodObj (.ref g) self) ∈ news) (hf : fnIn K g = true) (h : wpAny M A (spliced (backTo pos (starEach (e :: rest) env))) (fun vs s₁ => MethP K q g self s₁.heap ∧ wpAny M A (call (.ref q) (first ++ vs)) Q E s₁) E s)
    (he : starEach (e :: rest) env = (false, eval e env) :: starEach rest env := by rfl) (hst : (backTo pos (starEach rest env)).any (·.1) = true := by rfl) :
    wpAny M A (callWith pos (.ref q) first (backTo pos (starEach (e :: rest) env)) []) Q E s := by
  rw [he] at h ⊢
  exact ks_call (by show (false || (backTo pos (starEach rest env)).any (·.1)) = true; rw [hst]; rfl) (keeps_M hf) (evalArgs_plain h)
end
local macro_rules | `(tactic| walk_at "callWith ref") => `(tactic| ((with_reducible show wpAny _ _ (callWith _ (Value.ref _) _ (backTo _ (starEach [Expr.Starred _ _] _)) []) _ _ _); k_dflt (refine' callWith_SM ?k1 ?k2 ?k3 ?k4 ?_; (case k1 => k_asm); (case k2 => k_asm); (case k3 => k_mem); (case k4 => k_is); k_whole)))
local macro_rules | `(tactic| walk_at "callWith ref") => `(tactic| ((with_reducible show wpAny _ _ (callWith _ (Value.ref _) _ (backTo _ (starEach (_ :: _ :: _) _)) []) _ _ _); ks_star; k_dflt (refine' callWith_SM2 ?k1 ?k2 ?k3 ?k4 ?_; (case k1 => k_asm); (case k2 => k_asm); (case k3 => k_mem); (case k4 => k_is); k_whole)))
local macro_rules | `(tactic| walk_at "eval Call Attribute") => `(tactic| (ks_star; refine MethodStar_ ?_))
theorem off1_all {D : Addr} {l : Led} (h : LCg.Off1 D l) : ∀ p ∈ l, p.1 ≠ D := by
  induction l with
  | nil => intro p hp; cases hp
  | cons q l ih =>
    intro p hp
    rcases List.mem_cons.mp hp with rfl | hp
    · exact h.1
    · exact ih h.2 p hp
theorem So.pushN {w : World} {σ : Srt} {rest news news' : Led} {h₀ h : Heap} {L a : Addr} {o : Obj} (N : News h₀ L h news') (S : So w σ rest news) (hm : (a, o) ∈ news') (hf : ∀ p ∈ news, p.1 ≠ a) (hs : ∀ p ∈ news, p ∈ news') : So w σ ((a, o) :: rest) news' := S.push hm hf hs
theorem d_add (w : World) (σ : Srt) (rest : Led) (k : Nat) (t : Tok) (vs : List Value) (l : List Nat) (x : Addr) (hx : σ.x = x) (hv : IV vs l) (hl : l.length ≤ 1) :
    Ctr0C 30 121 w (.ref x :: .int (k : Nat) t :: vs) (fun news => So w σ rest news ∧ σ.pu.ord.length ≤ 90 ∧ (∀ i, (σ.pu.su i).length ≤ 900) ∧ σ.pu.rd = none) (fun news v news' => v = .none ∧ ∃ σ', So w σ' rest news' ∧ σ'.pu = σ.pu.put k l ∧ σ'.x = x) := by
  subst hx
  exact c_add w σ rest k t vs l hv hl
theorem So.init {w : World} {x dx d : Addr} {o : Obj} {t1 t2 t3 t4 t5 t6 : Tok} {news : Led} {h₀ h : Heap} {L : Addr} (N : News h₀ L h ((d, o) :: (x, instObj 171 dx) :: (dx, soDict w t1 t2 t3 t4 d .none (.int 0 t5) (.int 0 t6)) :: news)) (l1 : ∀ p ∈ news, p.1 < dx) (l2 : @LT.lt Nat _ dx x) (l3 : @LT.lt Nat _ x d ∧ @LT.lt Nat _ dx d ∧ AllLt d news) (lo : (d == sysModules) = false) (hd : o.IsDictOf (intKind PG w) []) :
    ∃ (σ : Srt) (nx : Led), News h₀ L h nx ∧ σ.x = x ∧ σ.pu = pu0 ∧ So w σ news nx := by
  refine ⟨⟨x, dx, d, 0, fun _ => 0, fun _ => 0, fun _ => 0, fun a => if a = x then some (0, 0) else if a = dx then some (1, 0) else if a = d then some (2, 0) else none, pu0⟩, _, N, rfl, rfl, ?_⟩
  have far : ∀ p ∈ news, p.1 ≠ x ∧ p.1 ≠ dx ∧ p.1 ≠ d := fun p hp => by
    have h := ltN (l1 p hp)
    refine ⟨neN ?_, neN ?_, neN ?_⟩ <;> omega
  have e1 : dx ≠ x := neN (by omega)
  have e2 : d ≠ x := neN (by omega)
  have e3 : d ≠ dx := neN (by omega)
  exact {
    inst := .tail _ (.head _)
    dict := ⟨t1, t2, t3, t4, t5, t6, .tail _ (.tail _ (.head _))⟩
    n2i := ⟨o, .head _, hd⟩
    lo := lo
    cell := fun k hk => nomatch hk
    dic := fun k hk => nomatch hk
    suc := fun k hk => nomatch hk
    rdy := fun l hl => nomatch hl
    rx := if_pos rfl
    rdx := (if_neg e1).trans (if_pos rfl)
    rd_ := (if_neg e2).trans ((if_neg e3).trans (if_pos rfl))
    rr := fun l hl => nomatch hl
    ria := fun k hk => nomatch hk
    rda := fun k hk => nomatch hk
    rsa := fun k hk => nomatch hk
    dom := fun a ha => by
      by_cases q1 : a = x
      · subst q1; simp
      by_cases q2 : a = dx
      · subst q2; simp
      by_cases q3 : a = d
      · subst q3; simp
      exact absurd ((if_neg q1).trans ((if_neg q2).trans (if_neg q3))) ha
    rest := fun p hp => ⟨.tail _ (.tail _ (.tail _ hp)), .inl (let ⟨f1, f2, f3⟩ := far p hp; (if_neg f1).trans ((if_neg f2).trans (if_neg f3)))⟩ }
noncomputable abbrev rFor (w : World) (news : Led) (fs : Nat → File) (lf : Addr) (σ0 : Srt) (i : Nat) (m' : Str → Option Value) (nx : Led) : Prop := ∃ σ, So w σ news nx ∧ Bu fs σ.pu (fun j => if j < i then 2 else 0) (2 * i) ∧ σ.x = σ0.x ∧ At m' [("files", .ref lf), ("sorter", .ref σ0.x)]
noncomputable abbrev rMid (s : Shared) (fr : List Addr) (g' : Heap) (L' : Addr) (AR : Around) (en : List Env) (base : Heap) (w : World) (news : Led) (σ0 : Srt) (σ2 : Srt) (lf : Addr) (s' : Shared) : Prop := ∃ (ring : Bool) (σ' : Srt) (h' : Heap) (tk' : Nat) (g'' : Heap) (m' : Str → Option Value) (nx' : Led), s' = { s with heap := h', toks := tk' } ∧ KtsTurn fr g' g'' ∧ Fr g'' L' h' m' ∧ News g'' L' h' nx' ∧ Below AR base en g'' ∧ So w σ' news nx' ∧ σ'.pu = { σ2.pu with rd := some σ2.pu.ready } ∧ σ'.x = σ0.x ∧ (ring = true → Cyc σ2.pu.su) ∧ (ring = false → ∃ fin, FinOk σ2.pu.su fin ∧ ∀ k ∈ σ2.pu.ord, k ∈ fin) ∧ At m' [("files", .ref lf), ("sorter", .ref σ0.x), ("ring", .bool ring)]
noncomputable abbrev rWhile (w : World) (news : Led) (fs : Nat → File) (lf : Addr) (σ0 : Srt) (σ2 : Srt) (ring : Bool) (n : Nat) (m' : Str → Option Value) (nx : Led) : Prop := ∃ (σ : Srt) (r : Nat) (l : List Nat) (lr : Addr) (vs : List Value) (ln : Nat) (rw_ : Led), So w σ ((lr, lstO vs ln) :: (rw_ ++ news)) nx ∧ Kn fs σ2.pu σ.pu r l ∧ r ≤ 6 ∧ n = 7 - r ∧ σ.x = σ0.x ∧ (∀ d, d < r → level fs d ≠ []) ∧ σ.role lr = none ∧ (∀ p ∈ rw_ ++ news, p.1 ≠ lr) ∧ Rows rw_ vs ((List.range r).map (level fs)) ∧ At m' [("files", .ref lf), ("sorter", .ref σ0.x), ("ring", .bool ring), ("rounds", .ref lr)]
theorem c_rounds (w : World) (lf : Addr) (fs : Nat → File) (fa : Nat → Addr) (hah : ∀ i j, (fs i).ah = some j → j < 6) :
    CtrT 60 255 w [.ref lf] (fun news => FilesIn news lf fs fa) (fun news v news' => (∀ p ∈ news, p ∈ news') ∧ ∃ t lr n vs ln ring, v = .ref t ∧ (t, tupO [.bool ring, .ref lr] n) ∈ news' ∧ (lr, lstO vs ln) ∈ news' ∧ Rows news' vs (told fs) ∧ (ring = true ↔ ∃ k, k < 6 ∧ dep fs 7 k = 7)) := by
  unfold CtrT
  k_fill
  intro p loose mean mg mb dp un gd cn cs a ccd cl outer A₀ base h₀ L m news s Q E B F KX N T XB TB DD hk hF hd9 hu9 hret
  k_with_none
  k_with "exec For Name Call cons nil" => refine held ?_
  k_with "exec Try" => refine held ?_
  refine wpAny_call ?_
  k_dflt (refine' code_defT ?k1 ?k2 ?k3 ?k4 ?k5 ?kD ?kA ?kF ?kK ?k6 ?k7 ?k8 ?k9 ?kB ?_ ?c2 ?c3 ?c4 ?c5; (case kA => exact rfl); (case kF => exact rfl); (case kK => assumption); (case kD => assumption); (case k1 => k_asm); (case k2 => k_asm); (case k3 => k_asm); (case k4 => k_asm); (case k5 => k_asm); (case k6 => k_is); (case k7 => k_is); (case k8 => ktr_room); (case k9 => exact BindsTo.of_eq rfl); (case c5 => decide); (case kB => exact locs rfl); (case c2 => exact rfl); (case c3 => exact rfl); (case c4 => exact rfl); k_whole; intro g' L' h' FG' F' N' B' X' T' D' hlt'; (try dsimp only); (try k_fold))
  k_steps
  show wpAny _ _ _ _ _ _
  with_reducible rename Fr _ _ _ _ => F8
  with_reducible rename News _ _ _ _ => N8
  rename ∀ p ∈ news, p.1 < _ => q1
  rename Obj.IsDictOf (intKind _ w) _ [] => q2
  rename (_ == sysModules) = false => q3
  rename _ ∧ _ ∧ AllLt _ _ => q4
  refine ob_ee (So.init (w := w) N8 q1 (by assumption) q4 q3 q2) ?_
  intro σ0 nx0 hq0
  refine ob_aaa hq0 ?_
  clear hq0
  intro N9 x0 e0 S0
  clear N8 q1 q2 q3 q4
  with_reducible rename Obj.IsDictOf _ _ _ => z1
  clear z1
  with_reducible rename News _ _ _ (_ :: _) => z1
  clear z1
  refine for_inv (by assumption) ?_
  k_steps
  show wpAny _ _ _ _ _ _
  rename IsRange _ _ _ _ _ _ _ _ => hr
  with_reducible rename Fr _ _ _ _ => F10
  with_reducible rename News _ _ _ _ => N10
  refine at_range (n := 6) (rFor w news fs lf σ0) rfl F10 N10 hr (by decide) (by decide) ?_ ?_ ?_
  · exact ⟨σ0, S0, by rw [e0]; exact bu0 fs, rfl, by (with_unfolding_all rfl), by (with_unfolding_all (rw [x0]; rfl)), trivial⟩
  · intro i tx m1 nx h1 tk1 fp wr own hi hZ  hown hfar F2 N2
    refine ob_eaaa hZ ?_
    clear hZ
    intro σ1 S1 B1 x1 hA
    replace F2 := hA.fr F2
    clear F10 N10
    simp only [Int.zero_add]
    have S2 := So.own S1 hown fun p hp => .inl (hfar p hp).1
    have hf2 : FilesIn (nx ++ own) lf fs fa := hF.mono fun p hp => (S2.rest p (List.mem_append_right _ hp)).1
    refine ob_eeeee (hf2.tup i hi) ?_
    intro tt0 tt1 tt2 tt3 tn ht
    have r1 := S2.inst
    refine ob_eeeeee (S2.dict) ?_
    intro w1 w2 w3 w4 w5 w6 r2
    rw [x1] at r1
    k_with "subscriptTail Name Name ref int" => (with_unfolding_all refine' files_item ?a ?b ?c ?_; (case a => k_asm); (case b => assumption); (case c => assumption))
    k_with "call ref" => refine held ?_
    cases hahi : (fs i).ah
    all_goals
      rw [hahi] at ht
      dsimp only [ahV] at ht
      k_steps
      show wpAny _ _ _ _ _ _
      with_reducible rename _ ∧ LCg.Off1 _ _ => o1
      with_reducible rename News _ _ _ _ => N11
      have S3 := So.pushN N11 S2 (.tail _ (.head _)) (off1_all o1.2) (fun p hp => .tail _ (.tail _ (.tail _ hp)))
      refine call_meth (by assumption) (.head _) ?_
      refine Ctr0C.use (d_add w σ1 _ i tx _ (fs i).ah.toList _ x1 (by rw [hahi]; first | exact .nil | exact .cons _ _ .nil) (by rw [hahi]; simp)) (by assumption) (by assumption) (by assumption) (by assumption) (by assumption) rfl ⟨S3, Nat.le_trans B1.len_ord (by decide), fun q => Nat.le_trans (B1.len q) (by omega), B1.rd⟩ (by k_room) (by k_units) ?_
      intro v4 news4 h4 tk4 F4 N4 hZ
      refine ob_aeaa hZ ?_
      clear hZ
      intro er1 σ4 S4 e4 x4
      subst er1
      have r3 := S4.inst
      refine ob_eeeeee (S4.dict) ?_
      intro w1 w2 w3 w4 w5 w6 r4
      rw [x4] at r3
      have r5 := (S4.rest _ (.head _)).1
      have B4 := B1.put hah hi
      rw [← e4] at B4
      clear N11 r1 r2 F2 N2
      k_steps
      show wpAny _ _ _ _ _ _
      refine call_meth (by assumption) (.head _) ?_
      refine Ctr0C.use (d_add w σ4 _ i tx _ (fs i).ah.toList _ x4 (by rw [hahi]; first | exact .nil | exact .cons _ _ .nil) (by rw [hahi]; simp)) (by assumption) (by assumption) (by assumption) (by assumption) (by assumption) rfl ⟨S4.mono (fun p hp => .tail _ hp), Nat.le_trans B4.len_ord (by decide), fun q => Nat.le_trans (B4.len q) (by omega), B4.rd⟩ (by k_room) (by k_units) ?_
      intro v5 news5 h5 tk5 F5 N5 hZ
      refine ob_aeaa hZ ?_
      clear hZ
      intro er2 σ5 S5 e5 x5
      subst er2
      have B5 := B4.put hah hi
      rw [← e5] at B5
      k_steps
      refine FStep.next (cutL wr news5) (by assumption) (by assumption) (So.led (S5.drop fun p hp => .tail _ hp)) (fun p hp => (mem_cut.mp hp).2) ⟨_, So.cut (S5.drop fun p hp => .tail _ hp) (So.wr_rd (S5.drop fun p hp => .tail _ hp) hown B5.rd) (fun p hp => hown.1 _ (S1.rest p hp).1), ?_, x5, by (with_unfolding_all rfl), by (with_unfolding_all rfl), trivial⟩
      refine cast (congrArg (fun c => Bu fs σ5.pu c _) ?_) B5
      funext j
      split <;> split <;> split <;> omega
  · intro h2 tk2 m2 nx2 F2 N2 hZ
    refine ob_eaaa hZ ?_
    clear hZ
    intro σ2 S2 B2 x2 hA
    replace F2 := hA.fr F2
    clear F10 N10
    have G2 : Gr fs σ2.pu := B2.gr
    have r1 := S2.inst
    refine ob_eeeeee (S2.dict) ?_
    intro w1 w2 w3 w4 w5 w6 r2
    rw [x2] at r1
    k_steps
    show wpAny _ _ _ _ _ _
    with_reducible rename Fr _ _ _ _ => F3
    refine mid (rMid s (frs (envX cn cs L a ccd cl :: outer)) g' L' (ktrTop dp un gd cn cs L a ccd cl outer) (envX cn cs L a ccd cl :: outer) base w news σ0 σ2 lf) ?_ ?_
    · refine wpAny_Try_except ?_
      k_with "call ref" => refine held ?_
      k_steps
      show wpAny _ _ _ _ _ _
      refine CtrP.use (c_prep w σ2 news _ x2 B2.rd B2.nod (Nat.le_trans B2.len_ord (by decide)) (fun k hk => ⟨Nat.le_trans (B2.len k) (by decide), fun v hv => (G2.all v).mpr (G2.mem.mp hv).1⟩)) (by assumption) (by assumption) (by assumption) (by assumption) (by assumption) XB TB D' rfl S2 (by k_room) (by k_units) ?_ ?_
      · intro v news5 h5 tk5 g5 T5 F5 N5 B5 hZ
        refine ob_aa hZ ?_
        clear hZ
        intro er3 hacy hq0
        refine ob_e hq0 ?_
        clear hq0
        intro σ5 hq1
        refine ob_aa hq1 ?_
        clear hq1
        intro S5 e5 x5
        subst er3
        k_steps
        exact .inl ⟨rfl, false, σ5, _, _, g5, _, _, rfl, T5, F5, N5, B5, S5, e5, x5, nofun, fun _ => hacy, by (with_unfolding_all rfl), by (with_unfolding_all rfl), by (with_unfolding_all rfl), trivial⟩
      intro e t xs news5 h5 tk5 g5 G5 T5 F5 B5 R5 U5 hZ
      refine ob_aeaa hZ ?_
      clear hZ
      intro hcyc σ5 S5 e5 x5
      have D5 := D'.turn T5
      refine caught_SO0 (C := 89) (KF := h0.heap_1 w.params) R5 F5 B5 U5 XB TB D5 T5 ?ex ?q ?_
      case ex => k_is
      case q => kts_isx
      intro h6 g6 news6 T6 F6 N6z G6 N6 B6 X6 P6 D6
      clear F3 N6z
      k_steps
      exact .inl ⟨rfl, true, σ5, _, _, g6, _, _, rfl, T6, by assumption, by assumption, B6, S5, e5, x5, fun _ => hcyc, nofun, by (with_unfolding_all rfl), by (with_unfolding_all rfl), by (with_unfolding_all rfl), trivial⟩
    · intro s' hZ
      refine ob_eeeeeee hZ ?_
      clear hZ
      intro ring σ5 h5 tk5 g5 m5 nx5 hq0
      refine ob_aaaaaaaaaa hq0 ?_
      clear hq0
      intro er4 T5 F5 N5 B5 S5 e5 x5 hr1 hr2 hA5
      subst er4
      replace F5 := hA5.fr F5
      have X5 : (h0.heap_1 w.params).In g5 := XB.keeps B5.stays
      have P5 := TB.keeps B5.stays
      have D5 := D'.turn T5
      clear F3 F2 N2 X' T' r1 r2 hA
      have K5 : Kn fs σ2.pu σ5.pu 0 σ2.pu.ready := by rw [e5]; exact Kn.start G2
      k_with "exec While" => refine held ?_
      k_steps
      show wpAny _ _ _ _ _ _
      with_reducible rename Fr g5 _ _ _ => F6
      with_reducible rename News g5 _ _ _ => N6
      rename ∀ p ∈ nx5, p.1 < _ => l6
      have S6 := So.pushN N6 S5 (.head _) (fun p hp => Nat.ne_of_lt (l6 p hp)) (fun p hp => .tail _ hp)
      refine While_inv2 (rWhile w news fs lf σ0 σ2 ring) (n₀ := 7) F6 N6 ⟨σ5, 0, _, _, [], 0, [], S6, K5, by omega, rfl, x5, fun d hd => absurd hd (Nat.not_lt_zero _), So.fresh S5 (fun p hp => Nat.ne_of_lt (l6 p hp)), fun p hp => Nat.ne_of_lt (l6 p (S5.rest p hp).1), .nil, by (with_unfolding_all rfl), by (with_unfolding_all rfl), by (with_unfolding_all rfl), by (with_unfolding_all rfl), trivial⟩ ?_ ?_
      · intro n m7 nx7 h7 tk7 F7 N7 hZ
        refine ob_eeeeeee hZ ?_
        clear hZ
        intro σ7 r l lr vs ln rw_ hq0
        refine ob_aaaaaaaaa hq0 ?_
        clear hq0
        intro S7 K7 hr6 er5 x7 hlv hro hne hrows hA7
        subst er5
        replace F7 := hA7.fr F7
        clear F6 N6 l6
        have r1 := S7.inst
        refine ob_eeeeee (S7.dict) ?_
        intro w1 w2 w3 w4 w5 w6 r2
        rw [x7] at r1
        k_steps
        show wpAny _ _ _ _ _ _
        refine Ctr0.use (d_active w σ7 _ l _ x7 K7.rd (Nat.le_trans K7.len (by decide))) (by assumption) (by assumption) (by assumption) (by assumption) (by assumption) rfl S7 (by k_room) (by k_units) ?_
        rintro v nx8 h8 tk8 F8 N8 ⟨rfl, S8⟩
        clear F7 N7 r1 r2
        rw [show decide (σ7.pu.nf < σ7.pu.po) = false by rw [K7.pn]; simp, Bool.false_or]
        by_cases hl : l = []
        · rw [show (!l.isEmpty) = false by rw [hl]; rfl]
          k_steps
          have hle : level fs r = [] := List.eq_nil_iff_forall_not_mem.mpr fun k hk => by
            have := (K7.mem k).mpr (mem_level.mp hk)
            rw [hl] at this
            cases this
          exact ⟨_, _, _, _, T5, by assumption, by assumption, fun h₀' t1 f1 n1 b1 => hret _ _ _ _ h₀' t1 f1 n1 b1 ⟨fun p hp => .tail _ (S8.rest p (.tail _ (List.mem_append_right _ hp))).1, _, lr, _, vs, ln, ring, rfl, .head _, .tail _ (S8.rest _ (.head _)).1, told_of hah hr6 hlv hle ▸ hrows.mono fun p hp => .tail _ (S8.rest p (.tail _ (List.mem_append_left _ hp))).1,
            ⟨fun h => G2.cyc (hr1 h), fun ⟨k, hk, h7⟩ => by
              cases ring with
              | true => rfl
              | false =>
                refine ob_ea (hr2 rfl) ?_
                intro fin hf1 hf2
                exact absurd h7 (G2.acyc hah hf1 hf2 hk)⟩⟩⟩
        · rw [show (!l.isEmpty) = true by cases l with | nil => exact absurd rfl hl | cons a b => rfl]
          have r1 := S8.inst
          refine ob_eeeeee (S8.dict) ?_
          intro w1 w2 w3 w4 w5 w6 r2
          rw [x7] at r1
          k_steps
          show wpAny _ _ _ _ _ _
          refine Ctr0.use (d_ready w σ7 _ l _ x7 K7.rd (Nat.le_trans K7.len (by decide)) hl (fun j hj => (Kn.ok hah G2 K7 hr6).1 j hj |>.1)) (by assumption) (by assumption) (by assumption) (by assumption) (by assumption) rfl S8 (by k_room) (by k_units) ?_
          intro v nx9 h9 tk9 F9 N9 hZ
          refine ob_eee hZ ?_
          clear hZ
          intro b vb nb hq0
          refine ob_aa hq0 ?_
          clear hq0
          intro er6 hvb S9
          subst er6
          clear F8 N8 r1 r2
          have r1 : (σ7.x, instObj 171 σ7.dx) ∈ nx9 := S9.inst
          refine ob_eeeeee (S9.dict) ?_
          intro w1 w2 w3 w4 w5 w6 r2
          replace r2 : (σ7.dx, soDict w w1 w2 w3 w4 σ7.d (.ref σ7.r) (.int (((σ7.pu.take l).po) : Nat) w5) (.int (((σ7.pu.take l).nf) : Nat) w6)) ∈ nx9 := r2
          rw [x7] at r1
          have r3 := (S9.rest _ (.head _)).1
          have r4 := (S9.rest _ (.tail _ (.head _))).1
          have hbl : b ≠ lr := fun e => by
            have h1 := congrArg Obj.cls (News.same N9 r3 (e ▸ r4))
            injection h1 with h1
            exact absurd h1 (by decide)
          k_with "call builtin:sorted" => (refine sorted_level (by assumption) (by assumption) r3 hvb K7.nod K7.mem ?_; intro h10 D10 us10 e10 F10 N10 l10 hv10)
          k_steps
          show wpAny _ _ _ _ _ _
          have hvl : vs.length ≤ 1000 := by rw [hrows.length]; simp; omega
          k_with "call builtin:list.append cons nil" => (refine op_app (by assumption) (by assumption) (.tail _ r4) hvl ?_; intro h11 nx11 F11 N11 m11 k11)
          have S10 := So.pushN N10 S9 (.head _) (fun p hp => Nat.ne_of_lt (l10 p hp)) (fun p hp => .tail _ hp)
          have hdl : D10 ≠ lr := Ne.symm (Nat.ne_of_lt (l10 _ r4))
          have S10' : So w { σ7 with pu := σ7.pu.take l } ((lr, lstO vs ln) :: (D10, lstO us10 e10) :: (b, tupO vb nb) :: (rw_ ++ news)) ((D10, lstO us10 e10) :: nx9) := S10.drop fun p hp => by
            rcases List.mem_cons.mp hp with rfl | hp
            · exact .tail _ (.tail _ (.head _))
            rcases List.mem_cons.mp hp with rfl | hp
            · exact .head _
            rcases List.mem_cons.mp hp with rfl | hp
            · exact .tail _ (.head _)
            · exact .tail _ (.tail _ (.tail _ hp))
          k_steps
          show wpAny _ _ _ _ _ _
          have S11 := So.upd_own S10' hro (fun p hp => by
            rcases List.mem_cons.mp hp with rfl | hp
            · exact hdl
            rcases List.mem_cons.mp hp with rfl | hp
            · exact hbl
            · exact hne p hp) m11 k11
          clear N10 r1 r2 r3 r4 F10
          have r1 : (σ7.x, instObj 171 σ7.dx) ∈ nx11 := S11.inst
          refine ob_eeeeee (S11.dict) ?_
          intro w1 w2 w3 w4 w5 w6 r2
          replace r2 : (σ7.dx, soDict w w1 w2 w3 w4 σ7.d (.ref σ7.r) (.int (((σ7.pu.take l).po) : Nat) w5) (.int (((σ7.pu.take l).nf) : Nat) w6)) ∈ nx11 := r2
          rw [x7] at r1
          have r3 := (S11.rest _ (.tail _ (.tail _ (.head _)))).1
          have hvl : vb.length ≤ 1000 := by rw [hvb.length]; exact Nat.le_trans K7.len (by decide)
          k_with "StarOf ref" => (refine star_seq (by assumption) (by assumption) (by k_mem) rfl rfl (.inr rfl) List.toList_toArray (by rw [List.size_toArray, sizeLine_eq]; omega) ?_; intro h12 F12 N12)
          k_steps
          show wpAny _ _ _ _ _ _
          refine call_meth (by assumption) (.head _) ?_
          obtain ⟨ok1, ok2⟩ := Kn.ok hah G2 K7 hr6
          refine Ctr0C.use (c_done w { σ7 with pu := σ7.pu.take l } _ _ x7 vb l [] hvb K7.len rfl (by decide) ok1 K7.nod ok2) (by assumption) (by assumption) (by assumption) (by assumption) (by assumption) rfl (S11.mono fun p hp => .tail _ hp) (by k_room) (by k_units) ?_
          intro v nx13 h13 tk13 F13 N13 hZ
          refine ob_a hZ ?_
          clear hZ
          intro er7 hq0
          refine ob_e hq0 ?_
          clear hq0
          intro σ13 hq1
          refine ob_aaa hq1 ?_
          clear hq1
          intro S13 e13 x13 ro13
          subst er7
          refine ob_ae (Kn.step hah G2 K7 hr6 hl) ?_
          intro hr5 l' K13
          rw [← e13] at K13
          k_steps
          refine ⟨_, _, _, _, 7 - (r + 1), rfl, by assumption, by assumption, by omega, σ13, r + 1, l', lr, vs ++ [.ref D10], ln + 1, (D10, lstO us10 e10) :: rw_, S13.drop fun p hp => ?_, K13, by omega, rfl, x13, fun d hd => ?_, (congrFun ro13 lr).trans hro, fun p hp => ?_, ?_, by (with_unfolding_all rfl), by (with_unfolding_all rfl), by (with_unfolding_all rfl), by (with_unfolding_all rfl), trivial⟩
          · rcases List.mem_cons.mp hp with rfl | hp
            · exact .head _
            rcases List.mem_cons.mp hp with rfl | hp
            · exact .tail _ (.head _)
            · exact .tail _ (.tail _ (.tail _ hp))
          · by_cases e : d = r
            · obtain ⟨k0, hk0⟩ := List.exists_mem_of_ne_nil l hl
              intro h0
              have := mem_level.mpr ((K7.mem k0).mp hk0)
              rw [e] at h0
              rw [h0] at this
              cases this
            · exact hlv d (by omega)
          · rcases List.mem_cons.mp hp with rfl | hp
            · exact hdl
            · exact hne p hp
          · rw [List.range_succ, List.map_append]
            exact Rows.snoc (.head _) hv10 (hrows.mono fun p hp => .tail _ hp)
      all_goals passes_own
end Mine
end
section
open PySem PySem.W PyProof.Rows PySem.Spec PySem.Calls
set_option Elab.async false
set_option maxRecDepth 100000
set_option maxHeartbeats 4000000
set_option linter.unusedVariables false
namespace Mine
section
variable {prog : Program} {w : World} {A : Around} {E : Value → Shared → Prop} {s : Shared} {h₀ : Heap} {L a : Addr} {name : Str} {scope : Scope} {cd : Value} {m : Str → Option Value} {news : List (Addr × Obj)} {Q : Unit → Shared → Prop}
theorem assign_four {x1 x2 x3 x4 : Str} {p1 p2 p3 p4 tp : Pos} {c : Nat} {t : Addr} {v1 v2 v3 v4 : Value} (hh : A.handled = none) (F : Fr h₀ L s.heap m) (N : News h₀ L s.heap news) (ht : s.heap.IsTuple t #[v1, v2, v3, v4])
    (k : ∀ h' tk, Fr h₀ L h' (fun y => if y = x4 then some v4 else if y = x3 then some v3 else if y = x2 then some v2 else if y = x1 then some v1 else m y) → News h₀ L h' news → Q () { s with heap := h', toks := tk })
    (hk : scope.kind = .function := by rfl) (hl1 : (envOf name scope L a cd).kindOf x1 = some .local := by rfl) (hl2 : (envOf name scope L a cd).kindOf x2 = some .local := by rfl) (hl3 : (envOf name scope L a cd).kindOf x3 = some .local := by rfl) (hl4 : (envOf name scope L a cd).kindOf x4 = some .local := by rfl) :
    wpAny (model prog w) A (assign (.Tuple [.Name x1 p1, .Name x2 p2, .Name x3 p3, .Name x4 p4] c tp) (envOf name scope L a cd) (.ref t)) Q E s := by
  refine wpAny_assign_Tuple hh ht rfl rfl fun h₃ hx => ?_
  have F3 := F.keeps (grown_of hx)
  have N3 := News.grown N (grown_of hx)
  show wpAny _ A (do holding [v2, v3, v4] (assign (.Name x1 p1) (envOf name scope L a cd) v1); do holding [v3, v4] (assign (.Name x2 p2) (envOf name scope L a cd) v2); do holding [v4] (assign (.Name x3 p3) (envOf name scope L a cd) v3); do holding [] (assign (.Name x4 p4) (envOf name scope L a cd) v4); pure ()) _ _ _
  refine wpAny_bind (wpAny_holding (st_name F3 N3 (fun h4 F4 N4 => ?_) hk hl1))
  refine wpAny_bind (wpAny_holding (st_name F4 N4 (fun h5 F5 N5 => ?_) hk hl2))
  refine wpAny_bind (wpAny_holding (st_name F5 N5 (fun h6 F6 N6 => ?_) hk hl3))
  refine wpAny_bind (wpAny_holding (st_name F6 N6 (fun h7 F7 N7 => wpAny_pure ?_) hk hl4))
  exact k h7 _ F7 N7
end
section
variable {prog : Program} {w : World} {A : Around} {s : Shared} {h₀ : Heap} {L : Addr} {m : Str → Option Value} {env : Env}
theorem comp_end_mono {s₁ : Shared} {I C D : Addr} {oI oC oD : Obj} {S : List (Addr × Obj) → Prop} {R R' : Value → List (Addr × Obj) → Prop} {y : Value} {s₂ : Shared} (h : ∀ y n, R y n → R' y n) :
    LCg.CompEnd h₀ L m s₁ I oI C oC D oD S R y s₂ → LCg.CompEnd h₀ L m s₁ I oI C oC D oD S R' y s₂ :=
  fun ⟨h', tk, n, a, b, c, d, e, f⟩ => ⟨h', tk, n, a, b, c, d, e, h _ _ f⟩
theorem comp_inv {elt : Expr} {x : Str} {scope : Scope} {cl : List (Str × Addr)} {S : List (Addr × Obj) → Prop} {P : Nat → Value → Prop} {Fin : List Value → List (Addr × Obj) → Prop} {n : Nat} (J : Nat → List Value → Led → Prop)
    (turn : ∀ i ys news, i < n → J i ys news → ∀ v I oI C oC D m₂ h tk (E' : Value → Shared → Prop), P i v → LCg.NsObj oC m₂ → m₂ x = some v → Fr h₀ L h m → News h₀ L h ((I, oI) :: (C, oC) :: (D, LCg.lst ys) :: news) → LCg.Off3 I C D news → ((@Ne Nat I C) ∧ (@Ne Nat I D) ∧ (@Ne Nat C D)) →
      wpAny (model prog w) A (eval elt (compEnvC scope cl C env)) (LCg.CompEnd h₀ L m { s with heap := h, toks := tk } I oI C oC D (LCg.lst ys) S (fun y news' => J (i + 1) (ys ++ [y]) news')) E' { s with heap := h, toks := tk })
    (fin : ∀ ys news, J n ys news → Fin ys news) : ∀ k i ys news, i + k = n → J i ys news → LCg.CompRest prog w A h₀ L m env elt x scope cl s S P Fin k i ys news
  | 0, i, ys, news, e, j => fin ys news ((show i = n from e) ▸ j)
  | k + 1, i, ys, news, e, j => fun v I oI C oC D m₂ h tk E' hP hC hx F N off ne =>
    wpAny_mono (turn i ys news (by omega) j v I oI C oC D m₂ h tk E' hP hC hx F N off ne) (fun y s' he => comp_end_mono (fun y n hj => comp_inv J turn fin k (i + 1) _ _ (by omega) hj) he) fun _ _ x => x
theorem comp_invT {ct elt : Expr} {x : Str} {scope : Scope} {cl : List (Str × Addr)} {S : List (Addr × Obj) → Prop} {P : Nat → Value → Prop} {Fin : List Value → List (Addr × Obj) → Prop} {n : Nat} (J : Nat → List Value → Led → Prop)
    (turn : ∀ i ys news, i < n → J i ys news → ∀ v I oI C oC D m₂ h tk (E' : Value → Shared → Prop), P i v → LCg.NsObj oC m₂ → m₂ x = some v → Fr h₀ L h m → News h₀ L h ((I, oI) :: (C, oC) :: (D, LCg.lst ys) :: news) → LCg.Off3 I C D news → ((@Ne Nat I C) ∧ (@Ne Nat I D) ∧ (@Ne Nat C D)) →
      wpAny (model prog w) A (isTrue ct (compEnvC scope cl C env) (eval ct (compEnvC scope cl C env))) (fun ok s' => if ok = true then
        wpAny (model prog w) A (eval elt (compEnvC scope cl C env)) (LCg.CompEnd h₀ L m { s with heap := h, toks := tk } I oI C oC D (LCg.lst ys) S (fun y news' => J (i + 1) (ys ++ [y]) news')) E' s'
        else LCg.CompEnd h₀ L m { s with heap := h, toks := tk } I oI C oC D (LCg.lst ys) S (fun _ news' => J (i + 1) ys news') Value.none s') E' { s with heap := h, toks := tk })
    (fin : ∀ ys news, J n ys news → Fin ys news) : ∀ k i ys news, i + k = n → J i ys news → LCt.CompRestT prog w A h₀ L m env ct elt x scope cl s S P Fin k i ys news
  | 0, i, ys, news, e, j => fin ys news ((show i = n from e) ▸ j)
  | k + 1, i, ys, news, e, j => fun v I oI C oC D m₂ h tk E' hP hC hx F N off ne =>
    wpAny_mono (turn i ys news (by omega) j v I oI C oC D m₂ h tk E' hP hC hx F N off ne) (fun ok s' he => by
      cases ok with
      | true =>
        rw [if_pos rfl] at he ⊢
        exact wpAny_mono he (fun y s' he => comp_end_mono (fun y n hj => comp_invT J turn fin k (i + 1) _ _ (by omega) hj) he) fun _ _ x => x
      | false =>
        rw [if_neg (by decide)] at he ⊢
        exact comp_end_mono (fun y n hj => comp_invT J turn fin k (i + 1) _ _ (by omega) hj) he) fun _ _ x => x
end
structure FilesOk (fs : Nat → File) : Prop where
  ah : ∀ i j, (fs i).ah = some j → j < 6
  nm : ∀ i, (fs i).nm.length ≤ 3
  en : ∀ i, (fs i).en.length ≤ 2
  nu : ∀ i, (fs i).nu < 65536
noncomputable def fmText (n : Nat) : Str := Txt.join (Str.ofString "") (fmList n 10)
theorem fmText_len (n : Nat) : (fmText n).length ≤ 10 := by
  show (Builtin.Str.glued (Str.ofString "") (fmList n 10)).length ≤ 10
  rw [StrLaws.glued_eq_join]
  have h1 := StrLaws.join_length_le (Str.ofString "") (fmList n 10)
  have h2 := StrLaws.sumLen_le _ (fmList_one n 10)
  have h3 : (Str.ofString "").length = 0 := by decide +kernel
  have h4 : (fmList n 10).length = 10 := by unfold fmList; simp [fmRows]
  rw [h3] at h1
  rw [h4] at h1 h2
  omega
theorem str_app (a b : Str) : (a ++ b).length = a.length + b.length := Str.length_append a b
end Mine
end
section
open PySem PySem.W PyProof.Rows PySem.Spec PySem.Calls
set_option Elab.async false
set_option maxRecDepth 100000
set_option maxHeartbeats 4000000
set_option linter.unusedVariables false
namespace Mine
theorem calm_X1 : True := by
  w_top off
  k_with_none
  trivial
noncomputable def piece (fs : Nat → File) (row : List Nat) (k : Nat) : Str := (fs k).nm ++ Str.ofString " " ++ fmText (fs k).nu ++ (if some k ≠ row.getLast? ∨ row.length % 2 = 0 then (fs k).en else Str.ofString "")
theorem piece_len {fs : Nat → File} (hok : FilesOk fs) (row : List Nat) (k : Nat) : (piece fs row k).length ≤ 16 := by
  unfold piece
  have h1 := hok.nm k
  have h2 := hok.en k
  have h3 := fmText_len (fs k).nu
  have h4 : (Str.ofString " ").length = 1 := by decide +kernel
  have h5 : (Str.ofString "").length = 0 := by decide +kernel
  rw [str_app, str_app, str_app]
  split <;> omega
theorem acc_len {fs : Nat → File} (hok : FilesOk fs) (row : List Nat) : ∀ (l : List Nat) (t : Str), (l.foldl (fun t k => t ++ piece fs row k) t).length ≤ t.length + 16 * l.length
  | [], t => by simp
  | k :: l, t => by
    have h1 := acc_len hok row l (t ++ piece fs row k)
    have h2 := piece_len hok row k
    rw [str_app] at h1
    rw [List.foldl_cons, List.length_cons]
    omega
noncomputable def textOf (fs : Nat → File) (row : List Nat) : Str := row.foldl (fun t k => t ++ piece fs row k) (Str.ofString "")
theorem c_text (w : World) (lf ra : Addr) (fs : Nat → File) (fa : Nat → Addr) (us : List Value) (un : Nat) (row : List Nat) (hok : FilesOk fs) (hu : IV us row) (hne : row ≠ []) (hnd : row.Nodup) (h6 : ∀ k ∈ row, k < 6) :
    Ctr0 40 262 w [.ref lf, .ref ra] (fun news => FilesIn news lf fs fa ∧ (ra, lstO us un) ∈ news) (fun news v news' => news' = news ∧ ∃ t', v = .str (textOf fs row) t') := by
  unfold Ctr0
  k_fill
  intro p loose mean mg mb dp un' gd cn cs a ccd cl outer A₀ base h₀ L m news s Q E B F KX N T hk hpre hd9 hu9 hret
  obtain ⟨hF, hra⟩ := hpre
  obtain ⟨row', z, rfl⟩ : ∃ row' z, row = row' ++ [z] := by
    rcases List.eq_nil_or_concat row with e | ⟨r, z, e⟩
    · exact absurd e hne
    · exact ⟨r, z, by rw [e, List.concat_eq_append]⟩
  refine ob_eea (hu.snoc_inv) ?_
  intro us' tz er1 hu'
  subst er1
  have hrl : (row' ++ [z]).length ≤ 6 := by
    have := nd_len _ (List.range 6) hnd fun x hx => List.mem_range.mpr (h6 x hx)
    simpa using this
  have hul : us'.length ≤ 1000 := by rw [hu'.length]; rw [List.length_append] at hrl; omega
  k_with_none
  k_with "exec For" => refine held ?_
  refine wpAny_call ?_
  k_dflt cell_enter
  k_steps
  show wpAny _ _ _ _ _ _
  with_reducible rename Fr _ _ _ _ => F1
  with_reducible rename News _ _ _ _ => N1
  refine for_inv (by assumption) ?_
  k_steps
  refine at_list (fun i m' nx => nx = news ∧ ∃ tt, At m' [("files", .ref lf), ("row", .ref ra), ("text", .str (((row' ++ [z]).take i).foldl (fun t k => t ++ piece fs (row' ++ [z]) k) (Str.ofString "")) tt)]) rfl F1 N1 (News.lst N1 hra) (N1 _ hra).2.1 ?_ ?_ ?_
  · exact ⟨rfl, _, by (with_unfolding_all rfl), by (with_unfolding_all rfl), by (with_unfolding_all rfl), trivial⟩
  · intro i v m1 nx h1 tk1 fp wr own hx hZ  hown hfar F2 N2
    refine ob_ae hZ ?_
    clear hZ
    intro er2 tt hA
    subst er2
    replace F2 := hA.fr F2
    clear F1 N1
    rw [List.getElem?_toArray] at hx
    refine ob_eea (hu.item hx) ?_
    intro k tk hk er3
    subst er3
    have hk6 : k < 6 := h6 k (List.mem_of_getElem? hk)
    have hf2 : FilesIn (nx ++ own) lf fs fa := hF.mono fun p hp => List.mem_append_left _ hp
    refine ob_eeeee (hf2.tup k hk6) ?_
    intro tt0 tt1 tt2 tt3 tn ht
    have hra2 : (ra, lstO (us' ++ [.int (z : Nat) tz]) un) ∈ nx ++ own := List.mem_append_left _ hra
    k_with "subscriptTail Name Name ref int" => (with_unfolding_all refine' files_item ?a ?b ?c ?_; (case a => k_asm); (case b => assumption); (case c => assumption))
    k_with "assign Tuple ref" => (refine assign_four rfl (by assumption) (by assumption) ⟨_, ((by assumption : News _ _ _ (nx ++ own)) _ ht).1, rfl, _, rfl⟩ (fun h3 tk3 F3 N3 => ?_); refine held ?_)
    have hgl : (row' ++ [z]).getLast? = some z := List.getLast?_concat ..
    have hacc : ((row' ++ [z]).take (i + 1)).foldl (fun t k => t ++ piece fs (row' ++ [z]) k) (Str.ofString "") = ((row' ++ [z]).take i).foldl (fun t k => t ++ piece fs (row' ++ [z]) k) (Str.ofString "") ++ piece fs (row' ++ [z]) k := by
      rw [List.take_add_one, hk, List.foldl_append]; rfl
    have hfm : (((row' ++ [z]).length : Nat) : Int).fmod 2 = (((row' ++ [z]).length % 2 : Nat) : Int) := by
      rw [Int.fmod_eq_emod_of_nonneg _ (by decide)]; rfl
    have l1 := hok.nm k
    have l2 := hok.en k
    have l3 := fmText_len (fs k).nu
    have l4 : (Str.ofString " ").length = 1 := by decide +kernel
    have l5 : (Str.ofString "").length = 0 := by decide +kernel
    have l6 := acc_len hok (row' ++ [z]) ((row' ++ [z]).take i) (Str.ofString "")
    have l7 := List.length_take_le' i (row' ++ [z])
    k_with "binaryOp Add str str" => (refine KOpn.add (by omega) ?_; intro tA kA lA)
    k_with "call ref" => refine held ?_
    k_with "subscriptTail Name UnaryOp ref int" => refine last_item (by assumption) hra2 hul ?_
    k_with "call builtin:len cons nil" => refine len_lst (by assumption) hra2 hu.length (by omega) ?_
    k_steps
    show wpAny _ _ _ _ _ _
    refine Ctr.use (c_filemode w (fs k).nu tt3) (by assumption) (by assumption) (by assumption) (by assumption) (by assumption) rfl trivial (by k_room) (by k_units) ?_
    intro v nx4 h4 tk4 F4 N4 hZ  kp4
    refine ob_ae hZ ?_
    clear hZ
    intro er4 t4 hv4
    subst er4
    replace hv4 : v = .str (fmText (fs k).nu) t4 := hv4
    subst hv4
    k_steps
    · have hp : piece fs (row' ++ [z]) k = (fs k).nm ++ Str.ofString " " ++ fmText (fs k).nu ++ (fs k).en := by
        unfold piece
        rw [if_pos (by rw [hgl]; left; intro e; injection e; omega)]
      exact FStep.next nx (by assumption) (by assumption) (fun p hp => hp) hown.1 ⟨rfl, _, by (with_unfolding_all rfl), by (with_unfolding_all rfl), by (rw [hacc, hp]; with_unfolding_all rfl), trivial⟩
    · have hp : piece fs (row' ++ [z]) k = (fs k).nm ++ Str.ofString " " ++ fmText (fs k).nu ++ (fs k).en := by
        unfold piece
        rw [if_pos (by right; omega)]
      exact FStep.next nx (by assumption) (by assumption) (fun p hp => hp) hown.1 ⟨rfl, _, by (with_unfolding_all rfl), by (with_unfolding_all rfl), by (rw [hacc, hp]; with_unfolding_all rfl), trivial⟩
    · have hp : piece fs (row' ++ [z]) k = (fs k).nm ++ Str.ofString " " ++ fmText (fs k).nu ++ Str.ofString "" := by
        unfold piece
        rw [if_neg (by
          rw [hgl]
          rintro (h | h)
          · exact h (congrArg some (by omega))
          · omega)]
      exact FStep.next nx (by assumption) (by assumption) (fun p hp => hp) hown.1 ⟨rfl, _, by (with_unfolding_all rfl), by (with_unfolding_all rfl), by (rw [hacc, hp]; with_unfolding_all rfl), trivial⟩
  · intro h5 tk5 m5 nx F5 N5 hZ  _
    refine ob_ae hZ ?_
    clear hZ
    intro er5 tt hA
    subst er5
    replace F5 := hA.fr F5
    clear F1 N1
    k_steps
    exact hret _ _ _ _ (by assumption) (by assumption) ⟨rfl, _, by rw [List.take_of_length_le (by rw [List.size_toArray, hu.length]; exact Nat.le_refl _)]; rfl⟩
end Mine
end
section
open PySem PySem.W PyProof.Rows PySem.Spec PySem.Calls
set_option Elab.async false
set_option maxRecDepth 100000
set_option maxHeartbeats 4000000
set_option linter.unusedVariables false
namespace Mine
theorem calm_X2 : True := by
  w_top off
  k_with_none
  trivial
noncomputable def shP (n i : Int) (tb : String) (acc : Str) : Str :=
  acc ++ (Txt.item (Str.ofString "-r") (((n.fdiv (8 ^ (2 - i).toNat)).fmod 8).fdiv 4) ++ Txt.item (Str.ofString "-w") ((((n.fdiv (8 ^ (2 - i).toNat)).fmod 8).fdiv 2).fmod 2)) ++ Txt.item (Str.ofString tb) (((n.fdiv (8 ^ (2 - i).toNat)).fmod 8).fmod 2 + 2 * (((n.fdiv 512).fdiv (2 ^ (2 - i).toNat)).fmod 2))
noncomputable def shAcc (n : Int) : Nat → Str
  | 0 => Txt.item (Str.ofString "?pc?d?b?-?l?s???") (n.fdiv 4096)
  | i + 1 => shP n (i : Nat) (if i = 2 then "-xTt" else "-xSs") (shAcc n i)
noncomputable def shownOf (n : Nat) : Str := shAcc (n : Nat) 3
theorem c_shown (w : World) (n : Nat) (t : Tok) (hn : n < 65536) :
    Ctr0 20 269 w [.int (n : Nat) t] (fun _ => True) (fun news v news' => news' = news ∧ ∃ t', v = .str (shownOf n) t' ∧ (shownOf n).length ≤ 20) := by
  unfold Ctr0
  k_fill
  intro p loose mean mg mb dp un gd cn cs a ccd cl outer A₀ base h₀ L m news s Q E B F KX N T hk hpre hd9 hu9 hret
  k_with_none
  k_with "exec For Name Call cons nil" => refine held ?_
  refine wpAny_call ?_
  k_dflt cell_enter
  k_steps
  show wpAny _ _ _ _ _ _
  refine for_inv (by assumption) ?_
  k_steps
  show wpAny _ _ _ _ _ _
  rename IsRange _ _ _ _ _ _ _ _ => hr
  with_reducible rename Fr _ _ _ _ => F10
  with_reducible rename News _ _ _ _ => N10
  refine at_range (n := 3) (fun i m' nx => nx = news ∧ ∃ acc tt, acc = shAcc (n : Nat) i ∧ acc.length ≤ 5 * i + 1 ∧ At m' [("number", .int (n : Nat) t), ("row", .str acc tt)]) rfl F10 N10 hr (by decide) (by decide) ?_ ?_ ?_
  · exact ⟨rfl, _, _, show Txt.item (Str.ofString "?pc?d?b?-?l?s???") ((n : Int).fdiv 4096) = shAcc (n : Nat) 0 from rfl, by (with_reducible rename (Txt.item _ _).length = 1 => h1); rw [h1]; decide, by (with_unfolding_all rfl), by (with_unfolding_all rfl), trivial⟩
  · intro i tx m1 nx h1 tk1 fp wr own hi hZ  hown hfar F2 N2
    refine ob_a hZ ?_
    clear hZ
    intro er1 hq0
    refine ob_ee hq0 ?_
    clear hq0
    intro acc tt hq1
    refine ob_aa hq1 ?_
    clear hq1
    intro hacc hlen hA
    subst er1
    replace F2 := hA.fr F2
    clear F10 N10
    have hi3 : i = 0 ∨ i = 1 ∨ i = 2 := by omega
    have l5 : acc.length ≤ 100 := by omega
    rcases hi3 with rfl | rfl | rfl
    · rw [show (0 : Int) + ((0 : Nat) : Int) = 0 from rfl]
      k_with_none
      k_with "exec AugAssign" => refine held ?_
      k_steps
      show wpAny _ _ _ _ _ _
      with_reducible rename Fr _ _ _ _ => F4
      obtain ⟨f, hf⟩ : ∃ f : Int, f = ((n : Int).fdiv (8 ^ (2 - 0 : Int).toNat)).fmod 8 := ⟨_, rfl⟩
      obtain ⟨b, hb⟩ : ∃ b : Int, b = (((n : Int).fdiv 512).fdiv (2 ^ (2 - 0 : Int).toNat)).fmod 2 := ⟨_, rfl⟩
      have hf1 : 0 ≤ f := by rw [hf]; exact Int.fmod_nonneg_of_pos _ (by decide)
      have hf2 : f < 8 := by rw [hf]; exact Int.fmod_lt_of_pos _ (by decide)
      have hb1 : 0 ≤ b := by rw [hb]; exact Int.fmod_nonneg_of_pos _ (by decide)
      have hb2 : b < 2 := by rw [hb]; exact Int.fmod_lt_of_pos _ (by decide)
      replace F4 := At.fr (l := [("number", .int (n : Nat) t), ("row", .str acc tt), ("place", .int 0 tx), ("figure", .int f _), ("above", .int b _)]) ⟨by (with_unfolding_all rfl), by (with_unfolding_all rfl), by (with_unfolding_all rfl), by (rw [hf]; with_unfolding_all rfl), by (rw [hb]; with_unfolding_all rfl), trivial⟩ F4
      have hs : shAcc (n : Nat) 1 = acc ++ (Txt.item (Str.ofString "-r") (f.fdiv 4) ++ Txt.item (Str.ofString "-w") ((f.fdiv 2).fmod 2)) ++ Txt.item (Str.ofString "-xSs") (f.fmod 2 + 2 * b) := by
        rw [hf, hb, hacc]; exact rfl
      clear hf hb hacc F2 N2
      k_with_none
      k_with "binaryOp Add str str" => (refine KOpn.add (by omega) ?_; intro tA kA lA)
      k_with "execs nil" => refine held ?_
      k_steps
      show wpAny _ _ _ _ _ _
      refine wpAny_execs_nil ?_
      refine FStep.next nx (by assumption) (by assumption) (fun p hp => .tail _ hp) hown.1 ⟨rfl, _, _, hs.symm, by omega, by (with_unfolding_all rfl), by (with_unfolding_all rfl), trivial⟩
    · rw [show (0 : Int) + ((1 : Nat) : Int) = 1 from rfl]
      k_with_none
      k_with "exec AugAssign" => refine held ?_
      k_steps
      show wpAny _ _ _ _ _ _
      with_reducible rename Fr _ _ _ _ => F4
      obtain ⟨f, hf⟩ : ∃ f : Int, f = ((n : Int).fdiv (8 ^ (2 - 1 : Int).toNat)).fmod 8 := ⟨_, rfl⟩
      obtain ⟨b, hb⟩ : ∃ b : Int, b = (((n : Int).fdiv 512).fdiv (2 ^ (2 - 1 : Int).toNat)).fmod 2 := ⟨_, rfl⟩
      have hf1 : 0 ≤ f := by rw [hf]; exact Int.fmod_nonneg_of_pos _ (by decide)
      have hf2 : f < 8 := by rw [hf]; exact Int.fmod_lt_of_pos _ (by decide)
      have hb1 : 0 ≤ b := by rw [hb]; exact Int.fmod_nonneg_of_pos _ (by decide)
      have hb2 : b < 2 := by rw [hb]; exact Int.fmod_lt_of_pos _ (by decide)
      replace F4 := At.fr (l := [("number", .int (n : Nat) t), ("row", .str acc tt), ("place", .int 1 tx), ("figure", .int f _), ("above", .int b _)]) ⟨by (with_unfolding_all rfl), by (with_unfolding_all rfl), by (with_unfolding_all rfl), by (rw [hf]; with_unfolding_all rfl), by (rw [hb]; with_unfolding_all rfl), trivial⟩ F4
      have hs : shAcc (n : Nat) 2 = acc ++ (Txt.item (Str.ofString "-r") (f.fdiv 4) ++ Txt.item (Str.ofString "-w") ((f.fdiv 2).fmod 2)) ++ Txt.item (Str.ofString "-xSs") (f.fmod 2 + 2 * b) := by
        rw [hf, hb, hacc]; exact rfl
      clear hf hb hacc F2 N2
      k_with_none
      k_with "binaryOp Add str str" => (refine KOpn.add (by omega) ?_; intro tA kA lA)
      k_with "execs nil" => refine held ?_
      k_steps
      show wpAny _ _ _ _ _ _
      refine wpAny_execs_nil ?_
      refine FStep.next nx (by assumption) (by assumption) (fun p hp => .tail _ hp) hown.1 ⟨rfl, _, _, hs.symm, by omega, by (with_unfolding_all rfl), by (with_unfolding_all rfl), trivial⟩
    · rw [show (0 : Int) + ((2 : Nat) : Int) = 2 from rfl]
      k_with_none
      k_with "exec AugAssign" => refine held ?_
      k_steps
      show wpAny _ _ _ _ _ _
      with_reducible rename Fr _ _ _ _ => F4
      obtain ⟨f, hf⟩ : ∃ f : Int, f = ((n : Int).fdiv (8 ^ (2 - 2 : Int).toNat)).fmod 8 := ⟨_, rfl⟩
      obtain ⟨b, hb⟩ : ∃ b : Int, b = (((n : Int).fdiv 512).fdiv (2 ^ (2 - 2 : Int).toNat)).fmod 2 := ⟨_, rfl⟩
      have hf1 : 0 ≤ f := by rw [hf]; exact Int.fmod_nonneg_of_pos _ (by decide)
      have hf2 : f < 8 := by rw [hf]; exact Int.fmod_lt_of_pos _ (by decide)
      have hb1 : 0 ≤ b := by rw [hb]; exact Int.fmod_nonneg_of_pos _ (by decide)
      have hb2 : b < 2 := by rw [hb]; exact Int.fmod_lt_of_pos _ (by decide)
      replace F4 := At.fr (l := [("number", .int (n : Nat) t), ("row", .str acc tt), ("place", .int 2 tx), ("figure", .int f _), ("above", .int b _)]) ⟨by (with_unfolding_all rfl), by (with_unfolding_all rfl), by (with_unfolding_all rfl), by (rw [hf]; with_unfolding_all rfl), by (rw [hb]; with_unfolding_all rfl), trivial⟩ F4
      have hs : shAcc (n : Nat) 3 = acc ++ (Txt.item (Str.ofString "-r") (f.fdiv 4) ++ Txt.item (Str.ofString "-w") ((f.fdiv 2).fmod 2)) ++ Txt.item (Str.ofString "-xTt") (f.fmod 2 + 2 * b) := by
        rw [hf, hb, hacc]; exact rfl
      clear hf hb hacc F2 N2
      k_with_none
      k_with "binaryOp Add str str" => (refine KOpn.add (by omega) ?_; intro tA kA lA)
      k_with "execs nil" => refine held ?_
      k_steps
      show wpAny _ _ _ _ _ _
      refine wpAny_execs_nil ?_
      refine FStep.next nx (by assumption) (by assumption) (fun p hp => .tail _ hp) hown.1 ⟨rfl, _, _, hs.symm, by omega, by (with_unfolding_all rfl), by (with_unfolding_all rfl), trivial⟩
  · intro h1 tk1 m1 nx F2 N2 hZ
    refine ob_a hZ ?_
    clear hZ
    intro er2 hq0
    refine ob_ee hq0 ?_
    clear hq0
    intro acc tt hq1
    refine ob_aa hq1 ?_
    clear hq1
    intro hacc hlen hA
    subst er2
    replace F2 := hA.fr F2
    clear F10 N10
    k_with_none
    k_steps
    exact hret _ _ _ _ (by assumption) (by assumption) ⟨rfl, _, by rw [hacc]; rfl, by show (shAcc _ 3).length ≤ 20; rw [← hacc]; omega⟩
end Mine
end
section
open PySem PySem.W PyProof.Rows PySem.Spec PySem.Calls
set_option Elab.async false
set_option maxRecDepth 100000
set_option maxHeartbeats 4000000
set_option linter.unusedVariables false
namespace Mine
theorem calm_X3 : True := by
  w_top off
  k_with_none
  trivial
noncomputable def CtrH (b : Nat) (f : Addr) (w : World) (vs : List Value) (pre : Heap → Led → Prop) (post : Led → Value → Led → Prop) : Prop :=
  ∀ (p : Program) (loose : List Str) (mean : ExcName → Option Value) (mg mb : Str → Option Value) (dp un : Nat) (gd : Option (List Code)) (cn : Str) (cs : Scope) (a : Addr) (ccd : Value) (cl : List (Str × Addr)) (outer : List Env) (A₀ : Around) (base h₀ : Heap) (L : Addr) (m : Str → Option Value) (news : Led) (s : Shared) (Q E : Value → Shared → Prop),
    Below A₀ base outer h₀ → Fr h₀ L s.heap m → (h0.heap_1 w.params).In h₀ → News h₀ L s.heap news → Top p loose mean mg mb h₀ → cs.kind = .function → pre h₀ news →
    dp + b < recursionLimit → un + b < cLine →
    (∀ v news' h' tk', Fr h₀ L h' m → News h₀ L h' news' → post news v news' → Q v { s with heap := h', toks := tk' }) →
      wpAny (model PySem.Challenge.rw_oy0305_01.row.prog w) (ktrTop dp un gd cn cs L a ccd cl outer) (call (.ref f) vs) Q E s
noncomputable def nmTab : Nat → Str
  | 0 => Str.ofString "."
  | 1 => Str.ofString "a"
  | 2 => Str.ofString ".."
  | 3 => Str.ofString ".b"
  | 4 => Str.ofString "a.c"
  | _ => Str.ofString "c"
noncomputable def enTab : Nat → Str
  | 0 => Str.ofString "\n"
  | 1 => Str.ofString "\r"
  | _ => Str.ofString "\r\n"
noncomputable def fileOf (k : Nat) (x : Int) : File :=
  ⟨if x.fmod 7 < 6 ∧ (x.fmod 7 ≠ (k : Int) ∨ (x.fdiv 7).fmod 2 = 1) then some (x.fmod 7).toNat else none, nmTab ((x.fdiv 14).fmod 6).toNat, enTab ((x.fdiv 84).fmod 3).toNat, (((x.fdiv 252).fmod 16) * 4096 + (x + 455 * (k : Int)).fmod 4096).toNat⟩
noncomputable def xsOf (ns : List Int) : List Int := ns.take 6 ++ List.drop (((ns.take 6).length : Nat) : Int).toNat [2022, 1120, 2744, 3067, 944, 3938]
noncomputable def fsOf (ns : List Int) (k : Nat) : File := if k < 6 then fileOf k ((xsOf ns).getD k 0) else ⟨none, Str.ofString "", Str.ofString "", 0⟩
inductive FV (led : Led) (fl : Addr) : List Value → List File → Prop
  | nil : FV led fl [] []
  | cons {a : Addr} {f : File} {t0 t1 t2 t3 : Tok} {n : Nat} {vs : List Value} {l : List File} (h : (a, tupO [ahV f.ah t0, .str f.nm t1, .str f.en t2, .int (f.nu : Nat) t3] n) ∈ led) (hne : a ≠ fl) (t : FV led fl vs l) : FV led fl (.ref a :: vs) (f :: l)
theorem FV.mono {led led' : Led} {fl : Addr} (h : ∀ a o, (a, o) ∈ led → a ≠ fl → (a, o) ∈ led') : ∀ {vs : List Value} {l : List File}, FV led fl vs l → FV led' fl vs l
  | _, _, .nil => .nil
  | _, _, .cons a b c => .cons (h _ _ a b) b (c.mono h)
theorem FV.snoc {led : Led} {fl a : Addr} {f : File} {t0 t1 t2 t3 : Tok} {n : Nat} (h : (a, tupO [ahV f.ah t0, .str f.nm t1, .str f.en t2, .int (f.nu : Nat) t3] n) ∈ led) (hne : a ≠ fl) : ∀ {vs : List Value} {l : List File}, FV led fl vs l → FV led fl (vs ++ [.ref a]) (l ++ [f])
  | _, _, .nil => .cons h hne .nil
  | _, _, .cons a b c => .cons a b (c.snoc h hne)
theorem FV.length {led : Led} {fl : Addr} : ∀ {vs : List Value} {l : List File}, FV led fl vs l → vs.length = l.length
  | _, _, .nil => rfl
  | _, _, .cons _ _ c => by simp [c.length]
theorem FV.get {led : Led} {fl : Addr} : ∀ {vs : List Value} {l : List File}, FV led fl vs l → ∀ {i : Nat} {f : File}, l[i]? = some f → ∃ a t0 t1 t2 t3 n, vs[i]? = some (.ref a) ∧ (a, tupO [ahV f.ah t0, .str f.nm t1, .str f.en t2, .int (f.nu : Nat) t3] n) ∈ led
  | _, _, .nil, _, _, h => by simp at h
  | _, _, .cons a b c, 0, _, h => by simp at h; subst h; exact ⟨_, _, _, _, _, _, rfl, a⟩
  | _, _, .cons a b c, i + 1, _, h => by simp at h; simpa using c.get h
section
variable {prog : Program} {w : World} {A : Around} {E : Value → Shared → Prop} {s : Shared} {h₀ : Heap} {L : Addr} {news : Led} {Q : Value → Shared → Prop}
theorem item_txt (tab : Nat → Str) {value slice : Expr} {l : Addr} {vs : List Value} {n : Nat} {i : Int} {u : Tok} (N : News h₀ L s.heap news) (hm : (l, lstO vs n) ∈ news) (h0 : 0 ≤ i) (h1 : i < (vs.length : Nat)) (hz : vs.length ≤ 100)
    (hv : ∀ j, j < vs.length → ∃ t, vs[j]? = some (.str (tab j) t)) (h : ∀ t, Q (.str (tab i.toNat) t) s)
    (hs : subscripted slice false (.ref l) (.int i u) = operate [.ref l, .int i u] (getItem (.ref l) (.int i u)) := by with_unfolding_all rfl) :
    wpAny (model prog w) A (subscriptTail value slice (.ref l) (.int i u)) Q E s := by
  obtain ⟨t, ht⟩ := hv i.toNat (by omega)
  have hl := News.lst N hm
  exact tail_any hl.typeIs slot_list_getitem.lookup (wpAny_getItem_list hl h0 (by omega) (by simpa using ht) (h t)) hs
end
theorem ints_item : ∀ {vs : List Value} {ns : List Int}, IntsAre vs ns → ∀ {i : Nat} {v : Value}, vs[i]? = some v → ∃ t, v = .int (ns.getD i 0) t
  | _, _, .nil, _, _, h => by simp at h
  | _, _, .cons n t r, 0, _, h => ⟨t, by simp at h; simp [h.symm]⟩
  | _, _, .cons n t r, i + 1, _, h => by simp at h; simpa using ints_item r h
theorem files_pack {g h : Heap} {L fl nl l : Addr} {m : Str → Option Value} {n1 n2 : Nat} {nvs : List Value} {news : Led} (N : News g L h ((fl, lstO [] n1) :: (nl, lstO nvs n2) :: news)) (F : Fr g L h m) (l1 : ∀ p ∈ news, p.1 < nl) (l2 : @LT.lt Nat _ nl fl ∧ AllLt fl news)
    (hl : m "script" = some (.ref l)) (hnl : m "names" = some (.ref nl)) (hfl : m "files" = some (.ref fl)) (hlen : nvs.length = 6) (hnv : ∀ j, j < 6 → ∃ t, nvs[j]? = some (.str (nmTab j) t)) :
    ∃ (fl nl : Addr) (nvs : List Value) (n1 n2 : Nat) (nx0 : Led) (m0 : Str → Option Value), News g L h nx0 ∧ Fr g L h (ov m0 [("script", .ref l), ("names", .ref nl), ("files", .ref fl)]) ∧ (fl, lstO [] n1) ∈ nx0 ∧ (nl, lstO nvs n2) ∈ nx0 ∧ nl ≠ fl ∧ (∀ p ∈ news, p ∈ nx0 ∧ p.1 ≠ fl) ∧ nvs.length = 6 ∧ ∀ j, j < 6 → ∃ t, nvs[j]? = some (.str (nmTab j) t) :=
  ⟨fl, nl, nvs, n1, n2, _, m, N, At.fr ⟨hl, hnl, hfl, trivial⟩ F, .head _, .tail _ (.head _), Nat.ne_of_lt l2.1, fun p hp => ⟨.tail _ (.tail _ hp), Nat.ne_of_lt (Nat.lt_trans (l1 p hp) l2.1)⟩, hlen, hnv⟩
theorem ah_some {k : Nat} {x : Int} (h : x.fmod 7 < 6 ∧ (x.fmod 7 ≠ (k : Int) ∨ (x.fdiv 7).fmod 2 = 1)) (t : Tok) : Value.int (x.fmod 7) t = ahV (fileOf k x).ah t := by
  unfold fileOf
  rw [if_pos h]
  show Value.int (x.fmod 7) t = Value.int ((x.fmod 7).toNat : Nat) t
  rw [Int.toNat_of_nonneg (Int.fmod_nonneg_of_pos _ (by decide))]
theorem ah_none {k : Nat} {x : Int} (h : ¬ (x.fmod 7 < 6 ∧ (x.fmod 7 ≠ (k : Int) ∨ (x.fdiv 7).fmod 2 = 1))) (t : Tok) : Value.none = ahV (fileOf k x).ah t := by
  unfold fileOf
  rw [if_neg h]
  rfl
theorem tup_file {led : Led} {a : Addr} {i : Nat} {xv : Int} {v : Value} {t1 t2 t3 : Tok} {n : Nat} (h : (a, tupO [v, .str (nmTab ((xv.fdiv 14).fmod 6).toNat) t1, .str (enTab ((xv.fdiv 84).fmod 3).toNat) t2, .int ((xv.fdiv 252).fmod 16 * 4096 + (xv + 455 * (i : Int)).fmod 4096) t3] n) ∈ led)
    (hv : ∃ t0, v = ahV (fileOf i xv).ah t0) : ∃ t0 t1 t2 t3 n, (a, tupO [ahV (fileOf i xv).ah t0, .str (fileOf i xv).nm t1, .str (fileOf i xv).en t2, .int ((fileOf i xv).nu : Nat) t3] n) ∈ led := by
  obtain ⟨t0, rfl⟩ := hv
  have e : (xv.fdiv 252).fmod 16 * 4096 + (xv + 455 * (i : Int)).fmod 4096 = ((fileOf i xv).nu : Int) := by
    have h1 : 0 ≤ (xv.fdiv 252).fmod 16 := Int.fmod_nonneg_of_pos _ (by decide)
    have h2 : 0 ≤ (xv + 455 * (i : Int)).fmod 4096 := Int.fmod_nonneg_of_pos _ (by decide)
    exact (Int.toNat_of_nonneg (by omega)).symm
  rw [e] at h
  exact ⟨_, _, _, _, _, h⟩
theorem files_in {led : Led} {fl : Addr} {ivs : List Value} {ep : Nat} {fs f : Nat → File} (hm : (fl, lstO ivs ep) ∈ led) (hv : FV led fl ivs ((List.range 6).map f)) (hf : ∀ k, k < 6 → fs k = f k) : ∃ fa, FilesIn led fl fs fa := by
  have hg : ∀ k, k < 6 → ∃ a, ivs[k]? = some (.ref a) ∧ ∃ t0 t1 t2 t3 n, (a, tupO [ahV (fs k).ah t0, .str (fs k).nm t1, .str (fs k).en t2, .int ((fs k).nu : Nat) t3] n) ∈ led := fun k hk => by
    obtain ⟨a, t0, t1, t2, t3, n, h1, h2⟩ := hv.get (i := k) (f := f k) (by rw [List.getElem?_map, List.getElem?_range hk]; rfl)
    exact ⟨a, h1, t0, t1, t2, t3, n, by rw [hf k hk]; exact h2⟩
  refine ⟨fun k => if h : k < 6 then (hg k h).choose else 0, ⟨ep, ?_⟩, fun k hk => ?_⟩
  · have hl : ivs.length = 6 := by rw [hv.length]; simp
    rw [show (List.range 6).map (fun i => Value.ref (if h : i < 6 then (hg i h).choose else 0)) = ivs from ?_]
    · exact hm
    · refine List.ext_getElem? fun k => ?_
      by_cases hk : k < 6
      · rw [List.getElem?_map, List.getElem?_range hk, (hg k hk).choose_spec.1]
        simp only [Option.map_some, dif_pos hk]
      · rw [List.getElem?_eq_none_iff.mpr (by simp; omega), List.getElem?_eq_none_iff.mpr (by omega)]
  · rw [dif_pos hk]
    exact (hg k hk).choose_spec.2
theorem allLt_at {a : Addr} {l : Led} (h : AllLt a l) : ∀ p ∈ l, @LT.lt Nat _ p.1 a := by
  induction l with
  | nil => intro p hp; cases hp
  | cons q l ih =>
    intro p hp
    rcases List.mem_cons.mp hp with rfl | hp
    · exact h.1
    · exact ih h.2 p hp
noncomputable abbrev nFor (ns : List Int) (nx0 : Led) (nl : Addr) (fl : Addr) (i : Nat) (m' : Str → Option Value) (nx : Led) : Prop := ∃ ivs ep, (fl, lstO ivs ep) ∈ nx ∧ FV nx fl ivs ((List.range i).map fun j => fileOf j ((xsOf ns).getD j 0)) ∧ (∀ p ∈ nx0, p.1 ≠ fl → p ∈ nx) ∧ At m' [("names", .ref nl), ("files", .ref fl)]
theorem c_files (w : World) (l : Addr) (vs : List Value) (ns : List Int) (hv : IntsAre vs ns) (hz : ns.length ≤ 63) :
    CtrH 20 250 w [.ref l] (fun h₀ _ => h₀.IsList l vs.toArray) (fun news v news' => (∀ p ∈ news, p ∈ news') ∧ ∃ lf fa, v = .ref lf ∧ FilesIn news' lf (fsOf ns) fa) := by
  unfold CtrH
  k_fill
  intro p loose mean mg mb dp un gd cn cs a ccd cl outer A₀ base h₀ L m news s Q E B F KX N T hk hpre hd9 hu9 hret
  k_with_none
  k_with "exec For Tuple Call cons nil" => refine held ?_
  refine wpAny_call ?_
  k_dflt cell_enter
  k_steps
  show wpAny _ _ _ _ _ _
  with_reducible rename Fr _ _ _ _ => F1
  with_reducible rename News _ _ _ (_ :: _) => N1
  with_reducible rename _ ∧ AllLt _ _ => q2
  rename ∀ p ∈ news, p.1 < _ => q1
  obtain ⟨fl, nl, nvs, n1, n2, nx0, m0, N2, F2, hfl0, hnl0, hnf, hnews, hnvl, hnv⟩ := files_pack (l := l) N1 F1 q1 q2 (by (with_unfolding_all rfl)) (by (with_unfolding_all rfl)) (by (with_unfolding_all rfl)) rfl (fun j hj => by
    match j, hj with
    | 0, _ => exact ⟨_, rfl⟩
    | 1, _ => exact ⟨_, rfl⟩
    | 2, _ => exact ⟨_, rfl⟩
    | 3, _ => exact ⟨_, rfl⟩
    | 4, _ => exact ⟨_, rfl⟩
    | 5, _ => exact ⟨_, rfl⟩
    | j + 6, hj => exact absurd hj (by omega))
  clear N1 q1 q2
  replace F1 := F2
  clear F2
  with_reducible rename Fr h₀ L _ m => FG1
  refine for_inv (by assumption) ?_
  have hsl := hpre.at fun o e => FG1.keep _ _ e
  k_steps
  show wpAny _ _ _ _ _ _
  with_reducible rename Fr _ _ _ (ov _ _) => F5
  with_reducible rename News _ _ _ (_ :: _) => N5
  rename IntsAre _ (_ ++ _) => hI5
  with_reducible rename _ ∧ _ ∧ _ ∧ _ ∧ AllLt _ nx0 => q5
  have hfD := allLt_at q5.2.2.2.2 _ hfl0
  have hxl : (xsOf ns).length = 6 := by unfold xsOf; simp; omega
  have hszf := Heap.lt_size (N5 _ (.tail _ (.tail _ (.tail _ (.tail _ (.tail _ hfl0)))))).1
  refine at_enumList (nFor ns nx0 nl fl) rfl F5 N5 ⟨_, (N5 _ (.head _)).1, rfl, _, rfl⟩ (N5 _ (.head _)).2.1 ?_ ?_ ?_
  · exact ⟨[], _, .tail _ (.tail _ (.tail _ (.tail _ (.tail _ hfl0)))), .nil, fun p hp _ => .tail _ (.tail _ (.tail _ (.tail _ (.tail _ hp)))), by (with_unfolding_all rfl), by (with_unfolding_all rfl), trivial⟩
  · rintro i x a1 tk1 m1 nx h2 tk2 fp wr own hx ⟨ivs, ep, hfl1, hfv, hb0, hA⟩ hown hfar F6 N6
    rw [List.getElem?_toArray] at hx
    obtain ⟨tx, rfl⟩ := ints_item hI5 hx
    have hi6 : i < 6 := by
      have h1 := hI5.length
      have h2 := (List.getElem?_eq_some_iff.mp hx).1
      have h3 : (List.take 6 ns ++ List.drop (((ns.take 6).length : Nat) : Int).toNat [(2022 : Int), 1120, 2744, 3067, 944, 3938]).length = 6 := hxl
      omega
    replace F6 := hA.fr F6
    generalize hxv : (List.take 6 ns ++ List.drop (((ns.take 6).length : Nat) : Int).toNat [(2022 : Int), 1120, 2744, 3067, 944, 3938]).getD i 0 = xv at *
    refine assign_two rfl F6 N6 ⟨_, (N6 _ (.head _)).1, rfl, _, rfl⟩ (fun h3 tk3 F7 N7 => ?_)
    replace N7 : News _ _ h3 (nx ++ own) := fun p hp => N7 p (List.mem_cons_of_mem _ hp)
    have hfo : ∀ p ∈ own, p.1 ≠ fl := fun p hp e => by
      rcases hfar p hp with q | q
      · rw [q] at e; exact absurd e.symm (Nat.ne_of_lt hfD)
      · exact absurd (Nat.lt_of_lt_of_le hszf (e ▸ q.2)) (Nat.lt_irrefl _)
    have hnl1 : (nl, lstO nvs n2) ∈ nx ++ own := List.mem_append_left _ (hb0 _ hnl0 hnf)
    have hfl2 : (fl, lstO ivs ep) ∈ nx ++ own := List.mem_append_left _ hfl1
    have hil : ivs.length ≤ 1000 := by rw [hfv.length]; simp; omega
    clear N6 F6 F5 N5 hx
    k_with "subscriptTail Name BinOp ref int" => first
      | (refine item_txt nmTab (by assumption) hnl1 (Int.fmod_nonneg_of_pos _ (by decide)) (by rw [hnvl]; exact Int.fmod_lt_of_pos _ (by decide)) (by omega) (fun j hj => hnv j (hnvl ▸ hj)) ?_; intro tq)
      | (refine item_txt enTab (vs := [_, _, _]) (by assumption) (.head _) (Int.fmod_nonneg_of_pos _ (by decide)) (show _ < (3 : Int) from Int.fmod_lt_of_pos _ (by decide)) (show 3 ≤ 100 by decide) (fun j hj => by
          match j, hj with
          | 0, _ => exact ⟨_, rfl⟩
          | 1, _ => exact ⟨_, rfl⟩
          | 2, _ => exact ⟨_, rfl⟩
          | j + 3, hj => exact absurd hj (Nat.not_lt.mpr (Nat.le_add_left 3 j))) ?_; intro tq)
    k_with "call builtin:list.append cons nil" => (refine op_app (by assumption) (by assumption) (by k_mem) hil ?_; intro h11 nx11 F11 N11 m11 k11)
    k_steps
    all_goals
      show wpAny _ _ _ _ _ _
      refine wpAny_execs_nil ?_
      with_reducible rename _ ∧ AllLt _ (nx ++ own) => q9
      have hlt9 := allLt_at q9.2
      have hflw : fl ∉ wr := hown.1 _ hfl1
      obtain ⟨y0, y1, y2, y3, y4, hy⟩ := tup_file (i := i) (xv := xv) (k11 _ (.head _) (Ne.symm (Nat.ne_of_lt (hlt9 _ hfl2)))) (by
        first
        | exact ⟨_, ah_some ⟨by assumption, .inl (by assumption)⟩ _⟩
        | exact ⟨_, ah_some ⟨by assumption, .inr (by assumption)⟩ _⟩
        | exact ⟨0, ah_none (fun ⟨a, b⟩ => by first | exact absurd a (by assumption) | (rcases b with b | b; exact b (by assumption); exact absurd b (by assumption))) _⟩)
      refine FStep.next (cutL wr nx11) (by assumption) (by assumption) (fun p hp => ?_) (fun p hp => (mem_cut.mp hp).2) ⟨_, _, mem_cut.mpr ⟨m11, hflw⟩, ?_, fun p hp hne => mem_cut.mpr ⟨k11 _ (.tail _ (.tail _ (List.mem_append_left _ (hb0 p hp hne)))) hne, hown.1 _ (hb0 p hp hne)⟩, by (with_unfolding_all rfl), by (with_unfolding_all rfl), trivial⟩
      · rcases List.mem_append.mp hp with hp | hp
        · exact (mem_cut.mp hp).1
        · exact k11 _ (.tail _ (.tail _ (List.mem_append_right _ hp))) (hfo p hp)
      · rw [List.range_succ, List.map_append]
        refine FV.snoc (mem_cut.mpr ⟨by rw [← hxv] at hy; exact hy, fun hb => ?_⟩) (Ne.symm (Nat.ne_of_lt (hlt9 _ hfl2))) (hfv.mono fun a o h1 h2 => mem_cut.mpr ⟨k11 _ (.tail _ (.tail _ (List.mem_append_left _ h1))) h2, hown.1 _ h1⟩)
        obtain ⟨ob, ho⟩ := hown.2.2 _ hb
        exact absurd (hlt9 _ (List.mem_append_right _ ho)) (Nat.lt_irrefl _)
  · rintro h5 tk5 m5 nx F7 N7 ⟨ivs, ep, hfl1, hfv, hb0, hA⟩
    replace F7 := hA.fr F7
    have hws := hI5.length
    rw [show (List.take 6 ns ++ List.drop (((ns.take 6).length : Nat) : Int).toNat [(2022 : Int), 1120, 2744, 3067, 944, 3938]).length = 6 from hxl] at hws
    rw [List.size_toArray, hws] at hfv
    clear F5 N5
    k_with_none
    k_steps
    obtain ⟨fa, hfi⟩ := files_in (fs := fsOf ns) hfl1 hfv (fun k hk => by unfold fsOf; rw [if_pos hk])
    exact hret _ _ _ _ (by assumption) (by assumption) ⟨fun p hp => hb0 p (hnews p hp).1 (hnews p hp).2, fl, fa, rfl, hfi⟩
end Mine
end
section
open PySem PySem.W PyProof.Rows PySem.Spec PySem.Calls
set_option Elab.async false
set_option maxRecDepth 100000
set_option maxHeartbeats 4000000
set_option linter.unusedVariables false
namespace Mine
local macro_rules | `(tactic| walk_at "none X4 0") => `(tactic| skip)
local macro_rules | `(tactic| walk_at "none X4 1") => `(tactic| skip)
local macro_rules | `(tactic| walk_at "none X4 2") => `(tactic| skip)
local macro_rules | `(tactic| walk_at "none X4 3") => `(tactic| skip)
local macro_rules | `(tactic| walk_at "none X4 4") => `(tactic| skip)
local macro_rules | `(tactic| walk_at "none X4 5") => `(tactic| skip)
theorem calm_X4 : True := by
  w_top off
  k_with_none
  trivial
local macro_rules | `(tactic| walk_at "CompEnd") => `(tactic| ((refine LCg.CompEnd.intro (by assumption) (by assumption) _ (fun p hp => hp) ?cOff (by lcg_src) ?_); (case cOff => first | with_reducible assumption | ((with_reducible rename _ ∧ LCg.Off3 _ _ _ _ => offZ); exact offZ))))
noncomputable def rowOf (fs : Nat → File) (k : Nat) : Str := (fs k).nm ++ Str.ofString " " ++ shownOf (fs k).nu
noncomputable def dotted (x : Str) : Str := if (Txt.item x 0 == Str.ofString ".") = true then Str.ofString "." ++ x else x
noncomputable def plainOf (fs : Nat → File) (row : List Nat) : Str := Txt.join (Str.ofString "\r\n") (row.map fun k => dotted (rowOf fs k)) ++ (if row.length % 2 = 0 then Str.ofString "\r\n" else Str.ofString "")
theorem strs_item : ∀ {vs : List Value} {ys : List Str}, StrsAre vs ys → ∀ {i : Nat} {v : Value}, vs[i]? = some v → ∃ y t, ys[i]? = some y ∧ v = .str y t
  | _, _, .nil, _, _, h => by simp at h
  | _, _, .cons y t r, 0, _, h => ⟨y, t, rfl, by simp at h; exact h.symm⟩
  | _, _, .cons y t r, i + 1, _, h => by simp at h; simpa using strs_item r h
theorem rowOf_len {fs : Nat → File} (hok : FilesOk fs) (hs : ∀ k, (shownOf (fs k).nu).length ≤ 20) (k : Nat) : 1 ≤ (rowOf fs k).length ∧ (rowOf fs k).length ≤ 24 := by
  have h1 := hok.nm k
  have h2 := hs k
  have h4 : (Str.ofString " ").length = 1 := by decide +kernel
  unfold rowOf
  rw [str_app, str_app]
  omega
theorem join_len (x : Str) {xs : List Str} {B : Nat} (h : ∀ y ∈ xs, y.length ≤ B) : (Txt.join x xs).length ≤ xs.length * B + xs.length * x.length := by
  show (Builtin.Str.glued x xs).length ≤ _
  rw [StrLaws.glued_eq_join]
  have h1 := StrLaws.join_length_le x xs
  have h2 := StrLaws.sumLen_le _ h
  omega
theorem FilesIn.inN {h₀ h : Heap} {L l : Addr} {news nx : Led} {fs : Nat → File} {fa : Nat → Addr} (_N : News h₀ L h nx) (hF : FilesIn news l fs fa) (hs : ∀ p ∈ news, p ∈ nx) : FilesIn nx l fs fa := hF.mono hs
theorem c_plain (w : World) (lf ra : Addr) (fs : Nat → File) (fa : Nat → Addr) (us : List Value) (un : Nat) (row : List Nat) (hok : FilesOk fs) (hsh : ∀ k, (shownOf (fs k).nu).length ≤ 20) (hu : IV us row) (hne : row ≠ []) (hrl : row.length ≤ 6) (h6 : ∀ k ∈ row, k < 6) :
    Ctr0 40 274 w [.ref lf, .ref ra] (fun news => FilesIn news lf fs fa ∧ (ra, lstO us un) ∈ news) (fun news v news' => news' = news ∧ ∃ t', v = .str (plainOf fs row) t') := by
  unfold Ctr0
  k_fill
  intro p loose mean mg mb dp un' gd cn cs a ccd cl outer A₀ base h₀ L m news s Q E B F KX N T hk hpre hd9 hu9 hret
  obtain ⟨hF, hra⟩ := hpre
  k_with_none
  k_with "CompSrc" => refine held ?_
  refine wpAny_call ?_
  k_dflt (refine' code_defC ?k1 ?k2 ?k3 ?k4 ?k5 ?kA ?kF ?kK ?k6 ?k7 ?k8 ?k9 ?kB ?kD ?_ ?c2 ?c3 ?c4; (case kA => exact rfl); (case kF => exact rfl); (case kK => assumption); (case k1 => k_asm); (case k2 => k_asm); (case k3 => k_asm); (case k4 => k_asm); (case k5 => k_asm); (case k6 => k_is); (case k7 => k_is); (case k8 => ktr_room); (case k9 => exact BindsTo.of_eq rfl); (case kB => exact rfl); (case kD => decide +kernel); (case c2 => exact rfl); (case c3 => exact rfl); (case c4 => exact rfl); k_whole; intro g' L' h' tk' cells' FG' F' N' Y' B' X' T' l1; (try k_lt l1); k_cells Y'; (try simp only [List.cons_append, List.nil_append] at N'); (try dsimp only); (try k_lift B'); (try k_fold))
  k_steps
  with_reducible rename News _ _ _ (_ :: news) => N1
  refine LCg.CompSrc.ledger (by rfl) (by assumption) N1 (.tail _ hra) (by rw [List.size_toArray, hu.length, sizeLine_eq]; omega) ?_
  intro gq
  refine comp_inv (n := us.toArray.size) (fun i ys nx => nx = _ :: news ∧ StrsAre ys ((row.take i).map (rowOf fs))) ?_ ?_ us.toArray.size 0 [] _ (by omega) ⟨rfl, .nil⟩
  · rintro i ys nx hi ⟨rfl, hys⟩ v I oI C oC D m₂ h2 tk2 E' hP hC hx F2 N2 off ne
    rw [List.getElem?_toArray] at hP
    refine ob_eea (hu.item hP) ?_
    intro k tk hk er1
    subst er1
    have hk6 : k < 6 := h6 k (List.mem_of_getElem? hk)
    have hf2 := FilesIn.inN N2 hF (fun p hp => .tail _ (.tail _ (.tail _ (.tail _ hp))))
    refine ob_eeeee (hf2.tup k hk6) ?_
    intro tt0 tt1 tt2 tt3 tn ht
    have l1 := hok.nm k
    have l4 : (Str.ofString " ").length = 1 := by decide +kernel
    k_with "subscriptTail Name Name ref int" => (with_unfolding_all refine' files_item ?a ?b ?c ?_; (case a => k_asm); (case b => assumption); (case c => assumption))
    k_with "binaryOp Add str str" => (refine KOpn.add (by omega) ?_; intro tA kA lA)
    k_with "call ref" => refine held ?_
    k_steps
    show wpAny _ _ _ _ _ _
    refine Ctr0.use (c_shown w (fs k).nu tt3 (hok.nu k)) (by assumption) (by assumption) (by assumption) (by assumption) (by assumption) rfl trivial (by k_room) (by k_units) ?_
    intro v nx4 h4 tk4 F4 N4 hZ
    refine ob_aea hZ ?_
    clear hZ
    intro er2 t4 er3 l5
    subst er2
    subst er3
    k_steps
    rw [List.take_add_one, hk, List.map_append]
    exact strs_snoc hys
  · rintro ys nx ⟨rfl, hys⟩
    rw [List.take_of_length_le (by rw [List.size_toArray, hu.length]; exact Nat.le_refl _)] at hys
    k_steps
    with_reducible rename News _ _ _ (_ :: _ :: news) => N3
    have hyl := hys.length
    rw [List.length_map] at hyl
    refine LCg.CompSrc.ledger (by rfl) (by assumption) N3 (.head _) (by rw [List.size_toArray, hyl, sizeLine_eq]; omega) ?_
    intro gq
    refine comp_inv (n := ys.toArray.size) (fun i zs nx => nx = _ :: _ :: news ∧ StrsAre zs ((row.take i).map fun k => dotted (rowOf fs k))) ?_ ?_ ys.toArray.size 0 [] _ (by omega) ⟨rfl, .nil⟩
    · rintro i zs nx hi ⟨rfl, hzs⟩ v I oI C oC D m₂ h2 tk2 E' hP hC hx F2 N2 off ne
      rw [List.getElem?_toArray] at hP
      refine ob_eea (strs_item hys hP) ?_
      intro y ty hy er4
      subst er4
      rw [List.getElem?_map] at hy
      refine ob_ea (Option.map_eq_some_iff.mp hy) ?_
      intro k hk hyk
      have ln0 := rowOf_len hok hsh k
      rw [hyk] at ln0
      obtain ⟨ln1, ln2⟩ := ln0
      clear hy hP
      have ln3 : (Str.ofString ".").length = 1 := by decide +kernel
      k_with "subscriptTail" => refine KXi.item rfl (by omega) (by omega) (by omega) ?_
      k_with "binaryOp Add str str" => (refine KOpn.add (by omega) ?_; intro tA kA lA)
      k_steps
      · rw [List.take_add_one, hk, List.map_append]
        show StrsAre _ (_ ++ [dotted (rowOf fs k)])
        rw [hyk, show dotted y = Str.ofString "." ++ y from if_pos (by assumption)]
        exact strs_snoc hzs
      · rw [List.take_add_one, hk, List.map_append]
        show StrsAre _ (_ ++ [dotted (rowOf fs k)])
        rw [hyk, show dotted y = y from if_neg (by rw [(by assumption : (Txt.item y 0 == Str.ofString ".") = false)]; decide)]
        exact strs_snoc hzs
    · rintro zs nx ⟨rfl, hzs⟩
      rw [List.take_of_length_le (by rw [List.size_toArray, hyl]; exact Nat.le_refl _)] at hzs
      have hB : ∀ y ∈ row.map (fun k => dotted (rowOf fs k)), y.length ≤ 25 := fun y hy => by
        refine ob_ea (List.mem_map.mp hy) ?_
        intro k hk er5
        subst er5
        have h1 := rowOf_len hok hsh k
        have h2 : (Str.ofString ".").length = 1 := by decide +kernel
        unfold dotted
        split
        · rw [str_app]; omega
        · omega
      have hjl := join_len (Str.ofString "\r\n") hB
      have hcr : (Str.ofString "\r\n").length = 2 := by decide +kernel
      have hem : (Str.ofString "").length = 0 := by decide +kernel
      rw [List.length_map, hcr] at hjl
      have hfm : ((row.length : Nat) : Int).fmod 2 = ((row.length % 2 : Nat) : Int) := by
        rw [Int.fmod_eq_emod_of_nonneg _ (by decide)]; rfl
      k_with_none
      k_with "call builtin:str.join" => (refine join_strs 25 (News.lst (by assumption) (.head _)) hzs hB (by rw [List.length_map, hcr]; omega) (fun t9 tk9 => ?_); refine held ?_)
      k_with "binaryOp Add str str" => (refine KOpn.add (by omega) ?_; intro tA kA lA)
      k_with "call builtin:len cons nil" => refine len_lst (by assumption) (by k_mem) hu.length (by omega) ?_
      k_steps
      show wpAny _ _ _ _ _ _
      generalize hjn : Txt.join (Str.ofString "\r\n") (row.map fun k => dotted (rowOf fs k)) = jn at *
      k_steps
      all_goals with_reducible rename News h₀ L _ (_ :: _ :: _ :: news) => N9
      · exact hret _ _ _ _ (by assumption) (fun p hp => N9 p (.tail _ (.tail _ (.tail _ hp)))) ⟨rfl, _, by rw [plainOf, hjn, if_pos (by omega)]⟩
      · exact hret _ _ _ _ (by assumption) (fun p hp => N9 p (.tail _ (.tail _ (.tail _ hp)))) ⟨rfl, _, by rw [plainOf, hjn, if_neg (by omega)]⟩
end Mine
end
end
section
open PySem PySem.W PyProof.Rows PySem.Spec PySem.Calls
set_option Elab.async false
set_option maxRecDepth 100000
set_option maxHeartbeats 4000000
set_option linter.unusedVariables false
namespace Mine
theorem CtrH.use {b : Nat} {f : Addr} {w : World} {vs : List Value} {pre : Heap → Led → Prop} {post : Led → Value → Led → Prop} (c : CtrH b f w vs pre post)
    {p : Program} {loose : List Str} {mean : ExcName → Option Value} {mg mb : Str → Option Value} {dp un : Nat} {gd : Option (List Code)} {cn : Str} {cs : Scope} {a : Addr} {ccd : Value} {cl : List (Str × Addr)} {outer : List Env} {A₀ : Around} {base h₀ : Heap} {L : Addr} {m : Str → Option Value} {news : Led} {s : Shared} {Q E : Value → Shared → Prop}
    (B : Below A₀ base outer h₀) (F : Fr h₀ L s.heap m) (K : (h0.heap_1 w.params).In h₀) (N : News h₀ L s.heap news) (T : Top p loose mean mg mb h₀) (hk : cs.kind = .function) (hp : pre h₀ news)
    (hd : dp + b < recursionLimit) (hu : un + b < cLine)
    (k : ∀ v news' h' tk', Fr h₀ L h' m → News h₀ L h' news' → post news v news' → Q v { s with heap := h', toks := tk' }) :
      wpAny (model PySem.Challenge.rw_oy0305_01.row.prog w) (ktrTop dp un gd cn cs L a ccd cl outer) (call (.ref f) vs) Q E s :=
  c _ _ _ _ _ _ _ _ _ _ _ _ _ _ _ _ _ _ _ _ _ _ _ B F K N T hk hp hd hu k
theorem fileOf_ok (k : Nat) (x : Int) : (∀ j, (fileOf k x).ah = some j → j < 6) ∧ (fileOf k x).nm.length ≤ 3 ∧ (fileOf k x).en.length ≤ 2 ∧ (fileOf k x).nu < 65536 := by
  refine ⟨fun j h => ?_, ?_, ?_, ?_⟩
  · unfold fileOf at h
    dsimp only at h
    split at h
    · rename_i hc
      injection h with h
      have h0 : 0 ≤ x.fmod 7 := Int.fmod_nonneg_of_pos _ (by decide)
      omega
    · cases h
  · show (nmTab _).length ≤ 3
    generalize ((x.fdiv 14).fmod 6).toNat = i
    unfold nmTab
    split <;> decide +kernel
  · show (enTab _).length ≤ 2
    generalize ((x.fdiv 84).fmod 3).toNat = i
    unfold enTab
    split <;> decide +kernel
  · show (((x.fdiv 252).fmod 16) * 4096 + (x + 455 * (k : Int)).fmod 4096).toNat < 65536
    have h1 : 0 ≤ (x.fdiv 252).fmod 16 := Int.fmod_nonneg_of_pos _ (by decide)
    have h2 : (x.fdiv 252).fmod 16 < 16 := Int.fmod_lt_of_pos _ (by decide)
    have h3 : 0 ≤ (x + 455 * (k : Int)).fmod 4096 := Int.fmod_nonneg_of_pos _ (by decide)
    have h4 : (x + 455 * (k : Int)).fmod 4096 < 4096 := Int.fmod_lt_of_pos _ (by decide)
    omega
theorem fsOf_ok (ns : List Int) : FilesOk (fsOf ns) := by
  have key : ∀ k, (∀ j, (fsOf ns k).ah = some j → j < 6) ∧ (fsOf ns k).nm.length ≤ 3 ∧ (fsOf ns k).en.length ≤ 2 ∧ (fsOf ns k).nu < 65536 := fun k => by
    unfold fsOf
    split
    · exact fileOf_ok k _
    · exact ⟨(fun j h => nomatch h), by decide +kernel, by decide +kernel, by decide⟩
  exact ⟨fun i j h => (key i).1 j h, fun i => (key i).2.1, fun i => (key i).2.2.1, fun i => (key i).2.2.2⟩
theorem FilesIn.off {h₀ h : Heap} {L l c : Addr} {o : Obj} {v : Option Value} {nx : Led} {fs : Nat → File} {fa : Nat → Addr} (hF : FilesIn nx l fs fa) (N : News h₀ L h nx) (hc : (c, o) ∈ nx) (hd : o.data = .cell v) : FilesIn (off c nx) l fs fa := by
  refine ⟨?_, fun k hk => ?_⟩
  · obtain ⟨n, hm⟩ := hF.lst
    refine ⟨n, mem_off hm fun e => ?_⟩
    have h1 := congrArg Obj.data (News.same N hm (e ▸ hc))
    rw [hd] at h1
    cases h1
  · obtain ⟨a, b, c', d, n, hm⟩ := hF.tup k hk
    refine ⟨a, b, c', d, n, mem_off hm fun e => ?_⟩
    have h1 := congrArg Obj.data (News.same N hm (e ▸ hc))
    rw [hd] at h1
    cases h1
theorem cell_ne {h₀ h : Heap} {L c : Addr} {o : Obj} {v : Option Value} {nx : Led} (N : News h₀ L h nx) (hc : (c, o) ∈ nx) (hd : o.data = .cell v) {a : Addr} {o' : Obj} (hm : (a, o') ∈ nx) (hd' : ∀ v, o'.data ≠ .cell v) : a ≠ c := fun e => by
  have h1 := congrArg Obj.data (News.same N hm (e ▸ hc))
  rw [hd] at h1
  exact hd' _ h1
theorem st_cell {M : Model} {A : Around} {E : Value → Shared → Prop} {s : Shared} {h₀ : Heap} {L c a : Addr} {m : Str → Option Value} {nx : Led} {o : Obj} {cn : Str} {cs : Scope} {ccd : Value} {cl : List (Str × Addr)} {x : Str} {v : Value} {v₀ : Option Value} {Q : Unit → Shared → Prop}
    (F : Fr h₀ L s.heap m) (N : News h₀ L s.heap nx) (hc : cl.lookup x = some c) (hm : (c, o) ∈ nx) (hd : o.data = .cell v₀)
    (h : ∀ h' nx' o', Fr h₀ L h' m → News h₀ L h' nx' → (c, o') ∈ nx' → o'.data = .cell (some v) → (∀ p ∈ nx, p.1 ≠ c → p ∈ nx') → Held (Q () { s with heap := h' }))
    (hk : cs.kind = .function := by rfl) (hx : (envX cn cs L a ccd cl).kindOf x = some .cell := by rfl) : wpAny M A (storeName (envX cn cs L a ccd cl) x v) Q E s :=
  storeX_C F (News.focus N hm) hc (UpdF.head off_ne) hd (fun h' o' F' N' d => h h' _ o' F' N' (.head _) d fun p hp hne => .tail _ (mem_off hp hne)) hk hx
end Mine
end
section
open PySem PySem.W PyProof.Rows PySem.Spec PySem.Calls
set_option Elab.async false
set_option maxRecDepth 100000
set_option maxHeartbeats 4000000
set_option linter.unusedVariables false
namespace Mine
open LCg
section
variable {prog : Program} {w : World} {A : Around} {E : Value → Shared → Prop} {s : Shared} {h₀ : Heap} {L : Addr} {m : Str → Option Value} {env : Env}
theorem loop_any {target elt iter : Expr} {scope : Scope} {pos : Pos} {it acc : Value} {ce : Env} {R : Result → Shared → Prop} (I : Nat → Shared → Prop)
    (turn : ∀ n s, I n s → wpAny (model prog w) A (pyNext it) (fun r s₁ => match r with
      | none => R (.ok .next) s₁
      | some v => wpAny (model prog w) A (letOwnedTupleGo target it v) (fun _ s₂ => wpAny (model prog w) A (assign target ce v) (fun _ s₃ =>
          wpAny (model prog w) A (eval elt ce) (fun y s₄ => wpAny (model prog w) A (call (.builtin "list.append") [acc, y]) (fun _ s₅ => ∃ m, m < n ∧ I m s₅) (notedBy (model prog w) A ce fun e s' => R (.error e) s') s₄)
            (notedBy (model prog w) A ce fun e s' => R (.error e) s') s₃) (notedBy (model prog w) A ce fun e s' => R (.error e) s') s₂) (notedBy (model prog w) A ce fun e s' => R (.error e) s') s₁)
      (notedBy (model prog w) A ce fun e s' => R (.error e) s') s)
    (n : Nat) (h : I n s) : codeAny (model prog w) A (.compLoop (.ListComp elt [⟨target, iter, [], 0⟩] scope pos) 0 it acc ce) R s := by
  refine codeAny_loop rfl I (fun n s hI => ?_) n h
  show wpAny _ A ((compTurn (.ListComp elt [⟨target, iter, [], 0⟩] scope pos) 0 it acc ce).onRaise (fun x => do noteFrame x ce; theTreesLotGoes x)) _ _ s
  refine wpAny_noted ?_
  rw [compTurn_list]
  refine wpAny_bind (wpAny_standAt (wpAny_bind (wpAny_mono (turn n s hI) (fun r s₁ h₁ => ?_) fun _ _ x => x)))
  cases r with
  | none => exact wpAny_pure h₁
  | some v =>
    refine wpAny_bind (wpAny_mono h₁ (fun _ s₂ h₂ => wpAny_bind (wpAny_mono h₂ (fun _ s₃ h₃ => ?_) fun _ _ x => x)) fun _ _ x => x)
    refine wpAny_bind (wpAny_tests_nil ?_)
    exact wpAny_bind (wpAny_bind (wpAny_mono h₃ (fun y s₄ h₄ => wpAny_bind (wpAny_mono h₄ (fun _ s₅ h₅ => wpAny_pure (wpAny_pure ⟨rfl, h₅⟩)) fun _ _ x => x)) fun _ _ x => x))
theorem loop_G {target elt iter : Expr} {scope : Scope} {pos : Pos} {ce : Env} {s₁ : Shared} {I D : Addr} {fp : List Addr} {n : Nat} {P : Nat → Value → Prop} {St : Nat → Heap → Prop} {S : Led → Prop} {R : Result → Shared → Prop} {news₀ : Led} {m₁ : Str → Option Value}
    (J : Nat → List Value → Led → Prop) (W : Walks prog w A I fp [I] n P St) (hsz : n ≤ sizeLine) (hIo : ∀ i h, St i h → ∃ o, h.get? I = some o)
    (hSt : ∀ i h h' o nw, St i h → h.get? I = some o → h'.get? I = some o → (∀ b o, h₀.get? b = some o → h'.get? b = some o) → News h₀ L h' nw → S nw → St i h')
    (hCf : ce.locals ∉ fp) (hDf : D ∉ fp) (nIC : I ≠ ce.locals) (nID : I ≠ D) (nCD : ce.locals ≠ D) (nLI : L ≠ I) (nCL : ce.locals ≠ L) (nDL : D ≠ L)
    (eI : h₀.get? I = none) (eC : h₀.get? ce.locals = none) (eD : h₀.get? D = none)
    (F : Fr h₀ L s₁.heap m) (N : News h₀ L s₁.heap ((D, lst []) :: news₀)) (off : Off3 I ce.locals D news₀) (hn : s₁.heap.Ns ce.locals m₁) (st : St 0 s₁.heap) (j : J 0 [] news₀)
    (turn : ∀ i ys news v m' oI oC h tk (E' : Value → Shared → Prop), i < n → J i ys news → P i v → NsObj oC m' → Fr h₀ L h m → News h₀ L h ((I, oI) :: (ce.locals, oC) :: (D, lst ys) :: news) → Off3 I ce.locals D news → (∃ i', St i' h) →
      wpAny (model prog w) A (letOwnedTupleGo target (.ref I) v) (fun _ s₂ => wpAny (model prog w) A (assign target ce v) (fun _ s₃ => wpAny (model prog w) A (eval elt ce) (fun y s₄ =>
        ∃ oC' m'', NsObj oC' m'' ∧ CompEnd h₀ L m { s₁ with heap := h, toks := tk } I oI ce.locals oC' D (lst ys) S (fun y news' => J (i + 1) (ys ++ [y]) news') y s₄) E' s₃) E' s₂) E' { s₁ with heap := h, toks := tk })
    (fin : ∀ h tk m' ys news', Fr h₀ L h m → News h₀ L h ((D, lst ys) :: news') → Off1 D news' → h.Ns ce.locals m' → (∀ p ∈ news', p.1 ≠ ce.locals) → J n ys news' → R (.ok .next) { s₁ with heap := h, toks := tk }) :
    codeAny (model prog w) A (.compLoop (.ListComp elt [⟨target, iter, [], 0⟩] scope pos) 0 (.ref I) (.ref D) ce) R s₁ := by
  refine loop_any (fun k s' => ∃ h' tk i ys m' news', s' = { s₁ with heap := h', toks := tk } ∧ i ≤ n ∧ k = n - i ∧ ys.length = i ∧ St i h' ∧ Fr h₀ L h' m ∧ h'.Ns ce.locals m' ∧ News h₀ L h' ((D, lst ys) :: news') ∧ Off3 I ce.locals D news' ∧ J i ys news') ?_ n
    ⟨s₁.heap, s₁.toks, 0, [], m₁, news₀, rfl, Nat.zero_le _, rfl, rfl, st, F, hn, N, off, j⟩
  intro k s' hZ
  refine ob_eeeeee hZ ?_
  clear hZ
  intro h' tk i ys m' news' hq0
  refine ob_aaaaaaaaa hq0 ?_
  clear hq0
  intro er1 hi er2 hyl hst F' hn' N' off' j'
  subst er1
  subst er2
  have off3 := off'.mem
  by_cases hlt : i < n
  · refine W.item i _ _ _ hlt hst fun v h₂ tk₂ hPv hst₂ hk₂ => ?_
    obtain ⟨oI, heI⟩ := hIo _ _ hst₂
    refine ob_ea (ns_obj (hn'.at' fun o e => hk₂ _ o (by simpa using Ne.symm nIC) e)) ?_
    intro oC heC hoC
    have N₂ : News h₀ L h₂ ((D, lst ys) :: news') := news_but N' hk₂ fun p hp => by
      rcases List.mem_cons.mp hp with rfl | hp
      · exact Ne.symm nID
      · exact (off3 p hp).1
    have N₃ : News h₀ L h₂ ((I, oI) :: (ce.locals, oC) :: (D, lst ys) :: news') := fun p hp => by
      rcases List.mem_cons.mp hp with rfl | hp
      · exact ⟨heI, Ne.symm nLI, eI⟩
      rcases List.mem_cons.mp hp with rfl | hp
      · exact ⟨heC, nCL, eC⟩
      exact N₂ p hp
    refine wpAny_mono (turn i ys news' v m' oI oC h₂ tk₂ _ hlt j' hPv hoC (fr_but F' hk₂ nLI eI) N₃ off' ⟨_, hst₂⟩) (fun _ s₂ h₂ => wpAny_mono h₂ (fun _ s₃ h₃ => wpAny_mono h₃ (fun y s₄ h₄ => ?_) fun _ _ x => x) fun _ _ x => x) fun _ _ x => x
    refine ob_ee (h₄) ?_
    clear h₄
    intro oC' m'' hq0
    refine ob_a hq0 ?_
    clear hq0
    intro hoC' hq1
    refine ob_eee hq1 ?_
    clear hq1
    intro h₄ tk₄ news₄ hq2
    refine ob_aaaaa hq2 ?_
    clear hq2
    intro er3 F₄ N₄ off₄ hS₄ J₄
    subst er3
    have zI := (N₄ (I, oI) (.head _)).1
    have zC := (N₄ (ce.locals, oC') (.tail _ (.head _))).1
    have zD := (N₄ (D, lst ys) (.tail _ (.tail _ (.head _)))).1
    have N₄' : News h₀ L h₄ news₄ := fun p hp => N₄ p (.tail _ (.tail _ (.tail _ hp)))
    have hst₄ : St (i + 1) h₄ := hSt _ _ _ _ _ hst₂ heI zI F₄.keep N₄' hS₄
    have off4 := off₄.mem
    refine append_at (hsz := by show ys.toArray.size ≤ sizeLine; rw [List.size_toArray, hyl]; exact Nat.le_trans hi hsz) zD fun h₅ hs₅ hD₅ => ?_
    refine ⟨n - (i + 1), by omega, h₅, tk₄, i + 1, ys ++ [y], m'', news₄, rfl, hlt, rfl, by rw [List.length_append, List.length_singleton, hyl], W.frame _ _ _ hst₄ fun b hb o e => hs₅.extBut b o (fun q => hDf (q ▸ hb)) e, F₄.change hs₅ nDL eD, (hoC'.ns zC).sameBut hs₅ nCD, fun p hp => ?_, off₄, J₄⟩
    rcases List.mem_cons.mp hp with rfl | hp
    · exact ⟨hD₅.trans (congrArg some (lst_snoc ys y)), nDL, eD⟩
    · exact ⟨hs₅.extBut _ _ (off4 p hp).2.2 (N₄' p hp).1, (N₄' p hp).2⟩
  · obtain rfl : i = n := Nat.le_antisymm hi (Nat.not_lt.mp hlt)
    refine W.done _ _ _ hst fun h₂ tk₂ hk₂ => fin h₂ tk₂ m' ys news' (fr_but F' hk₂ nLI eI) (news_but N' hk₂ fun p hp => ?_) off'.one (hn'.at' fun o e => hk₂ _ o (by simpa using Ne.symm nIC) e) (fun p hp => (off3 p hp).2.1) j'
    rcases List.mem_cons.mp hp with rfl | hp
    · exact Ne.symm nID
    · exact (off3 p hp).1

theorem new_env {M : Model} {scope : Scope} {globals : Addr} {cl : List (Str × Addr)} {qual : Str} {func : Option Addr} {code : Value} {builtins : Addr} {Q : Env → Shared → Prop}
    (hQ : Q (newEnv scope s.heap.objs.size globals (cellsFrom (s.heap.objs.size + 1) scope.names cl) qual func code (some env) builtins) { s with heap := pushCells (s.heap.push { cls := .type "dict", data := .dict #[] }) scope.names }) :
    wpAny M A (newFunctionEnv scope globals cl [] qual func code (some env) builtins) Q E s := by
  simp only [newFunctionEnv, Option.isSome_some, if_true]
  refine wpAny_bind (wpAny_alloc ?_)
  refine wpAny_bind (wpAny_layCells _ (fun name kind cells => by cases kind == NameKind.cell <;> simp) _ _ _ _ ?_)
  rw [show ({ s with heap := s.heap.push { cls := .type "dict", data := .dict #[] } } : Shared).heap.objs.size = s.heap.objs.size + 1 from Heap.size_push ..]
  exact wpAny_bind (wpAny_pure (wpAny_pure hQ))
theorem start_G {target elt iter : Expr} {scope : Scope} {cl : List (Str × Addr)} {pos : Pos} {s₂ : Shared} {I : Addr} {fp : List Addr} {n : Nat} {P : Nat → Value → Prop} {St : Nat → Heap → Prop} {S : Led → Prop} {RR : Value → Addr → Result → Shared → Prop} {news : Led}
    (J : Nat → Nat → List Value → Led → Prop) (own : Nat → Led) (W : Walks prog w A I fp [I] n P St) (hsz : n ≤ sizeLine) (hIo : ∀ i h, St i h → ∃ o, h.get? I = some o)
    (hSt : ∀ i h h' o nw, St i h → h.get? I = some o → h'.get? I = some o → (∀ b o, h₀.get? b = some o → h'.get? b = some o) → News h₀ L h' nw → S nw → St i h')
    (hst : St 0 s₂.heap) (hfp : ∀ b ∈ fp, b < s₂.heap.objs.size) (F : Fr h₀ L s₂.heap m) (N : News h₀ L s₂.heap news) (offI : ∀ p ∈ news, p.1 ≠ I) (nLI : L ≠ I) (eI : h₀.get? I = none)
    (hown : ∀ h : Heap, ∀ p ∈ own h.objs.size, (pushCells h scope.names).get? p.1 = some p.2 ∧ h.objs.size ≤ p.1)
    (j : ∀ C, (∀ p ∈ news, p.1 < C) → J C 0 [] (own (C + 1) ++ news))
    (turn : ∀ C i ys news v m' oI oC D h tk (E' : Value → Shared → Prop), i < n → J C i ys news → P i v → NsObj oC m' → Fr h₀ L h m → News h₀ L h ((I, oI) :: (C, oC) :: (D, lst ys) :: news) → Off3 I C D news → (@Ne Nat I C ∧ @Ne Nat I D ∧ @Ne Nat C D) → (∃ i', St i' h) →
      wpAny (model prog w) A (letOwnedTupleGo target (.ref I) v) (fun _ u₂ => wpAny (model prog w) A (assign target (compEnvC scope (cellsFrom (C + 1) scope.names cl) C env) v) (fun _ s₃ => wpAny (model prog w) A (eval elt (compEnvC scope (cellsFrom (C + 1) scope.names cl) C env)) (fun y s₄ =>
        ∃ oC' m'', NsObj oC' m'' ∧ CompEnd h₀ L m { s₂ with heap := h, toks := tk } I oI C oC' D (lst ys) S (fun y news' => J C (i + 1) (ys ++ [y]) news') y s₄) E' s₃) E' u₂) E' { s₂ with heap := h, toks := tk })
    (fin : ∀ D C h tk m' ys news', Fr h₀ L h m → News h₀ L h ((D, lst ys) :: news') → Off1 D news' → h.Ns C m' → h₀.get? C = none → C ≠ L → C ≠ D → (∀ p ∈ news', p.1 ≠ C) → J C n ys news' → RR (.ref D) C (.ok .next) { s₂ with heap := h, toks := tk }) :
    wpAny (model prog w) A (newList []) (fun acc s₃ => wpAny (model prog w) A (newFunctionEnv scope env.globals cl [] env.qual none .none (some env)) (fun cenv s₄ =>
      codeAny (model prog w) A (.compStart (.ListComp elt [⟨target, iter, [], 0⟩] scope pos) 0 (.ref I) acc { cenv with scope := relabel scope env }) (RR acc cenv.locals) s₄) E s₃) E s₂ := by
  refine wpAny_newObj_type (new_env ?_)
  generalize hH2 : s₂.heap.push { cls := .type "list", dict := none, data := .seq ([] : List Value).toArray } = H2
  have hC : H2.objs.size = s₂.heap.objs.size + 1 := by rw [← hH2, Heap.size_push]
  show codeAny _ _ (.compStart _ 0 (.ref I) (.ref s₂.heap.objs.size) (compEnvC scope (cellsFrom (H2.objs.size + 1) scope.names cl) H2.objs.size env)) (RR (.ref s₂.heap.objs.size) H2.objs.size) { s₂ with heap := pushCells (H2.push { cls := .type "dict", data := .dict #[] }) scope.names }
  have hsz3 : (H2.push { cls := .type "dict", data := .dict #[] }).objs.size = H2.objs.size + 1 := Heap.size_push ..
  have old2 : ∀ b o, H2.get? b = some o → (pushCells (H2.push { cls := .type "dict", data := .dict #[] }) scope.names).get? b = some o := fun b o e => pushCells_keeps _ _ _ _ (Heap.get?_push_of_some _ e)
  have hns : (pushCells (H2.push { cls := .type "dict", data := .dict #[] }) scope.names).Ns H2.objs.size fun _ => none := (Heap.Ns.new H2 (.type "dict")).keeps (pushCells_keeps _ _)
  have how := hown (H2.push { cls := .type "dict", data := .dict #[] })
  rw [hsz3] at how
  generalize hH3 : pushCells (H2.push { cls := .type "dict", data := .dict #[] }) scope.names = H3 at *
  have old : ∀ b o, s₂.heap.get? b = some o → H3.get? b = some o := fun b o e => old2 b o (hH2 ▸ Heap.get?_push_of_some _ e)
  have hacc : H3.get? s₂.heap.objs.size = some (lst []) := old2 _ _ (hH2 ▸ Heap.get?_push_size _ rfl)
  have fresh : ∀ a, s₂.heap.objs.size ≤ a → s₂.heap.get? a = none := fun a ha => by
    cases e : s₂.heap.get? a with
    | none => rfl
    | some o' => exact absurd (Heap.lt_size e) (Nat.not_lt.mpr ha)
  have fresh₀ : ∀ a, s₂.heap.objs.size ≤ a → h₀.get? a = none := fun a ha => by
    cases e : h₀.get? a with
    | none => rfl
    | some o' => have := F.keep a o' e; rw [fresh a ha] at this; cases this
  have hIlt : I < s₂.heap.objs.size := hfp I (W.sub I (List.mem_singleton.mpr rfl))
  have hLlt : L < s₂.heap.objs.size := F.ns.lt
  have hlt : ∀ p ∈ news, p.1 < s₂.heap.objs.size := fun p hp => Heap.lt_size (N p hp).1
  have g : ∀ {a b : Nat}, a < b → a ≠ b := fun h e => Nat.lt_irrefl _ (e ▸ h)
  have lC : s₂.heap.objs.size < H2.objs.size := by omega
  have eC : h₀.get? H2.objs.size = none := fresh₀ _ (Nat.le_of_lt lC)
  have eD : h₀.get? s₂.heap.objs.size = none := fresh₀ _ (Nat.le_refl _)
  have nCL : H2.objs.size ≠ L := Ne.symm (g (Nat.lt_trans hLlt lC))
  have nDL : s₂.heap.objs.size ≠ L := Ne.symm (g hLlt)
  have nIC : I ≠ H2.objs.size := g (Nat.lt_trans hIlt lC)
  have nID : I ≠ s₂.heap.objs.size := g hIlt
  have nCD : H2.objs.size ≠ s₂.heap.objs.size := Ne.symm (g lC)
  have hN : News h₀ L H3 (own (H2.objs.size + 1) ++ news) := fun p hp => by
    rcases List.mem_append.mp hp with hp | hp
    · have := how p hp
      exact ⟨this.1, Ne.symm (g (Nat.lt_trans (Nat.lt_trans hLlt lC) this.2)), fresh₀ _ (Nat.le_of_lt (Nat.lt_trans lC this.2))⟩
    · exact ⟨old _ _ (N p hp).1, (N p hp).2⟩
  have off : Off3 I H2.objs.size s₂.heap.objs.size (own (H2.objs.size + 1) ++ news) := Off3.of fun p hp => by
    rcases List.mem_append.mp hp with hp | hp
    · have := (how p hp).2
      exact ⟨Ne.symm (g (Nat.lt_trans (Nat.lt_trans hIlt lC) this)), Ne.symm (g this), Ne.symm (g (Nat.lt_trans lC this))⟩
    · exact ⟨offI p hp, g (Nat.lt_trans (hlt p hp) lC), g (hlt p hp)⟩
  have hst₁ : St 0 H3 := W.frame _ _ _ hst fun b _ o e => old b o e
  have loop : codeAny (model prog w) A (.compLoop (.ListComp elt [⟨target, iter, [], 0⟩] scope pos) 0 (.ref I) (.ref s₂.heap.objs.size) (compEnvC scope (cellsFrom (H2.objs.size + 1) scope.names cl) H2.objs.size env))
      (RR (.ref s₂.heap.objs.size) H2.objs.size) { s₂ with heap := H3 } :=
    loop_G (s₁ := { s₂ with heap := H3 }) (ce := compEnvC scope (cellsFrom (H2.objs.size + 1) scope.names cl) H2.objs.size env) (J H2.objs.size) W hsz hIo hSt
      (fun hm => Nat.lt_irrefl _ (Nat.lt_trans (hfp _ hm) lC)) (fun hm => Nat.lt_irrefl _ (hfp _ hm)) nIC nID nCD nLI nCL nDL eI eC eD (F.keeps old)
      (fun p hp => by
        rcases List.mem_cons.mp hp with rfl | hp
        · exact ⟨hacc, nDL, eD⟩
        · exact hN p hp) off hns hst₁ (j _ fun p hp => Nat.lt_trans (hlt p hp) lC)
      (fun i ys news v m' oI oC h tk E' hi hj hP hC F N off st => turn _ i ys news v m' oI oC _ h tk E' hi hj hP hC F N off ⟨nIC, nID, nCD⟩ st)
      (fun h tk m' ys news' F' N' o1 hn' offC hj => fin _ _ h tk m' ys news' F' N' o1 hn' eC nCL nCD offC hj)
  exact codeAny_compStart_list loop (W.self 0 _ _ _ hst₁ loop)

theorem ran_src {r : Addr} {a b : Int} {t u v : Tok} {n : Nat} {news : Led} {Q : Value → Shared → Prop} (hr : IsRange s.heap r a b 1 t u v) (hsm : Builtin.Range.small a b 1 = true) (hn : Builtin.Range.rangeSize a b 1 = ((n : Nat) : Int)) (F : Fr h₀ L s.heap m) (N : News h₀ L s.heap news)
    (h : ∀ I h, h₀.get? I = none → L ≠ I → (∀ p ∈ news, p.1 ≠ I) → I < h.objs.size → IsRangeIter h I (a + (0 : Nat) * 1) ((n : Int) - (0 : Nat)) 1 → Fr h₀ L h m → News h₀ L h news → Q (.ref I) { s with heap := h }) : wpAny (model prog w) A (pyIter (.ref r)) Q E s := by
  refine wpAny_pyIter_range hr hsm (h _ _ (next_is_new F) (Nat.ne_of_lt F.ns.lt) (fun p hp => Nat.ne_of_lt (Heap.lt_size (N p hp).1)) ?_ ?_ (F.keeps fun _ _ e => Heap.get?_push_of_some _ e) (N.grown fun _ _ e => Heap.get?_push_of_some _ e))
  · rw [Heap.size_push]; exact Nat.lt_succ_self _
  · show IsRangeIter _ _ _ _ _
    rw [hn]
    simpa using Heap.get?_push_size _ rfl
noncomputable abbrev cellO (v : Option Value) : Obj := { cls := .type "cell", data := .cell v }
noncomputable def SrcC (prog : Program) (w : World) (A : Around) (h₀ : Heap) (L : Addr) (m : Str → Option Value) (env : Env) (elt : Expr) (x : Str) (scope : Scope) (cl : List (Str × Addr)) (n : Nat) (Q : Value → Shared → Prop) (xv : Value) (s₁ : Shared) : Prop :=
  ∃ r a b t u v news, xv = .ref r ∧ Fr h₀ L s₁.heap m ∧ News h₀ L s₁.heap news ∧ IsRange s₁.heap r a b 1 t u v ∧ Builtin.Range.small a b 1 = true ∧ Builtin.Range.rangeSize a b 1 = ((n : Nat) : Int) ∧
      ∃ J : Nat → List Value → Led → Prop, J 0 [] news ∧
        (∀ i ys nx, i < n → J i ys nx → ∀ I oI C oC D c oc (t : Tok) g tk (E' : Value → Shared → Prop), oc.data = .cell (some (.int (a + (i : Int)) t)) → Fr h₀ L g m → News h₀ L g ((I, oI) :: (C, oC) :: (D, lst ys) :: (c, oc) :: nx) → Off3 I C D ((c, oc) :: nx) → (@Ne Nat I C ∧ @Ne Nat I D ∧ @Ne Nat C D) → (∀ p ∈ nx, p.1 ≠ c) →
          wpAny (model prog w) A (eval elt (compEnvC scope ((x, c) :: cl) C env)) (fun y s' => ∃ g' tk' nx', s' = { s₁ with heap := g', toks := tk' } ∧ Fr h₀ L g' m ∧ News h₀ L g' ((I, oI) :: (C, oC) :: (D, lst ys) :: (c, oc) :: nx') ∧ Off3 I C D ((c, oc) :: nx') ∧ (∀ p ∈ nx', p.1 ≠ c) ∧ J (i + 1) (ys ++ [y]) nx') E' { s₁ with heap := g, toks := tk }) ∧
        (∀ D ys nx g tk, Fr h₀ L g m → News h₀ L g ((D, lst ys) :: nx) → Off1 D nx → J n ys nx → Q (.ref D) { s₁ with heap := g, toks := tk })
theorem SrcC.intro {elt : Expr} {x : Str} {scope : Scope} {cl : List (Str × Addr)} {n : Nat} {Q : Value → Shared → Prop} {s₁ : Shared} {r : Addr} {a b : Int} {t u v : Tok} {news : Led} (F : Fr h₀ L s₁.heap m) (N : News h₀ L s₁.heap news) (hr : IsRange s₁.heap r a b 1 t u v) (hs : Builtin.Range.small a b 1 = true) (hn : Builtin.Range.rangeSize a b 1 = ((n : Nat) : Int))
    (J : Nat → List Value → Led → Prop) (j : J 0 [] news)
    (turn : ∀ i ys nx, i < n → J i ys nx → ∀ I oI C oC D c oc (t : Tok) g tk (E' : Value → Shared → Prop), oc.data = .cell (some (.int (a + (i : Int)) t)) → Fr h₀ L g m → News h₀ L g ((I, oI) :: (C, oC) :: (D, lst ys) :: (c, oc) :: nx) → Off3 I C D ((c, oc) :: nx) → (@Ne Nat I C ∧ @Ne Nat I D ∧ @Ne Nat C D) → (∀ p ∈ nx, p.1 ≠ c) →
          wpAny (model prog w) A (eval elt (compEnvC scope ((x, c) :: cl) C env)) (fun y s' => ∃ g' tk' nx', s' = { s₁ with heap := g', toks := tk' } ∧ Fr h₀ L g' m ∧ News h₀ L g' ((I, oI) :: (C, oC) :: (D, lst ys) :: (c, oc) :: nx') ∧ Off3 I C D ((c, oc) :: nx') ∧ (∀ p ∈ nx', p.1 ≠ c) ∧ J (i + 1) (ys ++ [y]) nx') E' { s₁ with heap := g, toks := tk })
    (fin : ∀ D ys nx g tk, Fr h₀ L g m → News h₀ L g ((D, lst ys) :: nx) → Off1 D nx → J n ys nx → Q (.ref D) { s₁ with heap := g, toks := tk }) : SrcC prog w A h₀ L m env elt x scope cl n Q (.ref r) s₁ :=
  ⟨r, a, b, t, u, v, news, rfl, F, N, hr, hs, hn, J, j, turn, fin⟩
theorem ListComp_C {elt iter : Expr} {x : Str} {px : Pos} {scope : Scope} {cl : List (Str × Addr)} {pos : Pos} {Q : Value → Shared → Prop} {n : Nat} (F₀ : Fr h₀ L s.heap m) (hh : A.handled = none)
    (hclos : closureFor scope env = pure cl) (hkind : scope.kind = .function) (hnames : ∀ y ∈ scope.names, y.2 = .local → scope.names.lookup y.1 = some .local)
    (hcf : ∀ k, cellsFrom k scope.names cl = (x, k) :: cl) (hpc : ∀ h, pushCells h scope.names = h.push (cellO none)) (hx : ∀ C cs, (compEnvC scope cs C env).kindOf x = some .cell) (hsz : n ≤ sizeLine)
    (h : wpAny (model prog w) A (eval iter env) (SrcC prog w A h₀ L m env elt x scope cl n Q) E s)
    (hs : ∀ x, foldedSetIterable iter env x = pure x := by intro _; rfl) :
    wpAny (model prog w) A (eval (.ListComp elt [⟨.Name x px, iter, [], 0⟩] scope pos) env) Q E s := by
  rw [eval_ListComp]
  refine wpAny_comprehension_free (use := none) rfl hs hclos hkind hnames (wpAny_mono h (fun xv s₁ h₁ => ?_) fun _ _ e => e)
  refine ob_eeeeeee (h₁) ?_
  clear h₁
  intro r a b t u v news hq0
  refine ob_aaaaaa hq0 ?_
  clear hq0
  intro er4 F N hr hsm hn hq1
  refine ob_e hq1 ?_
  clear hq1
  intro J hq2
  refine ob_aa hq2 ?_
  clear hq2
  intro j turn fin
  subst er4
  refine ran_src hr hsm hn F N fun I h eI nLI offI hI hst F₂ N₂ => ?_
  refine start_G (S := fun _ => True) (St := fun i h => IsRangeIter h I (a + (i : Nat) * 1) ((n : Int) - (i : Nat)) 1) (P := fun i v => ∃ t, v = .int (a + (i : Int)) t) (fp := [I])
    (fun C i ys nx => ∃ oc v nx', oc.data = .cell v ∧ nx = (C + 1, oc) :: nx' ∧ (∀ p ∈ nx', p.1 ≠ C + 1) ∧ J i ys nx') (fun k => [(k, cellO none)]) (range_walks hh a n) hsz (fun i h st => ⟨_, st⟩) range_st hst
    (fun b hb => by rw [List.mem_singleton.mp hb]; exact hI) F₂ N₂ offI nLI eI ?_ ?_ ?_ ?_
  · intro h p hp
    rw [List.mem_singleton.mp hp, hpc]
    exact ⟨Heap.get?_push_size _ rfl, Nat.le_refl _⟩
  · intro C hC
    exact ⟨_, none, news, rfl, rfl, fun p hp e => by have := hC p hp; rw [e] at this; exact Nat.lt_irrefl C (Nat.lt_of_succ_lt this), j⟩
  · rintro C i ys _ _ m' oI oC D g tk E' hi ⟨oc, v, nx, hd, rfl, hoff, hj⟩ ⟨t, rfl⟩ hoC F₃ N₃ off ne st
    rw [hcf]
    refine wpAny_of_eq rfl (wpAny_assign_Name ?_)
    have z := N₃ (C + 1, oc) (.tail _ (.tail _ (.tail _ (.head _))))
    refine wpAny_storeName_cell (c := C + 1) (v₀ := v) (by exact hkind) (hx _ _) ?_ ?_ fun g' hv hsb => ?_
    · show List.lookup x ((x, C + 1) :: cl) = _
      simp
    · exact ⟨oc, z.1, hd⟩
    refine ob_ea (hv) ?_
    clear hv
    intro oc' e' hd'
    have o1 := off.mem (C + 1, oc) (.head _)
    have N₄ : News h₀ L g' ((I, oI) :: (C, oC) :: (D, lst ys) :: (C + 1, oc') :: nx) := fun p hp => by
      rcases List.mem_cons.mp hp with rfl | hp
      · exact ⟨hsb.extBut _ _ (Ne.symm o1.1) (N₃ (I, oI) (.head _)).1, (N₃ (I, oI) (.head _)).2⟩
      rcases List.mem_cons.mp hp with rfl | hp
      · exact ⟨hsb.extBut _ _ (Ne.symm o1.2.1) (N₃ (C, oC) (.tail _ (.head _))).1, (N₃ (C, oC) (.tail _ (.head _))).2⟩
      rcases List.mem_cons.mp hp with rfl | hp
      · exact ⟨hsb.extBut _ _ (Ne.symm o1.2.2) (N₃ (D, lst ys) (.tail _ (.tail _ (.head _)))).1, (N₃ (D, lst ys) (.tail _ (.tail _ (.head _)))).2⟩
      rcases List.mem_cons.mp hp with rfl | hp
      · exact ⟨e', z.2⟩
      · have y := N₃ p (.tail _ (.tail _ (.tail _ (.tail _ hp))))
        exact ⟨hsb.extBut _ _ (hoff p hp) y.1, y.2⟩
    refine wpAny_mono (turn i ys nx hi hj I oI C oC D (C + 1) oc' t g' _ E' hd' (F₃.change hsb z.2.1 z.2.2) N₄ (Off3.of fun p hp => ?_) ne hoff) (fun y s' hy => ?_) fun _ _ x => x
    · rcases List.mem_cons.mp hp with rfl | hp
      · exact o1
      · exact off.mem p (.tail _ hp)
    · refine ob_eee (hy) ?_
      clear hy
      intro g'' tk' nx' hq0
      refine ob_aaaaa hq0 ?_
      clear hq0
      intro er5 F' N' off' hoff' hj'
      subst er5
      exact ⟨oC, m', hoC, g'', tk', (C + 1, oc') :: nx', rfl, F', N', off', trivial, oc', _, nx', hd', rfl, hoff', hj'⟩
  · intro D C g tk m' ys _ F' N' o1 hn' eC nCL nCD offC hZ
    refine ob_eee hZ ?_
    clear hZ
    intro oc v nx hq0
    refine ob_aaa hq0 ?_
    clear hq0
    intro hd er6 hoff hj
    subst er6
    refine ⟨m', hn', fun g' hs' => fin D ys nx g' tk (F'.change hs' nCL eC) (fun p hp => ?_) o1.2 hj⟩
    have hp' : p ∈ (D, lst ys) :: (C + 1, oc) :: nx := by
      rcases List.mem_cons.mp hp with rfl | hp
      · exact .head _
      · exact .tail _ (.tail _ hp)
    refine ⟨hs'.extBut _ _ ?_ (N' p hp').1, (N' p hp').2⟩
    rcases List.mem_cons.mp hp with rfl | hp
    · exact Ne.symm nCD
    · exact offC p (.tail _ hp)

noncomputable def Turn4 (prog : Program) (w : World) (A : Around) (h₀ : Heap) (L : Addr) (m : Str → Option Value) (env : Env) (elt : Expr) (x1 x2 x3 x4 : Str) (scope : Scope) (cl : List (Str × Addr)) (s : Shared) (lf : Addr) (its : Array Value) (J : Nat → List Value → Led → Prop) : Prop :=
  ∀ i ys nx, i < its.size → J i ys nx → ∃ (t : Addr) (ot : Obj) (v1 v2 v3 v4 : Value) (nt : Nat), its[i]? = some (.ref t) ∧ (t, ot) ∈ nx ∧ ot.cls = .type "tuple" ∧ ot.data = .seq #[v1, v2, v3, v4] nt ∧
    ∀ I oI C oC D m₂ g tk (E' : Value → Shared → Prop), NsObj oC m₂ → m₂ x1 = some v1 → m₂ x2 = some v2 → m₂ x3 = some v3 → m₂ x4 = some v4 → Fr h₀ L g m → News h₀ L g ((I, oI) :: (C, oC) :: (D, lst ys) :: nx) → Off3 I C D nx → (@Ne Nat I C ∧ @Ne Nat I D ∧ @Ne Nat C D) →
      wpAny (model prog w) A (eval elt (compEnvC scope cl C env)) (CompEnd h₀ L m { s with heap := g, toks := tk } I oI C oC D (lst ys) (SrcAt h₀ lf its) (fun y nx' => J (i + 1) (ys ++ [y]) nx')) E' { s with heap := g, toks := tk }
noncomputable def Src4 (prog : Program) (w : World) (A : Around) (h₀ : Heap) (L : Addr) (m : Str → Option Value) (env : Env) (elt : Expr) (x1 x2 x3 x4 : Str) (scope : Scope) (cl : List (Str × Addr)) (Fin : Shared → List Value → Led → Prop) (xv : Value) (s₁ : Shared) : Prop :=
  ∃ lf its news J, xv = .ref lf ∧ Fr h₀ L s₁.heap m ∧ News h₀ L s₁.heap news ∧ SrcAt h₀ lf its news ∧ its.size ≤ sizeLine ∧ J 0 [] news ∧ (∀ h, Turn4 prog w A h₀ L m env elt x1 x2 x3 x4 scope cl { s₁ with heap := h } lf its J) ∧ (∀ h ys nx, J its.size ys nx → Fin { s₁ with heap := h } ys nx)
theorem block_4 {elt iter : Expr} {x1 x2 x3 x4 : Str} {p1 p2 p3 p4 tp : Pos} {tk : Nat} {scope : Scope} {cl : List (Str × Addr)} {pos : Pos} {s₁ : Shared} {lf : Addr} {its : Array Value} {news : Led} {RR : Value → Addr → Result → Shared → Prop} {J : Nat → List Value → Led → Prop} (hh : A.handled = none)
    (hkind : scope.kind = .function) (hcf : ∀ k, cellsFrom k scope.names cl = cl) (hpc : ∀ h, pushCells h scope.names = h) (h1 : scope.names.lookup x1 = some .local) (h2 : scope.names.lookup x2 = some .local) (h3 : scope.names.lookup x3 = some .local) (h4 : scope.names.lookup x4 = some .local)
    (ne : x1 ≠ x2 ∧ x1 ≠ x3 ∧ x1 ≠ x4 ∧ x2 ≠ x3 ∧ x2 ≠ x4 ∧ x3 ≠ x4) (F : Fr h₀ L s₁.heap m) (N : News h₀ L s₁.heap news) (S : SrcAt h₀ lf its news) (hsz : its.size ≤ sizeLine) (j : J 0 [] news) (turn : ∀ h, Turn4 prog w A h₀ L m env elt x1 x2 x3 x4 scope cl { s₁ with heap := h } lf its J)
    (fin : ∀ D C h g tk m' ys news', Fr h₀ L g m → News h₀ L g ((D, lst ys) :: news') → Off1 D news' → g.Ns C m' → h₀.get? C = none → C ≠ L → C ≠ D → (∀ p ∈ news', p.1 ≠ C) → J its.size ys news' → RR (.ref D) C (.ok .next) { ({ s₁ with heap := h } : Shared) with heap := g, toks := tk }) :
    wpAny (model prog w) A (pyIter (.ref lf)) (fun it s₂ => wpAny (model prog w) A (newList []) (fun acc s₃ => wpAny (model prog w) A (newFunctionEnv scope env.globals cl [] env.qual none .none (some env)) (fun cenv s₄ =>
      codeAny (model prog w) A (.compStart (.ListComp elt [⟨.Tuple [.Name x1 p1, .Name x2 p2, .Name x3 p3, .Name x4 p4] tk tp, iter, [], 0⟩] scope pos) 0 it acc { cenv with scope := relabel scope env }) (RR acc cenv.locals) s₄) E s₃) E s₂) E s₁ := by
  have hl := S.list F.keep N
  have hlt : lf < s₁.heap.objs.size := by obtain ⟨_, e, _⟩ := hl; exact Heap.lt_size e
  refine wpAny_pyIter_list hl ?_
  have up : ∀ b o, s₁.heap.get? b = some o → (s₁.heap.push { cls := .type "list_iterator", data := .fields #[.ref lf, .int 0 0] }).get? b = some o := fun b o e => Heap.get?_push_of_some _ e
  refine start_G (S := SrcAt h₀ lf its) (St := fun i h => h.IsListIter s₁.heap.objs.size lf i ∧ h.IsList lf its) (P := fun i v => its[i]? = some v) (fp := [s₁.heap.objs.size, lf])
    (fun C i ys nx => J i ys nx) (fun k => []) (Walks.list hh s₁.heap.objs.size lf (Nat.ne_of_lt hlt) its) hsz (fun i h st => by obtain ⟨o, e, _⟩ := st.1; exact ⟨o, e⟩) list_st ⟨⟨_, Heap.get?_push_size _ rfl, rfl, rfl⟩, hl.push _⟩
    (fun b hb => ?_) (F.keeps up) (N.grown up) (fun p hp => Nat.ne_of_lt (Heap.lt_size (N p hp).1)) (Nat.ne_of_lt F.ns.lt) (next_is_new F) (fun h p hp => nomatch hp) (fun C hC => j) ?_ (fun D C h tk m' ys nx F' N' o1 hn eC nCL nCD offC hj => fin D C _ h tk m' ys nx F' N' o1 hn eC nCL nCD offC hj)
  · show b < (s₁.heap.push _).objs.size
    rw [Heap.size_push]
    rcases List.mem_cons.mp hb with rfl | hb
    · exact Nat.lt_succ_self _
    · rw [List.mem_singleton.mp hb]; exact Nat.lt_succ_of_lt hlt
  · rintro C i ys nx v m' oI oC D g tk' E' hi hj hP hoC F₃ N₃ off hne ⟨i', st⟩
    obtain ⟨t, ot, v1, v2, v3, v4, nt, he, hmt, hct, hdt, R⟩ := turn _ i ys nx hi hj
    rw [he] at hP
    cases hP
    rw [hcf]
    have zC := N₃ (C, oC) (.tail _ (.head _))
    have ht : IsTup g t #[v1, v2, v3, v4] := ⟨ot, (N₃ _ (.tail _ (.tail _ (.tail _ hmt)))).1, hct, nt, hdt⟩
    refine wpAny_letOwnedTupleGo_listiter st.1 (assign_Tuple_tuple hh ht rfl rfl fun g5 he5 => ?_)
    have k5 : ∀ b o, g.get? b = some o → g5.get? b = some o := fun b o e => he5 b o (Nat.ne_of_lt (Heap.lt_size e)) e
    refine assignInOrder_cons (wpAny_assign_Name (wpAny_storeName_local (lookup_relabel_local h1) ((hoC.ns zC.1).keeps k5) (fun g6 n6 s6 => ?_) (by simp [compEnvC, relabel, hkind])))
    refine assignInOrder_cons (wpAny_assign_Name (wpAny_storeName_local (lookup_relabel_local h2) n6 (fun g7 n7 s7 => ?_) (by simp [compEnvC, relabel, hkind])))
    refine assignInOrder_cons (wpAny_assign_Name (wpAny_storeName_local (lookup_relabel_local h3) n7 (fun g8 n8 s8 => ?_) (by simp [compEnvC, relabel, hkind])))
    refine assignInOrder_cons (wpAny_assign_Name (wpAny_storeName_local (lookup_relabel_local h4) n8 (fun g9 n9 s9 => ?_) (by simp [compEnvC, relabel, hkind])))
    refine assignInOrder_nil ?_
    have old : ∀ b o, b ≠ C → g.get? b = some o → g9.get? b = some o := fun b o hb e => s9.extBut b o hb (s8.extBut b o hb (s7.extBut b o hb (s6.extBut b o hb (k5 b o e))))
    refine ob_ea (ns_obj n9) ?_
    intro oC' heC hoC'
    have F9 : Fr h₀ L g9 m := ((((F₃.keeps k5).change s6 zC.2.1 zC.2.2).change s7 zC.2.1 zC.2.2).change s8 zC.2.1 zC.2.2).change s9 zC.2.1 zC.2.2
    have N9 : News h₀ L g9 ((_, oI) :: (C, oC') :: (D, lst ys) :: nx) := fun p hp => by
      rcases List.mem_cons.mp hp with rfl | hp
      · exact ⟨old _ _ hne.1 (N₃ _ (.head _)).1, (N₃ _ (.head _)).2⟩
      rcases List.mem_cons.mp hp with rfl | hp
      · exact ⟨heC, zC.2⟩
      rcases List.mem_cons.mp hp with rfl | hp
      · exact ⟨old _ _ (Ne.symm hne.2.2) (N₃ (D, lst ys) (.tail _ (.tail _ (.head _)))).1, (N₃ (D, lst ys) (.tail _ (.tail _ (.head _)))).2⟩
      · exact ⟨old _ _ (off.mem p hp).2.1 (N₃ p (.tail _ (.tail _ (.tail _ hp)))).1, (N₃ p (.tail _ (.tail _ (.tail _ hp)))).2⟩
    refine wpAny_mono (R _ oI C oC' D _ g9 _ E' hoC' ?_ ?_ ?_ ?_ F9 N9 off hne) (fun y s' hy => ⟨oC', _, hoC', hy⟩) fun _ _ x => x
    · simp [ne.1, ne.2.1, ne.2.2.1]
    · simp [ne.2.2.2.1, ne.2.2.2.2.1]
    · simp [ne.2.2.2.2.2]
    · simp
theorem ListComp_4 {elt iter : Expr} {x1 x2 x3 x4 : Str} {p1 p2 p3 p4 tp : Pos} {tk : Nat} {scope : Scope} {cl : List (Str × Addr)} {pos : Pos} {Q : Value → Shared → Prop} (F₀ : Fr h₀ L s.heap m) (hh : A.handled = none)
    (hclos : closureFor scope env = pure cl) (hkind : scope.kind = .function) (hnames : ∀ y ∈ scope.names, y.2 = .local → scope.names.lookup y.1 = some .local)
    (hcf : ∀ k, cellsFrom k scope.names cl = cl) (hpc : ∀ h, pushCells h scope.names = h) (h1 : scope.names.lookup x1 = some .local) (h2 : scope.names.lookup x2 = some .local) (h3 : scope.names.lookup x3 = some .local) (h4 : scope.names.lookup x4 = some .local)
    (ne : x1 ≠ x2 ∧ x1 ≠ x3 ∧ x1 ≠ x4 ∧ x2 ≠ x3 ∧ x2 ≠ x4 ∧ x3 ≠ x4)
    (h : wpAny (model prog w) A (eval iter env) (Src4 prog w A h₀ L m env elt x1 x2 x3 x4 scope cl fun s₂ => FinE h₀ L m s₂ Q) E s)
    (hs : ∀ x, foldedSetIterable iter env x = pure x := by intro _; rfl) :
    wpAny (model prog w) A (eval (.ListComp elt [⟨.Tuple [.Name x1 p1, .Name x2 p2, .Name x3 p3, .Name x4 p4] tk tp, iter, [], 0⟩] scope pos) env) Q E s := by
  rw [eval_ListComp]
  refine wpAny_comprehension_free (use := none) rfl hs hclos hkind hnames (wpAny_mono h (fun xv s₁ h₁ => ?_) fun _ _ e => e)
  refine ob_eeee (h₁) ?_
  clear h₁
  intro lf its news J hq0
  refine ob_aaaaaaa hq0 ?_
  clear hq0
  intro er7 F N S hsz j turn fin
  subst er7
  refine block_4 hh hkind hcf hpc h1 h2 h3 h4 ne F N S hsz j turn ?_
  intro D C h g tk m' ys nx F' N' o1 hn eC nCL nCD offC hj
  refine ⟨m', hn, fun g' hs' => fin h ys nx hj D g' tk (F'.change hs' nCL eC) (fun p hp => ?_) o1⟩
  refine ⟨hs'.extBut _ _ ?_ (N' p hp).1, (N' p hp).2⟩
  rcases List.mem_cons.mp hp with rfl | hp
  · exact Ne.symm nCD
  · exact offC p hp
theorem Assign_ListComp_4 {elt iter : Expr} {x1 x2 x3 x4 y : Str} {p1 p2 p3 p4 tp py : Pos} {tk : Nat} {scope : Scope} {cl : List (Str × Addr)} {pos spos : Pos} {Q : Flow → Shared → Prop} (F₀ : Fr h₀ L s.heap m) (hh : A.handled = none) (hLe : env.locals = L)
    (hsw : swapsWith (.ListComp elt [⟨.Tuple [.Name x1 p1, .Name x2 p2, .Name x3 p3, .Name x4 p4] tk tp, iter, [], 0⟩] scope pos) (some (.Name y py)) spos.line env = pure true)
    (hclos : closureFor scope env = pure cl) (hkind : scope.kind = .function) (hnames : ∀ y ∈ scope.names, y.2 = .local → scope.names.lookup y.1 = some .local)
    (hcf : ∀ k, cellsFrom k scope.names cl = cl) (hpc : ∀ h, pushCells h scope.names = h) (h1 : scope.names.lookup x1 = some .local) (h2 : scope.names.lookup x2 = some .local) (h3 : scope.names.lookup x3 = some .local) (h4 : scope.names.lookup x4 = some .local)
    (ne : x1 ≠ x2 ∧ x1 ≠ x3 ∧ x1 ≠ x4 ∧ x2 ≠ x3 ∧ x2 ≠ x4 ∧ x3 ≠ x4)
    (hy : env.kindOf y = some .local) (hp : (env.scope.kind == .class || (env.scope.kind == .module && env.locals != env.globals)) = false)
    (h : wpAny (model prog w) A (eval iter env) (Src4 prog w A h₀ L m env elt x1 x2 x3 x4 scope cl fun s₂ => FinA h₀ L m s₂ y Q) E s)
    (hs : ∀ x, foldedSetIterable iter env x = pure x := by intro _; rfl) :
    wpAny (model prog w) A (exec (.Assign [.Name y py] (.ListComp elt [⟨.Tuple [.Name x1 p1, .Name x2 p2, .Name x3 p3, .Name x4 p4] tk tp, iter, [], 0⟩] scope pos) spos) env) Q E s := by
  subst hLe
  rw [exec_Assign_Name_used _ _ _ _ hsw]
  refine wpAny_bind (wpAny_standAt (wpAny_bind ?_))
  show wpAny _ A (do let _ ← comprehension (.ListComp elt [⟨.Tuple [.Name x1 p1, .Name x2 p2, .Name x3 p3, .Name x4 p4] tk tp, iter, [], 0⟩] scope pos) scope env _ (newList []) false (eval iter env) (some (assign (.Name y py) env))) _ _ s
  refine wpAny_bind (wpAny_mono (wpAny_comprehension_free (use := some (assign (.Name y py) env)) (Q := fun _ s' => Q .next s') rfl hs hclos hkind hnames
    (wpAny_mono h (fun xv s₁ h₁ => ?_) fun _ _ e => e)) (fun _ s' hq => wpAny_pure (wpAny_pure hq)) fun _ _ e => e)
  refine ob_eeee (h₁) ?_
  clear h₁
  intro lf its news J hq0
  refine ob_aaaaaaa hq0 ?_
  clear hq0
  intro er8 F N S hsz j turn fin
  subst er8
  refine block_4 hh hkind hcf hpc h1 h2 h3 h4 ne F N S hsz j turn ?_
  intro D C h g tk m' ys nx F' N' o1 hn eC nCL nCD offC hj
  show wpAny _ A (assign (.Name y py) env (.ref D)) _ _ _
  refine wpAny_assign_Name (wpAny_storeName_local hy F'.ns (fun h₂ hn₂ hs₂ => ?_) hp)
  have F₂ : Fr h₀ env.locals h₂ (fun z => if z = y then some (.ref D) else m z) := F'.set hn₂ hs₂
  refine ⟨m', hn.sameBut hs₂ nCL, fun g' hs' => fin h ys nx hj D g' _ (F₂.change hs' nCL eC) (fun p hp => ?_) o1⟩
  have z := (N'.set hs₂) p hp
  refine ⟨hs'.extBut _ _ ?_ z.1, z.2⟩
  rcases List.mem_cons.mp hp with rfl | hp
  · exact Ne.symm nCD
  · exact offC p hp
end
section
variable {prog : Program} {w : World} {A : Around} {E : Value → Shared → Prop} {s : Shared} {h₀ : Heap} {L : Addr} {m : Str → Option Value} {news : Led} {Q : Value → Shared → Prop}
theorem list_nil {env : Env} {pos : Pos} (F : Fr h₀ L s.heap m) (N : News h₀ L s.heap news) (h : ∀ h' D, Fr h₀ L h' m → News h₀ L h' ((D, lstO [] 0) :: news) → Held (Q (.ref D) { s with heap := h' })) : wpAny (model prog w) A (eval (.List [] pos) env) Q E s := by
  refine wpAny_List_spliced (wpAny_of_eq rfl ⟨Nat.zero_le _, ?_⟩)
  refine h _ _ (F.keeps fun _ _ e => Heap.get?_push_of_some _ e) fun p hp => ?_
  rcases List.mem_cons.mp hp with rfl | hp
  · exact ⟨Heap.get?_push_size _ rfl, Ne.symm (Nat.ne_of_lt F.ns.lt), next_is_new F⟩
  · exact (N.grown fun _ _ e => Heap.get?_push_of_some _ e) p hp
end
end Mine
end
section
open PySem PySem.W PyProof.Rows PySem.Spec PySem.Calls
set_option Elab.async false
set_option maxRecDepth 100000
set_option maxHeartbeats 4000000
set_option linter.unusedVariables false
namespace Mine
theorem band (n m : Nat) : Builtin.bitAnd (n : Int) (m : Int) = ((n &&& m : Nat) : Int) := by
  unfold Builtin.bitAnd
  simp
theorem band_hi (n : Nat) (hn : n < 65536) : n &&& 61440 = n / 4096 * 4096 := by
  have h1 : n &&& 61440 = (n >>> 12 &&& 15) <<< 12 := by
    apply Nat.eq_of_testBit_eq
    intro i
    rw [Nat.testBit_and, Nat.testBit_shiftLeft, Nat.testBit_and, Nat.testBit_shiftRight]
    by_cases h : 12 ≤ i
    · rw [show 12 + (i - 12) = i by omega, show (61440 : Nat) = 15 <<< 12 by decide, Nat.testBit_shiftLeft]
      simp [h]
    · rw [show (61440 : Nat) = 15 <<< 12 by decide, Nat.testBit_shiftLeft]
      simp [h]
  rw [h1, Nat.shiftRight_eq_div_pow, Nat.shiftLeft_eq]
  have h2 : n / 2 ^ 12 &&& 15 = n / 2 ^ 12 % 16 := by
    have := Nat.and_two_pow_sub_one_eq_mod (n / 2 ^ 12) 4
    simpa using this
  rw [h2]
  omega
theorem band_lo (n : Nat) : n &&& 4095 = n % 4096 := by
  have := Nat.and_two_pow_sub_one_eq_mod n 12
  simpa using this
theorem band_pow (n k : Nat) : n &&& 2 ^ k = n / 2 ^ k % 2 * 2 ^ k := by
  have hb : n.testBit k = decide (n / 2 ^ k % 2 = 1) := Nat.testBit_eq_decide_div_mod_eq
  have hc : n / 2 ^ k % 2 = 0 ∨ n / 2 ^ k % 2 = 1 := by omega
  apply Nat.eq_of_testBit_eq
  intro i
  rw [Nat.testBit_and, Nat.testBit_two_pow]
  by_cases h : k = i
  · subst h
    rw [hb]
    rcases hc with e | e <;> simp [e, Nat.testBit_two_pow_self]
  · rcases hc with e | e
    · simp [e, h]
    · rw [e, Nat.one_mul, Nat.testBit_two_pow]
      simp [h]
theorem band_bit (n k : Nat) : n &&& 2 ^ k = 2 ^ k ↔ n / 2 ^ k % 2 = 1 := by
  rw [band_pow]
  have hp : 0 < 2 ^ k := Nat.two_pow_pos k
  have hc : n / 2 ^ k % 2 = 0 ∨ n / 2 ^ k % 2 = 1 := by omega
  rcases hc with e | e
  · rw [e]; omega
  · rw [e]; simp
theorem band_two (n a b c : Nat) (hc : a ||| b = c) (ha : c &&& a = a) (hb : c &&& b = b) : n &&& c = c ↔ n &&& a = a ∧ n &&& b = b := by
  constructor
  · intro h
    refine ⟨?_, ?_⟩
    · rw [← ha, ← Nat.and_assoc, h]
    · rw [← hb, ← Nat.and_assoc, h]
  · rintro ⟨h1, h2⟩
    rw [← hc, Nat.and_or_distrib_left, h1, h2]
noncomputable def triA (br bw bx bs : Nat) (s S x : String) : Str :=
  Str.ofString (if br = 1 then "r" else "-") ++ Str.ofString (if bw = 1 then "w" else "-") ++ Str.ofString (if bx = 1 ∧ bs = 1 then s else if bs = 1 then S else if bx = 1 then x else "-")
noncomputable def one (n k : Nat) : Nat := n / 2 ^ k % 2
theorem pick1 (n i k : Nat) (hi : i ≠ 0) (a : Addr) (c : String) : fmPick (n : Int) i [(a, 2 ^ k, c)] = Str.ofString (if one n k = 1 then c else "-") := by
  have hh : fmHit (n : Int) i (a, 2 ^ k, c) = decide (one n k = 1) := by
    unfold fmHit
    rw [if_neg hi]
    dsimp only
    rw [band]
    by_cases h : one n k = 1
    · rw [(band_bit n k).mpr h]; simp [h]
    · have : ¬ n &&& 2 ^ k = 2 ^ k := fun e => h ((band_bit n k).mp e)
      simp only [h, decide_false, beq_eq_false_iff_ne, ne_eq]
      omega
  unfold fmPick
  rw [List.find?_cons, hh]
  by_cases h : one n k = 1
  · simp [h]
  · simp [h, hi]
theorem pick3 (n i k l m : Nat) (hi : i ≠ 0) (a b c : Addr) (s S x : String) (hm : 2 ^ l ||| 2 ^ k = m) (h1 : m &&& 2 ^ l = 2 ^ l) (h2 : m &&& 2 ^ k = 2 ^ k) :
    fmPick (n : Int) i [(a, m, s), (b, 2 ^ l, S), (c, 2 ^ k, x)] = Str.ofString (if one n k = 1 ∧ one n l = 1 then s else if one n l = 1 then S else if one n k = 1 then x else "-") := by
  have hit : ∀ (a : Addr) (v : Nat) (s : String), fmHit (n : Int) i (a, v, s) = decide (n &&& v = v) := fun a v s => by
    unfold fmHit
    rw [if_neg hi]
    dsimp only
    rw [band]
    by_cases h : n &&& v = v
    · rw [h]; simp
    · simp only [h, decide_false, beq_eq_false_iff_ne, ne_eq]
      omega
  have e1 : (n &&& m = m) ↔ (one n l = 1 ∧ one n k = 1) := (band_two n _ _ _ hm h1 h2).trans (and_congr (band_bit n l) (band_bit n k))
  have e2 : (n &&& 2 ^ l = 2 ^ l) ↔ one n l = 1 := band_bit n l
  have e3 : (n &&& 2 ^ k = 2 ^ k) ↔ one n k = 1 := band_bit n k
  unfold fmPick
  rw [List.find?_cons, List.find?_cons, List.find?_cons, hit, hit, hit]
  simp only [e1, e2, e3]
  by_cases p : one n l = 1 <;> by_cases q : one n k = 1 <;> simp [p, q, hi]
theorem fmList_eq (n : Nat) : fmList (n : Int) 10 = [fmPick (n : Int) 0 [(204, 40960, "l"), (205, 49152, "s"), (206, 32768, "-"), (207, 24576, "b"), (208, 16384, "d"), (209, 8192, "c"), (210, 4096, "p")],
    Str.ofString (if one n 8 = 1 then "r" else "-"), Str.ofString (if one n 7 = 1 then "w" else "-"), Str.ofString (if one n 6 = 1 ∧ one n 11 = 1 then "s" else if one n 11 = 1 then "S" else if one n 6 = 1 then "x" else "-"),
    Str.ofString (if one n 5 = 1 then "r" else "-"), Str.ofString (if one n 4 = 1 then "w" else "-"), Str.ofString (if one n 3 = 1 ∧ one n 10 = 1 then "s" else if one n 10 = 1 then "S" else if one n 3 = 1 then "x" else "-"),
    Str.ofString (if one n 2 = 1 then "r" else "-"), Str.ofString (if one n 1 = 1 then "w" else "-"), Str.ofString (if one n 0 = 1 ∧ one n 9 = 1 then "t" else if one n 9 = 1 then "T" else if one n 0 = 1 then "x" else "-")] := by
  rw [← pick1 n 1 8 (by decide) 212 "r", ← pick1 n 2 7 (by decide) 214 "w", ← pick3 n 3 6 11 2112 (by decide) 216 217 218 "s" "S" "x" (by decide) (by decide) (by decide),
    ← pick1 n 4 5 (by decide) 220 "r", ← pick1 n 5 4 (by decide) 222 "w", ← pick3 n 6 3 10 1032 (by decide) 224 225 226 "s" "S" "x" (by decide) (by decide) (by decide),
    ← pick1 n 7 2 (by decide) 228 "r", ← pick1 n 8 1 (by decide) 230 "w", ← pick3 n 9 0 9 513 (by decide) 232 233 234 "t" "T" "x" (by decide) (by decide) (by decide)]
  rfl
theorem kind_eq (n : Nat) (hn : n < 65536) : fmPick (n : Int) 0 [(204, 40960, "l"), (205, 49152, "s"), (206, 32768, "-"), (207, 24576, "b"), (208, 16384, "d"), (209, 8192, "c"), (210, 4096, "p")] = Txt.item (Str.ofString "?pc?d?b?-?l?s???") ((n : Int).fdiv 4096) := by
  have hd : (n : Int).fdiv 4096 = ((n / 4096 : Nat) : Int) := by
    rw [Int.fdiv_eq_ediv_of_nonneg _ (by decide)]
    omega
  have hit : ∀ (a : Addr) (q : Nat) (s : String), fmHit (n : Int) 0 (a, q * 4096, s) = decide (n / 4096 = q) := fun a q s => by
    unfold fmHit
    rw [if_pos rfl]
    show (Builtin.bitAnd (n : Int) ((61440 : Nat) : Int) == _) = _
    rw [band, band_hi n hn]
    by_cases h : n / 4096 = q
    · simp [h]
    · simp only [h, decide_false, beq_eq_false_iff_ne, ne_eq]
      intro e
      have e' : n / 4096 * 4096 = q * 4096 := Int.ofNat.inj e
      omega
  have hp : fmPick (n : Int) 0 [(204, 40960, "l"), (205, 49152, "s"), (206, 32768, "-"), (207, 24576, "b"), (208, 16384, "d"), (209, 8192, "c"), (210, 4096, "p")] =
      fmPick (n : Int) 0 [(204, 10 * 4096, "l"), (205, 12 * 4096, "s"), (206, 8 * 4096, "-"), (207, 6 * 4096, "b"), (208, 4 * 4096, "d"), (209, 2 * 4096, "c"), (210, 1 * 4096, "p")] := rfl
  have hq : n / 4096 < 16 := by omega
  rw [hp, hd]
  unfold fmPick
  simp only [List.find?_cons, List.find?_nil, hit]
  generalize n / 4096 = q at hq
  revert q
  decide +kernel
theorem item_r (b : Nat) (h : b < 2) : Txt.item (Str.ofString "-r") (b : Int) = Str.ofString (if b = 1 then "r" else "-") := by
  rcases (by omega : b = 0 ∨ b = 1) with rfl | rfl <;> decide +kernel
theorem item_w (b : Nat) (h : b < 2) : Txt.item (Str.ofString "-w") (b : Int) = Str.ofString (if b = 1 then "w" else "-") := by
  rcases (by omega : b = 0 ∨ b = 1) with rfl | rfl <;> decide +kernel
theorem item_s (b c : Nat) (h : b < 2) (h' : c < 2) : Txt.item (Str.ofString "-xSs") ((b : Int) + 2 * (c : Int)) = Str.ofString (if b = 1 ∧ c = 1 then "s" else if c = 1 then "S" else if b = 1 then "x" else "-") := by
  rcases (by omega : b = 0 ∨ b = 1) with rfl | rfl <;> rcases (by omega : c = 0 ∨ c = 1) with rfl | rfl <;> decide +kernel
theorem item_t (b c : Nat) (h : b < 2) (h' : c < 2) : Txt.item (Str.ofString "-xTt") ((b : Int) + 2 * (c : Int)) = Str.ofString (if b = 1 ∧ c = 1 then "t" else if c = 1 then "T" else if b = 1 then "x" else "-") := by
  rcases (by omega : b = 0 ∨ b = 1) with rfl | rfl <;> rcases (by omega : c = 0 ∨ c = 1) with rfl | rfl <;> decide +kernel
theorem fdn (n m : Nat) : (n : Int).fdiv (m : Int) = ((n / m : Nat) : Int) := by rw [Int.fdiv_eq_ediv_of_nonneg _ (Int.natCast_nonneg m)]; rfl
theorem fmn (n m : Nat) : (n : Int).fmod (m : Int) = ((n % m : Nat) : Int) := by rw [Int.fmod_eq_emod_of_nonneg _ (Int.natCast_nonneg m)]; rfl
theorem one_lt (n k : Nat) : one n k < 2 := Nat.mod_lt _ (by decide)
theorem shP_eq (n i p q : Nat) (tb : String) (acc : Str) (h8 : (8 : Int) ^ (2 - (i : Int)).toNat = ((2 ^ p : Nat) : Int)) (h2 : (2 : Int) ^ (2 - (i : Int)).toNat = ((2 ^ q : Nat) : Int)) :
    shP (n : Int) (i : Int) tb acc = acc ++ (Str.ofString (if one n (p + 2) = 1 then "r" else "-") ++ Str.ofString (if one n (p + 1) = 1 then "w" else "-")) ++ Txt.item (Str.ofString tb) ((one n p : Int) + 2 * (one n (q + 9) : Int)) := by
  unfold shP
  rw [h8, h2, show (512 : Int) = ((512 : Nat) : Int) from rfl, show (8 : Int) = ((8 : Nat) : Int) from rfl, show (4 : Int) = ((4 : Nat) : Int) from rfl, show (2 : Int) = ((2 : Nat) : Int) from rfl, fdn, fdn, fmn, fdn, fdn, fmn, fmn, fdn, fmn]
  have e1 : n / 2 ^ p % 8 / 4 = one n (p + 2) := by
    unfold one; rw [Nat.pow_add, ← Nat.div_div_eq_div_mul]; omega
  have e2 : n / 2 ^ p % 8 / 2 % 2 = one n (p + 1) := by
    unfold one; rw [Nat.pow_add, ← Nat.div_div_eq_div_mul]; omega
  have e3 : n / 2 ^ p % 8 % 2 = one n p := by
    unfold one; omega
  have e4 : n / 512 / 2 ^ q % 2 = one n (q + 9) := by
    unfold one; rw [Nat.add_comm, Nat.pow_add, ← Nat.div_div_eq_div_mul]
  rw [e1, e2, e3, e4, item_r _ (one_lt _ _), item_w _ (one_lt _ _)]
theorem shown_eq (n : Nat) (hn : n < 65536) : fmText n = shownOf n := by
  have hs : shownOf n = shP (n : Int) ((2 : Nat) : Int) "-xTt" (shP (n : Int) ((1 : Nat) : Int) "-xSs" (shP (n : Int) ((0 : Nat) : Int) "-xSs" (Txt.item (Str.ofString "?pc?d?b?-?l?s???") ((n : Int).fdiv 4096)))) := rfl
  rw [hs, shP_eq n 2 0 0 _ _ (by decide) (by decide), shP_eq n 1 3 1 _ _ (by decide) (by decide), shP_eq n 0 6 2 _ _ (by decide) (by decide)]
  rw [item_s _ _ (one_lt _ _) (one_lt _ _), item_s _ _ (one_lt _ _) (one_lt _ _), item_t _ _ (one_lt _ _) (one_lt _ _), ← kind_eq n hn]
  show Builtin.Str.glued (Str.ofString "") (fmList (n : Int) 10) = _
  rw [StrLaws.glued_eq_join, fmList_eq, show Str.ofString "" = Str.empty from by decide +kernel]
  simp only [Str.join, Str.append_empty, Str.append_assoc]
end Mine
end
section
open PySem PySem.W PyProof.Rows PySem.Spec PySem.Calls
set_option Elab.async false
set_option maxRecDepth 100000
set_option maxHeartbeats 4000000
set_option linter.unusedVariables false
namespace Mine
noncomputable def Sm (d : PyData) : Prop := d.canLay0 = true ∧ d.depth ≤ 1 ∧ PyData.eqv d d = true
theorem Sm.all : ∀ {ds : List PyData}, (∀ d ∈ ds, Sm d) → PyData.canLayAll0 ds = true ∧ PyData.depthAll ds ≤ 1 ∧ PyData.eqvAll ds ds = true
  | [], _ => ⟨rfl, by simp [PyData.depthAll], by simp [PyData.eqvAll]⟩
  | d :: ds, h => by
    refine ob_aa (h d (.head _)) ?_
    intro a b c
    refine ob_aa (Sm.all fun x hx => h x (.tail _ hx)) ?_
    intro a' b' c'
    refine ⟨by simp [PyData.canLayAll0, a, a'], ?_, by simp [PyData.eqvAll, c, c']⟩
    simp only [PyData.depthAll]
    omega
theorem Sm.list {ds : List PyData} (h : ∀ d ∈ ds, Sm d) : SeqAt.shaped (.list ds) = true ∧ PyData.eqv (.list ds) (.list ds) = true := by
  refine ob_aa (Sm.all h) ?_
  intro a b c
  refine ⟨?_, by simp [PyData.eqv, c]⟩
  unfold SeqAt.shaped
  have : PyData.depth (.list ds) ≤ 64 := by
    simp only [PyData.depth]
    omega
  simp [PyData.canLay0, a, this]
theorem Sm.ints (ns : List Int) : Sm (.list (ns.map PyData.int)) := by
  refine ⟨by simp [PyData.canLay0, ke_canLayAll0], by simp [PyData.depth, ke_depthAll], ?_⟩
  simp [PyData.eqv, ked_eqvAll]
theorem Sm.str {x : Str} (h : PyData.strOk x = true) : Sm (.str x) := ⟨by simpa [PyData.canLay0] using h, by simp [PyData.depth], by simp [PyData.eqv]⟩
theorem Sm.three (a b : Bool) (n : Int) : Sm (.tuple [.bool a, .bool b, .int n]) :=
  ⟨by simp [PyData.canLay0, PyData.canLayAll0], by simp [PyData.depth, PyData.depthAll], by simp [PyData.eqv, PyData.eqvAll]⟩
section
variable {prog : Program} {w : World} {A : Around} {E : Value → Shared → Prop} {s : Shared} {h₀ : Heap} {L a b : Addr} {m : Str → Option Value} {news : Led} {vs us : List Value} {i j : Nat} {Q : Value → Shared → Prop}
theorem reads_lst {ds : List PyData} {as : List Addr} (N : News h₀ L s.heap news) (ha : (a, lstO vs i) ∈ news) (hr : ReadsAll s.heap vs ds as) : Reads s.heap (.ref a) (.list ds) (a :: as) :=
  reads_list_at (N _ ha).1 rfl rfl (by rw [List.toList_toArray]; exact hr)
theorem same_ne {ds : List PyData} {as bs : List Addr} (N : News h₀ L s.heap news) (ha : (a, lstO vs i) ∈ news) (hb : (b, lstO us j) ∈ news) (hv : ReadsAll s.heap vs ds as) (hu : ReadsAll s.heap us ds bs) (hs : ∀ d ∈ ds, Sm d) (hl : A.units + 64 < cLine)
    (h : Q (.bool false) s) : wpAny (model prog w) A (compareOp .NotEq (.ref a) (.ref b)) Q E s := by
  obtain ⟨h1, h2⟩ := Sm.list hs
  exact ne_dataH (reads_lst N ha hv) (reads_lst N hb hu) h1 h1 hl (by rw [h2]; exact h)
theorem same_eq {ds : List PyData} {as bs : List Addr} (N : News h₀ L s.heap news) (ha : (a, lstO vs i) ∈ news) (hb : (b, lstO us j) ∈ news) (hv : ReadsAll s.heap vs ds as) (hu : ReadsAll s.heap us ds bs) (hs : ∀ d ∈ ds, Sm d) (hl : A.units + 64 < cLine)
    (h : Q (.bool true) s) : wpAny (model prog w) A (compareOp .Eq (.ref a) (.ref b)) Q E s := by
  obtain ⟨h1, h2⟩ := Sm.list hs
  exact eq_dataH (reads_lst N ha hv) (reads_lst N hb hu) h1 h1 hl (by rw [h2]; exact h)
end
theorem Rows.reads {h₀ h : Heap} {L : Addr} {news : Led} (N : News h₀ L h news) : ∀ {vs : List Value} {rs : List (List Nat)}, Rows news vs rs → ∃ as, ReadsAll h vs (rs.map fun r => .list ((r.map fun j => ((j : Nat) : Int)).map PyData.int)) as
  | _, _, .nil => ⟨_, .nil⟩
  | _, _, .cons hm hv t => by
    obtain ⟨as, ih⟩ := Rows.reads N t
    exact ⟨_, .cons (reads_newData (News.lst N hm) (ke_carried hv.ints)) ih⟩
theorem Rows.off {h₀ h : Heap} {L c : Addr} {o : Obj} {v : Option Value} {nx : Led} (N : News h₀ L h nx) (hc : (c, o) ∈ nx) (hd : o.data = .cell v) : ∀ {vs : List Value} {rs : List (List Nat)}, Rows nx vs rs → Rows (Mine.off c nx) vs rs
  | _, _, .nil => .nil
  | _, _, .cons hm hv t => .cons (mem_off hm (cell_ne N hc hd hm (fun v e => by cases e))) hv (Rows.off N hc hd t)
theorem strs_reads {h : Heap} : ∀ {vs : List Value} {xs : List Str}, StrsAre vs xs → ∃ as, ReadsAll h vs (xs.map PyData.str) as
  | _, _, .nil => ⟨_, .nil⟩
  | _, _, .cons x t r => by
    obtain ⟨as, ih⟩ := strs_reads (h := h) r
    exact ⟨_, .cons (.str x t) ih⟩
inductive Thr (led : Led) : List Value → List (Bool × Bool × Int) → Prop
  | nil : Thr led [] []
  | cons {a : Addr} {n : Nat} {x y : Bool} {z : Int} {t : Tok} {vs : List Value} {rs : List (Bool × Bool × Int)} (h : (a, tupO [.bool x, .bool y, .int z t] n) ∈ led) (r : Thr led vs rs) : Thr led (.ref a :: vs) ((x, y, z) :: rs)
theorem Thr.mono {led led' : Led} (h : ∀ p ∈ led, p ∈ led') : ∀ {vs : List Value} {rs : List (Bool × Bool × Int)}, Thr led vs rs → Thr led' vs rs
  | _, _, .nil => .nil
  | _, _, .cons a c => .cons (h _ a) (c.mono h)
theorem Thr.snoc {led : Led} {a : Addr} {n : Nat} {x y : Bool} {z : Int} {t : Tok} (h : (a, tupO [.bool x, .bool y, .int z t] n) ∈ led) : ∀ {vs : List Value} {rs : List (Bool × Bool × Int)}, Thr led vs rs → Thr led (vs ++ [.ref a]) (rs ++ [(x, y, z)])
  | _, _, .nil => .cons h .nil
  | _, _, .cons a c => .cons a (c.snoc h)
theorem Thr.reads {h₀ h : Heap} {L : Addr} {news : Led} (N : News h₀ L h news) : ∀ {vs : List Value} {rs : List (Bool × Bool × Int)}, Thr news vs rs → ∃ as, ReadsAll h vs (rs.map fun r => .tuple [.bool r.1, .bool r.2.1, .int r.2.2]) as
  | _, _, .nil => ⟨_, .nil⟩
  | _, _, .cons hm t => by
    obtain ⟨as, ih⟩ := Thr.reads N t
    exact ⟨_, .cons (reads_tuple_at (N _ hm).1 rfl rfl (by rw [List.toList_toArray]; exact .cons (.bool _) (.cons (.bool _) (.cons (.int _ _) .nil)))) ih⟩
section
variable {prog : Program} {w : World} {A : Around} {h₀ : Heap} {L lf : Addr} {m : Str → Option Value} {env : Env} {elt : Expr} {x1 x2 x3 x4 : Str} {scope : Scope} {cl : List (Str × Addr)} {s : Shared} {news : Led} {Fin : Shared → List Value → Led → Prop} {vs : List Value} {n : Nat}
theorem Src4.intro (F : Fr h₀ L s.heap m) (N : News h₀ L s.heap news) (hm : (lf, lstO vs n) ∈ news) (hz : vs.length ≤ 1000) (J : Nat → List Value → Led → Prop) (j : J 0 [] news)
    (turn : ∀ h, Turn4 prog w A h₀ L m env elt x1 x2 x3 x4 scope cl { s with heap := h } lf vs.toArray J) (fin : ∀ h ys nx, J vs.length ys nx → Fin { s with heap := h } ys nx) : Src4 prog w A h₀ L m env elt x1 x2 x3 x4 scope cl Fin (.ref lf) s :=
  ⟨lf, vs.toArray, news, J, rfl, F, N, .inr ⟨_, hm, rfl, _, rfl⟩, by rw [List.size_toArray, sizeLine_eq]; omega, j, turn, fun h ys nx hj => fin h ys nx (by rwa [List.size_toArray] at hj)⟩
end
theorem files_turn {prog : Program} {w : World} {A : Around} {h₀ : Heap} {L lf : Addr} {m : Str → Option Value} {env : Env} {elt : Expr} {x1 x2 x3 x4 : Str} {scope : Scope} {cl : List (Str × Addr)} {s : Shared} {fs : Nat → File} {fa : Nat → Addr} {led : Led} {n : Nat} (g : Nat → Bool × Bool × Int) (hF : FilesIn led lf fs fa) (hl : (lf, lstO ((List.range 6).map fun i => .ref (fa i)) n) ∈ led)
    (k : ∀ i ys nx, i < 6 → (∀ p ∈ led, p ∈ nx) → Thr nx ys ((List.range i).map g) → ∀ t0 t1 t2 t3 I oI C oC D m₂ h tk (E' : Value → Shared → Prop), LCg.NsObj oC m₂ → m₂ x1 = some (ahV (fs i).ah t0) → m₂ x2 = some (.str (fs i).nm t1) → m₂ x3 = some (.str (fs i).en t2) → m₂ x4 = some (.int ((fs i).nu : Nat) t3) →
      Fr h₀ L h m → News h₀ L h ((I, oI) :: (C, oC) :: (D, LCg.lst ys) :: nx) → LCg.Off3 I C D nx → (@Ne Nat I C ∧ @Ne Nat I D ∧ @Ne Nat C D) →
      wpAny (model prog w) A (eval elt (compEnvC scope cl C env)) (LCg.CompEnd h₀ L m { s with heap := h, toks := tk } I oI C oC D (LCg.lst ys) (fun nx' => ∀ p ∈ led, p ∈ nx') (fun y nx' => Thr nx' (ys ++ [y]) ((List.range i).map g ++ [g i]))) E' { s with heap := h, toks := tk }) :
    Turn4 prog w A h₀ L m env elt x1 x2 x3 x4 scope cl s lf ((List.range 6).map fun i => Value.ref (fa i)).toArray (fun i ys nx => (∀ p ∈ led, p ∈ nx) ∧ Thr nx ys ((List.range i).map g)) := by
  intro i ys nx hi ⟨hk, ht⟩
  rw [List.size_toArray, List.length_map, List.length_range] at hi
  refine ob_eeeee (hF.tup i hi) ?_
  intro t0 t1 t2 t3 n1 hm
  refine ⟨fa i, _, _, _, _, _, n1, by simp [hi], hk _ hm, rfl, rfl, ?_⟩
  intro I oI C oC D m₂ h tk E' hC h1 h2 h3 h4 F N off ne
  refine wpAny_mono (k i ys nx hi hk ht t0 t1 t2 t3 I oI C oC D m₂ h tk E' hC h1 h2 h3 h4 F N off ne) (fun y s' he => ?_) fun _ _ x => x
  refine ob_eee (he) ?_
  clear he
  intro h' tk' nx' hq0
  refine ob_aaaaa hq0 ?_
  clear hq0
  intro er1 F' N' off' hS hT
  subst er1
  refine ⟨h', tk', nx', rfl, F', N', off', .inr ⟨_, hS _ hl, rfl, _, rfl⟩, hS, ?_⟩
  rw [List.range_succ, List.map_append]
  exact hT
theorem comp_held {h₀ : Heap} {L I C D : Addr} {m : Str → Option Value} {s₁ : Shared} {oI oC oD : Obj} {S : Led → Prop} {rest : Value → Led → Prop} {y : Value} {h' : Heap} {tk : Nat} {all : Led} (F : Fr h₀ L h' m) (N : News h₀ L h' all)
    (h : Held (∃ nx, (∀ p ∈ (I, oI) :: (C, oC) :: (D, oD) :: nx, p ∈ all) ∧ LCg.Off3 I C D nx ∧ S nx ∧ rest y nx)) : LCg.CompEnd h₀ L m s₁ I oI C oC D oD S rest y { s₁ with heap := h', toks := tk } :=
  let ⟨nx, a, b, c, d⟩ := h; LCg.CompEnd.intro F N nx a b c d
noncomputable def sayR (fs : Nat → File) (k : Nat) : Bool × Bool × Int := (decide (((fs k).nu : Int).fdiv 4096 = 4), decide (((fs k).nu : Int).fdiv 4096 = 10), ((fs k).nu : Int).fmod 4096)
theorem says_eq (n : Nat) (hn : n < 65536) : (Builtin.bitAnd (n : Int) 61440 == 16384) = decide ((n : Int).fdiv 4096 = 4) ∧ (Builtin.bitAnd (n : Int) 61440 == 40960) = decide ((n : Int).fdiv 4096 = 10) ∧ Builtin.bitAnd (n : Int) 4095 = (n : Int).fmod 4096 := by
  have hd : (n : Int).fdiv 4096 = ((n / 4096 : Nat) : Int) := fdn n 4096
  have hm : (n : Int).fmod 4096 = ((n % 4096 : Nat) : Int) := fmn n 4096
  have hb : Builtin.bitAnd (n : Int) 61440 = ((n / 4096 * 4096 : Nat) : Int) := by
    rw [← band_hi n hn]; exact band n 61440
  have hl : Builtin.bitAnd (n : Int) 4095 = ((n % 4096 : Nat) : Int) := by
    rw [← band_lo n]; exact band n 4095
  rw [hd, hm, hb, hl]
  refine ⟨?_, ?_, rfl⟩
  · rw [Bool.eq_iff_iff, beq_iff_eq, decide_eq_true_eq]; omega
  · rw [Bool.eq_iff_iff, beq_iff_eq, decide_eq_true_eq]; omega
theorem ring_max {fs : Nat → File} {ring : Bool} {M : Int} (hring : ring = true ↔ ∃ k, k < 6 ∧ dep fs 7 k = 7) (hM : M ∈ List.map (fun j => ((j : Nat) : Int)) (List.map (dep fs 7) (List.range 6))) (hMx : ∀ a : Int, a ∈ List.map (fun j => ((j : Nat) : Int)) (List.map (dep fs 7) (List.range 6)) → a ≤ M) : ring = (M == 7) := by
  rw [Bool.eq_iff_iff, hring, beq_iff_eq]
  constructor
  · intro hZ
    refine ob_ea hZ ?_
    clear hZ
    intro k hk h7
    have h1 := hMx ((dep fs 7 k : Nat) : Int) (List.mem_map_of_mem (List.mem_map_of_mem (List.mem_range.mpr hk)))
    refine ob_ea (List.mem_map.mp hM) ?_
    intro d hd er2
    subst er2
    refine ob_ea (List.mem_map.mp hd) ?_
    intro k' hk' er3
    subst er3
    have := dep_le fs 7 k'
    omega
  · rintro rfl
    refine ob_ea (List.mem_map.mp hM) ?_
    intro d hd e
    refine ob_ea (List.mem_map.mp hd) ?_
    intro k' hk' er4
    subst er4
    exact ⟨k', List.mem_range.mp hk', by omega⟩
end Mine
end
section
open PySem PySem.W PyProof.Rows PySem.Spec PySem.Calls
set_option Elab.async false
set_option maxRecDepth 100000
set_option maxHeartbeats 4000000
set_option linter.unusedVariables false
namespace Mine
noncomputable def g2 : Bool → List Nat → List Nat
  | _, [] => []
  | sk, c :: r => if sk = true ∧ c = 10 then g2 false r else if c = 13 then 13 :: 10 :: g2 true r else if c = 10 then 13 :: 10 :: g2 false r else c :: g2 false r
noncomputable def g1 : Bool → List Nat → List Nat
  | _, [] => []
  | b, c :: r => if b = true ∧ c = 46 then 46 :: 46 :: g1 false r else c :: g1 (c == 10) r
theorem g2_true : ∀ {r : List Nat}, r.head? ≠ some 10 → g2 true r = g2 false r
  | [], _ => rfl
  | c :: r, h => by
    have hc : c ≠ 10 := fun e => h (by rw [e]; rfl)
    simp [g2, hc]
noncomputable abbrev NoNl (a : List Nat) : Prop := ∀ c ∈ a, c ≠ 10 ∧ c ≠ 13
theorem g2_clean : ∀ {a r : List Nat}, NoNl a → g2 false (a ++ r) = a ++ g2 false r
  | [], _, _ => rfl
  | c :: a, r, h => by
    have hc := h c (.head _)
    rw [List.cons_append, List.cons_append, ← g2_clean (a := a) fun x hx => h x (.tail _ hx)]
    simp [g2, hc.1, hc.2]
noncomputable abbrev IsEnd (e : List Nat) : Prop := e = [10] ∨ e = [13] ∨ e = [13, 10]
theorem g2_end {e r : List Nat} (he : IsEnd e) (hr : r.head? ≠ some 10) : g2 false (e ++ r) = 13 :: 10 :: g2 false r := by
  rcases he with rfl | rfl | rfl
  · simp [g2]
  · simp [g2, g2_true hr]
  · simp [g2]
theorem g1_clean : ∀ {a r : List Nat}, NoNl a → g1 false (a ++ r) = a ++ g1 false r
  | [], _, _ => rfl
  | c :: a, r, h => by
    have hc := h c (.head _)
    have hb : (c == 10) = false := by simpa using hc.1
    rw [List.cons_append, List.cons_append, ← g1_clean (a := a) fun x hx => h x (.tail _ hx)]
    simp [g1, hb]
noncomputable def dt (a : List Nat) : List Nat := if a.head? = some 46 then 46 :: a else a
theorem g1_line {a r : List Nat} (h : NoNl a) (hne : a ≠ []) : g1 true (a ++ r) = dt a ++ g1 false r := by
  cases a with
  | nil => exact absurd rfl hne
  | cons c a =>
    have hc := h c (.head _)
    have ih : g1 false (a ++ r) = a ++ g1 false r := g1_clean fun x hx => h x (.tail _ hx)
    have hb : (c == 10) = false := by simpa using hc.1
    by_cases h46 : c = 46
    · subst h46
      simp [g1, dt, ih]
    · simp [g1, dt, ih, h46, hb]
theorem g1_crlf (b : Bool) (r : List Nat) : g1 b (13 :: 10 :: r) = 13 :: 10 :: g1 true r := by simp [g1]
section
variable (A E : Nat → List Nat) (o : Bool)
noncomputable def tx : List Nat → List Nat
  | [] => []
  | k :: r => A k ++ ((if r = [] ∧ o = true then [] else E k) ++ tx r)
noncomputable def tn : List Nat → List Nat
  | [] => []
  | k :: r => A k ++ ((if r = [] ∧ o = true then [] else [13, 10]) ++ tn r)
noncomputable def td : List Nat → List Nat
  | [] => []
  | k :: r => dt (A k) ++ ((if r = [] ∧ o = true then [] else [13, 10]) ++ td r)
end
section
variable {A E : Nat → List Nat} {o : Bool}
theorem tx_head (hA : ∀ k, k < 6 → A k ≠ [] ∧ NoNl (A k)) : ∀ {r : List Nat}, (∀ k ∈ r, k < 6) → (tx A E o r).head? ≠ some 10
  | [], _ => by simp [tx]
  | k :: r, h => by
    obtain ⟨h1, h2⟩ := hA k (h k (.head _))
    unfold tx
    cases q : A k with
    | nil => exact absurd q h1
    | cons c a =>
      have := (h2 c (by rw [q]; exact .head _)).1
      simpa using this
theorem g2_tx (hA : ∀ k, k < 6 → A k ≠ [] ∧ NoNl (A k)) (hE : ∀ k, k < 6 → IsEnd (E k)) : ∀ {r : List Nat}, (∀ k ∈ r, k < 6) → g2 false (tx A E o r) = tn A o r
  | [], _ => rfl
  | k :: r, h => by
    obtain ⟨h1, h2⟩ := hA k (h k (.head _))
    have ih := g2_tx hA hE (r := r) fun x hx => h x (.tail _ hx)
    unfold tx tn
    rw [g2_clean h2]
    congr 1
    split
    · rename_i hc
      rw [hc.1]; rfl
    · rw [g2_end (hE k (h k (.head _))) (tx_head hA fun x hx => h x (.tail _ hx)), ih]; rfl
theorem g1_tn (hA : ∀ k, k < 6 → A k ≠ [] ∧ NoNl (A k)) : ∀ {r : List Nat}, (∀ k ∈ r, k < 6) → g1 true (tn A o r) = td A o r
  | [], _ => rfl
  | k :: r, h => by
    obtain ⟨h1, h2⟩ := hA k (h k (.head _))
    have ih := g1_tn hA (r := r) fun x hx => h x (.tail _ hx)
    unfold tn td
    rw [g1_line h2 h1]
    congr 1
    split
    · rename_i hc
      rw [hc.1]; rfl
    · rw [show [13, 10] ++ tn A o r = 13 :: 10 :: tn A o r from rfl, g1_crlf, ih]; rfl
theorem tn_len (hA : ∀ k, k < 6 → (A k).length ≤ 24) : ∀ {r : List Nat}, (∀ k ∈ r, k < 6) → (tn A o r).length ≤ 26 * r.length
  | [], _ => by simp [tn]
  | k :: r, h => by
    have h1 := hA k (h k (.head _))
    have ih := tn_len hA (r := r) fun x hx => h x (.tail _ hx)
    unfold tn
    rw [List.length_append, List.length_append, List.length_cons]
    split
    · rw [List.length_nil]; omega
    · rw [show ([13, 10] : List Nat).length = 2 from rfl]; omega
theorem td_small (hA : ∀ k, k < 6 → ∀ c ∈ A k, c < 200) : ∀ {r : List Nat}, (∀ k ∈ r, k < 6) → ∀ c ∈ td A o r, c < 200
  | [], _, c, hc => by cases hc
  | k :: r, h, c, hc => by
    have h1 := hA k (h k (.head _))
    have ih := td_small hA (r := r) fun x hx => h x (.tail _ hx)
    unfold td at hc
    rcases List.mem_append.mp hc with hc | hc
    · unfold dt at hc
      split at hc
      · rcases List.mem_cons.mp hc with rfl | hc
        · decide
        · exact h1 c hc
      · exact h1 c hc
    rcases List.mem_append.mp hc with hc | hc
    · split at hc
      · cases hc
      · simp only [List.mem_cons, List.not_mem_nil, or_false] at hc
        omega
    · exact ih c hc
end
theorem join_cps (ps : List Str) : (Txt.join (Str.mk #[]) ps).cps.toList = (ps.map fun y => y.cps.toList).flatten := by
  show (Builtin.Str.glued (Str.mk #[]) ps).cps.toList = _
  rw [StrLaws.glued_eq_join]
  induction ps with
  | nil => rfl
  | cons x r ih =>
    cases r with
    | nil => simp [Str.join]
    | cons y r =>
      rw [show Str.join (Str.mk #[]) (x :: y :: r) = x ++ Str.mk #[] ++ Str.join (Str.mk #[]) (y :: r) from rfl, Str.cps_append, Str.cps_append, Array.toList_append, Array.toList_append, ih]
      simp
theorem getD_toArray (l : List Nat) (s : Nat) : l.toArray.getD s 0 = l.getD s 0 := by
  rw [Array.getD_eq_getD_getElem?, List.getElem?_toArray, List.getD_eq_getElem?_getD]
theorem drop_at {l : List Nat} {s : Nat} (h : s < l.length) : l.drop s = l.getD s 0 :: l.drop (s + 1) := by
  rw [List.drop_eq_getElem_cons h, List.getD_eq_getElem?_getD, List.getElem?_eq_getElem h]; rfl
theorem mid_list (l : List Nat) (d b : Nat) (hb : b ≤ l.length) : ((Rx.mid ⟨l.toArray⟩ d b).map fun y => y.cps.toList).flatten = (l.drop d).take (b - d) := by
  unfold Rx.mid
  split
  · simp [List.extract_eq_take_drop]
  · rename_i h
    rw [show b - d = 0 by omega]; rfl
theorem nl_none {l : List Nat} : ∀ (g s : Nat), s + g = l.length → Rx.nextNl l.toArray g s = none → g2 false (l.drop s) = l.drop s
  | 0, s, h, _ => by rw [List.drop_eq_nil_of_le (by omega)]; rfl
  | g + 1, s, h, e => by
    unfold Rx.nextNl at e
    split at e
    · cases e
    · rename_i hn
      have ih := nl_none g (s + 1) (by omega) e
      unfold Rx.isNl at hn
      rw [getD_toArray] at hn
      rw [drop_at (show s < l.length by omega)]
      simp only [Bool.or_eq_true, beq_iff_eq, not_or] at hn
      generalize l.getD s 0 = c at hn ⊢
      simp [g2, hn.1, hn.2, ih]
theorem nl_some {l : List Nat} : ∀ (g s p : Nat), s + g = l.length → Rx.nextNl l.toArray g s = some p → s ≤ p ∧ p < l.length ∧ g2 false (l.drop s) = (l.drop s).take (p - s) ++ 13 :: 10 :: g2 false (l.drop (p + Rx.nlLen l.toArray p))
  | 0, s, p, h, e => by cases e
  | g + 1, s, p, h, e => by
    unfold Rx.nextNl at e
    split at e
    · rename_i hn
      cases e
      refine ⟨Nat.le_refl _, by omega, ?_⟩
      rw [Nat.sub_self, List.take_zero, List.nil_append]
      unfold Rx.isNl at hn
      rw [getD_toArray] at hn
      simp only [Bool.or_eq_true, beq_iff_eq] at hn
      rw [drop_at (show s < l.length by omega)]
      unfold Rx.nlLen
      rw [getD_toArray, getD_toArray, List.size_toArray]
      rcases hn with hn | hn
      · rw [if_neg (by rw [hn]; omega), hn]
        simp [g2]
      · rw [hn]
        by_cases h2 : s + 1 < l.length ∧ l.getD (s + 1) 0 = 10
        · rw [if_pos ⟨rfl, h2⟩, drop_at h2.1, h2.2]
          simp [g2]
        · rw [if_neg (fun q => h2 q.2)]
          have : (l.drop (s + 1)).head? ≠ some 10 := fun q => by
            by_cases h3 : s + 1 < l.length
            · rw [drop_at h3] at q
              exact h2 ⟨h3, by simpa using q⟩
            · rw [List.drop_eq_nil_of_le (by omega)] at q
              cases q
          simp [g2, g2_true this]
    · rename_i hn
      obtain ⟨h1, h2, h3⟩ := nl_some g (s + 1) p (by omega) e
      unfold Rx.isNl at hn
      rw [getD_toArray] at hn
      simp only [Bool.or_eq_true, beq_iff_eq, not_or] at hn
      refine ⟨by omega, h2, ?_⟩
      rw [drop_at (show s < l.length by omega), show p - s = (p - (s + 1)) + 1 by omega, List.take_succ_cons, List.cons_append, ← h3]
      generalize l.getD s 0 = c at hn ⊢
      simp [g2, hn.1, hn.2]
theorem pieces2 {l : List Nat} {rep : Str} (hr : rep.cps.toList = [13, 10]) : ∀ (f d : Nat), l.length - d ≤ f → d ≤ l.length → ((Rx.pieces (nx2 ⟨l.toArray⟩) ⟨l.toArray⟩ rep f d).map fun y => y.cps.toList).flatten = g2 false (l.drop d)
  | 0, d, h, hd => by
    have : d = l.length := by omega
    subst this
    unfold Rx.pieces Rx.mid
    simp [g2]
  | f + 1, d, h, hd => by
    unfold Rx.pieces nx2
    rw [show (Str.mk l.toArray).cps.size = l.length from List.size_toArray ..]
    cases e : Rx.nextNl l.toArray (l.length - d) d with
    | none =>
      show ((Rx.mid _ d _).map _).flatten = _
      rw [mid_list l d l.length (Nat.le_refl _), nl_none _ _ (by omega) e, List.take_of_length_le (by simp)]
    | some p =>
      obtain ⟨h1, h2, h3⟩ := nl_some _ _ _ (by omega) e
      have hn : 1 ≤ Rx.nlLen l.toArray p ∧ p + Rx.nlLen l.toArray p ≤ l.length := by
        unfold Rx.nlLen
        rw [List.size_toArray]
        split <;> omega
      have ih := pieces2 hr f (p + Rx.nlLen l.toArray p) (by omega) hn.2
      show ((Rx.mid _ d p ++ [rep] ++ Rx.pieces (nx2 ⟨l.toArray⟩) _ rep f (p + Rx.nlLen l.toArray p)).map _).flatten = _
      rw [List.map_append, List.map_append, List.flatten_append, List.flatten_append, ih, mid_list l d p (by omega), h3]
      simp [hr]
theorem qSub2_list (l : List Nat) : (qSub2 ⟨l.toArray⟩).cps.toList = g2 false l := by
  unfold qSub2
  rw [join_cps, show (Str.mk l.toArray).cps.size = l.length from List.size_toArray .., pieces2 (by decide +kernel) _ _ (by omega) (by omega), List.drop_zero]
noncomputable def fl (l : List Nat) (s : Nat) : Bool := s == 0 || l.getD (s - 1) 0 == 10
theorem isDot_list (l : List Nat) (s : Nat) : Rx.isDot l.toArray s = (fl l s && l.getD s 0 == 46) := by
  unfold Rx.isDot fl
  rw [getD_toArray, getD_toArray]
theorem fl_succ (l : List Nat) (s : Nat) : fl l (s + 1) = (l.getD s 0 == 10) := by
  unfold fl
  simp
theorem dot_none {l : List Nat} : ∀ (g s : Nat), s + g = l.length → Rx.nextDot l.toArray g s = none → g1 (fl l s) (l.drop s) = l.drop s
  | 0, s, h, _ => by rw [List.drop_eq_nil_of_le (by omega)]; rfl
  | g + 1, s, h, e => by
    unfold Rx.nextDot at e
    split at e
    · cases e
    · rename_i hn
      have ih := dot_none g (s + 1) (by omega) e
      rw [fl_succ] at ih
      rw [isDot_list] at hn
      rw [drop_at (show s < l.length by omega)]
      generalize l.getD s 0 = c at hn ih ⊢
      simp only [Bool.and_eq_true, beq_iff_eq] at hn
      simp [g1, hn, ih]
theorem dot_some {l : List Nat} : ∀ (g s p : Nat), s + g = l.length → Rx.nextDot l.toArray g s = some p → s ≤ p ∧ p < l.length ∧ g1 (fl l s) (l.drop s) = (l.drop s).take (p - s) ++ 46 :: 46 :: g1 (fl l (p + 1)) (l.drop (p + 1))
  | 0, s, p, h, e => by cases e
  | g + 1, s, p, h, e => by
    unfold Rx.nextDot at e
    split at e
    · rename_i hn
      cases e
      refine ⟨Nat.le_refl _, by omega, ?_⟩
      rw [Nat.sub_self, List.take_zero, List.nil_append]
      rw [isDot_list] at hn
      rw [fl_succ, drop_at (show s < l.length by omega)]
      generalize l.getD s 0 = c at hn ⊢
      simp only [Bool.and_eq_true, beq_iff_eq] at hn
      obtain ⟨hn1, rfl⟩ := hn
      simp [g1, hn1]
    · rename_i hn
      obtain ⟨h1, h2, h3⟩ := dot_some g (s + 1) p (by omega) e
      rw [isDot_list] at hn
      refine ⟨by omega, h2, ?_⟩
      rw [fl_succ] at h3
      rw [drop_at (show s < l.length by omega), show p - s = (p - (s + 1)) + 1 by omega, List.take_succ_cons, List.cons_append, ← h3]
      generalize l.getD s 0 = c at hn ⊢
      simp only [Bool.and_eq_true, beq_iff_eq] at hn
      simp [g1, hn]
theorem pieces1 {l : List Nat} {rep : Str} (hr : rep.cps.toList = [46, 46]) : ∀ (f d : Nat), l.length - d ≤ f → d ≤ l.length → ((Rx.pieces (nx1 ⟨l.toArray⟩) ⟨l.toArray⟩ rep f d).map fun y => y.cps.toList).flatten = g1 (fl l d) (l.drop d)
  | 0, d, h, hd => by
    have : d = l.length := by omega
    subst this
    unfold Rx.pieces Rx.mid
    simp [g1]
  | f + 1, d, h, hd => by
    unfold Rx.pieces nx1
    rw [show (Str.mk l.toArray).cps.size = l.length from List.size_toArray ..]
    cases e : Rx.nextDot l.toArray (l.length - d) d with
    | none =>
      show ((Rx.mid _ d _).map _).flatten = _
      rw [mid_list l d l.length (Nat.le_refl _), dot_none _ _ (by omega) e, List.take_of_length_le (by simp)]
    | some p =>
      obtain ⟨h1, h2, h3⟩ := dot_some _ _ _ (by omega) e
      have ih := pieces1 (l := l) hr f (p + 1) (by omega) (by omega)
      show ((Rx.mid _ d p ++ [rep] ++ Rx.pieces (nx1 ⟨l.toArray⟩) _ rep f (p + 1)).map _).flatten = _
      rw [List.map_append, List.map_append, List.flatten_append, List.flatten_append, ih, mid_list l d p (by omega), h3]
      simp [hr]
theorem qSub1_list (l : List Nat) : (qSub1 ⟨l.toArray⟩).cps.toList = g1 true l := by
  unfold qSub1
  rw [join_cps, show (Str.mk l.toArray).cps.size = l.length from List.size_toArray .., pieces1 (by decide +kernel) _ _ (by omega) (by omega), List.drop_zero]
  rfl
end Mine
end
section
open PySem PySem.W PyProof.Rows PySem.Spec PySem.Calls
set_option Elab.async false
set_option maxRecDepth 100000
set_option maxHeartbeats 4000000
set_option linter.unusedVariables false
namespace Mine
theorem shown_len (ns : List Int) (k : Nat) : (shownOf (fsOf ns k).nu).length ≤ 20 := by
  rw [← shown_eq _ ((fsOf_ok ns).nu k)]
  have := fmText_len (fsOf ns k).nu
  omega
noncomputable abbrev cl (x : Str) : List Nat := x.cps.toList
theorem cl_app (a b : Str) : cl (a ++ b) = cl a ++ cl b := by
  show (a ++ b).cps.toList = _
  rw [Str.cps_append, Array.toList_append]
theorem cl_mk (x : Str) : x = ⟨(cl x).toArray⟩ := Str.ext' (by rw [Array.toArray_toList])
noncomputable abbrev Good (l : List Nat) : Prop := NoNl l ∧ ∀ c ∈ l, c < 200
theorem Good.app {a b : List Nat} (h : Good a) (h' : Good b) : Good (a ++ b) :=
  ⟨fun c hc => (List.mem_append.mp hc).elim (h.1 c) (h'.1 c), fun c hc => (List.mem_append.mp hc).elim (h.2 c) (h'.2 c)⟩
theorem fm_good : ∀ r ∈ fmRows, ∀ e ∈ r.2, Good (cl (Str.ofString e.2.2)) := by decide +kernel
theorem fmList_good (n : Int) (k : Nat) : ∀ y ∈ fmList n k, Good (cl y) := by
  intro y hy
  unfold fmList at hy
  obtain ⟨p, hp, rfl⟩ := List.mem_map.mp hy
  have hr : p.1 ∈ fmRows := List.mem_of_mem_take (List.fst_mem_of_mem_zipIdx hp)
  unfold fmPick
  cases q : p.1.2.find? (fmHit n p.2) with
  | some e => exact fm_good _ hr _ (List.mem_of_find?_eq_some q)
  | none => dsimp only; split <;> decide +kernel
theorem fmText_good (n : Nat) : Good (cl (fmText n)) := by
  unfold fmText cl
  rw [show Str.ofString "" = Str.mk #[] by decide +kernel, join_cps]
  have h := fmList_good (n : Int) 10
  constructor
  · intro c hc
    obtain ⟨l, hl, hcl⟩ := List.mem_flatten.mp hc
    obtain ⟨y, hy, rfl⟩ := List.mem_map.mp hl
    exact (h y hy).1 c hcl
  · intro c hc
    obtain ⟨l, hl, hcl⟩ := List.mem_flatten.mp hc
    obtain ⟨y, hy, rfl⟩ := List.mem_map.mp hl
    exact (h y hy).2 c hcl
theorem nm_good (i : Nat) : cl (nmTab i) ≠ [] ∧ Good (cl (nmTab i)) := by
  unfold nmTab
  split <;> decide +kernel
theorem en_good (i : Nat) : IsEnd (cl (enTab i)) := by
  unfold enTab
  split <;> decide +kernel
theorem file_at (ns : List Int) {k : Nat} (hk : k < 6) : (∃ i, (fsOf ns k).nm = nmTab i) ∧ ∃ j, (fsOf ns k).en = enTab j := by
  unfold fsOf
  rw [if_pos hk]
  exact ⟨⟨_, rfl⟩, ⟨_, rfl⟩⟩
theorem row_good (ns : List Int) {k : Nat} (hk : k < 6) : cl (rowOf (fsOf ns) k) ≠ [] ∧ Good (cl (rowOf (fsOf ns) k)) := by
  obtain ⟨⟨i, hi⟩, -⟩ := file_at ns hk
  unfold rowOf
  rw [hi, ← shown_eq _ ((fsOf_ok ns).nu k), cl_app, cl_app]
  have h1 := nm_good i
  refine ⟨fun e => ?_, (h1.2.app (by decide +kernel)).app (fmText_good _)⟩
  rw [List.append_eq_nil_iff, List.append_eq_nil_iff] at e
  exact h1.1 e.1.1
theorem dotted_cl {x : Str} (h : cl x ≠ []) : cl (dotted x) = dt (cl x) := by
  cases q : cl x with
  | nil => exact absurd q h
  | cons c r =>
    have hx := cl_mk x
    rw [q] at hx
    have hi : Txt.item x 0 = ⟨#[c]⟩ := by
      rw [hx, ← Str.append_empty ⟨(c :: r).toArray⟩]
      exact item_zero_left c r _
    have hd : Str.ofString "." = ⟨#[46]⟩ := by decide +kernel
    have hb : (Txt.item x 0 == Str.ofString ".") = true ↔ c = 46 := by
      rw [hi, hd, beq_iff_eq]
      constructor
      · intro e
        have := congrArg (fun s : Str => s.cps.toList) e
        simpa using this
      · rintro rfl; rfl
    unfold dotted dt
    by_cases h46 : c = 46
    · rw [if_pos (hb.mpr h46), cl_app, q, hd, if_pos (by rw [h46]; rfl)]
      rfl
    · rw [if_neg (fun e => h46 (hb.mp e)), q, if_neg (by simpa using h46)]
theorem piece_cl (ns : List Int) (row : List Nat) {k : Nat} (hk : k < 6) : cl (piece (fsOf ns) row k) = cl (rowOf (fsOf ns) k) ++ (if some k ≠ row.getLast? ∨ row.length % 2 = 0 then cl (fsOf ns k).en else []) := by
  unfold piece rowOf
  rw [cl_app, shown_eq _ ((fsOf_ok ns).nu k)]
  split
  · rfl
  · rw [show cl (Str.ofString "") = [] by decide +kernel]
theorem tx_cons (A E : Nat → List Nat) (o : Bool) (k : Nat) (r : List Nat) : tx A E o (k :: r) = A k ++ ((if r = [] ∧ o = true then [] else E k) ++ tx A E o r) := rfl
theorem text_cl (ns : List Int) (row : List Nat) : ∀ (s : List Nat), s.Nodup → (∀ k ∈ s, k < 6) → (s ≠ [] → s.getLast? = row.getLast?) → ∀ t : Str,
    cl (s.foldl (fun t k => t ++ piece (fsOf ns) row k) t) = cl t ++ tx (fun k => cl (rowOf (fsOf ns) k)) (fun k => cl (fsOf ns k).en) (decide (row.length % 2 = 1)) s
  | [], _, _, _, t => by simp [tx]
  | k :: r, hn, h6, hl, t => by
    have hk := h6 k (.head _)
    have hn' := List.nodup_cons.mp hn
    have hlast := hl (List.cons_ne_nil _ _)
    rw [List.foldl_cons, text_cl ns row r hn'.2 (fun x hx => h6 x (.tail _ hx)) (fun hr => by
      rw [← hlast]
      cases r with
      | nil => exact absurd rfl hr
      | cons y r => rw [List.getLast?_cons_cons]), cl_app, piece_cl ns row hk]
    rw [tx_cons, List.append_assoc, List.append_assoc]
    congr 2
    congr 1
    cases r with
    | nil =>
      rw [List.getLast?_singleton] at hlast
      rw [← hlast]
      by_cases ho : row.length % 2 = 1
      · rw [if_neg (by simp; omega), if_pos ⟨rfl, by simpa using ho⟩]
      · rw [if_pos (.inr (by omega)), if_neg (by simp [ho])]
    | cons y r =>
      have hne : some k ≠ row.getLast? := by
        rw [← hlast, List.getLast?_cons_cons]
        intro e
        exact hn'.1 (List.mem_of_getLast? e.symm)
      rw [if_pos (.inl hne), if_neg (by simp)]
theorem plain_cl (ns : List Int) (o : Bool) : ∀ (s : List Nat), s ≠ [] → (∀ k ∈ s, k < 6) →
    cl (Str.join (Str.ofString "\r\n") (s.map fun k => dotted (rowOf (fsOf ns) k))) ++ (if o = true then [] else [13, 10]) = td (fun k => cl (rowOf (fsOf ns) k)) o s
  | [], h, _ => absurd rfl h
  | [k], _, h6 => by
    have hk := row_good ns (h6 k (.head _))
    unfold td td
    rw [List.append_nil, show Str.join (Str.ofString "\r\n") ([k].map fun k => dotted (rowOf (fsOf ns) k)) = dotted (rowOf (fsOf ns) k) from rfl, dotted_cl hk.1]
    cases o <;> simp
  | k :: y :: r, _, h6 => by
    have hk := row_good ns (h6 k (.head _))
    have ih := plain_cl ns o (y :: r) (List.cons_ne_nil _ _) fun x hx => h6 x (.tail _ hx)
    unfold td
    rw [← ih, show Str.join (Str.ofString "\r\n") ((k :: y :: r).map fun k => dotted (rowOf (fsOf ns) k)) = dotted (rowOf (fsOf ns) k) ++ Str.ofString "\r\n" ++ Str.join (Str.ofString "\r\n") ((y :: r).map fun k => dotted (rowOf (fsOf ns) k)) from rfl,
      cl_app, cl_app, dotted_cl hk.1, if_neg (show ¬ (y :: r = [] ∧ o = true) by simp), show cl (Str.ofString "\r\n") = [13, 10] by decide +kernel]
    simp only [List.append_assoc]
theorem quote_law (ns : List Int) {row : List Nat} (hne : row ≠ []) (hnd : row.Nodup) (h6 : ∀ k ∈ row, k < 6) (hl : row.length ≤ 6) :
    qSub1 (qSub2 (textOf (fsOf ns) row)) = plainOf (fsOf ns) row ∧ (textOf (fsOf ns) row).cps.size ≤ 500 ∧ (qSub2 (textOf (fsOf ns) row)).cps.size ≤ 1000 ∧ PyData.strOk (plainOf (fsOf ns) row) = true := by
  have hA : ∀ k, k < 6 → cl (rowOf (fsOf ns) k) ≠ [] ∧ NoNl (cl (rowOf (fsOf ns) k)) := fun k hk => ⟨(row_good ns hk).1, (row_good ns hk).2.1⟩
  have hE : ∀ k, k < 6 → IsEnd (cl (fsOf ns k).en) := fun k hk => by
    obtain ⟨-, j, hj⟩ := file_at ns hk
    rw [hj]; exact en_good j
  have ht : cl (textOf (fsOf ns) row) = tx (fun k => cl (rowOf (fsOf ns) k)) (fun k => cl (fsOf ns k).en) (decide (row.length % 2 = 1)) row := by
    unfold textOf
    rw [text_cl ns row row hnd h6 (fun _ => rfl), show cl (Str.ofString "") = [] by decide +kernel, List.nil_append]
  have h2 : cl (qSub2 (textOf (fsOf ns) row)) = tn (fun k => cl (rowOf (fsOf ns) k)) (decide (row.length % 2 = 1)) row := by
    rw [cl_mk (textOf (fsOf ns) row)]
    show (qSub2 ⟨(cl (textOf (fsOf ns) row)).toArray⟩).cps.toList = _
    rw [qSub2_list, ht, g2_tx hA hE h6]
  have h1 : cl (qSub1 (qSub2 (textOf (fsOf ns) row))) = td (fun k => cl (rowOf (fsOf ns) k)) (decide (row.length % 2 = 1)) row := by
    rw [cl_mk (qSub2 (textOf (fsOf ns) row))]
    show (qSub1 ⟨(cl (qSub2 (textOf (fsOf ns) row))).toArray⟩).cps.toList = _
    rw [qSub1_list, h2, g1_tn hA h6]
  have hp : cl (plainOf (fsOf ns) row) = td (fun k => cl (rowOf (fsOf ns) k)) (decide (row.length % 2 = 1)) row := by
    unfold plainOf
    rw [← plain_cl ns _ row hne h6, cl_app]
    congr 1
    · show cl (Builtin.Str.glued _ _) = _
      rw [StrLaws.glued_eq_join]
    · by_cases ho : row.length % 2 = 0
      · rw [if_pos ho, if_neg (by simp; omega)]; decide +kernel
      · rw [if_neg ho, if_pos (by simp; omega)]; decide +kernel
  refine ⟨?_, ?_, ?_, ?_⟩
  · rw [cl_mk (qSub1 _), cl_mk (plainOf _ _), h1, hp]
  · have := acc_len (fsOf_ok ns) row row (Str.ofString "")
    have h0 : (Str.ofString "").length = 0 := by decide +kernel
    show (textOf (fsOf ns) row).length ≤ 500
    unfold textOf
    omega
  · have hlen := tn_len (A := fun k => cl (rowOf (fsOf ns) k)) (o := decide (row.length % 2 = 1)) (fun k hk => (rowOf_len (fsOf_ok ns) (shown_len ns) k).2) h6
    rw [← h2] at hlen
    have : (qSub2 (textOf (fsOf ns) row)).cps.size = (cl (qSub2 (textOf (fsOf ns) row))).length := rfl
    omega
  · unfold PyData.strOk
    rw [Array.all_eq_true_iff_forall_mem]
    intro c hc
    have hs := td_small (A := fun k => cl (rowOf (fsOf ns) k)) (o := decide (row.length % 2 = 1)) (fun k hk => (row_good ns hk).2.2) h6 c (by rw [← hp]; exact Array.mem_toList_iff.mpr hc)
    simp only [decide_eq_true_eq]
    omega
theorem mem_told {fs : Nat → File} {row : List Nat} (h : row ∈ told fs) : row ≠ [] ∧ row.Nodup ∧ (∀ k ∈ row, k < 6) ∧ row.length ≤ 6 := by
  obtain ⟨h1, h2⟩ := List.mem_filter.mp h
  obtain ⟨d, hd, rfl⟩ := List.mem_map.mp h1
  refine ⟨by simpa using h2, level_nodup fs d, fun k hk => (mem_level.mp hk).1, ?_⟩
  have := nd_len _ (List.range 6) (level_nodup fs d) fun x hx => List.mem_range.mpr (mem_level.mp hx).1
  simpa using this
theorem told_len (fs : Nat → File) : (told fs).length ≤ 6 := by
  unfold told
  refine Nat.le_trans (List.length_filter_le _ _) ?_
  simp
end Mine
end
section
open PySem PySem.W PyProof.Rows PySem.Spec PySem.Calls
set_option Elab.async false
set_option maxRecDepth 100000
set_option maxHeartbeats 8000000
set_option linter.unusedVariables false
namespace Mine
theorem calm_L0 : True := by
  w_top off
  k_with_none
  trivial
section
variable {prog : Program} {w : World} {A : Around} {E : Value → Shared → Prop} {s : Shared} {h₀ : Heap} {L : Addr} {m : Str → Option Value} {news : Led} {Q : Value → Shared → Prop}
theorem iv_item {value slice : Expr} {l : Addr} {vs : List Value} {ks : List Nat} {n k j : Nat} {u : Tok} (N : News h₀ L s.heap news) (hm : (l, lstO vs n) ∈ news) (hv : IV vs ks) (hk : ks[k]? = some j) (hz : k ≤ 1000) (h : ∀ t, Q (.int (j : Nat) t) s)
    (hs : subscripted slice false (.ref l) (.int k u) = operate [.ref l, .int k u] (getItem (.ref l) (.int k u)) := by with_unfolding_all rfl) :
    wpAny (model prog w) A (subscriptTail value slice (.ref l) (.int (k : Nat) u)) Q E s := by
  obtain ⟨t, ht⟩ := hv.get hk
  exact item_at N hm (by omega) ht (h t) hs
end
theorem mem_front {p a b c d e : Addr × Obj} {nx : Led} (hp : p ∈ a :: b :: c :: d :: e :: nx) : p ∈ e :: a :: b :: c :: d :: nx := by
  simp only [List.mem_cons] at hp ⊢
  rcases hp with h | h | h | h | h | h
  · exact .inr (.inl h)
  · exact .inr (.inr (.inl h))
  · exact .inr (.inr (.inr (.inl h)))
  · exact .inr (.inr (.inr (.inr (.inl h))))
  · exact .inl h
  · exact .inr (.inr (.inr (.inr (.inr h))))
theorem mem_front3 {p a b c d : Addr × Obj} {nx : Led} (hp : p ∈ a :: b :: c :: d :: nx) : p ∈ d :: a :: b :: c :: nx := by
  simp only [List.mem_cons] at hp ⊢
  rcases hp with h | h | h | h | h
  · exact .inr (.inl h)
  · exact .inr (.inr (.inl h))
  · exact .inr (.inr (.inr (.inl h)))
  · exact .inl h
  · exact .inr (.inr (.inr (.inr h)))
theorem FrTurn {A₀ : Around} {outer : List Env} {base g h : Heap} {L : Addr} {m : Str → Option Value} (F : Fr g L h m) (B : Below A₀ base outer g) (ha : base.objs.size ≤ L) : Fr base L h m :=
  ⟨F.ns, fun b o e => F.keep b o (B.stays b o e), ha⟩
theorem Rows.get {led : Led} : ∀ {vs : List Value} {rs : List (List Nat)}, Rows led vs rs → ∀ {i : Nat} {v : Value}, vs[i]? = some v → ∃ a us n r, v = .ref a ∧ (a, lstO us n) ∈ led ∧ IV us r ∧ rs[i]? = some r
  | _, _, .cons h hv t, 0, v, e => by cases e; exact ⟨_, _, _, _, rfl, h, hv, rfl⟩
  | _, _, .cons h hv t, i + 1, v, e => t.get (i := i) (by simpa using e)
  | _, _, .nil, i, v, e => by cases i <;> cases e
local macro_rules | `(tactic| k_qdec) => `(tactic| decide +kernel)
local macro_rules | `(tactic| k_mem) => `(tactic| first | with_reducible assumption | (with_reducible refine memM ?_; with_reducible assumption))
local macro_rules | `(tactic| k_all) => `(tactic| first | with_reducible assumption | exact all_ne_lt (by with_reducible assumption) (by omega))
local macro_rules | `(tactic| walk_at "eval ListComp") => `(tactic| refine held ?_)
local macro_rules | `(tactic| walk_at "CompSrc") => `(tactic| refine held ?_)
local macro_rules | `(tactic| walk_at "CompEnd") => `(tactic| ((refine LCg.CompEnd.intro (by assumption) (by assumption) _ (fun p hp => hp) ?cOff (by lcg_src) ?_); (case cOff => first | with_reducible assumption | ((with_reducible rename _ ∧ LCg.Off3 _ _ _ _ => offZ); exact offZ))))
local macro_rules | `(tactic| walk_at "exec Assign cons ListComp") => `(tactic| ((with_reducible show wpAny _ _ (exec (Stmt.Assign _ (Expr.ListComp (Expr.Name _ _) _ _ _) _) _) _ _ _); refine held ?_))
local macro_rules | `(tactic| walk_at "CompSrcT") => `(tactic| refine held ?_)
local macro_rules | `(tactic| walk_at "SrcC") => `(tactic| refine held ?_)
local macro_rules | `(tactic| walk_at "exec Assign cons ListComp") => `(tactic| ((with_reducible show wpAny _ _ (exec (Stmt.Assign [Expr.Name (Str.ofString "coded") _] _ _) _) _ _ _); refine held ?_))
local macro_rules | `(tactic| walk_at "exec Assign cons ListComp") => `(tactic| ((with_reducible show wpAny _ _ (exec (Stmt.Assign [Expr.Name (Str.ofString "says") _] _ _) _) _ _ _); refine held ?_))
local macro_rules | `(tactic| walk_at "Src4") => `(tactic| refine held ?_)
theorem t_law : PySem.Challenge.rw_oy0305_01.Holds := hd (by
  k_go0
  all_goals (try k_fold)
  k_with_none
  k_with "call ref" => refine held ?_
  k_steps
  show wpAny _ _ _ _ _ _
  rename IntsAre _ _ => hI
  rename List Int => ns
  rename ¬ (_ : Int) < _ => hz
  with_reducible rename Below _ _ _ _ => B0
  with_reducible rename Fr _ _ _ _ => F0
  with_reducible rename News _ _ _ _ => N0
  with_reducible rename Frag.In _ _ => K0
  rename Heap.IsList _ _ _ => hl
  refine CtrH.use (c_files _ _ _ _ hI (by omega)) B0 F0 K0 N0 (by assumption) rfl hl (by decide) (by decide) ?_
  intro v nx1 h1 tk1 F1 N1 hZ
  refine ob_aeea hZ ?_
  clear hZ
  intro k1 lf fa er1 hf1
  subst er1
  clear F0 N0
  have c1 := k1 _ (.head _)
  have c2 := k1 _ (.tail _ (.head _))
  rename _ = Data.cell _ => d1
  rename _ = Data.cell _ => d2
  have hf2 := hf1.off N1 c2 (by first | exact d1 | exact d2)
  have c3 := mem_off c1 (show _ ≠ _ from Nat.succ_ne_self _)
  k_with "storeName" => (refine storeX_C (by assumption) (News.focus N1 c2) rfl (UpdF.head off_ne) (by first | exact d1 | exact d2) ?_ rfl rfl; intro h2 o2 F2 N2 d3; refine held ?_)
  k_steps
  show wpAny _ _ _ _ _ _
  k_with_none
  k_with "call ref" => refine held ?_
  clear N1 F1
  k_steps
  show wpAny _ _ _ _ _ _
  refine CtrT.use (c_rounds _ lf _ fa (fsOf_ok _).ah) B0 (by assumption) K0 (by assumption) (by assumption) K0 (by assumption) ktsDicts_nil rfl (hf2.mono fun p hp => .tail _ hp) (by decide) (by decide) ?_
  intro v nx4 h4 tk4 g4 T4 F4 N4 B4 hZ
  refine ob_a hZ ?_
  clear hZ
  intro k4 hq0
  refine ob_eeeeee hq0 ?_
  clear hq0
  intro t4 lr n4 vr ln ring hq1
  refine ob_aaaa hq1 ?_
  clear hq1
  intro er2 m4 m5 hrows hring
  subst er2
  clear F2 N2
  have K4 := K0.keeps B4.stays
  have P4 := Top.keeps (by assumption) B4.stays
  have c5 := k4 _ (.tail _ c3)
  have c6 := k4 _ (.head _)
  have hf5 := hf2.mono fun p hp => k4 _ (.tail _ hp)
  clear K0 hf2 hf1
  k_steps
  show wpAny _ _ _ _ _ _
  refine LCg.ListComp_U (F₀ := by assumption) (by with_unfolding_all rfl) (by decide) (by rfl) (by decide) (by rfl) ?_
  k_steps
  rename IsRange _ _ _ _ _ _ _ _ => hr
  refine LCg.CompSrc.range (n := 6) (by rfl) (by assumption) (by assumption) hr (by decide) (by decide) (by decide) ?_
  intro gq
  refine comp_inv (n := 6) (fun i ys nx => nx = nx4 ∧ IV ys ((List.range i).map (dep (fsOf ns) 7))) ?_ ?_ 6 0 [] _ (by omega) ⟨rfl, .nil⟩
  · rintro i ys nx hi ⟨rfl, hys⟩ v I oI C oC D m₂ h5 tk5 E' ⟨tv, rfl⟩ hC hx F5 N5 off ne
    have hf6 := FilesIn.inN N5 hf5 (fun p hp => .tail _ (.tail _ (.tail _ hp)))
    k_steps
    show wpAny _ _ _ _ _ _
    rw [show (0 : Int) + (i : Nat) = (i : Nat) from Int.zero_add _]
    refine Ctr0.use (Ctr.to0 (b := 20) (by decide) (c_depth _ lf (fsOf ns) fa i tv hi (fsOf_ok ns).ah)) (by assumption) (by assumption) (by assumption) (by assumption) (by assumption) rfl hf6 (by decide) (by decide) ?_
    intro v nx7 h7 tk7 F7 N7 hZ
    refine ob_ae hZ ?_
    clear hZ
    intro er3 t7 er4
    subst er3
    subst er4
    k_steps
    rw [List.range_succ, List.map_append]
    exact hys.snoc _ _
  · rintro ys nx ⟨rfl, hys⟩
    k_with "storeName" => (refine st_cell (by assumption) (by assumption) rfl (.tail _ c5) (by assumption) ?_ rfl rfl; intro h8 nx8 o8 F8 N8 m8 d8 k8)
    k_steps
    show wpAny _ _ _ _ _ _
    have hf9 := (hf5.off (by assumption : News _ _ _ nx) c5 (by assumption)).mono fun p hp => k8 p (.tail _ (off_sub hp)) (off_ne p hp)
    have hrow8 := (hrows.off (by assumption : News _ _ _ nx) c5 (by assumption)).mono fun p hp => k8 p (.tail _ (off_sub hp)) (off_ne p hp)
    have hrl := k8 _ (.tail _ m5) (cell_ne (by assumption : News _ _ _ nx) c5 (by assumption) m5 (fun v e => by cases e))
    with_reducible rename News _ _ _ (_ :: nx) => N6
    have hdl := k8 _ (List.Mem.head _) (cell_ne N6 (o' := LCg.lst ys) (List.Mem.tail _ c5) (by assumption) (List.Mem.head _) (fun v e => by cases e))
    have c7 := k8 _ (.tail _ c6) (Ne.symm (Nat.succ_ne_self _))
    k_with_none
    k_steps
    show wpAny _ _ _ _ _ _
    refine LCt.Assign_ListComp_T (F₀ := by assumption) (by rfl) (by with_unfolding_all rfl) (by with_unfolding_all rfl) (by decide) (by rfl) (by decide) (by rfl) (by rfl) (by rfl) ?_
    k_steps
    show wpAny _ _ _ _ _ _
    with_reducible rename Fr _ _ _ _ => F8
    with_reducible rename News _ _ _ nx8 => N8
    refine ListComp_C (n := 6) F8 (by rfl) (by with_unfolding_all rfl) (by rfl) (by decide) (fun k => rfl) (fun h => rfl) (fun C cs => rfl) (by decide) ?_
    k_steps
    rename IsRange _ _ _ _ _ _ _ _ => hr6
    refine SrcC.intro (by assumption) (by assumption) hr6 (by decide) (by decide) (fun i ys nx => Rows nx ys ((List.range i).map (level (fsOf ns))) ∧ ∀ p ∈ nx8, p ∈ nx) ⟨.nil, fun p hp => hp⟩ ?_ ?_
    · rintro i ys nx hi ⟨hrw, hk⟩ I oI C oC D c oc t g tk E' hd F9 N9 off ne hoff
      with_reducible rename Top _ _ _ _ _ _ => T8
      refine LCt.ListComp_T (F₀ := F9) (by with_unfolding_all rfl) (by decide) (by rfl) (by decide) (by rfl) ?_
      k_steps
      with_reducible rename IsRange _ _ _ _ _ _ _ _ => hr7
      refine LCt.CompSrcT.range (n := 6) (by rfl) (by assumption) (by assumption) hr7 (by decide) (by decide) (by decide) ?_
      intro gq
      refine comp_invT (n := 6) (fun k ys' nx' => nx' = (I, oI) :: (C, oC) :: (D, LCg.lst ys) :: (c, oc) :: nx ∧ IV ys' ((List.range k).filter fun j => decide (dep (fsOf ns) 7 j = i))) ?_ ?_ 6 0 [] _ (by omega) ⟨rfl, .nil⟩
      · rintro k ys' _ hk6 ⟨rfl, hys'⟩ v I2 oI2 C2 oC2 D2 m2 g2 tk2 E2 ⟨tv, rfl⟩ hC hx F5 N5 off2 ne2
        have m9 : _ ∈ (I2, oI2) :: (C2, oC2) :: (D2, LCg.lst ys') :: (I, oI) :: (C, oC) :: (D, LCg.lst ys) :: (c, oc) :: nx := .tail _ (.tail _ (.tail _ (.tail _ (.tail _ (.tail _ (.tail _ (hk _ m8)))))))
        have n9 : (c, oc) ∈ (I2, oI2) :: (C2, oC2) :: (D2, LCg.lst ys') :: (I, oI) :: (C, oC) :: (D, LCg.lst ys) :: (c, oc) :: nx := .tail _ (.tail _ (.tail _ (.tail _ (.tail _ (.tail _ (.head _))))))
        have l9 := hk _ hdl
        clear m8 hdl hf9 hrl c7 hf5
        k_with "subscriptTail Name Name ref int" => refine held ?_
        k_steps
        show wpAny _ _ _ _ _ _
        rw [show (0 : Int) + (k : Nat) = (k : Nat) from Int.zero_add _]
        refine iv_item (by assumption) (.tail _ (.tail _ (.tail _ (.tail _ (.tail _ (.tail _ (.tail _ l9))))))) (by assumption) (show ((List.range 6).map (dep (fsOf ns) 7))[k]? = some (dep (fsOf ns) 7 k) by simp [hk6]) (by omega) ?_
        intro t9
        clear l9
        k_with_none
        k_steps
        · rename (_ : Int) = _ => e9
          rw [List.range_succ, List.filter_append, Int.zero_add]
          rw [show List.filter (fun j => decide (dep (fsOf ns) 7 j = i)) [k] = [k] by simp [show dep (fsOf ns) 7 k = i by omega]]
          exact hys'.snoc _ _
        · rename (_ : Int) ≠ _ => e9
          rw [List.range_succ, List.filter_append]
          rw [show List.filter (fun j => decide (dep (fsOf ns) 7 j = i)) [k] = [] by simp [show ¬ dep (fsOf ns) 7 k = i by omega], List.append_nil]
          exact hys'
      · rintro ys' _ ⟨rfl, hys'⟩ D3 h3 tk3 F10 N10 o10
        refine ⟨_, _, (D3, LCg.lst ys') :: nx, rfl, F10, fun p hp => N10 p (mem_front hp), ⟨off.1, ⟨⟨Ne.symm o10.1, Ne.symm o10.2.1, Ne.symm o10.2.2.1⟩, off.2⟩⟩, List.forall_mem_cons.mpr ⟨Ne.symm o10.2.2.2.1, hoff⟩, ?_, fun p hp => .tail _ (hk p hp)⟩
        rw [List.range_succ, List.map_append]
        exact (hrw.mono fun p hp => .tail _ hp).snoc (.head _) hys'
    · rintro D ys nx g tk F9 N9 o1 ⟨hrw, hk⟩
      have hyl := hrw.length
      rw [List.length_map, List.length_range] at hyl
      refine LCt.CompSrcT.ledger (by rfl) F9 N9 (.head _) (by rw [List.size_toArray, hyl, sizeLine_eq]; omega) ?_
      intro gq
      refine comp_invT (n := ys.toArray.size) (fun i zs nx' => nx' = (D, LCg.lst ys) :: nx ∧ Rows nx zs (((List.range i).map (level (fsOf ns))).filter fun r => decide (r ≠ []))) ?_ ?_ ys.toArray.size 0 [] _ (by omega) ⟨rfl, .nil⟩
      · rintro i zs _ hi ⟨rfl, hzs⟩ v I2 oI2 C2 oC2 D2 m2 g2 tk2 E2 hP hC hx F5 N5 off2 ne2
        rw [List.getElem?_toArray] at hP
        rw [List.size_toArray, hyl] at hi
        refine ob_eeee (hrw.get hP) ?_
        intro a us n r hq0
        refine ob_aaa hq0 ?_
        clear hq0
        intro er5 ha hu hr
        subst er5
        rw [List.getElem?_map, List.getElem?_range hi] at hr
        cases hr
        clear m8 hdl hf9 hrl c7 hf5
        k_with_none
        k_with "compareOp NotEq ref ref" => refine held ?_
        k_with "CompEnd" => refine held ?_
        k_with "eval List nil" => (refine list_nil (by assumption) (by assumption) ?_; intro h6 D6 F6 N6)
        k_steps
        show wpAny _ _ _ _ _ _
        refine ke_ne_ints (News.lst (by assumption) (.tail _ (.tail _ (.tail _ (.tail _ (.tail _ ha)))))) (News.lst (by assumption) (.head _)) hu.ints (IV.ints .nil) (by ke_room) ?_
        k_steps
        · rename _ = _ => e9
          refine LCg.CompEnd.intro F6 N6 ((D, LCg.lst ys) :: nx) (fun p hp => .tail _ hp) off2 (.inr ⟨_, .head _, rfl, _, rfl⟩) ⟨rfl, ?_⟩
          rw [List.range_succ, List.map_append, List.filter_append]
          rw [show ([i].map (level (fsOf ns))).filter (fun r => decide (r ≠ [])) = [] by simp [List.map_eq_nil_iff.mp e9], List.append_nil]
          exact hzs
        · rename ¬ _ = _ => e9
          refine LCg.CompEnd.intro F6 N6 ((D, LCg.lst ys) :: nx) (fun p hp => .tail _ hp) off2 (.inr ⟨_, .head _, rfl, _, rfl⟩) ⟨rfl, ?_⟩
          rw [List.range_succ, List.map_append, List.filter_append]
          rw [show ([i].map (level (fsOf ns))).filter (fun r => decide (r ≠ [])) = [level (fsOf ns) i] by
            have : level (fsOf ns) i ≠ [] := fun e => e9 (by rw [e])
            simp [this]]
          exact hzs.snoc ha hu
      · rintro zs _ ⟨rfl, hzs⟩ D9 h9 tk9 F11 N11 o11
        rw [List.size_toArray, hyl] at hzs
        replace hzs : Rows nx zs (told (fsOf ns)) := hzs
        k_with_none
        have m10 : _ ∈ (D9, LCg.lst zs) :: (D, LCg.lst ys) :: nx := .tail _ (.tail _ (hk _ m8))
        have l10 : _ ∈ (D9, LCg.lst zs) :: (D, LCg.lst ys) :: nx := .tail _ (.tail _ (hk _ hdl))
        have r10 : _ ∈ (D9, LCg.lst zs) :: (D, LCg.lst ys) :: nx := .tail _ (.tail _ (hk _ hrl))
        have c10 : _ ∈ (D9, LCg.lst zs) :: (D, LCg.lst ys) :: nx := .tail _ (.tail _ (hk _ c7))
        have f10 := hf9.mono fun p hp => (show p ∈ (D9, LCg.lst zs) :: (D, LCg.lst ys) :: nx from .tail _ (.tail _ (hk _ hp)))
        k_with "call builtin:max cons nil" => refine held ?_
        k_with "compareOp NotEq ref ref" => refine held ?_
        k_steps
        show wpAny _ _ _ _ _ _
        refine kso_max (by assumption) (by assumption) (News.lst (by assumption) l10) hys.ints (by simp) rfl ?_
        intro h12 M t12 tk12 F12 N12 hM hMx
        have hMr := ring_max hring hM hMx
        walk1
        walk1
        walk1
        walk1
        walk1
        · rename (ring != (M == 7)) = true => e12
          rw [hMr] at e12
          simp at e12
        clear hM hMx hMr
        walk1
        walk1
        walk1
        walk1
        refine held ?_
        show wpAny _ _ _ _ _ _
        obtain ⟨_, rd2⟩ := Rows.reads N12 (hzs.mono fun p hp => (show p ∈ (D9, LCg.lst zs) :: (D, LCg.lst ys) :: nx from .tail _ (.tail _ hp)))
        obtain ⟨_, rd1⟩ := Rows.reads N12 (hrow8.mono fun p hp => (show p ∈ (D9, LCg.lst zs) :: (D, LCg.lst ys) :: nx from .tail _ (.tail _ (hk _ hp))))
        refine same_ne N12 r10 (.head _) rd1 rd2 (fun d hd => by obtain ⟨r, _, rfl⟩ := List.mem_map.mp hd; exact Sm.ints _) (by ke_room) ?_
        clear rd1 rd2
        k_with_none
        k_steps
        show wpAny _ _ _ _ _ _
        refine LCg.Assign_ListComp_U (F₀ := F12) (by rfl) (by with_unfolding_all rfl) (by with_unfolding_all rfl) (by decide) (by rfl) (by decide) (by rfl) (by rfl) (by rfl) ?_
        k_steps
        have hvl := hrow8.length
        have htl := told_len (fsOf ns)
        refine LCg.CompSrc.ledger (by rfl) (by assumption) N12 r10 (by rw [List.size_toArray, hvl, sizeLine_eq]; omega) ?_
        intro gq
        refine comp_inv (n := vr.toArray.size) (fun i qs nx' => nx' = (D9, LCg.lst zs) :: (D, LCg.lst ys) :: nx ∧ StrsAre qs (((told (fsOf ns)).take i).map fun r => plainOf (fsOf ns) r)) ?_ ?_ vr.toArray.size 0 [] _ (by omega) ⟨rfl, .nil⟩
        · rintro i qs _ hi ⟨rfl, hqs⟩ v I oI C oC D' m₂ g tk' E' hP hC hx F13 N13 off13 ne13
          rw [List.getElem?_toArray] at hP
          refine ob_eeee (hrow8.get hP) ?_
          intro a us un r hq0
          refine ob_aaa hq0 ?_
          clear hq0
          intro er6 ha hu hr
          subst er6
          refine ob_aaa (mem_told (List.mem_of_getElem? hr)) ?_
          intro q1 q2 q3 q4
          refine ob_aaa (quote_law ns q1 q2 q3 q4) ?_
          intro e1 e2 e3 e4
          have c13 : _ ∈ (I, oI) :: (C, oC) :: (D', LCg.lst qs) :: (D9, LCg.lst zs) :: (D, LCg.lst ys) :: nx := .tail _ (.tail _ (.tail _ c10))
          k_with "call ref" => refine held ?_
          k_steps
          show wpAny _ _ _ _ _ _
          have f13 := f10.mono fun p hp => (show p ∈ (I, oI) :: (C, oC) :: (D', LCg.lst qs) :: (D9, LCg.lst zs) :: (D, LCg.lst ys) :: nx from .tail _ (.tail _ (.tail _ hp)))
          refine Ctr0.use (c_text _ lf a (fsOf ns) _ us un r (fsOf_ok ns) hu q1 q2 q3) B4 F13 K4 N13 (by assumption) rfl ⟨f13, .tail _ (.tail _ (.tail _ (.tail _ (.tail _ (hk _ ha)))))⟩ (by decide) (by decide) ?_
          intro v nx14 h14 tk14 F14 N14 hZ
          refine ob_ae hZ ?_
          clear hZ
          intro er7 t14 er8
          subst er7
          subst er8
          k_steps
          show wpAny _ _ _ _ _ _
          refine Ctr0.use (Ctr.to0 (b := 20) (by decide) (c_quote _ _ t14 e2 e3)) B4 F14 K4 N14 (by assumption) rfl trivial (by decide) (by decide) ?_
          intro v nx15 h15 tk15 F15 N15 hZ
          refine ob_ae hZ ?_
          clear hZ
          intro er9 t15 er10
          subst er9
          subst er10
          rw [e1]
          k_steps
          rw [List.take_add_one, hr, List.map_append]
          exact strs_snoc hqs
        · rintro qs _ ⟨rfl, hqs⟩ D16 h16 tk16 F16 N16 o16
          rw [List.take_of_length_le (by rw [List.size_toArray, hvl]; exact Nat.le_refl _)] at hqs
          have m16 : _ ∈ (D16, LCg.lst qs) :: (D9, LCg.lst zs) :: (D, LCg.lst ys) :: nx := .tail _ m10
          have c16 : _ ∈ (D16, LCg.lst qs) :: (D9, LCg.lst zs) :: (D, LCg.lst ys) :: nx := .tail _ c10
          have f16 := f10.mono fun p hp => (show p ∈ (D16, LCg.lst qs) :: (D9, LCg.lst zs) :: (D, LCg.lst ys) :: nx from .tail _ hp)
          k_with_none
          k_with "compareOp NotEq ref ref" => refine held ?_
          k_steps
          show wpAny _ _ _ _ _ _
          refine LCg.ListComp_U (F₀ := F16) (by with_unfolding_all rfl) (by decide) (by rfl) (by decide) (by rfl) ?_
          k_steps
          have hzl := hzs.length
          refine LCg.CompSrc.ledger (by rfl) (by assumption) N16 (.tail _ (.head _)) (by rw [List.size_toArray, hzl, sizeLine_eq]; omega) ?_
          intro gq
          refine comp_inv (n := zs.toArray.size) (fun i us nx' => nx' = (D16, LCg.lst qs) :: (D9, LCg.lst zs) :: (D, LCg.lst ys) :: nx ∧ StrsAre us (((told (fsOf ns)).take i).map fun r => plainOf (fsOf ns) r)) ?_ ?_ zs.toArray.size 0 [] _ (by omega) ⟨rfl, .nil⟩
          · rintro i ps _ hi ⟨rfl, hps⟩ v I oI C oC D' m₂ g tk' E' hP hC hx F17 N17 off17 ne17
            rw [List.getElem?_toArray] at hP
            refine ob_eeee (hzs.get hP) ?_
            intro a us un r hq0
            refine ob_aaa hq0 ?_
            clear hq0
            intro er11 ha hu hr
            subst er11
            refine ob_aaa (mem_told (List.mem_of_getElem? hr)) ?_
            intro q1 q2 q3 q4
            have c17 : _ ∈ (I, oI) :: (C, oC) :: (D', LCg.lst ps) :: (D16, LCg.lst qs) :: (D9, LCg.lst zs) :: (D, LCg.lst ys) :: nx := .tail _ (.tail _ (.tail _ c16))
            k_with "call ref" => refine held ?_
            k_steps
            show wpAny _ _ _ _ _ _
            have f17 := f16.mono fun p hp => (show p ∈ (I, oI) :: (C, oC) :: (D', LCg.lst ps) :: (D16, LCg.lst qs) :: (D9, LCg.lst zs) :: (D, LCg.lst ys) :: nx from .tail _ (.tail _ (.tail _ hp)))
            refine Ctr0.use (c_plain _ lf a (fsOf ns) _ us un r (fsOf_ok ns) (shown_len ns) hu q1 q4 q3) B4 F17 K4 N17 (by assumption) rfl ⟨f17, .tail _ (.tail _ (.tail _ (.tail _ (.tail _ (.tail _ ha)))))⟩ (by decide) (by decide) ?_
            intro v nx18 h18 tk18 F18 N18 hZ
            refine ob_ae hZ ?_
            clear hZ
            intro er12 t18 er13
            subst er12
            subst er13
            k_steps
            rw [List.take_add_one, hr, List.map_append]
            exact strs_snoc hps
          · rintro ps _ ⟨rfl, hps⟩ D19 h19 tk19 F19 N19 o19
            rw [List.take_of_length_le (by rw [List.size_toArray, hzl]; exact Nat.le_refl _)] at hps
            obtain ⟨_, rq1⟩ := strs_reads hqs
            obtain ⟨_, rq2⟩ := strs_reads hps
            refine held ?_
            show wpAny _ _ _ _ _ _
            refine same_ne N19 (.tail _ (.head _)) (.head _) rq1 rq2 (fun d hd => by
              rw [List.map_map] at hd
              refine ob_ea (List.mem_map.mp hd) ?_
              intro r hr er14
              subst er14
              refine ob_aaa (mem_told hr) ?_
              intro q1 q2 q3 q4
              exact Sm.str (quote_law ns q1 q2 q3 q4).2.2.2) (by ke_room) ?_
            have c19 : _ ∈ (D19, LCg.lst ps) :: (D16, LCg.lst qs) :: (D9, LCg.lst zs) :: (D, LCg.lst ys) :: nx := .tail _ c16
            have f19 := f16.mono fun p hp => (show p ∈ (D19, LCg.lst ps) :: (D16, LCg.lst qs) :: (D9, LCg.lst zs) :: (D, LCg.lst ys) :: nx from .tail _ hp)
            clear rq1 rq2 f16 c16 f10 c10 l10 m10 r10 hqs hps hzs hrw hrow8
            k_steps
            show wpAny _ _ _ _ _ _
            refine Assign_ListComp_4 F19 (by rfl) (by rfl) (by with_unfolding_all rfl) (by with_unfolding_all rfl) (by rfl) (by decide) (fun k => rfl) (fun h => rfl) (by rfl) (by rfl) (by rfl) (by rfl) (by decide) (by rfl) (by rfl) ?_
            k_steps
            obtain ⟨nf, hfl⟩ := f19.lst
            refine Src4.intro (by assumption) N19 hfl (by simp) (fun i us nx' => (∀ p ∈ (D19, LCg.lst ps) :: (D16, LCg.lst qs) :: (D9, LCg.lst zs) :: (D, LCg.lst ys) :: nx, p ∈ nx') ∧ Thr nx' us ((List.range i).map (sayR (fsOf ns)))) ⟨fun p hp => hp, .nil⟩ ?_ ?_
            · intro g20
              refine files_turn (sayR (fsOf ns)) f19 hfl ?_
              intro i us nx' hi hk' hT t0 t1 t2 t3 I oI C oC D' m₂ h20 tk20 E' hC hx1 hx2 hx3 hx4 F20 N20 off20 ne20
              k_with "call ref" => refine held ?_
              k_with "CompEnd" => refine comp_held (by assumption) (by assumption) ?_
              k_steps
              show wpAny _ _ _ _ _ _
              refine Ctr0.use (Ctr.to0 (b := 20) (by decide) (c_isdir _ (fsOf ns i).nu t3)) B4 (by assumption) K4 (by assumption) (by assumption) rfl trivial (by decide) (by decide) ?_
              rintro v nx22 h22 tk22 F22 N22 ⟨rfl, rfl⟩
              k_steps
              show wpAny _ _ _ _ _ _
              refine Ctr0.use (Ctr.to0 (b := 20) (by decide) (c_islnk _ (fsOf ns i).nu t3)) B4 (by assumption) K4 (by assumption) (by assumption) rfl trivial (by decide) (by decide) ?_
              rintro v nx23 h23 tk23 F23 N23 ⟨rfl, rfl⟩
              k_steps
              show wpAny _ _ _ _ _ _
              refine Ctr0.use (Ctr.to0 (b := 20) (by decide) (c_imode _ (fsOf ns i).nu t3)) B4 (by assumption) K4 (by assumption) (by assumption) rfl trivial (by decide) (by decide) ?_
              intro v nx24 h24 tk24 F24 N24 hZ
              refine ob_ae hZ ?_
              clear hZ
              intro er15 t24 er16
              subst er15
              subst er16
              k_steps
              rename _ ∧ _ ∧ _ ∧ AllLt _ nx' => l25
              refine ob_aa (says_eq (fsOf ns i).nu ((fsOf_ok ns).nu i)) ?_
              intro s1 s2 s3
              refine ⟨_ :: nx', fun p hp => mem_front3 hp, ⟨⟨Nat.ne_of_gt l25.1, Nat.ne_of_gt l25.2.1, Nat.ne_of_gt l25.2.2.1⟩, off20⟩, (fun p hp => .tail _ (hk' p hp)), ?_⟩
              rw [show sayR (fsOf ns) i = (Builtin.bitAnd ((fsOf ns i).nu : Int) 61440 == 16384, Builtin.bitAnd ((fsOf ns i).nu : Int) 61440 == 40960, Builtin.bitAnd ((fsOf ns i).nu : Int) 4095) by unfold sayR; rw [s1, s2, s3]]
              exact (hT.mono fun p hp => .tail _ hp).snoc (.head _)
            · rintro g20 us nx' ⟨hk', hT⟩ D21 h21 tk21 F21 N21 o21
              rw [List.length_map, List.length_range] at hT
              have c21 : _ ∈ (D21, LCg.lst us) :: nx' := .tail _ (hk' _ c19)
              have f21 := f19.mono fun p hp => (show p ∈ (D21, LCg.lst us) :: nx' from .tail _ (hk' p hp))
              clear f19 c19 hfl
              k_with_none
              k_with "compareOp Eq ref ref" => refine held ?_
              k_steps
              show wpAny _ _ _ _ _ _
              refine ListComp_4 F21 (by rfl) (by with_unfolding_all rfl) (by rfl) (by decide) (fun k => rfl) (fun h => rfl) (by rfl) (by rfl) (by rfl) (by rfl) (by decide) ?_
              k_steps
              obtain ⟨nf, hfl⟩ := f21.lst
              refine Src4.intro (by assumption) N21 hfl (by simp) (fun i us' nx'' => (∀ p ∈ (D21, LCg.lst us) :: nx', p ∈ nx'') ∧ Thr nx'' us' ((List.range i).map (sayR (fsOf ns)))) ⟨fun p hp => hp, .nil⟩ ?_ ?_
              · intro g22
                refine files_turn (sayR (fsOf ns)) f21 hfl ?_
                intro i vs nx'' hi hk'' hT' t0 t1 t2 t3 I oI C oC D' m₂ h20 tk20 E' hC hx1 hx2 hx3 hx4 F20 N20 off20 ne20
                k_with_none
                k_with "CompEnd" => refine comp_held (by assumption) (by assumption) ?_
                k_steps
                rename _ ∧ _ ∧ _ ∧ AllLt _ nx'' => l26
                refine ⟨_ :: nx'', fun p hp => mem_front3 hp, ⟨⟨Nat.ne_of_gt l26.1, Nat.ne_of_gt l26.2.1, Nat.ne_of_gt l26.2.2.1⟩, off20⟩, (fun p hp => .tail _ (hk'' p hp)), ?_⟩
                rw [show sayR (fsOf ns) i = (((fsOf ns i).nu : Int).fdiv 4096 == 4, ((fsOf ns i).nu : Int).fdiv 4096 == 10, ((fsOf ns i).nu : Int).fmod 4096) by unfold sayR; rfl]
                exact (hT'.mono fun p hp => .tail _ hp).snoc (.head _)
              · rintro g22 vs nx'' ⟨hk'', hT'⟩ D23 h23 tk23 F23 N23 o23
                rw [List.length_map, List.length_range] at hT'
                obtain ⟨_, rt1⟩ := Thr.reads N23 (hT.mono fun p hp => (show p ∈ (D23, LCg.lst vs) :: nx'' from .tail _ (hk'' p (.tail _ hp))))
                obtain ⟨_, rt2⟩ := Thr.reads N23 (hT'.mono fun p hp => (show p ∈ (D23, LCg.lst vs) :: nx'' from .tail _ hp))
                refine held ?_
                show wpAny _ _ _ _ _ _
                refine same_eq N23 (.tail _ (hk'' _ (.head _))) (.head _) rt1 rt2 (fun d hd => by
                  refine ob_ea (List.mem_map.mp hd) ?_
                  intro r hr er17
                  subst er17
                  exact Sm.three _ _ _) (by ke_room) ?_
                k_with_none
                have FZ := FrTurn F23 B4 (Nat.le_refl _)
                show GoodW _ _ _ _ _ (.ok (.ret (.bool true))) _
                refine goodW_bool FZ (by assumption) (raisesW_false ?_) ?_
                · wrow_none_raised
                · wrow_post)
end Mine
end
theorem PySem.Challenge.cw_oy0305_01_holds : PySem.Challenge.rw_oy0305_01.Holds := by
  exact Mine.t_law
