import PyProof.Rows.All
import Wide.All
import OpenK.AllK
import Wide.FinOn
import Open.Tops
import PySem.Challenge.RW_dm0051_08
set_option Elab.async false
set_option linter.unusedVariables false
section
open PySem PySem.W PyProof.Rows PySem.Calls
set_option maxRecDepth 100000
set_option maxHeartbeats 8000000
namespace Mine
noncomputable abbrev AnyTy := (as : Array Nat) → (Nat → Bool) → Nat → Nat → Bool
noncomputable def newF : AnyTy → Builtin := by
  refine (?G : (F : AnyTy → Builtin) → F (@Array.any Nat) = PySem.W.Fast.tw4202317264376624991 → (AnyTy → Builtin)) ?F ?h
  case G => exact fun F _ => F
  case h =>
    delta PySem.W.Fast.tw4202317264376624991
    generalize @Array.any Nat = g
    exact Eq.refl _
theorem newF_eq : newF (@Array.any Nat) = PySem.W.Fast.tw4202317264376624991 := by kernel_rfl
noncomputable def fastAny : AnyTy := fun as p i j => match Nat.beq i 0 with
  | true => (match Nat.beq j as.size with | true => as.toList.any p | false => as.any p i j)
  | false => as.any p i j
theorem fastAny_eq : fastAny = @Array.any Nat := by
  funext as p i j
  unfold fastAny
  cases h : Nat.beq i 0 with
  | false => rfl
  | true =>
    cases h2 : Nat.beq j as.size with
    | false => rfl
    | true =>
      have e1 := Nat.eq_of_beq_eq_true h
      have e2 := Nat.eq_of_beq_eq_true h2
      subst e1 e2
      exact Array.any_toList
theorem new_eq : PySem.W.Fast.tw4202317264376624991 = newF fastAny := by
  rw [fastAny_eq, newF_eq]
end Mine
end
section
open PySem PySem.W PyProof.Rows PySem.Calls
set_option maxRecDepth 100000
set_option maxHeartbeats 8000000
namespace Mine
theorem of_list (s : String) : Str.ofString s = Str.mk (Array.mk (s.toList.map Char.toNat)) := by
  rw [Str.ofString_eq_byList]; rfl
noncomputable def docAt : List Stmt → Str
  | _ :: _ :: _ :: _ :: _ :: .ClassDef _ _ _ (.Expr (.Constant (.str s) _ _) _ :: _) _ _ _ _ _ _ _ :: _ => s
  | _ => default
noncomputable def cS : String := by
  refine (?G : (S : String) → Str.ofString S = docAt PySem.Challenge.pw_dm0051_08.main.body → String) ?S ?h
  case G => exact fun S _ => S
  case h =>
    delta PySem.Challenge.pw_dm0051_08
    dsimp only [docAt]
    exact Eq.refl _
noncomputable def cL : List Char := by
  refine (?G : (L : List Char) → cS.toList = L → List Char) ?L ?h
  case G => exact fun L _ => L
  case h =>
    delta cS
    show String.toList _ = _
    simp only [String.reduceToList]
    exact Eq.refl _
noncomputable def fd (s : String) : Str := Str.ofString s
theorem of_doc (s : String) (k : Nat) (p q : Pos) : Stmt.Expr (Expr.Constant (Const.str (Str.ofString s)) k p) q = Stmt.Expr (Expr.Constant (Const.str (fd s)) k p) q := rfl
noncomputable def P2 : Str → Program := by
  refine (?G : (F : Str → Program) → (∀ x, Str.ofString cS = x → PySem.Challenge.pw_dm0051_08 = F x) → (Str → Program)) ?F ?h
  case G => exact fun F _ => F
  case h =>
    intro x hx
    delta cS at hx
    replace hx : Str.ofString _ = x := hx
    delta PySem.Challenge.pw_dm0051_08
    show _ = _
    simp only [hx]
    simp only [of_doc]
    simp only [of_list, String.reduceToList, List.map_cons, List.map_nil, Char.reduceToNat]
    exact Eq.refl _
theorem P2_of : PySem.Challenge.pw_dm0051_08 = P2 (Str.ofString cS) := by kernel_rfl
theorem cS_list : cS = String.ofList cL := by kernel_rfl
noncomputable def mapN (l : List Char) : List Nat := List.rec (motive := fun _ => List Nat) [] (fun c _ ih => c.toNat :: ih) l
theorem mapN_eq : ∀ l : List Char, mapN l = l.map Char.toNat
  | [] => rfl
  | c :: l => by
    show c.toNat :: mapN l = c.toNat :: l.map Char.toNat
    rw [mapN_eq l]
noncomputable def fz (l : List Char) : Str := Str.mk (Array.mk (mapN l))
theorem of_cS : Str.ofString cS = fz cL := by
  unfold fz
  rw [of_list, cS_list, String.toList_ofList, mapN_eq]
noncomputable def cD : Str := fz cL
noncomputable def P1 : Program := by
  refine (?G : (F : Program) → F = P2 cD → Program) ?F ?h
  case G => exact fun F _ => F
  case h =>
    delta P2
    show _ = _
    exact Eq.refl _
theorem P1_two : P2 cD = P1 := by kernel_rfl
theorem P1_eq : PySem.Challenge.pw_dm0051_08 = P1 := by
  rw [P2_of, of_cS]; exact P1_two
end Mine
end
section
open PySem PySem.W PyProof.Rows PySem.Calls
set_option maxRecDepth 100000
set_option maxHeartbeats 8000000
namespace Mine
noncomputable def oA1 : Params → Obj := fun _ => { cls := Value.type "tuple", data := Data.seq #[] }
noncomputable def oA2 : Params → Obj := fun _ => { cls := Value.none, data := Data.fields #[] }
noncomputable def oA3 : Params → Obj := fun _ => { cls := Value.type "code", data := Data.fields #[Value.str (Str.ofString "<module>") 182, Value.str (Str.ofString "<module>") 183, Value.str (Str.ofString "/claim/cut.py") 184, Value.int 1 0, Value.int 0 0, Value.int 0 0, Value.int 0 0, Value.int 0 0, Value.ref 11, Value.bool false, Value.int 181 0, Value.ref 12, Value.none, Value.none, Value.none, Value.none, Value.int 185 0, Value.int 1 0, Value.str (Str.ofString "/claim/cut.py") 186] }
noncomputable def oA4 : Params → Obj := fun _ => { cls := Value.type "frame", slots := #[some (Value.ref 13), some (Value.ref 3), some (Value.ref 3), none, some (Value.str (Str.ofString "__main__") 164), none, some (Value.ref 0)] }
noncomputable def treeA : Params → BT := fun P =>
  BT.node (boot_o_0 P) (BT.node (boot_o_1 P) (BT.node (boot_o_3 P) (BT.node (boot_o_7 P) BT.nil BT.nil) (BT.node (oA1 P) BT.nil BT.nil)) (BT.node (boot_o_5 P) (BT.node (boot_o_9 P) BT.nil BT.nil) (BT.node (oA3 P) BT.nil BT.nil)))
    (BT.node (boot_o_2 P) (BT.node (boot_o_4 P) (BT.node (boot_o_8 P) BT.nil BT.nil) (BT.node (oA2 P) BT.nil BT.nil)) (BT.node (boot_o_6 P) (BT.node (boot_o_10 P) BT.nil BT.nil) (BT.node (oA4 P) BT.nil BT.nil)))
theorem treeA_self : treeA = treeA := rfl
end Mine
name_quick twTreeA for Mine.treeA by Mine.treeA_self
namespace Mine
noncomputable def envA : Env := { scope := PySem.Challenge.pw_dm0051_08.main.scope, locals := mainNs, globals := mainNs, cells := [], code := .ref 13, frame := some 14 }
noncomputable def envQ : Env := { scope := P1.main.scope, locals := mainNs, globals := mainNs, cells := [], code := .ref 13, frame := some 14 }
theorem envA_eq : envA = envQ := congrArg (fun p : Program => ({ scope := p.main.scope, locals := mainNs, globals := mainNs, cells := [], code := .ref 13, frame := some 14 } : Env)) P1_eq
noncomputable def annA : Option Value := some (.ref 6)
noncomputable def B0 : List Frame := [topFrame ⟨0, 0, 0, 0⟩]
noncomputable abbrev P0q : Program := P1
theorem P0q_eq : PySem.Challenge.pw_dm0051_08 = P0q := P1_eq
noncomputable def bQ : List Stmt := behindTheImports P0q
noncomputable def S1 (w : World) (os : OsState) : SharedT := ⟨PySem.W.Fast.twTreeA w.params, 15, {}, ⟨[]⟩, {}, 187, os⟩
noncomputable def T0 (b : List Stmt) : Thread := piecesOf bQ envQ (Code.body b envQ) ⟨0, 0, 0, 0⟩ B0
noncomputable def r2 (p : Program) (b : List Stmt) (w : World) (os : OsState) : Option (SharedT × Thread) :=
  PySem.W.Fast.tw10295753902157049106 PySem.W.Fast.tw14364793385576792824 p w 11 annA 1 1958 (S1 w os) (T0 b)
noncomputable def sh2 (p : Program) (b : List Stmt) (w : World) (os : OsState) : SharedT := match r2 p b w os with
  | some (s, _) => s
  | none => S1 w os
noncomputable def th2 (p : Program) (b : List Stmt) (w : World) (os : OsState) : Thread := match r2 p b w os with
  | some (_, t) => t
  | none => T0 b
theorem r2_some (p : Program) (b : List Stmt) (w : World) (os : OsState) : r2 p b w os = some (sh2 p b w os, th2 p b w os) := by kernel_rfl
noncomputable def argsOf : Code → Args
  | .builtin _ a => a
  | _ => {}
theorem th2_eq (p : Program) (b : List Stmt) (w : World) (os : OsState) : th2 p b w os =
    ⟨PySem.W.Fast.tw4202317264376624991 (argsOf (th2 p b w os).code), (th2 p b w os).code, (th2 p b w os).pos, (th2 p b w os).stack⟩ := by kernel_rfl
noncomputable def th2' (p : Program) (b : List Stmt) (w : World) (os : OsState) : Thread :=
  ⟨newF fastAny (argsOf (th2 p b w os).code), (th2 p b w os).code, (th2 p b w os).pos, (th2 p b w os).stack⟩
theorem th2_eq' (p : Program) (b : List Stmt) (w : World) (os : OsState) : th2 p b w os = th2' p b w os := by
  unfold th2'
  rw [← new_eq]
  exact th2_eq p b w os
noncomputable def r4v (p : Program) (b : List Stmt) (w : World) (os : OsState) : Option (Flow × SharedT × Code × Pos) :=
  PySem.W.Fast.tw10110043849684766642 PySem.W.Fast.tw14364793385576792824 p w 11 annA 1 215 (sh2 p b w os) (th2' p b w os)
noncomputable def worldOf (P : Params) : World := ⟨fun _ _ => 0, P⟩
noncomputable def osZ : OsState := {}
noncomputable def tree4 (P : Params) : BT := match r4v P0q bQ (worldOf P) osZ with
  | some (_, s, _, _) => s.1
  | none => PySem.W.Fast.twTreeA P
noncomputable def S4 (w : World) (os : OsState) : SharedT := ⟨tree4 w.params, 262, {}, ⟨[]⟩, {}, 595, os⟩
theorem r4 (w : World) (os : OsState) : r4v P0q bQ w os = some (.next, S4 w os, Code.body bQ envQ, ⟨439, 0, 479, 88⟩) := by kernel_rfl
theorem r5 (p : Program) (b : List Stmt) (w : World) (os : OsState) :
    PySem.W.Fast.tw14082659384304107361 PySem.W.Fast.tw14364793385576792824 p w 11 annA 2 (S4 w os).abs ⟨doneF .next, Code.body b envQ, ⟨439, 0, 479, 88⟩, B0⟩ = some (S4 w os).abs := by kernel_rfl
noncomputable def Sb (w : World) (os : OsState) : SharedT := ⟨PySem.W.Fast.twTreeA w.params, 15, {}, ⟨[]⟩, {}, 187, os⟩
theorem r0 (w : World) (os : OsState) :
    PySem.W.Fast.tw15667345088766844465 PySem.W.Fast.tw14364793385576792824 P0q w 11 annA 12 ⟨boot_heap w.params, ⟨[]⟩, boot_drawn, boot_toks, os⟩ (topStub P0q) =
      some ((Sb w os).abs, ⟨PySem.W.Fast.tw11892475500146522536 PySem.W.Fast.tw14364793385576792824 (Code.body bQ envQ), Code.body bQ envQ, ⟨0, 0, 0, 0⟩, B0⟩) := by kernel_rfl
theorem rB (p : Program) (w : World) (os : OsState) :
    PySem.W.Fast.tw14374325043358763698 PySem.W.Fast.tw14364793385576792824 p w 11 annA 1 1 (Sb w os).abs (blockOf bQ envQ (Code.body bQ envQ) ⟨0, 0, 0, 0⟩ B0) =
      some (.next, (Sb w os).abs, Code.body bQ envQ, ⟨0, 0, 0, 0⟩) := by kernel_rfl
theorem hsize (w : World) : ((boot_heap w.params).isNs mainGlobals && (⟨[]⟩ : Array GenState).size == 0, (boot_heap w.params).objs.size, (boot_heap w.params).nsMap mainGlobals "__annotations__") = (true, 11, annA) := by kernel_rfl
theorem hopen (N : Nat) (le : Nat.ble 600 N = true) : ∀ w : World, Option.map (fun s => (s.heap, s.gens, s.drawn, s.toks)) (fencedOpening treeTable PySem.Challenge.pw_dm0051_08 w N) = some (boot_heap w.params, ⟨[]⟩, boot_drawn, boot_toks) :=
  boot_open (by kernel_rfl) le (fun _ => by kernel_rfl)
open PySem.W.Fast in
theorem r0' (w : World) (os : OsState) : topGo treeTable PySem.Challenge.pw_dm0051_08 w 11 annA 12 ⟨boot_heap w.params, ⟨[]⟩, boot_drawn, boot_toks, os⟩ (topStub PySem.Challenge.pw_dm0051_08) =
      some ((⟨treeA w.params, 15, {}, ⟨[]⟩, {}, 187, os⟩ : SharedT).abs, ⟨denote treeTable (Code.body (behindTheImports PySem.Challenge.pw_dm0051_08) envA), Code.body (behindTheImports PySem.Challenge.pw_dm0051_08) envA, ⟨0, 0, 0, 0⟩, B0⟩) := by
  rw [te15667345088766844465, te14364793385576792824, P0q_eq, envA_eq, twTreeA_eq, te11892475500146522536]
  exact r0 w os
open PySem.W.Fast in
theorem rB' (p : Program) (w : World) (os : OsState) :
    segRun treeTable p w 11 annA 1 1 (⟨treeA w.params, 15, {}, ⟨[]⟩, {}, 187, os⟩ : SharedT).abs (blockOf (behindTheImports PySem.Challenge.pw_dm0051_08) envA (Code.body (behindTheImports PySem.Challenge.pw_dm0051_08) envA) ⟨0, 0, 0, 0⟩ B0) =
      some (.next, (⟨treeA w.params, 15, {}, ⟨[]⟩, {}, 187, os⟩ : SharedT).abs, Code.body (behindTheImports PySem.Challenge.pw_dm0051_08) envA, ⟨0, 0, 0, 0⟩) := by
  rw [te14374325043358763698, te14364793385576792824, P0q_eq, envA_eq, twTreeA_eq]
  exact rB p w os
open PySem.W.Fast in
theorem rAll (w : World) (os : OsState) :
    segRun treeTable PySem.Challenge.pw_dm0051_08 w 11 annA 1 (1958 + 215) (⟨treeA w.params, 15, {}, ⟨[]⟩, {}, 187, os⟩ : SharedT).abs (piecesOf (behindTheImports PySem.Challenge.pw_dm0051_08) envA (Code.body (behindTheImports PySem.Challenge.pw_dm0051_08) envA) ⟨0, 0, 0, 0⟩ B0) =
      some (.next, (S4 w os).abs, Code.body (behindTheImports PySem.Challenge.pw_dm0051_08) envA, ⟨439, 0, 479, 88⟩) := by
  have h2 := r2_some P0q bQ w os
  have h3 := r4 w os
  rw [th2_eq'] at h2
  unfold r2 at h2
  unfold r4v at h3
  rw [← te10295753902157049106, ← te14364793385576792824] at h2
  rw [← te10110043849684766642, ← te14364793385576792824] at h3
  have k := seg_go (segGo_of h2) (segRun_of h3)
  rw [P0q_eq, envA_eq, twTreeA_eq]
  exact k
open PySem.W.Fast in
theorem rF (p : Program) (b : List Stmt) (w : World) (os : OsState) :
    topRun treeTable p w 11 annA 2 (S4 w os).abs (restOf [] envA (Code.body b envA) ⟨439, 0, 479, 88⟩ B0) = some (S4 w os).abs := by
  refine piece_nil ?_
  rw [te14082659384304107361, te14364793385576792824, envA_eq]
  exact r5 p b w os
theorem runTop (w : World) (os : OsState) : topRun treeTable PySem.Challenge.pw_dm0051_08 w 11 annA (12 + (1 + ((1958 + 215) + 2))) ⟨boot_heap w.params, ⟨[]⟩, boot_drawn, boot_toks, os⟩ (topStub PySem.Challenge.pw_dm0051_08) =
    some (S4 w os).abs := by
  refine go_top (r0' w os) ?_
  refine piece_block (rB' _ w os) ?_
  have k := piece_app (rest := []) (rAll w os) (rF PySem.Challenge.pw_dm0051_08 (behindTheImports PySem.Challenge.pw_dm0051_08) w os)
  rw [List.append_nil] at k
  exact k
noncomputable def atB (p : Program) (i : Nat) : Stmt := p.main.body.getD i (.Pass ⟨0,0,0,0⟩)
noncomputable def qOf (p : Program) : Program := { p with main := { p.main with body := [atB p 0, atB p 2, atB p 3, atB p 4, atB p 5, atB p 7, atB p 8, atB p 9] } }
noncomputable def atV (i : Nat) : Stmt := PySem.Challenge.pw_dm0051_08.main.body.getD i (.Pass ⟨0,0,0,0⟩)
noncomputable def qV : Program := { PySem.Challenge.pw_dm0051_08 with main := { PySem.Challenge.pw_dm0051_08.main with body := [atV 0, atV 2, atV 3, atV 4, atV 5, atV 7, atV 8, atV 9] } }
noncomputable def qQ : Program := qOf P1
theorem qV_eq : qV = qQ := (show qV = qOf PySem.Challenge.pw_dm0051_08 by kernel_rfl).trans (congrArg qOf P1_eq)
noncomputable def looseN : List Str := [Str.ofString "_tuplegetter", Str.ofString "Match", Str.ofString "SequenceMatcher"]
noncomputable def XtOf (q : Program) : Shared → Bool := fun s => xlAt q [] s && recOk [] s
noncomputable def XtV : Shared → Bool := fun s => xlAt qV [] s && recOk (RowW.records PySem.Challenge.rw_dm0051_08.row.toRowW) s
theorem XtV_eq : XtV = XtOf qV := by kernel_rfl
theorem looseN_self : looseN = looseN := rfl
theorem XtOf_self : XtOf = XtOf := rfl
end Mine
lay_quick Mine.looseN Mine.XtOf
name_quick twLoose for Mine.looseN by Mine.looseN_self
name_quick twXt for Mine.XtOf by Mine.XtOf_self
namespace Mine
theorem look1 (w : World) (os : OsState) : (staticsOk (importedModules P0q.main.body) (boot_heap w.params) (S4 w os).abs.heap && namesBound P0q (S4 w os).abs.heap && gensDone (S4 w os).abs && laidKept (boot_heap w.params) (S4 w os).abs.heap) = true := by kernel_rfl
theorem look2 (w : World) (os : OsState) : PySem.W.Fast.tw4187177175401517315 qQ PySem.W.Fast.twLoose (PySem.W.Fast.tw5923862056798008813 P0q.main.body) (PySem.W.Fast.twXt qQ) true (S4 w os).abs = openGood qQ PySem.W.Fast.twLoose := by kernel_rfl
noncomputable def topHeap (P : Params) : Heap := absHeap (tree4 P) 262 {}
noncomputable def TopIn (w : World) (h : Heap) : Prop := ∀ b o, (topHeap w.params).get? b = some o → h.get? b = some o
open PySem.W.Fast in
theorem looks (w : World) : (fun os => ((staticsOk (importedModules PySem.Challenge.pw_dm0051_08.main.body) (boot_heap w.params) (topHeap w.params) && namesBound PySem.Challenge.pw_dm0051_08 (topHeap w.params) && gensDone ⟨topHeap w.params, ⟨[]⟩, {}, 595, os⟩ && laidKept (boot_heap w.params) (topHeap w.params)),
        openSeen qV looseN (importedModules PySem.Challenge.pw_dm0051_08.main.body) XtV true ⟨topHeap w.params, ⟨[]⟩, {}, 595, os⟩, (fun s : Shared => s.heap) ⟨topHeap w.params, ⟨[]⟩, {}, 595, os⟩)) = fun _ : OsState => (true, openGood qV looseN, topHeap w.params) := by
  funext os
  have a := look1 w os
  have b := look2 w os
  rw [← P0q_eq] at a b
  rw [← te4187177175401517315, ← qV_eq, ← twLoose_eq, ← te5923862056798008813, ← twXt_eq, ← XtV_eq] at b
  exact Prod.ext a (Prod.ext b rfl)
theorem left : LeftO PySem.Challenge.pw_dm0051_08 qV looseN XtV (fun s => s.heap) (fun w => topHeap w.params) 5000 :=
  LeftO.of_pieces (H₀ := boot_heap) (H₁ := topHeap) (gs₀ := ⟨[]⟩) (gs₁ := ⟨[]⟩) (d₀ := boot_drawn) (d₁ := {}) (k₀ := boot_toks) (k₁ := 595) (m₀ := 11) (ann := annA)
    (M := 12 + (1 + ((1958 + 215) + 2)))
    (hopen 5000 (by decide)) hsize (fun w os => runTop w os) (by decide) looks
open PySem.W.Fast in
theorem leftH (H : Hook) (e : ∀ (w : World) (os : OsState), H.obs ⟨topHeap w.params, ⟨[]⟩, {}, 595, os⟩ = H.val w) : LeftO PySem.Challenge.pw_dm0051_08 qV looseN XtV H.obs H.val 5000 :=
  LeftO.of_pieces (H₀ := boot_heap) (H₁ := topHeap) (gs₀ := ⟨[]⟩) (gs₁ := ⟨[]⟩) (d₀ := boot_drawn) (d₁ := {}) (k₀ := boot_toks) (k₁ := 595) (m₀ := 11) (ann := annA)
    (M := 12 + (1 + ((1958 + 215) + 2)))
    (hopen 5000 (by decide)) hsize (fun w os => runTop w os) (by decide) (fun w => by
      have q := looks w
      funext os
      have q' := congrFun q os
      rw [Prod.mk.injEq, Prod.mk.injEq] at q'
      have e' := e w os
      exact Prod.ext q'.1 (Prod.ext q'.2.1 e'))
end Mine
end
section
open PySem PySem.W PyProof.Rows PySem.Calls
set_option maxRecDepth 100000
set_option maxHeartbeats 8000000

namespace Mine
def nL : Str := Str.mk (Array.mk [108, 97, 119])
theorem nL_eq : Str.ofString "law" = nL := by kernel_rfl
noncomputable def rwQ : OpenLaw := { PySem.Challenge.rw_dm0051_08 with prog := P1, name := nL, about := [Str.mk (Array.mk [83, 101, 113, 117, 101, 110, 99, 101, 77, 97, 116, 99, 104, 101, 114]), Str.mk (Array.mk [95, 95, 105, 110, 105, 116, 95, 95])] }
theorem rwQ_eq : PySem.Challenge.rw_dm0051_08 = rwQ := (show PySem.Challenge.rw_dm0051_08 = { PySem.Challenge.rw_dm0051_08 with prog := PySem.Challenge.pw_dm0051_08, name := nL, about := [Str.mk (Array.mk [83, 101, 113, 117, 101, 110, 99, 101, 77, 97, 116, 99, 104, 101, 114]), Str.mk (Array.mk [95, 95, 105, 110, 105, 116, 95, 95])] } by kernel_rfl).trans (congrArg (fun p => ({ PySem.Challenge.rw_dm0051_08 with prog := p, name := nL, about := [Str.mk (Array.mk [83, 101, 113, 117, 101, 110, 99, 101, 77, 97, 116, 99, 104, 101, 114]), Str.mk (Array.mk [95, 95, 105, 110, 105, 116, 95, 95])] } : OpenLaw)) P1_eq)
theorem said_self : OpenLaw.wellSaid = OpenLaw.wellSaid := rfl
end Mine
name_quick twSaid for PySem.W.OpenLaw.wellSaid by Mine.said_self
namespace Mine
theorem said1 : PySem.W.Fast.twSaid rwQ = true := by kernel_rfl
theorem saidK : OpenLaw.wellSaid PySem.Challenge.rw_dm0051_08 = true := (congrFun PySem.W.Fast.twSaid_eq _).trans ((congrArg PySem.W.Fast.twSaid rwQ_eq).trans said1)
end Mine
section
local macro_rules | `(tactic| o_law) => `(tactic| refine holds_law Mine.saidK fun said => ?_)
local macro_rules | `(tactic| o_head $H) => `(tactic| assumption)
theorem Mine.dumK (h : PySem.Challenge.rw_dm0051_08.row.Holds) : PySem.Challenge.rw_dm0051_08.Holds := by
  w_on
  o_law
  k_head
theorem Mine.dumK_self : Mine.dumK.heap_1 = Mine.dumK.heap_1 := rfl
end
namespace Mine
noncomputable def K2 : Str → Params → Frag := by
  refine (?G : (F : Str → Params → Frag) → (∀ x, Str.ofString cS = x → Mine.dumK.heap_1 = F x) → (Str → Params → Frag)) ?F ?h
  case G => exact fun F _ => F
  case h =>
    intro x hx
    delta cS at hx
    replace hx : Str.ofString _ = x := hx
    delta Mine.dumK.heap_1
    show _ = _
    simp only [hx]
    exact Eq.refl _
theorem K2_of : Mine.dumK.heap_1 = K2 (Str.ofString cS) := by kernel_rfl
theorem K2_eq : Mine.dumK.heap_1 = K2 cD := by
  rw [K2_of, of_cS]; rfl
end Mine
namespace Mine
theorem eH_turn {K K' : Params → Frag} (hK : K = K') {as ts : List Addr} {h0 : Heap} {P : Params} (e : (as.map h0.get?, ts.map h0.get?) = ((K' P).map fun p => some p.2, ts.map fun _ => some (tabObj #[]))) :
    (as.map h0.get?, ts.map h0.get?) = ((K P).map fun p => some p.2, ts.map fun _ => some (tabObj #[])) := by rw [hK]; exact e
end Mine
section
local macro_rules | `(tactic| o_law) => `(tactic| refine holds_law Mine.saidK fun said => ?_)
local macro_rules | `(tactic| o_head $H) => `(tactic| (
  refine holds_open (q := Mine.qV) (loose := Mine.looseN) (Xt := Mine.XtV) (XP := XL Mine.qV []) (Yf := Hook.obs $H) (Ya := Hook.val $H) (YP := Hook.says $H) (N := 5000) (Mine.leftH $H ?eH) (Hook.of $H) (Hook.keeps $H)
    (fun s e => xl_of s (Bool.and_eq_true_iff.mp e).1) XL.keeps (by rfl) (by rfl) (by rfl) (fun s e => recFacts_of (Bool.and_eq_true_iff.mp e).2) (by rfl) (by assumption) (by decide +kernel) ⟨rfl, rfl, rfl, rfl, rfl, by decide +kernel⟩ ?hw ?hc
  case eH => (intro w os; exact Mine.eH_turn Mine.K2_eq (by kernel_rfl))))
open_top hdL for PySem.Challenge.rw_dm0051_08
end
end
section
set_option genSizeOfSpec false
namespace Mine.Ar
inductive AT where
  | v (i : Nat)
  | n (k : Nat)
  | a (x y : AT)
  | s (x y : AT)
  | m (k : Nat) (x : AT)
  | mn (x y : AT)
  | mx (x y : AT)
inductive AF where
  | l (x y : AT)
  | t (x y : AT)
  | e (x y : AT)
  | no (p : AF)
  | an (p q : AF)
  | o (p q : AF)
  | i (p q : AF)
  | f
noncomputable def nth : List Nat → Nat → Nat
  | [], _ => 0
  | x :: _, 0 => x
  | _ :: l, i + 1 => nth l i
noncomputable def AT.d (ρ : List Nat) : AT → Nat
  | .v i => nth ρ i
  | .n k => k
  | .a x y => x.d ρ + y.d ρ
  | .s x y => x.d ρ - y.d ρ
  | .m k x => k * x.d ρ
  | .mn x y => min (x.d ρ) (y.d ρ)
  | .mx x y => max (x.d ρ) (y.d ρ)
def AF.d (ρ : List Nat) : AF → Prop
  | .l x y => x.d ρ ≤ y.d ρ
  | .t x y => x.d ρ < y.d ρ
  | .e x y => x.d ρ = y.d ρ
  | .no p => ¬p.d ρ
  | .an p r => p.d ρ ∧ r.d ρ
  | .o p r => p.d ρ ∨ r.d ρ
  | .i p r => p.d ρ → r.d ρ
  | .f => False
noncomputable def ev : List Nat → List Nat → Nat
  | [], _ => 0
  | _ :: _, [] => 0
  | c :: l, x :: w => c * x + ev l w
noncomputable def ladd : List Nat → List Nat → List Nat
  | [], r => r
  | c :: l, [] => c :: l
  | c :: l, d :: r => (c + d) :: ladd l r
noncomputable def lmul (k : Nat) : List Nat → List Nat
  | [] => []
  | c :: l => (k * c) :: lmul k l
noncomputable def unit : Nat → List Nat
  | 0 => [1]
  | i + 1 => 0 :: unit i
theorem ev_add (l : List Nat) : ∀ r w : List Nat, ev (ladd l r) w = ev l w + ev r w := by
  induction l with
  | nil =>
    exact fun r w => (Nat.zero_add _).symm
  | cons c l ih =>
    intro r w
    cases r with
    | nil => rfl
    | cons d r =>
      cases w with
      | nil => rfl
      | cons x w => exact (congr (congrArg HAdd.hAdd (Nat.add_mul c d x)) (ih r w)).trans (Nat.add_add_add_comm _ _ _ _)
theorem ev_mul (k : Nat) (l : List Nat) : ∀ w : List Nat, ev (lmul k l) w = k * ev l w := by
  induction l with
  | nil =>
    exact fun w => rfl
  | cons c l ih =>
    intro w
    cases w with
    | nil => rfl
    | cons x w => exact (congr (congrArg HAdd.hAdd (Nat.mul_assoc k c x)) (ih w)).trans (Nat.mul_add _ _ _).symm
theorem ev_unit (i : Nat) : ∀ w : List Nat, ev (unit i) w = nth w i := by
  induction i with
  | zero =>
    exact fun w => match w with | [] => rfl | x :: w => Nat.one_mul x
  | succ i ih =>
    exact fun w => match w with | [] => rfl | x :: w => (congr (congrArg HAdd.hAdd (Nat.zero_mul x)) (ih w)).trans (Nat.zero_add _)
abbrev Cs := List (List Nat × List Nat)
def Holds (w : List Nat) (cs : Cs) : Prop := ∀ c ∈ cs, ev c.1 w ≤ ev c.2 w
theorem Holds.cons {w : List Nat} {cs : Cs} {l r : List Nat} (h : Holds w cs) (q : ev l w ≤ ev r w) : Holds w ((l, r) :: cs) := fun c hc => (List.mem_cons.mp hc).elim (fun e => e ▸ q) (h c)
noncomputable def AT.go : AT → (List Nat → List Nat → Cs → Bool) → Cs → Bool
  | .v i, k, cs => k (unit (i + 1)) [] cs
  | .n c, k, cs => k [c] [] cs
  | .a x y, k, cs => x.go (fun p n cs => y.go (fun p' n' cs => k (ladd p p') (ladd n n') cs) cs) cs
  | .s x y, k, cs => x.go (fun p n cs => y.go (fun p' n' cs => k (ladd p n') (ladd n p') ((ladd p' n, ladd p n') :: cs) && k [] [] ((ladd p n', ladd p' n) :: cs)) cs) cs
  | .m c x, k, cs => x.go (fun p n cs => k (lmul c p) (lmul c n) cs) cs
  | .mn x y, k, cs => x.go (fun p n cs => y.go (fun p' n' cs => k p n ((ladd p n', ladd p' n) :: cs) && k p' n' ((ladd p' n, ladd p n') :: cs)) cs) cs
  | .mx x y, k, cs => x.go (fun p n cs => y.go (fun p' n' cs => k p' n' ((ladd p n', ladd p' n) :: cs) && k p n ((ladd p' n, ladd p n') :: cs)) cs) cs
def GR (w : List Nat) (k : List Nat → List Nat → Cs → Bool) (x : Nat) : Prop := ∃ p n cs, k p n cs = true ∧ Holds w cs ∧ x + ev n w = ev p w
theorem GR.go {w : List Nat} {k : List Nat → List Nat → Cs → Bool} {x : Nat} {G : Prop} (h : GR w k x) (f : ∀ p n cs, k p n cs = true → Holds w cs → x + ev n w = ev p w → G) : G :=
  h.elim fun p h => h.elim fun n h => h.elim fun cs h => f p n cs h.1 h.2.1 h.2.2
theorem and_t {a b : Bool} {G : Prop} (h : (a && b) = true) (f : a = true → b = true → G) : G := f ((Bool.and_eq_true _ _).mp h).1 ((Bool.and_eq_true _ _).mp h).2
theorem k_le {w p n p' n' : List Nat} {x y : Nat} (h : y ≤ x) (e1 : x + ev n w = ev p w) (e2 : y + ev n' w = ev p' w) : ev (ladd p' n) w ≤ ev (ladd p n') w := by
  rw [ev_add, ev_add, ← e1, ← e2]; omega
theorem k_sub {w p n p' n' : List Nat} {x y : Nat} (h : y ≤ x) (e1 : x + ev n w = ev p w) (e2 : y + ev n' w = ev p' w) : x - y + ev (ladd n p') w = ev (ladd p n') w := by
  rw [ev_add, ev_add, ← e1, ← e2]; omega
theorem AT.go_ok (ρ : List Nat) (t : AT) : ∀ (k : List Nat → List Nat → Cs → Bool) (cs : Cs), t.go k cs = true → Holds (1 :: ρ) cs → GR (1 :: ρ) k (t.d ρ) := by
  induction t with
  | v i =>
    exact fun k cs h hc => ⟨_, _, _, h, hc, (ev_unit (i + 1) (1 :: ρ)).symm⟩
  | n c =>
    exact fun k cs h hc => ⟨_, _, _, h, hc, (Nat.mul_one c).symm⟩
  | a x y ihx ihy =>
    exact fun k cs h hc => (ihx _ cs h hc).go fun p n c1 h1 hc1 e1 => (ihy _ c1 h1 hc1).go fun p' n' c2 h2 hc2 e2 =>
      ⟨_, _, _, h2, hc2, by rw [ev_add, ev_add, ← e1, ← e2]; exact Nat.add_add_add_comm _ _ _ _⟩
  | s x y ihx ihy =>
    exact fun k cs h hc => (ihx _ cs h hc).go fun p n c1 h1 hc1 e1 => (ihy _ c1 h1 hc1).go fun p' n' c2 h2 hc2 e2 => and_t h2 fun ha hb =>
      (Nat.le_total (y.d ρ) (x.d ρ)).elim (fun q => ⟨_, _, _, ha, hc2.cons (k_le q e1 e2), k_sub q e1 e2⟩) fun q => ⟨_, _, _, hb, hc2.cons (k_le q e2 e1), Nat.sub_eq_zero_of_le q⟩
  | m c x ihx =>
    exact fun k cs h hc => (ihx _ cs h hc).go fun p n c1 h1 hc1 e1 => ⟨_, _, _, h1, hc1, by rw [ev_mul, ev_mul, ← e1, Nat.mul_add]; rfl⟩
  | mn x y ihx ihy =>
    exact fun k cs h hc => (ihx _ cs h hc).go fun p n c1 h1 hc1 e1 => (ihy _ c1 h1 hc1).go fun p' n' c2 h2 hc2 e2 => and_t h2 fun ha hb =>
      (Nat.le_total (x.d ρ) (y.d ρ)).elim (fun q => ⟨_, _, _, ha, hc2.cons (k_le q e2 e1), (congrArg (· + ev n (1 :: ρ)) (Nat.min_eq_left q)).trans e1⟩) fun q => ⟨_, _, _, hb, hc2.cons (k_le q e1 e2), (congrArg (· + ev n' (1 :: ρ)) (Nat.min_eq_right q)).trans e2⟩
  | mx x y ihx ihy =>
    exact fun k cs h hc => (ihx _ cs h hc).go fun p n c1 h1 hc1 e1 => (ihy _ c1 h1 hc1).go fun p' n' c2 h2 hc2 e2 => and_t h2 fun ha hb =>
      (Nat.le_total (x.d ρ) (y.d ρ)).elim (fun q => ⟨_, _, _, ha, hc2.cons (k_le q e2 e1), (congrArg (· + ev n' (1 :: ρ)) (Nat.max_eq_right q)).trans e2⟩) fun q => ⟨_, _, _, hb, hc2.cons (k_le q e1 e2), (congrArg (· + ev n (1 :: ρ)) (Nat.max_eq_left q)).trans e1⟩
noncomputable def leGo (x y : AT) (c : Nat) (k : Cs → Bool) (cs : Cs) : Bool := x.go (fun p n cs => y.go (fun p' n' cs => k ((ladd (ladd p n') [c], ladd p' n) :: cs)) cs) cs
def KR (w : List Nat) (k : Cs → Bool) : Prop := ∃ cs, k cs = true ∧ Holds w cs
theorem KR.go {w : List Nat} {k : Cs → Bool} {G : Prop} (h : KR w k) (f : ∀ cs, k cs = true → Holds w cs → G) : G := h.elim fun cs h => f cs h.1 h.2
theorem leGo_ok {ρ : List Nat} {x y : AT} {c : Nat} {k : Cs → Bool} {cs : Cs} (h : leGo x y c k cs = true) (hc : Holds (1 :: ρ) cs) (q : x.d ρ + c ≤ y.d ρ) : KR (1 :: ρ) k :=
  (AT.go_ok ρ x _ cs h hc).go fun p n c1 h1 hc1 e1 => (AT.go_ok ρ y _ c1 h1 hc1).go fun p' n' c2 h2 hc2 e2 => ⟨_, h2, hc2.cons (by
    rw [ev_add, ev_add, ev_add, ← e1, ← e2]
    show _ + _ + (c * 1 + 0) ≤ _
    omega)⟩
noncomputable def AF.go : AF → Bool → (Cs → Bool) → Cs → Bool
  | .l x y, b, k, cs => match b with
    | true => leGo x y 0 k cs
    | false => leGo y x 1 k cs
  | .t x y, b, k, cs => match b with
    | true => leGo x y 1 k cs
    | false => leGo y x 0 k cs
  | .e x y, b, k, cs => match b with
    | true => leGo x y 0 (fun cs => leGo y x 0 k cs) cs
    | false => leGo x y 1 k cs && leGo y x 1 k cs
  | .no p, b, k, cs => p.go (!b) k cs
  | .an p r, b, k, cs => match b with
    | true => p.go true (fun cs => r.go true k cs) cs
    | false => p.go false k cs && r.go false k cs
  | .o p r, b, k, cs => match b with
    | true => p.go true k cs && r.go true k cs
    | false => p.go false (fun cs => r.go false k cs) cs
  | .i p r, b, k, cs => match b with
    | true => p.go false k cs && r.go true k cs
    | false => p.go true (fun cs => r.go false k cs) cs
  | .f, b, k, cs => match b with
    | true => true
    | false => k cs
def Says (b : Bool) (P : Prop) : Prop := match b with
  | true => P
  | false => ¬P
theorem AF.go_ok (ρ : List Nat) (F : AF) : ∀ (b : Bool) (k : Cs → Bool) (cs : Cs), F.go b k cs = true → Holds (1 :: ρ) cs → Says b (F.d ρ) → KR (1 :: ρ) k := by
  induction F with
  | l x y =>
    exact Bool.rec (fun k cs h hc q => leGo_ok h hc (Nat.lt_of_not_le q)) (fun k cs h hc q => leGo_ok h hc q)
  | t x y =>
    exact Bool.rec (fun k cs h hc q => leGo_ok h hc (Nat.le_of_not_lt q)) (fun k cs h hc q => leGo_ok h hc q)
  | e x y =>
    exact Bool.rec (fun k cs h hc q => and_t h fun ha hb => (Nat.lt_or_gt_of_ne q).elim (fun z => leGo_ok ha hc z) fun z => leGo_ok hb hc z)
      (fun k cs h hc q => (leGo_ok h hc (Nat.le_of_eq q)).go fun c1 h1 hc1 => leGo_ok h1 hc1 (Nat.le_of_eq (Eq.symm q)))
  | no p ih =>
    exact Bool.rec (fun k cs h hc q => ih true k cs h hc (Classical.not_not.mp q)) (fun k cs h hc q => ih false k cs h hc q)
  | an p r ihp ihr =>
    exact Bool.rec (fun k cs h hc q => and_t h fun ha hb => (Classical.not_and_iff_not_or_not.mp q).elim (fun z => ihp false k cs ha hc z) fun z => ihr false k cs hb hc z)
      (fun k cs h hc q => (ihp true _ cs h hc q.1).go fun c1 h1 hc1 => ihr true k c1 h1 hc1 q.2)
  | o p r ihp ihr =>
    exact Bool.rec (fun k cs h hc q => (ihp false _ cs h hc fun z => q (.inl z)).go fun c1 h1 hc1 => ihr false k c1 h1 hc1 fun z => q (.inr z))
      (fun k cs h hc q => and_t h fun ha hb => Or.elim q (fun z => ihp true k cs ha hc z) fun z => ihr true k cs hb hc z)
  | i p r ihp ihr =>
    exact Bool.rec (fun k cs h hc q => (ihp true _ cs h hc (Classical.byContradiction fun z => q fun y => absurd y z)).go fun c1 h1 hc1 => ihr false k c1 h1 hc1 fun z => q fun _ => z)
      (fun k cs h hc q => and_t h fun ha hb => (Classical.em (p.d ρ)).elim (fun z => ihr true k cs hb hc (q z)) fun z => ihp false k cs ha hc z)
  | f =>
    exact Bool.rec (fun k cs h hc q => ⟨_, h, hc⟩) (fun k cs h hc q => False.elim q)
noncomputable def lsub : List Nat → List Nat → List Nat
  | [], _ => []
  | c :: l, [] => c :: l
  | c :: l, d :: r => (c - d) :: lsub l r
theorem ls_eq {c d x A B L R : Nat} (q : c ≤ d) (ih : A + R = B + L) : (c - d) * x + A + (d * x + R) = (d - c) * x + B + (c * x + L) := by
  obtain ⟨k, rfl⟩ := Nat.exists_eq_add_of_le q
  rw [Nat.sub_eq_zero_of_le q, Nat.add_sub_cancel_left, Nat.add_mul]
  omega
theorem ev_lsub (l : List Nat) : ∀ r w : List Nat, ev (lsub l r) w + ev r w = ev (lsub r l) w + ev l w := by
  induction l with
  | nil =>
    exact fun r w => match r with | [] => rfl | d :: r => Nat.add_comm _ _
  | cons c l ih =>
    intro r w
    cases r with
    | nil => exact Nat.add_comm _ _
    | cons d r =>
      cases w with
      | nil => rfl
      | cons x w => exact (Nat.le_total c d).elim (fun q => ls_eq q (ih r w)) fun q => (ls_eq q (ih r w).symm).symm
noncomputable def cut (c : List Nat × List Nat) : List Nat × List Nat := (lsub c.1 c.2, lsub c.2 c.1)
noncomputable def isZ : Nat → Bool
  | 0 => true
  | _ + 1 => false
noncomputable def zero : List Nat → Bool
  | [] => true
  | c :: l => isZ c && zero l
theorem ev_zero (l : List Nat) : ∀ w : List Nat, zero l = true → ev l w = 0 := by
  induction l with
  | nil =>
    exact fun w h => rfl
  | cons c l ih =>
    intro w h
    cases w with
    | nil => rfl
    | cons x w =>
      cases c with
      | zero => exact (congr (congrArg HAdd.hAdd (Nat.zero_mul x)) (ih w h)).trans rfl
      | succ c => cases h
noncomputable def hasC : List Nat → Bool
  | [] => false
  | c :: _ => !isZ c
noncomputable def bad (c : List Nat × List Nat) : Bool := zero c.2 && hasC c.1
noncomputable def anyBad : Cs → Bool
  | [] => false
  | c :: cs => bad c || anyBad cs
theorem hasC_ok {l ρ : List Nat} (h : hasC l = true) (q : ev l (1 :: ρ) ≤ 0) : False := by
  cases l with
  | nil => cases h
  | cons c l =>
    cases c with
    | zero => cases h
    | succ k => exact absurd (Nat.le_trans (Nat.le_add_right _ _) q) (Nat.not_le_of_lt (Nat.lt_of_lt_of_le (Nat.succ_pos k) (Nat.le_of_eq (Nat.mul_one _).symm)))
theorem anyBad_ok {ρ : List Nat} (cs : Cs) : anyBad cs = true → Holds (1 :: ρ) cs → False := by
  induction cs with
  | nil =>
    exact fun h _ => nomatch h
  | cons c cs ih =>
    exact fun h hc => ((Bool.or_eq_true _ _).mp h).elim (fun q => and_t q fun h1 h2 => hasC_ok h2 (ev_zero _ _ h1 ▸ hc c (.head _))) fun q => ih q fun c' hc' => hc c' (.tail _ hc')
noncomputable def mix (i : Nat) (u v : List Nat × List Nat) : List Nat × List Nat :=
  cut (ladd (lmul (nth v.2 i - nth v.1 i) u.1) (lmul (nth u.1 i - nth u.2 i) v.1), ladd (lmul (nth v.2 i - nth v.1 i) u.2) (lmul (nth u.1 i - nth u.2 i) v.2))
theorem cut_ok {w : List Nat} {c : List Nat × List Nat} (h : ev c.1 w ≤ ev c.2 w) : ev (cut c).1 w ≤ ev (cut c).2 w :=
  Nat.le_of_add_le_add_right (Nat.le_trans (Nat.le_of_eq (ev_lsub c.1 c.2 w)) (Nat.add_le_add_left h _))
theorem mix_ok {w : List Nat} {i : Nat} {u v : List Nat × List Nat} (hu : ev u.1 w ≤ ev u.2 w) (hv : ev v.1 w ≤ ev v.2 w) : ev (mix i u v).1 w ≤ ev (mix i u v).2 w := by
  refine cut_ok ?_
  show ev (ladd _ _) w ≤ ev (ladd _ _) w
  rw [ev_add, ev_add, ev_mul, ev_mul, ev_mul, ev_mul]
  exact Nat.add_le_add (Nat.mul_le_mul_left _ hu) (Nat.mul_le_mul_left _ hv)
noncomputable def mixes (i : Nat) (u : List Nat × List Nat) : Cs → Cs → Cs
  | [], acc => acc
  | v :: vs, acc => mix i u v :: mixes i u vs acc
noncomputable def allMix (i : Nat) (vs : Cs) : Cs → Cs → Cs
  | [], acc => acc
  | u :: us, acc => mixes i u vs (allMix i vs us acc)
theorem mixes_ok {w : List Nat} {i : Nat} {u : List Nat × List Nat} {acc : Cs} (hu : ev u.1 w ≤ ev u.2 w) (ha : Holds w acc) (vs : Cs) : Holds w vs → Holds w (mixes i u vs acc) := by
  induction vs with
  | nil =>
    exact fun _ => ha
  | cons v vs ih =>
    exact fun h => (ih fun c hc => h c (.tail _ hc)).cons (mix_ok hu (h v (.head _)))
theorem allMix_ok {w : List Nat} {i : Nat} {vs acc : Cs} (hv : Holds w vs) (ha : Holds w acc) (us : Cs) : Holds w us → Holds w (allMix i vs us acc) := by
  induction us with
  | nil =>
    exact fun _ => ha
  | cons u us ih =>
    exact fun h => mixes_ok (h u (.head _)) (ih fun c hc => h c (.tail _ hc)) vs hv
noncomputable def sw (b : Bool) (x y : Cs) : Cs := match b with
  | true => x
  | false => y
theorem sw_ok {w : List Nat} {b : Bool} {x y : Cs} (hx : Holds w x) (hy : Holds w y) : Holds w (sw b x y) := by cases b; exact hy; exact hx
noncomputable def part (i : Nat) : Cs → Cs → Cs → Cs → Cs
  | [], us, vs, rest => allMix i vs us rest
  | c :: cs, us, vs, rest => sw (Nat.beq (nth c.1 i) (nth c.2 i)) (part i cs us vs (c :: rest)) (sw (Nat.ble (nth c.1 i) (nth c.2 i)) (part i cs us (c :: vs) rest) (part i cs (c :: us) vs rest))
theorem part_ok {w : List Nat} {i : Nat} (cs : Cs) : ∀ us vs rest : Cs, Holds w cs → Holds w us → Holds w vs → Holds w rest → Holds w (part i cs us vs rest) := by
  induction cs with
  | nil =>
    exact fun us vs rest _ hu hv hr => allMix_ok hv hr us hu
  | cons c cs ih =>
    exact fun us vs rest h hu hv hr =>
      have h1 := h c (.head _)
      have h2 : Holds w cs := fun c' hc => h c' (.tail _ hc)
      sw_ok (ih us vs _ h2 hu hv (hr.cons h1)) (sw_ok (ih us _ rest h2 hu (hv.cons h1) hr) (ih _ vs rest h2 (hu.cons h1) hv hr))
noncomputable def fm : Nat → Cs → Bool
  | 0, cs => anyBad cs
  | i + 1, cs => anyBad cs || fm i (part (i + 1) cs [] [([], unit (i + 1))] [])
theorem fm_ok {ρ : List Nat} (i : Nat) : ∀ cs : Cs, fm i cs = true → Holds (1 :: ρ) cs → False := by
  induction i with
  | zero => exact anyBad_ok
  | succ i ih =>
    exact fun cs h hc => ((Bool.or_eq_true _ _).mp h).elim (fun q => anyBad_ok cs q hc) fun q => ih _ q (part_ok cs _ _ _ hc (fun _ h => nomatch h) (Holds.cons (fun _ h => nomatch h) (Nat.zero_le _)) fun _ h => nomatch h)
noncomputable def cuts : Cs → Cs
  | [] => []
  | c :: cs => cut c :: cuts cs
theorem cuts_ok {w : List Nat} (cs : Cs) : Holds w cs → Holds w (cuts cs) := by
  induction cs with
  | nil => exact id
  | cons c cs ih =>
    exact fun h => (ih fun c' hc => h c' (.tail _ hc)).cons (cut_ok (h c (.head _)))
noncomputable def arOk (n : Nat) (F : AF) : Bool := F.go false (fun cs => fm n (cuts cs)) []
theorem ar (n : Nat) (F : AF) (h : arOk n F = true) (ρ : List Nat) : F.d ρ := Classical.byContradiction fun q =>
  (AF.go_ok ρ F false _ [] h (fun _ h => nomatch h) q).go fun cs h1 h2 => fm_ok n _ h1 (cuts_ok cs h2)
end Mine.Ar
namespace Mine
open Ar
theorem ar0 (n : Nat) (G : AF) (h : arOk n G = true) (ρ : List Nat)  : G.d ρ := ar n _ h ρ 
theorem ar1 (n : Nat) (A G : AF) (h : arOk n (.i A G) = true) (ρ : List Nat) (hA : A.d ρ) : G.d ρ := ar n _ h ρ hA
theorem ar2 (n : Nat) (A B G : AF) (h : arOk n (.i A (.i B G)) = true) (ρ : List Nat) (hA : A.d ρ) (hB : B.d ρ) : G.d ρ := ar n _ h ρ hA hB
theorem ar3 (n : Nat) (A B C G : AF) (h : arOk n (.i A (.i B (.i C G))) = true) (ρ : List Nat) (hA : A.d ρ) (hB : B.d ρ) (hC : C.d ρ) : G.d ρ := ar n _ h ρ hA hB hC
theorem ar4 (n : Nat) (A B C D G : AF) (h : arOk n (.i A (.i B (.i C (.i D G)))) = true) (ρ : List Nat) (hA : A.d ρ) (hB : B.d ρ) (hC : C.d ρ) (hD : D.d ρ) : G.d ρ := ar n _ h ρ hA hB hC hD
theorem ar5 (n : Nat) (A B C D E G : AF) (h : arOk n (.i A (.i B (.i C (.i D (.i E G))))) = true) (ρ : List Nat) (hA : A.d ρ) (hB : B.d ρ) (hC : C.d ρ) (hD : D.d ρ) (hE : E.d ρ) : G.d ρ := ar n _ h ρ hA hB hC hD hE
theorem half_le (t : Nat) : 2 * (t / 2) ≤ t ∧ t < 2 * (t / 2) + 2 := by omega
end Mine
end
section
open PySem PySem.W PyProof.Rows PySem.Calls
namespace Mine
theorem cutm {P : Prop} (h : ∀ G : Prop, (P → G) → G) : P := h P id
def auSeq (a : Array Lean.Syntax) : Lean.Syntax := .node .none ``Lean.Parser.Tactic.tacticSeq #[.node .none ``Lean.Parser.Tactic.tacticSeq1Indented #[.node .none `null a]]
def auTac (k : Lean.Name) (a : Array Lean.Syntax) : Lean.Syntax := .node .none (Lean.Name.append `Lean.Parser.Tactic k) a
def auNull : Lean.Syntax := .node .none `null #[]
def auRflT : Lean.Syntax := auTac `tacticRfl #[Lean.mkAtom "rfl"]
def auRfl : Lean.Syntax := auSeq #[auRflT]
def auDec : Lean.Syntax := auSeq #[auTac `decide #[Lean.mkAtom "decide", auTac `optConfig #[auNull]]]
def auAll : Lean.Syntax := auSeq #[auTac `withUnfoldingAll #[Lean.mkAtom "with_unfolding_all", auRfl]]
def auHole : Lean.Syntax := .node .none ``Lean.Parser.Term.hole #[Lean.mkAtom "_"]
def auH : Lean.Syntax := .ident .none "h".toRawSubstring `h []
def auIntro (a : Array Lean.Syntax) : Lean.Syntax := auTac `intro #[Lean.mkAtom "intro", .node .none `null a]
def auFun : Lean.Syntax := auSeq #[auIntro #[auHole], Lean.mkAtom ";", auRflT]
def auNo : Lean.Syntax := auSeq #[auIntro #[auHole, auHole, auH], Lean.mkAtom ";", auTac `cases #[Lean.mkAtom "cases", .node .none `null #[auTac `elimTarget #[auNull, auH]], auNull, auNull]]
inductive IS where
  | i (n : Int)
  | s (x : Str)
  deriving DecidableEq
noncomputable def isIS : IS → Value → Bool
  | .i n, v => Value.isInt n v
  | .s x, v => Value.isStrOf x v
theorem isIS_shape {k : IS} {v : Value} (h : isIS k v = true) : (∃ n t, k = .i n ∧ v = .int n t) ∨ ∃ x t, k = .s x ∧ v = .str x t := by
  cases k with
  | i n => obtain ⟨t, rfl⟩ := Value.isInt_shape h; exact .inl ⟨n, t, rfl, rfl⟩
  | s x => obtain ⟨t, rfl⟩ := Value.isStrOf_shape h; exact .inr ⟨x, t, rfl, rfl⟩
section
variable {prog : Program} {w : World} {A : Around} {E : Value → Shared → Prop} {s : Shared}
theorem eqBool_int_str {a : Int} {t : Tok} {b : Str} {u : Tok} {Q : Bool → Shared → Prop} (h : Q false s) : wpAny (model prog w) A (eqBool (.int a t) (.str b u)) Q E s := by
  unfold eqBool
  refine wpAny_holding ?_
  rw [if_neg (by intro e; cases e)]
  exact wpAny_bind (EqMixed.eq_int_str (wpAny_truthy_bool h))
theorem eqBool_str_int {a : Str} {t : Tok} {b : Int} {u : Tok} {Q : Bool → Shared → Prop} (h : Q false s) : wpAny (model prog w) A (eqBool (.str a t) (.int b u)) Q E s := by
  unfold eqBool
  refine wpAny_holding ?_
  rw [if_neg (by intro e; cases e)]
  exact wpAny_bind (EqMixed.eq_str_int (wpAny_truthy_bool h))
end
noncomputable def mixKind (prog : Program) (w : World) : KeyKind prog w IS where
  is := isIS
  hash := fun k => match k with | .i n => hashInt n | .s x => hashStr w x
  inj := fun v a b ha hb => by
    rcases isIS_shape ha with ⟨n, t, rfl, rfl⟩ | ⟨x, t, rfl, rfl⟩
    · rcases isIS_shape hb with ⟨n', t', rfl, e⟩ | ⟨x', t', rfl, e⟩
      · injection e with e1; rw [e1]
      · cases e
    · rcases isIS_shape hb with ⟨n', t', rfl, e⟩ | ⟨x', t', rfl, e⟩
      · cases e
      · injection e with e1; rw [e1]
  byValue := fun k v h => by rcases isIS_shape h with ⟨n, t, rfl, rfl⟩ | ⟨x, t, rfl, rfl⟩ <;> rfl
  pyHash := fun hv h => by
    rcases isIS_shape hv with ⟨n, t, rfl, rfl⟩ | ⟨x, t, rfl, rfl⟩
    · exact wpAny_pyHash_int h
    · exact wpAny_pyHash_str h
  eqBool := fun hu hv h => by
    rcases isIS_shape hu with ⟨n, t, rfl, rfl⟩ | ⟨x, t, rfl, rfl⟩ <;> rcases isIS_shape hv with ⟨n', t', rfl, rfl⟩ | ⟨x', t', rfl, rfl⟩
    · refine wpAny_eqBool_int ?_
      have e : (n == n') = decide (IS.i n = IS.i n') := by by_cases q : n = n' <;> simp [q]
      rw [e]; exact h
    · exact eqBool_int_str (by simpa using h)
    · exact eqBool_str_int (by simpa using h)
    · exact wpAny_eqBool_str (by simpa using h)
  «strs» := fun k x t v h => by
    rcases isIS_shape h with ⟨n, t, rfl, e⟩ | ⟨x', t', rfl, e⟩
    · cases e
    · injection e with e1
      subst e1
      cases v <;> rfl
end Mine
end
section
open PySem PySem.W PyProof.Rows PySem.Calls
set_option maxRecDepth 100000
namespace Mine

inductive At where
  | none | bool (b : Bool) | int (i : Int) | str (x : Str) | float (f : UInt64) | ty (n : String) | bi (id : String) | ref (a : Addr)
  deriving DecidableEq
inductive V where
  | at (x : At)
  | tup (c : Option Addr) (xs : List At)
  deriving DecidableEq
noncomputable abbrev V.none : V := .at .none
noncomputable abbrev V.bool (b : Bool) : V := .at (.bool b)
noncomputable abbrev V.int (i : Int) : V := .at (.int i)
noncomputable abbrev V.str (x : Str) : V := .at (.str x)
noncomputable abbrev V.ty (n : String) : V := .at (.ty n)
noncomputable abbrev V.bi (n : String) : V := .at (.bi n)
noncomputable abbrev V.ref (a : Addr) : V := .at (.ref a)

noncomputable def At.rep : At → Value → Prop
  | .none, v => v = .none
  | .bool b, v => v = .bool b
  | .int i, v => ∃ t, v = .int i t
  | .str x, v => ∃ t, v = .str x t
  | .float f, v => ∃ t, v = .float f t
  | .ty n, v => v = .type n
  | .bi n, v => v = .builtin n
  | .ref a, v => v = .ref a
noncomputable def AtReps : List At → List Value → Prop
  | [], vs => vs = []
  | x :: xs, vs => ∃ v r, vs = v :: r ∧ x.rep v ∧ AtReps xs r
noncomputable def clsOf : Option Addr → Value
  | .none => .type "tuple"
  | .some c => .ref c
noncomputable def IsTupOf (h : Heap) (c : Option Addr) (a : Addr) (items : Array Value) : Prop := ∃ o n, h.get? a = some o ∧ o.cls = clsOf c ∧ o.data = .seq items n
noncomputable def V.rep (h : Heap) : V → Value → Prop
  | .at x, v => x.rep v
  | .tup c xs, v => ∃ a items, v = .ref a ∧ IsTupOf h c a items ∧ AtReps xs items.toList
noncomputable def Reps (h : Heap) : List V → List Value → Prop
  | [], vs => vs = []
  | x :: xs, vs => ∃ v r, vs = v :: r ∧ x.rep h v ∧ Reps h xs r
theorem Reps.length {h : Heap} : ∀ {xs : List V} {vs : List Value}, Reps h xs vs → vs.length = xs.length
  | [], _, e => by cases e; rfl
  | x :: xs, _, ⟨v, r, e, _, q⟩ => by subst e; simp [q.length]
theorem Reps.get {h : Heap} : ∀ {xs : List V} {vs : List Value} {i : Nat} {x : V}, Reps h xs vs → xs[i]? = some x → ∃ v, vs[i]? = some v ∧ x.rep h v
  | [], _, _, _, _, e => by simp at e
  | y :: xs, _, 0, x, ⟨v, r, q, hv, _⟩, e => by subst q; simp at e; subst e; exact ⟨v, by simp, hv⟩
  | y :: xs, _, i + 1, x, ⟨v, r, q, _, hr⟩, e => by subst q; simp at e; obtain ⟨u, hu, hx⟩ := hr.get e; exact ⟨u, by simpa using hu, hx⟩
theorem Reps.append {h : Heap} : ∀ {xs ys : List V} {vs ws : List Value}, Reps h xs vs → Reps h ys ws → Reps h (xs ++ ys) (vs ++ ws)
  | [], _, _, _, e, q => by cases e; simpa using q
  | x :: xs, ys, _, ws, ⟨v, r, e, hv, hr⟩, q => by subst e; exact ⟨v, r ++ ws, rfl, hv, hr.append q⟩
theorem Reps.one {h : Heap} {x : V} {v : Value} (q : x.rep h v) : Reps h [x] [v] := ⟨v, [], rfl, q, rfl⟩
theorem Reps.cons {h : Heap} {x : V} {v : Value} {xs : List V} {vs : List Value} (q : x.rep h v) (r : Reps h xs vs) : Reps h (x :: xs) (v :: vs) := ⟨v, vs, rfl, q, r⟩
theorem Reps.set {h : Heap} {x : V} {v : Value} (q : x.rep h v) : ∀ {xs : List V} {vs : List Value} (i : Nat), Reps h xs vs → Reps h (xs.set i x) (vs.set i v)
  | [], _, _, e => by cases e; rfl
  | y :: xs, _, 0, ⟨u, r, e, _, hr⟩ => by subst e; exact ⟨v, r, rfl, q, hr⟩
  | y :: xs, _, i + 1, ⟨u, r, e, hu, hr⟩ => by subst e; exact ⟨u, r.set i v, rfl, hu, Reps.set q i hr⟩
theorem AtReps.reps {h : Heap} : ∀ {xs : List At} {vs : List Value}, AtReps xs vs → Reps h (xs.map .at) vs
  | [], _, e => e
  | x :: xs, _, ⟨v, r, e, hv, hr⟩ => ⟨v, r, e, hv, hr.reps⟩
theorem AtReps.of_reps {h : Heap} : ∀ {xs : List At} {vs : List Value}, Reps h (xs.map .at) vs → AtReps xs vs
  | [], _, e => e
  | x :: xs, _, ⟨v, r, e, hv, hr⟩ => ⟨v, r, e, hv, .of_reps hr⟩
theorem AtReps.length {xs : List At} {vs : List Value} (h : AtReps xs vs) : vs.length = xs.length := by
  have := (AtReps.reps (h := {}) h).length
  simpa using this

inductive O where
  | list (xs : List V)
  | dict (ep : Nat) (es : List (IS × V))
  | set (z : Array (Int × Value) × Nat × SetTable) (ks : List IS)
  | inst (c d : Addr)
  | ns (fs : List (Str × V))
  | cell (x : Option V)
  | range (a b c : Int)
  | view (cls : String) (d : Addr)
  | obj (o : Obj)

noncomputable def IS.v : IS → V
  | .i n => .int n
  | .s x => .str x
noncomputable def Obj.fixed (o : Obj) : Prop := match o.data with
  | .fields _ => True
  | .func _ => True
  | .prim _ => True
  | _ => False
noncomputable def Tame (t : SetTable) : Prop := t.place.toList.Pairwise (· < ·) ∧ t.dummies = #[]
structure SetInv (prog : Program) (w : World) (z : Array (Int × Value) × Nat × SetTable) (ks : List IS) : Prop where
  el : ElemsOf (mixKind prog w) z.1.toList
  mem : ∀ k, k ∈ ks ↔ ∃ e ∈ z.1.toList, (mixKind prog w).is k e.2 = true
  lt : z.1.size < scanBound
  fits : z.2.2.fits z.1.size = true
  size : z.1.size = ks.length
  nd : ks.Nodup
  tame : Tame z.2.2
  led : z.2.2.led = !w.params.followText "set-order"
noncomputable def O.rep (prog : Program) (w : World) (h : Heap) (a : Addr) : O → Prop
  | .list xs => ∃ items, h.IsList a items ∧ (∃ o, h.get? a = some o ∧ o.dict = .none ∧ o.slots = #[]) ∧ Reps h xs items.toList
  | .dict ep es => (a == sysModules) = false ∧ ∃ kvs, h.DictAt (mixKind prog w) a kvs ep ∧ kvs.map (·.1) = es.map (·.1) ∧ Reps h (es.map (·.2)) (kvs.map (·.2))
  | .set z ks => ∃ o, h.get? a = some o ∧ o.ExactSet ∧ o.data = .set z.1 z.2.1 z.2.2 ∧ SetInv prog w z ks
  | .inst c d => ∃ o, h.get? a = some o ∧ o.cls = .ref c ∧ o.dict = some d ∧ o.data = .plain ∧ o.slots = #[]
  | .ns fs => ∃ m, h.Ns1 a m ∧ (∀ x, m x = .none ↔ fs.lookup x = .none) ∧ ∀ x u, fs.lookup x = some u → ∃ v, m x = some v ∧ u.rep h v
  | .cell x => ∃ o, h.get? a = some o ∧ ∃ y, o.data = .cell y ∧ match x with | .none => y = .none | some u => ∃ v, y = some v ∧ u.rep h v
  | .range x y z => ∃ t u v, IsRange h a x y z t u v
  | .view k d => ∃ o, h.get? a = some o ∧ o.cls = .type k ∧ o.data = .fields #[.ref d]
  | .obj o => h.get? a = some o ∧ Mine.Obj.fixed o

structure Tk where
  toks : Nat
  drawn : Drawn
noncomputable abbrev sw (s : Shared) (h : Heap) (k : Tk) : Shared := { s with heap := h, toks := k.toks, drawn := k.drawn }
noncomputable abbrev tkn (s : Shared) (n : Nat) : Tk := ⟨n, s.drawn⟩
structure St where
  m : List (Str × V)
  H : List (Addr × O)
noncomputable abbrev dom (H : List (Addr × O)) : List Addr := H.map (·.1)

structure Ctx where
  prog : Program
  w : World
  A : Around
  env : Env
  G : Addr → Option Obj
  fuel : Nat
  hh : A.handled = .none
  hd : A.depth + fuel < recursionLimit
  hu : A.units + 40 * fuel + 400 < cLine
  hk : env.scope.kind = .function
noncomputable def Ctx.Knows (c : Ctx) (P : Heap → Prop) : Prop := ∀ h : Heap, (∀ b o, c.G b = some o → h.get? b = some o) → P h

structure Fp (L : Addr) (H H' : List (Addr × O)) (h h' : Heap) : Prop where
  keep : ∀ b o, b ∉ dom H → b ≠ L → h.get? b = some o → h'.get? b = some o
  dom : ∀ b, b ∈ dom H' → b ∈ dom H ∨ h.get? b = .none
  alive : ∀ b o, h.get? b = some o → ∃ o', h'.get? b = some o'

structure Rel (c : Ctx) (st : St) (s : Shared) : Prop where
  loc : ∃ m', s.heap.Ns c.env.locals m' ∧ ∀ x u, st.m.lookup x = some u → ∃ v, m' x = some v ∧ u.rep s.heap v
  obj : ∀ a o, (a, o) ∈ st.H → o.rep c.prog c.w s.heap a
  nd : (dom st.H).Nodup
  apart : ∀ a, a ∈ dom st.H → a ≠ c.env.locals ∧ c.G a = .none
  keep : ∀ b o, c.G b = some o → s.heap.get? b = some o
  gl : c.G c.env.locals = .none

theorem Fp.refl (L : Addr) (H : List (Addr × O)) (h : Heap) : Fp L H H h h := ⟨fun _ _ _ _ e => e, fun _ hb => .inl hb, fun _ o e => ⟨o, e⟩⟩

theorem O.rep.some {prog : Program} {w : World} {h : Heap} {a : Addr} {o : O} (r : o.rep prog w h a) : ∃ ob, h.get? a = some ob ∧ ∀ c items n, ¬ (ob.cls = clsOf c ∧ ob.data = .seq items n) := by
  cases o with
  | list xs =>
    obtain ⟨items, ⟨o, ho, hc, n, hd⟩, _⟩ := r
    refine ⟨o, ho, fun c items n q => ?_⟩
    rw [hc] at q
    cases c with
    | none => exact absurd q.1 (by unfold clsOf; simp)
    | some c => exact absurd q.1 (by unfold clsOf; simp)
  | dict ep es => obtain ⟨_, kvs, ⟨o, des, ho, _, hd, _⟩, _⟩ := r; exact ⟨o, ho, fun c items n q => by rw [hd] at q; cases q.2⟩
  | range x y z => obtain ⟨t, u, v, ho⟩ := r; exact ⟨_, ho, fun c items n q => by cases q.2⟩
  | view k d => obtain ⟨o, ho, _, hd⟩ := r; exact ⟨o, ho, fun c items n q => by rw [hd] at q; cases q.2⟩
  | set z ks =>
    obtain ⟨o, ho, _, hd, _⟩ := r
    exact ⟨o, ho, fun c items n q => by rw [hd] at q; cases q.2⟩
  | inst c d => obtain ⟨o, ho, _, _, hd, _⟩ := r; exact ⟨o, ho, fun c items n q => by rw [hd] at q; cases q.2⟩
  | ns fs => obtain ⟨m, ⟨o, es, ep, ho, hd, _⟩, _⟩ := r; exact ⟨o, ho, fun c items n q => by rw [hd] at q; cases q.2⟩
  | cell x => obtain ⟨o, ho, y, hd, _⟩ := r; exact ⟨o, ho, fun c items n q => by rw [hd] at q; cases q.2⟩
  | obj o =>
    refine ⟨o, r.1, fun c items n q => ?_⟩
    have := r.2
    unfold Mine.Obj.fixed at this
    rw [q.2] at this
    exact this

section
variable {c : Ctx} {st : St} {s : Shared}
theorem Rel.frame (R : Rel c st s) : ∃ o es ep, s.heap.get? c.env.locals = some o ∧ o.data = .dict es ep := by
  obtain ⟨m', ⟨o, es, ep, ho, hd, _⟩, _⟩ := R.loc
  exact ⟨o, es, ep, ho, hd⟩
theorem Rel.tup_out (R : Rel c st s) {k : Option Addr} {a : Addr} {items : Array Value} (h : IsTupOf s.heap k a items) : a ∉ dom st.H ∧ a ≠ c.env.locals := by
  obtain ⟨o, n, ho, hc, hd⟩ := h
  constructor
  · intro q
    obtain ⟨⟨b, ob⟩, hp, e⟩ := List.mem_map.mp q
    cases (e : b = a)
    obtain ⟨o', ho', nt⟩ := (R.obj _ _ hp).some
    rw [ho] at ho'
    cases ho'
    exact nt _ _ _ ⟨hc, hd⟩
  · intro q
    obtain ⟨o', es, ep, ho', hd'⟩ := R.frame
    subst q
    rw [ho] at ho'
    cases ho'
    rw [hd] at hd'
    cases hd'
theorem V.rep_fp {u : V} {v : Value} {H' : List (Addr × O)} {h' : Heap} (r : u.rep s.heap v) (R : Rel c st s) (F : Fp c.env.locals st.H H' s.heap h') : u.rep h' v := by
  cases u with
  | «at» x => exact r
  | tup k xs =>
    obtain ⟨a, items, rfl, ht, hr⟩ := r
    obtain ⟨h1, h2⟩ := R.tup_out ht
    obtain ⟨o, n, ho, q⟩ := ht
    exact ⟨a, items, rfl, ⟨o, n, F.keep _ _ h1 h2 ho, q⟩, hr⟩
theorem Reps.fp {H' : List (Addr × O)} {h' : Heap} (R : Rel c st s) (F : Fp c.env.locals st.H H' s.heap h') : ∀ {us : List V} {vs : List Value}, Reps s.heap us vs → Reps h' us vs
  | [], _, e => e
  | _ :: _, _, ⟨v, r, e, hv, hr⟩ => ⟨v, r, e, V.rep_fp hv R F, Reps.fp R F hr⟩
theorem Fp.trans {L : Addr} {H H₁ H₂ : List (Addr × O)} {h h₁ h₂ : Heap} (F : Fp L H H₁ h h₁) (hL : ∃ o, h₁.get? L = some o) (F' : Fp L H₁ H₂ h₁ h₂) : Fp L H H₂ h h₂ where
  alive := fun b o e => let ⟨o', e'⟩ := F.alive b o e; F'.alive b o' e'
  keep := fun b o hb hL e => F'.keep b o (fun q => (F.dom b q).elim hb (fun n => by rw [n] at e; cases e)) hL (F.keep b o hb hL e)
  dom := fun b hb => (F'.dom b hb).elim (F.dom b) fun n => by
    cases q : h.get? b with
    | none => exact .inr rfl
    | some o =>
      by_cases hm : b ∈ Mine.dom H
      · exact .inl hm
      · by_cases e : b = L
        · subst e
          obtain ⟨o', ho'⟩ := hL
          rw [n] at ho'; cases ho'
        · have := F.keep b o hm e q
          rw [n] at this; cases this
theorem Rel.hasL (R : Rel c st s) : ∃ o, s.heap.get? c.env.locals = some o := let ⟨o, _, _, ho, _⟩ := R.frame; ⟨o, ho⟩
theorem Rel.lt (R : Rel c st s) {a : Addr} (h : a ∈ dom st.H) : ∃ o, s.heap.get? a = some o := by
  obtain ⟨⟨b, ob⟩, hp, e⟩ := List.mem_map.mp h
  cases (e : b = a)
  obtain ⟨o', ho', _⟩ := (R.obj _ _ hp).some
  exact ⟨o', ho'⟩

theorem O.rep_keep {o : O} {a : Addr} {H' : List (Addr × O)} {h' : Heap} {prog : Program} {w : World} (r : o.rep prog w s.heap a) (R : Rel c st s) (F : Fp c.env.locals st.H H' s.heap h') (hk : ∀ ob, s.heap.get? a = some ob → h'.get? a = some ob) : o.rep prog w h' a := by
  cases o with
  | list xs =>
    obtain ⟨items, ⟨o, ho, hc, n, hd⟩, ⟨o2, ho2, q⟩, hr⟩ := r
    exact ⟨items, ⟨o, hk _ ho, hc, n, hd⟩, ⟨o2, hk _ ho2, q⟩, Reps.fp R F hr⟩
  | dict ep es => obtain ⟨h0, kvs, hm, h1, h2⟩ := r; exact ⟨h0, kvs, hm.at' hk, h1, Reps.fp R F h2⟩
  | range x y z => obtain ⟨t, u, v, ho⟩ := r; exact ⟨t, u, v, hk _ ho⟩
  | view k d => obtain ⟨o, ho, q⟩ := r; exact ⟨o, hk _ ho, q⟩
  | set z ks => obtain ⟨o, ho, q⟩ := r; exact ⟨o, hk _ ho, q⟩
  | inst c d => obtain ⟨o, ho, q⟩ := r; exact ⟨o, hk _ ho, q⟩
  | ns fs =>
    obtain ⟨m, hm, q, hr⟩ := r
    exact ⟨m, hm.at hk, q, fun x u hu => let ⟨v, h1, h2⟩ := hr x u hu; ⟨v, h1, V.rep_fp h2 R F⟩⟩
  | cell x =>
    obtain ⟨o, ho, y, hd, q⟩ := r
    refine ⟨o, hk _ ho, y, hd, ?_⟩
    cases x with
    | none => exact q
    | some u => obtain ⟨v, h1, h2⟩ := q; exact ⟨v, h1, V.rep_fp h2 R F⟩
  | obj o => exact ⟨hk _ r.1, r.2⟩

theorem Rel.change (R : Rel c st s) {m2 : List (Str × V)} {H' : List (Addr × O)} {h' : Heap} (tk : Tk) (F : Fp c.env.locals st.H H' s.heap h')
    (hloc : ∃ m', h'.Ns c.env.locals m' ∧ ∀ x u, m2.lookup x = some u → ∃ v, m' x = some v ∧ u.rep h' v)
    (hobj : ∀ a o, (a, o) ∈ H' → o.rep c.prog c.w h' a) (nd : (dom H').Nodup) : Rel c ⟨m2, H'⟩ (sw s h' tk) where
  loc := hloc
  obj := hobj
  nd := nd
  apart := fun a ha => by
    rcases F.dom a ha with h | h
    · exact R.apart a h
    · constructor
      · intro e; subst e; obtain ⟨o, ho⟩ := R.hasL; rw [h] at ho; cases ho
      · cases q : c.G a with
        | none => rfl
        | some o => have := R.keep a o q; rw [h] at this; cases this
  keep := fun b o e => F.keep b o (fun q => by rw [(R.apart b q).2] at e; cases e) (fun q => by subst q; rw [R.gl] at e; cases e) (R.keep b o e)
  gl := R.gl
theorem Rel.toks (R : Rel c st s) (tk : Tk) : Rel c st (sw s s.heap tk) := ⟨R.loc, R.obj, R.nd, R.apart, R.keep, R.gl⟩

theorem Fp.grow {L : Addr} {H : List (Addr × O)} {h h' : Heap} (hk : ∀ b o, h.get? b = some o → h'.get? b = some o) : Fp L H H h h' := ⟨fun b o _ _ e => hk b o e, fun _ hb => .inl hb, fun b o e => ⟨o, hk b o e⟩⟩
theorem Rel.grow (R : Rel c st s) {h' : Heap} (tk : Tk) (hk : ∀ b o, s.heap.get? b = some o → h'.get? b = some o) : Rel c st (sw s h' tk) :=
  have F := Fp.grow (L := c.env.locals) (H := st.H) hk
  R.change tk F (let ⟨m', hm, q⟩ := R.loc; ⟨m', hm.keeps hk, fun x u e => let ⟨v, h1, h2⟩ := q x u e; ⟨v, h1, V.rep_fp h2 R F⟩⟩)
    (fun a o ho => O.rep_keep (R.obj a o ho) R F fun ob e => hk _ _ e) R.nd
theorem Fp.new {L : Addr} {H : List (Addr × O)} {h h' : Heap} {a : Addr} {o : O} (hk : ∀ b o, h.get? b = some o → h'.get? b = some o) (ha : h.get? a = .none) : Fp L H ((a, o) :: H) h h' :=
  ⟨fun b o _ _ e => hk b o e, fun b hb => by
    rcases List.mem_cons.mp hb with e | e
    · cases (e : b = a); exact .inr ha
    · exact .inl e, fun b o e => ⟨o, hk b o e⟩⟩
theorem Rel.new (R : Rel c st s) {h' : Heap} (tk : Tk) {a : Addr} {o : O} (hk : ∀ b o, s.heap.get? b = some o → h'.get? b = some o) (ha : s.heap.get? a = .none) (ho : o.rep c.prog c.w h' a) :
    Rel c ⟨st.m, (a, o) :: st.H⟩ (sw s h' tk) :=
  have F := Fp.new (L := c.env.locals) (H := st.H) (o := o) hk ha
  R.change tk F (let ⟨m', hm, q⟩ := R.loc; ⟨m', hm.keeps hk, fun x u e => let ⟨v, h1, h2⟩ := q x u e; ⟨v, h1, V.rep_fp h2 R F⟩⟩)
    (fun b ob hb => by
      rcases List.mem_cons.mp hb with e | e
      · cases e; exact ho
      · exact O.rep_keep (R.obj b ob e) R F fun x e => hk _ _ e)
    (List.nodup_cons.mpr ⟨fun q => (by obtain ⟨o', ho'⟩ := R.lt q; rw [ha] at ho'; exact nomatch ho'), R.nd⟩)
theorem Fp.frame {L : Addr} {H : List (Addr × O)} {h h' : Heap} (hs : Heap.SameBut L h h') (hL : ∃ o, h'.get? L = some o) : Fp L H H h h' := ⟨fun b o _ hL e => (hs.2 b hL).trans e, fun _ hb => .inl hb, fun b o e => if q : b = L then q ▸ hL else ⟨o, (hs.2 b q).trans e⟩⟩
theorem Rel.store (R : Rel c st s) {h' : Heap} (tk : Tk) {x : Str} {u : V} {v : Value} (hv : u.rep s.heap v) (hs : Heap.SameBut c.env.locals s.heap h')
    {m' : Str → Option Value} (q : ∀ x u, st.m.lookup x = some u → ∃ v, m' x = some v ∧ u.rep s.heap v) (hn : h'.Ns c.env.locals (fun y => if y = x then some v else m' y)) : Rel c ⟨(x, u) :: st.m, st.H⟩ (sw s h' tk) :=
  have F := Fp.frame (H := st.H) hs (let ⟨o, _, _, ho, _⟩ := hn; ⟨o, ho⟩)
  R.change tk F (⟨_, hn, fun y u' e => by
      rw [List.lookup_cons] at e
      cases hb : y == x with
      | true =>
        rw [hb] at e; cases e
        exact ⟨v, if_pos (beq_iff_eq.mp hb), V.rep_fp hv R F⟩
      | false =>
        rw [hb] at e
        obtain ⟨v', h1, h2⟩ := q y u' e
        refine ⟨v', ?_, V.rep_fp h2 R F⟩
        have : y ≠ x := fun q => by subst q; simp at hb
        exact (if_neg this).trans h1⟩)
    (fun a o ho => O.rep_keep (R.obj a o ho) R F fun ob e => (hs.2 a (R.apart a (List.mem_map.mpr ⟨_, ho, rfl⟩)).1).trans e) R.nd

inductive Upd (a : Addr) (o o' : O) : List (Addr × O) → List (Addr × O) → Prop
  | head (r : List (Addr × O)) : Upd a o o' ((a, o) :: r) ((a, o') :: r)
  | tail {p : Addr × O} {r r' : List (Addr × O)} : Upd a o o' r r' → Upd a o o' (p :: r) (p :: r')
theorem Upd.mem {a : Addr} {o o' : O} {H H' : List (Addr × O)} (u : Upd a o o' H H') : (a, o) ∈ H := by
  induction u with
  | head => exact .head _
  | tail _ ih => exact .tail _ ih
theorem Upd.dom {a : Addr} {o o' : O} {H H' : List (Addr × O)} (u : Upd a o o' H H') : Mine.dom H' = Mine.dom H := by
  induction u with
  | head => rfl
  | tail _ ih => simp only [Mine.dom, List.map_cons] at ih ⊢; rw [ih]
theorem Upd.mem' {a b : Addr} {o o' ob : O} {H H' : List (Addr × O)} (u : Upd a o o' H H') (nd : (Mine.dom H).Nodup) (h : (b, ob) ∈ H') : (b = a ∧ ob = o') ∨ (b ≠ a ∧ (b, ob) ∈ H) := by
  induction u with
  | head r =>
    rcases List.mem_cons.mp h with e | e
    · cases e; exact .inl ⟨rfl, rfl⟩
    · refine .inr ⟨fun q => ?_, .tail _ e⟩
      subst q
      exact (List.nodup_cons.mp nd).1 (List.mem_map.mpr ⟨_, e, rfl⟩)
  | @tail p r r' u ih =>
    rcases List.mem_cons.mp h with e | e
    · refine .inr ⟨fun q => ?_, by rw [e]; exact .head _⟩
      have : p.1 = a := by rw [← e]; exact q
      refine (List.nodup_cons.mp nd).1 ?_
      show p.1 ∈ r.map (·.1)
      rw [this]
      exact List.mem_map.mpr ⟨_, u.mem, rfl⟩
    · rcases ih (List.nodup_cons.mp nd).2 e with h | h
      · exact .inl h
      · exact .inr ⟨h.1, .tail _ h.2⟩
inductive Spot (a : Addr) (o : O) : List (Addr × O) → (O → List (Addr × O)) → Prop
  | head (r : List (Addr × O)) : Spot a o ((a, o) :: r) (fun x => (a, x) :: r)
  | tail {p : Addr × O} {r : List (Addr × O)} {F : O → List (Addr × O)} : Spot a o r F → Spot a o (p :: r) (fun x => p :: F x)
theorem Spot.upd {a : Addr} {o : O} {H : List (Addr × O)} {F : O → List (Addr × O)} (s : Spot a o H F) (x : O) : Upd a o x H (F x) := by
  induction s with
  | head r => exact .head r
  | tail _ ih => exact .tail ih
theorem Fp.upd {L : Addr} {H H' : List (Addr × O)} {h h' : Heap} {a : Addr} {o o' : O} (u : Upd a o o' H H') (hs : ∀ b ob, b ≠ a → h.get? b = some ob → h'.get? b = some ob) (ha : ∃ o, h'.get? a = some o) : Fp L H H' h h' :=
  ⟨fun b ob hb _ e => hs b ob (fun q => hb (q ▸ List.mem_map.mpr ⟨_, u.mem, rfl⟩)) e, fun b hb => .inl (by rw [u.dom] at hb; exact hb), fun b o e => if q : b = a then q ▸ ha else ⟨o, hs b o q e⟩⟩
theorem Rel.upd (R : Rel c st s) {h' : Heap} (tk : Tk) {a : Addr} {o o' : O} {H' : List (Addr × O)} (u : Upd a o o' st.H H') (hs : ∀ b ob, b ≠ a → s.heap.get? b = some ob → h'.get? b = some ob) (ha : ∃ o, h'.get? a = some o)
    (ho : (F : Fp c.env.locals st.H H' s.heap h') → o'.rep c.prog c.w h' a) : Rel c ⟨st.m, H'⟩ (sw s h' tk) :=
  have F := Fp.upd (L := c.env.locals) u hs ha
  R.change tk F (let ⟨m', hm, q⟩ := R.loc; ⟨m', hm.extBut (fun b ob hb e => hs b ob hb e) (fun q => (R.apart a (List.mem_map.mpr ⟨_, u.mem, rfl⟩)).1 q.symm), fun x u e => let ⟨v, h1, h2⟩ := q x u e; ⟨v, h1, V.rep_fp h2 R F⟩⟩)
    (fun b ob hb => by
      rcases u.mem' R.nd hb with ⟨rfl, rfl⟩ | ⟨hne, hm⟩
      · exact ho F
      · exact O.rep_keep (R.obj b ob hm) R F fun x e => hs _ _ hne e)
    (by rw [u.dom]; exact R.nd)
theorem Rel.weaken (R : Rel c st s) {st' : St} (hm : ∀ x u, st'.m.lookup x = some u → st.m.lookup x = some u) (hH : ∀ p ∈ st'.H, p ∈ st.H) (nd : (dom st'.H).Nodup) : Rel c st' s :=
  ⟨let ⟨m', hn, q⟩ := R.loc; ⟨m', hn, fun x u e => q x u (hm x u e)⟩, fun a o h => R.obj a o (hH _ h), nd,
    fun a ha => R.apart a (by obtain ⟨p, hp, e⟩ := List.mem_map.mp ha; exact e ▸ List.mem_map.mpr ⟨p, hH p hp, rfl⟩), R.keep, R.gl⟩
end
end Mine
end
section
open PySem PySem.W PyProof.Rows PySem.Calls
set_option maxRecDepth 100000
namespace Mine
noncomputable abbrev Lo := List (Str × V)
noncomputable abbrev Hp := List (Addr × O)
noncomputable abbrev Ctx.wp (c : Ctx) {α : Type} (t : Sem α) (P : α → Shared → Prop) (s : Shared) : Prop := wpAny (model c.prog c.w) c.A t P (fun _ _ => False) s
noncomputable def Run (c : Ctx) (H : Hp) (s : Shared) {α β : Type} (R : Heap → β → α → Prop) (t : Sem α) (Q : β → Lo → Hp → Prop) : Prop :=
  ∀ P : α → Shared → Prop, (∀ b v m' H' h tk, Rel c ⟨m', H'⟩ (sw s h tk) → Fp c.env.locals H H' s.heap h → R h b v → Q b m' H' → P v (sw s h tk)) → c.wp t P s
noncomputable def VR (h : Heap) (u : V) (v : Value) : Prop := u.rep h v
noncomputable def BR (_ : Heap) (a b : Bool) : Prop := a = b
noncomputable def UR (_ : Heap) (_ : Unit) (_ : Unit) : Prop := True
inductive Fl where
  | next | brk | cont | ret (v : V)
noncomputable def FR (h : Heap) : Fl → Flow → Prop
  | .next, f => f = .next
  | .brk, f => f = .brk
  | .cont, f => f = .cont
  | .ret u, f => ∃ v, f = .ret v ∧ u.rep h v
noncomputable def WPe (c : Ctx) (e : Expr) (m : Lo) (H : Hp) (Q : V → Lo → Hp → Prop) : Prop := ∀ s, Rel c ⟨m, H⟩ s → Run c H s VR (eval e c.env) Q
noncomputable def WPt (c : Ctx) (e : Expr) (m : Lo) (H : Hp) (Q : Bool → Lo → Hp → Prop) : Prop := ∀ s, Rel c ⟨m, H⟩ s → Run c H s BR (isTrue e c.env (eval e c.env)) Q
noncomputable def WPs (c : Ctx) (b : List Stmt) (m : Lo) (H : Hp) (Q : Fl → Lo → Hp → Prop) : Prop := ∀ s, Rel c ⟨m, H⟩ s → Run c H s FR (execs b c.env) Q
noncomputable def WP1 (c : Ctx) (b : Stmt) (m : Lo) (H : Hp) (Q : Fl → Lo → Hp → Prop) : Prop := ∀ s, Rel c ⟨m, H⟩ s → Run c H s FR (exec b c.env) Q
noncomputable def On1 (c : Ctx) (a : V) {α β : Type} (R : Heap → β → α → Prop) (t : Value → Sem α) (m : Lo) (H : Hp) (Q : β → Lo → Hp → Prop) : Prop := ∀ s va, Rel c ⟨m, H⟩ s → a.rep s.heap va → Run c H s R (t va) Q
noncomputable def On2 (c : Ctx) (a b : V) {α β : Type} (R : Heap → β → α → Prop) (t : Value → Value → Sem α) (m : Lo) (H : Hp) (Q : β → Lo → Hp → Prop) : Prop := ∀ s va vb, Rel c ⟨m, H⟩ s → a.rep s.heap va → b.rep s.heap vb → Run c H s R (t va vb) Q
noncomputable abbrev Op2 (c : Ctx) (op : Operator) (a b : V) (m : Lo) (H : Hp) (Q : V → Lo → Hp → Prop) : Prop := On2 c a b VR (binaryOp op) m H Q
noncomputable abbrev Cmp (c : Ctx) (op : CmpOp) (a b : V) (m : Lo) (H : Hp) (Q : V → Lo → Hp → Prop) : Prop := On2 c a b VR (compareOp op) m H Q
noncomputable abbrev Un (c : Ctx) (op : UnaryOp) (a : V) (m : Lo) (H : Hp) (Q : V → Lo → Hp → Prop) : Prop := On1 c a VR (unaryOp op) m H Q
noncomputable abbrev Tru (c : Ctx) (a : V) (m : Lo) (H : Hp) (Q : Bool → Lo → Hp → Prop) : Prop := On1 c a BR truthy m H Q
noncomputable def Sees (c : Ctx) (H : Hp) (a : Addr) (o : O) : Prop := ∀ m s, Rel c ⟨m, H⟩ s → o.rep c.prog c.w s.heap a
theorem Sees.mem {c : Ctx} {H : Hp} {a : Addr} {o : O} (h : (a, o) ∈ H) : Sees c H a o := fun _ _ R => R.obj a o h
theorem Sees.known {c : Ctx} {H : Hp} {a : Addr} {o : O} (h : c.Knows fun h => o.rep c.prog c.w h a) : Sees c H a o := fun _ s R => h s.heap R.keep

theorem Rel.lift {c : Ctx} {st : St} {s : Shared} {H' : Hp} {h' : Heap} {u : V} {v : Value} (R : Rel c st s) (F : Fp c.env.locals st.H H' s.heap h') (r : VR s.heap u v) : u.rep h' v := V.rep_fp r R F
theorem Rel.liftL {c : Ctx} {st : St} {s : Shared} {H' : Hp} {h' : Heap} {us : List V} {vs : List Value} (R : Rel c st s) (F : Fp c.env.locals st.H H' s.heap h') (r : Reps s.heap us vs) : Reps h' us vs := Reps.fp R F r
section
variable {c : Ctx} {m : Lo} {H : Hp} {s : Shared} {α β : Type} {Rr : Heap → β → α → Prop}
theorem Run.done {t : Sem α} {Q : β → Lo → Hp → Prop} (R : Rel c ⟨m, H⟩ s) {b : β} {v : α} (h : ∀ P : α → Shared → Prop, P v s → c.wp t P s) (r : Rr s.heap b v) (q : Q b m H) : Run c H s Rr t Q :=
  fun P k => h P (k b v m H s.heap (tkn s s.toks) R (.refl ..) r q)
theorem Run.val {t : Sem α} {Q : β → Lo → Hp → Prop} (R : Rel c ⟨m, H⟩ s) {b : β} (q : Q b m H) (h : ∀ P : α → Shared → Prop, (∀ v tk, Rr s.heap b v → P v { s with toks := tk }) → c.wp t P s) : Run c H s Rr t Q :=
  fun P k => h P fun v tk r => k b v m H s.heap (tkn s tk) (R.toks (tkn s tk)) (.refl ..) r q
theorem Run.grow {t : Sem α} {Q : β → Lo → Hp → Prop} (R : Rel c ⟨m, H⟩ s) {b : β} (q : Q b m H) (h : ∀ P : α → Shared → Prop, (∀ v h' tk, (∀ a o, s.heap.get? a = some o → h'.get? a = some o) → Rr h' b v → P v { s with heap := h', toks := tk }) → c.wp t P s) : Run c H s Rr t Q :=
  fun P k => h P fun v h' tk hk r => k b v m H h' (tkn s tk) (R.grow (tkn s tk) hk) (.grow hk) r q
theorem Run.new {t : Sem α} {Q : β → Lo → Hp → Prop} (R : Rel c ⟨m, H⟩ s) {o : O} {b : Addr → β} (q : ∀ a, Q (b a) m ((a, o) :: H))
    (h : ∀ P : α → Shared → Prop, (∀ a v h' tk, (∀ a o, s.heap.get? a = some o → h'.get? a = some o) → s.heap.get? a = .none → o.rep c.prog c.w h' a → Rr h' (b a) v → P v { s with heap := h', toks := tk }) → c.wp t P s) : Run c H s Rr t Q :=
  fun P k => h P fun a v h' tk hk ha ho r => k (b a) v m ((a, o) :: H) h' (tkn s tk) (R.new (tkn s tk) hk ha ho) (.new hk ha) r (q a)
theorem Run.upd {t : Sem α} {Q : β → Lo → Hp → Prop} (R : Rel c ⟨m, H⟩ s) {a : Addr} {o o' : O} {H' : Hp} (u : Upd a o o' H H') {b : β} (q : Q b m H')
    (h : ∀ P : α → Shared → Prop, (∀ v h' tk, (∀ b ob, b ≠ a → s.heap.get? b = some ob → h'.get? b = some ob) → (∃ o, h'.get? a = some o) → (Fp c.env.locals H H' s.heap h' → o'.rep c.prog c.w h' a) → Rr h' b v → P v { s with heap := h', toks := tk }) → c.wp t P s) : Run c H s Rr t Q :=
  fun P k => h P fun v h' tk hs ha ho r => k b v m H' h' (tkn s tk) (R.upd (tkn s tk) u hs ha ho) (.upd u hs ha) r q
theorem WPe.mono {e : Expr} {Q Q' : V → Lo → Hp → Prop} (h : WPe c e m H Q) (hQ : ∀ v m H, Q v m H → Q' v m H) : WPe c e m H Q' :=
  fun s R P k => h s R P fun b v m' H' h tk R' F r q => k b v m' H' h tk R' F r (hQ _ _ _ q)
theorem WPt.mono {e : Expr} {Q Q' : Bool → Lo → Hp → Prop} (h : WPt c e m H Q) (hQ : ∀ v m H, Q v m H → Q' v m H) : WPt c e m H Q' :=
  fun s R P k => h s R P fun b v m' H' h tk R' F r q => k b v m' H' h tk R' F r (hQ _ _ _ q)
theorem WPs.mono {b : List Stmt} {Q Q' : Fl → Lo → Hp → Prop} (h : WPs c b m H Q) (hQ : ∀ v m H, Q v m H → Q' v m H) : WPs c b m H Q' :=
  fun s R P k => h s R P fun b v m' H' h tk R' F r q => k b v m' H' h tk R' F r (hQ _ _ _ q)
theorem On1.mono {a : V} {t : Value → Sem α} {Q Q' : β → Lo → Hp → Prop} (h : On1 c a Rr t m H Q) (hQ : ∀ v m H, Q v m H → Q' v m H) : On1 c a Rr t m H Q' :=
  fun s va R r P k => h s va R r P fun b v m' H' h tk R' F r q => k b v m' H' h tk R' F r (hQ _ _ _ q)
noncomputable def Less (m : Lo) (H : Hp) (m' : Lo) (H' : Hp) : Prop := (∀ x u, m'.lookup x = some u → m.lookup x = some u) ∧ (∀ p ∈ H', p ∈ H) ∧ ((dom H).Nodup → (dom H').Nodup)
theorem Fp.less {L : Addr} {H H' H2 : Hp} {h h' : Heap} (F : Fp L H' H2 h h') (hH : ∀ p ∈ H', p ∈ H) : Fp L H H2 h h' :=
  ⟨fun b o hb hL e => F.keep b o (fun q => hb (by obtain ⟨p, hp, e⟩ := List.mem_map.mp q; exact e ▸ List.mem_map.mpr ⟨p, hH p hp, rfl⟩)) hL e,
   fun b hb => (F.dom b hb).imp (fun q => by obtain ⟨p, hp, e⟩ := List.mem_map.mp q; exact e ▸ List.mem_map.mpr ⟨p, hH p hp, rfl⟩) id, F.alive⟩
theorem WPs.less {b : List Stmt} {Q : Fl → Lo → Hp → Prop} {m' : Lo} {H' : Hp} (l : Less m H m' H') (h : WPs c b m' H' Q) : WPs c b m H Q :=
  fun s R P k => h s (R.weaken l.1 l.2.1 (l.2.2 R.nd)) P fun b v m' H2 h tk R' F r q => k b v m' H2 h tk R' (F.less l.2.1) r q
end

section
variable {c : Ctx} {m : Lo} {H : Hp} {pos : Pos}
theorem e_int {i : Int} {k : Nat} {Q : V → Lo → Hp → Prop} (h : Q (.int i) m H) : WPe c (.Constant (.int i) k pos) m H Q :=
  fun s R => .val R h fun P k => wpAny_Constant_int (k _ _ ⟨_, rfl⟩)
theorem e_str {x : Str} {k : Nat} {Q : V → Lo → Hp → Prop} (h : Q (.str x) m H) : WPe c (.Constant (.str x) k pos) m H Q :=
  fun s R => .val R h fun P k => wpAny_Constant_str (k _ _ ⟨_, rfl⟩)
theorem e_none {k : Nat} {Q : V → Lo → Hp → Prop} (h : Q .none m H) : WPe c (.Constant .none k pos) m H Q :=
  fun s R => .val R h fun P k => wpAny_Constant_none (k _ _ rfl)
theorem e_bool {b : Bool} {k : Nat} {Q : V → Lo → Hp → Prop} (h : Q (.bool b) m H) : WPe c (.Constant (.bool b) k pos) m H Q :=
  fun s R => .val R h fun P k => wpAny_Constant_bool (k _ _ rfl)
theorem e_local {x : Str} {u : V} {Q : V → Lo → Hp → Prop} (hl : c.env.kindOf x = some .local) (hv : m.lookup x = some u) (h : Q u m H)
    (hd : autoParam ((x == ("__debug__" : Str)) = false) auDec) : WPe c (.Name x pos) m H Q := fun s R => by
  obtain ⟨m', hn, q⟩ := R.loc
  obtain ⟨v, h1, h2⟩ := q x u hv
  exact .done R (fun P p => wpAny_Name (wpAny_loadName_local c.hk hl hn h1 p) hd) h2 h
noncomputable def cellAt (c : Ctx) (x : Str) : Option Addr := match c.env.kindOf x with
  | some .cell => c.env.cells.lookup x
  | some .free => if (x == ("__classdict__" : Str)) = true then .none else c.env.cells.lookup x
  | _ => .none
theorem cellAt_cases {x : Str} {a : Addr} (h : cellAt c x = some a) : c.env.cells.lookup x = some a ∧ (c.env.kindOf x = some .cell ∨ (c.env.kindOf x = some .free ∧ (x == ("__classdict__" : Str)) = false)) := by
  unfold cellAt at h
  split at h
  · exact ⟨h, .inl ‹_›⟩
  · split at h
    · cases h
    · rename_i hk hq
      exact ⟨h, .inr ⟨hk, by cases q : (x == ("__classdict__" : Str)) with | false => rfl | true => exact absurd q hq⟩⟩
  · cases h
theorem e_cell {x : Str} {a : Addr} {u : V} {Q : V → Lo → Hp → Prop} (hc : cellAt c x = some a) (hv : Sees c H a (.cell (some u))) (h : Q u m H)
    (hd : autoParam ((x == ("__debug__" : Str)) = false) auDec) : WPe c (.Name x pos) m H Q := fun s R => by
  obtain ⟨o, ho, y, hy, v, rfl, hr⟩ := hv m s R
  obtain ⟨hl, hk⟩ := cellAt_cases hc
  rcases hk with hk | ⟨hk, hn⟩
  · exact .done R (fun P p => wpAny_Name (wpAny_loadName_cell c.hk hk hl ⟨o, ho, hy⟩ p) hd) hr h
  · exact .done R (fun P p => wpAny_Name (wpAny_loadName_free c.hk hk hl ⟨o, ho, hy⟩ p hn) hd) hr h
noncomputable def Glob (c : Ctx) (x : Str) (u : At) : Prop := c.env.kindOf x = some .globalImplicit ∧ c.Knows fun h => ∀ (s : Shared) (P : Value → Shared → Prop), s.heap = h → (∀ v, u.rep v → P v s) → c.wp (loadGlobal c.env x) P s
theorem e_glob {x : Str} {u : At} {Q : V → Lo → Hp → Prop} (hg : Glob c x u) (h : Q (.at u) m H) (hd : autoParam ((x == ("__debug__" : Str)) = false) auDec) : WPe c (.Name x pos) m H Q :=
  fun s R => .val R h fun P k => Name_function_global c.hk hg.1 (hg.2 s.heap R.keep s P rfl fun v hv => k v s.toks hv) hd
theorem e_binop {l r : Expr} {op : Operator} {Q : V → Lo → Hp → Prop} (h : WPe c l m H fun a m1 H1 => WPe c r m1 H1 fun b m2 H2 => Op2 c op a b m2 H2 Q) : WPe c (.BinOp l op r pos) m H Q :=
  fun s R P k => wpAny_BinOp (h s R _ fun a va m1 H1 h1 tk1 R1 F1 r1 q1 => q1 _ R1 _ fun b vb m2 H2 h2 tk2 R2 F2 r2 q2 => q2 _ va vb R2 (R1.lift F2 r1) r2 P
    fun v v' m3 H3 h3 tk3 R3 F3 r3 q3 => k v v' m3 H3 h3 tk3 R3 ((F1.trans R1.hasL F2).trans R2.hasL F3) r3 q3)
theorem e_unary {x : Expr} {op : UnaryOp} {Q : V → Lo → Hp → Prop} (h : WPe c x m H fun a m1 H1 => Un c op a m1 H1 Q) : WPe c (.UnaryOp op x pos) m H Q :=
  fun s R P k => wpAny_UnaryOp (h s R _ fun a va m1 H1 h1 tk1 R1 F1 r1 q1 => q1 _ va R1 r1 P fun v v' m3 H3 h3 tk3 R3 F3 r3 q3 => k v v' m3 H3 h3 tk3 R3 (F1.trans R1.hasL F3) r3 q3)
theorem e_cmp {l r : Expr} {op : CmpOp} {Q : V → Lo → Hp → Prop} (h : WPe c l m H fun a m1 H1 => WPe c r m1 H1 fun b m2 H2 => Cmp c op a b m2 H2 Q)
    (hm : autoParam (behindInMarks op r = false) auAll) : WPe c (.Compare l [op] [r] pos) m H Q :=
  fun s R P k => wpAny_Compare1 (h s R _ fun a va m1 H1 h1 tk1 R1 F1 r1 q1 => q1 _ R1 _ fun b vb m2 H2 h2 tk2 R2 F2 r2 q2 => q2 _ va vb R2 (R1.lift F2 r1) r2 P
    fun v v' m3 H3 h3 tk3 R3 F3 r3 q3 => k v v' m3 H3 h3 tk3 R3 ((F1.trans R1.hasL F2).trans R2.hasL F3) r3 q3) hm
theorem e_ifexp {t a b : Expr} {Q : V → Lo → Hp → Prop} (h : WPt c t m H fun x m1 H1 => if x then WPe c a m1 H1 Q else WPe c b m1 H1 Q) : WPe c (.IfExp t a b pos) m H Q :=
  fun s R P k => wpAny_IfExp (h s R _ fun x vx m1 H1 h1 tk1 R1 F1 r1 q1 => by
    cases r1
    cases x <;> exact q1 _ R1 P fun v v' m3 H3 h3 tk3 R3 F3 r3 q3 => k v v' m3 H3 h3 tk3 R3 (F1.trans R1.hasL F3) r3 q3)
theorem t_value {e : Expr} {Q : Bool → Lo → Hp → Prop} (h : WPe c e m H fun a m1 H1 => Tru c a m1 H1 Q)
    (he : autoParam (∀ whole, isTrue e c.env whole = (do let v ← whole; standAt e.pos; holding [v] (truthy v))) auFun) : WPt c e m H Q :=
  fun s R P k => wpAny_isTrue_value (h s R _ fun a va m1 H1 h1 tk1 R1 F1 r1 q1 => q1 _ va R1 r1 P fun v v' m3 H3 h3 tk3 R3 F3 r3 q3 => k v v' m3 H3 h3 tk3 R3 (F1.trans R1.hasL F3) r3 q3) (he _)
theorem t_cmp {l r : Expr} {op : CmpOp} {Q : Bool → Lo → Hp → Prop} (h : WPe c l m H fun a m1 H1 => WPe c r m1 H1 fun b m2 H2 => Cmp c op a b m2 H2 fun d m3 H3 => Tru c d m3 H3 Q)
    (hm : autoParam (behindInMarks op r = false) auAll) : WPt c (.Compare l [op] [r] pos) m H Q :=
  fun s R P k => wpAny_isTrue_Compare1 (h s R _ fun a va m1 H1 h1 tk1 R1 F1 r1 q1 => q1 _ R1 _ fun b vb m2 H2 h2 tk2 R2 F2 r2 q2 => q2 _ va vb R2 (R1.lift F2 r1) r2 _
    fun v v' m3 H3 h3 tk3 R3 F3 r3 q3 => q3 _ v' R3 r3 P fun v v' m4 H4 h4 tk4 R4 F4 r4 q4 => k v v' m4 H4 h4 tk4 R4 (((F1.trans R1.hasL F2).trans R2.hasL F3).trans R3.hasL F4) r4 q4) hm
theorem t_not {x : Expr} {Q : Bool → Lo → Hp → Prop} (h : WPt c x m H fun b m1 H1 => Q (!b) m1 H1) : WPt c (.UnaryOp .Not x pos) m H Q :=
  fun s R P k => wpAny_isTrue_Not (h s R _ fun x vx m1 H1 h1 tk1 R1 F1 r1 q1 => by cases r1; exact k _ _ m1 H1 h1 tk1 R1 F1 rfl q1)
noncomputable def WPall (c : Ctx) (op : BoolOp) (es : List Expr) (m : Lo) (H : Hp) (Q : Bool → Lo → Hp → Prop) : Prop := ∀ s, Rel c ⟨m, H⟩ s → Run c H s BR (allTrue op es c.env) Q
theorem t_bool {op : BoolOp} {es : List Expr} {Q : Bool → Lo → Hp → Prop} (h : WPall c op es m H Q) : WPt c (.BoolOp op es pos) m H Q :=
  fun s R P k => wpAny_isTrue_BoolOp (h s R P k)
theorem all_and_nil {Q : Bool → Lo → Hp → Prop} (h : Q true m H) : WPall c .And [] m H Q := fun s R => .done R (fun P p => wpAny_allTrue_And_nil p) rfl h
theorem all_or_nil {Q : Bool → Lo → Hp → Prop} (h : Q false m H) : WPall c .Or [] m H Q := fun s R => .done R (fun P p => wpAny_allTrue_Or_nil p) rfl h
theorem all_and {x : Expr} {r : List Expr} {Q : Bool → Lo → Hp → Prop} (h : WPt c x m H fun b m1 H1 => if b then WPall c .And r m1 H1 Q else Q false m1 H1) : WPall c .And (x :: r) m H Q :=
  fun s R P k => wpAny_allTrue_And_cons (h s R _ fun x vx m1 H1 h1 tk1 R1 F1 r1 q1 => by
    cases r1
    cases x
    · exact k _ _ m1 H1 h1 tk1 R1 F1 rfl q1
    · exact q1 _ R1 P fun v v' m3 H3 h3 tk3 R3 F3 r3 q3 => k v v' m3 H3 h3 tk3 R3 (F1.trans R1.hasL F3) r3 q3)
theorem all_or {x : Expr} {r : List Expr} {Q : Bool → Lo → Hp → Prop} (h : WPt c x m H fun b m1 H1 => if b then Q true m1 H1 else WPall c .Or r m1 H1 Q) : WPall c .Or (x :: r) m H Q :=
  fun s R P k => wpAny_allTrue_Or_cons (h s R _ fun x vx m1 H1 h1 tk1 R1 F1 r1 q1 => by
    cases r1
    cases x
    · exact q1 _ R1 P fun v v' m3 H3 h3 tk3 R3 F3 r3 q3 => k v v' m3 H3 h3 tk3 R3 (F1.trans R1.hasL F3) r3 q3
    · exact k _ _ m1 H1 h1 tk1 R1 F1 rfl q1)
theorem tru_bool {b : Bool} {Q : Bool → Lo → Hp → Prop} (h : Q b m H) : Tru c (.bool b) m H Q := fun s va R r => by
  cases (r : va = _)
  exact .done R (fun P p => wpAny_truthy_bool p) rfl h
noncomputable def WPitems (c : Ctx) (pos : Pos) (es : List Expr) (m : Lo) (H : Hp) (Q : List V → Lo → Hp → Prop) : Prop := ∀ s, Rel c ⟨m, H⟩ s → Run c H s Reps (spliced (backTo pos (starEach es c.env))) Q
theorem items_nil {Q : List V → Lo → Hp → Prop} (h : Q [] m H) : WPitems c pos [] m H Q := fun s R => .done R (b := []) (fun P p => wpAny_items_nil p) rfl h
theorem items_cons {e : Expr} {r : List Expr} {Q : List V → Lo → Hp → Prop} (h : WPe c e m H fun a m1 H1 => WPitems c pos r m1 H1 fun as m2 H2 => Q (a :: as) m2 H2)
    (he : autoParam (starEach (e :: r) c.env = (false, eval e c.env) :: starEach r c.env) auRfl) : WPitems c pos (e :: r) m H Q :=
  fun s R P k => wpAny_items_cons (h s R _ fun a va m1 H1 h1 tk1 R1 F1 r1 q1 => q1 _ R1 _ fun as vs m2 H2 h2 tk2 R2 F2 r2 q2 =>
    k (a :: as) (va :: vs) m2 H2 h2 tk2 R2 (F1.trans R1.hasL F2) (.cons (R1.lift F2 r1) r2) q2) he
end
end Mine
end
section
open PySem PySem.W PyProof.Rows PySem.Calls
set_option maxRecDepth 100000
namespace Mine
theorem Ctx.hp (c : Ctx) : (c.env.scope.kind == .class || (c.env.scope.kind == .module && c.env.locals != c.env.globals)) = false := by rw [c.hk]; rfl
theorem Ctx.hi (c : Ctx) : interactive c.env = false := by unfold interactive; rw [c.hk]; rfl
section
variable {c : Ctx} {m : Lo} {H : Hp} {pos : Pos}
noncomputable abbrev Sto (c : Ctx) (x : Str) (v : V) (m : Lo) (H : Hp) (Q : Lo → Hp → Prop) : Prop := On1 c v UR (fun y => storeName c.env x y) m H fun _ => Q
noncomputable abbrev Asg (c : Ctx) (t : Expr) (v : V) (m : Lo) (H : Hp) (Q : Lo → Hp → Prop) : Prop := On1 c v UR (fun y => assign t c.env y) m H fun _ => Q
theorem sto_local {x : Str} {v : V} {Q : Lo → Hp → Prop} (hl : c.env.kindOf x = some .local) (h : Q ((x, v) :: m) H) : Sto c x v m H Q := fun s va R r P k => by
  obtain ⟨m', hn, q⟩ := R.loc
  exact wpAny_storeName_local hl hn (fun h' hn' hs => k () () _ _ h' ⟨_, _⟩ (R.store ⟨_, _⟩ r hs q hn') (.frame hs (let ⟨o, _, _, ho, _⟩ := hn'; ⟨o, ho⟩)) trivial h) c.hp
theorem sto_cell {x : Str} {v : V} {a : Addr} {u : Option V} {H' : Hp} {Q : Lo → Hp → Prop} (hk : c.env.kindOf x = some .cell) (hl : c.env.cells.lookup x = some a) (u : Upd a (.cell u) (.cell (some v)) H H') (h : Q m H') : Sto c x v m H Q := fun s va R r => by
  obtain ⟨o, ho, y, hd, q⟩ := R.obj _ _ u.mem
  exact .upd R u (b := ()) h fun P k => wpAny_storeName_cell c.hk hk hl ⟨o, ho, hd⟩ fun h' hc hs => k () h' s.toks (fun b ob hb e => (hs.2 b hb).trans e) (let ⟨o, ho, _⟩ := hc; ⟨o, ho⟩) (fun F => by
    obtain ⟨o', ho', hd'⟩ := hc
    exact ⟨o', ho', _, hd', va, rfl, R.lift F r⟩) trivial
theorem asg_name {x : Str} {p : Pos} {v : V} {Q : Lo → Hp → Prop} (h : Sto c x v m H Q) : Asg c (.Name x p) v m H Q := fun s va R r P k => wpAny_assign_Name (h s va R r P k)
noncomputable def AsgL (c : Ctx) : List Expr → List V → Lo → Hp → (Lo → Hp → Prop) → Prop
  | [], [], m, H, Q => Q m H
  | t :: ts, v :: vs, m, H, Q => Asg c t v m H fun m1 H1 => AsgL c ts vs m1 H1 Q
  | _, _, _, _, _ => False
theorem AsgL.run : ∀ {ts : List Expr} {us : List V} {m : Lo} {H : Hp} {Q : Lo → Hp → Prop}, AsgL c ts us m H Q → ∀ s vs, Rel c ⟨m, H⟩ s → Reps s.heap us vs →
    Run c H s UR (assignInOrder (ts.map fun t => assign t c.env) vs) fun _ => Q
  | [], [], m, H, Q, h, s, vs, R, r => by cases r; exact .done R (b := ()) (fun P p => wpAny_assignInOrder_none p) trivial h
  | t :: ts, u :: us, m, H, Q, h, s, _, R, ⟨v, vs, rfl, hv, hr⟩ => fun P k =>
    wpAny_assignInOrder_more (h s v R hv _ fun _ _ m1 H1 h1 tk1 R1 F1 _ q1 => AsgL.run q1 _ vs R1 (R.liftL F1 hr) P fun b v m2 H2 h2 tk2 R2 F2 r2 q2 => k b v m2 H2 h2 tk2 R2 (F1.trans R1.hasL F2) r2 q2)
  | [], _ :: _, _, _, _, h, _, _, _, _ => h.elim
  | _ :: _, [], _, _, _, h, _, _, _, _ => h.elim
theorem IsTupOf.plain {h : Heap} {a : Addr} {items : Array Value} (x : IsTupOf h .none a items) : h.IsTuple a items := let ⟨o, n, ho, hc, hd⟩ := x; ⟨o, ho, hc, n, hd⟩
theorem asg_tuple {ts : List Expr} {k1 : Nat} {p : Pos} {xs : List At} {Q : Lo → Hp → Prop} (h : AsgL c ts (xs.map .at) m H Q)
    (he : autoParam ((assignEach ts c.env).map (·.2) = ts.map (fun t => assign t c.env)) auRfl) (hs : autoParam ((assignEach ts c.env).findIdx? (·.1) = .none) auRfl) (hn : autoParam (ts.length = xs.length) auRfl) : Asg c (.Tuple ts k1 p) (.tup .none xs) m H Q := fun s va R r P k => by
  obtain ⟨a, items, rfl, ht, hr⟩ := r
  have hl : (assignEach ts c.env).length = items.size := by
    rw [← List.length_map (f := (·.2)), he, List.length_map, hn, ← Array.length_toList, hr.length]
  refine wpAny_assign_Tuple c.hh ht.plain hl hs fun h' hext => ?_
  have hg : ∀ b o, s.heap.get? b = some o → h'.get? b = some o := fun b o e => hext b o (Nat.ne_of_lt (Heap.lt_size e)) e
  rw [he]
  refine AsgL.run h _ _ (R.grow (tkn s s.toks) hg) hr.reps P fun b v m2 H2 h2 tk2 R2 F2 r2 q2 => k b v m2 H2 h2 tk2 R2 ((Fp.grow hg).trans (R.grow (tkn s s.toks) hg).hasL F2) r2 q2
theorem s_nil {Q : Fl → Lo → Hp → Prop} (h : Q .next m H) : WPs c [] m H Q := fun s R => .done R (b := .next) (fun P p => wpAny_execs_nil p) rfl h
theorem s_cons {st : Stmt} {r : List Stmt} {Q : Fl → Lo → Hp → Prop} (h : WP1 c st m H fun f m1 H1 => match f with | .next => WPs c r m1 H1 Q | f => Q f m1 H1) : WPs c (st :: r) m H Q :=
  fun s R P k => wpAny_execs_cons (h s R _ fun f vf m1 H1 h1 tk1 R1 F1 r1 q1 => by
    cases f with
    | next => cases (r1 : vf = .next); exact q1 _ R1 P fun v v' m3 H3 h3 tk3 R3 F3 r3 q3 => k v v' m3 H3 h3 tk3 R3 (F1.trans R1.hasL F3) r3 q3
    | brk => cases (r1 : vf = .brk); exact k .brk _ m1 H1 h1 tk1 R1 F1 rfl q1
    | cont => cases (r1 : vf = .cont); exact k .cont _ m1 H1 h1 tk1 R1 F1 rfl q1
    | ret u => obtain ⟨v, rfl, hv⟩ := r1; exact k (.ret u) _ m1 H1 h1 tk1 R1 F1 ⟨v, rfl, hv⟩ q1)
theorem s1_assign {x : Str} {p : Pos} {e : Expr} {Q : Fl → Lo → Hp → Prop} (h : WPe c e m H fun v m1 H1 => Sto c x v m1 H1 (Q .next))
    (hs : autoParam (swapsWith e (some (.Name x p)) pos.line c.env = pure false) auRfl) : WP1 c (.Assign [.Name x p] e pos) m H Q :=
  fun s R P k => wpAny_Assign_Name (h s R _ fun a va m1 H1 h1 tk1 R1 F1 r1 q1 => q1 _ va R1 r1 _ fun _ _ m3 H3 h3 tk3 R3 F3 _ q3 => k .next _ m3 H3 h3 tk3 R3 (F1.trans R1.hasL F3) rfl q3) hs
theorem s1_unpack {ts : List Expr} {k1 : Nat} {p : Pos} {e : Expr} {Q : Fl → Lo → Hp → Prop} (h : WPe c e m H fun v m1 H1 => Asg c (.Tuple ts k1 p) v m1 H1 (Q .next))
    (hs : autoParam (swapsWithSole [.Tuple ts k1 p] e pos.line c.env = pure false) auRfl) (hw : autoParam (swappedStores [.Tuple ts k1 p] e c.env = pure .none) auRfl) : WP1 c (.Assign [.Tuple ts k1 p] e pos) m H Q :=
  fun s R P k => Assign_Tuple (h s R _ fun a va m1 H1 h1 tk1 R1 F1 r1 q1 => q1 _ va R1 r1 _ fun _ _ m3 H3 h3 tk3 R3 F3 _ q3 => k .next _ m3 H3 h3 tk3 R3 (F1.trans R1.hasL F3) rfl q3) hs hw
theorem s1_if {t : Expr} {a b : List Stmt} {Q : Fl → Lo → Hp → Prop} (h : WPt c t m H fun x m1 H1 => if x then WPs c a m1 H1 Q else WPs c b m1 H1 Q) : WP1 c (.If t a b pos) m H Q :=
  fun s R P k => wpAny_If (h s R _ fun x vx m1 H1 h1 tk1 R1 F1 r1 q1 => by
    cases r1
    cases x <;> exact q1 _ R1 P fun v v' m3 H3 h3 tk3 R3 F3 r3 q3 => k v v' m3 H3 h3 tk3 R3 (F1.trans R1.hasL F3) r3 q3)
theorem s1_return {e : Expr} {Q : Fl → Lo → Hp → Prop} (h : WPe c e m H fun v m1 H1 => Q (.ret v) m1 H1) : WP1 c (.Return (some e) pos) m H Q :=
  fun s R P k => wpAny_Return_some (h s R _ fun a va m1 H1 h1 tk1 R1 F1 r1 q1 => k (.ret a) _ m1 H1 h1 tk1 R1 F1 ⟨va, rfl, r1⟩ q1)
theorem s1_expr {e : Expr} {Q : Fl → Lo → Hp → Prop} (h : WPe c e m H fun v m1 H1 => Q .next m1 H1) (hs : autoParam (swapsWith e .none pos.line c.env = pure false) auRfl) : WP1 c (.Expr e pos) m H Q :=
  fun s R P k => wpAny_Expr_any (h s R _ fun a va m1 H1 h1 tk1 R1 F1 r1 q1 => k .next _ m1 H1 h1 tk1 R1 F1 rfl q1) c.hi hs
theorem s1_while {t : Expr} {b : List Stmt} {Q : Fl → Lo → Hp → Prop} (I : Nat → Lo → Hp → Prop) (n : Nat) (h0 : I n m H)
    (step : ∀ n m H, I n m H → WPt c t m H fun x m1 H1 => if x then WPs c b m1 H1 fun f m2 H2 => match f with | .next | .cont => ∃ k, k < n ∧ I k m2 H2 | .brk => Q .next m2 H2 | .ret v => Q (.ret v) m2 H2 else Q .next m1 H1) : WP1 c (.While t b [] pos) m H Q := fun s R P k => by
  refine wpAny_While (codeAny_whileLoop (fun n s' => ∃ m' H' h' tk', s' = (sw s h' tk') ∧ Rel c ⟨m', H'⟩ s' ∧ Fp c.env.locals H H' s.heap h' ∧ I n m' H') ?_ n ⟨m, H, s.heap, (tkn s s.toks), rfl, R, .refl .., h0⟩)
  rintro n s' ⟨m1, H1, h1, tk1, rfl, R1, F1, hI⟩
  refine wpAny_mono (step n m1 H1 hI _ R1 _ fun x vx m2 H2 h2 tk2 R2 F2 r2 q2 => ?_) (fun _ _ q => q) fun _ _ q => q.elim
  cases r2
  cases x
  · exact wpAny_execs_nil (k .next _ m2 H2 h2 tk2 R2 (F1.trans R1.hasL F2) rfl q2)
  · refine wpAny_mono (q2 _ R2 _ fun f vf m3 H3 h3 tk3 R3 F3 r3 q3 => ?_) (fun _ _ q => q) fun _ _ q => q.elim
    have F := (F1.trans R1.hasL F2).trans R2.hasL F3
    cases f with
    | next => cases (r3 : vf = .next); obtain ⟨j, hj, q⟩ := q3; exact ⟨j, hj, m3, H3, h3, tk3, rfl, R3, F, q⟩
    | cont => cases (r3 : vf = .cont); obtain ⟨j, hj, q⟩ := q3; exact ⟨j, hj, m3, H3, h3, tk3, rfl, R3, F, q⟩
    | brk => cases (r3 : vf = .brk); exact k .next _ m3 H3 h3 tk3 R3 F rfl q3
    | ret u => obtain ⟨v, rfl, hv⟩ := r3; exact k (.ret u) _ m3 H3 h3 tk3 R3 F ⟨v, rfl, hv⟩ q3
theorem Rel.off {c : Ctx} {st : St} {s : Shared} (R : Rel c st s) {it : Addr} {oi : Obj} {h' : Heap} (tk : Tk) (hi : s.heap.get? it = some oi) (hnt : ∀ k items n, ¬ (oi.cls = clsOf k ∧ oi.data = .seq items n)) (h1 : it ∉ dom st.H) (h2 : it ≠ c.env.locals) (h3 : c.G it = .none)
    (hk : ∀ b o, b ≠ it → s.heap.get? b = some o → h'.get? b = some o) : Rel c st (sw s h' tk) := by
  have lift : ∀ u v, V.rep s.heap u v → V.rep h' u v := fun u v r => by
    cases u with
    | «at» x => exact r
    | tup k xs =>
      obtain ⟨a, items, rfl, ⟨o, n, ho, hc, hd⟩, hr⟩ := r
      refine ⟨a, items, rfl, ⟨o, n, hk _ _ (fun q => ?_) ho, hc, hd⟩, hr⟩
      subst q
      rw [hi] at ho
      cases ho
      exact hnt _ _ _ ⟨hc, hd⟩
  have liftL : ∀ us vs, Reps s.heap us vs → Reps h' us vs := fun us => by
    induction us with
    | nil => intro vs r; exact r
    | cons u us ih => rintro vs ⟨v, r, e, hv, hr⟩; exact ⟨v, r, e, lift u v hv, ih r hr⟩
  refine ⟨?_, ?_, R.nd, R.apart, fun b o e => hk b o (fun q => by subst q; rw [h3] at e; cases e) (R.keep b o e), R.gl⟩
  · obtain ⟨m', hn, q⟩ := R.loc
    obtain ⟨o, es, ep, ho, r⟩ := hn
    exact ⟨m', ⟨o, es, ep, hk _ _ (fun q => h2 q.symm) ho, r⟩, fun x u e => let ⟨v, h1, h2⟩ := q x u e; ⟨v, h1, lift _ _ h2⟩⟩
  · intro a o hm
    have hka : ∀ ob, s.heap.get? a = some ob → h'.get? a = some ob := fun ob e => hk a ob (fun q => h1 (q ▸ List.mem_map.mpr ⟨_, hm, rfl⟩)) e
    have r := R.obj a o hm
    cases o with
    | list xs => obtain ⟨items, ⟨o, ho, hc, n, hd⟩, ⟨o2, ho2, q⟩, hr⟩ := r; exact ⟨items, ⟨o, hka _ ho, hc, n, hd⟩, ⟨o2, hka _ ho2, q⟩, liftL _ _ hr⟩
    | dict ep es => obtain ⟨h0, kvs, hm, q1, q2⟩ := r; exact ⟨h0, kvs, hm.at' hka, q1, liftL _ _ q2⟩
    | range x y z => obtain ⟨t, u, v, ho⟩ := r; exact ⟨t, u, v, hka _ ho⟩
    | view k d => obtain ⟨o, ho, q⟩ := r; exact ⟨o, hka _ ho, q⟩
    | set z ks => obtain ⟨o, ho, q⟩ := r; exact ⟨o, hka _ ho, q⟩
    | inst c d => obtain ⟨o, ho, q⟩ := r; exact ⟨o, hka _ ho, q⟩
    | ns fs => obtain ⟨m, hm, q, hr⟩ := r; exact ⟨m, hm.at hka, q, fun x u hu => let ⟨v, h1, h2⟩ := hr x u hu; ⟨v, h1, lift _ _ h2⟩⟩
    | cell x =>
      obtain ⟨o, ho, y, hd, q⟩ := r
      refine ⟨o, hka _ ho, y, hd, ?_⟩
      cases x with
      | none => exact q
      | some u => obtain ⟨v, h1, h2⟩ := q; exact ⟨v, h1, lift _ _ h2⟩
    | obj o => exact ⟨hka _ r.1, r.2⟩
noncomputable def NotTup (o : Obj) : Prop := ∀ k items n, ¬ (o.cls = clsOf k ∧ o.data = .seq items n)
noncomputable def Aside (c : Ctx) (H : Hp) (h : Heap) (fp : List Addr) : Prop := ∀ b ∈ fp, b ∉ dom H ∧ b ≠ c.env.locals ∧ c.G b = .none ∧ ∃ o, h.get? b = some o ∧ NotTup o
theorem lift_off {c : Ctx} {H : Hp} {h h' : Heap} {fp : List Addr} (A : Aside c H h fp) (hk : ∀ b o, b ∉ fp → h.get? b = some o → h'.get? b = some o) {u : V} {v : Value} (r : u.rep h v) : u.rep h' v := by
  cases u with
  | «at» x => exact r
  | tup k xs =>
    obtain ⟨a, items, rfl, ⟨o, n, ho, hc, hd⟩, hr⟩ := r
    refine ⟨a, items, rfl, ⟨o, n, hk _ _ (fun q => ?_) ho, hc, hd⟩, hr⟩
    obtain ⟨_, _, _, o', ho', nt⟩ := A a q
    rw [ho] at ho'; cases ho'
    exact nt _ _ _ ⟨hc, hd⟩
theorem lift_offL {c : Ctx} {H : Hp} {h h' : Heap} {fp : List Addr} (A : Aside c H h fp) (hk : ∀ b o, b ∉ fp → h.get? b = some o → h'.get? b = some o) : ∀ {us : List V} {vs : List Value}, Reps h us vs → Reps h' us vs
  | [], _, e => e
  | _ :: _, _, ⟨v, r, e, hv, hr⟩ => ⟨v, r, e, lift_off A hk hv, lift_offL A hk hr⟩
theorem Aside.step {c : Ctx} {H H' : Hp} {h h' : Heap} {fp : List Addr} (a : Aside c H h fp) (F : Fp c.env.locals H H' h h') : Aside c H' h' fp := fun b hb => by
  obtain ⟨h1, h2, h3, o, ho, nt⟩ := a b hb
  exact ⟨fun q => (F.dom b q).elim h1 fun n => (by rw [n] at ho; cases ho), h2, h3, o, F.keep b o h1 h2 ho, nt⟩
noncomputable def isNameOrTuple : Expr → Bool
  | .Name .. => true
  | .Tuple .. => true
  | _ => false
structure Iter (c : Ctx) (t : Expr) (it : Value) (fp : List Addr) (n : Nat) (x : Nat → V) (Ok : Hp → Prop) (J : Nat → Heap → Prop) (J' : Nat → Value → Heap → Prop) : Prop where
  item : ∀ i m H s, i < n → Rel c ⟨m, H⟩ s → Aside c H s.heap fp → Ok H → J i s.heap → ∀ P : Option Value → Shared → Prop,
    (∀ v h tk, Rel c ⟨m, H⟩ (sw s h tk) → (∀ b o, b ∉ fp → s.heap.get? b = some o → h.get? b = some o) → Aside c H h fp → J' i v h → (x i).rep h v → P (some v) (sw s h tk)) → c.wp (pyNext it) P s
  go : ∀ i v m H s, Rel c ⟨m, H⟩ s → Aside c H s.heap fp → J' i v s.heap → (x i).rep s.heap v → ∀ P : Unit → Shared → Prop,
    (∀ h tk, Rel c ⟨m, H⟩ (sw s h tk) → (∀ b o, b ∉ fp → s.heap.get? b = some o → h.get? b = some o) → Aside c H h fp → J (i + 1) h → (x i).rep h v → P () (sw s h tk)) → c.wp (letOwnedTupleGo t it v) P s
  done : ∀ m H s, Rel c ⟨m, H⟩ s → Aside c H s.heap fp → Ok H → J n s.heap → ∀ P : Option Value → Shared → Prop,
    (∀ h tk, Rel c ⟨m, H⟩ (sw s h tk) → (∀ b o, b ∉ fp → s.heap.get? b = some o → h.get? b = some o) → P .none (sw s h tk)) → c.wp (pyNext it) P s
  keep : ∀ i h h', J i h → (∀ b ∈ fp, ∀ o, h.get? b = some o → h'.get? b = some o) → J i h'
  self : ∀ s (P : Value → Shared → Prop), J 0 s.heap → P it s → c.wp (pyIter it) P s
noncomputable def WPit (c : Ctx) (t e : Expr) (m : Lo) (H : Hp) (Q : Nat → (Nat → V) → (Hp → Prop) → Lo → Hp → Prop) : Prop :=
  ∀ s, Rel c ⟨m, H⟩ s → ∀ P : Value → Shared → Prop,
    (∀ it fp n x Ok J J' m1 H1 h tk, Iter c t it fp n x Ok J J' → Rel c ⟨m1, H1⟩ (sw s h tk) → Fp c.env.locals H H1 s.heap h → Aside c H1 h fp → (∀ b ∈ fp, s.heap.get? b = .none) → J 0 h → Q n x Ok m1 H1 → P it (sw s h tk)) →
    wpAny (model c.prog c.w) c.A (eval e c.env) (fun xv s₁ => c.wp (pyIter xv) P s₁) (fun _ _ => False) s
theorem Fp.off {L : Addr} {H H' : Hp} {h h₁ h₂ : Heap} {fp : List Addr} (F : Fp L H H' h h₁) (hfp : ∀ b ∈ fp, h.get? b = .none) (hk : ∀ b o, b ∉ fp → h₁.get? b = some o → h₂.get? b = some o) : Fp L H H' h h₂ :=
  ⟨fun b o hb hL e => hk b o (fun q => by rw [hfp b q] at e; cases e) (F.keep b o hb hL e), F.dom, fun b o e => let ⟨o', e'⟩ := F.alive b o e; ⟨o', hk b o' (fun q => by rw [hfp b q] at e; cases e) e'⟩⟩
structure ForJ' (c : Ctx) (s : Shared) (H : Hp) (fp : List Addr) (J : Nat → Heap → Prop) (I : Nat → Lo → Hp → Prop) (n k : Nat) (s' : Shared) (i : Nat) (m' : Lo) (H' : Hp) (h' : Heap) (tk' : Tk) : Prop where
  p0 : s' = (sw s h' tk')
  p1 : Rel c ⟨m', H'⟩ s'
  p2 : Fp c.env.locals H H' s.heap h'
  p3 : Aside c H' h' fp
  p4 : J i h'
  p5 : I i m' H'
  p6 : i ≤ n
  p7 : k = n + 1 - i
def ForJ (c : Ctx) (s : Shared) (H : Hp) (fp : List Addr) (J : Nat → Heap → Prop) (I : Nat → Lo → Hp → Prop) (n k : Nat) (s' : Shared) : Prop := ∃ i m' H' h' tk', ForJ' c s H fp J I n k s' i m' H' h' tk'
theorem s1_for {t iter : Expr} {b : List Stmt} {Q : Fl → Lo → Hp → Prop}
    (h : WPit c t iter m H fun n x Ok m1 H1 => ∃ I : Nat → Lo → Hp → Prop, I 0 m1 H1 ∧ (∀ i m2 H2, i < n → I i m2 H2 → Ok H2 ∧ Asg c t (x i) m2 H2 fun m3 H3 => WPs c b m3 H3 fun f m4 H4 =>
      match f with | .next | .cont => I (i + 1) m4 H4 | .brk => Q .next m4 H4 | .ret v => Q (.ret v) m4 H4) ∧ ∀ m2 H2, I n m2 H2 → Ok H2 ∧ Q .next m2 H2)
    (hs : autoParam (∀ x, foldedSetIterable iter c.env x = pure x) auFun) : WP1 c (.For t iter b [] pos) m H Q := fun s R P k => by
  refine wpAny_For (h s R _ fun it fp n x Ok J J' m1 H1 h1 tk1 W R1 F1 A1 fr1 j1 hI => ?_) hs
  obtain ⟨I, i0, step, fin⟩ := hI
  refine codeAny_forLoop_any (ForJ c s H fp J I n) ?_ (n + 1)
    ⟨0, m1, H1, h1, tk1, rfl, R1, F1, A1, j1, i0, Nat.zero_le _, rfl⟩
  intro k' s' hJ
  refine cutm fun G hG => ?_
  obtain ⟨i, m2, H2, h2, tk2, rfl, R2, F2, A2, j2, hI, hle, rfl⟩ := hJ
  by_cases hlt : i < n
  · obtain ⟨ok, body⟩ := step i m2 H2 hlt hI
    refine hG (wpAny_mono (W.item i m2 H2 _ hlt R2 A2 ok j2 _ fun v h3 tk3 R3 k3 A3 j3 r3 => ?_) (fun _ _ q => q) fun _ _ q => q.elim)
    have F3 := F2.off fr1 k3
    refine wpAny_mono (W.go i v m2 H2 _ R3 A3 j3 r3 _ fun h4 tk4 R4 k4 A4 j4 r4 => ?_) (fun _ _ q => q) fun _ _ q => q.elim
    have F4 := F3.off fr1 k4
    refine wpAny_mono (body _ v R4 r4 _ fun _ _ m5 H5 h5 tk5 R5 F5 _ q5 => ?_) (fun _ _ q => q) fun _ _ q => q.elim
    refine wpAny_mono (q5 _ R5 _ fun f vf m6 H6 h6 tk6 R6 F6 r6 q6 => ?_) (fun _ _ q => q) fun _ _ q => q.elim
    refine cutm fun G hG => ?_
    have F := (F4.trans R4.hasL F5).trans R5.hasL F6
    have A5 := A4.step F5
    have A6 := A5.step F6
    have kp : ∀ b ∈ fp, ∀ o, h4.get? b = some o → h6.get? b = some o := fun b hb o e => by
      have e5 := F5.keep b o (A4 b hb).1 (A4 b hb).2.1 e
      exact F6.keep b o (A5 b hb).1 (A5 b hb).2.1 e5
    have j6 := W.keep _ _ _ j4 kp
    cases f with
    | next => cases (r6 : vf = .next); exact hG ⟨n + 1 - (i + 1), by exact ar1 2 (.t (.v 0) (.v 1)) (.t (.s (.a (.v 1) (.n 1)) (.a (.v 0) (.n 1))) (.s (.a (.v 1) (.n 1)) (.v 0))) (by kernel_rfl) [_, _] hlt, i + 1, m6, H6, h6, tk6, rfl, R6, F, A6, j6, q6, hlt, rfl⟩
    | cont => cases (r6 : vf = .cont); exact hG ⟨n + 1 - (i + 1), by exact ar1 2 (.t (.v 0) (.v 1)) (.t (.s (.a (.v 1) (.n 1)) (.a (.v 0) (.n 1))) (.s (.a (.v 1) (.n 1)) (.v 0))) (by kernel_rfl) [_, _] hlt, i + 1, m6, H6, h6, tk6, rfl, R6, F, A6, j6, q6, hlt, rfl⟩
    | brk => cases (r6 : vf = .brk); exact hG (k .next _ m6 H6 h6 tk6 R6 F rfl q6)
    | ret u => obtain ⟨v, rfl, hv⟩ := r6; exact hG (k (.ret u) _ m6 H6 h6 tk6 R6 F ⟨v, rfl, hv⟩ q6)
  · have hin : i = n := by exact ar2 2 (.l (.v 0) (.v 1)) (.no (.t (.v 0) (.v 1))) (.e (.v 0) (.v 1)) (by kernel_rfl) [_, _] hle hlt
    subst hin
    obtain ⟨ok, q⟩ := fin m2 H2 hI
    refine hG (wpAny_mono (W.done m2 H2 _ R2 A2 ok j2 _ fun h3 tk3 R3 k3 => ?_) (fun _ _ q => q) fun _ _ q => q.elim)
    exact wpAny_execs_nil (k .next _ m2 H2 h3 tk3 R3 (F2.off fr1 k3) rfl q)
end
end Mine
end
section
open PySem PySem.W PyProof.Rows PySem.Calls
set_option maxRecDepth 100000
namespace Mine
theorem get_size (h : Heap) : h.get? h.objs.size = .none := by
  cases q : h.get? h.objs.size with
  | none => rfl
  | some o => exact absurd (Heap.lt_size q) (Nat.lt_irrefl _)
theorem get_ge {h : Heap} {a : Addr} (ha : h.objs.size ≤ a) : h.get? a = .none := by
  cases q : h.get? a with
  | none => rfl
  | some o => exact absurd (Heap.lt_size q) (Nat.not_lt.mpr ha)
theorem Rel.fresh {c : Ctx} {st : St} {s : Shared} (R : Rel c st s) {a : Addr} (ha : s.heap.get? a = .none) : a ∉ dom st.H ∧ a ≠ c.env.locals ∧ c.G a = .none := by
  refine ⟨fun q => ?_, fun q => ?_, ?_⟩
  · obtain ⟨o, ho⟩ := R.lt q; rw [ha] at ho; cases ho
  · subst q; obtain ⟨o, ho⟩ := R.hasL; rw [ha] at ho; cases ho
  · cases q : c.G a with
    | none => rfl
    | some o => have := R.keep a o q; rw [ha] at this; cases this
theorem Heap.SameBut.kp {a : Addr} {h h' : Heap} (x : Heap.SameBut a h h') : ∀ b o, b ≠ a → h.get? b = some o → h'.get? b = some o := fun b o hb e => (x.2 b hb).trans e
section
variable {c : Ctx} {m : Lo} {H : Hp} {pos : Pos}
theorem one_off {it : Addr} {h h' : Heap} (hk : ∀ b o, b ≠ it → h.get? b = some o → h'.get? b = some o) : ∀ b o, b ∉ [it] → h.get? b = some o → h'.get? b = some o :=
  fun b o hb e => hk b o (fun q => hb (by simp [q])) e
theorem Aside.one {H : Hp} {h h' : Heap} {it : Addr} (a : Aside c H h [it]) (hi : ∃ o, h'.get? it = some o ∧ NotTup o) : Aside c H h' [it] := fun b hb => by
  simp at hb; subst hb
  obtain ⟨h1, h2, h3, _⟩ := a b (by simp)
  exact ⟨h1, h2, h3, hi⟩
theorem Rel.off2 {st : St} {s : Shared} {fp : List Addr} {h' : Heap} (R : Rel c st s) (tk : Tk) (A : Aside c st.H s.heap fp) (hk : ∀ b o, b ∉ fp → s.heap.get? b = some o → h'.get? b = some o) : Rel c st (sw s h' tk) := by
  have lift : ∀ u v, V.rep s.heap u v → V.rep h' u v := fun u v r => lift_off A hk r
  have liftL : ∀ us vs, Reps s.heap us vs → Reps h' us vs := fun us vs r => lift_offL A hk r
  refine ⟨?_, ?_, R.nd, R.apart, fun b o e => hk b o (fun q => by rw [(A b q).2.2.1] at e; cases e) (R.keep b o e), R.gl⟩
  · obtain ⟨m', hn, q⟩ := R.loc
    obtain ⟨o, es, ep, ho, r⟩ := hn
    exact ⟨m', ⟨o, es, ep, hk _ _ (fun q => (A _ q).2.1 rfl) ho, r⟩, fun x u e => let ⟨v, h1, h2⟩ := q x u e; ⟨v, h1, lift _ _ h2⟩⟩
  · intro a o hm
    have hka : ∀ ob, s.heap.get? a = some ob → h'.get? a = some ob := fun ob e => hk a ob (fun q => (A a q).1 (List.mem_map.mpr ⟨_, hm, rfl⟩)) e
    have r := R.obj a o hm
    cases o with
    | list xs => obtain ⟨items, ⟨o, ho, hc, n, hd⟩, ⟨o2, ho2, q⟩, hr⟩ := r; exact ⟨items, ⟨o, hka _ ho, hc, n, hd⟩, ⟨o2, hka _ ho2, q⟩, liftL _ _ hr⟩
    | dict ep es => obtain ⟨h0, kvs, hm, q1, q2⟩ := r; exact ⟨h0, kvs, hm.at' hka, q1, liftL _ _ q2⟩
    | range x y z => obtain ⟨t, u, v, ho⟩ := r; exact ⟨t, u, v, hka _ ho⟩
    | view k d => obtain ⟨o, ho, q⟩ := r; exact ⟨o, hka _ ho, q⟩
    | set z ks => obtain ⟨o, ho, q⟩ := r; exact ⟨o, hka _ ho, q⟩
    | inst c d => obtain ⟨o, ho, q⟩ := r; exact ⟨o, hka _ ho, q⟩
    | ns fs => obtain ⟨m, hm, q, hr⟩ := r; exact ⟨m, hm.at hka, q, fun x u hu => let ⟨v, h1, h2⟩ := hr x u hu; ⟨v, h1, lift _ _ h2⟩⟩
    | cell x =>
      obtain ⟨o, ho, y, hd, q⟩ := r
      refine ⟨o, hka _ ho, y, hd, ?_⟩
      cases x with
      | none => exact q
      | some u => obtain ⟨v, h1, h2⟩ := q; exact ⟨v, h1, lift _ _ h2⟩
    | obj o => exact ⟨hka _ r.1, r.2⟩
theorem letGo_other {t : Expr} {it : Addr} {v : Value} {o : Obj} {T : String} {vs : Array Value} {s : Shared} {P : Unit → Shared → Prop} (ht : isNameOrTuple t = true) (ho : s.heap.get? it = some o) (hc : o.cls = .type T) (hd : o.data = .fields vs)
    (hT : (["enumerate", "zip", "dict_itemiterator", "dict_reverseitemiterator", "odict_iterator", "itertools.zip_longest", "itertools.pairwise"] : List String).contains T = false) (k : P () s) : c.wp (letOwnedTupleGo t (.ref it) v) P s := by
  cases t <;> try (exact Bool.noConfusion (show false = true from ht))
  · exact wpAny_pure k
  · unfold letOwnedTupleGo
    cases v with
    | ref T' =>
      refine wpAny_bind (wpAny_load ho ?_)
      rw [hc, hd]
      show wpAny _ _ (if (_ && _) = true then _ else _) _ _ _
      rw [if_neg (by intro h; rw [hT, Bool.false_and] at h; cases h)]
      exact wpAny_pure k
    | _ => exact wpAny_pure k
theorem iter_list {t : Expr} {a it : Addr} {xs : List V} (ht : isNameOrTuple t = true) (hne : a ≠ it) : Iter c t (.ref it) [it] xs.length (fun i => xs.getD i .none) (fun H => Sees c H a (.list xs)) (fun i h => h.IsListIter it a i) (fun i _ h => h.IsListIter it a (i + 1)) where
  item := fun i m H s hi R A ok j P k => by
    obtain ⟨items, hl, _, hr⟩ := ok m s R
    obtain ⟨h1, h2, h3, _⟩ := A it (by simp)
    have hx : xs[i]? = some (xs.getD i .none) := by simp [List.getD, hi]
    obtain ⟨v, hv, hrv⟩ := hr.get hx
    obtain ⟨oi, ho, _, hd⟩ := id j
    refine wpAny_pyNext_list_item j hl (by rw [← Array.getElem?_toList]; exact hv) fun h' hit' hs' => ?_
    have R' := R.off (h' := h') (tkn s s.toks) ho (fun _ _ _ q => by rw [hd] at q; cases q.2) h1 h2 h3 (Heap.SameBut.kp hs')
    refine k v h' (tkn s s.toks) R' (one_off (Heap.SameBut.kp hs')) (A.one (let ⟨o, ho, _, hd⟩ := hit'; ⟨o, ho, fun _ _ _ q => by rw [hd] at q; cases q.2⟩)) hit' ?_
    obtain ⟨items', hl', _, hr'⟩ := ok m _ R'
    have : items' = items := by
      obtain ⟨o1, e1, _, n1, d1⟩ := hl
      obtain ⟨o2, e2, _, n2, d2⟩ := hl'
      have e2' : h'.get? a = some o2 := e2
      rw [Heap.SameBut.kp hs' a o1 hne e1] at e2'
      cases e2'; rw [d1] at d2; cases d2; rfl
    subst this
    obtain ⟨v', hv', hrv'⟩ := hr'.get hx
    rw [hv] at hv'; cases hv'; exact hrv'
  go := fun i v m H s R A j r P k => by
    obtain ⟨oi, ho, hc, hd⟩ := id j
    exact letGo_other ht ho hc hd (by decide) (k s.heap (tkn s s.toks) R (fun _ _ _ e => e) A j r)
  done := fun m H s R A ok j P k => by
    obtain ⟨items, hl, _, hr⟩ := ok m s R
    obtain ⟨h1, h2, h3, _⟩ := A it (by simp)
    obtain ⟨oi, ho, _, hd⟩ := id j
    refine wpAny_pyNext_list_end c.hh j hl (by rw [← Array.getElem?_toList]; simp [hr.length]) fun h' hs' => ?_
    exact k h' (tkn s s.toks) (R.off (tkn s s.toks) ho (fun _ _ _ q => by rw [hd] at q; cases q.2) h1 h2 h3 hs') (one_off hs')
  keep := fun i h h' j hk => j.at fun o e => hk it (by simp) o e
  self := fun s P j p => wpAny_pyIter_listiter j p
theorem it_list {t e : Expr} (ht : isNameOrTuple t = true) {Q : Nat → (Nat → V) → (Hp → Prop) → Lo → Hp → Prop}
    (h : WPe c e m H fun u m1 H1 => ∃ a xs, u = .ref a ∧ Sees c H1 a (.list xs) ∧ Q xs.length (fun i => xs.getD i .none) (fun H => Sees c H a (.list xs)) m1 H1) : WPit c t e m H Q := fun s R P k => by
  refine h s R _ fun u va m1 H1 h1 tk1 R1 F1 r1 q1 => ?_
  obtain ⟨a, xs, rfl, hs, q⟩ := q1
  cases (r1 : va = _)
  obtain ⟨items, hl, _, hr⟩ := hs m1 _ R1
  refine wpAny_pyIter_list hl ?_
  have hg : ∀ b o, h1.get? b = some o → (h1.push { cls := .type "list_iterator", data := .fields #[.ref a, .int 0 0] }).get? b = some o := fun b o e => Heap.get?_push_of_some _ e
  have hf := R1.fresh (get_size h1)
  refine k (.ref h1.objs.size) [h1.objs.size] _ _ _ _ _ m1 H1 _ tk1 (iter_list (a := a) (xs := xs) ht (by obtain ⟨o, ho, _⟩ := hl; exact Nat.ne_of_lt (Heap.lt_size ho))) (R1.grow tk1 hg) (F1.trans R1.hasL (.grow hg))
    (fun b hb => by simp at hb; subst hb; exact ⟨hf.1, hf.2.1, hf.2.2, _, Heap.get?_push_size _ rfl, fun _ _ _ q => by cases q.2⟩) (fun b hb => by
      simp at hb; subst hb
      cases q : s.heap.get? h1.objs.size with
      | none => rfl
      | some o => obtain ⟨o', e⟩ := F1.alive _ _ q; rw [get_size] at e; cases e) ⟨_, Heap.get?_push_size _ rfl, rfl, rfl⟩ q
end
end Mine
end
section
open PySem PySem.W PyProof.Rows PySem.Calls
set_option maxRecDepth 100000
namespace Mine
section
variable {c : Ctx} {m : Lo} {H : Hp} {pos : Pos} {Q : V → Lo → Hp → Prop} {a b : Int}
theorem o_add (h : Q (.int (a + b)) m H) : Op2 c .Add (.int a) (.int b) m H Q := fun s va vb R ra rb => by
  obtain ⟨t, rfl⟩ := ra; obtain ⟨u, rfl⟩ := rb
  exact .val R h fun P k => wpAny_add_int (k _ _ ⟨_, rfl⟩)
theorem o_sub (h : Q (.int (a - b)) m H) : Op2 c .Sub (.int a) (.int b) m H Q := fun s va vb R ra rb => by
  obtain ⟨t, rfl⟩ := ra; obtain ⟨u, rfl⟩ := rb
  exact .val R h fun P k => sub_int (k _ _ ⟨_, rfl⟩)
theorem o_mul (h : Q (.int (a * b)) m H) (hm : IntMulOk a b := by mul_fits) : Op2 c .Mult (.int a) (.int b) m H Q := fun s va vb R ra rb => by
  obtain ⟨t, rfl⟩ := ra; obtain ⟨u, rfl⟩ := rb
  exact .val R h fun P k => mul_int (k _ _ ⟨_, rfl⟩) hm
theorem o_div (h : Q (.int (a.fdiv b)) m H) (h0 : autoParam (b ≠ 0) auDec) (hb : autoParam (b.natAbs < 1073741824) auDec) : Op2 c .FloorDiv (.int a) (.int b) m H Q := fun s va vb R ra rb => by
  obtain ⟨t, rfl⟩ := ra; obtain ⟨u, rfl⟩ := rb
  exact .val R h fun P k => floordiv_int h0 (k _ _ ⟨_, rfl⟩) (.inl (PyProof.noPylong_small hb))
theorem o_mod (h : Q (.int (a.fmod b)) m H) (h0 : autoParam (b ≠ 0) auDec) : Op2 c .Mod (.int a) (.int b) m H Q := fun s va vb R ra rb => by
  obtain ⟨t, rfl⟩ := ra; obtain ⟨u, rfl⟩ := rb
  exact .val R h fun P k => PyProof.Rows.mod_int h0 (k _ _ ⟨_, rfl⟩)
theorem o_pow (h : Q (.int (a ^ b.toNat)) m H) (h0 : autoParam (0 ≤ b) auDec) (hsz : autoParam ((Builtin.Int.intBits a : Int) * b ≤ 2 ^ 27) auDec) : Op2 c .Pow (.int a) (.int b) m H Q := fun s va vb R ra rb => by
  obtain ⟨t, rfl⟩ := ra; obtain ⟨u, rfl⟩ := rb
  exact .val R h fun P k => pow_int h0 hsz (k _ _ ⟨_, rfl⟩)
theorem u_neg (h : Q (.int (-a)) m H) : Un c .USub (.int a) m H Q := fun s va R ra => by
  obtain ⟨t, rfl⟩ := ra
  exact .val R h fun P k => PyProof.Rows.neg_int (k _ _ ⟨_, rfl⟩)
theorem c_lt (h : Q (.bool (decide (a < b))) m H) : Cmp c .Lt (.int a) (.int b) m H Q := fun s va vb R ra rb => by
  obtain ⟨t, rfl⟩ := ra; obtain ⟨u, rfl⟩ := rb
  exact .val R h fun P k => PyProof.Rows.lt_int (k _ _ rfl)
theorem c_gt (h : Q (.bool (decide (b < a))) m H) : Cmp c .Gt (.int a) (.int b) m H Q := fun s va vb R ra rb => by
  obtain ⟨t, rfl⟩ := ra; obtain ⟨u, rfl⟩ := rb
  exact .val R h fun P k => PyProof.Rows.gt_int (k _ _ rfl)
theorem c_ge (h : Q (.bool (decide (b ≤ a))) m H) : Cmp c .GtE (.int a) (.int b) m H Q := fun s va vb R ra rb => by
  obtain ⟨t, rfl⟩ := ra; obtain ⟨u, rfl⟩ := rb
  exact .val R h fun P k => PyProof.Rows.ge_int (k _ _ rfl)
theorem c_eq (h : Q (.bool (a == b)) m H) : Cmp c .Eq (.int a) (.int b) m H Q := fun s va vb R ra rb => by
  obtain ⟨t, rfl⟩ := ra; obtain ⟨u, rfl⟩ := rb
  exact .val R h fun P k => PyProof.Rows.eq_int (k _ _ rfl)
theorem c_ne (h : Q (.bool (a != b)) m H) : Cmp c .NotEq (.int a) (.int b) m H Q := fun s va vb R ra rb => by
  obtain ⟨t, rfl⟩ := ra; obtain ⟨u, rfl⟩ := rb
  exact .val R h fun P k => PyProof.Rows.ne_int (k _ _ rfl)
theorem tru_none {Q : Bool → Lo → Hp → Prop} (h : Q false m H) : Tru c .none m H Q := fun s va R ra => by
  cases (ra : va = _)
  exact .val R h fun P k => truthy_none (k _ _ rfl)
theorem u_not {x : V} (h : Tru c x m H fun b m1 H1 => Q (.bool (!b)) m1 H1) : Un c .Not x m H Q := fun s va R ra P k =>
  not_value (h s va R ra _ fun b vb m1 H1 h1 tk1 R1 F1 r1 q1 => by cases r1; exact k (.bool _) _ m1 H1 h1 tk1 R1 F1 rfl q1)
theorem O.list_get {prog : Program} {w : World} {h : Heap} {a : Addr} {xs : List V} (r : (O.list xs).rep prog w h a) : ∃ items n, IsL h a items n ∧ Reps h xs items.toList := by
  obtain ⟨items, ⟨o, ho, hc, n, hd⟩, ⟨o2, ho2, q1, q2⟩, hr⟩ := r
  rw [ho] at ho2; cases ho2
  refine ⟨items, n, ?_, hr⟩
  obtain ⟨cl, d, dt, sl⟩ := o
  subst hc hd q1 q2
  exact ho
theorem IsL.isList {h : Heap} {a : Addr} {items : Array Value} {n : Nat} (x : IsL h a items n) : h.IsList a items := ⟨_, x, rfl, n, rfl⟩
theorem O.list_mk {prog : Program} {w : World} {h : Heap} {a : Addr} {xs : List V} {items : Array Value} {n : Nat} (x : IsL h a items n) (r : Reps h xs items.toList) : (O.list xs).rep prog w h a := ⟨items, ⟨_, x, rfl, n, rfl⟩, ⟨_, x, rfl, rfl⟩, r⟩
theorem push_grow {h : Heap} {o : Obj} : ∀ b ob, h.get? b = some ob → (h.push o).get? b = some ob := fun b ob e => Heap.get?_push_of_some _ e
theorem e_list {es : List Expr} (h : WPitems c pos es m H fun vs m1 H1 => vs.length ≤ sizeLine ∧ ∀ a, Q (.ref a) m1 ((a, .list vs) :: H1)) : WPe c (.List es pos) m H Q :=
  fun s R P k => wpAny_List (h s R _ fun vs vv m1 H1 h1 tk1 R1 F1 r1 q1 => ⟨by rw [r1.length]; exact q1.1, by
    have hr := R1.new (h' := h1.push { cls := .type "list", data := .seq vv.toArray }) (o := .list vs) tk1 push_grow (get_size h1) (O.list_mk (n := 0) (Heap.get?_push_size _ rfl) (by simpa using R1.liftL (.grow (H := H1) push_grow) r1))
    exact k (.ref _) _ m1 _ _ tk1 hr (F1.trans R1.hasL (.new push_grow (get_size h1))) rfl (q1.2 _)⟩)
theorem e_tuple {es : List Expr} {k0 : Nat} (h : WPitems c pos es m H fun vs m1 H1 => ∃ xs : List At, vs = xs.map .at ∧ vs.length ≤ sizeLine ∧ Q (.tup .none xs) m1 H1) : WPe c (.Tuple es k0 pos) m H Q :=
  fun s R P k => wpAny_Tuple (h s R _ fun vs vv m1 H1 h1 tk1 R1 F1 r1 q1 => by
    obtain ⟨xs, rfl, hl, q⟩ := q1
    refine ⟨by rw [r1.length]; exact hl, ?_⟩
    exact k (.tup .none xs) _ m1 H1 _ tk1 (R1.grow tk1 push_grow) (F1.trans R1.hasL (.grow push_grow)) ⟨_, _, rfl, ⟨_, 0, Heap.get?_push_size _ rfl, rfl, rfl⟩, by simpa using AtReps.of_reps r1⟩ q)
theorem o_cat {x y : Addr} {xs ys : List V} (hx : Sees c H x (.list xs)) (hy : Sees c H y (.list ys)) (h : ∀ a, Q (.ref a) m ((a, .list (xs ++ ys)) :: H)) (hsz : xs.length + ys.length ≤ sizeLine) : Op2 c .Add (.ref x) (.ref y) m H Q := fun s va vb R ra rb => by
  cases (ra : va = _); cases (rb : vb = _)
  obtain ⟨ix, nx, lx, rx⟩ := O.list_get (hx m s R)
  obtain ⟨iy, ny, ly, ry⟩ := O.list_get (hy m s R)
  refine .new R (o := .list (xs ++ ys)) (b := fun a => .ref a) h fun P k => PySem.P.add_list lx ly (k _ _ _ s.toks push_grow (get_size _) (O.list_mk (n := 0) (Heap.get?_push_size _ rfl) ?_) rfl) (by rw [← Array.length_toList, ← Array.length_toList, rx.length, ry.length]; exact hsz)
  rw [Array.toList_append]
  exact (R.liftL (.grow (H := H) push_grow) rx).append (R.liftL (.grow (H := H) push_grow) ry)
noncomputable abbrev Sub (c : Ctx) (value slice : Expr) (a i : V) (m : Lo) (H : Hp) (Q : V → Lo → Hp → Prop) : Prop := On2 c a i VR (subscriptTail value slice) m H Q
theorem e_sub {v i : Expr} (h : WPe c v m H fun a m1 H1 => WPe c i m1 H1 fun b m2 H2 => Sub c v i a b m2 H2 Q) : WPe c (.Subscript v i pos) m H Q :=
  fun s R P k => Subscript_ (h s R _ fun a va m1 H1 h1 tk1 R1 F1 r1 q1 => q1 _ R1 _ fun b vb m2 H2 h2 tk2 R2 F2 r2 q2 => q2 _ va vb R2 (R1.lift F2 r1) r2 P
    fun v v' m3 H3 h3 tk3 R3 F3 r3 q3 => k v v' m3 H3 h3 tk3 R3 ((F1.trans R1.hasL F2).trans R2.hasL F3) r3 q3)
theorem sub_list {v i : Expr} {x : Addr} {xs : List V} {k : Int} {u : V} (hx : Sees c H x (.list xs)) (h0 : 0 ≤ k) (h1 : xs[k.toNat]? = some u) (h : Q u m H)
    (hs : ∀ o t, subscripted i false (.ref o) (.int k t) = operate [.ref o, .int k t] (getItem (.ref o) (.int k t)) := by intro _ _; with_unfolding_all rfl) (hl : xs.length ≤ sizeLine := by exact Nat.le_of_ble_eq_true rfl) : Sub c v i (.ref x) (.int k) m H Q := fun s va vb R ra rb => by
  cases (ra : va = _); obtain ⟨t, rfl⟩ := rb
  obtain ⟨ix, nx, lx, rx⟩ := O.list_get (hx m s R)
  obtain ⟨w, hw, hr⟩ := rx.get h1
  have hk : k.toNat < xs.length := (List.getElem?_eq_some_iff.mp h1).1
  have hz : k < 2 ^ 63 := by have : sizeLine = 16777216 := rfl; lia
  exact .done R (b := u) (fun P p => tail_any (IsL.isList lx).typeIs slot_list_getitem.lookup (wpAny_getItem_list (IsL.isList lx) h0 hz (by rw [← Array.getElem?_toList]; exact hw) p) (hs _ _)) hr h
end
end Mine
end
section
open PySem PySem.W PyProof.Rows PySem.Calls
set_option maxRecDepth 100000
namespace Mine
section
variable {c : Ctx} {m : Lo} {H : Hp} {pos : Pos} {Q : V → Lo → Hp → Prop}
noncomputable def Cal (c : Ctx) (f : V) (vs : List V) (m : Lo) (H : Hp) (Q : V → Lo → Hp → Prop) : Prop := ∀ s vf vvs, Rel c ⟨m, H⟩ s → f.rep s.heap vf → Reps s.heap vs vvs → Run c H s VR (call vf vvs) Q
noncomputable def KeepOk (c : Ctx) (f : V) (H : Hp) : Prop := ∀ m s vf, Rel c ⟨m, H⟩ s → f.rep s.heap vf → ∃ k, (k = Keeper.frame ∨ k = Keeper.machine ∨ k = Keeper.boundFrame) ∧ Looks (model c.prog c.w) s.heap (keeperOf vf) k
theorem keep_bi {id : String} : KeepOk c (.bi id) H := fun m s vf R r => by cases (r : vf = _); exact ⟨.machine, .inr (.inl rfl), .now⟩
theorem keep_ty {id : String} : KeepOk c (.ty id) H := fun m s vf R r => by cases (r : vf = _); exact ⟨.machine, .inr (.inl rfl), .now⟩
theorem evalArgs_nil {M : Model} {A : Around} {E : Value → Shared → Prop} {s : Shared} {f : Value} {Q : Args → Shared → Prop} (h : wpAny M A (spliced []) (fun vs s' => Q ⟨vs, []⟩ s') E s) : wpAny M A (evalArgs f true [] []) Q E s := by
  unfold evalArgs
  show wpAny M A (spliced [] >>= _) Q E s
  refine wpAny_bind (wpAny_mono h (fun vs s' h' => ?_) fun _ _ x => x)
  refine wpAny_holding ?_
  exact wpAny_bind (wpAny_pure (wpAny_bind (wpAny_pure (wpAny_pure h'))))
theorem run_callWith {f : V} {first : List V} {args : List Expr} {vf : Value} {vfirst : List Value} {s : Shared} (R : Rel c ⟨m, H⟩ s) (rf : f.rep s.heap vf) (rfirst : Reps s.heap first vfirst)
    (h : WPitems c pos args m H fun vs m1 H1 => KeepOk c f H1 ∧ Cal c f (first ++ vs) m1 H1 Q) (hplain : ((backTo pos (starEach args c.env)).any (·.1) || ([] : List (Option Str × Sem Value)).any (·.1.isNone)) = false) (hne : ∀ x r, backTo pos (starEach args c.env) ≠ (true, x) :: r) :
    Run c H s VR (callWith pos vf vfirst (backTo pos (starEach args c.env)) []) Q := fun P k => by
  refine callWith_of (P := fun h => ∃ k, (k = Keeper.frame ∨ k = Keeper.machine ∨ k = Keeper.boundFrame) ∧ Looks (model c.prog c.w) h (keeperOf vf) k) hplain (fun h q => q) ?_
  have main : wpAny (model c.prog c.w) c.A (spliced (backTo pos (starEach args c.env))) (fun vs s₁ => (∃ k, (k = Keeper.frame ∨ k = Keeper.machine ∨ k = Keeper.boundFrame) ∧ Looks (model c.prog c.w) s₁.heap (keeperOf vf) k) ∧ wpAny (model c.prog c.w) c.A (call vf (vfirst ++ vs) []) P (fun _ _ => False) s₁) (fun _ _ => False) s := by
    refine h s R _ fun vs vv m1 H1 h1 tk1 R1 F1 r1 q1 => ⟨q1.1 m1 _ vf R1 (R.lift F1 rf), ?_⟩
    exact q1.2 _ vf _ R1 (R.lift F1 rf) ((R.liftL F1 rfirst).append r1) P fun v v' m3 H3 h3 tk3 R3 F3 r3 q3 => k v v' m3 H3 h3 tk3 R3 (F1.trans R1.hasL F3) r3 q3
  cases q : backTo pos (starEach args c.env) with
  | nil => rw [q] at main; exact evalArgs_nil main
  | cons x r =>
    obtain ⟨b, x⟩ := x
    cases b with
    | true => exact absurd q (hne x r)
    | false => rw [q] at main; exact evalArgs_plain main
theorem e_call {fn : Expr} {args : List Expr} (h : WPe c fn m H fun f m0 H0 => WPitems c pos args m0 H0 fun vs m1 H1 => KeepOk c f H1 ∧ Cal c f vs m1 H1 Q)
    (he : autoParam (eval (.Call fn args [] pos) c.env = (do callWith pos (← eval fn c.env) [] (backTo pos (starEach args c.env)) (backToKw pos (keywordEach [] c.env)))) auRfl)
    (hplain : autoParam (((backTo pos (starEach args c.env)).any (·.1) || ([] : List (Option Str × Sem Value)).any (·.1.isNone)) = false) auRfl) (hne : autoParam (∀ x r, backTo pos (starEach args c.env) ≠ (true, x) :: r) auNo) : WPe c (.Call fn args [] pos) m H Q :=
  fun s R P k => Call_ (h s R _ fun f vf m1 H1 h1 tk1 R1 F1 r1 q1 => run_callWith (first := []) R1 r1 rfl q1 hplain hne P fun v v' m3 H3 h3 tk3 R3 F3 r3 q3 => k v v' m3 H3 h3 tk3 R3 (F1.trans R1.hasL F3) r3 q3) he
noncomputable def GM (c : Ctx) (u : V) (name : Str) (f : V) (first : List V) (H : Hp) : Prop := ∀ m s vu pl (P : Value × List Value → Shared → Prop), Rel c ⟨m, H⟩ s → u.rep s.heap vu → (∀ vf vfirst tk, f.rep s.heap vf → Reps s.heap first vfirst → P (vf, vfirst) { s with toks := tk }) → c.wp (getMethod vu name pl) P s
theorem e_method {o : Expr} {name : Str} {apos : Pos} {args : List Expr} {pl : Sem Bool}
    (h : WPe c o m H fun u m0 H0 => ∃ f first, GM c u name f first H0 ∧ WPitems c pos args m0 H0 fun vs m1 H1 => KeepOk c f H1 ∧ Cal c f (first ++ vs) m1 H1 Q)
    (he : autoParam (eval (.Call (.Attribute o name apos) args [] pos) c.env = (do let ov ← eval o c.env; standAt apos.atName; let (f, first) ← holding [ov] (getMethod ov name pl); callWith pos f first (backTo pos (starEach args c.env)) [])) auRfl)
    (hplain : autoParam (((backTo pos (starEach args c.env)).any (·.1) || ([] : List (Option Str × Sem Value)).any (·.1.isNone)) = false) auRfl) (hne : autoParam (∀ x r, backTo pos (starEach args c.env) ≠ (true, x) :: r) auNo) : WPe c (.Call (.Attribute o name apos) args [] pos) m H Q :=
  fun s R P k => MethodCall_ (h s R _ fun u vu m1 H1 h1 tk1 R1 F1 r1 q1 => by
    obtain ⟨f, first, hg, q⟩ := q1
    exact hg m1 _ vu pl _ R1 r1 fun vf vfirst tk rf rfirst => run_callWith (R1.toks (tkn (sw s h1 tk1) tk)) rf rfirst q hplain hne P fun v v' m3 H3 h3 tk3 R3 F3 r3 q3 => k v v' m3 H3 h3 tk3 R3 (F1.trans R1.hasL F3) r3 q3) he
theorem gm_list {a : Addr} {xs : List V} {name : Str} {id : String} (hx : Sees c H a (.list xs)) (slot : Slot "list" name id) (hty : typeOf (.builtin id) = pure (.type "method_descriptor")) : GM c (.ref a) name (.bi id) [.ref a] H := fun m s vu pl P R r k => by
  cases (r : vu = _)
  obtain ⟨items, n, hl, _⟩ := O.list_get (hx m s R)
  exact getMethod_builtin (IsL.isList hl).typeIs F.plainAttrs_list slot hty (fun b e => by cases e; exact ⟨_, hl, rfl⟩) (k _ _ s.toks rfl (.one rfl))
end
end Mine
end
section
open PySem PySem.W PyProof.Rows PySem.Calls
set_option maxRecDepth 100000
namespace Mine
section
variable {c : Ctx} {m : Lo} {H : Hp} {pos : Pos} {Q : V → Lo → Hp → Prop}
theorem Reps.two {h : Heap} {x y : V} {vs : List Value} (r : Reps h [x, y] vs) : ∃ a b, vs = [a, b] ∧ x.rep h a ∧ y.rep h b := by
  obtain ⟨a, r, rfl, ha, b, r2, rfl, hb, e⟩ := r
  cases e; exact ⟨a, b, rfl, ha, hb⟩
theorem Reps.sole {h : Heap} {x : V} {vs : List Value} (r : Reps h [x] vs) : ∃ a, vs = [a] ∧ x.rep h a := by
  obtain ⟨a, r, rfl, ha, e⟩ := r
  cases e; exact ⟨a, rfl, ha⟩
theorem upd_kp {h : Heap} {a : Addr} {f : Obj → Obj} : ∀ b ob, b ≠ a → h.get? b = some ob → (h.update a f).get? b = some ob := fun b ob hb e => (Heap.get?_update_other h f (Ne.symm hb)).trans e
theorem k_list_turn {a : Addr} {xs ys : List V} {H' : Hp} {t : Sem Value} {s : Shared} {f : Array Value → Array Value} {u : V} (R : Rel c ⟨m, H⟩ s) (up : Upd a (.list xs) (.list ys) H H') {items : Array Value} {n : Nat} (hl : IsL s.heap a items n)
    (hr : ∀ h', Fp c.env.locals H H' s.heap h' → Reps h' ys (f items).toList) {v : Value} (hv : ∀ h', Fp c.env.locals H H' s.heap h' → u.rep h' v) (h : Q u m H') (hw : ∀ P : Value → Shared → Prop, P v { s with heap := s.heap.update a (Obj.mapSeq f), toks := s.toks } → c.wp t P s) : Run c H s VR t Q := by
  have hu := IsL.update hl f
  have F : Fp c.env.locals H H' s.heap (s.heap.update a (Obj.mapSeq f)) := .upd up upd_kp ⟨_, hu⟩
  exact .upd R up h fun P k => hw P (k v _ s.toks upd_kp ⟨_, hu⟩ (fun F => O.list_mk hu (hr _ F)) (hv _ F))
theorem k_append {a : Addr} {xs : List V} {x : V} {H' : Hp} (up : Upd a (.list xs) (.list (xs ++ [x])) H H') (h : Q .none m H') (hsz : xs.length ≤ sizeLine) : Cal c (.bi "list.append") [.ref a, x] m H Q := fun s vf vvs R rf rv => by
  cases (rf : vf = _)
  obtain ⟨va, vx, rfl, ra, rx⟩ := rv.two
  cases (ra : va = _)
  obtain ⟨items, n, hl, hr⟩ := O.list_get (R.obj _ _ up.mem)
  have hs : items.size ≤ sizeLine := by rw [← Array.length_toList, hr.length]; exact hsz
  refine k_list_turn R up hl (f := (·.push vx)) (u := .none) (v := .none) (fun h' F => ?_) (fun _ _ => rfl) h fun P p => call_meets F.slot_list_append ⟨_, hl, rfl⟩ F.entry_list_append (F.args_list_append_2 _ _) (PySem.list_append a items n vx hs) ⟨hl, p⟩
  rw [Array.toList_push]
  exact (R.liftL F hr).append (.one (R.lift F rx))
theorem k_extend {a b : Addr} {xs ys : List V} {H' : Hp} (hb : Sees c H b (.list ys)) (up : Upd a (.list xs) (.list (xs ++ ys)) H H') (h : Q .none m H') (hsz : xs.length + ys.length ≤ 1000000) : Cal c (.bi "list.extend") [.ref a, .ref b] m H Q := fun s vf vvs R rf rv => by
  cases (rf : vf = _)
  obtain ⟨va, vx, rfl, ra, rx⟩ := rv.two
  cases (ra : va = _); cases (rx : vx = _)
  obtain ⟨items, n, hl, hr⟩ := O.list_get (R.obj _ _ up.mem)
  obtain ⟨items2, n2, hl2, hr2⟩ := O.list_get (hb m s R)
  have hs : items.size + items2.size ≤ 1000000 := by rw [← Array.length_toList, ← Array.length_toList, hr.length, hr2.length]; exact hsz
  have z : sizeLine = 16777216 := rfl
  refine k_list_turn R up hl (f := (· ++ items2)) (u := .none) (v := .none) (fun h' F => ?_) (fun _ _ => rfl) h fun P p => call_meets F.slot_list_extend ⟨_, hl, rfl⟩ F.entry_list_extend (F.args_list_extend_2 _ _)
    (AutoSeq1.list_extend_list_list_0 a items n b items2 n2 (by
      intro q
      have : Builtin.List.listTooLong (items.size + items2.size) = true := by simp at q; exact q.2
      unfold Builtin.List.listTooLong at this
      simp at this
      exact ar3 3 (.l (.a (.v 0) (.v 1)) (.n 1000000)) (.e (.v 2) (.n 16777216)) (.t (.v 2) (.a (.v 0) (.v 1))) .f (by kernel_rfl) [_, _, _] hs z this) (by exact ar2 3 (.l (.a (.v 0) (.v 1)) (.n 1000000)) (.e (.v 2) (.n 16777216)) (.l (.v 0) (.v 2)) (by kernel_rfl) [_, _, _] hs z) (by exact ar2 3 (.l (.a (.v 0) (.v 1)) (.n 1000000)) (.e (.v 2) (.n 16777216)) (.l (.a (.v 0) (.v 1)) (.a (.v 2) (.n 1))) (by kernel_rfl) [_, _, _] hs z)) ⟨hl, hl2, p⟩
  rw [Array.toList_append]
  exact (R.liftL F hr).append (R.liftL F hr2)
theorem k_len {a : Addr} {xs : List V} (ha : Sees c H a (.list xs)) (h : Q (.int xs.length) m H) (hsz : xs.length ≤ 1000000) : Cal c (.bi "len") [.ref a] m H Q := fun s vf vvs R rf rv => by
  cases (rf : vf = _)
  obtain ⟨va, rfl, ra⟩ := rv.sole
  cases (ra : va = _)
  obtain ⟨items, n, hl, hr⟩ := O.list_get (ha m s R)
  have hz : items.size = xs.length := by rw [← Array.length_toList, hr.length]
  exact .val R h fun P k => PyProof.Rows.len_list (IsL.isList hl) (by lia) (k _ _ ⟨_, by rw [hz]⟩)
theorem k_range {n : Int} (h : ∀ a, Q (.ref a) m ((a, .range 0 n 1) :: H)) : Cal c (.ty "range") [.int n] m H Q := fun s vf vvs R rf rv => by
  cases (rf : vf = _)
  obtain ⟨va, rfl, ra⟩ := rv.sole
  obtain ⟨t, rfl⟩ := ra
  exact .new R (o := .range 0 n 1) (b := fun a => .ref a) h fun P k => call_range_1 (k _ _ _ _ push_grow (get_size _) ⟨_, _, _, Heap.get?_push_size _ rfl⟩ rfl)
theorem iter_range {t : Expr} (ht : isNameOrTuple t = true) {it : Addr} {a : Int} {n : Nat} : Iter c t (.ref it) [it] n (fun i => .int (a + i)) (fun _ => True) (fun i h => i ≤ n ∧ IsRangeIter h it (a + i) (n - i) 1) (fun i _ h => i + 1 ≤ n ∧ IsRangeIter h it (a + (i + 1)) (n - (i + 1)) 1) where
  item := fun i m H s hi R A ok j P k => by
    obtain ⟨h1, h2, h3, _⟩ := A it (by simp)
    refine wpAny_pyNext_range_item j.2 (by omega) fun h' hit' hs' => ?_
    refine k _ h' (tkn s (s.toks + 1)) (R.off (h' := h') _ j.2 (fun _ _ _ q => by cases q.2) h1 h2 h3 (Heap.SameBut.kp hs')) (one_off (Heap.SameBut.kp hs')) (A.one ⟨_, hit', fun _ _ _ q => by cases q.2⟩) ⟨hi, ?_⟩ ⟨_, rfl⟩
    have e1 : a + (i : Int) + 1 = a + ((i : Int) + 1) := by lia
    have e2 : (n : Int) - i - 1 = n - ((i : Int) + 1) := by lia
    rw [e1, e2] at hit'
    exact hit'
  go := fun i v m H s R A j r P k => letGo_other ht j.2 rfl rfl (by decide) (k s.heap (tkn s s.toks) R (fun _ _ _ e => e) A (by simpa using j) r)
  done := fun m H s R A ok j P k => by
    obtain ⟨h1, h2, h3, _⟩ := A it (by simp)
    refine wpAny_pyNext_range_end c.hh j.2 (by lia) fun h' hs' => ?_
    exact k h' (tkn s s.toks) (R.off (tkn s s.toks) j.2 (fun _ _ _ q => by cases q.2) h1 h2 h3 hs') (one_off hs')
  keep := fun i h h' j hk => ⟨j.1, hk it (by simp) _ j.2⟩
  self := fun s P j p => wpAny_pyIter_rangeiter j.2 p
theorem it_range {t e : Expr} (ht : isNameOrTuple t = true) {Q : Nat → (Nat → V) → (Hp → Prop) → Lo → Hp → Prop}
    (h : WPe c e m H fun u m1 H1 => ∃ x a b, u = .ref x ∧ Sees c H1 x (.range a b 1) ∧ (-1000000 ≤ a ∧ a ≤ 1000000) ∧ (-1000000 ≤ b ∧ b ≤ 1000000) ∧ Q (b - a).toNat (fun i => .int (a + i)) (fun _ => True) m1 H1) : WPit c t e m H Q := fun s R P k => by
  refine h s R _ fun u va m1 H1 h1 tk1 R1 F1 r1 q1 => ?_
  obtain ⟨x, a, b, rfl, hs, ha, hb, q⟩ := q1
  cases (r1 : va = _)
  obtain ⟨t1, u, v, hr⟩ := hs m1 _ R1
  have hsz : Builtin.Range.rangeSize a b 1 = ((b - a).toNat : Int) := by
    unfold Builtin.Range.rangeSize
    simp
    lia
  have hsmall : Builtin.Range.small a b 1 = true := by
    unfold Builtin.Range.small
    rw [hsz]
    have f : ∀ z : Int, -3000000 ≤ z → z ≤ 3000000 → Builtin.Range.rangeFitsLong z = true := fun z h1 h2 => by
      unfold Builtin.Range.rangeFitsLong
      simp
      lia
    rw [f a (by lia) (by lia), f b (by lia) (by lia), f 1 (by lia) (by lia), f _ (by lia) (by lia)]
    simp
    exact .inr (f _ (by lia) (by lia))
  refine wpAny_pyIter_range hr hsmall ?_
  rw [hsz]
  have hf := R1.fresh (get_size h1)
  refine k (.ref h1.objs.size) [h1.objs.size] _ _ _ _ _ m1 H1 _ tk1 (iter_range ht (a := a) (n := (b - a).toNat)) (R1.grow tk1 push_grow) (F1.trans R1.hasL (.grow push_grow))
    (fun b hb => by simp at hb; subst hb; exact ⟨hf.1, hf.2.1, hf.2.2, _, Heap.get?_push_size _ rfl, fun _ _ _ q => by cases q.2⟩) (fun b hb => by
      simp at hb; subst hb
      cases q : s.heap.get? h1.objs.size with
      | none => rfl
      | some o => obtain ⟨o', e⟩ := F1.alive _ _ q; rw [get_size] at e; cases e) ⟨Nat.zero_le _, by simpa using Heap.get?_push_size h1 (o := { cls := .type "range_iterator", data := .fields #[rawInt a, rawInt ((b - a).toNat : Int), rawInt 1] }) rfl⟩ q
end
end Mine
end
section
open PySem PySem.W PyProof.Rows PySem.Calls
set_option maxRecDepth 100000
namespace Mine
section
variable {c : Ctx} {m : Lo} {H : Hp} {pos : Pos} {Q : V → Lo → Hp → Prop}
theorem WPs.post {b : List Stmt} {Q : Fl → Lo → Hp → Prop} (h : WPs c b m H fun f m' H' => ∃ m2 H2, Less m' H' m2 H2 ∧ Q f m2 H2) : WPs c b m H Q :=
  fun s R P k => h s R P fun b v m' H' h tk R' F r ⟨m2, H2, l, q⟩ => k b v m2 H2 h tk (R'.weaken l.1 l.2.1 (l.2.2 R'.nd)) ⟨F.keep, fun b hb => F.dom b (by obtain ⟨p, hp, e⟩ := List.mem_map.mp hb; exact e ▸ List.mem_map.mpr ⟨p, l.2.1 p hp, rfl⟩), F.alive⟩ r q
theorem Cal.less {f : V} {vs : List V} {m' : Lo} {H' : Hp} (l : Less m H m' H') (h : Cal c f vs m' H' Q) : Cal c f vs m H Q :=
  fun s vf vvs R rf rv P k => h s vf vvs (R.weaken l.1 l.2.1 (l.2.2 R.nd)) rf rv P fun b v m' H2 h tk R' F r q => k b v m' H2 h tk R' (F.less l.2.1) r q
noncomputable def CalC (c : Ctx) (f : V) (vs : List V) (m : Lo) (H : Hp) (Q : V → Lo → Hp → Prop) : Prop := ∀ s vf vvs, Rel c ⟨m, H⟩ s → f.rep s.heap vf → Reps s.heap vs vvs → ∀ P : Value → Shared → Prop,
  (∀ b v m' H' h tk, Rel c ⟨m', H'⟩ (sw s h tk) → Fp c.env.locals H H' s.heap h → VR h b v → Q b m' H' → P v (sw s h tk)) →
  codeAny (model c.prog c.w) c.A (.call vf ⟨vvs, []⟩) (fun r s' => match r with | .ok (.ret v) => P v s' | .ok _ => False | .error _ => False) s
theorem CalC.cal {f : V} {vs : List V} (h : CalC c f vs m H Q) : Cal c f vs m H Q := fun s vf vvs R rf rv P k => wpAny_call (h s vf vvs R rf rv P k)
noncomputable def BRep (h : Heap) (bs : List (Str × V)) (binds : List (Str × Value)) : Prop := binds.map (·.1) = bs.map (·.1) ∧ Reps h (bs.map (·.2)) (binds.map (·.2))
theorem BRep.cons {h : Heap} {x : Str} {u : V} {bs : List (Str × V)} {binds : List (Str × Value)} (b : BRep h ((x, u) :: bs) binds) : ∃ v r, binds = (x, v) :: r ∧ u.rep h v ∧ BRep h bs r := by
  obtain ⟨h1, h2⟩ := b
  cases binds with
  | nil => simp at h1
  | cons p r =>
    obtain ⟨y, v⟩ := p
    simp only [List.map_cons, List.cons.injEq] at h1
    obtain ⟨w, r', e, hv, hr⟩ := h2
    simp only [List.map_cons, List.cons.injEq] at e
    obtain ⟨rfl, rfl⟩ := e
    obtain ⟨rfl, h1⟩ := h1
    exact ⟨v, r, rfl, hv, h1, hr⟩
noncomputable def locOf (names : List (Str × NameKind)) (bs : List (Str × V)) : Lo := (bs.filter fun p => decide (names.lookup p.1 = some .local)).reverse
noncomputable def celOf (names : List (Str × NameKind)) (bs : List (Str × V)) (n : Str) : Option V := ((bs.filter fun p => !decide (names.lookup p.1 = some .local)).reverse).lookup n
theorem bindL_rep {h : Heap} {kindOf : Str → Option NameKind} : ∀ {bs : List (Str × V)} {binds : List (Str × Value)} {m : Str → Option Value} {acc : Lo}, BRep h bs binds → (∀ x u, acc.lookup x = some u → ∃ v, m x = some v ∧ u.rep h v) →
    ∀ x u, ((bs.filter fun p => decide (kindOf p.1 = some .local)).reverse ++ acc).lookup x = some u → ∃ v, bindL kindOf binds m x = some v ∧ u.rep h v
  | [], binds, m, acc, b, hm, x, u, e => by
    cases binds with
    | nil => exact hm x u e
    | cons p r => have := b.1; simp at this
  | (y, w) :: bs, _, m, acc, b, hm, x, u, e => by
    obtain ⟨v, r, rfl, hv, hr⟩ := b.cons
    unfold bindL
    rw [List.filter_cons] at e
    by_cases hk : kindOf y = some .local
    · rw [if_pos (by simpa using hk), List.reverse_cons, List.append_assoc] at e
      rw [if_pos hk]
      refine bindL_rep (acc := [(y, w)] ++ acc) hr (fun z t q => ?_) x u e
      simp only [List.cons_append, List.nil_append, List.lookup_cons] at q
      cases hb : z == y with
      | true => rw [hb] at q; cases q; exact ⟨v, if_pos (beq_iff_eq.mp hb), hv⟩
      | false =>
        rw [hb] at q
        obtain ⟨v', e1, e2⟩ := hm z t q
        exact ⟨v', (if_neg (fun q => by subst q; simp at hb)).trans e1, e2⟩
    · rw [if_neg (by simpa using hk)] at e
      rw [if_neg hk]
      exact bindL_rep hr hm x u e
noncomputable def cellRep (h : Heap) (u : Option V) (v : Option Value) : Prop := match u with
  | .none => v = .none
  | some u => ∃ w, v = some w ∧ u.rep h w
theorem bindC_rep {h : Heap} {kindOf : Str → Option NameKind} : ∀ {bs : List (Str × V)} {binds : List (Str × Value)} {m : Str → Option Value} {acc : Lo}, BRep h bs binds → (∀ x, cellRep h (acc.lookup x) (m x)) →
    ∀ x, cellRep h (((bs.filter fun p => !decide (kindOf p.1 = some .local)).reverse ++ acc).lookup x) (bindC kindOf binds m x)
  | [], binds, m, acc, b, hm, x => by
    cases binds with
    | nil => exact hm x
    | cons p r => have := b.1; simp at this
  | (y, w) :: bs, _, m, acc, b, hm, x => by
    obtain ⟨v, r, rfl, hv, hr⟩ := b.cons
    unfold bindC
    rw [List.filter_cons]
    by_cases hk : kindOf y = some .local
    · rw [if_neg (by simpa using hk), if_pos hk]
      exact bindC_rep hr hm x
    · rw [if_pos (by simpa using hk), if_neg hk, List.reverse_cons, List.append_assoc]
      refine bindC_rep (acc := [(y, w)] ++ acc) hr (fun z => ?_) x
      simp only [List.cons_append, List.nil_append, List.lookup_cons]
      cases hb : z == y with
      | true => exact ⟨v, if_pos (beq_iff_eq.mp hb), hv⟩
      | false =>
        have := hm z
        rw [if_neg (fun q => by subst q; simp at hb)]
        exact this
noncomputable def Ctx.enter (c : Ctx) (fd : FuncData) (a L : Addr) (k : Nat) (hf : c.fuel = k + 1) (hk : fd.scope.kind = .function) : Ctx :=
  ⟨c.prog, c.w, c.A.deeper (callEnvC fd L a), callEnvC fd L a, c.G, k, c.hh, (by have := c.hd; rw [hf] at this; show c.A.depth + 1 + k < recursionLimit; exact ar1 3 (.t (.a (.v 0) (.a (.v 1) (.n 1))) (.v 2)) (.t (.a (.a (.v 0) (.n 1)) (.v 1)) (.v 2)) (by kernel_rfl) [_, _, _] this),
    (by have := c.hu; rw [hf] at this; show c.A.units + 3 + 40 * k + 400 < cLine; exact ar1 3 (.t (.a (.a (.v 0) (.m 40 (.a (.v 1) (.n 1)))) (.n 400)) (.v 2)) (.t (.a (.a (.a (.v 0) (.n 3)) (.m 40 (.v 1))) (.n 400)) (.v 2)) (by kernel_rfl) [_, _, _] this), hk⟩
noncomputable def cellsAt (L : Addr) (fd : FuncData) (bs : List (Str × V)) : Hp := (cellsFrom (L + 1) fd.scope.names []).map fun p => (p.2, .cell (celOf fd.scope.names bs p.1))
noncomputable def Fl.val : Fl → V
  | .ret v => v
  | _ => .none
theorem cal_fn {fa : Addr} {fd : FuncData} {body : List Stmt} {vs : List V} {bs : List (Str × V)} {k : Nat} (hfu : c.fuel = k + 1) (hf : c.Knows fun h => ∃ o, h.get? fa = some o ∧ o.data = .func fd) (hcd : c.Knows fun h => h.CodeRec fd.code fd.qualname)
    (hlim : c.Knows Heap.NoLimit) (hbody : fd.body = .stmts body) (hclo : fd.closure = []) (hk : fd.scope.kind = .function) (hco : fd.scope.isCoroutine = false) (hgen : fd.scope.isGenerator = false)
    (hbind : ∀ m H s vvs, Rel c ⟨m, H⟩ s → Reps s.heap vs vvs → ∃ binds, BindsTo s fd ⟨vvs, []⟩ binds ∧ BRep s.heap bs binds)
    (hkind : ∀ n x, x ∈ bs → fd.scope.names.lookup x.1 = some .local ∨ (fd.scope.names.lookup x.1 = some .cell ∧ ((cellsFrom n fd.scope.names []).lookup x.1).isSome = true))
    (hnd : ∀ n x, x ∈ cellsFrom n fd.scope.names [] → (cellsFrom n fd.scope.names []).lookup x.1 = some x.2)
    (h : ∀ L, WPs (c.enter fd fa L k hfu hk) body (locOf fd.scope.names bs) (cellsAt L fd bs ++ H) fun f _ H' => Q f.val m H') : CalC c (.ref fa) vs m H Q := fun s vf vvs R rf rv P kont => by
  cases (rf : vf = _)
  obtain ⟨o, ho, hd⟩ := hf s.heap R.keep
  obtain ⟨binds, hb, br⟩ := hbind m H s vvs R rv
  have hkd : ∀ x ∈ binds, fd.scope.names.lookup x.1 = some .local ∨ (fd.scope.names.lookup x.1 = some .cell ∧ ((cellsFrom (s.heap.objs.size + 1) fd.scope.names []).lookup x.1).isSome = true) := fun x hx => by
    have : x.1 ∈ bs.map (·.1) := br.1 ▸ List.mem_map.mpr ⟨x, hx, rfl⟩
    obtain ⟨y, hy, e⟩ := List.mem_map.mp this
    have := hkind (s.heap.objs.size + 1) y hy
    rw [e] at this
    exact this
  refine codeAny_call_function (Nat.lt_of_le_of_lt (Nat.le_add_right _ _) c.hd) ho hd hco hgen hbody (hcd s.heap R.keep) ?_
  refine hb _ _ _ _ ?_
  rw [hclo]
  refine wpAny_newFunctionEnv_cells hk hkd fun env he s₁ x => ?_
  subst he
  obtain ⟨h₁, tk₁, rfl⟩ := x.toInCall.same
  have hg : ∀ b o, s.heap.get? b = some o → h₁.get? b = some o := x.toInCall.keep
  refine ⟨(hlim s.heap R.keep).keeps hg, codeAny_func ?_⟩
  generalize hL : s.heap.objs.size = L at *
  have fresh : s.heap.get? L = .none := hL ▸ get_size _
  have hcell : ∀ p ∈ cellsAt L fd bs, s.heap.get? p.1 = .none := fun p hp => by
    obtain ⟨q, hq, rfl⟩ := List.mem_map.mp hp
    exact get_ge (by have := x.above q.1 q.2 hq; rw [hL]; exact Nat.le_of_lt this)
  have lift : ∀ {u v}, V.rep s.heap u v → V.rep h₁ u v := fun r => V.rep_fp r R (Fp.grow hg)
  have R₁ : Rel (c.enter fd fa L k hfu hk) ⟨locOf fd.scope.names bs, cellsAt L fd bs ++ H⟩ (sw s h₁ (tkn s tk₁)) := by
    have br₁ : BRep h₁ bs binds := ⟨br.1, R.liftL (Fp.grow hg) br.2⟩
    refine ⟨⟨_, x.toInCall.ns, fun y u e => bindL_rep (acc := []) br₁ (fun z t q => by cases q) y u (by rw [List.append_nil]; exact e)⟩, ?_, ?_, ?_, fun b o e => hg b o (R.keep b o e), (R.fresh fresh).2.2⟩
    · intro a o hm
      rcases List.mem_append.mp hm with hm | hm
      · obtain ⟨q, hq, e⟩ := List.mem_map.mp hm
        cases e
        obtain ⟨oc, hoc, hdc⟩ := x.cell q.1 q.2 (hnd _ q hq)
        have := bindC_rep (kindOf := fun n => fd.scope.names.lookup n) (acc := []) br₁ (m := fun _ => .none) (fun z => rfl) q.1
        rw [List.append_nil] at this
        refine ⟨oc, hoc, _, hdc, ?_⟩
        unfold cellRep at this
        exact this
      · exact O.rep_keep (R.obj a o hm) R (Fp.grow hg) fun ob e => hg _ _ e
    · rw [dom, List.map_append]
      refine List.nodup_append.mpr ⟨?_, R.nd, ?_⟩
      · show ((cellsAt L fd bs).map (·.1)).Nodup
        unfold cellsAt
        rw [List.map_map]
        exact List.pairwise_map.mpr x.apart
      · intro a ha b hb e
        subst e
        obtain ⟨p, hp, rfl⟩ := List.mem_map.mp ha
        obtain ⟨o, ho⟩ := R.lt hb
        rw [hcell p hp] at ho; cases ho
    · intro a ha
      show a ≠ L ∧ c.G a = .none
      rw [dom, List.map_append] at ha
      rcases List.mem_append.mp ha with ha | ha
      · obtain ⟨p, hp, rfl⟩ := List.mem_map.mp ha
        obtain ⟨q, hq, rfl⟩ := List.mem_map.mp hp
        exact ⟨Nat.ne_of_gt (x.above q.1 q.2 hq), (R.fresh (hcell _ hp)).2.2⟩
      · have ha' : a ∈ dom H := ha
        refine ⟨fun e => ?_, (R.apart a ha').2⟩
        obtain ⟨o, ho⟩ := R.lt ha'
        rw [e, fresh] at ho; cases ho
  have hLd : c.env.locals ∉ dom (cellsAt L fd bs ++ H) := fun q => by
    rw [dom, List.map_append] at q
    rcases List.mem_append.mp q with ha | ha
    · obtain ⟨p, hp, e⟩ := List.mem_map.mp ha
      obtain ⟨o, ho⟩ := R.hasL
      rw [← e, hcell p hp] at ho; cases ho
    · exact (R.apart _ ha).1 rfl
  have hLL : c.env.locals ≠ L := (R.fresh fresh).2.1.symm
  refine wpAny_mono (h L _ R₁ _ fun f vf m' H' h₂ tk₂ R₂ F₂ r₂ q₂ => ?_) (fun _ _ q => q) fun _ _ q => q.elim
  have F₂' : Fp L (cellsAt L fd bs ++ H) H' h₁ h₂ := F₂
  have out : ∀ b o, b ∉ dom H → s.heap.get? b = some o → h₂.get? b = some o := fun b o hb e => by
    refine F₂'.keep b o (fun q => ?_) (fun q => by subst q; rw [fresh] at e; cases e) (hg b o e)
    rw [dom, List.map_append] at q
    rcases List.mem_append.mp q with ha | ha
    · obtain ⟨p, hp, rfl⟩ := List.mem_map.mp ha
      rw [hcell p hp] at e; cases e
    · exact hb ha
  have F : Fp c.env.locals H H' s.heap h₂ := by
    refine ⟨fun b o hb _ e => out b o hb e, fun b hb => ?_, fun b o e => F₂'.alive b o (hg b o e)⟩
    rcases F₂'.dom b hb with q | q
    · rw [dom, List.map_append] at q
      rcases List.mem_append.mp q with ha | ha
      · obtain ⟨p, hp, rfl⟩ := List.mem_map.mp ha
        exact .inr (hcell p hp)
      · exact .inl ha
    · cases e : s.heap.get? b with
      | none => exact .inr rfl
      | some o => rw [hg b o e] at q; cases q
  have RR : Rel c ⟨m, H'⟩ (sw s h₂ tk₂) := by
    refine R.change tk₂ F ?_ R₂.obj R₂.nd
    obtain ⟨m', hn, q⟩ := R.loc
    obtain ⟨oL, es, ep, hoL, rL⟩ := hn
    exact ⟨m', ⟨oL, es, ep, out _ _ (fun q => (R.apart _ q).1 rfl) hoL, rL⟩, fun x u e => let ⟨v, h1, h2⟩ := q x u e; ⟨v, h1, V.rep_fp h2 R F⟩⟩
  cases f with
  | next => cases (r₂ : vf = .next); exact kont .none _ m H' h₂ tk₂ RR F rfl q₂
  | brk => cases (r₂ : vf = .brk); exact kont .none _ m H' h₂ tk₂ RR F rfl q₂
  | cont => cases (r₂ : vf = .cont); exact kont .none _ m H' h₂ tk₂ RR F rfl q₂
  | ret u => obtain ⟨v, rfl, hv⟩ := r₂; exact kont u _ m H' h₂ tk₂ RR F hv q₂
end
end Mine
end
section
open PySem PySem.W PyProof.Rows PySem.Calls
set_option maxRecDepth 100000
namespace Mine
theorem compLoop_any {prog : Program} {w : World} {A : Around} {R : Result → Shared → Prop} {s : Shared} {elt target iter : Expr} {ifs : List Expr} {scope : Scope} {pos : Pos} {it acc : Value} {env : Env} (I : Nat → Shared → Prop)
    (turn : ∀ n s, I n s → wpAny (model prog w) A (pyNext it) (fun r s₁ => match r with
      | .none => R (.ok .next) s₁
      | some v => wpAny (model prog w) A (letOwnedTupleGo target it v) (fun _ s₁' => wpAny (model prog w) A (assign target env v) (fun _ s₂ =>
          wpAny (model prog w) A (forIn ifs true fun c r => if r = true then do let ok ← isTrue c env (eval c env); pure (ForInStep.yield ok) else pure (ForInStep.yield r)) (fun ok s₃ =>
            if ok = true then wpAny (model prog w) A (eval elt env) (fun x s₄ =>
              wpAny (model prog w) A (call (.builtin "list.append") [acc, x]) (fun _ s₅ => ∃ m, m < n ∧ I m s₅) (fun _ _ => False) s₄) (fun _ _ => False) s₃
            else ∃ m, m < n ∧ I m s₃) (fun _ _ => False) s₂) (fun _ _ => False) s₁') (fun _ _ => False) s₁) (fun _ _ => False) s)
    (n : Nat) (h : I n s) : codeAny (model prog w) A (.compLoop (.ListComp elt [⟨target, iter, ifs, 0⟩] scope pos) 0 it acc env) R s := by
  refine codeAny_loop rfl I (fun n s hI => ?_) n h
  show wpAny _ A ((compTurn (.ListComp elt [⟨target, iter, ifs, 0⟩] scope pos) 0 it acc env).onRaise (fun x => do noteFrame x env; theTreesLotGoes x)) _ _ s
  refine wpAny_noted ?_
  rw [compTurn_list]
  refine wpAny_bind (wpAny_standAt (wpAny_bind (wpAny_mono (turn n s hI) (fun r s₁ h₁ => ?_) fun _ _ h' => h'.elim)))
  cases r with
  | none => exact wpAny_pure h₁
  | some v =>
    refine wpAny_bind (wpAny_mono h₁ (fun _ s₁' h₁' => ?_) fun _ _ h' => h'.elim)
    refine wpAny_bind (wpAny_mono h₁' (fun _ s₂ h₂ => wpAny_bind (wpAny_mono h₂ (fun ok s₃ h₃ => ?_) fun _ _ h' => h'.elim)) fun _ _ h' => h'.elim)
    cases ok with
    | false => exact wpAny_pure ⟨rfl, h₃⟩
    | true => exact wpAny_bind (wpAny_bind (wpAny_mono h₃ (fun x s₄ h₄ => wpAny_bind (wpAny_mono h₄ (fun _ s₅ h₅ => wpAny_pure (wpAny_pure ⟨rfl, h₅⟩)) fun _ _ h' => h'.elim)) fun _ _ h' => h'.elim))
noncomputable def WPifs (c : Ctx) : List Expr → Lo → Hp → (Bool → Lo → Hp → Prop) → Prop
  | [], m, H, Q => Q true m H
  | e :: r, m, H, Q => WPt c e m H fun b m1 H1 => if b then WPifs c r m1 H1 Q else Q false m1 H1
theorem tests_false {M : Model} {A : Around} {E : Value → Shared → Prop} {s : Shared} {env : Env} {Q : Bool → Shared → Prop} (h : Q false s) : ∀ l : List Expr,
    wpAny M A (forIn l false fun c r => if r = true then do let ok ← isTrue c env (eval c env); pure (ForInStep.yield ok) else pure (ForInStep.yield r)) Q E s
  | [] => wpAny_pure h
  | e :: l => by
    rw [List.forIn_cons]
    exact wpAny_bind (wpAny_pure (tests_false h l))
theorem WPifs.run {c : Ctx} : ∀ {l : List Expr} {m : Lo} {H : Hp} {Q : Bool → Lo → Hp → Prop} (h : WPifs c l m H Q) (s : Shared) (R : Rel c ⟨m, H⟩ s),
    Run c H s BR (forIn l true fun e r => if r = true then do let ok ← isTrue e c.env (eval e c.env); pure (ForInStep.yield ok) else pure (ForInStep.yield r)) Q
  | [], m, H, Q, h, s, R => .done R (b := true) (fun P p => wpAny_pure p) rfl h
  | e :: l, m, H, Q, h, s, R => fun P k => by
    rw [List.forIn_cons]
    refine wpAny_bind ?_
    show wpAny _ _ (isTrue e c.env (eval e c.env) >>= fun ok => pure (ForInStep.yield ok)) _ _ s
    refine wpAny_bind (h s R _ fun b vb m1 H1 h1 tk1 R1 F1 r1 q1 => wpAny_pure ?_)
    cases r1
    cases b with
    | false => exact tests_false (k false _ m1 H1 h1 tk1 R1 F1 rfl q1) l
    | true => exact WPifs.run (l := l) q1 _ R1 P fun v v' m3 H3 h3 tk3 R3 F3 r3 q3 => k v v' m3 H3 h3 tk3 R3 (F1.trans R1.hasL F3) r3 q3
noncomputable def Ctx.comp (c : Ctx) (scope : Scope) (cl : List (Str × Addr)) (C : Addr) (hk : scope.kind = .function) : Ctx :=
  ⟨c.prog, c.w, c.A, compEnvC scope cl C c.env, c.G, c.fuel, c.hh, c.hd, c.hu, hk⟩
section
variable {c : Ctx} {m : Lo} {H : Hp} {pos : Pos} {Q : V → Lo → Hp → Prop}
theorem Rel.inner {scope : Scope} {cl : List (Str × Addr)} {C : Addr} {hk : scope.kind = .function} {s : Shared} {m0 : Str → Option Value} (R : Rel c ⟨m, H⟩ s) (hn : s.heap.Ns C m0) (h1 : C ∉ dom H) (h3 : c.G C = .none) : Rel (c.comp scope cl C hk) ⟨[], H⟩ s :=
  ⟨⟨m0, hn, fun x u e => by cases e⟩, R.obj, R.nd, fun a ha => ⟨fun e => (by have e' : a = C := e; subst e'; exact h1 ha), (R.apart a ha).2⟩, R.keep, h3⟩
theorem Rel.outer {scope : Scope} {cl : List (Str × Addr)} {C : Addr} {hk : scope.kind = .function} {s : Shared} {m0 m' : Lo} {H' : Hp} {h' : Heap} {tk : Tk} (R : Rel c ⟨m, H⟩ s) (R0 : Rel (c.comp scope cl C hk) ⟨m0, H⟩ s) (hne : c.env.locals ≠ C)
    (F : Fp C H H' s.heap h') (R' : Rel (c.comp scope cl C hk) ⟨m', H'⟩ (sw s h' tk)) : Rel c ⟨m, H'⟩ (sw s h' tk) := by
  refine ⟨?_, R'.obj, R'.nd, fun a ha => ⟨fun e => ?_, (R'.apart a ha).2⟩, R'.keep, R.gl⟩
  · obtain ⟨m', hn, q⟩ := R.loc
    obtain ⟨oL, es, ep, hoL, rL⟩ := hn
    exact ⟨m', ⟨oL, es, ep, F.keep _ _ (fun q => (R.apart _ q).1 rfl) hne hoL, rL⟩, fun x u e => let ⟨v, h1, h2⟩ := q x u e; ⟨v, h1, V.rep_fp h2 R0 F⟩⟩
  · rcases F.dom a ha with q | q
    · exact (R.apart a q).1 e
    · subst e; obtain ⟨o, ho⟩ := R.hasL; rw [q] at ho; cases ho
theorem Fp.via {L C : Addr} {H H' H'' : Hp} {base h h' : Heap} (F : Fp L H H' base h) (hC : base.get? C = .none) (F' : Fp C H' H'' h h') : Fp L H H'' base h' where
  keep := fun b o hb hL e => F'.keep b o (fun q => (F.dom b q).elim hb fun n => by rw [n] at e; cases e) (fun q => by subst q; rw [hC] at e; cases e) (F.keep b o hb hL e)
  dom := fun b hb => (F'.dom b hb).elim (F.dom b) fun n => by
    cases q : base.get? b with
    | none => exact .inr rfl
    | some o => obtain ⟨o', e⟩ := F.alive b o q; rw [n] at e; cases e
  alive := fun b o e => let ⟨o', e'⟩ := F.alive b o e; F'.alive b o' e'
noncomputable def WPcomp (c : Ctx) (scope : Scope) (cl : List (Str × Addr)) (hk : scope.kind = .function) (t elt : Expr) (ifs : List Expr) (n : Nat) (x : Nat → V) (Ok : Hp → Prop) (H1 : Hp) (Qf : List V → Hp → Prop) : Prop :=
  ∀ C, ∃ I : Nat → List V → Hp → Prop, I 0 [] H1 ∧ (∀ i ys H2, i < n → I i ys H2 → Ok H2 ∧ Asg (c.comp scope cl C hk) t (x i) [] H2 fun m3 H3 => WPifs (c.comp scope cl C hk) ifs m3 H3 fun b m4 H4 =>
    if b then WPe (c.comp scope cl C hk) elt m4 H4 fun v _ H5 => I (i + 1) (ys ++ [v]) H5 else I (i + 1) ys H4) ∧ ∀ ys H2, I n ys H2 → Ok H2 ∧ Qf ys H2
structure CompJ' (c : Ctx) (s : Shared) (m1 : Lo) (H : Hp) (base : Heap) (fp : List Addr) (D C : Addr) (J : Nat → Heap → Prop) (I : Nat → List V → Hp → Prop) (n k : Nat) (s' : Shared) (i : Nat) (ys : List V) (m2 : Str → Option Value) (H' : Hp) (h' : Heap) (tk' : Tk) (items : Array Value) (nn : Nat) : Prop where
  eq : s' = (sw s h' tk')
  rel : Rel c ⟨m1, H'⟩ s'
  fpp : Fp c.env.locals H H' base h'
  aside : Aside c H' h' (fp ++ [D])
  out : C ∉ dom H' ∧ C ≠ c.env.locals ∧ c.G C = .none
  ns : h'.Ns C m2
  isl : IsL h' D items nn
  reps : Reps h' ys items.toList
  jj : J i h'
  inv : I i ys H'
  le : i ≤ n
  len : ys.length ≤ i
  kk : k = n + 1 - i
def CompJ (c : Ctx) (s : Shared) (m1 : Lo) (H : Hp) (base : Heap) (fp : List Addr) (D C : Addr) (J : Nat → Heap → Prop) (I : Nat → List V → Hp → Prop) (n k : Nat) (s' : Shared) : Prop := ∃ i ys m2 H' h' tk' items nn, CompJ' c s m1 H base fp D C J I n k s' i ys m2 H' h' tk' items nn
theorem comp_loop {RR : Result → Shared → Prop} {scope : Scope} {cl : List (Str × Addr)} {hk : scope.kind = .function} {t elt iter : Expr} {ifs : List Expr} {it : Value} {fp : List Addr} {n : Nat} {x : Nat → V} {Ok : Hp → Prop} {J : Nat → Heap → Prop} {J' : Nat → Value → Heap → Prop}
    {H1 : Hp} {m1 : Lo} {s : Shared} {base : Heap} {D C : Addr} {Qf : List V → Hp → Prop} {m0 : Str → Option Value} (W : Iter c t it fp n x Ok J J') (hsz : n ≤ sizeLine) (hw : WPcomp c scope cl hk t elt ifs n x Ok H1 Qf)
    (R1 : Rel c ⟨m1, H1⟩ s) (F1 : Fp c.env.locals H H1 base s.heap) (A1 : Aside c H1 s.heap (fp ++ [D])) (hfr : ∀ b ∈ fp, base.get? b = .none) (hD : base.get? D = .none) (hC : base.get? C = .none) (hCo : C ∉ dom H1 ∧ C ≠ c.env.locals ∧ c.G C = .none) (hCf : C ∉ fp) (hDf : D ∉ fp) (hCD : C ≠ D)
    (hn : s.heap.Ns C m0) (hl : IsL s.heap D #[] 0) (j : J 0 s.heap)
    (post : ∀ ys H2 h2 tk2 m2, Rel c ⟨m1, (D, .list ys) :: H2⟩ (sw s h2 tk2) → Fp c.env.locals H ((D, .list ys) :: H2) base h2 → h2.Ns C m2 → (C ∉ dom H2 ∧ C ≠ c.env.locals ∧ c.G C = .none) → Qf ys H2 → RR (.ok .next) (sw s h2 tk2)) :
    codeAny (model c.prog c.w) c.A (.compLoop (.ListComp elt [⟨t, iter, ifs, 0⟩] scope pos) 0 it (.ref D) (compEnvC scope cl C c.env)) RR s := by
  obtain ⟨I, i0, step, fin⟩ := hw C
  refine compLoop_any (CompJ c s m1 H base fp D C J I n) ?_ (n + 1) ⟨0, [], m0, H1, s.heap, (tkn s s.toks), #[], 0, rfl, R1, F1, A1, hCo, hn, hl, rfl, j, i0, Nat.zero_le _, Nat.le_refl _, rfl⟩
  intro k s' hJ
  refine cutm fun G hG => ?_
  obtain ⟨i, ys, m2, H2, h2, tk2, items, nn, rfl, R2, F2, A2, hC2, hn2, hl2, hr2, j2, hI, hle, hyl, rfl⟩ := hJ
  have Afp : ∀ {H' : Hp} {h' : Heap}, Aside c H' h' (fp ++ [D]) → Aside c H' h' fp := fun a b hb => a b (List.mem_append_left _ hb)
  by_cases hlt : i < n
  · obtain ⟨ok, body⟩ := step i ys H2 hlt hI
    refine hG (W.item i m1 H2 _ hlt R2 (Afp A2) ok j2 _ fun v h3 tk3 R3 k3 A3 j3 r3 => ?_)
    have F3 := F2.off hfr k3
    have hn3 : h3.Ns C m2 := hn2.at' fun o e => k3 C o hCf e
    have hl3 : IsL h3 D items nn := k3 D _ hDf hl2
    have hr3 := lift_offL (Afp A2) k3 hr2
    refine W.go i v m1 H2 _ R3 A3 j3 r3 _ fun h4 tk4 R4 k4 A4 j4 r4 => ?_
    have F4 := F3.off hfr k4
    have hn4 : h4.Ns C m2 := hn3.at' fun o e => k4 C o hCf e
    have hl4 : IsL h4 D items nn := k4 D _ hDf hl3
    have hr4 := lift_offL A3 k4 hr3
    have R4' : Rel (c.comp scope cl C hk) ⟨[], H2⟩ _ := R4.inner hn4 hC2.1 hC2.2.2
    have A4' : Aside (c.comp scope cl C hk) H2 h4 (fp ++ [D]) := fun b hb => by
      rcases List.mem_append.mp hb with q | q
      · obtain ⟨a1, a2, a3, a4⟩ := A4 b q
        exact ⟨a1, fun e => (by have e' : b = C := e; subst e'; exact hCf q), a3, a4⟩
      · simp at q; subst q
        obtain ⟨a1, a2, a3, o, ho, nt⟩ := A2 b (by simp)
        exact ⟨a1, fun e => hCD (e : b = C).symm, a3, _, hl4, fun k its m q => by cases k <;> exact absurd q.1 (by unfold clsOf; simp)⟩
    refine body _ v R4' r4 _ fun _ _ m5 H5 h5 tk5 R5 F5 _ q5 => ?_
    refine q5.run _ R5 _ fun b vb m6 H6 h6 tk6 R6 F6 r6 q6 => ?_
    refine cutm fun G hG => ?_
    cases r6
    have A5 := A4'.step F5
    have A6 := A5.step F6
    have kp6 : ∀ b ∈ fp ++ [D], ∀ o, h4.get? b = some o → h6.get? b = some o := fun b hb o e =>
      F6.keep b o (A5 b hb).1 (A5 b hb).2.1 (F5.keep b o (A4' b hb).1 (A4' b hb).2.1 e)
    cases b with
    | false =>
      have R6c : Rel c ⟨m1, H6⟩ _ := R4.outer R4' (Ne.symm hC2.2.1) (F5.trans R5.hasL F6) R6
      obtain ⟨m6', hn6, _⟩ := R6.loc
      refine hG ⟨n + 1 - (i + 1), by exact ar1 2 (.t (.v 0) (.v 1)) (.t (.s (.a (.v 1) (.n 1)) (.a (.v 0) (.n 1))) (.s (.a (.v 1) (.n 1)) (.v 0))) (by kernel_rfl) [_, _] hlt, i + 1, ys, m6', H6, h6, tk6, items, nn, rfl, R6c, (F4.via hC F5).via hC F6, fun b hb => ?_, ⟨?_, hC2.2⟩, hn6, kp6 D (by simp) _ hl4, R5.liftL F6 (R4'.liftL F5 hr4), ?_, q6, hlt, by exact ar1 2 (.l (.v 0) (.v 1)) (.l (.v 0) (.a (.v 1) (.n 1))) (by kernel_rfl) [_, _] hyl, rfl⟩
      · obtain ⟨a1, a2, a3, a4⟩ := A6 b hb
        refine ⟨a1, ?_, a3, a4⟩
        exact (A2 b hb).2.1
      · exact fun q => (R6.apart C q).1 rfl
      · exact W.keep _ _ _ j4 fun b hb o e => kp6 b (List.mem_append_left _ hb) o e
    | true =>
      refine hG (q6 _ R6 _ fun u vu m7 H7 h7 tk7 R7 F7 r7 q7 => ?_)
      have A7 := A6.step F7
      have kp7 : ∀ b ∈ fp ++ [D], ∀ o, h4.get? b = some o → h7.get? b = some o := fun b hb o e => F7.keep b o (A6 b hb).1 (A6 b hb).2.1 (kp6 b hb o e)
      have hl7 : IsL h7 D items nn := kp7 D (by simp) _ hl4
      have hr7 : Reps h7 ys items.toList := R6.liftL F7 (R5.liftL F6 (R4'.liftL F5 hr4))
      have R7c : Rel c ⟨m1, H7⟩ (sw s h7 tk7) := R4.outer R4' (Ne.symm hC2.2.1) ((F5.trans R5.hasL F6).trans R6.hasL F7) R7
      have hisz : items.size ≤ sizeLine := by have := hr2.length; rw [← Array.length_toList, this]; exact ar3 4 (.l (.v 0) (.v 1)) (.l (.v 2) (.v 3)) (.t (.v 3) (.v 0)) (.l (.v 2) (.v 1)) (by kernel_rfl) [_, _, _, _] hsz hyl hlt
      refine call_meets F.slot_list_append ⟨_, hl7, rfl⟩ F.entry_list_append (F.args_list_append_2 _ _) (PySem.list_append D items nn vu hisz) ⟨hl7, ?_⟩
      have hu := IsL.update hl7 (·.push vu)
      have ntD : NotTup { cls := .type "list", dict := .none, data := .seq items nn, slots := #[] } := fun k its m q => by cases k <;> exact absurd q.1 (by unfold clsOf; simp)
      have AD := A7 D (by simp)
      have hDL := (A2 D (by simp)).2.1
      have R8 : Rel c ⟨m1, H7⟩ (sw s (h7.update D (Obj.mapSeq (·.push vu))) tk7) := R7c.off tk7 hl7 ntD AD.1 hDL AD.2.2.1 upd_kp
      have offD : ∀ b o, b ∉ [D] → h7.get? b = some o → (h7.update D (Obj.mapSeq (·.push vu))).get? b = some o := one_off upd_kp
      have ADc : Aside c H7 h7 [D] := fun b hb => by simp at hb; subst hb; exact ⟨AD.1, hDL, AD.2.2.1, _, hl7, ntD⟩
      obtain ⟨m7', hn7, _⟩ := R7.loc
      refine ⟨n + 1 - (i + 1), by exact ar1 2 (.t (.v 0) (.v 1)) (.t (.s (.a (.v 1) (.n 1)) (.a (.v 0) (.n 1))) (.s (.a (.v 1) (.n 1)) (.v 0))) (by kernel_rfl) [_, _] hlt, i + 1, ys ++ [u], m7', H7, _, tk7, _, _, rfl, R8, (((F4.via hC F5).via hC F6).via hC F7).off (fp := [D]) (fun b hb => by simp at hb; subst hb; exact hD) offD, fun b hb => ?_, ⟨fun q => (R7.apart C q).1 rfl, hC2.2⟩, hn7.at' fun o e => upd_kp C o hCD e, hu, ?_, ?_, q7, hlt, ?_, rfl⟩
      · rcases List.mem_append.mp hb with q | q
        · obtain ⟨a1, a2, a3, o, ho, nt⟩ := A7 b hb
          exact ⟨a1, (A2 b hb).2.1, a3, o, upd_kp b o (fun e => hDf (e ▸ q)) ho, nt⟩
        · simp at q; subst q
          exact ⟨AD.1, hDL, AD.2.2.1, _, hu, fun k its m q => by cases k <;> exact absurd q.1 (by unfold clsOf; simp)⟩
      · rw [Array.toList_push]
        exact (lift_offL ADc offD hr7).append (.one (lift_off ADc offD r7))
      · exact W.keep _ _ _ (W.keep _ _ _ j4 fun b hb o e => kp7 b (List.mem_append_left _ hb) o e) fun b hb o e => upd_kp b o (fun e => hDf (e ▸ hb)) e
      · simp; exact ar1 2 (.l (.v 0) (.v 1)) (.l (.v 0) (.v 1)) (by kernel_rfl) [_, _] hyl
  · have hin : i = n := by exact ar2 2 (.l (.v 0) (.v 1)) (.no (.t (.v 0) (.v 1))) (.e (.v 0) (.v 1)) (by kernel_rfl) [_, _] hle hlt
    subst hin
    obtain ⟨ok, q⟩ := fin ys H2 hI
    refine hG (W.done m1 H2 _ R2 (Afp A2) ok j2 _ fun h3 tk3 R3 k3 => ?_)
    have hl3 : IsL h3 D items nn := k3 D _ hDf hl2
    have AD := A2 D (by simp)
    have R3' : Rel c ⟨m1, (D, .list ys) :: H2⟩ (sw s h3 tk3) := by
      refine ⟨R3.loc, fun a o hm => ?_, List.nodup_cons.mpr ⟨AD.1, R3.nd⟩, fun a ha => ?_, R3.keep, R3.gl⟩
      · rcases List.mem_cons.mp hm with e | e
        · cases e; exact O.list_mk hl3 (lift_offL (Afp A2) k3 hr2)
        · exact R3.obj a o e
      · rcases List.mem_cons.mp ha with e | e
        · cases (e : a = D); exact ⟨AD.2.1, AD.2.2.1⟩
        · exact R3.apart a e
    have F3 := F2.off hfr k3
    exact post ys H2 h3 tk3 m2 R3' ⟨F3.keep, fun b hb => by
      rcases List.mem_cons.mp hb with e | e
      · cases (e : b = D); exact .inr hD
      · exact F3.dom b e, F3.alive⟩ (hn2.at' fun o e => k3 C o hCf e) hC2 q
end
end Mine
end
section
open PySem PySem.W PyProof.Rows PySem.Calls
set_option maxRecDepth 100000
namespace Mine
section
variable {c : Ctx} {m : Lo} {H : Hp} {pos : Pos} {Q : V → Lo → Hp → Prop}
theorem comp_tail {PQ : Value → Shared → Prop} {use : Option (Value → Sem Unit)} {scope : Scope} {cl : List (Str × Addr)} {hk : scope.kind = .function} {t elt iter : Expr} {ifs : List Expr} {it : Value} {fp : List Addr} {n : Nat} {x : Nat → V} {Ok : Hp → Prop} {J : Nat → Heap → Prop} {J' : Nat → Value → Heap → Prop}
    {H1 : Hp} {m1 : Lo} {s : Shared} {h1 : Heap} {tk1 : Tk} {Qf : List V → Hp → Prop} (hcell : ∀ y ∈ scope.names, y.2 ≠ .cell) (W : Iter c t it fp n x Ok J J') (hsz : n ≤ sizeLine) (hw : WPcomp c scope cl hk t elt ifs n x Ok H1 Qf)
    (R1 : Rel c ⟨m1, H1⟩ (sw s h1 tk1)) (F1 : Fp c.env.locals H H1 s.heap h1) (A1 : Aside c H1 h1 fp) (hfr : ∀ b ∈ fp, s.heap.get? b = .none) (j : J 0 h1)
    (post : ∀ ys H2 h2 tk2 m2 D C, Rel c ⟨m1, (D, .list ys) :: H2⟩ (sw s h2 tk2) → Fp c.env.locals H ((D, .list ys) :: H2) s.heap h2 → h2.Ns C m2 → (C ∉ dom ((D, .list ys) :: H2) ∧ C ≠ c.env.locals ∧ c.G C = .none ∧ s.heap.get? C = .none) → Qf ys H2 →
      compPost (model c.prog c.w) c.A (fun _ _ => False) use PQ (.ref D) C (.ok .next) (sw s h2 tk2)) :
    wpAny (model c.prog c.w) c.A (newList []) (fun acc s₃ => wpAny (model c.prog c.w) c.A (newFunctionEnv scope c.env.globals cl [] c.env.qual .none .none (some c.env)) (fun cenv s₄ =>
      codeAny (model c.prog c.w) c.A (.compStart (.ListComp elt [⟨t, iter, ifs, 0⟩] scope pos) 0 it acc { cenv with scope := relabel scope c.env }) (compPost (model c.prog c.w) c.A (fun _ _ => False) use PQ acc cenv.locals) s₄) (fun _ _ => False) s₃) (fun _ _ => False) (sw s h1 tk1) := by
  refine wpAny_newObj_type ?_
  refine wpAny_newFunctionEnv hcell (fun y hy => by cases hy) (fun h' hn hs => ?_) hk
  have e1 : (h1.push { cls := .type "list", data := .seq #[] }).objs.size = h1.objs.size + 1 := by simp
  have g1 : ∀ b o, h1.get? b = some o → (h1.push { cls := .type "list", data := .seq #[] }).get? b = some o := push_grow
  have g2 : ∀ b o, (h1.push { cls := .type "list", data := .seq #[] }).get? b = some o → h'.get? b = some o := fun b o e =>
    (hs.2 b (Nat.ne_of_lt (Heap.lt_size e))).trans (push_grow b o e)
  have g : ∀ b o, h1.get? b = some o → h'.get? b = some o := fun b o e => g2 b o (g1 b o e)
  have hl : IsL h' h1.objs.size #[] 0 := g2 _ _ (Heap.get?_push_size _ rfl)
  have fD := R1.fresh (get_size h1)
  have cN : h1.get? (h1.objs.size + 1) = .none := get_ge (Nat.le_succ _)
  have fC := R1.fresh cN
  have back : ∀ b, h1.get? b = .none → s.heap.get? b = .none := fun b hb => by
    cases q : s.heap.get? b with
    | none => rfl
    | some o => obtain ⟨o', e⟩ := F1.alive _ _ q; rw [hb] at e; cases e
  have ntD : NotTup { cls := .type "list", dict := .none, data := .seq #[] 0, slots := #[] } := fun k its m q => by cases k <;> exact absurd q.1 (by unfold clsOf; simp)
  have live : ∀ b ∈ fp, b < h1.objs.size := fun b hb => by obtain ⟨_, _, _, o, ho, _⟩ := A1 b hb; exact Heap.lt_size ho
  have main := fun (tk : Tk) => comp_loop (c := c) (H := H) (pos := pos) (RR := compPost (model c.prog c.w) c.A (fun _ _ => False) use PQ (.ref h1.objs.size) (h1.objs.size + 1)) (iter := iter) (hk := hk) (s := (sw s h' tk)) (base := s.heap) (D := h1.objs.size) (C := h1.objs.size + 1) W hsz hw
    (R1.grow tk g) (F1.trans R1.hasL (.grow g)) (fun b hb => by
      rcases List.mem_append.mp hb with q | q
      · obtain ⟨a1, a2, a3, o, ho, nt⟩ := A1 b q
        exact ⟨a1, a2, a3, o, g b o ho, nt⟩
      · simp at q; subst q
        exact ⟨fD.1, fD.2.1, fD.2.2, _, hl, ntD⟩) hfr (back _ (get_size h1)) (back _ cN) fC (fun q => absurd (live _ q) (Nat.not_lt.mpr (Nat.le_succ _))) (fun q => absurd (live _ q) (Nat.lt_irrefl _)) (Nat.succ_ne_self _)
    (m0 := fun x => ([] : List (Str × Value)).reverse.lookup x) (by rw [← e1]; exact hn) hl (W.keep _ _ _ j fun b _ o e => g b o e) (fun ys H2 h2 tk2 m2 R F N o q => post ys H2 h2 tk2 m2 _ _ R F N ⟨fun q => by
      rcases List.mem_cons.mp q with e | e
      · exact absurd (e : h1.objs.size + 1 = h1.objs.size) (Nat.succ_ne_self _)
      · exact o.1 e, o.2.1, o.2.2, back _ cN⟩ q)
  have eC : ({ newEnv scope (h1.push { cls := .type "list", data := .seq #[] }).objs.size c.env.globals cl c.env.qual .none .none (some c.env) 0 with scope := relabel scope c.env } : Env) = compEnvC scope cl (h1.objs.size + 1) c.env := by rw [e1]; rfl
  have e2 : (newEnv scope (h1.push { cls := .type "list", data := .seq #[] }).objs.size c.env.globals cl c.env.qual .none .none (some c.env) 0).locals = h1.objs.size + 1 := e1
  show codeAny _ _ (.compStart _ 0 it (.ref h1.objs.size) { newEnv scope (h1.push { cls := .type "list", data := .seq #[] }).objs.size c.env.globals cl c.env.qual .none .none (some c.env) 0 with scope := relabel scope c.env }) (compPost _ _ _ use PQ (.ref h1.objs.size) (newEnv scope (h1.push { cls := .type "list", data := .seq #[] }).objs.size c.env.globals cl c.env.qual .none .none (some c.env) 0).locals) _
  rw [eC, e2]
  refine codeAny_compStart_list (main _) (wpAny_mono (W.self _ _ (W.keep _ _ _ j fun b _ o e => g b o e) (main _)) (fun _ _ q => q) fun _ _ q => q.elim)
theorem e_comp {t elt iter : Expr} {ifs : List Expr} {scope : Scope} {cl : List (Str × Addr)} (hclos : closureFor scope c.env = pure cl) (hk : scope.kind = .function)
    (h : WPit c t iter m H fun n x Ok m1 H1 => n ≤ sizeLine ∧ WPcomp c scope cl hk t elt ifs n x Ok H1 fun ys H2 => ∀ D, Q (.ref D) m1 ((D, .list ys) :: H2))
    (hcell : autoParam (∀ y ∈ scope.names, y.2 ≠ .cell) auDec) (hnames : autoParam (∀ y ∈ scope.names, y.2 = .local → scope.names.lookup y.1 = some .local) auDec)
    (hs : autoParam (∀ x, foldedSetIterable iter c.env x = pure x) auFun) : WPe c (.ListComp elt [⟨t, iter, ifs, 0⟩] scope pos) m H Q := fun s R P k => by
  rw [eval_ListComp]
  refine wpAny_comprehension_free (use := .none) rfl hs hclos hk hnames (h s R _ fun it fp n x Ok J J' m1 H1 h1 tk1 W R1 F1 A1 fr1 j1 q => ?_)
  refine comp_tail hcell W q.1 q.2 R1 F1 A1 fr1 j1 fun ys H2 h2 tk2 m2 D C R2 F2 N o q => ?_
  refine ⟨m2, N, fun h' hs' => ?_⟩
  obtain ⟨oC, es, ep, hoC, hdC, _⟩ := N
  have R3 := R2.off (h' := h') tk2 hoC (fun _ _ _ q => by rw [hdC] at q; cases q.2) o.1 o.2.1 o.2.2.1 (Heap.SameBut.kp hs')
  exact k (.ref D) _ m1 _ h' tk2 R3 (F2.off (fp := [C]) (fun b hb => by simp at hb; subst hb; exact o.2.2.2) (one_off (Heap.SameBut.kp hs'))) rfl (q D)
theorem s1_comp {y : Str} {py spos : Pos} {Q : Fl → Lo → Hp → Prop} {t elt iter : Expr} {ifs : List Expr} {scope : Scope} {cl : List (Str × Addr)} (hclos : closureFor scope c.env = pure cl) (hk : scope.kind = .function) (hy : c.env.kindOf y = some .local)
    (h : WPit c t iter m H fun n x Ok m1 H1 => n ≤ sizeLine ∧ WPcomp c scope cl hk t elt ifs n x Ok H1 fun ys H2 => ∀ D, Q .next ((y, .ref D) :: m1) ((D, .list ys) :: H2))
    (hsw : swapsWith (.ListComp elt [⟨t, iter, ifs, 0⟩] scope pos) (some (.Name y py)) spos.line c.env = pure true)
    (hcell : autoParam (∀ y ∈ scope.names, y.2 ≠ .cell) auDec) (hnames : autoParam (∀ y ∈ scope.names, y.2 = .local → scope.names.lookup y.1 = some .local) auDec)
    (hs : autoParam (∀ x, foldedSetIterable iter c.env x = pure x) auFun) : WP1 c (.Assign [.Name y py] (.ListComp elt [⟨t, iter, ifs, 0⟩] scope pos) spos) m H Q := fun s R P k => by
  rw [exec_Assign_Name_used _ _ _ _ hsw]
  refine wpAny_bind (wpAny_standAt (wpAny_bind ?_))
  show wpAny _ _ (do let _ ← comprehension (.ListComp elt [⟨t, iter, ifs, 0⟩] scope pos) scope c.env _ (newList []) false (eval iter c.env) (some (assign (.Name y py) c.env))) _ _ s
  refine wpAny_bind (wpAny_mono (wpAny_comprehension_free (use := some (assign (.Name y py) c.env)) (Q := fun _ s' => P .next s') rfl hs hclos hk hnames (h s R _ fun it fp n x Ok J J' m1 H1 h1 tk1 W R1 F1 A1 fr1 j1 q => ?_))
    (fun _ s' hq => wpAny_pure (wpAny_pure hq)) fun _ _ e => e)
  refine comp_tail hcell W q.1 q.2 R1 F1 A1 fr1 j1 fun ys H2 h2 tk2 m2 D C R2 F2 N o q => ?_
  obtain ⟨mL, hn, qL⟩ := R2.loc
  show wpAny _ _ (assign (.Name y py) c.env (.ref D)) _ _ _
  refine wpAny_assign_Name (wpAny_storeName_local hy hn (fun h3 hn3 hs3 => ?_) c.hp)
  have R3 := R2.store (h' := h3) ⟨tk2.toks + 1, tk2.drawn⟩ (x := y) (u := .ref D) (v := .ref D) rfl hs3 qL hn3
  have N3 : h3.Ns C m2 := N.sameBut hs3 o.2.1
  refine ⟨m2, N3, fun h' hs' => ?_⟩
  obtain ⟨oC, es, ep, hoC, hdC, _⟩ := N3
  have R4 := R3.off (h' := h') ⟨tk2.toks + 1, tk2.drawn⟩ hoC (fun _ _ _ q => by rw [hdC] at q; cases q.2) o.1 o.2.1 o.2.2.1 (Heap.SameBut.kp hs')
  have F3 := F2.trans R2.hasL (Fp.frame (H := (D, .list ys) :: H2) hs3 (let ⟨o, _, _, ho, _⟩ := hn3; ⟨o, ho⟩))
  exact k .next _ _ _ h' ⟨tk2.toks + 1, tk2.drawn⟩ R4 (F3.off (fp := [C]) (fun b hb => by simp at hb; subst hb; exact o.2.2.2) (one_off (Heap.SameBut.kp hs'))) rfl (q D)
end
end Mine
end
section
open PySem PySem.W PyProof.Rows PySem.Calls
set_option maxRecDepth 100000
namespace Mine
theorem Reps.repl {h : Heap} {xs : List V} {vs : List Value} (r : Reps h xs vs) : ∀ k, Reps h (List.replicate k xs).flatten (List.replicate k vs).flatten
  | 0 => rfl
  | k + 1 => by rw [List.replicate_succ, List.replicate_succ, List.flatten_cons, List.flatten_cons]; exact r.append (Reps.repl r k)
inductive Lit {α : Type} : List α → List α → Prop
  | nil : Lit [] []
  | cons {a : α} {l r : List α} : Lit l r → Lit (a :: l) (a :: r)
structure Base (c : Ctx) (K : Frag) : Prop where
  kin : c.Knows K.In
  glo : ∃ mg, c.Knows fun h => h.Ns mainGlobals mg
  bui : ∃ mb, (c.Knows fun h => h.Ns builtinsNs mb) ∧ ∀ x : Str, x ≠ "__name__" → mb x = bootBuiltins x
  lim : c.Knows Heap.NoLimit
  g : c.env.globals = mainGlobals
  b : c.env.builtins = builtinsNs
inductive Loc (x : Str) (u : V) : Lo → Prop
  | head (m : Lo) : Loc x u ((x, u) :: m)
  | tail {y : Str} {w : V} {m : Lo} : x ≠ y → Loc x u m → Loc x u ((y, w) :: m)
theorem Loc.eq {x : Str} {u : V} {m : Lo} (h : Loc x u m) : m.lookup x = some u := by
  induction h with
  | head m => simp [List.lookup]
  | @tail y w m hne _ ih =>
    rw [List.lookup_cons]
    have : (x == y) = false := by simpa using hne
    rw [this]; exact ih
theorem Less.of {m m' : Lo} {H H' : Hp} (hm : ∀ x u, (x, u) ∈ m' → Loc x u m) (hH : List.Sublist H' H) : Less m H m' H' := by
  refine ⟨fun x u e => (hm x u ?_).eq, fun p hp => hH.subset hp, fun nd => ?_⟩
  · exact mem_of_lookup e
  · exact nd.sublist (hH.map _)
section
variable {c : Ctx} {m : Lo} {H : Hp} {pos : Pos} {Q : V → Lo → Hp → Prop} {K : Frag}
theorem Base.glob (B : Base c K) {x : Str} {u : At} {v : Value} (hk : c.env.kindOf x = some .globalImplicit) (e : nsIn K mainGlobals x = some (some v)) (hr : u.rep v) : Glob c x u := by
  refine ⟨hk, fun h hh s P hs k => ?_⟩
  obtain ⟨mg, hg⟩ := B.glo
  subst hs
  exact loadGlobal_global (by rw [B.g]; exact hg _ hh) (mg_of (B.kin _ hh) (hg _ hh) e) (k v hr)
theorem Base.bi (B : Base c K) {x : Str} {u : At} {v : Value} (hk : c.env.kindOf x = some .globalImplicit) (e : nsIn K mainGlobals x = some .none) (hb : bootBuiltins x = some v) (hn : x ≠ "__name__") (hr : u.rep v) : Glob c x u := by
  refine ⟨hk, fun h hh s P hs k => ?_⟩
  obtain ⟨mg, hg⟩ := B.glo
  obtain ⟨mb, hm, hx⟩ := B.bui
  subst hs
  exact loadGlobal_builtin (by rw [B.g]; exact hg _ hh) (mg_none_of (B.kin _ hh) (hg _ hh) e) (by rw [B.b]; exact hm _ hh) ((hx x hn).trans hb) (k v hr)
theorem Base.enter (B : Base c K) {fd : FuncData} {a L : Addr} {k : Nat} {hf : c.fuel = k + 1} {hk : fd.scope.kind = .function} (hg : fd.globals = mainGlobals) (hb : fd.builtins = builtinsNs) : Base (c.enter fd a L k hf hk) K :=
  ⟨B.kin, B.glo, B.bui, B.lim, hg, hb⟩
theorem Base.comp (B : Base c K) {scope : Scope} {cl : List (Str × Addr)} {C : Addr} {hk : scope.kind = .function} : Base (c.comp scope cl C hk) K := ⟨B.kin, B.glo, B.bui, B.lim, B.g, B.b⟩
theorem kind_of {ns : List (Str × NameKind)} (hn : c.env.scope.names = ns) {x : Str} {k : NameKind} (h : ns.lookup x = some k) : c.env.kindOf x = some k := by unfold Env.kindOf; rw [hn]; exact h
theorem e_loc {ns : List (Str × NameKind)} (hn : c.env.scope.names = ns) {x : Str} {u : V} (hl : ns.lookup x = some .local) (hv : Loc x u m) (h : Q u m H) (hd : autoParam ((x == ("__debug__" : Str)) = false) auDec) : WPe c (.Name x pos) m H Q := e_local (kind_of hn hl) hv.eq h hd
theorem if_b {b : Bool} {A B : Prop} (h1 : b = true → A) (h0 : b = false → B) : if b then A else B := by cases b; exact h0 rfl; exact h1 rfl
theorem o_rep {x : Addr} {xs : List V} {k : Int} (hx : Sees c H x (.list xs)) (h : ∀ a, Q (.ref a) m ((a, .list (List.replicate k.toNat xs).flatten) :: H)) (hk : -1000000 ≤ k ∧ k ≤ 1000000) (hsz : xs.length * k.toNat ≤ 1000000) : Op2 c .Mult (.ref x) (.int k) m H Q := fun s va vb R ra rb => by
  cases (ra : va = _); obtain ⟨t, rfl⟩ := rb
  obtain ⟨items, n, hl, hr⟩ := O.list_get (hx m s R)
  have hz : items.size = xs.length := by rw [← Array.length_toList, hr.length]
  refine .new R (o := .list (List.replicate k.toNat xs).flatten) (b := fun a => .ref a) h fun P kk => ?_
  refine wpAny_binaryOp_repeat_ref (T := "list") (U := "int") (by decide) ⟨_, hl, rfl⟩ (fun s' => typeIs_int s' k t) noFill_list_mul F.fills_int_mul F.slot_int_rmul repeat_list F.slot_int_index.lookup
    (call_meets F.slot_int_rmul (typeIs_int s k t) F.entry_int_rmul (F.args_int_rmul_2 _ _) (int___rmul___int_list k t x items n)
      ⟨hl, rfl, ⟨_, hl, rfl⟩, call_meets F.slot_list_mul ⟨_, hl, rfl⟩ F.entry_list_mul (F.args_list_mul_2 _ _)
        (AutoListH.list___mul___list_int_3 x items n k t (by simp [Builtin.List.listFitsIndex]; lia) (by rw [hz]; lia) (by rw [hz]; simp [Builtin.List.listTooLong, sizeLine]; exact ar1 1 (.l (.v 0) (.n 1000000)) (.l (.v 0) (.n 16777216)) (by kernel_rfl) [_] hsz))
        ⟨hl, kk _ _ _ s.toks push_grow (get_size _) (O.list_mk (n := 0) (Heap.get?_push_size _ rfl) ?_) rfl⟩⟩)
  rw [listMul_foldl_if]
  exact Reps.repl (R.liftL (.grow (H := H) push_grow) hr) _
theorem On1.less {a : V} {α β : Type} {R : Heap → β → α → Prop} {t : Value → Sem α} {Q : β → Lo → Hp → Prop} {m' : Lo} {H' : Hp} (l : Less m H m' H') (h : On1 c a R t m' H' Q) : On1 c a R t m H Q :=
  fun s va Rl r P k => h s va (Rl.weaken l.1 l.2.1 (l.2.2 Rl.nd)) r P fun b v m' H2 h tk R' F r q => k b v m' H2 h tk R' (F.less l.2.1) r q
theorem Sees.less {H' : Hp} {a : Addr} {o : O} {m' : Lo} (l : Less m H m' H') (h : (a, o) ∈ H') : Sees c H a o := Sees.mem (l.2.1 _ h)
inductive LessM (m : Lo) : Lo → Prop
  | nil : LessM m []
  | cons {x : Str} {u : V} {m' : Lo} : Loc x u m → LessM m m' → LessM m ((x, u) :: m')
theorem LessM.loc {m m' : Lo} (h : LessM m m') : ∀ x u, (x, u) ∈ m' → Loc x u m := by
  induction h with
  | nil => intro x u q; cases q
  | cons hl _ ih =>
    intro x u q
    rcases List.mem_cons.mp q with e | e
    · cases e; exact hl
    · exact ih x u e
theorem less_of {m' : Lo} {H' : Hp} (hm : LessM m m') (hH : List.Sublist H' H) : Less m H m' H' := Less.of hm.loc hH
theorem Less.refl (m : Lo) (H : Hp) : Less m H m H := ⟨fun _ _ e => e, fun _ h => h, id⟩
theorem s_if {t : Expr} {a b r : List Stmt} {Q : Fl → Lo → Hp → Prop} (h : WPt c t m H fun x m1 H1 => if x then WPs c a m1 H1 fun f m2 H2 => match f with | .next => WPs c r m2 H2 Q | f => Q f m2 H2 else WPs c b m1 H1 fun f m2 H2 => match f with | .next => WPs c r m2 H2 Q | f => Q f m2 H2) : WPs c (.If t a b pos :: r) m H Q := s_cons (s1_if h)
theorem s_for_list {t iter : Expr} {b r : List Stmt} {Q : Fl → Lo → Hp → Prop}
    (h : WPe c iter m H fun u m1 H1 => ∃ a xs, u = .ref a ∧ ∃ I : Nat → Lo → Hp → Prop, I 0 m1 H1 ∧ (∀ i m2 H2, I i m2 H2 → Sees c H2 a (.list xs)) ∧ (∀ i v m2 H2, xs[i]? = some v → I i m2 H2 → Asg c t v m2 H2 fun m3 H3 => WPs c b m3 H3 fun f m4 H4 =>
      match f with | .next | .cont => I (i + 1) m4 H4 | .brk => WPs c r m4 H4 Q | .ret v => Q (.ret v) m4 H4) ∧ ∀ m2 H2, I xs.length m2 H2 → WPs c r m2 H2 Q)
    (ht : autoParam (isNameOrTuple t = true) auRfl) (hs : autoParam (∀ x, foldedSetIterable iter c.env x = pure x) auFun) : WPs c (.For t iter b [] pos :: r) m H Q := by
  refine s_cons (s1_for (it_list ht (h.mono ?_)) hs)
  rintro u m1 H1 ⟨a, xs, rfl, I, i0, sees, step, fin⟩
  refine ⟨a, xs, rfl, sees 0 m1 H1 i0, I, i0, fun i m2 H2 hi hI => ⟨sees i m2 H2 hI, ?_⟩, fun m2 H2 hI => ⟨sees _ m2 H2 hI, fin m2 H2 hI⟩⟩
  refine On1.mono (step i (xs.getD i .none) m2 H2 (by simp [List.getD, hi]) hI) fun _ m3 H3 q => q.mono fun f m4 H4 q => ?_
  cases f <;> exact q
theorem s_for_range {t iter : Expr} {b r : List Stmt} {Q : Fl → Lo → Hp → Prop}
    (h : WPe c iter m H fun u m1 H1 => ∃ x lo hi, u = .ref x ∧ Sees c H1 x (.range lo hi 1) ∧ (-1000000 ≤ lo ∧ lo ≤ 1000000) ∧ (-1000000 ≤ hi ∧ hi ≤ 1000000) ∧ ∃ I : Nat → Lo → Hp → Prop, I 0 m1 H1 ∧ (∀ (i : Nat) m2 H2, lo + i < hi → I i m2 H2 → Asg c t (.int (lo + i)) m2 H2 fun m3 H3 => WPs c b m3 H3 fun f m4 H4 =>
      match f with | .next | .cont => I (i + 1) m4 H4 | .brk => WPs c r m4 H4 Q | .ret v => Q (.ret v) m4 H4) ∧ ∀ m2 H2, I (hi - lo).toNat m2 H2 → WPs c r m2 H2 Q)
    (ht : autoParam (isNameOrTuple t = true) auRfl) (hs : autoParam (∀ x, foldedSetIterable iter c.env x = pure x) auFun) : WPs c (.For t iter b [] pos :: r) m H Q := by
  refine s_cons (s1_for (it_range ht (h.mono ?_)) hs)
  rintro u m1 H1 ⟨x, lo, hi, rfl, sees, h1, h2, I, i0, step, fin⟩
  refine ⟨x, lo, hi, rfl, sees, h1, h2, I, i0, fun i m2 H2 hi hI => ⟨trivial, ?_⟩, fun m2 H2 hI => ⟨trivial, fin m2 H2 hI⟩⟩
  refine On1.mono (step i m2 H2 (by omega) hI) fun _ m3 H3 q => q.mono fun f m4 H4 q => ?_
  cases f <;> exact q
theorem s_join {st : Stmt} {r : List Stmt} {Q : Fl → Lo → Hp → Prop} (J : Lo → Hp → Prop) (h : WP1 c st m H fun f m1 H1 => match f with | .next => J m1 H1 | f => Q f m1 H1) (k : ∀ m1 H1, J m1 H1 → WPs c r m1 H1 Q) : WPs c (st :: r) m H Q := by
  refine s_cons fun s R P kk => h s R P fun f v m' H' h tk R' F r q => kk f v m' H' h tk R' F r ?_
  cases f with
  | next => exact k m' H' q
  | brk => exact q
  | cont => exact q
  | ret u => exact q
theorem s_to {st : Stmt} {r : List Stmt} {Q : Fl → Lo → Hp → Prop} (m' : Lo) (H' : Hp) (h : WP1 c st m H fun f m1 H1 => match f with | .next => Less m1 H1 m' H' | f => Q f m1 H1) (k : WPs c r m' H' Q) : WPs c (st :: r) m H Q :=
  s_join (fun m1 H1 => Less m1 H1 m' H') h fun m1 H1 l => WPs.less l k
theorem swaps_yes {e : Expr} {gens : List Comprehension} {scope : Scope} {p p' : Pos} {line : Nat} {x : Str} {ns : List (Str × NameKind)} (hn : c.env.scope.names = ns) (hl : ns.lookup x = some .local) (hp : (p'.line == p.line) = true)
    (ha : (scope.names.any fun (n, k) => n == x && (k == .local || k == .cell)) = false) : swapsWith (.ListComp e gens scope p) (some (.Name x p')) line c.env = pure true := by
  have h1 : c.env.blockKind = .function := by unfold Env.blockKind; rw [c.hk]; rfl
  show pure (c.env.blockKind == .function && c.env.kindOf x == some .local && p'.line == p.line && !(scope.names.any fun (n, k) => n == x && (k == .local || k == .cell))) = (pure true : Sem Bool)
  rw [h1, kind_of hn hl, hp, ha]; rfl
theorem swaps_no {e : Expr} {gens : List Comprehension} {scope : Scope} {p p' : Pos} {line : Nat} {x : Str} {ns : List (Str × NameKind)} (hn : c.env.scope.names = ns) (hl : ns.lookup x = some .cell) : swapsWith (.ListComp e gens scope p) (some (.Name x p')) line c.env = pure false := by
  show pure (c.env.blockKind == .function && c.env.kindOf x == some .local && p'.line == p.line && !(scope.names.any fun (n, k) => n == x && (k == .local || k == .cell))) = (pure false : Sem Bool)
  rw [kind_of hn hl]
  have : ((some NameKind.cell : Option NameKind) == some NameKind.local) = false := by decide
  rw [this]; simp
theorem Less.lift {H' : Hp} {a : Addr} {o : O} (l : Less [] H [] H') : Less m ((a, o) :: H) m ((a, o) :: H') := by
  refine ⟨fun _ _ e => e, fun p hp => ?_, fun nd => ?_⟩
  · rcases List.mem_cons.mp hp with e | e
    · exact e ▸ List.mem_cons_self
    · exact List.mem_cons_of_mem _ (l.2.1 p e)
  · obtain ⟨h1, h2⟩ := List.nodup_cons.mp nd
    refine List.nodup_cons.mpr ⟨fun q => h1 ?_, l.2.2 h2⟩
    obtain ⟨p, hp, e⟩ := List.mem_map.mp q
    exact e ▸ List.mem_map.mpr ⟨p, l.2.1 p hp, rfl⟩
structure Inner (c : Ctx) (scope : Scope) (cl : List (Str × Addr)) (c2 : Ctx) : Prop where
  names : c2.env.scope.names = (relabel scope c.env).names
  cells : c2.env.cells = cl
  base : ∀ K, Base c K → Base c2 K
  knows : ∀ P, c.Knows P → c2.Knows P
  fuel : c2.fuel = c.fuel
  prog : c2.prog = c.prog
  w : c2.w = c.w
theorem Ctx.inner (c : Ctx) (scope : Scope) (cl : List (Str × Addr)) (C : Addr) (hk : scope.kind = .function) : Inner c scope cl (c.comp scope cl C hk) := ⟨rfl, rfl, fun _ B => B.comp, fun _ k => k, rfl, rfl, rfl⟩
noncomputable def relabelN (names ns : List (Str × NameKind)) : List (Str × NameKind) := names.map fun x => if x.2 = .free ∧ ns.lookup x.1 = some .cell then (x.1, .cell) else x
theorem Inner.named {scope : Scope} {cl : List (Str × Addr)} {c2 : Ctx} (h : Inner c scope cl c2) {ns : List (Str × NameKind)} (hn : c.env.scope.names = ns) : c2.env.scope.names = relabelN scope.names ns := by
  rw [h.names]
  unfold relabel relabelN
  refine List.map_congr_left fun x hx => ?_
  obtain ⟨n, k⟩ := x
  have e : c.env.kindOf n = ns.lookup n := by unfold Env.kindOf; rw [hn]
  have e2 : (c.env.scope.kind == ScopeKind.function) = true := by rw [c.hk]; rfl
  dsimp only
  rw [e, e2]
  by_cases h1 : k = .free <;> by_cases h2 : ns.lookup n = some .cell <;> simp [h1, h2]
structure Called (c : Ctx) (fd : FuncData) (L : Addr) (c2 : Ctx) : Prop where
  scope : c2.env.scope = fd.scope
  cells : c2.env.cells = cellsFrom (L + 1) fd.scope.names []
  base : ∀ K, Base c K → fd.globals = mainGlobals → fd.builtins = builtinsNs → Base c2 K
  knows : ∀ P, c.Knows P → c2.Knows P
  fuel : c.fuel = c2.fuel + 1
  prog : c2.prog = c.prog
  w : c2.w = c.w
  locals : c2.env.locals = L
  code : c2.env.code = fd.code
theorem Ctx.called (c : Ctx) (fd : FuncData) (fa L : Addr) (k : Nat) (hf : c.fuel = k + 1) (hk : fd.scope.kind = .function) : Called c fd L (c.enter fd fa L k hf hk) := ⟨rfl, rfl, fun _ B hg hb => B.enter hg hb, fun _ k => k, hf, rfl, rfl, rfl, rfl⟩
theorem keep_K {f : Addr} (B : Base c K) (hk : keepIn K (.ref f) = true) : KeepOk c (.ref f) H := fun m s vf R r => by cases (r : vf = _); exact keeps_K hk _ (B.kin _ R.keep)
noncomputable def WPelt (c : Ctx) (elt : Expr) (ifs : List Expr) (m : Lo) (H : Hp) (Q : Option V → Hp → Prop) : Prop := WPifs c ifs m H fun b m4 H4 => if b then WPe c elt m4 H4 fun v _ H5 => Q (some v) H5 else Q .none H4
theorem compOver {scope : Scope} {cl : List (Str × Addr)} {hk : scope.kind = .function} {t elt : Expr} {ifs : List Expr} {n : Nat} {x : Nat → V} {Ok : Hp → Prop} {H1 H' : Hp} {Qf : List V → Hp → Prop} (f : Nat → Option V)
    (h0 : ∀ m, Less m H1 [] H')
    (hstep : ∀ c2, Inner c scope cl c2 → ∀ i, i < n → Asg c2 t (x i) [] H' fun m3 H3 => WPelt c2 elt ifs m3 H3 fun o H5 => o = f i ∧ Less [] H5 [] H')
    (hok : ∀ H2, Less [] H2 [] H' → Ok H2) (hq : ∀ H2, Less [] H2 [] H' → Qf ((List.range n).filterMap f) H2) : WPcomp c scope cl hk t elt ifs n x Ok H1 Qf := fun C => by
  refine ⟨fun i ys H2 => ys = (List.range i).filterMap f ∧ Less [] H2 [] H', ⟨rfl, h0 []⟩, fun i ys H2 hi hI => ⟨hok H2 hI.2, ?_⟩, fun ys H2 hI => ⟨hok H2 hI.2, hI.1 ▸ hq H2 hI.2⟩⟩
  obtain ⟨rfl, hl⟩ := hI
  refine On1.less hl (On1.mono (hstep _ (c.inner scope cl C hk) i hi) fun _ m3 H3 q => ?_)
  have key : ∀ (o : Option V) (H5 : Hp), (o = f i ∧ Less [] H5 [] H') → (match o with | some v => ((List.range i).filterMap f ++ [v] = (List.range (i + 1)).filterMap f ∧ Less [] H5 [] H') | .none => ((List.range i).filterMap f = (List.range (i + 1)).filterMap f ∧ Less [] H5 [] H')) := by
    rintro o H5 ⟨rfl, hl⟩
    rw [List.range_succ, List.filterMap_append]
    cases q : f i with
    | none => simp [q, hl]
    | some v => simp [q, hl]
  have wm : ∀ (l : List Expr) (m : Lo) (H : Hp) (Q Q' : Bool → Lo → Hp → Prop), (∀ b m H, Q b m H → Q' b m H) → WPifs (c.comp scope cl C hk) l m H Q → WPifs (c.comp scope cl C hk) l m H Q' := by
    intro l
    induction l with
    | nil => intro m H Q Q' hQ q; exact hQ _ _ _ q
    | cons e l ih => intro m H Q Q' hQ q; exact WPt.mono q fun b m1 H1 q => by cases b; exact hQ _ _ _ q; exact ih _ _ _ _ hQ q
  refine wm _ _ _ _ _ (fun b m4 H4 q => ?_) q
  cases b with
  | false => exact key .none H4 q
  | true => exact WPe.mono q fun v _ H5 q => key (some v) H5 q
end
end Mine
end
section
open PySem PySem.W PyProof.Rows PySem.Calls PySem.SeqAt
set_option maxRecDepth 100000
namespace Mine
def LEq (xs ys : List V) (r : Bool) : Prop := (∃ ns : List Int, xs = ns.map .int ∧ ys = ns.map .int ∧ r = true) ∨ (xs.length ≠ ys.length ∧ r = false)
theorem ints_at {ns : List Int} {h : Heap} {vx vy : List Value} {A : Around} {s : Shared} (r1 : Reps h (ns.map .int) vx) (r2 : Reps h (ns.map .int) vy) (j : Nat) (h1 : j < vx.length) (h2 : j < vy.length) : EqAt A s vx[j] vy[j] true := by
  have hj : j < ns.length := by have := r1.length; simp at this; exact ar2 3 (.t (.v 0) (.v 1)) (.e (.v 1) (.v 2)) (.t (.v 0) (.v 2)) (by kernel_rfl) [_, _, _] h1 this
  have hx : (ns.map V.int)[j]? = some (.int ns[j]) := by simp [hj]
  obtain ⟨u, hu, t, e1⟩ := r1.get hx
  obtain ⟨v, hv, t2, e2⟩ := r2.get hx
  obtain ⟨_, q1⟩ := List.getElem?_eq_some_iff.mp hu
  obtain ⟨_, q2⟩ := List.getElem?_eq_some_iff.mp hv
  rw [q1, q2, e1, e2]
  have : EqAt A s (.int ns[j] t) (.int ns[j] t2) (ns[j] == ns[j]) := EqAt.int_int _ _ _ _
  rwa [beq_self_eq_true] at this
section
variable {c : Ctx} {m : Lo} {H : Hp} {pos : Pos} {Q : V → Lo → Hp → Prop} {K : Frag}
theorem Ctx.hu0 (c : Ctx) : c.A.units < cLine := by have := c.hu; exact ar1 3 (.t (.a (.a (.v 0) (.m 40 (.v 1))) (.n 400)) (.v 2)) (.t (.v 0) (.v 2)) (by kernel_rfl) [_, _, _] this
theorem Ctx.hu1 (c : Ctx) : c.A.in1.units < cLine := by have := c.hu; show c.A.units + 1 < cLine; exact ar1 3 (.t (.a (.a (.v 0) (.m 40 (.v 1))) (.n 400)) (.v 2)) (.t (.a (.v 0) (.n 1)) (.v 2)) (by kernel_rfl) [_, _, _] this
theorem c_eqL {a b : Addr} {xs ys : List V} {r : Bool} (ha : Sees c H a (.list xs)) (hb : Sees c H b (.list ys)) (hr : LEq xs ys r) (h : Q (.bool r) m H) : Cmp c .Eq (.ref a) (.ref b) m H Q := fun s va vb R ra rb => by
  cases (ra : va = _); cases (rb : vb = _)
  obtain ⟨i1, n1, l1, r1⟩ := O.list_get (ha m s R)
  obtain ⟨i2, n2, l2, r2⟩ := O.list_get (hb m s R)
  have z1 : i1.size = xs.length := by simpa using r1.length
  have z2 : i2.size = ys.length := by simpa using r2.length
  refine .val R h fun P k => ?_
  rcases hr with ⟨ns, rfl, rfl, rfl⟩ | ⟨hne, rfl⟩
  · exact eq_listAt (IsL.isList l1) (IsL.isList l2) (z1.trans z2.symm) c.hu0 (e := fun _ => true) (fun j h1 h2 => by have := ints_at (A := c.A.in1) (s := s) r1 r2 j (by simpa using h1) (by simpa using h2); simpa using this) (k _ s.toks (by show _ = _; simp))
  · exact eq_list_lengthsAt (IsL.isList l1) (IsL.isList l2) (by simpa [z1, z2] using hne) c.hu0 (k _ s.toks rfl)
theorem c_neL {a b : Addr} {xs ys : List V} {r : Bool} (ha : Sees c H a (.list xs)) (hb : Sees c H b (.list ys)) (hr : LEq xs ys r) (h : Q (.bool (!r)) m H) : Cmp c .NotEq (.ref a) (.ref b) m H Q := fun s va vb R ra rb => by
  cases (ra : va = _); cases (rb : vb = _)
  obtain ⟨i1, n1, l1, r1⟩ := O.list_get (ha m s R)
  obtain ⟨i2, n2, l2, r2⟩ := O.list_get (hb m s R)
  have z1 : i1.size = xs.length := by simpa using r1.length
  have z2 : i2.size = ys.length := by simpa using r2.length
  refine .val R h fun P k => cmp_ofNotEq ?_
  rcases hr with ⟨ns, rfl, rfl, rfl⟩ | ⟨hne, rfl⟩
  · exact RcNeAt.lists (IsL.isList l1) (IsL.isList l2) (z1.trans z2.symm) c.hu0 (e := fun _ => true) (fun j h1 h2 => by have := ints_at (A := c.A.in1) (s := s) r1 r2 j (by simpa using h1) (by simpa using h2); simpa using this) _ _ _ _ (k _ s.toks (by show _ = _; simp))
  · exact RcNeAt.lists_lengths (IsL.isList l1) (IsL.isList l2) (by simpa [z1, z2] using hne) c.hu0 _ _ _ _ (k _ s.toks rfl)
theorem isIS_rep {k : IS} {h : Heap} {v : Value} (r : k.v.rep h v) : isIS k v = true := by
  cases k with
  | i n => obtain ⟨t, rfl⟩ := r; simp [isIS, Value.isInt]
  | s x => obtain ⟨t, rfl⟩ := r; simp [isIS, Value.isStrOf]
theorem rep_isIS {k : IS} {h : Heap} {v : Value} (r : isIS k v = true) : k.v.rep h v := by
  rcases isIS_shape r with ⟨n, t, rfl, rfl⟩ | ⟨x, t, rfl, rfl⟩
  · exact ⟨t, rfl⟩
  · exact ⟨t, rfl⟩
theorem isIS_eqAt {k k' : IS} {u v : Value} {A : Around} {s : Shared} (hu : isIS k u = true) (hv : isIS k' v = true) : EqAt A s u v (decide (k = k')) := fun prog w E Q q => (mixKind prog w).eqBool hu hv q
theorem isIS_dec {k j : IS} {v : Value} (hj : isIS j v = true) : isIS k v = decide (k = j) := by
  cases q : isIS k v with
  | true =>
    have : k = j := by
      rcases isIS_shape q with ⟨n, t, rfl, rfl⟩ | ⟨x, t, rfl, rfl⟩
      · rcases isIS_shape hj with ⟨n', t', rfl, e⟩ | ⟨x', t', rfl, e⟩
        · injection e with e1; rw [e1]
        · cases e
      · rcases isIS_shape hj with ⟨n', t', rfl, e⟩ | ⟨x', t', rfl, e⟩
        · cases e
        · injection e with e1; rw [e1]
    simp [this]
  | false =>
    have : k ≠ j := fun e => by subst e; rw [hj] at q; cases q
    simp [this]
theorem isIS_any {h : Heap} {k : IS} : ∀ {ks : List IS} {vs : List Value}, Reps h (ks.map IS.v) vs → vs.any (isIS k) = decide (k ∈ ks)
  | [], _, e => by cases e; rfl
  | j :: ks, _, ⟨v, r, rfl, hv, hr⟩ => by
    rw [List.any_cons, isIS_any hr]
    have e : isIS k v = decide (k = j) := isIS_dec (isIS_rep hv)
    rw [e]
    by_cases q : k = j <;> simp [q]
theorem isIS_mem {h : Heap} : ∀ {ks : List IS} {vs : List Value}, Reps h (ks.map IS.v) vs → ∀ y ∈ vs, ∃ j, isIS j y = true
  | [], _, e, y, hy => by cases e; cases hy
  | j :: ks, _, ⟨v, r, rfl, hv, hr⟩, y, hy => by
    rcases List.mem_cons.mp hy with e | e
    · subst e; exact ⟨j, isIS_rep hv⟩
    · exact isIS_mem hr y e
theorem isIS_e {k : IS} {y vx : Value} {A : Around} {s : Shared} (hx : isIS k vx = true) (hy : ∃ j, isIS j y = true) : EqAt A s y vx (isIS k y) := by
  obtain ⟨j, hj⟩ := hy
  have e : isIS k y = decide (k = j) := isIS_dec hj
  rw [e]
  have := isIS_eqAt (A := A) (s := s) hj hx
  rwa [show decide (j = k) = decide (k = j) by simp [eq_comm]] at this
theorem c_in {a : Addr} {ks : List IS} {k : IS} (ha : Sees c H a (.list (ks.map IS.v))) (h : Q (.bool (decide (k ∈ ks))) m H) : Cmp c .In k.v (.ref a) m H Q := fun s va vb R ra rb => by
  cases (rb : vb = _)
  obtain ⟨i1, n1, l1, r1⟩ := O.list_get (ha m s R)
  refine .val R h fun P kk => in_listAt (isIS k) (IsL.isList l1) (fun y hy => isIS_e (isIS_rep ra) (isIS_mem r1 y (by simpa using hy))) (kk _ s.toks ?_)
  show _ = _
  rw [← isIS_any r1, Array.any_toList]
theorem c_notin {a : Addr} {ks : List IS} {k : IS} (ha : Sees c H a (.list (ks.map IS.v))) (h : Q (.bool (!decide (k ∈ ks))) m H) : Cmp c .NotIn k.v (.ref a) m H Q := fun s va vb R ra rb => by
  cases (rb : vb = _)
  obtain ⟨i1, n1, l1, r1⟩ := O.list_get (ha m s R)
  refine .val R h fun P kk => notIn_listAt (isIS k) (IsL.isList l1) (fun y hy => isIS_e (isIS_rep ra) (isIS_mem r1 y (by simpa using hy))) (kk _ s.toks ?_)
  show _ = _
  rw [← isIS_any r1, Array.any_toList]
theorem c_eqIS {k j : IS} (h : Q (.bool (decide (k = j))) m H) : Cmp c .Eq k.v j.v m H Q := fun s va vb R ra rb => by
  refine .val R h fun P kk => ?_
  cases k with
  | i a =>
    obtain ⟨t, rfl⟩ := ra
    cases j with
    | i b => obtain ⟨u, rfl⟩ := rb; exact PyProof.Rows.eq_int (kk _ s.toks (by show _ = _; by_cases q : a = b <;> simp [q]))
    | s b => obtain ⟨u, rfl⟩ := rb; exact cmp_ofEq (EqMixed.eq_int_str (kk _ s.toks rfl))
  | s a =>
    obtain ⟨t, rfl⟩ := ra
    cases j with
    | i b => obtain ⟨u, rfl⟩ := rb; exact cmp_ofEq (EqMixed.eq_str_int (kk _ s.toks rfl))
    | s b => obtain ⟨u, rfl⟩ := rb; exact PyProof.Rows.eq_str (kk _ s.toks (by show _ = _; by_cases q : a = b <;> simp [q]))
end
end Mine
end
section
open PySem PySem.W PyProof.Rows PySem.Calls PySem.SeqAt
set_option maxRecDepth 100000
namespace Mine
structure Cls (K : Frag) (C : Addr) : Prop where
  pg : findIn K (.ref C) "__getattribute__" = some (some (.builtin "object.__getattribute__"))
  pa : findIn K (.ref C) "__getattr__" = some .none
  hd : hasDictIn K C = true
  po : plainOver K C = true
  sa : findIn K (.ref C) "__setattr__" = some (some (.builtin "object.__setattr__"))
noncomputable def At.notBi : At → Bool
  | .bi _ => false
  | _ => true
noncomputable def V.notBi : V → Bool
  | .at x => x.notBi
  | _ => true
theorem handed_of {u : V} {h : Heap} {v : Value} (hu : u.notBi = true) (r : u.rep h v) : handedIn v = true := by
  cases u with
  | «at» x =>
    cases x with
    | bi n => simp [V.notBi, At.notBi] at hu
    | none => cases (r : v = _); rfl
    | bool b => cases (r : v = _); rfl
    | ty b => cases (r : v = _); rfl
    | ref b => cases (r : v = _); rfl
    | int i => obtain ⟨t, rfl⟩ := r; rfl
    | str i => obtain ⟨t, rfl⟩ := r; rfl
    | float i => obtain ⟨t, rfl⟩ := r; rfl
  | tup k xs => obtain ⟨a, items, rfl, _⟩ := r; rfl
theorem nodup_len : ∀ (l l' : List Str), l.Nodup → (∀ x ∈ l, x ∈ l') → l.length ≤ l'.length
  | [], _, _, _ => Nat.zero_le _
  | x :: l, l', nd, h => by
    obtain ⟨h1, h2⟩ := List.nodup_cons.mp nd
    have hx := h x List.mem_cons_self
    have := nodup_len l (l'.erase x) h2 fun y hy => (List.mem_erase_of_ne (a := y) (b := x) (fun e => h1 (by rw [← e]; exact hy))).mpr (h y (List.mem_cons_of_mem _ hy))
    rw [List.length_erase_of_mem hx] at this
    have : 0 < l'.length := List.length_pos_of_mem hx
    simp; lia
noncomputable def keyName : Value → Str
  | .str n _ => n
  | _ => Str.empty
theorem ns_size {h : Heap} {a : Addr} {mm : Str → Option Value} {fs : List (Str × V)} (hn : h.Ns1 a mm) (h1 : ∀ y, mm y = .none ↔ fs.lookup y = .none) : ∃ o es ep, h.get? a = some o ∧ o.data = .dict es ep ∧ es.size ≤ fs.length := by
  obtain ⟨o, es, ep, ho, hd, hk, hu, hf⟩ := hn
  refine ⟨o, es, ep, ho, hd, ?_⟩
  have key : ∀ e ∈ es.toList, e.key.isStr (keyName e.key) = true := fun e he => by
    obtain ⟨n, t, hkey⟩ := hk e (by simpa using he)
    rw [hkey]; show (n == n) = true; exact beq_self_eq_true n
  have := nodup_len (es.toList.map fun e => keyName e.key) (fs.map (·.1)) ?_ ?_
  · simpa using this
  · rw [List.nodup_iff_pairwise_ne]
    refine List.pairwise_map.mpr ?_
    refine List.Pairwise.imp_of_mem (fun {a b} ha hb q e => ?_) hu
    exact q (keyName a.key) (key a ha) (e ▸ key b hb)
  · intro x hx
    obtain ⟨e, he, rfl⟩ := List.mem_map.mp hx
    have hne : mm (keyName e.key) ≠ .none := by
      rw [← hf]
      unfold nsFind findBy
      rw [← Array.find?_toList]
      cases q : es.toList.find? (fun x => x.key.isStr (keyName e.key)) with
      | some y => simp
      | none => exact absurd (key e he) (by have := List.find?_eq_none.mp q e he; simpa using this)
    cases q : fs.lookup (keyName e.key) with
    | none => exact absurd ((h1 _).mpr q) hne
    | some u => exact List.mem_map.mpr ⟨_, mem_of_lookup q, rfl⟩
section
variable {c : Ctx} {m : Lo} {H : Hp} {pos : Pos} {Q : V → Lo → Hp → Prop} {K : Frag}
theorem inst_at {x C d : Addr} {fs : List (Str × V)} {s : Shared} (hx : (O.inst C d).rep c.prog c.w s.heap x) (hd : (O.ns fs).rep c.prog c.w s.heap d) : ∃ ox od mm, InstAt s.heap x ox C (some od) ∧ ox.dict = some d ∧ s.heap.get? d = some od ∧ s.heap.Ns1 d mm ∧ (∀ y, lookIn y od = some (mm y)) ∧ (∀ y, mm y = .none ↔ fs.lookup y = .none) ∧ ∀ y u, fs.lookup y = some u → ∃ v, mm y = some v ∧ u.rep s.heap v := by
  obtain ⟨ox, ho, hc, hdc, hp, _⟩ := hx
  obtain ⟨mm, hn, h1, h2⟩ := hd
  obtain ⟨od, es, ep, hod, hde, hk, huq, hf⟩ := id hn
  refine ⟨ox, od, mm, ⟨ho, hc, ?_, ?_⟩, hdc, hod, hn, ?_, h1, h2⟩
  · obtain ⟨a, b, dt, sl⟩ := ox; subst hp; rfl
  · rw [hdc]; exact hod
  · intro y
    unfold lookIn
    rw [hde]
    dsimp only
    rw [← hf y]
    unfold nsFind findBy
    rw [← Array.find?_toList]
    cases q : es.toList.find? (·.key.isStr y) with
    | some e => rfl
    | none =>
      have : es.toList.any (·.refKey) = false := by
        rw [List.any_eq_false]
        intro e he
        obtain ⟨n, t, hkey⟩ := hk e (by simpa using he)
        simp [DictEntry.refKey, hkey]
      simp [this]
noncomputable abbrev Attr (c : Ctx) (u : V) (name : Str) (m : Lo) (H : Hp) (Q : V → Lo → Hp → Prop) : Prop := On1 c u VR (fun v => getAttr v name true) m H Q
theorem e_attr {o : Expr} {name : Str} (h : WPe c o m H fun u m1 H1 => Attr c u name m1 H1 Q)
    (he : autoParam (eval (.Attribute o name pos) c.env = (do let v ← eval o c.env; standAt pos.atName; let r ← holding [v] (getAttr v name true); letTemporaryGo o v r; pure r)) auAll) : WPe c (.Attribute o name pos) m H Q :=
  fun s R P k => Attribute_any_ (h s R _ fun a va m1 H1 h1 tk1 R1 F1 r1 q1 => q1 _ va R1 r1 P fun v v' m3 H3 h3 tk3 R3 F3 r3 q3 => k v v' m3 H3 h3 tk3 R3 (F1.trans R1.hasL F3) r3 q3) he
theorem a_inst {x C d : Addr} {fs : List (Str × V)} {name : Str} {u : V} (B : Base c K) (hC : Cls K C) (hf : findIn K (.ref C) name = some .none) (hx : Sees c H x (.inst C d)) (hd : Sees c H d (.ns fs)) (hu : fs.lookup name = some u) (h : Q u m H) (hb : autoParam (u.notBi = true) auRfl) : Attr c (.ref x) name m H Q := fun s va R r => by
  cases (r : va = _)
  obtain ⟨ox, od, mm, I, hdd, hod, hn, hl, h1, h2⟩ := inst_at (hx m s R) (hd m s R)
  obtain ⟨v, hv, hr⟩ := h2 name u hu
  refine .val R h fun P k => get_value (B.kin _ R.keep) I hC.pg ?_ (handed_of hb hr) (k v _ hr)
  obtain ⟨cd, hc, hdd⟩ := any_some hC.hd
  unfold findObj
  rw [hc, Option.bind_some, hf, Option.bind_some]
  simp only [Option.bind_some]
  unfold W.ownOf
  rw [hdd, if_pos rfl]
  show (lookIn name od).bind _ = _
  rw [hl name, hv]; rfl
theorem gm_inst {x C d f : Addr} {fs : List (Str × V)} {name : Str} (B : Base c K) (hC : Cls K C) (hf : findIn K (.ref C) name = some (some (.ref f))) (hfn : typeIn K (.ref f) = some (.type "function")) (hx : Sees c H x (.inst C d)) (hd : Sees c H d (.ns fs)) (hu : fs.lookup name = .none) : GM c (.ref x) name (.ref f) [.ref x] H := fun m s vu pl P R r k => by
  cases (r : vu = _)
  obtain ⟨ox, od, mm, I, hdd, hod, hn, hl, h1, h2⟩ := inst_at (hx m s R) (hd m s R)
  refine method_fn (B.kin _ R.keep) I hC.pg hC.pa hf hfn ?_ (k _ _ s.toks rfl (.one rfl))
  show (lookIn name od).map _ = _
  rw [hl name, (h1 name).mpr hu]; rfl
theorem asg_attr {o : Expr} {name : Str} {v : V} {Q : Lo → Hp → Prop} (h : WPe c o m H fun u m1 H1 => On2 c u v UR (fun a b => setAttr a name b) m1 H1 fun _ => Q) : Asg c (.Attribute o name pos) v m H Q :=
  fun s va R r P k => kas_attr (h s R _ fun a vo m1 H1 h1 tk1 R1 F1 r1 q1 => q1 _ vo va R1 r1 (R.lift F1 r) _ fun b w m3 H3 h3 tk3 R3 F3 r3 q3 => k b w m3 H3 h3 tk3 R3 (F1.trans R1.hasL F3) r3 q3)
theorem set_inst {x C d : Addr} {fs : List (Str × V)} {H' : Hp} {name : Str} {v : V} {Q : Lo → Hp → Prop} (B : Base c K) (hC : Cls K C) (hf : findIn K (.ref C) name = some .none) (hx : Sees c H x (.inst C d)) (up : Upd d (.ns fs) (.ns ((name, v) :: fs)) H H') (h : Q m H') (hz : fs.length ≤ 1000 := by exact Nat.le_of_ble_eq_true rfl) : On2 c (.ref x) v UR (fun a b => setAttr a name b) m H fun _ => Q := fun s va vb R ra rb => by
  cases (ra : va = _)
  obtain ⟨ox, od, mm, I, hdd, hod, hn, hl, h1, h2⟩ := inst_at (hx m s R) (R.obj _ _ up.mem)
  have X := B.kin _ R.keep
  refine .upd R up (b := ()) h fun P k => set_plain X I hC.sa ?_
  refine osa_open (s := { s with toks := s.toks + 1 }) X I hC.po (r := .none) (by unfold takerIn; rw [hf]; rfl) fun b => ?_
  obtain ⟨cd, hc, hdc⟩ := any_some hC.hd
  have hox := I.at_
  have hcl := I.cls
  have hno := I.no
  obtain ⟨oc, odi, oda, osl⟩ := ox
  dsimp only at hcl hdd
  subst hcl hdd
  refine wpAny_bind (wpAny_pure (wpAny_bind (wpAny_bind (wpAny_loadPart hox (wpAny_bind (Looks.here (s := { s with toks := s.toks + 1 }) (looks_clsIn X hc) ?_))))))
  rw [hdc]
  refine wpAny_pure (a := some d) (wpAny_bind (wpAny_pure (wpAny_bind ?_)))
  refine wpAny_nsSet1 hn fun h' hn' hs' => ?_
  have g1 : ∀ y, (fun x => if x = name then some vb else mm x) y = .none ↔ ((name, v) :: fs).lookup y = .none := fun y => by
    rw [List.lookup_cons]
    cases q : y == name with
    | true => simp [beq_iff_eq.mp q]
    | false =>
      have : y ≠ name := fun e => by subst e; simp at q
      simp only [this, if_false]
      exact h1 y
  obtain ⟨o9, es9, ep9, ho9, hd9, hz9⟩ := ns_size hn' g1
  refine wpAny_bind (wpAny_lookBehind (s := { s with heap := h', toks := s.toks + 1 + 1 }) ho9 (by rw [hd9]; exact pastItsLine_dict (by rw [sizeLine_eq]; simp at hz9; exact ar2 2 (.l (.v 0) (.n 1000)) (.l (.v 1) (.a (.v 0) (.n 1))) (.l (.v 1) (.a (.n 16777216) (.n 1))) (by kernel_rfl) [_, _] hz hz9)) (wpAny_pure ?_))
  refine k () h' _ (Heap.SameBut.kp hs') (let ⟨o, _, _, ho, _⟩ := hn'; ⟨o, ho⟩) (fun F => ?_) trivial
  refine ⟨_, hn', g1, fun y u e => ?_⟩
  · rw [List.lookup_cons] at e
    cases q : y == name with
    | true => rw [q] at e; cases e; exact ⟨vb, if_pos (beq_iff_eq.mp q), R.lift F rb⟩
    | false =>
      rw [q] at e
      have : y ≠ name := fun e => by subst e; simp at q
      obtain ⟨w, hw, hr⟩ := h2 y u e
      exact ⟨w, (if_neg this).trans hw, R.lift F hr⟩
end
end Mine
end
section
open PySem PySem.W PyProof.Rows PySem.Calls PySem.SeqAt
set_option maxRecDepth 100000
namespace Mine
noncomputable def fdIn (K : Frag) (a : Addr) : FuncData := match K.lookup a with
  | some ⟨_, _, .func fd, _⟩ => fd
  | _ => default
noncomputable def bodyIn (fd : FuncData) : List Stmt := match fd.body with
  | .stmts b => b
  | _ => []
noncomputable def fnOkB (K : Frag) (a : Addr) : Bool := match K.lookup a with
  | some ⟨_, _, .func fd, _⟩ => codeIn K fd.code fd.qualname && fd.closure.isEmpty && (match fd.scope.kind with | .function => true | _ => false) && !fd.scope.isCoroutine && !fd.scope.isGenerator && (fd.globals == mainGlobals) && (fd.builtins == builtinsNs) && (match fd.body with | .stmts _ => true | _ => false) && keepIn K (.ref a)
  | _ => false
noncomputable def distinctB : List Str → Bool
  | [] => true
  | x :: l => !l.contains x && distinctB l
theorem distinctB_nodup : ∀ {l : List Str}, distinctB l = true → l.Nodup
  | [], _ => List.nodup_nil
  | x :: l, h => by
    unfold distinctB at h
    simp only [Bool.and_eq_true, Bool.not_eq_true'] at h
    exact List.nodup_cons.mpr ⟨by simpa using h.1, distinctB_nodup h.2⟩
structure FnOk (K : Frag) (fa : Addr) (fd : FuncData) : Prop where
  look : ∃ o, K.lookup fa = some o ∧ o.data = .func fd
  code : codeIn K fd.code fd.qualname = true
  clo : fd.closure = []
  kind : fd.scope.kind = .function
  co : fd.scope.isCoroutine = false
  gen : fd.scope.isGenerator = false
  glob : fd.globals = mainGlobals
  bui : fd.builtins = builtinsNs
  body : fd.body = .stmts (bodyIn fd)
  keep : keepIn K (.ref fa) = true
theorem fnOk_of {K : Frag} {a : Addr} (h : fnOkB K a = true) : FnOk K a (fdIn K a) := by
  unfold fnOkB at h
  split at h
  · rename_i oc od fd osl q
    simp only [Bool.and_eq_true, Bool.not_eq_true'] at h
    obtain ⟨⟨⟨⟨⟨⟨⟨⟨h1, h2⟩, h3⟩, h4⟩, h5⟩, h6⟩, h7⟩, h8⟩, h9⟩ := h
    have e : fdIn K a = fd := by unfold fdIn; rw [q]
    rw [e]
    refine ⟨⟨_, q, rfl⟩, h1, by simpa using h2, ?_, h4, h5, by simpa using h6, by simpa using h7, ?_, h9⟩
    · split at h3
      · assumption
      · cases h3
    · unfold bodyIn
      split at h8
      · rename_i b hb; rw [hb]
      · cases h8
  · cases h
theorem cellsFrom_look : ∀ {names : List (Str × NameKind)} {n : Nat} {acc : List (Str × Addr)}, (names.map (·.1)).Nodup → (∀ x ∈ acc, x.1 ∉ names.map (·.1)) → (∀ x ∈ acc, acc.lookup x.1 = some x.2) → ∀ x ∈ cellsFrom n names acc, (cellsFrom n names acc).lookup x.1 = some x.2
  | [], n, acc, nd, hx, h => h
  | (nm, k) :: r, n, acc, nd, hx, h => by
    obtain ⟨n1, n2⟩ := List.nodup_cons.mp nd
    unfold cellsFrom
    split
    · refine cellsFrom_look n2 (fun y hy q => ?_) (fun y hy => ?_)
      · rcases List.mem_cons.mp hy with e | e
        · subst e; exact n1 q
        · exact hx y e (by simp only [List.map_cons]; exact List.mem_cons_of_mem _ q)
      · rcases List.mem_cons.mp hy with e | e
        · subst e; simp [List.lookup]
        · rw [List.lookup_cons]
          have : (y.1 == nm) = false := by
            have : y.1 ≠ nm := fun q => hx y e (by rw [q]; simp)
            simpa using this
          rw [this]; exact h y e
    · exact cellsFrom_look n2 (fun y hy q => hx y hy (by simp only [List.map_cons]; exact List.mem_cons_of_mem _ q)) h
theorem cellsFrom_some : ∀ {names : List (Str × NameKind)} {n : Nat} {acc : List (Str × Addr)} {x : Str}, (names.lookup x = some .cell ∨ (acc.lookup x).isSome = true) → ((cellsFrom n names acc).lookup x).isSome = true
  | [], n, acc, x, h => by
    rcases h with h | h
    · cases h
    · exact h
  | (nm, k) :: r, n, acc, x, h => by
    unfold cellsFrom
    rw [List.lookup_cons] at h
    cases q : x == nm with
    | true =>
      rw [q] at h
      split
      · exact cellsFrom_some (.inr (by rw [List.lookup_cons, q]; rfl))
      · rename_i hk
        rcases h with h | h
        · cases h; exact absurd rfl hk
        · exact cellsFrom_some (.inr h)
    | false =>
      rw [q] at h
      split
      · exact cellsFrom_some (h.imp id fun h => by rw [List.lookup_cons, q]; exact h)
      · exact cellsFrom_some h
noncomputable def kindsB (names : List (Str × NameKind)) (ps : List Str) : Bool := ps.all fun x => match names.lookup x with
  | some .local => true
  | some .cell => true
  | _ => false
section
variable {c : Ctx} {m : Lo} {H : Hp} {pos : Pos} {Q : V → Lo → Hp → Prop} {K : Frag}
theorem cal_K {fa : Addr} {fd : FuncData} {vs : List V} {bs : List (Str × V)} {k : Nat} (B : Base c K) (hfu : c.fuel = k + 1) (f : FnOk K fa fd) (hnd : distinctB (fd.scope.names.map (·.1)) = true) (hks : kindsB fd.scope.names (bs.map (·.1)) = true)
    (hbind : ∀ s vvs, K.In s.heap → Reps s.heap vs vvs → ∃ binds, BindsTo s fd ⟨vvs, []⟩ binds ∧ BRep s.heap bs binds)
    (h : ∀ L c2, Called c fd L c2 → c2.fuel = k → Base c2 K → WPs c2 (bodyIn fd) (locOf fd.scope.names bs) (cellsAt L fd bs ++ H) fun f _ H' => Q f.val m H') : CalC c (.ref fa) vs m H Q := by
  obtain ⟨o, hf, hd⟩ := f.look
  refine cal_fn (bs := bs) hfu (fun h hh => ⟨o, B.kin h hh _ _ hf, hd⟩) (fun h hh => codeRec_of (B.kin h hh) f.code) B.lim f.body f.clo f.kind f.co f.gen (fun m H s vvs R r => hbind s vvs (B.kin _ R.keep) r) ?_
    (fun n => cellsFrom_look (distinctB_nodup hnd) (fun _ q => by cases q) (fun _ q => by cases q)) (fun L => h L _ (c.called fd fa L k hfu f.kind) rfl (B.enter f.glob f.bui))
  intro n x hx
  have := List.all_eq_true.mp hks x.1 (List.mem_map.mpr ⟨x, hx, rfl⟩)
  split at this
  · exact .inl ‹_›
  · exact .inr ⟨‹_›, cellsFrom_some (.inl ‹_›)⟩
  · cases this
theorem binds_plain {fd : FuncData} {vs : List V} {ps : List Str} (hps : ps.length = vs.length) (h : ∀ vvs : List Value, vvs.length = vs.length → bindArgs fd ⟨vvs, []⟩ = pure (ps.zip vvs)) (s : Shared) (vvs : List Value) (X : K.In s.heap) (r : Reps s.heap vs vvs) :
    ∃ binds, BindsTo s fd ⟨vvs, []⟩ binds ∧ BRep s.heap (ps.zip vs) binds := by
  refine ⟨ps.zip vvs, .of_eq (h vvs r.length), ?_, ?_⟩
  · have := r.length
    rw [List.map_fst_zip (by exact ar2 3 (.e (.v 0) (.v 1)) (.e (.v 2) (.v 1)) (.l (.v 0) (.v 2)) (by kernel_rfl) [_, _, _] hps this), List.map_fst_zip (by exact ar1 2 (.e (.v 0) (.v 1)) (.l (.v 0) (.v 1)) (by kernel_rfl) [_, _] hps)]
  · have := r.length
    rw [List.map_snd_zip (by exact ar1 2 (.e (.v 0) (.v 1)) (.l (.v 1) (.v 0)) (by kernel_rfl) [_, _] hps), List.map_snd_zip (by exact ar2 3 (.e (.v 0) (.v 1)) (.e (.v 2) (.v 1)) (.l (.v 2) (.v 0)) (by kernel_rfl) [_, _, _] hps this)]
    exact r
structure Made (c c2 : Ctx) : Prop where
  env : c2.env = c.env
  G : c2.G = c.G
  fuel : c.fuel = c2.fuel + 1
  prog : c2.prog = c.prog
  w : c2.w = c.w
theorem Made.rel {c c2 : Ctx} (h : Made c c2) {st : St} {s : Shared} : Rel c st s ↔ Rel c2 st s := by
  obtain ⟨e1, e2, e3, e4, e5⟩ := h
  constructor
  · intro R
    exact ⟨by rw [e1]; exact R.loc, by rw [e4, e5]; exact R.obj, R.nd, by rw [e1, e2]; exact R.apart, by rw [e2]; exact R.keep, by rw [e1, e2]; exact R.gl⟩
  · intro R
    exact ⟨by rw [← e1]; exact R.loc, by rw [← e4, ← e5]; exact R.obj, R.nd, by rw [← e1, ← e2]; exact R.apart, by rw [← e2]; exact R.keep, by rw [← e1, ← e2]; exact R.gl⟩
theorem Made.base {c c2 : Ctx} (h : Made c c2) (B : Base c K) : Base c2 K :=
  ⟨fun hp hh => B.kin hp (by rw [← h.G]; exact hh), B.glo.imp fun _ k hp hh => k hp (by rw [← h.G]; exact hh), B.bui.imp fun _ k => ⟨fun hp hh => k.1 hp (by rw [← h.G]; exact hh), k.2⟩, fun hp hh => B.lim hp (by rw [← h.G]; exact hh), by rw [h.env]; exact B.g, by rw [h.env]; exact B.b⟩
theorem cal_class {C fI : Addr} {vs : List V} {k : Nat} (B : Base c K) (hfu : c.fuel = k + 1) (hm : makesIn K C = true) (hi : findIn K (.ref C) "__init__" = some (some (.ref fI))) (hf : typeIn K (.ref fI) = some (.type "function"))
    (h : ∀ c2 x d, Made c c2 → c2.fuel = k → Base c2 K → CalC c2 (.ref fI) (.ref x :: vs) m ((x, .inst C d) :: (d, .ns []) :: H) fun v m' H' => v = .none ∧ Q (.ref x) m' H') : CalC c (.ref C) vs m H Q := fun s vf vvs R rf rv P kont => by
  cases (rf : vf = _)
  have X := B.kin _ R.keep
  obtain ⟨hp, g, d, t, os⟩ := s
  have dep : (c.A.under (.builtin "type.__call__" ⟨.ref C :: vvs, []⟩)).depth = c.A.depth + 1 := rfl
  have uni : (c.A.under (.builtin "type.__call__" ⟨.ref C :: vvs, []⟩)).units = c.A.units + 1 := rfl
  let c2 : Ctx := ⟨c.prog, c.w, c.A.under (.builtin "type.__call__" ⟨.ref C :: vvs, []⟩), c.env, c.G, k, c.hh, (by have := c.hd; rw [hfu] at this; rw [dep]; exact ar1 3 (.t (.a (.v 0) (.a (.v 1) (.n 1))) (.v 2)) (.t (.a (.a (.v 0) (.n 1)) (.v 1)) (.v 2)) (by kernel_rfl) [_, _, _] this), (by have := c.hu; rw [hfu] at this; rw [uni]; exact ar1 3 (.t (.a (.a (.v 0) (.m 40 (.a (.v 1) (.n 1)))) (.n 400)) (.v 2)) (.t (.a (.a (.a (.v 0) (.n 1)) (.m 40 (.v 1))) (.n 400)) (.v 2)) (by kernel_rfl) [_, _, _] this), c.hk⟩
  have M : Made c c2 := ⟨rfl, rfl, hfu, rfl, rfl⟩
  have g1 : ∀ b o, hp.get? b = some o → (hp.push emptyDict).get? b = some o := push_grow
  have R1 : Rel c ⟨m, (hp.objs.size, .ns []) :: H⟩ ⟨hp.push emptyDict, g, d, t, os⟩ := R.new (s := ⟨hp, g, d, t, os⟩) ⟨t, d⟩ g1 (get_size hp) ⟨_, Heap.Ns1.of_empty (Heap.Ns.new hp _), fun _ => ⟨fun _ => rfl, fun _ => rfl⟩, fun _ _ e => by cases e⟩
  have e1 : (hp.push emptyDict).objs.size = hp.objs.size + 1 := by simp
  have R2 : Rel c ⟨m, (hp.objs.size + 1, .inst C hp.objs.size) :: (hp.objs.size, .ns []) :: H⟩ ⟨(hp.push emptyDict).push (instObj C hp.objs.size), g, d, t, os⟩ := by
    have := R1.new (s := ⟨hp.push emptyDict, g, d, t, os⟩) (a := (hp.push emptyDict).objs.size) (o := .inst C hp.objs.size) ⟨t, d⟩ (push_grow (o := instObj C hp.objs.size)) (get_size _) ⟨_, Heap.get?_push_size _ rfl, rfl, rfl, rfl, rfl⟩
    rwa [e1] at this
  have F0 : Fp c.env.locals H ((hp.objs.size + 1, .inst C hp.objs.size) :: (hp.objs.size, .ns []) :: H) hp ((hp.push emptyDict).push (instObj C hp.objs.size)) := by
    have a := Fp.new (L := c.env.locals) (H := H) (o := .ns []) g1 (get_size hp)
    have b := Fp.new (L := c.env.locals) (H := (hp.objs.size, O.ns []) :: H) (a := (hp.push emptyDict).objs.size) (o := .inst C hp.objs.size) (push_grow (h := hp.push emptyDict) (o := instObj C hp.objs.size)) (get_size _)
    rw [e1] at b
    exact a.trans R1.hasL b
  refine (make_core (makes_of X hm) (looks_findIn X hi) (fun self => bind_fn X self hf) (.inl rfl) ?_)
  have main := h c2 (hp.objs.size + 1) hp.objs.size M rfl (M.base B) _ _ _ (M.rel.mp R2) rfl (.cons rfl (R.liftL F0 rv)) (fun v s' => v = .none ∧ P (.ref (hp.objs.size + 1)) s') (fun b v m' H' h' tk' R' F' r' q' => ?_)
  · refine codeAny_mono main fun r s' q => ?_
    cases r with
    | ok f => cases f <;> first | exact q | exact q.elim
    | error e => exact q.elim
  · obtain ⟨rfl, q⟩ := q'
    cases (r' : v = _)
    exact ⟨rfl, kont (.ref (hp.objs.size + 1)) _ m' H' h' tk' (M.rel.mpr R') (F0.trans R2.hasL F') rfl q⟩
end
end Mine
end
section
open PySem PySem.W PyProof.Rows PySem.Calls PySem.SeqAt
set_option maxRecDepth 100000
namespace Mine
noncomputable def dictAt (es : List (IS × V)) (k : IS) : Option V := (es.find? fun e => decide (e.1 = k)).map (·.2)
noncomputable def dictDel (es : List (IS × V)) (k : IS) : List (IS × V) := es.filter fun e => decide (e.1 ≠ k)
noncomputable def dictPut (es : List (IS × V)) (k : IS) (v : V) : List (IS × V) := if es.any (fun e => decide (e.1 = k)) then es.map (fun e => if e.1 = k then (e.1, v) else e) else es ++ [(k, v)]
noncomputable def PairsR (h : Heap) (kvs : List (IS × Value)) (es : List (IS × V)) : Prop := kvs.map (·.1) = es.map (·.1) ∧ Reps h (es.map (·.2)) (kvs.map (·.2))
theorem PairsR.cons {h : Heap} {k : IS} {u : V} {es : List (IS × V)} {kvs : List (IS × Value)} (b : PairsR h kvs ((k, u) :: es)) : ∃ v r, kvs = (k, v) :: r ∧ u.rep h v ∧ PairsR h r es := by
  obtain ⟨h1, h2⟩ := b
  cases kvs with
  | nil => simp at h1
  | cons p r =>
    obtain ⟨y, v⟩ := p
    simp only [List.map_cons, List.cons.injEq] at h1
    obtain ⟨w, r', e, hv, hr⟩ := h2
    simp only [List.map_cons, List.cons.injEq] at e
    obtain ⟨rfl, rfl⟩ := e
    obtain ⟨rfl, h1⟩ := h1
    exact ⟨v, r, rfl, hv, h1, hr⟩
theorem PairsR.mk {h : Heap} {k : IS} {u : V} {v : Value} {es : List (IS × V)} {kvs : List (IS × Value)} (hv : u.rep h v) (r : PairsR h kvs es) : PairsR h ((k, v) :: kvs) ((k, u) :: es) := ⟨by simp [r.1], ⟨v, _, rfl, hv, r.2⟩⟩
theorem PairsR.nil {h : Heap} {kvs : List (IS × Value)} (b : PairsR h kvs []) : kvs = [] := by have := b.1; simpa using this
theorem PairsR.length {h : Heap} {kvs : List (IS × Value)} {es : List (IS × V)} (b : PairsR h kvs es) : kvs.length = es.length := by have := congrArg List.length b.1; simpa using this
theorem PairsR.at {h : Heap} {k : IS} : ∀ {es : List (IS × V)} {kvs : List (IS × Value)}, PairsR h kvs es → (dictAt es k = .none ↔ valueAt kvs k = .none) ∧ ∀ u, dictAt es k = some u → ∃ v, valueAt kvs k = some v ∧ u.rep h v
  | [], kvs, b => by cases b.nil; exact ⟨⟨fun _ => rfl, fun _ => rfl⟩, fun _ e => by cases e⟩
  | (j, u) :: es, _, b => by
    obtain ⟨v, r, rfl, hv, hr⟩ := b.cons
    have ih := PairsR.at (k := k) hr
    unfold dictAt valueAt at *
    rw [List.find?_cons, List.find?_cons]
    by_cases q : j = k
    · simp only [q, decide_true, Option.map_some]
      exact ⟨⟨fun e => (by cases e), fun e => (by cases e)⟩, fun w e => (by cases e; exact ⟨v, rfl, hv⟩)⟩
    · simp only [q, decide_false]
      exact ih
theorem PairsR.del {h : Heap} {k : IS} : ∀ {es : List (IS × V)} {kvs : List (IS × Value)}, PairsR h kvs es → PairsR h (without kvs k) (dictDel es k)
  | [], kvs, b => by cases b.nil; exact b
  | (j, u) :: es, _, b => by
    obtain ⟨v, r, rfl, hv, hr⟩ := b.cons
    have ih := PairsR.del (k := k) hr
    unfold dictDel without at *
    rw [List.filter_cons, List.filter_cons]
    by_cases q : j = k
    · simpa [q] using ih
    · simpa [q] using PairsR.mk hv ih
theorem PairsR.snoc {h : Heap} {k : IS} {u : V} {v : Value} (hv : u.rep h v) : ∀ {es : List (IS × V)} {kvs : List (IS × Value)}, PairsR h kvs es → PairsR h (kvs ++ [(k, v)]) (es ++ [(k, u)])
  | [], kvs, b => by cases b.nil; exact PairsR.mk hv b
  | (j, w) :: es, _, b => by
    obtain ⟨x, r, rfl, hx, hr⟩ := b.cons
    exact PairsR.mk hx (PairsR.snoc hv hr)
theorem PairsR.any {h : Heap} {k : IS} : ∀ {es : List (IS × V)} {kvs : List (IS × Value)}, PairsR h kvs es → kvs.any (fun e => decide (e.1 = k)) = es.any (fun e => decide (e.1 = k))
  | [], kvs, b => by cases b.nil; rfl
  | (j, w) :: es, _, b => by
    obtain ⟨x, r, rfl, hx, hr⟩ := b.cons
    rw [List.any_cons, List.any_cons, PairsR.any hr]
theorem PairsR.over {h : Heap} {k : IS} {u : V} {v : Value} (hv : u.rep h v) : ∀ {es : List (IS × V)} {kvs : List (IS × Value)}, PairsR h kvs es → PairsR h (kvs.map fun e => if e.1 = k then (e.1, v) else e) (es.map fun e => if e.1 = k then (e.1, u) else e)
  | [], kvs, b => by cases b.nil; exact b
  | (j, w) :: es, _, b => by
    obtain ⟨x, r, rfl, hx, hr⟩ := b.cons
    have ih := PairsR.over (k := k) hv hr
    rw [List.map_cons, List.map_cons]
    by_cases q : j = k
    · simpa [q] using PairsR.mk hv ih
    · simpa [q] using PairsR.mk hx ih
theorem PairsR.put {h : Heap} {k : IS} {u : V} {v : Value} (hv : u.rep h v) {es : List (IS × V)} {kvs : List (IS × Value)} (b : PairsR h kvs es) : PairsR h (stored kvs k v) (dictPut es k u) := by
  unfold stored dictPut
  rw [b.any]
  split
  · exact b.over hv
  · exact b.snoc hv
theorem dictAt_none {es : List (IS × V)} {k : IS} (h : dictAt es k = .none) : es.any (fun e => decide (e.1 = k)) = false := by
  unfold dictAt at h
  rw [Option.map_eq_none_iff, List.find?_eq_none] at h
  rw [List.any_eq_false]
  exact h
section
variable {c : Ctx} {m : Lo} {H : Hp} {pos : Pos} {Q : V → Lo → Hp → Prop} {K : Frag}
theorem dict_get {d : Addr} {ep : Nat} {es : List (IS × V)} {s : Shared} (r : (O.dict ep es).rep c.prog c.w s.heap d) : (d == sysModules) = false ∧ ∃ kvs, s.heap.DictAt (mixKind c.prog c.w) d kvs ep ∧ s.heap.DictOf (mixKind c.prog c.w) d kvs ∧ PairsR s.heap kvs es := by
  obtain ⟨h0, kvs, hm, h1, h2⟩ := r
  exact ⟨h0, kvs, hm, hm.dictOf, h1, h2⟩
theorem e_dict (B : Base c K) (h : ∀ a, Q (.ref a) m ((a, .dict 0 []) :: H)) : WPe c (.Dict [] [] pos) m H Q := fun s R => by
  refine .new R (o := .dict 0 []) (b := fun a => .ref a) h fun P k => wpAny_Dict_empty (k _ _ _ s.toks push_grow (get_size _) ⟨?_, [], ?_, rfl, rfl⟩ rfl)
  · obtain ⟨mg, hg⟩ := B.glo
    obtain ⟨o, es, ep, ho, _⟩ := hg _ R.keep
    have := Heap.lt_size ho
    have e : mainGlobals = 3 := rfl
    rw [e] at this
    have h1 : s.heap.objs.size ≠ 1 := fun q => by rw [q] at this; exact absurd this (by decide)
    simpa [sysModules] using h1
  · exact ⟨_, #[], Heap.get?_push_size _ rfl, ⟨rfl, rfl, rfl⟩, rfl, (by intro e he; simp at he), .nil, (by simp)⟩
theorem gm_dict {a : Addr} {ep : Nat} {es : List (IS × V)} {name : Str} {id : String} (hx : Sees c H a (.dict ep es)) (slot : Slot "dict" name id) (hty : typeOf (.builtin id) = pure (.type "method_descriptor")) : GM c (.ref a) name (.bi id) [.ref a] H := fun m s vu pl P R r k => by
  cases (r : vu = _)
  obtain ⟨_, kvs, ha, hd, _⟩ := dict_get (hx m s R)
  obtain ⟨o, des, ho, hex, _⟩ := ha
  exact getMethod_builtin hd.typeIs F.plainAttrs_dict slot hty (fun b e => by cases e; exact ⟨_, ho, hex.2.1⟩) (k _ _ s.toks rfl (.one rfl))
theorem k_dict_turn {d : Addr} {ep : Nat} {es es' : List (IS × V)} {F : O → Hp} {t : Sem Value} {s : Shared} {u : V} {v : Value} (R : Rel c ⟨m, H⟩ s) (sp : Spot d (.dict ep es) H F) (h : ∀ ep', Q u m (F (.dict ep' es'))) (hv : u.rep s.heap v)
    (hw : ∀ P : Value → Shared → Prop, (∀ h' tk kvs', h'.DictOf (mixKind c.prog c.w) d kvs' → (∀ h, (∀ u v, V.rep s.heap u v → V.rep h u v) → PairsR h kvs' es') → Heap.SameBut d s.heap h' → P v { s with heap := h', toks := tk }) → c.wp t P s) : Run c H s VR t Q := fun P k => by
  refine hw P fun h' tk kvs' hd hr hs => ?_
  obtain ⟨ep', ha⟩ := hd.dictAt
  have al : ∃ o, h'.get? d = some o := let ⟨o, _, ho, _⟩ := ha; ⟨o, ho⟩
  have Fp' : Fp c.env.locals H (F (.dict ep' es')) s.heap h' := .upd (sp.upd _) (Heap.SameBut.kp hs) al
  refine k u v m (F (.dict ep' es')) h' (tkn s tk) (R.upd (tkn s tk) (sp.upd _) (Heap.SameBut.kp hs) al fun _ => ?_) Fp' (R.lift Fp' hv) (h ep')
  obtain ⟨h0, _⟩ := dict_get (R.obj _ _ (sp.upd (.dict 0 [])).mem)
  exact ⟨h0, kvs', ha, (hr h' fun u v r => R.lift Fp' r)⟩
theorem PairsR.lift {h h' : Heap} {kvs : List (IS × Value)} {es : List (IS × V)} (b : PairsR h kvs es) (l : ∀ u v, V.rep h u v → V.rep h' u v) : PairsR h' kvs es := by
  refine ⟨b.1, ?_⟩
  have : ∀ (us : List V) (vs : List Value), Reps h us vs → Reps h' us vs := by
    intro us
    induction us with
    | nil => intro vs r; exact r
    | cons u us ih => rintro vs ⟨v, r, e, hv, hr⟩; exact ⟨v, r, e, l u v hv, ih r hr⟩
  exact this _ _ b.2
theorem k_setdefault_new {d : Addr} {ep : Nat} {es : List (IS × V)} {k : IS} {u : V} {F : O → Hp} (sp : Spot d (.dict ep es) H F) (hn : dictAt es k = .none) (h : ∀ ep', Q u m (F (.dict ep' (es ++ [(k, u)])))) (hz : es.length ≤ 1000000) : Cal c (.bi "dict.setdefault") [.ref d, k.v, u] m H Q := fun s vf vvs R rf rv => by
  cases (rf : vf = _)
  obtain ⟨va, rest, rfl, ra, rr⟩ := rv
  obtain ⟨vk, vu, rfl, rk, ru⟩ := Reps.two rr
  cases (ra : va = _)
  obtain ⟨h0, kvs, ha, hd, hp⟩ := dict_get (R.obj _ _ (sp.upd (.dict 0 [])).mem)
  refine k_dict_turn R sp h ru fun P kk => call_meetsIn PySem.F.slot_dict_setdefault hd.typeIs PySem.F.entry_dict_setdefault (PySem.F.args_dict_setdefault_3 _ _ _) (kt_meets_setdefault (mixKind c.prog c.w) d (isIS_rep rk) h0 vu)
    ⟨kvs, hd, by rw [hp.length]; have : sizeLine = 16777216 := rfl; exact ar2 2 (.l (.v 0) (.n 1000000)) (.e (.v 1) (.n 16777216)) (.l (.v 0) (.v 1)) (by kernel_rfl) [_, _] hz this, fun v e => ?_, fun _ h' hd' hs' => kk h' _ _ hd' (fun h l => ?_) hs'⟩
  · rw [(hp.at.1.mp hn)] at e; cases e
  · have e : dictPut es k u = es ++ [(k, u)] := by unfold dictPut; rw [dictAt_none hn]; rfl
    exact e ▸ (hp.lift l).put (l _ _ ru)
theorem k_setdefault_old {d : Addr} {ep : Nat} {es : List (IS × V)} {k : IS} {u w : V} (hx : Sees c H d (.dict ep es)) (hn : dictAt es k = some w) (h : Q w m H) (hz : es.length ≤ 1000000) : Cal c (.bi "dict.setdefault") [.ref d, k.v, u] m H Q := fun s vf vvs R rf rv => by
  cases (rf : vf = _)
  obtain ⟨va, rest, rfl, ra, rr⟩ := rv
  obtain ⟨vk, vu, rfl, rk, ru⟩ := Reps.two rr
  cases (ra : va = _)
  obtain ⟨h0, kvs, ha, hd, hp⟩ := dict_get (hx m s R)
  obtain ⟨v, hv, hr⟩ := hp.at.2 w hn
  refine .val R h fun P kk => call_meetsIn PySem.F.slot_dict_setdefault hd.typeIs PySem.F.entry_dict_setdefault (PySem.F.args_dict_setdefault_3 _ _ _) (kt_meets_setdefault (mixKind c.prog c.w) d (isIS_rep rk) h0 vu)
    ⟨kvs, hd, by rw [hp.length]; have : sizeLine = 16777216 := rfl; exact ar2 2 (.l (.v 0) (.n 1000000)) (.e (.v 1) (.n 16777216)) (.l (.v 0) (.v 1)) (by kernel_rfl) [_, _] hz this, fun v' e => ?_, fun e => ?_⟩
  · rw [hv] at e; cases e; exact kk _ _ hr
  · rw [hv] at e; cases e
theorem k_get {d : Addr} {ep : Nat} {es : List (IS × V)} {k : IS} {u : V} (hx : Sees c H d (.dict ep es)) (h : Q ((dictAt es k).getD u) m H) : Cal c (.bi "dict.get") [.ref d, k.v, u] m H Q := fun s vf vvs R rf rv => by
  cases (rf : vf = _)
  obtain ⟨va, rest, rfl, ra, rr⟩ := rv
  obtain ⟨vk, vu, rfl, rk, ru⟩ := Reps.two rr
  cases (ra : va = _)
  obtain ⟨h0, kvs, ha, hd, hp⟩ := dict_get (hx m s R)
  refine .val R h fun P kk => call_meetsIn PySem.F.slot_dict_get hd.typeIs PySem.F.entry_dict_get (PySem.F.args_dict_get_3 _ _ _) (meets_dict_get_default (mixKind c.prog c.w) d (isIS_rep rk) h0 vu) ⟨_, hd.mapOf, kk _ _ ?_⟩
  cases q : dictAt es k with
  | none => rw [hp.at.1.mp q]; exact ru
  | some w => obtain ⟨v, hv, hr⟩ := hp.at.2 w q; rw [hv]; exact hr
theorem sub_dict {v i : Expr} {d : Addr} {ep : Nat} {es : List (IS × V)} {k : IS} {u : V} (hx : Sees c H d (.dict ep es)) (hu : dictAt es k = some u) (h : Q u m H)
    (hs : ∀ o vk, subscripted i false (.ref o) vk = operate [.ref o, vk] (getItem (.ref o) vk) := by intro _ _; with_unfolding_all rfl) : Sub c v i (.ref d) k.v m H Q := fun s va vb R ra rb => by
  cases (ra : va = _)
  obtain ⟨h0, kvs, ha, hd, hp⟩ := dict_get (hx m s R)
  obtain ⟨w, hw, hr⟩ := hp.at.2 u hu
  refine .val R h fun P kk => tail_any hd.typeIs PySem.F.slot_dict_getitem.lookup (wpAny_getItem_of (isIS_rep rb) hd.mapOf hw (kk _ _ hr)) (hs _ _)
theorem del_dict {d : Addr} {ep : Nat} {es : List (IS × V)} {k : IS} {u : V} {F : O → Hp} {Q : Lo → Hp → Prop} (sp : Spot d (.dict ep es) H F) (hu : dictAt es k = some u) (h : ∀ ep', Q m (F (.dict ep' (dictDel es k)))) (hz : es.length ≤ 1000000) : On2 c (.ref d) k.v UR delItem m H fun _ => Q := fun s va vb R ra rb P kk => by
  cases (ra : va = _)
  obtain ⟨h0, kvs, ha, hd, hp⟩ := dict_get (R.obj _ _ (sp.upd (.dict 0 [])).mem)
  obtain ⟨w, hw, hr⟩ := hp.at.2 u hu
  unfold delItem
  refine wpAny_holding ?_
  refine wpAny_bind (wpAny_sequenceKey hd.typeIs (by decide) ?_)
  refine wpAny_bind (wpAny_callSpecial?_slot (name := Str.ofString "__delitem__") hd.typeIs PySem.F.slot_dict_delitem
    (call_meetsIn PySem.F.slot_dict_delitem hd.typeIs PySem.F.entry_dict_delitem (PySem.F.args_dict_delitem_2 _ _) (meets_dict_delitem_pairs (mixKind c.prog c.w) d (isIS_rep rb)) ⟨kvs, hd, by rw [hp.length]; have : sizeLine = 16777216 := rfl; exact ar2 2 (.l (.v 0) (.n 1000000)) (.e (.v 1) (.n 16777216)) (.l (.v 0) (.v 1)) (by kernel_rfl) [_, _] hz this, by rw [hw]; rfl, fun h' hd' hs' => ?_⟩))
  obtain ⟨ep', ha'⟩ := hd'.dictAt
  have al : ∃ o, h'.get? d = some o := let ⟨o, _, ho, _⟩ := ha'; ⟨o, ho⟩
  have Fp' : Fp c.env.locals H (F (.dict ep' (dictDel es k))) s.heap h' := .upd (sp.upd _) (Heap.SameBut.kp hs') al
  exact wpAny_pure (kk () () m _ h' (tkn s (s.toks + 1)) (R.upd _ (sp.upd _) (Heap.SameBut.kp hs') al (o' := .dict ep' (dictDel es k)) fun _ => ⟨h0, _, ha', (hp.lift fun u v r => R.lift Fp' r).del⟩) Fp' trivial (h ep'))
end
end Mine
end
section
open PySem PySem.W PyProof.Rows PySem.Calls PySem.SeqAt
set_option maxRecDepth 100000
namespace Mine
noncomputable def IS.a : IS → At
  | .i n => .int n
  | .s x => .str x
theorem IS.v_a (k : IS) : k.v = .at k.a := by cases k <;> rfl
section
variable {c : Ctx} {m : Lo} {H : Hp} {pos : Pos} {K : Frag}
theorem PairsR.get {h : Heap} : ∀ {es : List (IS × V)} {kvs : List (IS × Value)} {i : Nat} {e : IS × V}, PairsR h kvs es → es[i]? = some e → ∃ v, kvs[i]? = some (e.1, v) ∧ e.2.rep h v
  | [], _, _, _, _, e => by simp at e
  | (k, u) :: es, _, i, e, b, q => by
    obtain ⟨v, r, rfl, hv, hr⟩ := b.cons
    cases i with
    | zero => simp at q; subst q; exact ⟨v, rfl, hv⟩
    | succ i => simp at q; obtain ⟨v', h1, h2⟩ := PairsR.get hr q; exact ⟨v', by simpa using h1, h2⟩
theorem fresh_back {H H1 : Hp} {s : Shared} {h1 : Heap} (F1 : Fp c.env.locals H H1 s.heap h1) {b : Addr} (hb : h1.get? b = .none) : s.heap.get? b = .none := by
  cases q : s.heap.get? b with
  | none => rfl
  | some o => obtain ⟨o', e⟩ := F1.alive _ _ q; rw [hb] at e; cases e
theorem iter_dict {t : Expr} {d it : Addr} {ep : Nat} {es : List (IS × V)} (ht : isNameOrTuple t = true) (hne : d ≠ it) : Iter c t (.ref it) [it] es.length (fun i => (es.getD i (.i 0, .none)).1.v) (fun H => Sees c H d (.dict ep es)) (fun i h => h.IsKeyIter it d i es.length ep) (fun i _ h => h.IsKeyIter it d (i + 1) es.length ep) where
  item := fun i m H s hi R A ok j P k => by
    obtain ⟨h0, kvs, ha, hd, hp⟩ := dict_get (ok m s R)
    obtain ⟨h1, h2, h3, _⟩ := A it (by simp)
    have hx : es[i]? = some (es.getD i (.i 0, .none)) := by simp [List.getD, hi]
    obtain ⟨v, hv, hrv⟩ := hp.get hx
    obtain ⟨oi, ho, _, hdi⟩ := _root_.id j
    refine wpAny_pyNext_dict_item (by rw [hp.length]; exact j) ha hv fun key h' hk hit' hs' => ?_
    have R' := R.off (h' := h') (tkn s s.toks) ho (fun _ _ _ q => by rw [hdi] at q; cases q.2) h1 h2 h3 (Heap.SameBut.kp hs')
    rw [hp.length] at hit'
    exact k key h' (tkn s s.toks) R' (one_off (Heap.SameBut.kp hs')) (A.one (let ⟨o, ho, _, hd⟩ := hit'; ⟨o, ho, fun _ _ _ q => by rw [hd] at q; cases q.2⟩)) hit' (rep_isIS hk)
  go := fun i v m H s R A j r P k => by
    obtain ⟨oi, ho, hc, hd⟩ := _root_.id j
    exact letGo_other ht ho hc hd (by decide) (k s.heap (tkn s s.toks) R (fun _ _ _ e => e) A j r)
  done := fun m H s R A ok j P k => by
    obtain ⟨h0, kvs, ha, hd, hp⟩ := dict_get (ok m s R)
    obtain ⟨h1, h2, h3, _⟩ := A it (by simp)
    obtain ⟨oi, ho, _, hdi⟩ := _root_.id j
    refine wpAny_pyNext_dict_end c.hh (by rw [hp.length]; exact j) ha (by rw [← hp.length]; simp) fun h' hs' => ?_
    exact k h' (tkn s s.toks) (R.off (tkn s s.toks) ho (fun _ _ _ q => by rw [hdi] at q; cases q.2) h1 h2 h3 hs') (one_off hs')
  keep := fun i h h' j hk => j.at fun o e => hk it (by simp) o e
  self := fun s P j p => wpAny_pyIter_keyiter j p
theorem it_dict {t e : Expr} (ht : isNameOrTuple t = true) {Q : Nat → (Nat → V) → (Hp → Prop) → Lo → Hp → Prop}
    (h : WPe c e m H fun u m1 H1 => ∃ d ep es, u = .ref d ∧ Sees c H1 d (.dict ep es) ∧ Q es.length (fun i => (es.getD i (.i 0, .none)).1.v) (fun H => Sees c H d (.dict ep es)) m1 H1) : WPit c t e m H Q := fun s R P k => by
  refine h s R _ fun u va m1 H1 h1 tk1 R1 F1 r1 q1 => ?_
  obtain ⟨d, ep, es, rfl, hs, q⟩ := q1
  cases (r1 : va = _)
  obtain ⟨h0, kvs, ha, hd, hp⟩ := dict_get (hs m1 _ R1)
  refine wpAny_pyIter_dict h0 ha ?_
  have hf := R1.fresh (get_size h1)
  refine k (.ref h1.objs.size) [h1.objs.size] _ _ _ _ _ m1 H1 _ tk1 (iter_dict (d := d) (ep := ep) (es := es) ht (Nat.ne_of_lt ha.lt_size)) (R1.grow tk1 push_grow) (F1.trans R1.hasL (.grow push_grow))
    (fun b hb => by simp at hb; subst hb; exact ⟨hf.1, hf.2.1, hf.2.2, _, Heap.get?_push_size _ rfl, fun _ _ _ q => by cases q.2⟩) (fun b hb => by simp at hb; subst hb; exact fresh_back F1 (get_size h1)) ⟨_, Heap.get?_push_size _ rfl, rfl, by rw [hp.length]; rfl⟩ q
theorem k_keys {Q : V → Lo → Hp → Prop} {d : Addr} {ep : Nat} {es : List (IS × V)} (hx : Sees c H d (.dict ep es)) (h : ∀ a, Q (.ref a) m ((a, .view "dict_keys" d) :: H)) : Cal c (.bi "dict.keys") [.ref d] m H Q := fun s vf vvs R rf rv => by
  cases (rf : vf = _)
  obtain ⟨va, rfl, ra⟩ := rv.sole
  cases (ra : va = _)
  obtain ⟨h0, kvs, ha, hd, hp⟩ := dict_get (hx m s R)
  exact .new R (o := .view "dict_keys" d) (b := fun a => .ref a) h fun P k => call_meetsIn PySem.F.slot_dict_keys hd.typeIs PySem.F.entry_dict_keys (PySem.F.args_dict_keys_1 _) (kdl_meets_keys (mixKind c.prog c.w) d h0) ⟨⟨kvs, hd⟩, k _ _ _ s.toks push_grow (get_size _) ⟨_, Heap.get?_push_size _ rfl, rfl, rfl⟩ rfl⟩
theorem k_items {Q : V → Lo → Hp → Prop} {d : Addr} {ep : Nat} {es : List (IS × V)} (hx : Sees c H d (.dict ep es)) (h : ∀ a, Q (.ref a) m ((a, .view "dict_items" d) :: H)) : Cal c (.bi "dict.items") [.ref d] m H Q := fun s vf vvs R rf rv => by
  cases (rf : vf = _)
  obtain ⟨va, rfl, ra⟩ := rv.sole
  cases (ra : va = _)
  obtain ⟨h0, kvs, ha, hd, hp⟩ := dict_get (hx m s R)
  exact .new R (o := .view "dict_items" d) (b := fun a => .ref a) h fun P k => call_meetsIn PySem.F.slot_dict_items hd.typeIs PySem.F.entry_dict_items (PySem.F.args_dict_items_1 _) (meets_dict_items (mixKind c.prog c.w) d h0) ⟨⟨kvs, hd⟩, k _ _ _ s.toks push_grow (get_size _) ⟨_, Heap.get?_push_size _ rfl, rfl, rfl⟩ rfl⟩
theorem it_keys {t e : Expr} (ht : isNameOrTuple t = true) {Q : Nat → (Nat → V) → (Hp → Prop) → Lo → Hp → Prop}
    (h : WPe c e m H fun u m1 H1 => ∃ a d ep es, u = .ref a ∧ Sees c H1 a (.view "dict_keys" d) ∧ Sees c H1 d (.dict ep es) ∧ Q es.length (fun i => (es.getD i (.i 0, .none)).1.v) (fun H => Sees c H d (.dict ep es)) m1 H1) : WPit c t e m H Q := fun s R P k => by
  refine h s R _ fun u va m1 H1 h1 tk1 R1 F1 r1 q1 => ?_
  obtain ⟨a, d, ep, es, rfl, hv, hs, q⟩ := q1
  cases (r1 : va = _)
  obtain ⟨h0, kvs, ha, hd, hp⟩ := dict_get (hs m1 _ R1)
  refine kdl_pyIter_keys (hv m1 _ R1) ha ?_
  have hf := R1.fresh (get_size h1)
  refine k (.ref h1.objs.size) [h1.objs.size] _ _ _ _ _ m1 H1 _ tk1 (iter_dict (d := d) (ep := ep) (es := es) ht (Nat.ne_of_lt ha.lt_size)) (R1.grow tk1 push_grow) (F1.trans R1.hasL (.grow push_grow))
    (fun b hb => by simp at hb; subst hb; exact ⟨hf.1, hf.2.1, hf.2.2, _, Heap.get?_push_size _ rfl, fun _ _ _ q => by cases q.2⟩) (fun b hb => by simp at hb; subst hb; exact fresh_back F1 (get_size h1)) ⟨_, Heap.get?_push_size _ rfl, rfl, by rw [hp.length]; rfl⟩ q
noncomputable def atE (e : IS × At) : IS × V := (e.1, .at e.2)
theorem tup_two {h : Heap} {a : Addr} {k : IS} {u : At} {key v : Value} (ho : h.get? a = some { cls := .type "tuple", data := .seq #[key, v] }) (hk : isIS k key = true) (hv : u.rep v) : (V.tup .none [k.a, u]).rep h (.ref a) := by
  refine ⟨a, #[key, v], rfl, ⟨_, 0, ho, rfl, rfl⟩, key, [v], rfl, ?_, v, [], rfl, hv, rfl⟩
  have : k.v.rep h key := rep_isIS hk
  rw [IS.v_a] at this
  exact this
theorem entry_itemiter : entryFor table "dict_itemiterator.__iter__" = some Builtin.«dict_keyiterator.__iter__» := entryFor_alias (id' := "dict_keyiterator.__iter__") (by kernel_rfl) rfl (by decide +kernel) (by kernel_rfl)
theorem iter_items {ts : List Expr} {k1 : Nat} {tp : Pos} {d it : Addr} {ep : Nat} {es : List (IS × At)} (hne : d ≠ it) : Iter c (.Tuple ts k1 tp) (.ref it) [it] es.length (fun i => .tup .none [(es.getD i (.i 0, .none)).1.a, (es.getD i (.i 0, .none)).2]) (fun H => Sees c H d (.dict ep (es.map atE)))
    (fun i h => ∃ ok ov, IsItemIter h it d i es.length ep ok ov) (fun i v h => ∃ ok ov a, v = .ref a ∧ IsItemIterOut h it d (i + 1) es.length ep ok ov a) where
  item := fun i m H s hi R A ok j P k => by
    obtain ⟨h0, kvs, ha, hd, hp⟩ := dict_get (ok m s R)
    have hlen : kvs.length = es.length := by rw [hp.length]; simp
    obtain ⟨h1, h2, h3, _⟩ := A it (by simp)
    have hx : (es.map atE)[i]? = some (atE (es.getD i (.i 0, .none))) := by simp [List.getD, hi]
    obtain ⟨v, hv, hrv⟩ := hp.get hx
    obtain ⟨o1, o2, j⟩ := j
    refine wpAny_pyNext_items_item (ok := o1) (ov := o2) (by rw [hlen]; exact j) ha hv fun key h' hk hit' ht' hsz hs' => ?_
    rw [hlen] at hit'
    have R' := R.off (h' := h') (tkn s s.toks) j (fun _ _ _ q => by cases q.2) h1 h2 h3 hs'
    exact k _ h' (tkn s s.toks) R' (one_off hs') (A.one ⟨_, hit', fun _ _ _ q => by cases q.2⟩) ⟨_, _, _, rfl, hit'⟩ (tup_two ht' hk hrv)
  go := fun i v m H s R A j r P k => by
    obtain ⟨o1, o2, a, rfl, j⟩ := j
    obtain ⟨h1, h2, h3, _⟩ := A it (by simp)
    refine wpAny_letOwnedTupleGo_items j fun h' hit' hs' => ?_
    have R' := R.off (h' := h') (tkn s s.toks) j (fun _ _ _ q => by cases q.2) h1 h2 h3 (Heap.SameBut.kp hs')
    exact k h' (tkn s s.toks) R' (one_off (Heap.SameBut.kp hs')) (A.one ⟨_, hit', fun _ _ _ q => by cases q.2⟩) ⟨_, _, hit'⟩ (lift_off A (one_off (Heap.SameBut.kp hs')) r)
  done := fun m H s R A ok j P k => by
    obtain ⟨h0, kvs, ha, hd, hp⟩ := dict_get (ok m s R)
    have hlen : kvs.length = es.length := by rw [hp.length]; simp
    obtain ⟨h1, h2, h3, _⟩ := A it (by simp)
    obtain ⟨o1, o2, j⟩ := j
    refine wpAny_pyNext_items_end c.hh (ok := o1) (ov := o2) (by rw [hlen]; exact j) ha (by rw [← hlen]; simp) fun h' hs' => ?_
    exact k h' (tkn s s.toks) (R.off (tkn s s.toks) j (fun _ _ _ q => by cases q.2) h1 h2 h3 hs') (one_off hs')
  keep := fun i h h' j hk => let ⟨a, b, j⟩ := j; ⟨a, b, hk it (by simp) _ j⟩
  self := fun s P j p => by
    obtain ⟨o1, o2, j⟩ := j
    have hT : s.TypeIs (.ref it) "dict_itemiterator" := ⟨_, j, rfl⟩
    refine wpAny_pyIter_slot hT PySem.F.slot_dict_itemiterator_iter (wpAny_call_entry PySem.F.slot_dict_itemiterator_iter hT entry_itemiter ?_ (PySem.F.args_dict_itemiterator_iter_1 _))
    show wpAny _ _ (ret (.ref it)) _ _ s
    exact wpAny_pure ⟨_, rfl, "dict_itemiterator", _, hT, PySem.F.slot_dict_itemiterator_next.lookup, p⟩
theorem it_items {ts : List Expr} {k1 : Nat} {tp : Pos} {e : Expr} {Q : Nat → (Nat → V) → (Hp → Prop) → Lo → Hp → Prop}
    (h : WPe c e m H fun u m1 H1 => ∃ a d ep es, u = .ref a ∧ Sees c H1 a (.view "dict_items" d) ∧ Sees c H1 d (.dict ep (List.map atE es)) ∧ Q es.length (fun i => .tup .none [(es.getD i (.i 0, .none)).1.a, (es.getD i (.i 0, .none)).2]) (fun H => Sees c H d (.dict ep (es.map atE))) m1 H1) : WPit c (.Tuple ts k1 tp) e m H Q := fun s R P k => by
  refine h s R _ fun u va m1 H1 h1 tk1 R1 F1 r1 q1 => ?_
  obtain ⟨a, d, ep, es, rfl, hv, hs, q⟩ := q1
  cases (r1 : va = _)
  obtain ⟨h0, kvs, ha, hd, hp⟩ := dict_get (hs m1 _ R1)
  refine wpAny_pyIter_items (hv m1 _ R1) ha ?_
  have hf := R1.fresh (get_size h1)
  refine k (.ref h1.objs.size) [h1.objs.size] _ _ _ _ _ m1 H1 _ tk1 (iter_items (d := d) (ep := ep) (es := es) (Nat.ne_of_lt ha.lt_size)) (R1.grow tk1 push_grow) (F1.trans R1.hasL (.grow push_grow))
    (fun b hb => by simp at hb; subst hb; exact ⟨hf.1, hf.2.1, hf.2.2, _, Heap.get?_push_size _ rfl, fun _ _ _ q => by cases q.2⟩) (fun b hb => by simp at hb; subst hb; exact fresh_back F1 (get_size h1)) ⟨.none, .none, by rw [hp.length, List.length_map]; exact Heap.get?_push_size _ rfl⟩ q
theorem iter_enum {ts : List Expr} {k1 : Nat} {tp : Pos} {a e it : Addr} {xs : List At} (hae : a ≠ e) (hai : a ≠ it) (hei : e ≠ it) : Iter c (.Tuple ts k1 tp) (.ref e) [e, it] xs.length (fun i => .tup .none [.int i, xs.getD i .none]) (fun H => Sees c H a (.list (xs.map .at)))
    (fun i h => (∃ old, IsEnum h e it i old) ∧ h.IsListIter it a i) (fun i v h => ∃ x b, v = .ref b ∧ IsEnumOut h e it ((i : Int) + 1) x b ∧ h.IsListIter it a (i + 1)) where
  item := fun i m H s hi R A ok j P k => by
    obtain ⟨items, n, hl, hr⟩ := O.list_get (ok m s R)
    obtain ⟨h1, h2, h3, _⟩ := A e (by simp)
    obtain ⟨g1, g2, g3, _⟩ := A it (by simp)
    have hx : (xs.map V.at)[i]? = some (.at (xs.getD i .none)) := by simp [List.getD, hi]
    obtain ⟨v, hv, hrv⟩ := hr.get hx
    obtain ⟨⟨old, j1⟩, j2⟩ := j
    obtain ⟨oi, hoi, hci, hdi⟩ := _root_.id j2
    refine wpAny_pyNext_enum_item j1 j2 (IsL.isList hl) (by rw [← Array.getElem?_toList]; exact hv) hei fun h' he' hit' ht' hsz hs' => ?_
    have A2 : Aside c H s.heap [e, it] := A
    have off : ∀ b o, b ∉ [e, it] → s.heap.get? b = some o → h'.get? b = some o := fun b o hb q => hs' b o (fun q => hb (by simp [q])) (fun q => hb (by simp [q])) q
    have R' : Rel c ⟨m, H⟩ (sw s h' (tkn s (s.toks + 1))) := by
      -- by two steps aside
      have lift : ∀ u v, V.rep s.heap u v → V.rep h' u v := fun u v r => lift_off A2 off r
      exact R.off2 (tkn s (s.toks + 1)) A2 off
    obtain ⟨o', ho', hc', hd'⟩ := _root_.id hit'
    refine k _ h' (tkn s (s.toks + 1)) R' off (fun b hb => ?_) ⟨_, _, rfl, he', hit'⟩ ?_
    · simp at hb
      rcases hb with rfl | rfl
      · exact ⟨h1, h2, h3, _, he', fun _ _ _ q => by cases q.2⟩
      · exact ⟨g1, g2, g3, o', ho', fun _ _ _ q => by rw [hd'] at q; cases q.2⟩
    · exact ⟨_, _, rfl, ⟨_, 0, ht', rfl, rfl⟩, _, [v], rfl, ⟨_, rfl⟩, v, [], rfl, hrv, rfl⟩
  go := fun i v m H s R A j r P k => by
    obtain ⟨x, b, rfl, j1, j2⟩ := j
    obtain ⟨h1, h2, h3, _⟩ := A e (by simp)
    obtain ⟨g1, g2, g3, _⟩ := A it (by simp)
    refine wpAny_letOwnedTupleGo_enum j1 fun h' he' hs' => ?_
    have off : ∀ b o, b ∉ [e, it] → s.heap.get? b = some o → h'.get? b = some o := fun b o hb q => (hs'.2 b (fun q => hb (by simp [q]))).trans q
    have hit' := j2.at (h' := h') fun o q => (hs'.2 it (Ne.symm hei)).trans q
    obtain ⟨o', ho', hc', hd'⟩ := _root_.id hit'
    refine k h' (tkn s s.toks) (R.off2 (tkn s s.toks) A off) off (fun b hb => ?_) ⟨⟨x, by simpa using he'⟩, hit'⟩ (lift_off A off r)
    simp at hb
    rcases hb with rfl | rfl
    · exact ⟨h1, h2, h3, _, he', fun _ _ _ q => by cases q.2⟩
    · exact ⟨g1, g2, g3, o', ho', fun _ _ _ q => by rw [hd'] at q; cases q.2⟩
  done := fun m H s R A ok j P k => by
    obtain ⟨items, n, hl, hr⟩ := O.list_get (ok m s R)
    obtain ⟨⟨old, j1⟩, j2⟩ := j
    refine wpAny_pyNext_enum_end c.hh j1 j2 (IsL.isList hl) (by rw [← Array.getElem?_toList]; simp [hr.length]) fun h' hs' => ?_
    have off : ∀ b o, b ∉ [e, it] → s.heap.get? b = some o → h'.get? b = some o := fun b o hb q => hs' b o (fun q => hb (by simp [q])) q
    exact k h' (tkn s s.toks) (R.off2 (tkn s s.toks) A off) off
  keep := fun i h h' j hk => ⟨let ⟨o, j⟩ := j.1; ⟨o, hk e (by simp) _ j⟩, j.2.at fun o q => hk it (by simp) o q⟩
  self := fun s P j p => let ⟨o, j⟩ := j.1; wpAny_pyIter_enum j p
theorem it_enum {ts : List Expr} {k1 : Nat} {tp p1 p2 : Pos} {arg : Expr} {Q : Nat → (Nat → V) → (Hp → Prop) → Lo → Hp → Prop} (hg : Glob c "enumerate" (.ty "enumerate"))
    (h : WPe c arg m H fun u m1 H1 => ∃ a xs, u = .ref a ∧ Sees c H1 a (.list (List.map .at xs)) ∧ Q xs.length (fun i => .tup .none [.int i, xs.getD i .none]) (fun H => Sees c H a (.list (xs.map .at))) m1 H1)
    (he : autoParam (starEach [arg] c.env = [(false, eval arg c.env)]) auRfl) : WPit c (.Tuple ts k1 tp) (.Call (.Name "enumerate" p1) [arg] [] p2) m H Q := fun s R P k => by
  refine Call_Name1 (Name_function_global c.hk hg.1 (hg.2 s.heap R.keep s _ rfl fun vf hvf => ?_) (by decide)) he
  cases (hvf : vf = _)
  refine PySem.callWith_type rfl (PySem.Calls.evalArgs_plain (PySem.Calls.spliced_cons (h s R _ fun u va m1 H1 h1 tk1 R1 F1 r1 q1 => PySem.Calls.spliced_nil ?_)))
  obtain ⟨a, xs, rfl, hs, q⟩ := q1
  cases (r1 : va = _)
  obtain ⟨items, n, hl, hr⟩ := O.list_get (hs m1 _ R1)
  refine call_enumerate_list (IsL.isList hl) fun h' he' hit' hsz hg' => ?_
  refine wpAny_pyIter_enum he' ?_
  have hal : a < h1.objs.size := Heap.lt_size hl
  have f1 := R1.fresh (get_size h1)
  have f2 := R1.fresh (get_ge (h := h1) (a := h1.objs.size + 1) (Nat.le_succ _))
  obtain ⟨o', ho', hc', hd'⟩ := _root_.id hit'
  refine k (.ref (h1.objs.size + 1)) [h1.objs.size + 1, h1.objs.size] _ _ _ _ _ m1 H1 h' tk1 (iter_enum (a := a) (xs := xs) (Nat.ne_of_lt (Nat.lt_succ_of_lt hal)) (Nat.ne_of_lt hal) (Nat.succ_ne_self _)) (R1.grow tk1 hg') (F1.trans R1.hasL (.grow hg'))
    (fun b hb => ?_) (fun b hb => ?_) ⟨⟨_, he'⟩, hit'⟩ q
  · simp at hb
    rcases hb with rfl | rfl
    · exact ⟨f2.1, f2.2.1, f2.2.2, _, he', fun _ _ _ q => by cases q.2⟩
    · exact ⟨f1.1, f1.2.1, f1.2.2, o', ho', fun _ _ _ q => by rw [hd'] at q; cases q.2⟩
  · simp at hb
    rcases hb with rfl | rfl
    · exact fresh_back F1 (get_ge (Nat.le_succ _))
    · exact fresh_back F1 (get_size h1)
end
end Mine
end
section
open PySem PySem.W PyProof.Rows PySem.Calls PySem.SeqAt
set_option maxRecDepth 100000
namespace Mine
/-! the table of a set -/
theorem below_go {xs : Array Nat} {j : Nat} (hs : ∀ i k, i < k → k < xs.size → xs.getD i j < xs.getD k j) : ∀ (fuel lo hi : Nat), lo ≤ hi → hi ≤ xs.size → hi - lo ≤ fuel →
    (∀ i, i < lo → xs.getD i j < j) → (∀ i, hi ≤ i → i < xs.size → j ≤ xs.getD i j) →
    SetTable.below.go xs j fuel lo hi ≤ xs.size ∧ (∀ i, i < SetTable.below.go xs j fuel lo hi → xs.getD i j < j) ∧ ∀ i, SetTable.below.go xs j fuel lo hi ≤ i → i < xs.size → j ≤ xs.getD i j
  | 0, lo, hi, h1, h2, h3, h4, h5 => by
    have : lo = hi := by exact ar2 2 (.l (.v 0) (.v 1)) (.l (.s (.v 1) (.v 0)) (.n 0)) (.e (.v 0) (.v 1)) (by kernel_rfl) [_, _] h1 h3
    subst this
    exact ⟨h2, h4, h5⟩
  | fuel + 1, lo, hi, h1, h2, h3, h4, h5 => by
    unfold SetTable.below.go
    by_cases q : lo < hi
    · simp only [q, if_true]
      by_cases r : xs.getD ((lo + hi) / 2) j < j
      · simp only [r, if_true]
        refine below_go hs fuel _ _ (by exact ar2 3 (.t (.v 0) (.v 1)) (.an (.l (.m 2 (.v 2)) (.a (.v 0) (.v 1))) (.t (.a (.v 0) (.v 1)) (.a (.m 2 (.v 2)) (.n 2)))) (.l (.a (.v 2) (.n 1)) (.v 1)) (by kernel_rfl) [_, _, _] q (half_le _)) h2 (by exact ar2 4 (.l (.s (.v 0) (.v 1)) (.a (.v 2) (.n 1))) (.an (.l (.m 2 (.v 3)) (.a (.v 1) (.v 0))) (.t (.a (.v 1) (.v 0)) (.a (.m 2 (.v 3)) (.n 2)))) (.l (.s (.v 0) (.a (.v 3) (.n 1))) (.v 2)) (by kernel_rfl) [_, _, _, _] h3 (half_le _)) (fun i hi' => ?_) h5
        by_cases e : i = (lo + hi) / 2
        · rw [e]; exact r
        · exact Nat.lt_trans (hs i _ (by exact ar2 2 (.t (.v 0) (.a (.v 1) (.n 1))) (.no (.e (.v 0) (.v 1))) (.t (.v 0) (.v 1)) (by kernel_rfl) [_, _] hi' e) (by exact ar3 4 (.l (.v 0) (.v 1)) (.t (.v 2) (.v 0)) (.an (.l (.m 2 (.v 3)) (.a (.v 2) (.v 0))) (.t (.a (.v 2) (.v 0)) (.a (.m 2 (.v 3)) (.n 2)))) (.t (.v 3) (.v 1)) (by kernel_rfl) [_, _, _, _] h2 q (half_le _))) r
      · simp only [r, if_false]
        refine below_go hs fuel _ _ (by exact ar2 3 (.t (.v 0) (.v 1)) (.an (.l (.m 2 (.v 2)) (.a (.v 0) (.v 1))) (.t (.a (.v 0) (.v 1)) (.a (.m 2 (.v 2)) (.n 2)))) (.l (.v 0) (.v 2)) (by kernel_rfl) [_, _, _] q (half_le _)) (by exact ar3 4 (.l (.v 0) (.v 1)) (.t (.v 2) (.v 0)) (.an (.l (.m 2 (.v 3)) (.a (.v 2) (.v 0))) (.t (.a (.v 2) (.v 0)) (.a (.m 2 (.v 3)) (.n 2)))) (.l (.v 3) (.v 1)) (by kernel_rfl) [_, _, _, _] h2 q (half_le _)) (by exact ar2 4 (.l (.s (.v 0) (.v 1)) (.a (.v 2) (.n 1))) (.an (.l (.m 2 (.v 3)) (.a (.v 1) (.v 0))) (.t (.a (.v 1) (.v 0)) (.a (.m 2 (.v 3)) (.n 2)))) (.l (.s (.v 3) (.v 1)) (.v 2)) (by kernel_rfl) [_, _, _, _] h3 (half_le _)) h4 (fun i hi' hn => ?_)
        by_cases e : i = (lo + hi) / 2
        · rw [e]; exact ar1 2 (.no (.t (.v 0) (.v 1))) (.l (.v 1) (.v 0)) (by kernel_rfl) [_, _] r
        · exact Nat.le_trans (Nat.le_of_not_lt r) (Nat.le_of_lt (hs _ i (by exact ar2 2 (.l (.v 0) (.v 1)) (.no (.e (.v 1) (.v 0))) (.t (.v 0) (.v 1)) (by kernel_rfl) [_, _] hi' e) hn))
    · simp only [q, if_false]
      have : lo = hi := by exact ar2 2 (.l (.v 0) (.v 1)) (.no (.t (.v 0) (.v 1))) (.e (.v 0) (.v 1)) (by kernel_rfl) [_, _] h1 q
      subst this
      exact ⟨h2, h4, h5⟩
theorem rises {xs : Array Nat} (h : xs.toList.Pairwise (· < ·)) (j : Nat) : ∀ i k, i < k → k < xs.size → xs.getD i j < xs.getD k j := fun i k hik hk => by
  have := List.pairwise_iff_getElem.mp h i k (by simp; exact ar2 3 (.t (.v 0) (.v 1)) (.t (.v 1) (.v 2)) (.t (.v 0) (.v 2)) (by kernel_rfl) [_, _, _] hik hk) (by simpa using hk) hik
  simp [Array.getD, hk, Nat.lt_trans hik hk] at this ⊢
  exact this
theorem below_spec {xs : Array Nat} (h : xs.toList.Pairwise (· < ·)) (j : Nat) : SetTable.below xs j ≤ xs.size ∧ (∀ i, i < SetTable.below xs j → xs.getD i j < j) ∧ ∀ i, SetTable.below xs j ≤ i → i < xs.size → j ≤ xs.getD i j :=
  below_go (rises h j) xs.size 0 xs.size (Nat.zero_le _) (Nat.le_refl _) (Nat.le_refl _) (fun i hi => absurd hi (Nat.not_lt_zero _)) (fun i h1 h2 => absurd h2 (by exact ar1 2 (.l (.v 0) (.v 1)) (.no (.t (.v 1) (.v 0))) (by kernel_rfl) [_, _] h1))
theorem insert_rises {xs : Array Nat} (h : xs.toList.Pairwise (· < ·)) {j : Nat} (hj : xs[SetTable.below xs j]? ≠ some j) : (SetTable.insertAt xs (SetTable.below xs j) j).toList.Pairwise (· < ·) := by
  obtain ⟨h1, h2, h3⟩ := below_spec h j
  rw [SetTable.toList_insertAt]
  have ht := List.take_append_drop (SetTable.below xs j) xs.toList
  rw [← ht, List.pairwise_append] at h
  obtain ⟨p1, p2, p3⟩ := h
  have lt : ∀ a ∈ xs.toList.take (SetTable.below xs j), a < j := fun a ha => by
    obtain ⟨i, hi, e⟩ := List.mem_iff_getElem.mp ha
    have hi1 : i < SetTable.below xs j := by simp at hi; exact ar1 3 (.t (.v 0) (.mn (.v 1) (.v 2))) (.t (.v 0) (.v 1)) (by kernel_rfl) [_, _, _] hi
    have hi2 : i < xs.size := by exact ar2 3 (.l (.v 0) (.v 1)) (.t (.v 2) (.v 0)) (.t (.v 2) (.v 1)) (by kernel_rfl) [_, _, _] h1 hi1
    have := h2 i hi1
    rw [List.getElem_take] at e
    simp [Array.getD, hi2] at this
    simp at e
    exact ar2 3 (.e (.v 0) (.v 1)) (.t (.v 0) (.v 2)) (.t (.v 1) (.v 2)) (by kernel_rfl) [_, _, _] e this
  have gt : ∀ a ∈ xs.toList.drop (SetTable.below xs j), j < a := fun a ha => by
    obtain ⟨i, hi, e⟩ := List.mem_iff_getElem.mp ha
    simp at hi
    rw [List.getElem_drop] at e
    have hb : SetTable.below xs j + i < xs.size := by exact ar1 3 (.t (.v 0) (.s (.v 1) (.v 2))) (.t (.a (.v 2) (.v 0)) (.v 1)) (by kernel_rfl) [_, _, _] hi
    have := h3 (SetTable.below xs j + i) (by exact ar0 2 (.l (.v 0) (.a (.v 0) (.v 1))) (by kernel_rfl) [_, _]) hb
    simp [Array.getD, hb] at this
    simp at e
    rcases Nat.lt_or_ge j a with q | q
    · exact q
    · exfalso
      have ej : a = j := by exact ar3 3 (.e (.v 0) (.v 1)) (.l (.v 2) (.v 0)) (.l (.v 1) (.v 2)) (.e (.v 1) (.v 2)) (by kernel_rfl) [_, _, _] e this q
      subst ej
      cases i with
      | zero => exact hj (by simp at e hb; simp [hb, e])
      | succ i =>
        have hb0 : SetTable.below xs a < xs.size := by exact ar1 3 (.t (.a (.v 0) (.a (.v 1) (.n 1))) (.v 2)) (.t (.v 0) (.v 2)) (by kernel_rfl) [_, _, _] hb
        have l0 := h3 (SetTable.below xs a) (Nat.le_refl _) hb0
        have l1 : xs[SetTable.below xs a] < xs[SetTable.below xs a + (i + 1)] := by
          have := List.pairwise_iff_getElem.mp (ht ▸ (List.pairwise_append.mpr ⟨p1, p2, p3⟩)) (SetTable.below xs a) (SetTable.below xs a + (i + 1)) (by simpa using hb0) (by simpa using hb) (by exact ar0 2 (.t (.v 0) (.a (.v 0) (.a (.v 1) (.n 1)))) (by kernel_rfl) [_, _])
          simpa using this
        simp [Array.getD, hb0] at l0
        exact ar3 3 (.e (.v 0) (.v 1)) (.t (.v 2) (.v 0)) (.l (.v 1) (.v 2)) .f (by kernel_rfl) [_, _, _] e l1 l0
  rw [List.pairwise_append]
  refine ⟨p1, ?_, fun a ha b hb => ?_⟩
  · rw [List.pairwise_cons]; exact ⟨gt, p2⟩
  · rcases List.mem_cons.mp hb with rfl | hb
    · exact lt a ha
    · exact Nat.lt_trans (lt a ha) (gt b hb)
theorem has_none (j : Nat) : SetTable.has #[] j = false := by unfold SetTable.has; simp
theorem probe_free {t : SetTable} (hd : t.dummies = #[]) {f : Nat → Int} {h : Int} : ∀ (fuel : Nat) (p : SetTable.Probe) {j : Nat} {d : Option Nat}, p.dummy = .none → SetTable.probe.go t f h fuel p = some (.empty j d) → t.slot j = .empty ∧ d = .none
  | 0, p, j, d, _, e => by unfold SetTable.probe.go at e; cases e
  | fuel + 1, p, j, d, hp, e => by
    unfold SetTable.probe.go at e
    have hadv : ∀ p : SetTable.Probe, p.dummy = .none → (t.advance p).dummy = .none := fun p hp => by unfold SetTable.advance; split <;> exact hp
    split at e
    · rename_i q
      injection e with e
      injection e with e1 e2
      subst e1
      exact ⟨q, by rw [← e2, hp]⟩
    · rename_i q
      exfalso
      unfold SetTable.slot at q
      dsimp only at q
      rw [hd, has_none] at q
      split at q <;> simp at q
    · split at e
      · cases e
      · exact probe_free hd fuel _ (hadv p hp) e
theorem free_spec {t : SetTable} (hd : t.dummies = #[]) {h : Int} {j : Nat} {b : Bool} (e : t.freeSlot h = some (j, b)) : t.place[SetTable.below t.place j]? ≠ some j := by
  unfold SetTable.freeSlot at e
  split at e
  · rename_i j' d q
    obtain ⟨h1, rfl⟩ := probe_free hd _ _ rfl q
    simp at e
    obtain ⟨rfl, rfl⟩ := e
    unfold SetTable.slot at h1
    dsimp only at h1
    intro hc
    rw [hc] at h1
    simp at h1
  · cases e
theorem tame_standIn (t : SetTable) (n : Nat) : Tame (t.standIn n) ∧ (t.standIn n).led = t.led := by
  refine ⟨⟨?_, rfl⟩, rfl⟩
  show (Array.range n).toList.Pairwise _
  rw [Array.toList_range]
  exact List.pairwise_lt_range
theorem tame_put {t : SetTable} (T : Tame t) {j : Nat} (hj : t.place[SetTable.below t.place j]? ≠ some j) : Tame (t.put j).1 ∧ (t.put j).1.led = t.led := by
  refine ⟨⟨insert_rises T.1 hj, ?_⟩, rfl⟩
  show (if SetTable.has t.dummies j = true then _ else t.dummies) = #[]
  rw [T.2, has_none]; rfl
theorem tame_layNew {t : SetTable} (T : Tame t) (es : Array (Int × Value)) (h : Int) (x : Value) : Tame (layNew t es h x).2.1 ∧ (layNew t es h x).2.1.led = t.led := by
  unfold layNew
  split
  · rename_i slot wd q
    have := tame_put T (free_spec T.2 q)
    dsimp only
    unfold SetTable.orStandIn
    split
    · exact this
    · refine ⟨(tame_standIn _ _).1, ?_⟩
      rw [(tame_standIn _ _).2]; exact this.2
  · exact tame_standIn _ _
theorem tame_laid {mask finger moves : Nat} {led plain : Bool} {hs : Array Int} {t : SetTable} {o : Array Nat} (e : SetTable.laid mask finger moves led plain hs = some (t, o)) : Tame t ∧ t.led = led := by
  unfold SetTable.laid at e
  simp only [Option.bind_eq_bind, Option.bind_eq_some_iff, Option.pure_def, Option.some.injEq, Prod.mk.injEq] at e
  obtain ⟨ow, _, e1, _⟩ := e
  subst e1
  refine ⟨⟨?_, rfl⟩, rfl⟩
  dsimp only
  rw [List.pairwise_map, List.pairwise_filterMap]
  refine List.pairwise_lt_range.imp ?_
  intro a b hab x hx y hy
  simp at hx hy
  obtain ⟨u, _, rfl⟩ := hx
  obtain ⟨v, _, rfl⟩ := hy
  exact hab
theorem tame_relay {t : SetTable} (es : Array (Int × Value)) (wanted : Nat) : Tame (relayAll t es wanted).2.1 ∧ (relayAll t es wanted).2.1.led = t.led := by
  unfold relayAll
  split
  · rename_i t' order q
    dsimp only
    split
    · exact tame_laid q
    · exact tame_standIn _ _
  · exact tame_standIn _ _
end Mine
end
section
open PySem PySem.W PyProof.Rows PySem.Calls PySem.SeqAt
set_option maxRecDepth 100000
namespace Mine
noncomputable abbrev Raw := Array (Int × Value) × Nat × SetTable
noncomputable def setPut (ks : List IS) (k : IS) : List IS := if k ∈ ks then ks else ks ++ [k]
noncomputable def RawAt (h : Heap) (a : Addr) (z : Raw) : Prop := ∃ o, h.get? a = some o ∧ o.ExactSet ∧ o.data = .set z.1 z.2.1 z.2.2
section
variable {prog : Program} {w : World} {A : Around} {E : Value → Shared → Prop} {s : Shared}
theorem SetInv.lay {es es1 : Array (Int × Value)} {ep ep' : Nat} {t t2 : SetTable} {ks : List IS} {k : IS} {x : Value} (I : SetInv prog w (es, ep, t) ks) (hk : k ∉ ks) (hkey : (mixKind prog w).is k x = true) (hsc : x.scannable = true)
    (hroom : ks.length + 1 < scanBound) (T : Tame t2) (hl : t2.led = t.led) (hf : t2.fits es1.size = true) (hp : List.Perm es1.toList (es.toList ++ [((mixKind prog w).hash k, x)])) : SetInv prog w (es1, ep', t2) (ks ++ [k]) := by
  have hsz : es1.size = ks.length + 1 := by rw [← Array.length_toList, hp.length_eq, List.length_append, Array.length_toList]; have := I.size; simp at this ⊢; exact ar1 2 (.e (.v 0) (.v 1)) (.e (.v 0) (.v 1)) (by kernel_rfl) [_, _] this
  refine ⟨(I.el.push hkey hsc).perm hp, fun k' => ?_, by simpa [hsz] using hroom, hf, by simpa using hsz, ?_, T, by rw [hl]; exact I.led⟩
  · have := mem_push_iff (S := fun k => decide (k ∈ ks)) hkey (fun k' => by rw [decide_eq_true_eq]; exact I.mem k') hp k'
    simp only [← this, List.mem_append, List.mem_singleton, Bool.or_eq_true, decide_eq_true_eq]
  · rw [List.nodup_append]; exact ⟨I.nd, by simp, fun a ha b hb => by simp at hb; subst hb; intro e; exact hk (e ▸ ha)⟩
theorem SetInv.perm {es es2 : Array (Int × Value)} {ep ep' : Nat} {t t2 : SetTable} {ks : List IS} (I : SetInv prog w (es, ep, t) ks) (T : Tame t2) (hl : t2.led = t.led) (hf : t2.fits es2.size = true) (hp : List.Perm es2.toList es.toList) : SetInv prog w (es2, ep', t2) ks := by
  have hsz : es2.size = es.size := by rw [← Array.length_toList, hp.length_eq, Array.length_toList]
  refine ⟨I.el.perm hp, fun k' => (I.mem k').trans ⟨fun ⟨e, he, q⟩ => ⟨e, hp.mem_iff.mpr he, q⟩, fun ⟨e, he, q⟩ => ⟨e, hp.mem_iff.mp he, q⟩⟩, by show es2.size < _; rw [hsz]; exact I.lt, hf, by show es2.size = _; rw [hsz]; exact I.size, I.nd, T, by rw [hl]; exact I.led⟩
theorem RawAt.put {h : Heap} {a : Addr} {z : Raw} (r : RawAt h a z) (es' : Array (Int × Value)) (t' : SetTable) : RawAt (h.update a (Obj.putSet es' t')) a (es', z.2.1 + 1, t') := by
  obtain ⟨o, ho, hex, hd⟩ := r
  have hg : (h.update a (Obj.putSet es' t')).get? a = some { o with data := .set es' (z.2.1 + 1) t' } := by
    have := Heap.get?_update_self (Obj.putSet es' t') ho (by rw [putSet_of es' t' hd]; rfl)
    rw [putSet_of es' t' hd] at this; exact this
  exact ⟨_, hg, hex, rfl⟩
theorem RawAt.store {a : Addr} {z : Raw} {es' : Array (Int × Value)} {t' : SetTable} {Q : Unit → Shared → Prop} (r : RawAt s.heap a z) (hb : es'.size < scanBound) (h : Q () { s with heap := s.heap.update a (Obj.putSet es' t') }) : wpAny (model prog w) A (storeSet a es' t') Q E s := by
  obtain ⟨o, ho, hex, hd⟩ := r
  exact wpAny_storeSet_of ho hd h (fits_of_scanBound hb)
theorem add_tail {g : Bool → Sem Unit} (hg : ∀ (b : Bool) (s₁ : Shared) (Q' : Unit → Shared → Prop), Q' () s₁ → wpAny (model prog w) A (g b) Q' E s₁)
    {a : Addr} {z : Raw} {ks : List IS} (r : RawAt s.heap a z) {es1 : Array (Int × Value)} {t2 : SetTable} (I : SetInv prog w (es1, z.2.1 + 1, t2) ks) {wasDummy : Bool} {R : Option Bool → Shared → Prop}
    (h : ∀ h' z', Heap.SameBut a s.heap h' → RawAt h' a z' → SetInv prog w z' ks → R (some true) { s with heap := h' }) :
    wpAny (model prog w) A (do
        storeSet a es1 t2
        if (!wasDummy && t2.tooFull) = true then do
            g (relayAll t2 es1 (SetTable.grown es1.size)).2.2
            storeSet a (relayAll t2 es1 (SetTable.grown es1.size)).1 (relayAll t2 es1 (SetTable.grown es1.size)).2.1
            pure (some true)
          else pure (some true)) R E s := by
  refine wpAny_bind (r.store I.lt ?_)
  have r1 := r.put es1 t2
  have hsb1 := Heap.SameBut.update s.heap a (Obj.putSet es1 t2)
  split
  · have hp := relayAll_perm t2 es1 (SetTable.grown es1.size)
    have hf := relayAll_fits t2 es1 (SetTable.grown es1.size)
    have ht := tame_relay (t := t2) es1 (SetTable.grown es1.size)
    generalize hRl : relayAll t2 es1 (SetTable.grown es1.size) = Rl at hp hf ht ⊢
    obtain ⟨es2, t3, gave⟩ := Rl
    dsimp only at hp hf ht ⊢
    have I2 : SetInv prog w (es2, z.2.1 + 1 + 1, t3) ks := I.perm ht.1 ht.2 hf hp
    refine wpAny_bind (hg _ _ _ ?_)
    refine wpAny_bind (RawAt.store (s := { s with heap := s.heap.update a (Obj.putSet es1 t2) }) r1 I2.lt ?_)
    exact wpAny_pure (h _ _ (hsb1.trans (Heap.SameBut.update _ a _)) (r1.put es2 t3) I2)
  · exact wpAny_pure (h _ _ hsb1 r1 I)
theorem set_addHashed {a : Addr} {z : Raw} {ks : List IS} {k : IS} {x : Value} {Q : Bool → Shared → Prop} (hkey : (mixKind prog w).is k x = true) (hsc : x.scannable = true) (r : RawAt s.heap a z) (I : SetInv prog w z ks) (hroom : ks.length + 1 < scanBound)
    (h : ∀ h' z' b, Heap.SameBut a s.heap h' → RawAt h' a z' → SetInv prog w z' (setPut ks k) → Q b { s with heap := h' }) : wpAny (model prog w) A (setAddHashed a x ((mixKind prog w).hash k)) Q E s := by
  obtain ⟨es, ep, t⟩ := z
  obtain ⟨o, ho, hex, hd⟩ := _root_.id r
  dsimp only at hd
  unfold setAddHashed setAddHashedIn
  refine wpAny_holding (wpAny_bind (wpAny_setState_of ho hd I.fits ?_))
  dsimp only
  rw [byScan_of hsc I.lt I.el]
  simp only [↓reduceIte]
  unfold setAddByScan
  refine wpAny_bind ?_
  refine wpAny_bind (wpAny_rule ?_)
  refine wpAny_bind (wpAny_setScan_of hkey ho hd I.fits I.el ?_)
  cases hr : List.findIdx? (fun e => (mixKind prog w).is k e.2) es.toList with
  | some j =>
    dsimp only
    obtain ⟨hj, hpj, _⟩ := List.findIdx?_eq_some_iff_getElem.mp hr
    have hk : k ∈ ks := (I.mem k).mpr ⟨es.toList[j], List.getElem_mem hj, hpj⟩
    exact wpAny_pure (wpAny_pure (h s.heap (es, ep, t) _ (Heap.SameBut.refl a s.heap) r (by unfold setPut; rw [if_pos hk]; exact I)))
  | none =>
    dsimp only
    have hk : k ∉ ks := fun hk => by
      obtain ⟨e, he, hp⟩ := (I.mem k).mp hk
      have := List.findIdx?_eq_none_iff.mp hr e he
      rw [hp] at this; cases this
    have hput : setPut ks k = ks ++ [k] := if_neg hk
    have hgw : ∀ (b : Bool) {s₁ : Shared} {Q' : Unit → Shared → Prop}, Q' () s₁ → wpAny (model prog w) A (match b with | true => rule "set.scan.the-table-gave-way" | false => pure ()) Q' E s₁ :=
      fun b s₁ Q' hq => by cases b <;> first | exact wpAny_pure hq | exact wpAny_rule hq
    have hperm := layNew_perm t es ((mixKind prog w).hash k) x
    have hfits := layNew_fits t es ((mixKind prog w).hash k) x
    have ht := tame_layNew I.tame es ((mixKind prog w).hash k) x
    generalize hL : layNew t es ((mixKind prog w).hash k) x = L at hperm hfits ht ⊢
    obtain ⟨es1, t1, wasDummy, gave⟩ := L
    dsimp only at hperm hfits ht ⊢
    rw [Array.toList_push] at hperm
    refine wpAny_bind (hgw _ ?_)
    have I1 : ∀ t2 : SetTable, Tame t2 → t2.led = t1.led → t2.fits es1.size = true → SetInv prog w (es1, ep + 1, t2) (ks ++ [k]) := fun t2 T e f => I.lay hk hkey hsc hroom T (e.trans ht.2) f hperm
    have fin : ∀ h' z', Heap.SameBut a s.heap h' → RawAt h' a z' → SetInv prog w z' (ks ++ [k]) → ∀ b, Q b { s with heap := h' } := fun h' z' h1 h2 h3 b => h h' z' b h1 h2 (by rw [hput]; exact h3)
    split
    · refine wpAny_bind ?_
      rw [hashByValue_scannable 8 hsc]
      refine wpAny_pure ?_
      refine add_tail ?_ r (ks := ks ++ [k]) (I1 _ ?_ ?_ ?_) ?_
      · intro b s₁ Q' hq; cases b <;> first | exact wpAny_pure hq | exact wpAny_rule hq
      · split
        · exact ht.1
        · exact ht.1
      · split <;> rfl
      · split
        · exact hfits
        · exact SetTable.fits_plain_off hfits
      · intro h' z' hsb hS' hI; dsimp only; exact wpAny_pure (fin h' z' hsb hS' hI _)
    · refine wpAny_bind (wpAny_pure ?_)
      simp only [↓reduceIte]
      refine add_tail ?_ r (ks := ks ++ [k]) (I1 t1 ht.1 rfl hfits) ?_
      · intro b s₁ Q' hq; cases b <;> first | exact wpAny_pure hq | exact wpAny_rule hq
      · intro h' z' hsb hS' hI; dsimp only; exact wpAny_pure (fin h' z' hsb hS' hI _)
theorem SetInv.fresh (ep : Nat) : SetInv prog w (#[], ep, .fresh 0 0 (!w.params.followText "set-order")) [] :=
  ⟨fun e he => by simp at he, fun k => by simp, (by decide : 0 < scanBound), by rfl, rfl, .nil, ⟨.nil, rfl⟩, rfl⟩
end
end Mine
end
section
open PySem PySem.W PyProof.Rows PySem.Calls PySem.SeqAt
set_option maxRecDepth 100000
namespace Mine
noncomputable def setObj0 (w : World) : Obj := { cls := .type "set", dict := none, data := .set #[] 0 (.fresh 0 0 (!w.params.followText "set-order")) }
section
variable {prog : Program} {w : World} {A : Around} {E : Value → Shared → Prop} {s : Shared}
set_option maxHeartbeats 4000000 in
theorem code_set_made {args : List Value} (hnc : checkBuiltinCall "set.__new__" ⟨.type "set" :: args, []⟩ = pure ()) {Q₁ : Value → Shared → Prop}
    (h : Q₁ (.ref s.heap.objs.size) { s with heap := s.heap.push (setObj0 w) }) :
    codeAny (model prog w) A (.call (.builtin "set.__new__") ⟨.type "set" :: args, []⟩) (wants Q₁ E) s := by
  refine codeAny_of_tree ?_
  show wpAny _ A.in1 (do checkBuiltinCall "set.__new__" ⟨.type "set" :: args, []⟩; again (.builtin "set.__new__" ⟨.type "set" :: args, []⟩)) _ _ s
  refine wpAny_bind (wpAny_of_eq hnc (wpAny_pure ⟨plainId_quiet PySem.F.plain_set_new _, codeAny_builtin PySem.F.entry_set_new ?_⟩))
  rw [Around.under_plainId PySem.F.plain_set_new _]
  unfold Builtin.«set.__new__» Builtin.Frozenset.newClass
  have hsub := sub_set_self
  obtain ⟨hp, g, d, tk, os⟩ := s
  dsimp only
  wp_walk
  refine wpAny_askSetting (wpAny_pure ?_)
  dsimp only
  simp only [newObj]
  refine wpAny_bind (wpAny_alloc (wpAny_pure ?_))
  exact wpAny_pure h
set_option maxHeartbeats 4000000 in
theorem call_set_core {args : List Value} {Q : Value → Shared → Prop} (hct : checkTypeCall "set" ⟨args, []⟩ = pure ()) (hnc : checkBuiltinCall "set.__new__" ⟨.type "set" :: args, []⟩ = pure ())
    (hchk : ∀ {A : Around} {s : Shared} {self : Value} {Q : Unit → Shared → Prop}, s.TypeIs self "set" → Q () s → wpAny (model prog w) A (checkBuiltinCall "set.__init__" ⟨self :: args, []⟩) Q E s)
    (h : ∀ A', A'.handled = A.handled → wpAny (model prog w) A' (Builtin.«set.__init__» ⟨.ref s.heap.objs.size :: args, []⟩) (fun fin s' => fin = .done (.ret .none) ∧ Q (.ref s.heap.objs.size) s') E { s with heap := s.heap.push (setObj0 w) }) :
    wpAny (model prog w) A (call (.type "set") args) Q E s := by
  obtain ⟨c, tl, hmro⟩ := PySem.F.called_set.mro
  have hmade := PySem.F.called_set.made
  have hsub := PySem.F.called_set.sub
  refine wpAny_call (codeAny_of_tree ?_)
  show wpAny _ _ (callAny (.type "set") _) _ _ _
  refine wpAny_pure ⟨Code.quiet_builtin _ (by decide +kernel), codeAny_builtin PySem.F.entry_type_call ?_⟩
  rw [Around.under_plain (weight_type_call_type "set" args []) rfl]
  have h1 := PySem.F.called_set.notType
  have h2 := PySem.F.called_set.canCreate
  repeat (any_goals (first | assumption | wp_step))
  refine codeAny_mono (code_set_made hnc (E := E) (Q₁ := fun obj s₁ => obj = .ref s.heap.objs.size ∧ s₁ = { s with heap := s.heap.push (setObj0 w) }) ⟨rfl, rfl⟩) fun r s₁ hr => ?_
  cases r with
  | error e => exact hr
  | ok fl =>
    cases fl with
    | ret obj =>
      obtain ⟨rfl, rfl⟩ := hr
      have hS : (s.heap.push (setObj0 w)).get? s.heap.objs.size = some (setObj0 w) := Heap.get?_push_size _ rfl
      have hT : Shared.TypeIs { s with heap := s.heap.push (setObj0 w) } (.ref s.heap.objs.size) "set" := ⟨_, hS, rfl⟩
      have hli := PySem.F.called_set.init.lookup
      have hbi := PySem.F.called_set.init.bind (.ref s.heap.objs.size)
      repeat (any_goals (first | assumption | wp_step))
      refine codeAny_mono (codeAny_call_builtin (R := wants (fun r s₂ => r = .none ∧ Q (.ref s.heap.objs.size) s₂) E) PySem.F.called_set.init.plain PySem.F.entry_set_init (hchk hT ?_)) fun r₂ s₂ hr₂ => ?_
      · refine wpAny_mono (h _ ?_) (fun fin s' q => ?_) (fun _ _ q => q)
        · rfl
        · obtain ⟨rfl, q⟩ := q
          exact ⟨rfl, q⟩
      · cases r₂ with
        | error e => exact hr₂
        | ok fl₂ =>
          cases fl₂ with
          | ret r =>
            obtain ⟨rfl, hq⟩ := hr₂
            repeat (any_goals (first | assumption | wp_step))
          | _ => exact hr₂.elim
    | _ => exact hr.elim
end
end Mine
end
section
open PySem PySem.W PyProof.Rows PySem.Calls PySem.SeqAt
set_option maxRecDepth 100000
namespace Mine
theorem isIS_scan {k : IS} {v : Value} (h : isIS k v = true) : v.scannable = true := by
  rcases isIS_shape h with ⟨n, t, rfl, rfl⟩ | ⟨x, t, rfl, rfl⟩ <;> rfl
theorem setPut_len (ks : List IS) (k : IS) : (setPut ks k).length ≤ ks.length + 1 := by unfold setPut; split <;> simp
section
variable {prog : Program} {w : World} {A : Around} {s : Shared} {R : Result → Shared → Prop}
theorem set_loop {S I l : Addr} {items : Array Value} {xs : List IS} (hSI : S ≠ I) (hlI : l ≠ I) (hlS : l ≠ S) (hlen : items.size = xs.length) (hx : ∀ (i : Nat) (v : Value), items[i]? = some v → ∃ k, xs[i]? = some k ∧ isIS k v = true) (hb : items.size + 1 < scanBound) (hh : A.handled = .none) :
    ∀ (n i : Nat) (s : Shared) (ks : List IS) (z : Raw), items.size - i = n → i ≤ items.size → s.heap.IsListIter I l i → s.heap.IsList l items → RawAt s.heap S z → SetInv prog w z ks → ks.length ≤ i →
      (∀ h' tk z', (∀ b o, b ≠ S → b ≠ I → s.heap.get? b = some o → h'.get? b = some o) → RawAt h' S z' → SetInv prog w z' ((xs.drop i).foldl setPut ks) → R (.ok (.ret .none)) { s with heap := h', toks := tk }) →
      codeAny (model prog w) A (.builtin "set.update.loop" ⟨[.ref S, .ref I], []⟩) R s
  | 0, i, s, ks, z, hn, hi, hit, hl, r, Iv, hk, kont => by
    have ei : i = items.size := by exact ar2 2 (.e (.s (.v 0) (.v 1)) (.n 0)) (.l (.v 1) (.v 0)) (.e (.v 1) (.v 0)) (by kernel_rfl) [_, _] hn hi
    refine codeAny_builtin PyProof.Rows.F.entry_set_update_loop ?_
    rw [Around.under_plainId PyProof.Rows.F.plain_set_update_loop _]
    show wpAny _ A.in1 (pyNext (.ref I) >>= _) _ _ s
    refine wpAny_bind (wpAny_pyNext_list_end (by simpa using hh) hit hl (by rw [ei]; simp) fun h' hs' => ?_)
    show wpAny _ A.in1 (ret Value.none) _ _ _
    refine wpAny_pure (kont h' s.toks z (fun b o _ hb e => hs' b o hb e) (let ⟨o, ho, q⟩ := r; ⟨o, hs' _ _ hSI ho, q⟩) ?_)
    rw [ei, hlen, List.drop_length]
    exact Iv
  | n + 1, i, s, ks, z, hn, hi, hit, hl, r, Iv, hk, kont => by
    have hlt : i < items.size := by exact ar1 3 (.e (.s (.v 0) (.v 1)) (.a (.v 2) (.n 1))) (.t (.v 1) (.v 0)) (by kernel_rfl) [_, _, _] hn
    have hv : items[i]? = some items[i] := by simp [hlt]
    obtain ⟨k, hk1, hk2⟩ := hx i _ hv
    refine codeAny_builtin PyProof.Rows.F.entry_set_update_loop ?_
    rw [Around.under_plainId PyProof.Rows.F.plain_set_update_loop _]
    show wpAny _ A.in1 (pyNext (.ref I) >>= _) _ _ s
    refine wpAny_bind (wpAny_pyNext_list_item hit hl hv fun h' hit' hs' => ?_)
    have r' : RawAt h' S z := let ⟨o, ho, q⟩ := r; ⟨o, Heap.SameBut.kp hs' _ _ hSI ho, q⟩
    have hl' : h'.IsList l items := let ⟨o, ho, q⟩ := hl; ⟨o, Heap.SameBut.kp hs' _ _ hlI ho, q⟩
    show wpAny _ A.in1 (holding [items[i]] (setAdd S items[i]) >>= _) _ _ _
    refine wpAny_bind (wpAny_holding ?_)
    unfold setAdd
    refine wpAny_holding ?_
    refine wpAny_bind ((mixKind prog w).pyHash (k := k) hk2 ?_)
    refine set_addHashed (s := { s with heap := h', toks := s.toks + 1 }) hk2 (isIS_scan hk2) r' Iv (by exact ar3 4 (.t (.a (.v 0) (.n 1)) (.v 1)) (.l (.v 2) (.v 3)) (.t (.v 3) (.v 0)) (.t (.a (.v 2) (.n 1)) (.v 1)) (by kernel_rfl) [_, _, _, _] hb hk hlt) fun h2 z2 b hs2 r2 I2 => ?_
    have hit2 : h2.IsListIter I l (i + 1) := hit'.at fun o e => (hs2.2 I (Ne.symm hSI)).trans e
    have hl2 : h2.IsList l items := let ⟨o, ho, q⟩ := hl'; ⟨o, (hs2.2 l hlS).trans ho, q⟩
    refine wpAny_pure ⟨plainId_quiet PyProof.Rows.F.plain_set_update_loop _, set_loop hSI hlI hlS hlen hx hb hh n (i + 1) _ (setPut ks k) z2 (by exact ar1 3 (.e (.s (.v 0) (.v 1)) (.a (.v 2) (.n 1))) (.e (.s (.v 0) (.a (.v 1) (.n 1))) (.v 2)) (by kernel_rfl) [_, _, _] hn) hlt hit2 hl2 r2 I2 (by have := setPut_len ks k; exact ar2 3 (.l (.v 0) (.v 1)) (.l (.v 2) (.a (.v 0) (.n 1))) (.l (.v 2) (.a (.v 1) (.n 1))) (by kernel_rfl) [_, _, _] hk this) fun h3 tk z3 hk3 r3 I3 => ?_⟩
    refine kont h3 tk z3 (fun b o b1 b2 e => hk3 b o b1 b2 ((hs2.2 b b1).trans (Heap.SameBut.kp hs' b o b2 e))) r3 ?_
    have e : xs.drop i = k :: xs.drop (i + 1) := by
      have hi' : i < xs.length := by exact ar2 3 (.e (.v 0) (.v 1)) (.t (.v 2) (.v 0)) (.t (.v 2) (.v 1)) (by kernel_rfl) [_, _, _] hlen hlt
      rw [List.drop_eq_getElem_cons hi']
      simp [hi'] at hk1
      rw [hk1]
    rw [e]
    exact I3
end
section
variable {c : Ctx} {m : Lo} {H : Hp} {pos : Pos} {K : Frag} {Q : V → Lo → Hp → Prop}
theorem set_get {prog : Program} {w : World} {h : Heap} {a : Addr} {z : Raw} {ks : List IS} (r : (O.set z ks).rep prog w h a) : RawAt h a z ∧ SetInv prog w z ks := let ⟨o, ho, hx, hd, i⟩ := r; ⟨⟨o, ho, hx, hd⟩, i⟩
theorem set_mk {prog : Program} {w : World} {h : Heap} {a : Addr} {z : Raw} {ks : List IS} (r : RawAt h a z) (i : SetInv prog w z ks) : (O.set z ks).rep prog w h a := let ⟨o, ho, hx, hd⟩ := r; ⟨o, ho, hx, hd, i⟩
set_option maxHeartbeats 2000000 in
theorem k_set0 (h : ∀ a z, Q (.ref a) m ((a, .set z []) :: H)) : Cal c (.ty "set") [] m H Q := fun s vf vvs R rf rv => by
  cases (rf : vf = _)
  cases (rv : vvs = _)
  refine .new R (o := .set (#[], 0, .fresh 0 0 (!c.w.params.followText "set-order")) []) (b := fun a => .ref a) (fun a => h a _) fun P k => call_set_core PySem.F.typeCall_set_0 PySem.F.newCall_set_0 check_set_init fun A' _ => ?_
  have hS : (s.heap.push (setObj0 c.w)).get? s.heap.objs.size = some { cls := .type "set", dict := none, data := .set #[] 0 (.fresh 0 0 (!c.w.params.followText "set-order")) } := Heap.get?_push_size _ rfl
  have hT : Shared.TypeIs { s with heap := s.heap.push (setObj0 c.w) } (.ref s.heap.objs.size) "set" := ⟨_, hS, rfl⟩
  have fin := k s.heap.objs.size (.ref s.heap.objs.size) (s.heap.push (setObj0 c.w)) s.toks push_grow (get_size _) ⟨_, hS, ⟨rfl, rfl, rfl⟩, rfl, SetInv.fresh 0⟩ rfl
  unfold Builtin.«set.__init__» noKeywords
  wp_walk
  exact ⟨rfl, fin⟩
set_option maxHeartbeats 4000000 in
theorem k_setl {l : Addr} {ks : List IS} (hx : Sees c H l (.list (ks.map IS.v))) (hz : ks.length ≤ 1000) (h : ∀ a z, Q (.ref a) m ((a, .set z (ks.foldl setPut [])) :: H)) : Cal c (.ty "set") [.ref l] m H Q := fun s vf vvs R rf rv P k => by
  cases (rf : vf = _)
  obtain ⟨va, rfl, ra⟩ := rv.sole
  cases (ra : va = _)
  obtain ⟨items, n, hl, hr⟩ := O.list_get (hx m s R)
  refine call_set_core (PySem.F.typeCall_set_1 _) (PySem.F.newCall_set_1 _) check_set_init_1 fun A' hA' => ?_
  have hS : (s.heap.push (setObj0 c.w)).get? s.heap.objs.size = some { cls := .type "set", dict := none, data := .set #[] 0 (.fresh 0 0 (!c.w.params.followText "set-order")) } := Heap.get?_push_size _ rfl
  have hT : Shared.TypeIs { s with heap := s.heap.push (setObj0 c.w) } (.ref s.heap.objs.size) "set" := ⟨_, hS, rfl⟩
  have hol : (s.heap.push (setObj0 c.w)).get? l = some { cls := .type "list", dict := none, data := .seq items n, slots := #[] } := push_grow _ _ hl
  have hsls := PySem.F.sub_list_set
  have hslf := PySem.F.sub_list_frozenset
  have hne : (Value.type "list" == Value.type "dict") = false := by decide
  have hl1 : (s.heap.push (setObj0 c.w)).IsList l items := ⟨_, hol, rfl, n, rfl⟩
  have hlt : l < s.heap.objs.size := Heap.lt_size hl
  unfold Builtin.«set.__init__» noKeywords Builtin.Frozenset.updateFrom
  generalize hPI : pyIter = PI
  wp_walk
  subst hPI
  refine wpAny_pyIter_list hl1 ?_
  refine wpAny_bind (wpAny_runValue ?_)
  have hsz : (s.heap.push (setObj0 c.w)).objs.size = s.heap.objs.size + 1 := by simp
  refine set_loop (S := s.heap.objs.size) (I := (s.heap.push (setObj0 c.w)).objs.size) (l := l) (items := items) (xs := ks) (z := (#[], 0, .fresh 0 0 (!c.w.params.followText "set-order"))) (ks := []) (by rw [hsz]; exact Nat.ne_of_lt (Nat.lt_succ_self _)) (by rw [hsz]; exact Nat.ne_of_lt (Nat.lt_succ_of_lt hlt)) (Nat.ne_of_lt hlt) ?hlen ?hx ?hb ?hh items.size 0 _ (by exact ar0 1 (.e (.s (.v 0) (.n 0)) (.v 0)) (by kernel_rfl) [_]) (Nat.zero_le _)
    ⟨_, Heap.get?_push_size _ rfl, rfl, rfl⟩ (let ⟨o, ho, q⟩ := hl1; ⟨o, push_grow _ _ ho, q⟩) ⟨_, push_grow _ _ hS, ⟨rfl, rfl, rfl⟩, rfl⟩ (SetInv.fresh 0) (Nat.le_refl _) fun h' tk z' hk' r' I' => ?_
  case hlen => rw [← Array.length_toList, hr.length]; simp
  case hx =>
    intro i v hv
    have hi : i < ks.length := by
      have : items.size = ks.length := by rw [← Array.length_toList, hr.length]; simp
      rw [← this]
      exact (Array.getElem?_eq_some_iff.mp hv).1
    have hq : (ks.map IS.v)[i]? = some (ks[i].v) := by simp [hi]
    obtain ⟨v', hv', rv'⟩ := hr.get hq
    rw [Array.getElem?_toList, hv] at hv'
    cases hv'
    exact ⟨ks[i], by simp [hi], isIS_rep rv'⟩
  case hb =>
    have : items.size = ks.length := by rw [← Array.length_toList, hr.length]; simp
    rw [this]
    have : scanBound = 4096 := rfl
    exact ar2 2 (.l (.v 0) (.n 1000)) (.e (.v 1) (.n 4096)) (.t (.a (.v 0) (.n 1)) (.v 1)) (by kernel_rfl) [_, _] hz this
  case hh => show A'.handled = _; rw [hA']; exact c.hh
  have g2 : ∀ b o, s.heap.get? b = some o → h'.get? b = some o := fun b o e => by
    have lt : b < s.heap.objs.size := Heap.lt_size e
    exact hk' b o (Nat.ne_of_lt lt) (by rw [hsz]; exact Nat.ne_of_lt (Nat.lt_succ_of_lt lt)) (push_grow _ _ (push_grow _ _ e))
  show wpAny _ _ _ _ _ _
  refine wpAny_pure ?_
  show wpAny _ _ (ret Value.none) _ _ _
  exact wpAny_pure ⟨rfl, k (.ref s.heap.objs.size) _ m _ h' (tkn s tk) (R.new (tkn s tk) g2 (get_size _) (set_mk r' I')) (.new g2 (get_size _)) rfl (h _ _)⟩
theorem gm_set {a : Addr} {z : Raw} {ks : List IS} {name : Str} {id : String} (hx : Sees c H a (.set z ks)) (slot : Slot "set" name id) (hty : typeOf (.builtin id) = pure (.type "method_descriptor")) : GM c (.ref a) name (.bi id) [.ref a] H := fun m s vu pl P R r k => by
  cases (r : vu = _)
  obtain ⟨⟨o, ho, hex, hd⟩, I⟩ := set_get (hx m s R)
  exact getMethod_builtin ⟨o, ho, hex.1⟩ PySem.F.plainAttrs_set slot hty (fun b e => by cases e; exact ⟨_, ho, hex.2.1⟩) (k _ _ s.toks rfl (.one rfl))
theorem k_add {a : Addr} {z : Raw} {ks : List IS} {k : IS} {F : O → Hp} (sp : Spot a (.set z ks) H F) (hz : ks.length ≤ 1000) (h : ∀ z', Q .none m (F (.set z' (setPut ks k)))) : Cal c (.bi "set.add") [.ref a, k.v] m H Q := fun s vf vvs R rf rv P kk => by
  cases (rf : vf = _)
  obtain ⟨va, vk, rfl, ra, rk⟩ := Reps.two rv
  cases (ra : va = _)
  obtain ⟨⟨o, ho, hex, hd⟩, I⟩ := set_get (R.obj _ _ (sp.upd (.set z ks)).mem)
  have hk := isIS_rep rk
  refine wpAny_call_entry PySem.F.slot_set_add ⟨o, ho, hex.1⟩ PySem.F.entry_set_add ?_ (PySem.F.args_set_add_2 _ _)
  unfold Builtin.«set.add» Builtin.Frozenset.oneOther
  simp only [List.isEmpty_nil, bind_assoc]
  unfold Builtin.Frozenset.addrOf setAdd
  refine wpAny_bind (wpAny_pure ?_)
  try dsimp only
  refine wpAny_bind (wpAny_pure ?_)
  try dsimp only
  refine wpAny_bind ?_
  refine wpAny_holding ?_
  refine wpAny_bind ((mixKind c.prog c.w).pyHash hk ?_)
  refine set_addHashed (s := { s with toks := s.toks + 1 }) hk (isIS_scan hk) ⟨o, ho, hex, hd⟩ I (by have : scanBound = 4096 := rfl; exact ar2 2 (.l (.v 0) (.n 1000)) (.e (.v 1) (.n 4096)) (.t (.a (.v 0) (.n 1)) (.v 1)) (by kernel_rfl) [_, _] hz this) fun h' z' b hs' r' I' => ?_
  have al : ∃ o, h'.get? a = some o := let ⟨o, ho, _⟩ := r'; ⟨o, ho⟩
  show wpAny _ _ (ret Value.none) _ _ _
  exact wpAny_pure ⟨_, rfl, kk .none _ m _ h' (tkn s (s.toks + 1)) (R.upd _ (sp.upd _) (Heap.SameBut.kp hs') al fun _ => set_mk r' I') (.upd (sp.upd _) (Heap.SameBut.kp hs') al) rfl (h z')⟩
end
end Mine
end
section
open PySem PySem.W PyProof.Rows PySem.Calls PySem.SeqAt
set_option maxRecDepth 100000
namespace Mine
/-! facts of the set's iterator -/
theorem slot_sit_next : Slot "set_iterator" "__next__" "set_iterator.__next__" :=
  .of (owner := "set_iterator") (n := "__next__") (by rw [typeLookup_type, builtinLookup_eq_fast]; kernel_rfl) (by decide +kernel) (by decide +kernel) (by decide +kernel)
    (by first | exact .inl (by decide +kernel) | exact .inr (by decide +kernel)) (by rw [isSubtype_type]; kernel_rfl)
theorem entry_sit_next : entryFor table "set_iterator.__next__" = some Builtin.«set_iterator.__next__» := entryFor_of_tree (by kernel_rfl)
theorem owner_sit : Manifest.owners.lookup (String.ofList ['r', 'o', 't', 'a', 'r', 'e', 't', 'i', '_', 't', 'e', 's'].reverse) = some Manifest.sig_set_iterator := by kernel_rfl
theorem args_sit_next (a : Value) : argsOk "set_iterator.__next__" ⟨[a], []⟩ := by
  unfold argsOk; rw [signature?_of (id := "set_iterator.__next__") (n := ['_', '_', 't', 'x', 'e', 'n', '_', '_']) (o := ['r', 'o', 't', 'a', 'r', 'e', 't', 'i', '_', 't', 'e', 's']) (by kernel_rfl) owner_sit]; kernel_rfl
theorem entry_set_iter : entryFor table "set.__iter__" = some Builtin.«frozenset.__iter__» :=
  entryFor_alias (id' := "frozenset.__iter__") (by kernel_rfl) rfl (by decide +kernel) (by kernel_rfl)
section
variable {prog : Program} {w : World} {A : Around} {E : Value → Shared → Prop} {s : Shared}
theorem wp_choose {src : Source} {n : Nat} {M : Model} {Q : Nat → Shared → Prop} (hn : n ≠ 0) (h : ∀ i, i < n → Q i { s with drawn := s.drawn.bump src }) : wpAny M A (choose src n) Q E s := fun Γ p _ => by
  unfold choose
  rw [Sem.wp_choose]
  exact ⟨hn, h _ (Nat.mod_lt _ (Nat.pos_of_ne_zero hn))⟩
theorem erase_perm {α : Type} : ∀ (l : List α) (i : Nat) (x : α), l[i]? = some x → List.Perm (x :: l.eraseIdx i) l
  | [], i, x, e => by simp at e
  | y :: l, 0, x, e => by simp at e; subst e; simp
  | y :: l, i + 1, x, e => by
    simp at e
    simp only [List.eraseIdx_cons_succ]
    exact (List.Perm.swap y x _).trans ((erase_perm l i x e).cons y)
theorem wp_drawOrder {α : Type} {M : Model} : ∀ (n : Nat) (l : List α) (s : Shared) {Q : List α → Shared → Prop}, l.length = n → (∀ l' d, List.Perm l' l → Q l' { s with drawn := d }) → wpAny M A (drawOrder n l) Q E s
  | 0, l, s, Q, hl, h => by
    have : l = [] := by simpa using hl
    subst this
    exact wpAny_pure (h [] s.drawn .rfl)
  | n + 1, [], s, Q, hl, h => by simp at hl
  | n + 1, y :: l, s, Q, hl, h => by
    unfold drawOrder
    refine wpAny_bind (wp_choose (by simp) fun i hi => ?_)
    have e : (y :: l)[i]? = some (y :: l)[i] := by simp [hi]
    rw [e]
    dsimp only
    have p := erase_perm _ _ _ e
    refine wpAny_bind (wp_drawOrder n ((y :: l).eraseIdx i) _ (by have := p.length_eq; simp at this hl ⊢; exact ar2 3 (.e (.v 0) (.v 1)) (.e (.v 1) (.v 2)) (.e (.v 0) (.v 2)) (by kernel_rfl) [_, _, _] this hl) fun l' d hp => ?_)
    exact wpAny_pure (h _ d ((hp.cons _).trans p))
theorem pick_perm {α : Type} (next : Nat → Nat) : ∀ (fuel k : Nat) (left : List α) (out : Array α), fuel = left.length → List.Perm (pickOrder.go next fuel k left out).toList (out.toList ++ left)
  | 0, k, left, out, h => by
    have : left = [] := by simpa using h.symm
    subst this
    simp [pickOrder.go]
  | fuel + 1, k, left, out, h => by
    unfold pickOrder.go
    have hlt : next k % left.length < left.length := Nat.mod_lt _ (by exact ar1 2 (.e (.a (.v 0) (.n 1)) (.v 1)) (.t (.n 0) (.v 1)) (by kernel_rfl) [_, _] h)
    have e : left[next k % left.length]? = some left[next k % left.length] := by simp [hlt]
    rw [e]
    dsimp only
    have p := erase_perm _ _ _ e
    refine (pick_perm next fuel (k + 1) _ _ (by have := p.length_eq; simp at this; exact ar2 3 (.e (.a (.v 0) (.n 1)) (.v 1)) (.e (.a (.v 2) (.n 1)) (.v 1)) (.e (.v 0) (.v 2)) (by kernel_rfl) [_, _, _] h this)).trans ?_
    rw [Array.toList_push, List.append_assoc]
    exact List.Perm.append_left _ p
theorem pickOrder_perm {α : Type} (next : Nat → Nat) (xs : Array α) : List.Perm (pickOrder next xs).toList xs.toList := by
  unfold pickOrder
  simpa using pick_perm next xs.size 0 xs.toList #[] (by simp)
noncomputable def slotAt (place : Array Nat) (i : Nat) : Nat := if i = 0 then 0 else place.getD (i - 1) 0 + 1
theorem below_next {xs : Array Nat} (h : xs.toList.Pairwise (· < ·)) {i : Nat} (hi : i ≤ xs.size) : SetTable.below xs (slotAt xs i) = i := by
  obtain ⟨h1, h2, h3⟩ := below_spec h (slotAt xs i)
  have hr := rises h (slotAt xs i)
  cases i with
  | zero =>
    rcases Nat.eq_zero_or_pos (SetTable.below xs (slotAt xs 0)) with q | q
    · exact q
    · have := h2 0 q; unfold slotAt at this; simp at this
  | succ i =>
    have hlt : i < xs.size := by exact ar1 2 (.l (.a (.v 0) (.n 1)) (.v 1)) (.t (.v 0) (.v 1)) (by kernel_rfl) [_, _] hi
    have es : slotAt xs (i + 1) = xs[i] + 1 := by unfold slotAt; simp [hlt]
    rcases Nat.lt_trichotomy (SetTable.below xs (slotAt xs (i + 1))) (i + 1) with q | q | q
    · have := h3 i (by exact ar1 2 (.t (.v 0) (.a (.v 1) (.n 1))) (.l (.v 0) (.v 1)) (by kernel_rfl) [_, _] q) hlt
      simp [hlt] at this
      rw [es] at this
      exact ar1 3 (.l (.a (.v 0) (.n 1)) (.v 0)) (.e (.v 1) (.a (.v 2) (.n 1))) (by kernel_rfl) [_, _, _] this
    · exact q
    · have hb : i + 1 < xs.size := by exact ar2 3 (.l (.v 0) (.v 1)) (.t (.a (.v 2) (.n 1)) (.v 0)) (.t (.a (.v 2) (.n 1)) (.v 1)) (by kernel_rfl) [_, _, _] h1 q
      have l1 := h2 (i + 1) q
      have l2 := hr i (i + 1) (by exact ar0 1 (.t (.v 0) (.a (.v 0) (.n 1))) (by kernel_rfl) [_]) hb
      simp [hlt, hb] at l1 l2
      rw [es] at l1
      exact ar2 4 (.t (.v 0) (.a (.v 1) (.n 1))) (.t (.v 1) (.v 0)) (.e (.v 2) (.a (.v 3) (.n 1))) (by kernel_rfl) [_, _, _, _] l1 l2
end
end Mine
end
section
open PySem PySem.W PyProof.Rows PySem.Calls PySem.SeqAt
set_option maxRecDepth 100000
namespace Mine
noncomputable def sitObj (first : Value) (i : Nat) (a : Addr) (z : Raw) : Obj := { cls := .type "set_iterator", dict := none, data := .fields #[first, .int i 0, .ref a, .int z.1.size 0, .int z.2.1 0], slots := #[] }
section
variable {prog : Program} {w : World} {A : Around} {E : Value → Shared → Prop} {s : Shared}
theorem sit_stop {it : Addr} {Q : Option Value → Shared → Prop} (hh : A.handled = none) (hQ : ∀ h', (∀ b o, s.heap.get? b = some o → h'.get? b = some o) → Q none { s with heap := h' }) :
    wpAny (model prog w) A.in1 (do let x ← newExc (.type "StopIteration") []; raiseNew x) (fun (fin : PySem.Fin) s' => ∃ v, fin = .done (.ret v) ∧ wpAny (model prog w) A (pure (some v)) Q E s')
      (fun e s' => wpAny (model prog w) A (do if (← isInstance e (.type "StopIteration")) = true then pure none else throw e) Q E s') s := by
  refine wpAny_bind ?_
  simp only [newExc, newTuple]
  refine wpAny_bind (wpAny_newObj_type ?_ (by size_fits))
  refine wpAny_bind (m := firstArgMember _ _) (wpAny_of_eq (a := Value.none) (by first | rfl | (simp only [firstArgMember]; rfl)) ?_)
  refine wpAny_newObj_type ?_ (by size_fits)
  simp only [raiseNew]
  refine wpAny_bind (wpAny_handled ?_)
  rw [show A.in1.handled = none from hh]
  refine wpAny_bind (wpAny_pure (wpAny_throw ?_))
  refine wpAny_bind (wpAny_isInstance (T := "StopIteration") (b := true) ⟨_, Heap.get?_push_size _ rfl, rfl⟩ isSubtype_stop ?_)
  exact wpAny_pure (hQ _ fun b o e => push_grow _ _ (push_grow _ _ e))
theorem sit_fields {it a : Addr} {first : Value} {i : Nat} {z : Raw} {h : Heap} (hit : h.get? it = some (sitObj first i a z)) (f : Array Value → Array Value) :
    (h.update it (Obj.mapFields f)).get? it = some { sitObj first i a z with data := .fields (f #[first, .int i 0, .ref a, .int z.1.size 0, .int z.2.1 0]) } := Heap.get?_update_self _ hit rfl
theorem sit_int {it a : Addr} {slot i next : Nat} {x : Value} {z : Raw} {ks : List IS} {Q : Option Value → Shared → Prop} (hit : s.heap.get? it = some (sitObj (.int slot 0) i a z)) (r : RawAt s.heap a z) (I : SetInv prog w z ks)
    (hnext : ∀ (A' : Around) (Q' : Option (Value × Nat) → Shared → Prop) (E' : Value → Shared → Prop), Q' (some (x, next)) s → wpAny (model prog w) A' (setNext a slot i z.2.1) Q' E' s)
    (hQ : ∀ h', h'.get? it = some (sitObj (.int next 0) (i + 1) a z) → Heap.SameBut it s.heap h' → Q (some x) { s with heap := h' }) : wpAny (model prog w) A (pyNext (.ref it)) Q E s := by
  have hT : s.TypeIs (.ref it) "set_iterator" := ⟨_, hit, rfl⟩
  obtain ⟨o, ho, hex, hd⟩ := r
  unfold pyNext
  refine wpAny_bind (wpAny_attempt (wpAny_callSpecial?_slot (name := Str.ofString "__next__") hT slot_sit_next (wpAny_call_entry slot_sit_next hT entry_sit_next ?_ (args_sit_next _))))
  unfold Builtin.«set_iterator.__next__»
  refine wpAny_bind (wpAny_pure ?_)
  refine wpAny_bind (wpAny_fieldsOf hit rfl ?_)
  dsimp only
  refine wpAny_bind (wpAny_setEntries_of ho hd I.fits ?_)
  rw [if_neg (by simp)]
  refine wpAny_bind ?_
  rw [Int.toNat_natCast, Int.toNat_natCast, Int.toNat_natCast]
  refine hnext _ _ _ ?_
  dsimp only
  refine wpAny_bind (wpAny_setField hit rfl (by simp) ?_)
  refine wpAny_bind (wpAny_setField (s := { s with heap := _ }) (sit_fields hit _) rfl (by simp) ?_)
  refine wpAny_pure ⟨x, rfl, wpAny_pure (hQ _ ?_ ((Heap.SameBut.update ..).trans (Heap.SameBut.update ..)))⟩
  rw [Heap.get?_update_self _ (sit_fields hit _) rfl]
  rfl
theorem sit_int_end {it a : Addr} {slot i : Nat} {z : Raw} {ks : List IS} {Q : Option Value → Shared → Prop} (hh : A.handled = none) (hit : s.heap.get? it = some (sitObj (.int slot 0) i a z)) (r : RawAt s.heap a z) (I : SetInv prog w z ks)
    (hnext : ∀ (A' : Around) (Q' : Option (Value × Nat) → Shared → Prop) (E' : Value → Shared → Prop), Q' none s → wpAny (model prog w) A' (setNext a slot i z.2.1) Q' E' s)
    (hQ : ∀ h', (∀ b o, b ≠ it → s.heap.get? b = some o → h'.get? b = some o) → Q none { s with heap := h' }) : wpAny (model prog w) A (pyNext (.ref it)) Q E s := by
  have hT : s.TypeIs (.ref it) "set_iterator" := ⟨_, hit, rfl⟩
  obtain ⟨o, ho, hex, hd⟩ := r
  unfold pyNext
  refine wpAny_bind (wpAny_attempt (wpAny_callSpecial?_slot (name := Str.ofString "__next__") hT slot_sit_next (wpAny_call_entry slot_sit_next hT entry_sit_next ?_ (args_sit_next _))))
  unfold Builtin.«set_iterator.__next__»
  refine wpAny_bind (wpAny_pure ?_)
  refine wpAny_bind (wpAny_fieldsOf hit rfl ?_)
  dsimp only
  refine wpAny_bind (wpAny_setEntries_of ho hd I.fits ?_)
  rw [if_neg (by simp)]
  refine wpAny_bind ?_
  rw [Int.toNat_natCast, Int.toNat_natCast, Int.toNat_natCast]
  refine hnext _ _ _ ?_
  dsimp only
  refine wpAny_bind (wpAny_setField hit rfl (by simp) ?_)
  refine sit_stop (it := it) (s := { s with heap := _ }) hh fun h' hk => hQ h' fun b o hb e => hk b o (((Heap.SameBut.update ..).2 b hb).trans e)
noncomputable def tupObj (idx : List Nat) : Obj := { cls := .type "tuple", data := .seq (idx.map fun (j : Nat) => rawInt j).toArray }
theorem sit_tup {it a T : Addr} {i j : Nat} {idx : List Nat} {e : Int × Value} {z : Raw} {ks : List IS} {Q : Option Value → Shared → Prop} (hit : s.heap.get? it = some (sitObj (.ref T) i a z)) (hT' : s.heap.get? T = some (tupObj idx)) (r : RawAt s.heap a z) (I : SetInv prog w z ks)
    (hj : idx[i]? = some j) (he : z.1[j]? = some e)
    (hQ : ∀ h', h'.get? it = some (sitObj (.ref T) (i + 1) a z) → Heap.SameBut it s.heap h' → Q (some e.2) { s with heap := h' }) : wpAny (model prog w) A (pyNext (.ref it)) Q E s := by
  have hT : s.TypeIs (.ref it) "set_iterator" := ⟨_, hit, rfl⟩
  obtain ⟨o, ho, hex, hd⟩ := r
  unfold pyNext
  refine wpAny_bind (wpAny_attempt (wpAny_callSpecial?_slot (name := Str.ofString "__next__") hT slot_sit_next (wpAny_call_entry slot_sit_next hT entry_sit_next ?_ (args_sit_next _))))
  unfold Builtin.«set_iterator.__next__»
  refine wpAny_bind (wpAny_pure ?_)
  refine wpAny_bind (wpAny_fieldsOf hit rfl ?_)
  dsimp only
  refine wpAny_bind (wpAny_setEntries_of ho hd I.fits ?_)
  rw [if_neg (by simp)]
  refine wpAny_bind (wpAny_seqItems hT' rfl ?_)
  dsimp only
  have hp : ((idx.map fun (j : Nat) => rawInt j).toArray)[(i : Int).toNat]? = some (.int j 0) := by
    rw [Int.toNat_natCast, List.getElem?_toArray, List.getElem?_map, hj]; rfl
  rw [hp]
  dsimp only
  refine wpAny_bind ?_
  rw [Int.toNat_natCast, Int.toNat_natCast]
  unfold setNextDrawn
  refine wpAny_bind (wpAny_setState_of ho hd I.fits ?_)
  dsimp only
  rw [if_neg (by simp), he]
  refine wpAny_pure ?_
  refine wpAny_bind (wpAny_setField hit rfl (by simp) ?_)
  refine wpAny_pure ⟨e.2, rfl, wpAny_pure (hQ _ ?_ (Heap.SameBut.update ..))⟩
  rw [sit_fields hit]
  rfl
theorem sit_tup_end {it a T : Addr} {i : Nat} {idx : List Nat} {z : Raw} {ks : List IS} {Q : Option Value → Shared → Prop} (hh : A.handled = none) (hit : s.heap.get? it = some (sitObj (.ref T) i a z)) (hT' : s.heap.get? T = some (tupObj idx)) (r : RawAt s.heap a z) (I : SetInv prog w z ks)
    (hj : idx[i]? = none)
    (hQ : ∀ h', (∀ b o, b ≠ it → s.heap.get? b = some o → h'.get? b = some o) → Q none { s with heap := h' }) : wpAny (model prog w) A (pyNext (.ref it)) Q E s := by
  have hT : s.TypeIs (.ref it) "set_iterator" := ⟨_, hit, rfl⟩
  obtain ⟨o, ho, hex, hd⟩ := r
  unfold pyNext
  refine wpAny_bind (wpAny_attempt (wpAny_callSpecial?_slot (name := Str.ofString "__next__") hT slot_sit_next (wpAny_call_entry slot_sit_next hT entry_sit_next ?_ (args_sit_next _))))
  unfold Builtin.«set_iterator.__next__»
  refine wpAny_bind (wpAny_pure ?_)
  refine wpAny_bind (wpAny_fieldsOf hit rfl ?_)
  dsimp only
  refine wpAny_bind (wpAny_setEntries_of ho hd I.fits ?_)
  rw [if_neg (by simp)]
  refine wpAny_bind (wpAny_seqItems hT' rfl ?_)
  dsimp only
  have hp : ((idx.map fun (j : Nat) => rawInt j).toArray)[(i : Int).toNat]? = none := by
    rw [Int.toNat_natCast, List.getElem?_toArray, List.getElem?_map, hj]; rfl
  rw [hp]
  dsimp only
  refine wpAny_bind (wpAny_setField hit rfl (by simp) ?_)
  refine wpAny_bind (wpAny_setField (s := { s with heap := _ }) (sit_fields hit _) rfl (by simp) ?_)
  refine sit_stop (it := it) (s := { s with heap := _ }) hh fun h' hk => hQ h' fun b o hb e => hk b o (((Heap.SameBut.update ..).2 b hb).trans (((Heap.SameBut.update ..).2 b hb).trans e))
theorem next_text {a : Addr} {slot i : Nat} {z : Raw} {ks : List IS} {Q : Option (Value × Nat) → Shared → Prop} (r : RawAt s.heap a z) (I : SetInv prog w z ks) (hw : w.params.followText "set-order" = true)
    (h : Q (((pickOrder (w.params.setOrder a z.2.1) z.1)[i]?).map fun e => (e.2, slot)) s) : wpAny (model prog w) A (setNext a slot i z.2.1) Q E s := by
  obtain ⟨o, ho, hex, hd⟩ := r
  unfold setNext setWalk setsByText
  refine wpAny_bind (wpAny_setState_of ho hd I.fits ?_)
  dsimp only
  refine wpAny_bind (wpAny_bind (wpAny_askSetting (wpAny_pure ?_)))
  show wpAny _ _ (if w.params.followText "set-order" = true then _ else _) _ _ _
  rw [if_pos hw]
  rw [if_neg (by simp)]
  refine wpAny_bind ?_
  refine wpAny_bind (wpAny_setState_of ho hd I.fits ?_)
  dsimp only
  refine wpAny_bind (wpAny_bind (wpAny_askSetting (wpAny_pure ?_)))
  show wpAny _ _ (if w.params.followText "set-order" = true then _ else _) _ _ _
  rw [if_pos hw]
  refine wpAny_bind (wpAny_askSetting (wpAny_pure ?_))
  exact wpAny_pure h
theorem next_place {a : Addr} {i g : Nat} {z : Raw} {ks : List IS} {Q : Option (Value × Nat) → Shared → Prop} (r : RawAt s.heap a z) (I : SetInv prog w z ks) (hw : w.params.followText "set-order" = false) (hdr : (!z.2.2.plain && decide (z.1.size > 1)) = false) (hi : i ≤ z.1.size)
    (h : Q ((z.1[i]?).map fun e => (e.2, slotAt z.2.2.place (i + 1))) s) : wpAny (model prog w) A (setNext a (slotAt z.2.2.place i) g z.2.1) Q E s := by
  obtain ⟨o, ho, hex, hd⟩ := r
  have hf := I.fits
  simp only [SetTable.fits, Bool.and_eq_true, beq_iff_eq] at hf
  unfold setNext setsByText
  refine wpAny_bind (wpAny_setState_of ho hd I.fits ?_)
  dsimp only
  refine wpAny_bind (wpAny_bind (wpAny_askSetting (wpAny_pure ?_)))
  show wpAny _ _ (if w.params.followText "set-order" = true then _ else _) _ _ _
  rw [if_neg (by rw [hw]; simp)]
  show wpAny _ _ (if (!z.2.2.plain && decide (z.1.size > 1)) = true then _ else _) _ _ _
  rw [if_neg (by rw [hdr]; simp)]
  refine wpAny_bind (m := (do if (!z.2.2.led && !z.1.isEmpty) = true then unsupported "set:maker-not-led" else pure ())) ?_
  rw [if_neg (by rw [I.led, hw]; simp)]
  refine wpAny_pure ?_
  rw [below_next I.tame.1 (by rw [hf.1]; exact hi)]
  refine wpAny_pure ?_
  by_cases hlt : i < z.1.size
  · have e1 : z.1[i]? = some z.1[i] := by simp [hlt]
    have hp : i < z.2.2.place.size := by rw [hf.1]; exact hlt
    have e2 : z.2.2.place[i]? = some z.2.2.place[i] := by simp [hp]
    rw [e1] at h
    rw [e1, e2]
    have e3 : slotAt z.2.2.place (i + 1) = z.2.2.place[i] + 1 := by unfold slotAt; simp [hp]
    rw [e3] at h
    exact h
  · have e1 : z.1[i]? = none := by simp; exact ar1 2 (.no (.t (.v 0) (.v 1))) (.l (.v 1) (.v 0)) (by kernel_rfl) [_, _] hlt
    rw [e1] at h ⊢
    exact h
end
end Mine
end
section
open PySem PySem.W PyProof.Rows PySem.Calls PySem.SeqAt
set_option maxRecDepth 100000
namespace Mine
noncomputable def SetJ (w : World) (z : Raw) (a it : Addr) (W : List (Int × Value)) (Cl : Addr → Prop) (i : Nat) (h : Heap) : Prop :=
  ∃ first, h.get? it = some (sitObj first i a z) ∧
    ((w.params.followText "set-order" = true ∧ first = .int (0 : Nat) 0 ∧ W = (pickOrder (w.params.setOrder a z.2.1) z.1).toList) ∨
     (w.params.followText "set-order" = false ∧ (!z.2.2.plain && decide (z.1.size > 1)) = false ∧ first = .int (slotAt z.2.2.place i) 0 ∧ W = z.1.toList) ∨
     ∃ T idx, first = .ref T ∧ h.get? T = some (tupObj idx) ∧ Cl T ∧ T ≠ it ∧ (∀ j ∈ idx, j < z.1.size) ∧ W = idx.map fun j => z.1.getD j (0, .none))
theorem map_getD {α : Type} (es : Array α) (d : α) : (List.range es.size).map (fun j => es.getD j d) = es.toList := by
  apply List.ext_getElem
  · simp
  · intro i h1 h2
    simp at h1
    simp [h1]
section
variable {prog : Program} {w : World} {A : Around} {E : Value → Shared → Prop} {s : Shared}
theorem SetJ.item {z : Raw} {a it : Addr} {W : List (Int × Value)} {Cl : Addr → Prop} {i : Nat} {ks : List IS} {e : Int × Value} {Q : Option Value → Shared → Prop} (j : SetJ w z a it W Cl i s.heap) (r : RawAt s.heap a z) (I : SetInv prog w z ks) (hW : W[i]? = some e) (hl : W.length = z.1.size)
    (hQ : ∀ h', SetJ w z a it W Cl (i + 1) h' → Heap.SameBut it s.heap h' → Q (some e.2) { s with heap := h' }) : wpAny (model prog w) A (pyNext (.ref it)) Q E s := by
  obtain ⟨first, hit, q⟩ := j
  have hi : i < W.length := by
    rcases Nat.lt_or_ge i W.length with q | q
    · exact q
    · rw [List.getElem?_eq_none q] at hW; cases hW
  rcases q with ⟨hw, rfl, rfl⟩ | ⟨hw, hdr, rfl, rfl⟩ | ⟨T, idx, rfl, hT, cT, nT, hlt, rfl⟩
  · refine sit_int (x := e.2) (next := 0) hit r I (fun A' Q' E' q => next_text r I hw ?_) fun h' hit' hs => hQ h' ⟨_, hit', .inl ⟨hw, rfl, rfl⟩⟩ hs
    rw [← Array.getElem?_toList, hW]; exact q
  · refine sit_int (x := e.2) (next := slotAt z.2.2.place (i + 1)) hit r I (fun A' Q' E' q => next_place r I hw hdr (by rw [← hl]; exact Nat.le_of_lt hi) ?_) fun h' hit' hs => hQ h' ⟨_, hit', .inr (.inl ⟨hw, hdr, rfl, rfl⟩)⟩ hs
    rw [← Array.getElem?_toList, hW]; exact q
  · rw [List.getElem?_map] at hW
    cases hj : idx[i]? with
    | none => rw [hj] at hW; cases hW
    | some j =>
      rw [hj] at hW
      simp at hW
      have hlj := hlt j (List.mem_of_getElem? hj)
      have he : z.1[j]? = some e := by simp [hlj] at hW ⊢; exact hW
      refine sit_tup hit hT r I hj he fun h' hit' hs => hQ h' ⟨_, hit', .inr (.inr ⟨T, idx, rfl, (hs.2 T nT).trans hT, cT, nT, hlt, rfl⟩)⟩ hs
theorem SetJ.done {z : Raw} {a it : Addr} {W : List (Int × Value)} {Cl : Addr → Prop} {ks : List IS} {Q : Option Value → Shared → Prop} (hh : A.handled = none) (j : SetJ w z a it W Cl W.length s.heap) (r : RawAt s.heap a z) (I : SetInv prog w z ks) (hl : W.length = z.1.size)
    (hQ : ∀ h', (∀ b o, b ≠ it → s.heap.get? b = some o → h'.get? b = some o) → Q none { s with heap := h' }) : wpAny (model prog w) A (pyNext (.ref it)) Q E s := by
  obtain ⟨first, hit, q⟩ := j
  rcases q with ⟨hw, rfl, rfl⟩ | ⟨hw, hdr, rfl, rfl⟩ | ⟨T, idx, rfl, hT, cT, nT, hlt, rfl⟩
  · refine sit_int_end hh hit r I (fun A' Q' E' q => next_text r I hw ?_) hQ
    rw [← Array.getElem?_toList, List.getElem?_eq_none (Nat.le_refl _)]; exact q
  · refine sit_int_end hh hit r I (fun A' Q' E' q => next_place r I hw hdr (by simp) ?_) hQ
    rw [← Array.getElem?_toList, List.getElem?_eq_none (Nat.le_refl _)]; exact q
  · exact sit_tup_end hh hit hT r I (by simp) hQ
theorem SetJ.keep {z : Raw} {a it : Addr} {W : List (Int × Value)} {Cl Cl' : Addr → Prop} {i : Nat} {h h' : Heap} (j : SetJ w z a it W Cl i h) (k1 : ∀ o, h.get? it = some o → h'.get? it = some o) (k2 : ∀ b o, Cl b → h.get? b = some o → h'.get? b = some o ∧ Cl' b) : SetJ w z a it W Cl' i h' := by
  obtain ⟨first, hit, q⟩ := j
  refine ⟨first, k1 _ hit, ?_⟩
  rcases q with q | q | ⟨T, idx, rfl, hT, cT, q⟩
  · exact .inl q
  · exact .inr (.inl q)
  · exact .inr (.inr ⟨T, idx, rfl, (k2 T _ cT hT).1, (k2 T _ cT hT).2, q⟩)
theorem set_pyIter {z : Raw} {a : Addr} {ks : List IS} {Cl : Addr → Prop} {Q : Value → Shared → Prop} (r : RawAt s.heap a z) (I : SetInv prog w z ks) (hCl : ∀ b, s.heap.get? b = none → Cl b)
    (h : ∀ h' d W it, List.Perm W z.1.toList → SetJ w z a it W Cl 0 h' → (∀ b o, s.heap.get? b = some o → h'.get? b = some o) → s.heap.get? it = none → Q (.ref it) { s with heap := h', drawn := d }) : wpAny (model prog w) A (pyIter (.ref a)) Q E s := by
  obtain ⟨o, ho, hex, hd⟩ := r
  have hT : s.TypeIs (.ref a) "set" := ⟨o, ho, hex.1⟩
  have fin : ∀ (s' : Shared) (it : Addr) (ob : Obj), s'.heap.get? it = some ob → ob.cls = .type "set_iterator" → Q (.ref it) s' → ∃ v, PySem.Fin.done (Flow.ret (Value.ref it)) = .done (.ret v) ∧ ∃ T id, s'.TypeIs v T ∧ typeLookup (.type T) "__next__" = pure (some id) ∧ Q v s' :=
    fun s' it ob e1 e2 q => ⟨_, rfl, "set_iterator", _, ⟨ob, e1, e2⟩, slot_sit_next.lookup, q⟩
  refine wpAny_pyIter_slot hT PySem.F.slot_set_iter (wpAny_call_entry PySem.F.slot_set_iter hT entry_set_iter ?_ (PySem.F.args_set_iter_1 _))
  unfold Builtin.«frozenset.__iter__» Builtin.Frozenset.slot0 Builtin.Frozenset.sizeOf setDrawn setsByText
  refine wpAny_bind (wpAny_bind (wpAny_pure (wpAny_pure ?_)))
  refine wpAny_bind (wpAny_bind (wpAny_setEntries_of ho hd I.fits (wpAny_pure ?_)))
  refine wpAny_bind (wpAny_bind (wpAny_setState_of ho hd I.fits ?_))
  dsimp only
  refine wpAny_bind (wpAny_bind (wpAny_askSetting (wpAny_pure (wpAny_pure ?_))))
  show wpAny _ _ (if (!w.params.followText "set-order" && (!z.2.2.plain && decide (z.1.size > 1))) = true then _ else _) _ _ _
  by_cases hq : (!w.params.followText "set-order" && (!z.2.2.plain && decide (z.1.size > 1))) = true
  · rw [if_pos hq]
    refine wpAny_bind (wp_drawOrder _ _ _ (by simp) fun idx d hp => ?_)
    have hlt : ∀ j ∈ idx, j < z.1.size := fun j hj => by simpa using hp.mem_iff.mp hj
    have hsz : idx.length = z.1.size := by simpa using hp.length_eq
    refine wpAny_bind (wpAny_newTuple ?_ (by have := I.lt; have e : scanBound = 4096 := rfl; rw [List.length_map, hsz, sizeLine_eq]; exact ar2 2 (.t (.v 0) (.v 1)) (.e (.v 1) (.n 4096)) (.l (.v 0) (.n 16777216)) (by kernel_rfl) [_, _] this e))
    have ho' : (s.heap.push (tupObj idx)).get? a = some o := push_grow _ _ ho
    refine wpAny_bind (wpAny_setEpoch_of (s := { s with heap := s.heap.push (tupObj idx), drawn := d }) ho' hd I.fits ?_)
    refine wpAny_bind (wpAny_newObj_type ?_ (by size_fits))
    have hTt : (s.heap.push (tupObj idx)).get? s.heap.objs.size = some (tupObj idx) := Heap.get?_push_size _ rfl
    have hit : ((s.heap.push (tupObj idx)).push (sitObj (.ref s.heap.objs.size) 0 a z)).get? (s.heap.push (tupObj idx)).objs.size = some (sitObj (.ref s.heap.objs.size) 0 a z) := Heap.get?_push_size _ rfl
    have hsz1 : (s.heap.push (tupObj idx)).objs.size = s.heap.objs.size + 1 := by simp
    refine wpAny_pure (fin _ _ _ hit rfl (h _ d (idx.map fun j => z.1.getD j (0, .none)) _ ?_ ⟨_, hit, .inr (.inr ⟨_, idx, rfl, push_grow _ _ hTt, hCl _ (get_size _), by rw [hsz1]; exact Nat.ne_of_lt (Nat.lt_succ_self _), hlt, rfl⟩)⟩ (fun b o e => push_grow _ _ (push_grow _ _ e)) (get_ge (by rw [hsz1]; exact Nat.le_succ _))))
    rw [← map_getD z.1 (0, .none)]
    exact hp.map _
  · rw [if_neg hq]
    refine wpAny_bind (wpAny_pure ?_)
    refine wpAny_bind (wpAny_setEpoch_of ho hd I.fits ?_)
    refine wpAny_bind (wpAny_newObj_type ?_ (by size_fits))
    have hit : (s.heap.push (sitObj (.int (0 : Nat) 0) 0 a z)).get? s.heap.objs.size = some (sitObj (.int (0 : Nat) 0) 0 a z) := Heap.get?_push_size _ rfl
    by_cases hw : w.params.followText "set-order" = true
    · exact wpAny_pure (fin _ _ _ hit rfl (h _ s.drawn _ _ (pickOrder_perm _ _) ⟨_, hit, .inl ⟨hw, rfl, rfl⟩⟩ push_grow (get_size _)))
    · have hw' : w.params.followText "set-order" = false := by simpa using hw
      have hdr : (!z.2.2.plain && decide (z.1.size > 1)) = false := by
        rw [hw'] at hq
        simpa using hq
      exact wpAny_pure (fin _ _ _ hit rfl (h _ s.drawn _ _ .rfl ⟨_, hit, .inr (.inl ⟨hw', hdr, rfl, rfl⟩)⟩ push_grow (get_size _)))
end
end Mine
end
section
open PySem PySem.W PyProof.Rows PySem.Calls PySem.SeqAt
set_option maxRecDepth 100000
namespace Mine
noncomputable def keyOf (e : Int × Value) : IS := match e.2 with
  | .int n _ => .i n
  | .str x _ => .s x
  | _ => .i 0
theorem keyOf_is {k : IS} {e : Int × Value} (h : isIS k e.2 = true) : keyOf e = k := by
  obtain ⟨a, v⟩ := e
  rcases isIS_shape h with ⟨n, t, rfl, h2⟩ | ⟨x, t, rfl, h2⟩ <;> (dsimp only at h2; subst h2; rfl)
theorem nodup_perm {α : Type} [DecidableEq α] : ∀ {ks l : List α}, ks.Nodup → (∀ k ∈ ks, k ∈ l) → l.length ≤ ks.length → List.Perm l ks
  | [], l, _, _, hl => by
    have : l = [] := by simpa using hl
    subst this; exact .rfl
  | k :: ks, l, hn, hs, hl => by
    obtain ⟨h1, h2⟩ := List.nodup_cons.mp hn
    have hp : List.Perm l (k :: l.erase k) := List.perm_cons_erase (hs k (by simp))
    refine hp.trans ((nodup_perm h2 (fun x hx => ?_) ?_).cons k)
    · have : x ≠ k := fun e => h1 (e ▸ hx)
      exact (List.mem_cons.mp (hp.mem_iff.mp (hs x (by simp [hx])))).resolve_left this
    · have := hp.length_eq
      simp at this hl
      exact ar2 3 (.l (.v 0) (.a (.v 1) (.n 1))) (.e (.v 0) (.a (.v 2) (.n 1))) (.l (.v 2) (.v 1)) (by kernel_rfl) [_, _, _] hl this
theorem SetInv.keys {prog : Program} {w : World} {z : Raw} {ks : List IS} (I : SetInv prog w z ks) : List.Perm (z.1.toList.map keyOf) ks := by
  refine nodup_perm I.nd (fun k hk => ?_) (by simpa using Nat.le_of_eq I.size)
  obtain ⟨e, he, hi⟩ := (I.mem k).mp hk
  exact List.mem_map.mpr ⟨e, he, keyOf_is hi⟩
section
variable {c : Ctx} {m : Lo} {H : Hp} {pos : Pos} {K : Frag}
structure SetLJ' (c : Ctx) (s : Shared) (H : Hp) (z : Raw) (a it : Addr) (W : List (Int × Value)) (I : Nat → Lo → Hp → Prop) (k : Nat) (s' : Shared) (i : Nat) (m' : Lo) (H' : Hp) (h' : Heap) (tk' : Tk) : Prop where
  p0 : s' = (sw s h' tk')
  p1 : Rel c ⟨m', H'⟩ s'
  p2 : Fp c.env.locals H H' s.heap h'
  p3 : Aside c H' h' [it]
  p4 : SetJ c.w z a it W (fun T => T ∉ dom H' ∧ T ≠ c.env.locals ∧ s.heap.get? T = .none) i h'
  p5 : I i m' H'
  p6 : i ≤ W.length
  p7 : k = W.length + 1 - i
def SetLJ (c : Ctx) (s : Shared) (H : Hp) (z : Raw) (a it : Addr) (W : List (Int × Value)) (I : Nat → Lo → Hp → Prop) (k : Nat) (s' : Shared) : Prop := ∃ i m' H' h' tk', SetLJ' c s H z a it W I k s' i m' H' h' tk'
theorem s1_for_set {y : Str} {py : Pos} {iter : Expr} {b : List Stmt} {Q : Fl → Lo → Hp → Prop}
    (h : WPe c iter m H fun u m1 H1 => ∃ a z ks, u = .ref a ∧ Sees c H1 a (.set z ks) ∧ ∀ σ : List IS, List.Perm σ ks → ∃ I : Nat → Lo → Hp → Prop, I 0 m1 H1 ∧
      (∀ i k m2 H2, σ[i]? = some k → I i m2 H2 → Sees c H2 a (.set z ks) ∧ Asg c (.Name y py) k.v m2 H2 fun m3 H3 => WPs c b m3 H3 fun f m4 H4 =>
        match f with | .next | .cont => I (i + 1) m4 H4 | .brk => Q .next m4 H4 | .ret v => Q (.ret v) m4 H4) ∧ ∀ m2 H2, I σ.length m2 H2 → Sees c H2 a (.set z ks) ∧ Q .next m2 H2)
    (hs : autoParam (∀ x, foldedSetIterable iter c.env x = pure x) auFun) : WP1 c (.For (.Name y py) iter b [] pos) m H Q := fun s R P k => by
  refine wpAny_For (h s R _ fun u va m1 H1 h1 tk1 R1 F1 r1 q1 => ?_) hs
  refine cutm fun G hG => ?_
  obtain ⟨a, z, ks, rfl, hx, q⟩ := q1
  cases (r1 : va = _)
  obtain ⟨r, Iv⟩ := set_get (hx m1 _ R1)
  refine hG (set_pyIter (Cl := fun T => T ∉ dom H1 ∧ T ≠ c.env.locals ∧ s.heap.get? T = .none) r Iv (fun b hb => ⟨(R1.fresh hb).1, (R1.fresh hb).2.1, fresh_back F1 hb⟩) fun h2 d W it hp j hg hf => ?_)
  refine cutm fun G hG => ?_
  have hl : W.length = z.1.size := by simpa using hp.length_eq
  have hσ : List.Perm (W.map keyOf) ks := (hp.map keyOf).trans Iv.keys
  have hWk : ∀ i (e : Int × Value), W[i]? = some e → isIS (keyOf e) e.2 = true := fun i e he => by
    obtain ⟨⟨k, hk, _⟩, _⟩ := Iv.el e (hp.mem_iff.mp (List.mem_of_getElem? he))
    have := keyOf_is (k := k) hk
    rw [this]; exact hk
  obtain ⟨I, i0, step, fin⟩ := q (W.map keyOf) hσ
  have fr := R1.fresh hf
  have fr0 : ∀ b ∈ [it], s.heap.get? b = .none := fun b hb => by simp at hb; subst hb; exact fresh_back F1 hf
  have hitn : ∀ (i : Nat) (h : Heap) (Cl : Addr → Prop), SetJ c.w z a it W Cl i h → ∃ o, h.get? it = some o ∧ NotTup o := fun i h Cl j => by
    obtain ⟨first, hi, _⟩ := j
    exact ⟨_, hi, fun _ _ _ q => by cases q.2⟩
  refine hG (codeAny_forLoop_any (SetLJ c s H z a it W I) ?_ (W.length + 1)
    ⟨0, m1, H1, h2, ⟨tk1.toks, d⟩, rfl, R1.grow ⟨tk1.toks, d⟩ hg, F1.trans R1.hasL (.grow hg), fun b hb => by simp at hb; subst hb; exact ⟨fr.1, fr.2.1, fr.2.2, hitn _ _ _ j⟩, j, i0, Nat.zero_le _, rfl⟩)
  intro k' s' hJ
  refine cutm fun G hG => ?_
  obtain ⟨i, m2, H2, h2, tk2, rfl, R2, F2, A2, j2, hI, hle, rfl⟩ := hJ
  by_cases hlt : i < W.length
  · have hW : W[i]? = some W[i] := by simp [hlt]
    obtain ⟨ok, body⟩ := step i (keyOf W[i]) m2 H2 (by simp [hlt]) hI
    obtain ⟨r2, Iv2⟩ := set_get (ok m2 _ R2)
    obtain ⟨oi, hoi, nti⟩ := hitn _ _ _ j2
    have ai := A2 it (.head _)
    refine hG (wpAny_mono (SetJ.item (A := c.A) (E := fun _ _ => False) j2 r2 Iv2 hW hl fun h3 j3 hs3 => ?_) (fun _ _ q => q) fun _ _ q => q.elim)
    have R3 := R2.off (h' := h3) tk2 hoi nti ai.1 ai.2.1 ai.2.2.1 (Heap.SameBut.kp hs3)
    have F3 := F2.off fr0 (one_off (Heap.SameBut.kp hs3))
    have A3 := A2.one (hitn _ _ _ j3)
    show wpAny _ _ (letOwnedTupleGo (.Name y py) (.ref it) W[i].2) _ _ _
    refine wpAny_pure ?_
    refine wpAny_mono (body _ _ R3 (rep_isIS (hWk i _ hW)) _ fun _ _ m5 H5 h5 tk5 R5 F5 _ q5 => ?_) (fun _ _ q => q) fun _ _ q => q.elim
    refine wpAny_mono (q5 _ R5 _ fun f vf m6 H6 h6 tk6 R6 F6 r6 q6 => ?_) (fun _ _ q => q) fun _ _ q => q.elim
    refine cutm fun G hG => ?_
    have F := (F3.trans R3.hasL F5).trans R5.hasL F6
    have A5 := A3.step F5
    have A6 := A5.step F6
    have kp : ∀ o, h3.get? it = some o → h6.get? it = some o := fun o e => by
      have e5 := F5.keep it o (A3 it (.head _)).1 (A3 it (.head _)).2.1 e
      exact F6.keep it o (A5 it (.head _)).1 (A5 it (.head _)).2.1 e5
    have cl : ∀ {H1 H2 : Hp} {h1 h2 : Heap} (F : Fp c.env.locals H1 H2 h1 h2), ∀ b o, (b ∉ dom H1 ∧ b ≠ c.env.locals ∧ s.heap.get? b = .none) → h1.get? b = some o → h2.get? b = some o ∧ (b ∉ dom H2 ∧ b ≠ c.env.locals ∧ s.heap.get? b = .none) := fun F b o q e =>
      ⟨F.keep b o q.1 q.2.1 e, fun hm => (F.dom b hm).elim q.1 fun n => (by rw [n] at e; cases e), q.2.1, q.2.2⟩
    have j6 := (j3.keep (fun o e => F5.keep it o (A3 it (.head _)).1 (A3 it (.head _)).2.1 e) (cl F5)).keep (fun o e => F6.keep it o (A5 it (.head _)).1 (A5 it (.head _)).2.1 e) (cl F6)
    cases f with
    | next => cases (r6 : vf = .next); exact hG ⟨W.length + 1 - (i + 1), by exact ar1 2 (.t (.v 0) (.v 1)) (.t (.s (.a (.v 1) (.n 1)) (.a (.v 0) (.n 1))) (.s (.a (.v 1) (.n 1)) (.v 0))) (by kernel_rfl) [_, _] hlt, i + 1, m6, H6, h6, tk6, rfl, R6, F, A6, j6, q6, hlt, rfl⟩
    | cont => cases (r6 : vf = .cont); exact hG ⟨W.length + 1 - (i + 1), by exact ar1 2 (.t (.v 0) (.v 1)) (.t (.s (.a (.v 1) (.n 1)) (.a (.v 0) (.n 1))) (.s (.a (.v 1) (.n 1)) (.v 0))) (by kernel_rfl) [_, _] hlt, i + 1, m6, H6, h6, tk6, rfl, R6, F, A6, j6, q6, hlt, rfl⟩
    | brk => cases (r6 : vf = .brk); exact hG (k .next _ m6 H6 h6 tk6 R6 F rfl q6)
    | ret u => obtain ⟨v, rfl, hv⟩ := r6; exact hG (k (.ret u) _ m6 H6 h6 tk6 R6 F ⟨v, rfl, hv⟩ q6)
  · have hin : i = W.length := by exact ar2 2 (.l (.v 0) (.v 1)) (.no (.t (.v 0) (.v 1))) (.e (.v 0) (.v 1)) (by kernel_rfl) [_, _] hle hlt
    subst hin
    obtain ⟨ok, q⟩ := fin m2 H2 (by simpa using hI)
    obtain ⟨r2, Iv2⟩ := set_get (ok m2 _ R2)
    obtain ⟨oi, hoi, nti⟩ := hitn _ _ _ j2
    have ai := A2 it (.head _)
    refine hG (wpAny_mono (SetJ.done (A := c.A) (E := fun _ _ => False) c.hh j2 r2 Iv2 hl fun h3 hk3 => ?_) (fun _ _ q => q) fun _ _ q => q.elim)
    exact wpAny_execs_nil (k .next _ m2 H2 h3 tk2 (R2.off (h' := h3) tk2 hoi nti ai.1 ai.2.1 ai.2.2.1 hk3) (F2.off fr0 (one_off hk3)) rfl q)
end
end Mine
end
section
open PySem PySem.W PyProof.Rows PySem.Calls PySem.SeqAt
set_option maxRecDepth 100000
namespace Mine
theorem entry_set_ne : entryFor table "set.__ne__" = some Builtin.«frozenset.__ne__» :=
  entryFor_alias (id' := "frozenset.__ne__") (by kernel_rfl) rfl (by decide +kernel) (by kernel_rfl)
theorem sub_set_froz : isSubtype (.type "set") (.type "frozenset") = pure false := by rw [isSubtype_type]; kernel_rfl
section
variable {prog : Program} {w : World} {A : Around} {E : Value → Shared → Prop} {s : Shared}
theorem wp_forIn_find {α β : Type} {M : Model} {p : α → Bool} {f : α → β → Sem (ForInStep β)} {b d : β} {Q : β → Shared → Prop} : ∀ {l : List α}, (∀ x ∈ l, ∀ Q' : ForInStep β → Shared → Prop, Q' (if p x then .yield b else .done d) s → wpAny M A (f x b) Q' E s) → Q (if l.all p then b else d) s → wpAny M A (forIn l b f) Q E s
  | [], h, q => by rw [List.forIn_nil]; exact wpAny_pure q
  | x :: l, h, q => by
    rw [List.forIn_cons]
    refine wpAny_bind (h x (by simp) _ ?_)
    by_cases hp : p x = true
    · rw [if_pos hp]
      dsimp only
      refine wp_forIn_find (fun y hy => h y (by simp [hy])) ?_
      simpa [hp] using q
    · rw [if_neg hp]
      refine wpAny_pure ?_
      simpa [hp] using q
theorem RawAt.setOf {h : Heap} {a : Addr} {z : Raw} {ks : List IS} (r : RawAt h a z) (I : SetInv prog w z ks) : h.SetOf (mixKind prog w) a (fun k => decide (k ∈ ks)) ks.length := by
  obtain ⟨o, ho, hx, hd⟩ := r
  exact ⟨o, _, _, _, ho, hx, hd, I.el, fun k => by rw [decide_eq_true_eq]; exact I.mem k, I.lt, I.fits, I.size⟩
theorem set_ne_core {a b : Addr} {z y : Raw} {ks js : List IS} {Q : Value → Shared → Prop} (ra : RawAt s.heap a z) (Ia : SetInv prog w z ks) (rb : RawAt s.heap b y) (Ib : SetInv prog w y js)
    (hQ : Q (.bool (!decide (List.Perm ks js))) s) : wpAny (model prog w) A (Builtin.«frozenset.__ne__» ⟨[.ref a, .ref b], []⟩) (fun fin s' => ∃ v, fin = .done (.ret v) ∧ Q v s') E s := by
  obtain ⟨oa, hoa, hxa, hda⟩ := ra
  obtain ⟨ob, hob, hxb, hdb⟩ := rb
  have hTa : s.TypeIs (.ref a) "set" := ⟨oa, hoa, hxa.1⟩
  have hTb : s.TypeIs (.ref b) "set" := ⟨ob, hob, hxb.1⟩
  unfold Builtin.«frozenset.__ne__»
  refine wpAny_bind (m := Builtin.Frozenset.slot1 "__ne__" _) (wpAny_pure ?_)
  dsimp only
  refine wpAny_bind (m := Builtin.Frozenset.isAnySet _) ?_
  unfold Builtin.Frozenset.isAnySet
  refine wpAny_bind (wpAny_isInstance hTb sub_set_self ?_)
  refine wpAny_pure ?_
  rw [if_neg (by simp)]
  unfold Builtin.Frozenset.addrOf Builtin.Frozenset.sizeOf
  refine wpAny_bind (wpAny_pure (wpAny_bind (wpAny_pure ?_)))
  refine wpAny_bind (wpAny_bind (wpAny_setEntries_of hoa hda Ia.fits (wpAny_pure ?_)))
  refine wpAny_bind (wpAny_bind (wpAny_setEntries_of hob hdb Ib.fits (wpAny_pure ?_)))
  by_cases hne : (z.1.size != y.1.size) = true
  · rw [if_pos hne]
    refine wpAny_bind (wpAny_pure (wpAny_pure ⟨_, rfl, ?_⟩))
    have : ¬ List.Perm ks js := fun hp => by
      have := hp.length_eq
      rw [← Ia.size, ← Ib.size] at this
      simp [this] at hne
    rw [decide_eq_false this] at hQ
    exact hQ
  · rw [if_neg hne]
    have hsz : z.1.size = y.1.size := by simpa using hne
    refine wpAny_bind (wpAny_bind (m := isInstance _ _ <&&> isInstance _ _) (wpAny_bind (wpAny_isInstance hTa sub_set_froz (wpAny_pure ?_))))
    rw [if_neg (by simp)]
    unfold Builtin.Frozenset.subsetOf Builtin.Frozenset.walkUnseen Builtin.Frozenset.sizeOf
    refine wpAny_bind (wpAny_bind (wpAny_setEntries_of hoa hda Ia.fits (wpAny_pure ?_)))
    refine wpAny_bind (wpAny_bind (wpAny_setEntries_of hob hdb Ib.fits (wpAny_pure ?_)))
    rw [if_neg (by lia)]
    refine wpAny_bind (wpAny_setEpoch_of hoa hda Ia.fits ?_)
    refine wpAny_bind ?_
    refine wpAny_bind (wpAny_setEntries_of hoa hda Ia.fits ?_)
    refine wpAny_bind (wpAny_setEntries_of hob hdb Ib.fits ?_)
    refine wpAny_bind (wp_forIn_find (p := fun _ => true) (d := (none, ())) (fun e he Q' q => ?_) ?_)
    · obtain ⟨i, x⟩ := e
      have hsc : x.scannable = true := by
        rcases List.mem_append.mp he with h | h
        · exact (Ia.el _ h).2
        · exact (Ib.el _ h).2
      have hq : Builtin.Frozenset.quietEq x = pure true := by cases x <;> first | rfl | simp [Value.scannable] at hsc
      dsimp only
      refine wpAny_bind (wpAny_of_eq hq ?_)
      exact wpAny_pure q
    simp only [ite_self]
    refine wpAny_pure ?_
    refine wpAny_bind (wp_forIn_find (p := fun e => decide (keyOf e ∈ js)) (d := (some false, ())) (fun e he Q' q => ?_) ?_)
    · obtain ⟨i, x⟩ := e
      obtain ⟨⟨k, hk, hh⟩, hsc⟩ := Ia.el _ he
      have ek : keyOf (i, x) = k := keyOf_is hk
      dsimp only at hh hk ⊢
      rw [hh]
      rw [ek] at q
      refine wpAny_bind (wpAny_holding (wpAny_setFind_of hk hsc (RawAt.setOf ⟨ob, hob, hxb, hdb⟩ Ib) fun r hr => ?_))
      by_cases hm : k ∈ js
      · rw [if_pos (by simpa using hm)] at q
        have : r.isNone = false := by cases r <;> simp_all
        rw [this, if_neg (by simp)]
        unfold Builtin.Frozenset.unchanged
        refine wpAny_bind (wpAny_bind (wpAny_setEpoch_of hoa hda Ia.fits ?_))
        rw [if_neg (by simp)]
        exact wpAny_pure (wpAny_pure q)
      · rw [if_neg (by simpa using hm)] at q
        have : r.isNone = true := by cases r <;> simp_all
        rw [this, if_pos rfl]
        exact wpAny_pure q
    have key : (z.1.toList.all fun e => decide (keyOf e ∈ js)) = decide (List.Perm ks js) := by
      have hks := Ia.keys
      by_cases hp : List.Perm ks js
      · rw [decide_eq_true hp, List.all_eq_true]
        intro e he
        rw [decide_eq_true_eq]
        exact (hks.trans hp).mem_iff.mp (List.mem_map.mpr ⟨e, he, rfl⟩)
      · rw [decide_eq_false hp]
        rw [← Bool.not_eq_true]
        intro hall
        rw [List.all_eq_true] at hall
        refine hp (nodup_perm (ks := ks) (l := js) Ia.nd (fun k hk => ?_) (by rw [← Ia.size, ← Ib.size, hsz]; exact Nat.le_refl _)).symm
        obtain ⟨e, he, rfl⟩ := List.mem_map.mp (hks.mem_iff.mpr hk)
        simpa using hall e he
    rw [key]
    by_cases hp : List.Perm ks js
    · rw [decide_eq_true hp] at hQ ⊢
      exact wpAny_pure (wpAny_pure ⟨_, rfl, hQ⟩)
    · rw [decide_eq_false hp] at hQ ⊢
      exact wpAny_pure (wpAny_pure ⟨_, rfl, hQ⟩)
end
section
variable {c : Ctx} {m : Lo} {H : Hp} {pos : Pos} {Q : V → Lo → Hp → Prop}
theorem c_neSet {a b : Addr} {z y : Raw} {ks js : List IS} (ha : Sees c H a (.set z ks)) (hb : Sees c H b (.set y js)) (h : Q (.bool (!decide (List.Perm ks js))) m H) : Cmp c .NotEq (.ref a) (.ref b) m H Q := fun s va vb R ra rb => by
  cases (ra : va = _); cases (rb : vb = _)
  obtain ⟨r1, I1⟩ := set_get (ha m s R)
  obtain ⟨r2, I2⟩ := set_get (hb m s R)
  obtain ⟨oa, hoa, hxa, hda⟩ := _root_.id r1
  obtain ⟨ob, hob, hxb, hdb⟩ := _root_.id r2
  have hTa : s.TypeIs (.ref a) "set" := ⟨oa, hoa, hxa.1⟩
  have hTb : s.TypeIs (.ref b) "set" := ⟨ob, hob, hxb.1⟩
  exact .val R h fun P k => cmp_ofNotEq (wpAny_richCompare_same_room hTa hTb PySem.F.slot_set_ne (wpAny_call_entry PySem.F.slot_set_ne hTa entry_set_ne (set_ne_core r1 I1 r2 I2 ⟨by simp, k _ s.toks rfl⟩) (PySem.F.args_set_ne_2 _ _)) c.hu0)
end
end Mine
end
section
open PySem PySem.W PyProof.Rows PySem.Calls PySem.SeqAt
set_option maxRecDepth 100000
namespace Mine
section
variable {c : Ctx} {m : Lo} {H : Hp} {pos : Pos} {K : Frag}
theorem s1_to {t e : Expr} {Q : Fl → Lo → Hp → Prop} (h : WPe c e m H fun v m1 H1 => Asg c t v m1 H1 (Q .next))
    (ha : autoParam (assignEach [t] c.env = [(false, assign t c.env)]) auRfl) (hs : autoParam (swapsWithSole [t] e pos.line c.env = pure false) auRfl) (hw : autoParam (swappedStores [t] e c.env = pure .none) auRfl) : WP1 c (.Assign [t] e pos) m H Q := fun s R P k => by
  rw [exec_Assign]
  refine wpAny_bind (wpAny_standAt ?_)
  rw [hs]
  refine wpAny_bind (wpAny_pure ?_)
  rw [if_neg (by decide)]
  refine wpAny_bind (h s R _ fun a va m1 H1 h1 tk1 R1 F1 r1 q1 => ?_)
  rw [hw, ha]
  refine wpAny_bind (wpAny_pure ?_)
  show wpAny _ _ (do assign t c.env va; pure Flow.next) _ _ _
  exact wpAny_bind (q1 _ va R1 r1 _ fun _ _ m3 H3 h3 tk3 R3 F3 _ q3 => wpAny_pure (k .next _ m3 H3 h3 tk3 R3 (F1.trans R1.hasL F3) rfl q3))
theorem s1_to2 {t u e : Expr} {Q : Fl → Lo → Hp → Prop} (h : WPe c e m H fun v m1 H1 => Asg c t v m1 H1 fun m2 H2 => Asg c u v m2 H2 (Q .next))
    (ha : autoParam (assignEach [t, u] c.env = [(false, assign t c.env), (false, assign u c.env)]) auRfl) (hs : autoParam (swapsWithSole [t, u] e pos.line c.env = pure false) auRfl) (hw : autoParam (swappedStores [t, u] e c.env = pure .none) auRfl) : WP1 c (.Assign [t, u] e pos) m H Q := fun s R P k => by
  rw [exec_Assign]
  refine wpAny_bind (wpAny_standAt ?_)
  rw [hs]
  refine wpAny_bind (wpAny_pure ?_)
  rw [if_neg (by decide)]
  refine wpAny_bind (h s R _ fun a va m1 H1 h1 tk1 R1 F1 r1 q1 => ?_)
  rw [hw, ha]
  refine wpAny_bind (wpAny_pure ?_)
  show wpAny _ _ ((holding [va] (assign t c.env va) >>= fun _ => assign u c.env va) >>= fun _ => pure Flow.next) _ _ _
  refine wpAny_bind (wpAny_bind (wpAny_holding (q1 _ va R1 r1 _ fun _ _ m3 H3 h3 tk3 R3 F3 _ q3 => ?_)))
  exact q3 _ va R3 (R1.lift F3 r1) _ fun _ _ m4 H4 h4 tk4 R4 F4 _ q4 => wpAny_pure (k .next _ m4 H4 h4 tk4 R4 ((F1.trans R1.hasL F3).trans R3.hasL F4) rfl q4)
theorem s1_del {o i : Expr} {p : Pos} {Q : Fl → Lo → Hp → Prop} (h : WPe c o m H fun a m1 H1 => WPe c i m1 H1 fun b m2 H2 => On2 c a b UR delItem m2 H2 fun _ => Q .next) : WP1 c (.Delete [.Subscript o i p] pos) m H Q := fun s R P k =>
  wpAny_Delete (wpAny_deleteEach_cons (wpAny_delete_Subscript (h s R _ fun a va m1 H1 h1 tk1 R1 F1 r1 q1 => q1 _ R1 _ fun b vb m2 H2 h2 tk2 R2 F2 r2 q2 => q2 _ va vb R2 (R1.lift F2 r1) r2 _
    fun _ _ m3 H3 h3 tk3 R3 F3 _ q3 => wpAny_deleteEach_nil (k .next _ m3 H3 h3 tk3 R3 ((F1.trans R1.hasL F2).trans R2.hasL F3) rfl q3))))
noncomputable def isAt : At → At → Option Bool
  | .none, .none => some true
  | .bool a, .bool b => some (a == b)
  | .ref a, .ref b => if a = b then some true else .none
  | .none, .ref _ => some false
  | .ref _, .none => some false
  | .none, .bool _ => some false
  | .bool _, .none => some false
  | .none, .int _ => some false
  | .int _, .none => some false
  | _, _ => .none
variable {Q : V → Lo → Hp → Prop}
theorem isAt_same {u v : At} {r : Bool} {va vb : Value} {s : Shared} {P : Bool → Shared → Prop} (hr : isAt u v = some r) (ru : u.rep va) (rv : v.rep vb) (h : P r s) : c.wp (isSame va vb) P s := by
  cases u with
  | none =>
    cases (ru : va = _)
    cases v with
    | none => cases (rv : vb = _); injection hr with hr; subst hr; exact wpAny_isSame_plain rfl h
    | bool b => cases (rv : vb = _); injection hr with hr; subst hr; exact wpAny_isSame_plain rfl h
    | ref b => cases (rv : vb = _); injection hr with hr; subst hr; exact wpAny_isSame_plain rfl h
    | int b => obtain ⟨t, rfl⟩ := rv; injection hr with hr; subst hr; exact wpAny_isSame_plain rfl h
    | _ => cases hr
  | bool a =>
    cases (ru : va = _)
    cases v with
    | none => cases (rv : vb = _); injection hr with hr; subst hr; exact wpAny_isSame_plain rfl h
    | bool b =>
      cases (rv : vb = _); injection hr with hr; subst hr
      have e : (Value.bool a == Value.bool b) = (a == b) := by cases a <;> cases b <;> rfl
      exact wpAny_isSame_plain rfl (by rw [e]; exact h)
    | _ => cases hr
  | int a =>
    obtain ⟨t, rfl⟩ := ru
    cases v with
    | none => cases (rv : vb = _); injection hr with hr; subst hr; exact wpAny_isSame_plain rfl h
    | _ => cases hr
  | ref a =>
    cases (ru : va = _)
    cases v with
    | none => cases (rv : vb = _); injection hr with hr; subst hr; exact wpAny_isSame_plain rfl h
    | ref b =>
      cases (rv : vb = _)
      have hr : (if a = b then some true else Option.none) = some r := hr
      by_cases e : a = b
      · subst e; rw [if_pos rfl] at hr; injection hr with hr; subst hr; exact wpAny_isSame_ref_self h
      · rw [if_neg e] at hr; cases hr
    | _ => cases hr
  | _ => cases v <;> cases hr
theorem c_is {u v : At} {r : Bool} (hr : isAt u v = some r) (h : Q (.bool r) m H) : Cmp c .Is (.at u) (.at v) m H Q := fun s va vb R ra rb =>
  .val R h fun P k => by
    show c.wp (do return .bool (← isSame va vb)) P s
    exact wpAny_bind (isAt_same hr ra rb (wpAny_pure (k _ s.toks rfl)))
theorem c_isnot {u v : At} {r : Bool} (hr : isAt u v = some r) (h : Q (.bool (!r)) m H) : Cmp c .IsNot (.at u) (.at v) m H Q := fun s va vb R ra rb =>
  .val R h fun P k => by
    show c.wp (do return .bool (!(← isSame va vb))) P s
    exact wpAny_bind (isAt_same hr ra rb (wpAny_pure (k _ s.toks rfl)))
theorem k_max {a b : Int} (h : Q (.int (if b > a then b else a)) m H) : Cal c (.bi "max") [.int a, .int b] m H Q := fun s vf vvs R rf rv => by
  cases (rf : vf = _)
  obtain ⟨va, vb, rfl, ra, rb⟩ := rv.two
  obtain ⟨t, rfl⟩ := ra; obtain ⟨u, rfl⟩ := rb
  refine .grow R h fun P k => max_two_ints c.hh fun h' tk hg => ?_
  by_cases e : b > a
  · rw [if_pos e]; exact k _ h' tk hg ⟨u, by rw [if_pos e]⟩
  · rw [if_neg e]; exact k _ h' tk hg ⟨t, by rw [if_neg e]⟩
end
end Mine
end
section
open PySem PySem.W PyProof.Rows PySem.Calls PySem.SeqAt
set_option maxRecDepth 100000
namespace Mine
noncomputable def pick {α : Type} (xs : List α) (lo hi st : Option Int) : List α := (sliceRange (sliceBounds lo hi st xs.length).1 (sliceBounds lo hi st xs.length).2.1 (sliceBounds lo hi st xs.length).2.2).filterMap (xs[·]?)
theorem pick_array (items : Array Value) (lo hi st : Option Int) : slicePick items lo hi st = (pick items.toList lo hi st).toArray := by
  unfold slicePick pick
  simp
theorem Reps.picks {h : Heap} {xs : List V} {vs : List Value} (r : Reps h xs vs) : ∀ idx : List Nat, Reps h (idx.filterMap (xs[·]?)) (idx.filterMap (vs[·]?))
  | [] => rfl
  | i :: idx => by
    cases q : xs[i]? with
    | none =>
      have : vs[i]? = none := by
        have := r.length
        rw [List.getElem?_eq_none_iff] at q ⊢
        exact ar2 3 (.l (.v 0) (.v 1)) (.e (.v 2) (.v 0)) (.l (.v 2) (.v 1)) (by kernel_rfl) [_, _, _] q this
      simp only [List.filterMap_cons, q, this]
      exact Reps.picks r idx
    | some u =>
      obtain ⟨v, hv, hr⟩ := r.get q
      simp only [List.filterMap_cons, q, hv]
      exact ⟨v, _, rfl, hr, Reps.picks r idx⟩
theorem Reps.pick {h : Heap} {xs : List V} {vs : List Value} (r : Reps h xs vs) (lo hi st : Option Int) : Reps h (pick xs lo hi st) (pick vs lo hi st) := by
  unfold Mine.pick
  rw [r.length]
  exact r.picks _
section
variable {c : Ctx} {m : Lo} {H : Hp} {pos : Pos} {Q : V → Lo → Hp → Prop}
noncomputable def WPpart (c : Ctx) (e : Option Expr) (m : Lo) (H : Hp) (Q : Option Int → Lo → Hp → Prop) : Prop := match e with
  | none => Q none m H
  | some e => WPe c e m H fun u m1 H1 => ∃ i, u = .int i ∧ Q (some i) m1 H1
theorem WPpart.run {e : Option Expr} {Q : Option Int → Lo → Hp → Prop} (h : WPpart c e m H Q) {s : Shared} (R : Rel c ⟨m, H⟩ s) (P : Value → Shared → Prop)
    (k : ∀ v lo m' H' h tk, Rel c ⟨m', H'⟩ (sw s h tk) → Fp c.env.locals H H' s.heap h → IsPart v lo → Q lo m' H' → P v (sw s h tk)) : c.wp (evalPart e c.env) P s := by
  cases e with
  | none => rw [evalPart_none]; exact wpAny_pure (k .none none m H s.heap (tkn s s.toks) R (.refl ..) .none h)
  | some e =>
    rw [evalPart_some]
    refine h s R P fun b v m' H' h tk R' F r q => ?_
    obtain ⟨i, rfl, q⟩ := q
    obtain ⟨t, rfl⟩ := r
    exact k _ (some i) m' H' h tk R' F (.int i t) q
theorem e_slice {v : Expr} {lower upper : Option Expr} {p : Pos} (h : WPe c v m H fun a m1 H1 => WPpart c lower m1 H1 fun lo m2 H2 => WPpart c upper m2 H2 fun hi m3 H3 => ∃ l xs, a = .ref l ∧ Sees c H3 l (.list xs) ∧ xs.length ≤ 1000000 ∧ ∀ x, Q (.ref x) m3 ((x, .list (pick xs lo hi none)) :: H3))
    (ht : ∀ o r, letTemporaryGo v o r = pure () := by intro _ _; rfl) : WPe c (.Subscript v (.Slice lower upper none p) pos) m H Q := fun s R P k => by
  refine wpAny_Subscript_list_slice (h s R _ fun a va m1 H1 h1 tk1 R1 F1 r1 q1 => q1.run R1 _ fun vl lo m2 H2 h2 tk2 R2 F2 pl q2 => q2.run R2 _ fun vu hi m3 H3 h3 tk3 R3 F3 pu q3 => ?_) ht
  obtain ⟨l, xs, rfl, hx, hz, q⟩ := q3
  cases (r1 : va = _)
  obtain ⟨items, n, hl, hr⟩ := O.list_get (hx m3 _ R3)
  have hlen := hr.length
  refine ⟨l, items, lo, hi, rfl, IsL.isList hl, ?_, pl, pu, ?_⟩
  · rw [← Array.length_toList, hlen]; have : sizeLine = 16777216 := rfl; exact ar2 2 (.l (.v 0) (.n 1000000)) (.e (.v 1) (.n 16777216)) (.l (.v 0) (.v 1)) (by kernel_rfl) [_, _] hz this
  have g : ∀ b o, h3.get? b = some o → ((h3.push { cls := .type "slice", data := .fields #[vl, vu, .none] }).push { cls := .type "list", data := .seq (slicePick items lo hi none) }).get? b = some o := fun b o e => push_grow _ _ (push_grow _ _ e)
  have e1 : (h3.push { cls := .type "slice", data := .fields #[vl, vu, .none] }).objs.size = h3.objs.size + 1 := by simp
  have hn : h3.get? (h3.objs.size + 1) = none := get_ge (Nat.le_succ _)
  have hN : ((h3.push { cls := .type "slice", data := .fields #[vl, vu, .none] }).push { cls := .type "list", data := .seq (slicePick items lo hi none) }).get? (h3.objs.size + 1) = some { cls := .type "list", data := .seq (slicePick items lo hi none) } := by
    rw [← e1]; exact Heap.get?_push_size _ rfl
  have F := (F1.trans R1.hasL F2).trans R2.hasL F3
  refine k (.ref (h3.objs.size + 1)) _ m3 _ _ tk3 (R3.new tk3 g hn (o := .list (pick xs lo hi none)) (O.list_mk (n := 0) hN ?_)) (F.trans R3.hasL (.new g hn)) rfl (q _)
  have e2 : (slicePick items lo hi none).toList = pick items.toList lo hi none := by rw [pick_array]
  rw [e2]
  exact (R3.liftL (.grow (H := H3) g) hr).pick lo hi none
end
theorem picks_run {α : Type} (xs : List α) (a : Nat) : ∀ n, ((List.range n).map (a + ·)).filterMap (xs[·]?) = (xs.drop a).take n
  | 0 => by simp
  | n + 1 => by
    rw [List.range_succ, List.map_append, List.filterMap_append, picks_run xs a n, List.take_succ, List.getElem?_drop]
    simp only [List.map_cons, List.map_nil, List.filterMap_cons, List.filterMap_nil]
    cases xs[a + n]? <;> rfl
theorem pick_from {α : Type} (xs : List α) (a : Nat) : pick xs (some a) none none = xs.drop a := by
  have e : sliceBounds (some (a : Int)) none none xs.length = (((min a xs.length : Nat) : Int), (xs.length : Int), 1) := by
    simp only [sliceBounds, Option.getD_none]
    have h1 : ¬ ((a : Int) < 0) := by lia
    simp only [h1, if_false, show (1 : Int) > 0 by decide, if_true]
    congr 1
    omega
  unfold pick
  rw [e]
  simp only [sliceRange_one, picks_run]
  rw [List.take_of_length_le (by simp)]
  rcases Nat.le_total a xs.length with q | q
  · rw [Nat.min_eq_left q]
  · rw [Nat.min_eq_right q, List.drop_length, List.drop_eq_nil_of_le q]
theorem pick_rev {α : Type} (xs : List α) : pick xs none none (some (-1)) = xs.reverse := by
  have e : sliceBounds none none (some (-1)) xs.length = ((xs.length : Int) - 1, -1, -1) := by
    simp only [sliceBounds, Option.getD_some]
    simp
  unfold pick
  rw [e]
  have e2 : sliceRange ((xs.length : Int) - 1) (-1) (-1) = (List.range xs.length).map (fun k => xs.length - 1 - k) := by
    unfold sliceRange
    have h1 : ¬ ((-1 : Int) > 0) := by decide
    simp only [h1, if_false]
    by_cases q : xs.length = 0
    · rw [q]; rfl
    · have h2 : (xs.length : Int) - 1 > -1 := by lia
      have h3 : ((xs.length : Int) - 1 - -1 - -1 - 1) / (- -1) = (xs.length : Int) := by
        have : (- -1 : Int) = 1 := by decide
        rw [this, Int.ediv_one]; lia
      simp only [h2, if_true, h3, Int.toNat_natCast]
      apply List.map_congr_left
      intro k hk
      simp at hk
      lia
  have e3 : (List.range xs.length).map (fun k => xs.length - 1 - k) = (List.range xs.length).reverse := by
    apply List.ext_getElem
    · simp
    · intro i h1 h2
      simp at h1
      simp
  rw [e2, e3, List.filterMap_reverse]
  congr 1
  exact PySem.List.filterMap_getElem?_range_length xs
end Mine
end
section
open PySem PySem.W PyProof.Rows PySem.Calls PySem.SeqAt
set_option maxRecDepth 100000
namespace Mine
section
variable {c : Ctx} {m : Lo} {H : Hp} {pos : Pos}
noncomputable def SetI (c : Ctx) (a b v : V) (m : Lo) (H : Hp) (Q : Lo → Hp → Prop) : Prop := ∀ s va vb vv, Rel c ⟨m, H⟩ s → a.rep s.heap va → b.rep s.heap vb → v.rep s.heap vv → Run c H s UR (setItem va vb vv) fun _ => Q
theorem asg_sub {o i : Expr} {v : V} {Q : Lo → Hp → Prop} (h : WPe c o m H fun a m1 H1 => WPe c i m1 H1 fun b m2 H2 => SetI c a b v m2 H2 Q) : Asg c (.Subscript o i pos) v m H Q := fun s vv R rv P k => by
  show c.wp (assign (.Subscript o i pos) c.env vv) P s
  rw [assign_Subscript]
  refine wpAny_bind (wpAny_holding (h s R _ fun a va m1 H1 h1 tk1 R1 F1 r1 q1 => ?_))
  have rv1 := R.lift F1 rv
  refine wpAny_bind (wpAny_holding (q1 _ R1 _ fun b vb m2 H2 h2 tk2 R2 F2 r2 q2 => ?_))
  refine wpAny_bind (wpAny_standAt (wpAny_bind (wpAny_holding (q2 _ va vb vv R2 (R1.lift F2 r1) r2 (R1.lift F2 rv1) _ fun x y m3 H3 h3 tk3 R3 F3 r3 q3 => ?_))))
  exact wpAny_release (k x _ m3 H3 h3 tk3 R3 ((F1.trans R1.hasL F2).trans R2.hasL F3) trivial q3)
theorem seti_list {l : Addr} {xs : List V} {k : Int} {v : V} {F : O → Hp} {Q : Lo → Hp → Prop} (sp : Spot l (.list xs) H F) (h0 : 0 ≤ k) (h1 : k < xs.length) (hz : xs.length ≤ 1000000) (h : Q m (F (.list (xs.set k.toNat v)))) : SetI c (.ref l) (.int k) v m H Q := fun s va vb vv R ra rb rv => by
  cases (ra : va = _); obtain ⟨t, rfl⟩ := rb
  obtain ⟨items, n, hl, hr⟩ := O.list_get (R.obj _ _ (sp.upd (.list [])).mem)
  have hlen := hr.length
  have hsz : items.size = xs.length := by rw [← Array.length_toList, hlen]
  have hfit : k < 2 ^ 63 := by lia
  refine .upd R (sp.upd (.list (xs.set k.toNat v))) (b := ()) h fun P kk => ?_
  unfold setItem
  refine wpAny_holding ?_
  refine wpAny_bind (wpAny_sequenceKey (IsL.isList hl).typeIs (by decide) ?_)
  refine wpAny_bind (wpAny_callSpecial?_slot (name := Str.ofString "__setitem__") (IsL.isList hl).typeIs slot_list_setitem
    (wpAny_call_entry slot_list_setitem (IsL.isList hl).typeIs entry_list_setitem ?_ (args_list_setitem _ _ _)))
  show wpAny _ _ (Builtin.List.listSubscript? (.int k t) >>= _) _ _ s
  refine wpAny_bind (wpAny_listSubscript_int (fitsIndex_of h0 hfit) ?_)
  clear hfit
  obtain ⟨j, rfl⟩ := Int.eq_ofNat_of_zero_le h0
  have hj : j < items.size := by lia
  have hx' : items[j]? = some items[j] := Array.getElem?_eq_getElem hj
  have hu := IsL.update hl (·.setIfInBounds j vv)
  show wpAny _ _ ((seqItemAt l j >>= fun r => pure (r.map (j, ·))) >>= _) _ _ s
  refine wpAny_bind (wpAny_bind (wpAny_seqItemAt hl rfl (wpAny_pure ?_)))
  rw [hx']
  show wpAny _ _ (setSeqItemAt l j vv >>= _) _ _ s
  have fin := kk () _ s.toks upd_kp ⟨_, hu⟩ (fun Fq => O.list_mk hu (by
    rw [Array.toList_setIfInBounds]
    exact (R.liftL Fq hr).set (R.lift Fq rv) j)) trivial
  refine wpAny_bind (wpAny_setSeqItemAt hl rfl ?_)
  first
    | exact wpAny_bind (wpAny_pure (wpAny_pure ⟨.none, rfl, wpAny_pure fin⟩))
    | exact wpAny_pure ⟨.none, rfl, wpAny_pure fin⟩
end
end Mine
end
section
open PySem PySem.W PyProof.Rows PySem.Calls PySem.SeqAt
set_option maxRecDepth 100000
namespace Mine
section
variable {c : Ctx} {m : Lo} {H : Hp} {pos : Pos} {Q : V → Lo → Hp → Prop} {K : Frag}
noncomputable abbrev lamEnv (fd : FuncData) (L a : Addr) : Env := newEnv fd.scope L fd.globals fd.closure (fd.qualname ++ ".<locals>.") (some a) fd.code none fd.builtins
noncomputable def Ctx.lam (c : Ctx) (fd : FuncData) (a L : Addr) (k : Nat) (hf : c.fuel = k + 1) (hk : fd.scope.kind = .function) : Ctx :=
  ⟨c.prog, c.w, c.A.deeper (lamEnv fd L a), lamEnv fd L a, c.G, k, c.hh, (by have := c.hd; rw [hf] at this; show c.A.depth + 1 + k < recursionLimit; exact ar1 3 (.t (.a (.v 0) (.a (.v 1) (.n 1))) (.v 2)) (.t (.a (.a (.v 0) (.n 1)) (.v 1)) (.v 2)) (by kernel_rfl) [_, _, _] this),
    (by have := c.hu; rw [hf] at this; show c.A.units + 3 + 40 * k + 400 < cLine; exact ar1 3 (.t (.a (.a (.v 0) (.m 40 (.a (.v 1) (.n 1)))) (.n 400)) (.v 2)) (.t (.a (.a (.a (.v 0) (.n 3)) (.m 40 (.v 1))) (.n 400)) (.v 2)) (by kernel_rfl) [_, _, _] this), hk⟩
theorem brep_look {h : Heap} : ∀ {bs : List (Str × V)} {binds : List (Str × Value)}, BRep h bs binds → ∀ x u, bs.lookup x = some u → ∃ v, binds.lookup x = some v ∧ u.rep h v
  | [], _, b, x, u, e => by cases e
  | (y, w) :: bs, _, b, x, u, e => by
    obtain ⟨v, r, rfl, hv, hr⟩ := b.cons
    rw [List.lookup_cons] at e ⊢
    cases q : x == y with
    | true => rw [q] at e; cases e; exact ⟨v, rfl, hv⟩
    | false => rw [q] at e; exact brep_look hr x u e
theorem reps_rev {h : Heap} {xs : List V} {vs : List Value} (r : Reps h xs vs) : Reps h xs.reverse vs.reverse := by
  induction xs generalizing vs with
  | nil => cases (r : vs = []); rfl
  | cons x xs ih =>
    obtain ⟨v, r', rfl, hv, hr⟩ := r
    rw [List.reverse_cons, List.reverse_cons]
    exact (ih hr).append (.one hv)
theorem brep_rev {h : Heap} {bs : List (Str × V)} {binds : List (Str × Value)} (b : BRep h bs binds) : BRep h bs.reverse binds.reverse :=
  ⟨by rw [List.map_reverse, List.map_reverse, b.1], by rw [List.map_reverse, List.map_reverse]; exact reps_rev b.2⟩
theorem cal_lam {fa : Addr} {ob : Obj} {fd : FuncData} {body : Expr} {vs : List V} {bs : List (Str × V)} {k : Nat} (hfu : c.fuel = k + 1) (hf : Sees c H fa (.obj ob)) (hd : ob.data = .func fd)
    (hcd : ∀ m s, Rel c ⟨m, H⟩ s → s.heap.CodeRec fd.code fd.qualname)
    (hlim : c.Knows Heap.NoLimit) (hbody : fd.body = .expr body) (hk : fd.scope.kind = .function) (hco : fd.scope.isCoroutine = false) (hgen : fd.scope.isGenerator = false) (hcell : ∀ x ∈ fd.scope.names, x.2 ≠ .cell)
    (hbind : ∀ m H s vvs, Rel c ⟨m, H⟩ s → Reps s.heap vs vvs → ∃ binds, BindsTo s fd ⟨vvs, []⟩ binds ∧ BRep s.heap bs binds)
    (hkind : ∀ x ∈ bs, fd.scope.names.lookup x.1 = some .local)
    (h : ∀ L, WPe (c.lam fd fa L k hfu hk) body bs.reverse H fun u _ H' => Q u m H') : CalC c (.ref fa) vs m H Q := fun s vf vvs R rf rv P kont => by
  cases (rf : vf = _)
  obtain ⟨ho, _⟩ := hf m s R
  obtain ⟨binds, hb, br⟩ := hbind m H s vvs R rv
  have hkd : ∀ x ∈ binds, fd.scope.names.lookup x.1 = some .local := fun x hx => by
    have : x.1 ∈ bs.map (·.1) := br.1 ▸ List.mem_map.mpr ⟨x, hx, rfl⟩
    obtain ⟨y, hy, e⟩ := List.mem_map.mp this
    have := hkind y hy
    rw [e] at this
    exact this
  refine kla_callFunE (Nat.lt_of_le_of_lt (Nat.le_add_right _ _) c.hd) ho hd hco hgen hbody (hcd m s R) ?_
  refine hb _ _ _ _ ?_
  refine wpAny_newFunctionEnv hcell hkd (fun h₁ hns hsb => ?_) hk
  have hg : ∀ b o, s.heap.get? b = some o → h₁.get? b = some o := fun b o e => (hsb.2 b (Nat.ne_of_lt (Heap.lt_size e))).trans (push_grow b o e)
  refine ⟨(hlim s.heap R.keep).keeps hg, kla_codeExpr ?_⟩
  generalize hL : s.heap.objs.size = L at *
  have fresh : s.heap.get? L = .none := hL ▸ get_size _
  have fr := R.fresh fresh
  have br₁ : BRep h₁ bs binds := ⟨br.1, R.liftL (Fp.grow hg) br.2⟩
  have R₁ : Rel (c.lam fd fa L k hfu hk) ⟨bs.reverse, H⟩ (sw s h₁ (tkn s (s.toks + binds.length))) := by
    refine ⟨⟨_, hns, fun y u e => brep_look (brep_rev br₁) y u e⟩, fun a o hm => O.rep_keep (R.obj a o hm) R (Fp.grow hg) fun ob e => hg _ _ e, R.nd, fun a ha => ⟨fun e => ?_, (R.apart a ha).2⟩, fun b o e => hg b o (R.keep b o e), fr.2.2⟩
    have e' : a = L := e
    exact fr.1 (e' ▸ ha)
  have hLL : c.env.locals ≠ L := fr.2.1.symm
  refine wpAny_mono (h L _ R₁ _ fun u v m' H' h₂ tk₂ R₂ F₂ r₂ q₂ => ?_) (fun _ _ q => q) fun _ _ q => q.elim
  have F₂' : Fp L H H' h₁ h₂ := F₂
  have out : ∀ b o, b ∉ dom H → s.heap.get? b = some o → h₂.get? b = some o := fun b o hb e =>
    F₂'.keep b o hb (fun q => by subst q; rw [fresh] at e; cases e) (hg b o e)
  have F : Fp c.env.locals H H' s.heap h₂ := by
    refine ⟨fun b o hb _ e => out b o hb e, fun b hb => ?_, fun b o e => F₂'.alive b o (hg b o e)⟩
    rcases F₂'.dom b hb with q | q
    · exact .inl q
    · cases e : s.heap.get? b with
      | none => exact .inr rfl
      | some o => rw [hg b o e] at q; cases q
  have RR : Rel c ⟨m, H'⟩ (sw s h₂ tk₂) := by
    refine R.change tk₂ F ?_ R₂.obj R₂.nd
    obtain ⟨m', hn, q⟩ := R.loc
    obtain ⟨oL, es, ep, hoL, rL⟩ := hn
    exact ⟨m', ⟨oL, es, ep, out _ _ (fun q => (R.apart _ q).1 rfl) hoL, rL⟩, fun x u e => let ⟨v, h1, h2⟩ := q x u e; ⟨v, h1, V.rep_fp h2 R F⟩⟩
  exact kont u v m H' h₂ tk₂ RR F r₂ q₂
end
end Mine
end
section
open PySem PySem.W PyProof.Rows PySem.Calls PySem.SeqAt
set_option maxRecDepth 100000
namespace Mine
section
variable {c : Ctx} {m : Lo} {H : Hp} {pos : Pos} {Q : V → Lo → Hp → Prop} {K : Frag}
structure LamBase (c : Ctx) (mg : Str → Option Value) (cc P : Addr) : Prop where
  glo : c.Knows fun h => h.Ns mainGlobals mg
  bm : c.Knows fun h => ∃ bm ob, mg "__builtins__" = some (.ref bm) ∧ bm ≠ builtinsNs ∧ h.get? bm = some ob ∧ ob.cls = .type "module" ∧ ob.dict = some builtinsNs ∧ ob.data = .plain
  code : c.Knows fun h => CodeHd h cc P
  hc : c.env.code = .ref cc
  hg : c.env.globals = mainGlobals
theorem Rel.adopt {st : St} {s : Shared} {a : Addr} {o : O} (R : Rel c st s) (h1 : a ∉ dom st.H) (h2 : a ≠ c.env.locals) (h3 : c.G a = .none) (ho : o.rep c.prog c.w s.heap a) : Rel c ⟨st.m, (a, o) :: st.H⟩ s :=
  ⟨R.loc, fun b ob hb => by
    rcases List.mem_cons.mp hb with e | e
    · cases e; exact ho
    · exact R.obj b ob e, List.nodup_cons.mpr ⟨h1, R.nd⟩, fun b hb => by
    rcases List.mem_cons.mp hb with e | e
    · cases (e : b = a); exact ⟨h2, h3⟩
    · exact R.apart b e, R.keep, R.gl⟩
theorem e_lambda {params : Arguments} {body : Expr} {scope : Scope} {clos : List (Str × Addr)} {mg : Str → Option Value} {cc P : Addr} {ps : Array Value} {F : O → Hp} (B : LamBase c mg cc P) (hdef : defaultsOf params c.env = ([], [])) (hcl : closureFor scope c.env = pure clos)
    (sp : Spot P (.obj (tabObj ps)) H F) (ht : TriplesOk ps.toList) (hnf : codeAmong pos ps.toList = none)
    (h : ∀ f c' oc ctv vs t ps', oc.data = .fields vs → vs[1]? = some (.str (c.env.qual ++ "<lambda>") t) → Q (.ref f) m ((f, .obj (kla_obj "<lambda>" (c.env.qual ++ "<lambda>") params body scope clos ((mg "__name__").getD .none) c' ctv)) :: (c', .obj oc) :: F (.obj (tabObj ps')))) :
    WPe c (.Lambda params body scope pos) m H Q := fun s R Pk k => by
  have hP := (R.obj _ _ (sp.upd (.obj (tabObj ps))).mem).1
  obtain ⟨bm, ob, b1, b2, b3, b4, b5, b6⟩ := B.bm s.heap R.keep
  have hgs := B.glo s.heap R.keep
  have hgP : mainGlobals ≠ P := fun q => by
    obtain ⟨o, es, ep, e, hd, _⟩ := hgs
    rw [q, hP] at e; cases e; cases hd
  have hbP : bm ≠ P := fun q => by rw [q, hP] at b3; cases b3; cases b4
  have hbG : bm ≠ mainGlobals := fun q => by
    obtain ⟨o, es, ep, e, hd, _⟩ := hgs
    rw [q, e] at b3; cases b3; rw [hd] at b6; cases b6
  refine kla_eval hdef (kla_makeFunction (mg := mg) hcl B.hg hgs B.hc (B.code s.heap R.keep) hP ht hnf hgP ⟨bm, ob, b1, b2, hbG, hbP, b3, b4, b5, b6⟩ fun c' ctv h' tk hx hge hlt hrec htb => ?_)
  obtain ⟨c₂, oc, vs, t, e2, hoc, hd, hv⟩ := hrec
  cases e2
  have al : ∃ o, h'.get? P = some o := ⟨_, htb⟩
  have hkp : ∀ b o, b ≠ P → s.heap.get? b = some o → h'.get? b = some o := fun b o hb e => hx b o hb e
  have R1 := R.upd (h' := h') (tkn s tk) (sp.upd (.obj (tabObj (ps ++ #[rawInt pos.line, rawInt pos.col, .ref c'])))) hkp al fun _ => ⟨htb, by unfold Mine.Obj.fixed; trivial⟩
  have hc0 : s.heap.get? c' = .none := get_ge hge
  have frc := R.fresh hc0
  have hdom := (sp.upd (.obj (tabObj (ps ++ #[rawInt pos.line, rawInt pos.col, .ref c'])))).dom
  have R2 := R1.adopt (a := c') (o := .obj oc) (fun q => frc.1 (hdom ▸ q)) frc.2.1 frc.2.2 ⟨hoc, by unfold Mine.Obj.fixed; rw [hd]; trivial⟩
  have R3 := R2.new (h' := h'.push (kla_obj "<lambda>" (c.env.qual ++ "<lambda>") params body scope clos ((mg "__name__").getD .none) c' ctv)) (tkn s tk) (a := h'.objs.size) (o := .obj (kla_obj "<lambda>" (c.env.qual ++ "<lambda>") params body scope clos ((mg "__name__").getD .none) c' ctv)) push_grow (get_size h') ⟨Heap.get?_push_size _ rfl, by unfold Mine.Obj.fixed; trivial⟩
  have hPd : P ∈ dom H := List.mem_map.mpr ⟨_, (sp.upd (.obj (tabObj ps))).mem, rfl⟩
  have hf0 : s.heap.get? h'.objs.size = .none := get_ge (Nat.le_of_lt (Nat.lt_of_le_of_lt hge hlt))
  refine k (.ref h'.objs.size) _ m _ _ (tkn s tk) R3 ⟨fun b o hb _ e => push_grow _ _ (hkp b o (fun q => hb (q ▸ hPd)) e), fun b hb => ?_, fun b o e => ?_⟩ rfl (h _ c' oc ctv vs t _ hd hv)
  · rcases List.mem_cons.mp hb with q | hb
    · cases (q : b = h'.objs.size); exact .inr hf0
    · rcases List.mem_cons.mp hb with q | hb
      · cases (q : b = c'); exact .inr hc0
      · exact .inl (hdom ▸ hb)
  · by_cases q : b = P
    · subst q; exact ⟨_, push_grow _ _ htb⟩
    · exact ⟨o, push_grow _ _ (hkp b o q e)⟩
end
end Mine
end
section
open PySem PySem.W PyProof.Rows PySem.Calls PySem.SeqAt
set_option maxRecDepth 100000
namespace Mine
theorem noBool_fn : typeLookup (.type "function") "__bool__" = pure none := by rw [typeLookup_type, builtinLookup_eq_fast]; kernel_rfl
theorem noLen_fn : typeLookup (.type "function") "__len__" = pure none := by rw [typeLookup_type, builtinLookup_eq_fast]; kernel_rfl
section
variable {c : Ctx} {m : Lo} {H : Hp} {pos : Pos}
theorem keep_fn {f : Addr} {ob : Obj} {fd : FuncData} (hx : Sees c H f (.obj ob)) (hd : ob.data = .func fd) : KeepOk c (.ref f) H := fun m s vf R r => by
  cases (r : vf = _)
  obtain ⟨ho, _⟩ := hx m s R
  obtain ⟨a, b, d, e⟩ := ob
  dsimp only at hd
  subst hd
  exact keeps_F _ ⟨_, _, _, _, ho⟩
theorem tru_fn {f : Addr} {ob : Obj} {Q : Bool → Lo → Hp → Prop} (hx : Sees c H f (.obj ob)) (hc : ob.cls = .type "function") (h : Q true m H) : Tru c (.ref f) m H Q := fun s va R r => by
  cases (r : va = _)
  obtain ⟨ho, _⟩ := hx m s R
  have hT : s.TypeIs (.ref f) "function" := ⟨ob, ho, hc⟩
  refine .val R h fun P k => ?_
  unfold truthy
  first
    | refine wpAny_bind (wpAny_callSpecial?_none (name := Str.ofString "__bool__") hT noBool_fn ?_)
    | refine wpAny_bind (wpAny_pure (wpAny_bind (wpAny_callSpecial?_none (name := Str.ofString "__bool__") hT noBool_fn ?_)))
  first
    | refine wpAny_bind (wpAny_specialOf (name := Str.ofString "__len__") hT noLen_fn ?_)
    | refine wpAny_bind (wpAny_pure (wpAny_bind (wpAny_specialOf (name := Str.ofString "__len__") hT noLen_fn ?_)))
  exact wpAny_pure (k true s.toks rfl)
end
end Mine
end
section
namespace Mine
/-! plain: the places of each item, in the order in which the items come first -/
noncomputable abbrev Grp := List (IS × List Int)
noncomputable def addPos (g : Grp) (k : IS) (i : Int) : Grp := if k ∈ g.map (·.1) then g.map fun p => if p.1 = k then (p.1, p.2 ++ [i]) else p else g ++ [(k, [i])]
noncomputable def grpTo (bs : List IS) : Nat → Grp
  | 0 => []
  | n + 1 => match bs[n]? with
    | some k => addPos (grpTo bs n) k n
    | none => grpTo bs n
noncomputable def grp (bs : List IS) : Grp := grpTo bs bs.length
noncomputable def placesTo (bs : List IS) (n : Nat) (k : IS) : List Int := ((List.range n).filter fun i => decide (bs[i]? = some k)).map fun (i : Nat) => (i : Int)
theorem addPos_keys (g : Grp) (k : IS) (i : Int) : (addPos g k i).map (·.1) = if k ∈ g.map (·.1) then g.map (·.1) else g.map (·.1) ++ [k] := by
  unfold addPos
  split
  · rw [List.map_map]
    apply List.map_congr_left
    intro p _
    simp only [Function.comp]
    split <;> rfl
  · simp
theorem placesTo_succ (bs : List IS) (n : Nat) (k : IS) : placesTo bs (n + 1) k = placesTo bs n k ++ (if bs[n]? = some k then [(n : Int)] else []) := by
  unfold placesTo
  rw [List.range_succ, List.filter_append, List.map_append]
  congr 1
  by_cases h : bs[n]? = some k
  · simp [h]
  · simp [h]
structure IsGrp (bs : List IS) (n : Nat) (g : Grp) : Prop where
  nd : (g.map (·.1)).Nodup
  mem : ∀ k, k ∈ g.map (·.1) ↔ ∃ i, i < n ∧ bs[i]? = some k
  at_ : ∀ p ∈ g, p.2 = placesTo bs n p.1
theorem isGrp_to (bs : List IS) : ∀ n, n ≤ bs.length → IsGrp bs n (grpTo bs n)
  | 0, _ => ⟨by simp [grpTo], fun k => by simp [grpTo], fun p hp => by simp [grpTo] at hp⟩
  | n + 1, hn => by
    have ih := isGrp_to bs n (by exact ar1 2 (.l (.a (.v 0) (.n 1)) (.v 1)) (.l (.v 0) (.v 1)) (by kernel_rfl) [_, _] hn)
    have hlt : n < bs.length := by exact ar1 2 (.l (.a (.v 0) (.n 1)) (.v 1)) (.t (.v 0) (.v 1)) (by kernel_rfl) [_, _] hn
    have e : bs[n]? = some bs[n] := by simp [hlt]
    have hg : grpTo bs (n + 1) = addPos (grpTo bs n) bs[n] n := by simp only [grpTo, e]
    rw [hg]
    generalize hk : bs[n] = k at *
    generalize grpTo bs n = g at *
    refine ⟨?_, fun j => ?_, fun p hp => ?_⟩
    · rw [addPos_keys]
      split
      · exact ih.nd
      · rename_i hm
        rw [List.nodup_append]
        exact ⟨ih.nd, by simp, fun a ha b hb => by simp at hb; subst hb; intro q; exact hm (q ▸ ha)⟩
    · rw [addPos_keys]
      have key : (∃ i, i < n + 1 ∧ bs[i]? = some j) ↔ (∃ i, i < n ∧ bs[i]? = some j) ∨ j = k := by
        constructor
        · rintro ⟨i, hi, h⟩
          by_cases q : i = n
          · subst q; rw [e] at h; cases h; exact .inr rfl
          · exact .inl ⟨i, by exact ar2 2 (.t (.v 0) (.a (.v 1) (.n 1))) (.no (.e (.v 0) (.v 1))) (.t (.v 0) (.v 1)) (by kernel_rfl) [_, _] hi q, h⟩
        · rintro (⟨i, hi, h⟩ | rfl)
          · exact ⟨i, by exact ar1 2 (.t (.v 0) (.v 1)) (.t (.v 0) (.a (.v 1) (.n 1))) (by kernel_rfl) [_, _] hi, h⟩
          · exact ⟨n, by exact ar0 1 (.t (.v 0) (.a (.v 0) (.n 1))) (by kernel_rfl) [_], e⟩
      rw [key, ← ih.mem j]
      split
      · rename_i hm
        exact ⟨.inl, fun q => q.elim id fun q => q ▸ hm⟩
      · simp
    · rw [placesTo_succ]
      unfold addPos at hp
      split at hp
      · obtain ⟨q, hq, rfl⟩ := List.mem_map.mp hp
        split
        · rename_i h1
          dsimp only
          rw [ih.at_ q hq, h1, e]
          simp
        · rename_i h1
          rw [ih.at_ q hq, e]
          have : ¬ (some k = some q.1) := fun h => h1 (by injection h with h; exact h.symm)
          simp [this]
      · rename_i hm
        rcases List.mem_append.mp hp with hq | hq
        · rw [ih.at_ p hq, e]
          have : ¬ (some k = some p.1) := fun h => hm (by injection h with h; rw [h]; exact List.mem_map.mpr ⟨p, hq, rfl⟩)
          simp [this]
        · simp at hq
          subst hq
          dsimp only
          rw [e]
          have : placesTo bs n k = [] := by
            unfold placesTo
            rw [List.map_eq_nil_iff, List.filter_eq_nil_iff]
            intro i hi
            simp only [decide_eq_true_eq]
            intro h
            exact hm ((ih.mem k).mpr ⟨i, by simpa using hi, h⟩)
          simp [this]
theorem isGrp (bs : List IS) : IsGrp bs bs.length (grp bs) := isGrp_to bs _ (Nat.le_refl _)
end Mine
end
section
open PySem PySem.W PyProof.Rows PySem.Calls
namespace Mine
theorem Upd.mid {a : Addr} {o o' : O} {r : Hp} : ∀ (l : Hp), Upd a o o' (l ++ (a, o) :: r) (l ++ (a, o') :: r)
  | [] => .head r
  | p :: l => .tail (Upd.mid l)
theorem Less.perm {m : Lo} {H H' : Hp} (p : List.Perm H' H) : Less m H m H' := ⟨fun _ _ e => e, fun q hq => p.mem_iff.mp hq, fun nd => (p.map (·.1)).nodup_iff.mpr nd⟩
noncomputable abbrev GL := List (IS × Addr × List Int)
noncomputable def gD (G : GL) : List (IS × V) := G.map fun e => (e.1, .ref e.2.1)
noncomputable def gL (G : GL) : Hp := G.map fun e => (e.2.1, .list (e.2.2.map .int))
noncomputable def gP (G : GL) : Grp := G.map fun e => (e.1, e.2.2)
theorem gP_keys (G : GL) : (gP G).map (·.1) = G.map (·.1) := by unfold gP; rw [List.map_map]; rfl
theorem gD_keys (G : GL) : (gD G).map (·.1) = G.map (·.1) := by unfold gD; rw [List.map_map]; rfl
theorem find_none_gD {G : GL} {k : IS} (h : k ∉ G.map (·.1)) : (gD G).find? (fun e => decide (e.1 = k)) = .none := by
  rw [List.find?_eq_none]
  intro e he q
  have : e.1 ∈ (gD G).map (·.1) := List.mem_map.mpr ⟨e, he, rfl⟩
  rw [gD_keys] at this
  simp at q
  exact h (q ▸ this)
theorem dictAt_gD_none {G : GL} {k : IS} (h : k ∉ G.map (·.1)) : dictAt (gD G) k = .none := by
  unfold dictAt; rw [find_none_gD h]; rfl
theorem dictAt_gD_mid {G1 G2 : GL} {k : IS} {a : Addr} {ps : List Int} (h : k ∉ G1.map (·.1)) : dictAt (gD (G1 ++ (k, a, ps) :: G2)) k = some (.ref a) := by
  have e : gD (G1 ++ (k, a, ps) :: G2) = gD G1 ++ (k, .ref a) :: gD G2 := by unfold gD; simp
  unfold dictAt
  rw [e, List.find?_append, find_none_gD h]
  simp
theorem split_key {G : GL} {k : IS} (h : k ∈ G.map (·.1)) : ∃ G1 a ps G2, G = G1 ++ (k, a, ps) :: G2 ∧ k ∉ G1.map (·.1) := by
  induction G with
  | nil => simp at h
  | cons e G ih =>
    obtain ⟨k', a, ps⟩ := e
    by_cases q : k' = k
    · subst q; exact ⟨[], a, ps, G, rfl, by simp⟩
    · have : k ∈ G.map (·.1) := by
        rcases List.mem_cons.mp h with e | e
        · exact absurd e.symm q
        · exact e
      obtain ⟨G1, b, qs, G2, rfl, hn⟩ := ih this
      refine ⟨(k', a, ps) :: G1, b, qs, G2, rfl, ?_⟩
      intro hm
      rcases List.mem_cons.mp hm with e | e
      · exact q e.symm
      · exact hn e
theorem addPos_mid {G1 G2 : GL} {k : IS} {a : Addr} {ps : List Int} {i : Int} (h1 : k ∉ G1.map (·.1)) (h2 : k ∉ G2.map (·.1)) : addPos (gP (G1 ++ (k, a, ps) :: G2)) k i = gP (G1 ++ (k, a, ps ++ [i]) :: G2) := by
  have hm : k ∈ (gP (G1 ++ (k, a, ps) :: G2)).map (·.1) := by rw [gP_keys]; simp
  unfold addPos
  rw [if_pos hm]
  have no : ∀ G : GL, k ∉ G.map (·.1) → (gP G).map (fun p => if p.1 = k then (p.1, p.2 ++ [i]) else p) = gP G := fun G hG => by
    unfold gP
    rw [List.map_map]
    apply List.map_congr_left
    intro e he
    have : e.1 ≠ k := fun q => hG (q ▸ List.mem_map.mpr ⟨e, he, rfl⟩)
    simp [this]
  have e1 : ∀ (x : IS × Addr × List Int), gP (G1 ++ x :: G2) = gP G1 ++ (x.1, x.2.2) :: gP G2 := fun x => by unfold gP; simp
  rw [e1, e1, List.map_append, List.map_cons, no G1 h1, no G2 h2]
  simp
theorem addPos_new {G : GL} {k : IS} {a : Addr} {i : Int} (h : k ∉ G.map (·.1)) : addPos (gP G) k i = gP (G ++ [(k, a, [i])]) := by
  unfold addPos
  rw [if_neg (by rw [gP_keys]; exact h)]
  unfold gP
  simp
end Mine
namespace Mine
theorem addPos_len (g : Grp) (k : IS) (i : Int) : (addPos g k i).length ≤ g.length + 1 := by unfold addPos; split <;> simp
theorem grpTo_len (bs : List IS) : ∀ n, (grpTo bs n).length ≤ n
  | 0 => by simp [grpTo]
  | n + 1 => by
    have := grpTo_len bs n
    unfold grpTo
    split
    · have := addPos_len (grpTo bs n) ‹IS› n; lia
    · exact ar1 2 (.l (.v 0) (.v 1)) (.l (.v 0) (.a (.v 1) (.n 1))) (by kernel_rfl) [_, _] this
theorem placesTo_len (bs : List IS) (n : Nat) (k : IS) : (placesTo bs n k).length ≤ n := by
  unfold placesTo
  rw [List.length_map]
  exact Nat.le_trans (List.length_filter_le _ _) (by simp)
theorem gP_len (G : GL) : (gP G).length = G.length := by unfold gP; simp
theorem gD_len (G : GL) : (gD G).length = G.length := by unfold gD; simp
theorem gL_mid (G1 G2 : GL) (e : IS × Addr × List Int) (R : Hp) : gL (G1 ++ e :: G2) ++ R = gL G1 ++ (e.2.1, .list (e.2.2.map .int)) :: (gL G2 ++ R) := by unfold gL; simp
theorem grpTo_succ {bs : List IS} {n : Nat} {k : IS} (h : bs[n]? = some k) : grpTo bs (n + 1) = addPos (grpTo bs n) k n := by simp only [grpTo, h]
end Mine
namespace Mine
theorem less_perm {m m' : Lo} {H H' : Hp} (lm : LessM m m') (p : List.Perm H' H) : Less m H m' H' := ⟨(less_of lm (List.Sublist.refl H)).1, (Less.perm (m := m) p).2.1, (Less.perm (m := m) p).2.2⟩
end Mine
namespace Mine
theorem look_skip {x y : Str} {u : V} {l : List (Str × V)} (h : (x == y) = false) : ((y, u) :: l).lookup x = l.lookup x := by rw [List.lookup_cons, h]
end Mine
namespace Mine
theorem dictAt_mem {es : List (IS × V)} {k : IS} (h : k ∈ es.map (·.1)) : ∃ u, dictAt es k = some u := by
  obtain ⟨e, he, rfl⟩ := List.mem_map.mp h
  unfold dictAt
  cases q : es.find? fun e' => decide (e'.1 = e.1) with
  | none => rw [List.find?_eq_none] at q; exact absurd (q e he) (by simp)
  | some x => exact ⟨x.2, rfl⟩
theorem gD_filter (G : GL) (p : IS → Bool) : (gD G).filter (fun e => p e.1) = gD (G.filter fun e => p e.1) := by
  unfold gD; rw [List.filter_map]; rfl
theorem take_not {σ : List IS} (nd : σ.Nodup) {i : Nat} {k : IS} (h : σ[i]? = some k) : k ∉ σ.take i := fun hm => by
  have hi : i < σ.length := by
    rcases Nat.lt_or_ge i σ.length with q | q
    · exact q
    · rw [List.getElem?_eq_none q] at h; cases h
  rw [← List.take_append_drop i σ] at nd
  refine (List.nodup_append.mp nd).2.2 k hm k ?_ rfl
  rw [List.drop_eq_getElem_cons hi]
  simp [hi] at h
  simp [h]
end Mine
namespace Mine
theorem gL_mem {G : GL} {g : IS × Addr × List Int} (h : g ∈ G) : (g.2.1, O.list (g.2.2.map .int)) ∈ gL G := List.mem_map.mpr ⟨g, h, rfl⟩
end Mine
end
section
open PySem PySem.W PyProof.Rows PySem.Calls PySem.SeqAt
set_option maxRecDepth 100000
namespace Mine
section
variable {c : Ctx} {m : Lo} {H : Hp} {pos : Pos} {Q : V → Lo → Hp → Prop}
theorem e_band {e1 e2 : Expr} {rest : List Expr} (h : WPe c e1 m H fun a m1 H1 => Tru c a m1 H1 fun b m2 H2 => if b then WPe c (.BoolOp .And (e2 :: rest) pos) m2 H2 Q else Q a m2 H2) : WPe c (.BoolOp .And (e1 :: e2 :: rest) pos) m H Q :=
  fun s R P k => BoolOp_and (h s R _ fun a va m1 H1 h1 tk1 R1 F1 r1 q1 => q1 _ va R1 r1 _ fun x vx m2 H2 h2 tk2 R2 F2 r2 q2 => by
    cases r2
    cases x
    · exact k a va m2 H2 h2 tk2 R2 (F1.trans R1.hasL F2) (R1.lift F2 r1) q2
    · exact q2 _ R2 P fun v v' m3 H3 h3 tk3 R3 F3 r3 q3 => k v v' m3 H3 h3 tk3 R3 ((F1.trans R1.hasL F2).trans R2.hasL F3) r3 q3)
theorem e_bone {op : BoolOp} {e1 : Expr} (h : WPe c e1 m H Q) : WPe c (.BoolOp op [e1] pos) m H Q := h
theorem c_inE {a x : Addr} {ys : List Addr} (hx : Sees c H x (.list [])) (ha : Sees c H a (.list (ys.map .ref))) (hy : ∀ y ∈ ys, ∃ zs, zs ≠ [] ∧ Sees c H y (.list zs)) (h : Q (.bool false) m H) : Cmp c .In (.ref x) (.ref a) m H Q := fun s va vb R ra rb => by
  cases (ra : va = _); cases (rb : vb = _)
  obtain ⟨i1, n1, l1, r1⟩ := O.list_get (ha m s R)
  obtain ⟨i2, n2, l2, r2⟩ := O.list_get (hx m s R)
  have e2 : i2.toList = [] := r2
  have key : ∀ (ys : List Addr) (vs : List Value), Reps s.heap (ys.map .ref) vs → ∀ y ∈ vs, ∃ b ∈ ys, y = .ref b := by
    intro ys
    induction ys with
    | nil => intro vs r y hy; cases (r : vs = []); cases hy
    | cons b ys ih =>
      rintro vs ⟨v, r, rfl, hv, hr⟩ y hy
      rcases List.mem_cons.mp hy with rfl | hy
      · exact ⟨b, List.mem_cons_self, hv⟩
      · obtain ⟨b', hb, e⟩ := ih r hr y hy; exact ⟨b', List.mem_cons_of_mem _ hb, e⟩
  refine .val R h fun P kk => in_listAt (fun _ => false) (IsL.isList l1) (fun y hyy => ?_) (kk _ s.toks ?_)
  · obtain ⟨b, hb, rfl⟩ := key ys _ r1 y (by simpa using hyy)
    obtain ⟨zs, hz, hs⟩ := hy b hb
    obtain ⟨i3, n3, l3, r3⟩ := O.list_get (hs m s R)
    have hne : i3.size ≠ 0 := fun q => hz (by have := r3.length; rw [Array.length_toList, q] at this; exact List.length_eq_zero_iff.mp this.symm)
    have h2 : i2.size = 0 := by rw [← Array.length_toList, e2]; rfl
    refine EqAt.of_refs (fun q => ?_) (RcAt.lists_lengths (IsL.isList l3) (IsL.isList l2) (by rw [h2]; simpa using hne) c.hu1)
    subst q
    have l2' : s.heap.get? b = _ := l2
    have l3' : s.heap.get? b = _ := l3
    rw [l2'] at l3'
    cases l3'
    exact hne h2
  · show _ = _
    simp
end
end Mine
end
section
open PySem PySem.W PyProof.Rows PySem.Calls
set_option maxRecDepth 100000
namespace Mine
noncomputable abbrev lc2 (elt t iter : Expr) (ifs : List Expr) (t2 iter2 : Expr) (ifs2 : List Expr) (scope : Scope) (pos : Pos) : Expr := .ListComp elt [⟨t, iter, ifs, 0⟩, ⟨t2, iter2, ifs2, 0⟩] scope pos
theorem compTurn_outer (elt t iter : Expr) (ifs : List Expr) (t2 iter2 : Expr) (ifs2 : List Expr) (scope : Scope) (pos : Pos) (it acc : Value) (env : Env) :
    compTurn (lc2 elt t iter ifs t2 iter2 ifs2 scope pos) 0 it acc env = (do
      standAt iter.pos
      match ← pyNext it with
      | none => pure (.done .next)
      | some v =>
        letOwnedTupleGo t it v
        assign t env v
        let mut ok := true
        for c in ifs do
          if ok then ok ← isTrue c env (eval c env)
        if ok then
          let x ← eval iter2 env
          standAt iter2.pos
          let x ← foldedSetIterable iter2 env x
          let _ ← runOwn (.compStart (lc2 elt t iter ifs t2 iter2 ifs2 scope pos) 1 (← holding [x] (pyIter x)) acc env) env
        again (.compLoop (lc2 elt t iter ifs t2 iter2 ifs2 scope pos) 0 it acc env)) := by rfl
theorem compTurn_inner (elt t iter : Expr) (ifs : List Expr) (t2 iter2 : Expr) (ifs2 : List Expr) (scope : Scope) (pos : Pos) (it acc : Value) (env : Env) :
    compTurn (lc2 elt t iter ifs t2 iter2 ifs2 scope pos) 1 it acc env = (do
      standAt iter2.pos
      match ← pyNext it with
      | none => pure (.done .next)
      | some v =>
        letOwnedTupleGo t2 it v
        assign t2 env v
        let mut ok := true
        for c in ifs2 do
          if ok then ok ← isTrue c env (eval c env)
        if ok then
          (do let _ ← call (.builtin "list.append") [acc, ← eval elt env])
        again (.compLoop (lc2 elt t iter ifs t2 iter2 ifs2 scope pos) 1 it acc env)) := by rfl
section
variable {prog : Program} {w : World} {A : Around} {R : Result → Shared → Prop} {s : Shared} {elt t iter : Expr} {ifs : List Expr} {t2 iter2 : Expr} {ifs2 : List Expr} {scope : Scope} {pos : Pos} {it acc : Value} {env : Env}
theorem compLoop_inner (I : Nat → Shared → Prop)
    (turn : ∀ n s, I n s → wpAny (model prog w) A (pyNext it) (fun r s₁ => match r with
      | .none => R (.ok .next) s₁
      | some v => wpAny (model prog w) A (letOwnedTupleGo t2 it v) (fun _ s₁' => wpAny (model prog w) A (assign t2 env v) (fun _ s₂ =>
          wpAny (model prog w) A (forIn ifs2 true fun c r => if r = true then do let ok ← isTrue c env (eval c env); pure (ForInStep.yield ok) else pure (ForInStep.yield r)) (fun ok s₃ =>
            if ok = true then wpAny (model prog w) A (eval elt env) (fun x s₄ =>
              wpAny (model prog w) A (call (.builtin "list.append") [acc, x]) (fun _ s₅ => ∃ m, m < n ∧ I m s₅) (fun _ _ => False) s₄) (fun _ _ => False) s₃
            else ∃ m, m < n ∧ I m s₃) (fun _ _ => False) s₂) (fun _ _ => False) s₁') (fun _ _ => False) s₁) (fun _ _ => False) s)
    (n : Nat) (h : I n s) : codeAny (model prog w) A (.compLoop (lc2 elt t iter ifs t2 iter2 ifs2 scope pos) 1 it acc env) R s := by
  refine codeAny_loop rfl I (fun n s hI => ?_) n h
  show wpAny _ A ((compTurn (lc2 elt t iter ifs t2 iter2 ifs2 scope pos) 1 it acc env).onRaise (fun x => do noteFrame x env; theTreesLotGoes x)) _ _ s
  refine wpAny_noted ?_
  rw [compTurn_inner]
  refine wpAny_bind (wpAny_standAt (wpAny_bind (wpAny_mono (turn n s hI) (fun r s₁ h₁ => ?_) fun _ _ h' => h'.elim)))
  cases r with
  | none => exact wpAny_pure h₁
  | some v =>
    refine wpAny_bind (wpAny_mono h₁ (fun _ s₁' h₁' => ?_) fun _ _ h' => h'.elim)
    refine wpAny_bind (wpAny_mono h₁' (fun _ s₂ h₂ => wpAny_bind (wpAny_mono h₂ (fun ok s₃ h₃ => ?_) fun _ _ h' => h'.elim)) fun _ _ h' => h'.elim)
    cases ok with
    | false => exact wpAny_pure ⟨rfl, h₃⟩
    | true => exact wpAny_bind (wpAny_bind (wpAny_mono h₃ (fun x s₄ h₄ => wpAny_bind (wpAny_mono h₄ (fun _ s₅ h₅ => wpAny_pure (wpAny_pure ⟨rfl, h₅⟩)) fun _ _ h' => h'.elim)) fun _ _ h' => h'.elim))
theorem compLoop_outer (I : Nat → Shared → Prop)
    (turn : ∀ n s, I n s → wpAny (model prog w) A (pyNext it) (fun r s₁ => match r with
      | .none => R (.ok .next) s₁
      | some v => wpAny (model prog w) A (letOwnedTupleGo t it v) (fun _ s₁' => wpAny (model prog w) A (assign t env v) (fun _ s₂ =>
          wpAny (model prog w) A (forIn ifs true fun c r => if r = true then do let ok ← isTrue c env (eval c env); pure (ForInStep.yield ok) else pure (ForInStep.yield r)) (fun ok s₃ =>
            if ok = true then wpAny (model prog w) A (eval iter2 env) (fun x s₄ =>
              wpAny (model prog w) A (pyIter x) (fun it2 s₅ => codeAny (model prog w) A (.compStart (lc2 elt t iter ifs t2 iter2 ifs2 scope pos) 1 it2 acc env) (fun r s₆ => match r with | .ok _ => ∃ m, m < n ∧ I m s₆ | .error _ => False) s₅) (fun _ _ => False) s₄) (fun _ _ => False) s₃
            else ∃ m, m < n ∧ I m s₃) (fun _ _ => False) s₂) (fun _ _ => False) s₁') (fun _ _ => False) s₁) (fun _ _ => False) s)
    (hs : ∀ x, foldedSetIterable iter2 env x = pure x) (n : Nat) (h : I n s) : codeAny (model prog w) A (.compLoop (lc2 elt t iter ifs t2 iter2 ifs2 scope pos) 0 it acc env) R s := by
  refine codeAny_loop rfl I (fun n s hI => ?_) n h
  show wpAny _ A ((compTurn (lc2 elt t iter ifs t2 iter2 ifs2 scope pos) 0 it acc env).onRaise (fun x => do noteFrame x env; theTreesLotGoes x)) _ _ s
  refine wpAny_noted ?_
  rw [compTurn_outer]
  refine wpAny_bind (wpAny_standAt (wpAny_bind (wpAny_mono (turn n s hI) (fun r s₁ h₁ => ?_) fun _ _ h' => h'.elim)))
  cases r with
  | none => exact wpAny_pure h₁
  | some v =>
    refine wpAny_bind (wpAny_mono h₁ (fun _ s₁' h₁' => ?_) fun _ _ h' => h'.elim)
    refine wpAny_bind (wpAny_mono h₁' (fun _ s₂ h₂ => wpAny_bind (wpAny_mono h₂ (fun ok s₃ h₃ => ?_) fun _ _ h' => h'.elim)) fun _ _ h' => h'.elim)
    cases ok with
    | false => exact wpAny_pure ⟨rfl, h₃⟩
    | true =>
      refine wpAny_bind (wpAny_mono h₃ (fun x s₄ h₄ => wpAny_bind (wpAny_standAt (wpAny_bind (wpAny_of_eq (hs x) (wpAny_bind (wpAny_holding (wpAny_mono h₄ (fun it2 s₅ h₅ => ?_) fun _ _ h' => h'.elim))))))) fun _ _ h' => h'.elim)
      refine wpAny_bind (wpAny_runOwn (codeAny_mono h₅ fun r s₆ h₆ => ?_))
      cases r with
      | ok f => exact wpAny_pure ⟨rfl, h₆⟩
      | error e => exact h₆.elim
theorem codeAny_compStart_inner
    (h0 : codeAny (model prog w) A (.compLoop (lc2 elt t iter ifs t2 iter2 ifs2 scope pos) 1 it acc env) R s)
    (h : wpAny (model prog w) A (pyIter it) (fun it' s' => codeAny (model prog w) A (.compLoop (lc2 elt t iter ifs t2 iter2 ifs2 scope pos) 1 it' acc env) R s')
      (notedBy (model prog w) A env fun x s' => R (.error x) s') s) :
    codeAny (model prog w) A (.compStart (lc2 elt t iter ifs t2 iter2 ifs2 scope pos) 1 it acc env) R s := by
  refine codeAny_of_tree ?_
  show wpAny _ _ ((compStart (lc2 elt t iter ifs t2 iter2 ifs2 scope pos) 1 it acc env).onRaise (fun x => do noteFrame x env; standAt theWindowsPlace)) _ _ s
  refine wpAny_notedAt ?_
  unfold compStart
  show wpAny _ _ (ask >>= _) _ _ s
  refine wpAny_bind (wpAny_askSetting (wpAny_ite ?_))
  split
  · first
      | exact wpAny_bind (wpAny_pure (wpAny_pure (And.intro rfl h0)))
      | exact wpAny_pure (And.intro rfl h0)
  · first
      | exact wpAny_bind (wpAny_rule (wpAny_bind (wpAny_standAt (wpAny_bind (wpAny_mono h (fun it' s' h' => wpAny_pure (And.intro rfl h')) fun _ _ x => x)))))
      | (refine wpAny_bind (wpAny_rule ?_); show wpAny _ _ (standAt iter2.pos >>= _) _ _ s; exact wpAny_bind (wpAny_standAt (wpAny_bind (wpAny_mono h (fun it' s' h' => wpAny_pure (And.intro rfl h')) fun _ _ x => x))))
end
end Mine
end
section
open PySem PySem.W PyProof.Rows PySem.Calls
set_option maxRecDepth 100000
namespace Mine
noncomputable def InnerI (c : Ctx) (t2 elt : Expr) (ifs2 : List Expr) (D : Addr) (n : Nat) (x : Nat → V) (Ok : Hp → Prop) (m : Lo) (H : Hp) (Fin : Hp → Prop) : Prop :=
  ∃ I2 : Nat → Lo → Hp → Prop, I2 0 m H ∧ (∀ i m2 H2, i < n → I2 i m2 H2 → Ok H2 ∧ Asg c t2 (x i) m2 H2 fun m3 H3 => WPifs c ifs2 m3 H3 fun b m4 H4 =>
    if b then WPe c elt m4 H4 fun v m5 H5 => Cal c (.bi "list.append") [.ref D, v] m5 H5 fun _ m6 H6 => I2 (i + 1) m6 H6 else I2 (i + 1) m4 H4) ∧ ∀ m2 H2, I2 n m2 H2 → Ok H2 ∧ Fin H2
structure CompJ1' (c : Ctx) (s : Shared) (H0 : Hp) (base : Heap) (fp : List Addr) (J : Nat → Heap → Prop) (I : Nat → Lo → Hp → Prop) (n k : Nat) (s' : Shared) (i : Nat) (m' : Lo) (H' : Hp) (h' : Heap) (tk' : Tk) : Prop where
  p0 : s' = (sw s h' tk')
  p1 : Rel c ⟨m', H'⟩ s'
  p2 : Fp c.env.locals H0 H' base h'
  p3 : Aside c H' h' fp
  p4 : J i h'
  p5 : I i m' H'
  p6 : i ≤ n
  p7 : k = n + 1 - i
def CompJ1 (c : Ctx) (s : Shared) (H0 : Hp) (base : Heap) (fp : List Addr) (J : Nat → Heap → Prop) (I : Nat → Lo → Hp → Prop) (n k : Nat) (s' : Shared) : Prop := ∃ i m' H' h' tk', CompJ1' c s H0 base fp J I n k s' i m' H' h' tk'
theorem inner_run {c : Ctx} {t elt iter : Expr} {ifs : List Expr} {t2 iter2 : Expr} {ifs2 : List Expr} {scope : Scope} {pos : Pos} {it : Value} {fp : List Addr} {n : Nat} {x : Nat → V} {Ok : Hp → Prop} {J : Nat → Heap → Prop} {J' : Nat → Value → Heap → Prop} {D : Addr} {RR : Result → Shared → Prop} {s : Shared} {m : Lo} {H H0 : Hp} {base : Heap} {Fin : Hp → Prop}
    (W : Iter c t2 it fp n x Ok J J') (R1 : Rel c ⟨m, H⟩ s) (F1 : Fp c.env.locals H0 H base s.heap) (A1 : Aside c H s.heap fp) (hfr : ∀ b ∈ fp, base.get? b = .none) (j1 : J 0 s.heap) (hI : InnerI c t2 elt ifs2 D n x Ok m H Fin)
    (post : ∀ m' H' h tk, Rel c ⟨m', H'⟩ (sw s h tk) → Fp c.env.locals H0 H' base h → Fin H' → RR (.ok .next) (sw s h tk)) :
    codeAny (model c.prog c.w) c.A (.compLoop (lc2 elt t iter ifs t2 iter2 ifs2 scope pos) 1 it (.ref D) c.env) RR s := by
  obtain ⟨I, i0, step, fin⟩ := hI
  refine compLoop_inner (CompJ1 c s H0 base fp J I n) ?_ (n + 1)
    ⟨0, m, H, s.heap, (tkn s s.toks), rfl, R1, F1, A1, j1, i0, Nat.zero_le _, rfl⟩
  intro k' s' hJ
  refine cutm fun G hG => ?_
  obtain ⟨i, m2, H2, h2, tk2, rfl, R2, F2, A2, j2, hI, hle, rfl⟩ := hJ
  by_cases hlt : i < n
  · obtain ⟨ok, body⟩ := step i m2 H2 hlt hI
    refine hG (W.item i m2 H2 _ hlt R2 A2 ok j2 _ fun v h3 tk3 R3 k3 A3 j3 r3 => ?_)
    have F3 := F2.off hfr k3
    refine W.go i v m2 H2 _ R3 A3 j3 r3 _ fun h4 tk4 R4 k4 A4 j4 r4 => ?_
    have F4 := F3.off hfr k4
    refine body _ v R4 r4 _ fun _ _ m5 H5 h5 tk5 R5 F5 _ q5 => ?_
    refine q5.run _ R5 _ fun b vb m6 H6 h6 tk6 R6 F6 r6 q6 => ?_
    refine cutm fun G hG => ?_
    cases r6
    have A5 := A4.step F5
    have A6 := A5.step F6
    have kp6 : ∀ b ∈ fp, ∀ o, h4.get? b = some o → h6.get? b = some o := fun b hb o e =>
      F6.keep b o (A5 b hb).1 (A5 b hb).2.1 (F5.keep b o (A4 b hb).1 (A4 b hb).2.1 e)
    have F6' := (F4.trans R4.hasL F5).trans R5.hasL F6
    cases b with
    | false => exact hG ⟨n + 1 - (i + 1), by exact ar1 2 (.t (.v 0) (.v 1)) (.t (.s (.a (.v 1) (.n 1)) (.a (.v 0) (.n 1))) (.s (.a (.v 1) (.n 1)) (.v 0))) (by kernel_rfl) [_, _] hlt, i + 1, m6, H6, h6, tk6, rfl, R6, F6', A6, W.keep _ _ _ j4 kp6, q6, hlt, rfl⟩
    | true =>
      refine hG (q6 _ R6 _ fun u vu m7 H7 h7 tk7 R7 F7 r7 q7 => ?_)
      have A7 := A6.step F7
      refine q7 _ _ _ R7 rfl ⟨_, _, rfl, rfl, ⟨_, _, rfl, r7, rfl⟩⟩ _ fun _ _ m8 H8 h8 tk8 R8 F8 _ q8 => ?_
      have A8 := A7.step F8
      have kp8 : ∀ b ∈ fp, ∀ o, h4.get? b = some o → h8.get? b = some o := fun b hb o e =>
        F8.keep b o (A7 b hb).1 (A7 b hb).2.1 (F7.keep b o (A6 b hb).1 (A6 b hb).2.1 (kp6 b hb o e))
      exact ⟨n + 1 - (i + 1), by exact ar1 2 (.t (.v 0) (.v 1)) (.t (.s (.a (.v 1) (.n 1)) (.a (.v 0) (.n 1))) (.s (.a (.v 1) (.n 1)) (.v 0))) (by kernel_rfl) [_, _] hlt, i + 1, m8, H8, h8, tk8, rfl, R8, (F6'.trans R6.hasL F7).trans R7.hasL F8, A8, W.keep _ _ _ j4 kp8, q8, hlt, rfl⟩
  · have hin : i = n := by exact ar2 2 (.l (.v 0) (.v 1)) (.no (.t (.v 0) (.v 1))) (.e (.v 0) (.v 1)) (by kernel_rfl) [_, _] hle hlt
    subst hin
    obtain ⟨ok, q⟩ := fin m2 H2 hI
    refine hG (W.done m2 H2 _ R2 A2 ok j2 _ fun h3 tk3 R3 k3 => ?_)
    exact post m2 H2 h3 tk3 R3 (F2.off hfr k3) q
section
variable {c : Ctx} {m : Lo} {H : Hp} {pos : Pos} {Q : V → Lo → Hp → Prop}
noncomputable def OuterI (c c2 : Ctx) (t elt : Expr) (ifs : List Expr) (t2 iter2 : Expr) (ifs2 : List Expr) (D : Addr) (n : Nat) (x : Nat → V) (Ok : Hp → Prop) (H1 : Hp) (Fin : Hp → Prop) : Prop :=
  ∃ I : Nat → Hp → Prop, I 0 ((D, .list []) :: H1) ∧ (∀ i H2, i < n → I i H2 → Ok H2 ∧ Asg c2 t (x i) [] H2 fun m3 H3 => WPifs c2 ifs m3 H3 fun b m4 H4 =>
    if b then WPit c2 t2 iter2 m4 H4 fun n2 x2 Ok2 m5 H5 => InnerI c2 t2 elt ifs2 D n2 x2 Ok2 m5 H5 (I (i + 1)) else I (i + 1) H4) ∧ ∀ H2, I n H2 → Ok H2 ∧ Fin H2
structure CompJ2' (c : Ctx) (s : Shared) (m1 : Lo) (H : Hp) (base : Heap) (fp : List Addr) (C : Addr) (J : Nat → Heap → Prop) (I : Nat → Hp → Prop) (n k : Nat) (s' : Shared) (i : Nat) (m2 : Str → Option Value) (H' : Hp) (h' : Heap) (tk' : Tk) : Prop where
  p0 : s' = (sw s h' tk')
  p1 : Rel c ⟨m1, H'⟩ s'
  p2 : Fp c.env.locals H H' base h'
  p3 : Aside c H' h' fp
  p4 : (C ∉ dom H' ∧ C ≠ c.env.locals ∧ c.G C = .none)
  p5 : h'.Ns C m2
  p6 : J i h'
  p7 : I i H'
  p8 : i ≤ n
  p9 : k = n + 1 - i
def CompJ2 (c : Ctx) (s : Shared) (m1 : Lo) (H : Hp) (base : Heap) (fp : List Addr) (C : Addr) (J : Nat → Heap → Prop) (I : Nat → Hp → Prop) (n k : Nat) (s' : Shared) : Prop := ∃ i m2 H' h' tk', CompJ2' c s m1 H base fp C J I n k s' i m2 H' h' tk'
theorem comp_loop2 {RR : Result → Shared → Prop} {scope : Scope} {cl : List (Str × Addr)} {hk : scope.kind = .function} {t elt iter : Expr} {ifs : List Expr} {t2 iter2 : Expr} {ifs2 : List Expr} {it : Value} {fp : List Addr} {n : Nat} {x : Nat → V} {Ok : Hp → Prop} {J : Nat → Heap → Prop} {J' : Nat → Value → Heap → Prop}
    {H1 : Hp} {m1 : Lo} {s : Shared} {base : Heap} {D C : Addr} {Fin : Hp → Prop} {m0 : Str → Option Value} (hs : ∀ x, foldedSetIterable iter2 (compEnvC scope cl C c.env) x = pure x) (W : Iter c t it fp n x Ok J J') (hw : OuterI c (c.comp scope cl C hk) t elt ifs t2 iter2 ifs2 D n x Ok H1 Fin)
    (R1 : Rel c ⟨m1, (D, .list []) :: H1⟩ s) (F1 : Fp c.env.locals H ((D, .list []) :: H1) base s.heap) (A1 : Aside c ((D, .list []) :: H1) s.heap fp) (hfr : ∀ b ∈ fp, base.get? b = .none) (hC : base.get? C = .none) (hCo : C ∉ dom ((D, .list []) :: H1) ∧ C ≠ c.env.locals ∧ c.G C = .none) (hCf : C ∉ fp)
    (hn : s.heap.Ns C m0) (j : J 0 s.heap)
    (post : ∀ H2 h2 tk2 m2, Rel c ⟨m1, H2⟩ (sw s h2 tk2) → Fp c.env.locals H H2 base h2 → h2.Ns C m2 → (C ∉ dom H2 ∧ C ≠ c.env.locals ∧ c.G C = .none) → Fin H2 → RR (.ok .next) (sw s h2 tk2)) :
    codeAny (model c.prog c.w) c.A (.compLoop (lc2 elt t iter ifs t2 iter2 ifs2 scope pos) 0 it (.ref D) (compEnvC scope cl C c.env)) RR s := by
  obtain ⟨I, i0, step, fin⟩ := hw
  refine compLoop_outer (CompJ2 c s m1 H base fp C J I n) ?_ hs (n + 1) ⟨0, m0, _, s.heap, (tkn s s.toks), rfl, R1, F1, A1, hCo, hn, j, i0, Nat.zero_le _, rfl⟩
  intro k s' hJ
  refine cutm fun G hG => ?_
  obtain ⟨i, m2, H2, h2, tk2, rfl, R2, F2, A2, hC2, hn2, j2, hI, hle, rfl⟩ := hJ
  by_cases hlt : i < n
  · obtain ⟨ok, body⟩ := step i H2 hlt hI
    refine hG (W.item i m1 H2 _ hlt R2 A2 ok j2 _ fun v h3 tk3 R3 k3 A3 j3 r3 => ?_)
    have F3 := F2.off hfr k3
    have hn3 : h3.Ns C m2 := hn2.at' fun o e => k3 C o hCf e
    refine W.go i v m1 H2 _ R3 A3 j3 r3 _ fun h4 tk4 R4 k4 A4 j4 r4 => ?_
    have F4 := F3.off hfr k4
    have hn4 : h4.Ns C m2 := hn3.at' fun o e => k4 C o hCf e
    have R4' : Rel (c.comp scope cl C hk) ⟨[], H2⟩ _ := R4.inner hn4 hC2.1 hC2.2.2
    have A4' : Aside (c.comp scope cl C hk) H2 h4 fp := fun b q => by
      obtain ⟨a1, a2, a3, a4⟩ := A4 b q
      exact ⟨a1, fun e => (by have e' : b = C := e; subst e'; exact hCf q), a3, a4⟩
    refine body _ v R4' r4 _ fun _ _ m5 H5 h5 tk5 R5 F5 _ q5 => ?_
    refine q5.run _ R5 _ fun b vb m6 H6 h6 tk6 R6 F6 r6 q6 => ?_
    refine cutm fun G hG => ?_
    cases r6
    have F56 := F5.trans R5.hasL F6
    -- a run of the inside that ends at H', h'
    have close : ∀ m' H' h' tk', Rel (c.comp scope cl C hk) ⟨m', H'⟩ (sw s h' tk') → Fp C H2 H' h4 h' → I (i + 1) H' → ∃ k, k < n + 1 - i ∧ CompJ2 c s m1 H base fp C J I n k (sw s h' tk') := fun m' H' h' tk' R' F' hI' => by
      have A' := A4'.step F'
      have kp : ∀ b ∈ fp, ∀ o, h4.get? b = some o → h'.get? b = some o := fun b hb o e => F'.keep b o (A4' b hb).1 (A4' b hb).2.1 e
      obtain ⟨m6', hn6, _⟩ := R'.loc
      refine ⟨n + 1 - (i + 1), by exact ar1 2 (.t (.v 0) (.v 1)) (.t (.s (.a (.v 1) (.n 1)) (.a (.v 0) (.n 1))) (.s (.a (.v 1) (.n 1)) (.v 0))) (by kernel_rfl) [_, _] hlt, i + 1, m6', H', h', tk', rfl, R4.outer R4' (Ne.symm hC2.2.1) F' R', F4.via hC F', fun b hb => ?_, ⟨fun q => (R'.apart C q).1 rfl, hC2.2⟩, hn6, W.keep _ _ _ j4 kp, hI', hlt, rfl⟩
      obtain ⟨a1, a2, a3, a4⟩ := A' b hb
      exact ⟨a1, (A2 b hb).2.1, a3, a4⟩
    cases b with
    | false => exact hG (close m6 H6 h6 tk6 R6 F56 q6)
    | true =>
      refine hG (q6 _ R6 _ fun it2 fp2 n2 x2 Ok2 J2 J2' m7 H7 h7 tk7 W2 R7 F7 A7 fr7 j7 q7 => ?_)
      have F57 := F56.trans R6.hasL F7
      have fr7' : ∀ b ∈ fp2, h4.get? b = .none := fun b hb => by
        cases q : h4.get? b with
        | none => rfl
        | some o => obtain ⟨o', e⟩ := F56.alive b o q; rw [show h6.get? b = .none from fr7 b hb] at e; cases e
      have main : ∀ RR' : Result → Shared → Prop, (∀ m' H' h' tk', Rel (c.comp scope cl C hk) ⟨m', H'⟩ (sw s h' tk') → Fp C H2 H' h4 h' → I (i + 1) H' → RR' (.ok .next) (sw s h' tk')) →
          codeAny (model c.prog c.w) c.A (.compLoop (lc2 elt t iter ifs t2 iter2 ifs2 scope pos) 1 it2 (.ref D) (compEnvC scope cl C c.env)) RR' (sw s h7 tk7) := fun RR' p =>
        inner_run (c := c.comp scope cl C hk) W2 R7 F57 A7 fr7' j7 q7 fun m8 H8 h8 tk8 R8 F8 q8 => p m8 H8 h8 tk8 R8 F8 q8
      exact codeAny_compStart_inner (main _ fun m8 H8 h8 tk8 R8 F8 q8 => close m8 H8 h8 tk8 R8 F8 q8) (wpAny_mono (W2.self _ _ j7 (main _ fun m8 H8 h8 tk8 R8 F8 q8 => close m8 H8 h8 tk8 R8 F8 q8)) (fun _ _ q => q) fun _ _ q => q.elim)
  · have hin : i = n := by exact ar2 2 (.l (.v 0) (.v 1)) (.no (.t (.v 0) (.v 1))) (.e (.v 0) (.v 1)) (by kernel_rfl) [_, _] hle hlt
    subst hin
    obtain ⟨ok, q⟩ := fin H2 hI
    refine hG (W.done m1 H2 _ R2 A2 ok j2 _ fun h3 tk3 R3 k3 => ?_)
    exact post H2 h3 tk3 m2 R3 (F2.off hfr k3) (hn2.at' fun o e => k3 C o hCf e) hC2 q
theorem e_comp2 {t elt iter : Expr} {ifs : List Expr} {t2 iter2 : Expr} {ifs2 : List Expr} {scope : Scope} {cl : List (Str × Addr)} (hclos : closureFor scope c.env = pure cl) (hk : scope.kind = .function)
    (h : WPit c t iter m H fun n x Ok m1 H1 => ∀ C D, OuterI c (c.comp scope cl C hk) t elt ifs t2 iter2 ifs2 D n x Ok H1 fun H2 => Q (.ref D) m1 H2)
    (hcell : autoParam (∀ y ∈ scope.names, y.2 ≠ .cell) auDec) (hnames : autoParam (∀ y ∈ scope.names, y.2 = .local → scope.names.lookup y.1 = some .local) auDec)
    (hs : autoParam (∀ x, foldedSetIterable iter c.env x = pure x) auFun) (hs2 : ∀ C x, foldedSetIterable iter2 (compEnvC scope cl C c.env) x = pure x := by intro _ _; rfl) : WPe c (lc2 elt t iter ifs t2 iter2 ifs2 scope pos) m H Q := fun s R P k => by
  rw [eval_ListComp]
  refine wpAny_comprehension_free (use := .none) rfl hs hclos hk hnames (h s R _ fun it fp n x Ok J J' m1 H1 h1 tk1 W R1 F1 A1 hfr j1 q => ?_)
  refine wpAny_newObj_type ?_
  refine wpAny_newFunctionEnv hcell (fun y hy => by cases hy) (fun h' hn hs' => ?_) hk
  have e1 : (h1.push { cls := .type "list", data := .seq #[] }).objs.size = h1.objs.size + 1 := by simp
  have g1 : ∀ b o, h1.get? b = some o → (h1.push { cls := .type "list", data := .seq #[] }).get? b = some o := push_grow
  have g2 : ∀ b o, (h1.push { cls := .type "list", data := .seq #[] }).get? b = some o → h'.get? b = some o := fun b o e =>
    (hs'.2 b (Nat.ne_of_lt (Heap.lt_size e))).trans (push_grow b o e)
  have g : ∀ b o, h1.get? b = some o → h'.get? b = some o := fun b o e => g2 b o (g1 b o e)
  have hl : IsL h' h1.objs.size #[] 0 := g2 _ _ (Heap.get?_push_size _ rfl)
  have fD := R1.fresh (get_size h1)
  have cN : h1.get? (h1.objs.size + 1) = .none := get_ge (Nat.le_succ _)
  have fC := R1.fresh cN
  have back : ∀ b, h1.get? b = .none → s.heap.get? b = .none := fun b hb => by
    cases q : s.heap.get? b with
    | none => rfl
    | some o => obtain ⟨o', e⟩ := F1.alive _ _ q; rw [hb] at e; cases e
  have live : ∀ b ∈ fp, b < h1.objs.size := fun b hb => by obtain ⟨_, _, _, o, ho, _⟩ := A1 b hb; exact Heap.lt_size ho
  have hnt : ∀ b ∈ fp, b ≠ h1.objs.size := fun b hb => Nat.ne_of_lt (live b hb)
  have RN : ∀ tk, Rel c ⟨m1, (h1.objs.size, .list []) :: H1⟩ (sw s h' tk) := fun tk => R1.new (h' := h') tk g (get_size h1) (O.list_mk hl rfl)
  have FN : Fp c.env.locals H ((h1.objs.size, .list []) :: H1) s.heap h' := F1.trans R1.hasL (.new g (get_size h1))
  have eC : ({ newEnv scope (h1.push { cls := .type "list", data := .seq #[] }).objs.size c.env.globals cl c.env.qual .none .none (some c.env) 0 with scope := relabel scope c.env } : Env) = compEnvC scope cl (h1.objs.size + 1) c.env := by rw [e1]; rfl
  have e2 : (newEnv scope (h1.push { cls := .type "list", data := .seq #[] }).objs.size c.env.globals cl c.env.qual .none .none (some c.env) 0).locals = h1.objs.size + 1 := e1
  show codeAny _ _ (.compStart _ 0 it (.ref h1.objs.size) { newEnv scope (h1.push { cls := .type "list", data := .seq #[] }).objs.size c.env.globals cl c.env.qual .none .none (some c.env) 0 with scope := relabel scope c.env }) (compPost _ _ _ .none P (.ref h1.objs.size) (newEnv scope (h1.push { cls := .type "list", data := .seq #[] }).objs.size c.env.globals cl c.env.qual .none .none (some c.env) 0).locals) _
  rw [eC, e2]
  have main := fun (tk : Tk) => comp_loop2 (c := c) (H := H) (pos := pos) (RR := compPost (model c.prog c.w) c.A (fun _ _ => False) .none P (.ref h1.objs.size) (h1.objs.size + 1)) (iter := iter) (hk := hk) (s := (sw s h' tk)) (base := s.heap) (D := h1.objs.size) (C := h1.objs.size + 1)
    (hs2 _) W (q (h1.objs.size + 1) h1.objs.size) (RN tk) FN (fun b hb => by
      obtain ⟨a1, a2, a3, o, ho, nt⟩ := A1 b hb
      exact ⟨fun q => (List.mem_cons.mp q).elim (hnt b hb) a1, a2, a3, o, g b o ho, nt⟩) hfr (back _ cN) ⟨fun q => by
      rcases List.mem_cons.mp q with e | e
      · exact absurd (e : h1.objs.size + 1 = h1.objs.size) (Nat.succ_ne_self _)
      · exact fC.1 e, fC.2⟩ (fun q => absurd (live _ q) (Nat.not_lt.mpr (Nat.le_succ _)))
    (m0 := fun x => ([] : List (Str × Value)).reverse.lookup x) (by rw [← e1]; exact hn) (W.keep _ _ _ j1 fun b _ o e => g b o e) (fun H2 h2 tk2 m2 R2 F2 N o q => by
      refine ⟨m2, N, fun h'' hs'' => ?_⟩
      obtain ⟨oC, es, ep, hoC, hdC, _⟩ := N
      have R3 := R2.off (h' := h'') tk2 hoC (fun _ _ _ q => by rw [hdC] at q; cases q.2) o.1 o.2.1 o.2.2 (Heap.SameBut.kp hs'')
      exact k (.ref h1.objs.size) _ m1 _ h'' tk2 R3 (F2.off (fp := [h1.objs.size + 1]) (fun b hb => by simp at hb; subst hb; exact back _ cN) (one_off (Heap.SameBut.kp hs''))) rfl q)
  exact codeAny_compStart_list (main _) (wpAny_mono (W.self _ _ (W.keep _ _ _ j1 fun b _ o e => g b o e) (main _)) (fun _ _ q => q) fun _ _ q => q.elim)
end
end Mine
end
section
open PySem PyProof.Rows
set_option maxRecDepth 100000
namespace Mine
noncomputable def Rk (rk : Keyed → Int) (xs : Array Keyed) (i : Nat) : Int := match xs[i]? with
  | some p => rk p
  | none => 0
noncomputable def SoOn (rk : Keyed → Int) (xs : Array Keyed) (lo n : Nat) : Prop := ∀ i j, i ≤ j → j < n → Rk rk xs (lo + i) ≤ Rk rk xs (lo + j)
noncomputable def NiOn (rk : Keyed → Int) (xs : Array Keyed) (lo n : Nat) : Prop := ∀ i j, i ≤ j → j < n → Rk rk xs (lo + j) ≤ Rk rk xs (lo + i)
noncomputable def LtOk (prog : Program) (w : World) (A : Around) (E : Value → Shared → Prop) (s : Shared) (kd : SortKind) (U : Keyed → Prop) (rk : Keyed → Int) : Prop :=
  ∀ p q st (Q : Option Bool → SortSt → Prop), U p → U q → kindOf st = kd → Q (some (decide (rk p < rk q))) st → wpS (model prog w) A E s (lt' p q) Q st
structure SB (kd : SortKind) (U : Keyed → Prop) (a₀ : Array Keyed) (lo : Nat) (pd : Array (Nat × Nat × Nat)) (st : SortSt) : Prop where
  perm : (arrOf st).Perm a₀
  pre : ∀ i, i < lo → (arrOf st)[i]? = a₀[i]?
  kind : kindOf st = kd
  failed : failedOf st = none
  pend : pendingOf st = pd
  all : ∀ p, p ∈ a₀.toList → U p
section
variable {σ α : Type} {M : Model} {A : Around} {E : Value → Shared → Prop} {s : Shared} {c : Prop} [Decidable c] {t e : StateT σ Sem α} {Q : α → σ → Prop} {st : σ}
theorem wif_t (h : c) (k : wpS M A E s t Q st) : wpS M A E s (if c then t else e) Q st := by rw [if_pos h]; exact k
theorem wif_f (h : ¬c) (k : wpS M A E s e Q st) : wpS M A E s (if c then t else e) Q st := by rw [if_neg h]; exact k
theorem wif (k1 : c → wpS M A E s t Q st) (k2 : ¬c → wpS M A E s e Q st) : wpS M A E s (if c then t else e) Q st := by
  by_cases h : c
  · exact wif_t h (k1 h)
  · exact wif_f h (k2 h)
end
section
variable {kd : SortKind} {U : Keyed → Prop} {rk : Keyed → Int} {a₀ : Array Keyed} {lo : Nat} {pd : Array (Nat × Nat × Nat)} {st : SortSt}
theorem SB.size (h : SB kd U a₀ lo pd st) : (arrOf st).size = a₀.size := h.perm.size_eq
theorem SB.setArr (h : SB kd U a₀ lo pd st) {xs : Array Keyed} (hp : xs.Perm (arrOf st)) (hq : ∀ i, i < lo → xs[i]? = (arrOf st)[i]?) : SB kd U a₀ lo pd (setArr st xs) :=
  ⟨hp.trans h.perm, fun i hi => (hq i hi).trans (h.pre i hi), h.kind, h.failed, h.pend, h.all⟩
theorem SB.at (h : SB kd U a₀ lo pd st) {i : Nat} (hi : i < a₀.size) : ∃ p, (arrOf st)[i]? = some p ∧ U p ∧ Rk rk (arrOf st) i = rk p := by
  have hi' : i < (arrOf st).size := by rw [h.size]; exact hi
  have hm : (arrOf st)[i] ∈ a₀.toList := (Array.perm_iff_toList_perm.mp h.perm).mem_iff.mp (by simp)
  have e : (arrOf st)[i]? = some (arrOf st)[i] := getElem?_pos _ i hi'
  refine ⟨_, e, h.all _ hm, ?_⟩
  unfold Rk; rw [e]
theorem Rk_congr {xs ys : Array Keyed} {i j : Nat} (h : xs[i]? = ys[j]?) : Rk rk xs i = Rk rk ys j := by unfold Rk; rw [h]
theorem Rk_bubble {xs : Array Keyed} {src d : Nat} (hs : src < xs.size) (hd : d ≤ src) (k : Nat) :
    Rk rk (bubble xs src d) k = if k = src - d then Rk rk xs src else if src - d < k ∧ k ≤ src then Rk rk xs (k - 1) else Rk rk xs k := by
  have e := getElem?_bubble hs d hd k
  by_cases h1 : k = src - d
  · rw [if_pos h1] at e ⊢; exact Rk_congr e
  · rw [if_neg h1] at e ⊢
    by_cases h2 : src - d < k ∧ k ≤ src
    · rw [if_pos h2] at e ⊢; exact Rk_congr e
    · rw [if_neg h2] at e ⊢; exact Rk_congr e
theorem Rk_mirror {xs : Array Keyed} {i j : Nat} (hj : j ≤ xs.size) (k : Nat) :
    Rk rk (mirror xs i j ((j - i) / 2)) k = if i ≤ k ∧ k < j then Rk rk xs (i + j - 1 - k) else Rk rk xs k := by
  have e := getElem?_mirror_all (i := i) hj k
  by_cases h1 : i ≤ k ∧ k < j
  · rw [if_pos h1] at e ⊢; exact Rk_congr e
  · rw [if_neg h1] at e ⊢; exact Rk_congr e
theorem Rk_mirror_equal {xs : Array Keyed} {i j : Nat} (hj : j ≤ xs.size) (heq : ∀ k, i ≤ k → k < j → Rk rk xs k = Rk rk xs (j - 1)) (k : Nat) :
    Rk rk (mirror xs i j ((j - i) / 2)) k = Rk rk xs k := by
  rw [Rk_mirror hj]
  split
  · rw [heq _ (by omega) (by omega), heq k (by lia) (by lia)]
  · rfl
theorem mirror_pre {xs : Array Keyed} {i j lo : Nat} (hj : j ≤ xs.size) (hi : lo ≤ i) : ∀ k, k < lo → (mirror xs i j ((j - i) / 2))[k]? = xs[k]? := fun k hk => by
  rw [getElem?_mirror_all hj, if_neg (by exact ar2 4 (.l (.v 0) (.v 1)) (.t (.v 2) (.v 0)) (.no (.an (.l (.v 1) (.v 2)) (.t (.v 2) (.v 3)))) (by kernel_rfl) [_, _, _, _] hi hk)]
theorem bubble_pre {xs : Array Keyed} {src d lo : Nat} (hs : src < xs.size) (hd : d ≤ src) (hl : lo ≤ src - d) : ∀ k, k < lo → (bubble xs src d)[k]? = xs[k]? := fun k hk => by
  rw [getElem?_bubble hs d hd, if_neg (by exact ar2 4 (.l (.v 0) (.s (.v 1) (.v 2))) (.t (.v 3) (.v 0)) (.no (.e (.v 3) (.s (.v 1) (.v 2)))) (by kernel_rfl) [_, _, _, _] hl hk), if_neg (by exact ar2 4 (.l (.v 0) (.s (.v 1) (.v 2))) (.t (.v 3) (.v 0)) (.no (.an (.t (.s (.v 1) (.v 2)) (.v 3)) (.l (.v 3) (.v 1)))) (by kernel_rfl) [_, _, _, _] hl hk)]
end
section
variable {prog : Program} {w : World} {A : Around} {E : Value → Shared → Prop} {s : Shared}
variable {kd : SortKind} {U : Keyed → Prop} {rk : Keyed → Int} {a₀ : Array Keyed} {lo : Nat} {pd : Array (Nat × Nat × Nat)} {st : SortSt}
theorem wpS_ltR (L : LtOk prog w A E s kd U rk) {i j : Nat} {Q : Option Bool → SortSt → Prop} (hB : SB kd U a₀ lo pd st) (hi : i < a₀.size) (hj : j < a₀.size)
    (h : Q (some (decide (Rk rk (arrOf st) i < Rk rk (arrOf st) j))) st) : wpS (model prog w) A E s (ltAt' i j) Q st := by
  obtain ⟨p, e1, u1, r1⟩ := hB.at (rk := rk) hi
  obtain ⟨q, e2, u2, r2⟩ := hB.at (rk := rk) hj
  rw [ltAt'_eq]
  refine wpS_bind (wpS_get ?_)
  show wpS _ _ _ _ (do let x ← elem' (arrOf st) i; let y ← elem' (arrOf st) j; lt' x y) Q st
  rw [elem'_eq, elem'_eq, e1, e2]
  refine wpS_bind (wpS_pure (wpS_bind (wpS_pure ?_)))
  refine L p q st Q u1 u2 hB.kind ?_
  rw [← r1, ← r2]
  exact h

theorem wpS_bin (L : LtOk prog w A E s kd U rk) {n ok : Nat} {Q : Bool → SortSt → Prop} (hn : lo + n ≤ a₀.size) (hok : ok ≤ n) (hB : SB kd U a₀ lo pd st) (hs : SoOn rk (arrOf st) lo ok)
    (h : ∀ st', SB kd U a₀ lo pd st' → SoOn rk (arrOf st') lo n → Q true st') : wpS (model prog w) A E s (binarySort' lo n ok) Q st := by
  rw [binarySort'_eq]
  refine wpS_bind (wpS_mono (wpS_forRange (I := fun k c st' => c = (none, ()) ∧ SB kd U a₀ lo pd st' ∧ SoOn rk (arrOf st') lo (min k n))
    (Q := fun c st' => c = (none, ()) ∧ SB kd U a₀ lo pd st' ∧ SoOn rk (arrOf st') lo n) ?step ?fin ?init) ?post)
  case post =>
    rintro c st' ⟨rfl, hB', hs'⟩
    exact wpS_pure (h st' hB' hs')
  case init =>
    refine ⟨rfl, hB, fun i j hij hj => ?_⟩
    by_cases h1 : ok = 0
    · have : i = j := by exact ar3 4 (.l (.v 0) (.v 1)) (.t (.v 1) (.mn (.mx (.v 2) (.n 1)) (.v 3))) (.e (.v 2) (.n 0)) (.e (.v 0) (.v 1)) (by kernel_rfl) [_, _, _, _] hij hj h1
      subst this; exact Int.le_refl _
    · exact hs i j hij (by exact ar2 3 (.t (.v 0) (.mn (.mx (.v 1) (.n 1)) (.v 2))) (.no (.e (.v 1) (.n 0))) (.t (.v 0) (.v 1)) (by kernel_rfl) [_, _, _] hj h1)
  case fin =>
    rintro c st' ⟨hc, hB', hs'⟩
    refine ⟨hc, hB', ?_⟩
    rwa [show min (max (max ok 1) n) n = n by exact ar0 2 (.e (.mn (.mx (.mx (.v 0) (.n 1)) (.v 1)) (.v 1)) (.v 1)) (by kernel_rfl) [_, _]] at hs'
  case step =>
    rintro k c st' hak hkn ⟨rfl, hB', hs'⟩
    rw [show min k n = k by exact ar1 2 (.t (.v 0) (.v 1)) (.e (.mn (.v 0) (.v 1)) (.v 0)) (by kernel_rfl) [_, _] hkn] at hs'
    have hk : lo + k < a₀.size := by exact ar2 4 (.l (.a (.v 0) (.v 1)) (.v 2)) (.t (.v 3) (.v 1)) (.t (.a (.v 0) (.v 3)) (.v 2)) (by kernel_rfl) [_, _, _, _] hn hkn
    refine wpS_bind (wpS_mono (wpS_forRange (I := fun x c st'' => st'' = st' ∧ ∃ l r, c = (none, l, r) ∧ l ≤ r ∧ r ≤ k ∧ r - l ≤ k - x ∧
        (∀ i, i < l → Rk rk (arrOf st') (lo + i) ≤ Rk rk (arrOf st') (lo + k)) ∧ (∀ i, r ≤ i → i < k → Rk rk (arrOf st') (lo + k) < Rk rk (arrOf st') (lo + i)))
      (Q := fun c st'' => st'' = st' ∧ ∃ l r, c = (none, l, r) ∧ l ≤ k ∧
        (∀ i, i < l → Rk rk (arrOf st') (lo + i) ≤ Rk rk (arrOf st') (lo + k)) ∧ (∀ i, l ≤ i → i < k → Rk rk (arrOf st') (lo + k) < Rk rk (arrOf st') (lo + i))) ?istep ?ifin ?iinit) ?ipost)
    case iinit => exact ⟨rfl, 0, k, rfl, by exact ar0 1 (.l (.n 0) (.v 0)) (by kernel_rfl) [_], by exact ar0 1 (.l (.v 0) (.v 0)) (by kernel_rfl) [_], by exact ar0 1 (.l (.s (.v 0) (.n 0)) (.s (.v 0) (.n 0))) (by kernel_rfl) [_], fun i hi => by exfalso; exact ar1 1 (.t (.v 0) (.n 0)) .f (by kernel_rfl) [_] hi, fun i h1 h2 => by exfalso; exact ar2 2 (.l (.v 0) (.v 1)) (.t (.v 1) (.v 0)) .f (by kernel_rfl) [_, _] h1 h2⟩
    case ifin =>
      rintro c st'' ⟨rfl, l, r, rfl, hlr, hrk, hm, hlo, hhi⟩
      have : l = r := by exact ar2 3 (.l (.v 0) (.v 1)) (.l (.s (.v 1) (.v 0)) (.s (.v 2) (.mx (.n 0) (.v 2)))) (.e (.v 0) (.v 1)) (by kernel_rfl) [_, _, _] hlr hm
      subst this
      exact ⟨rfl, l, l, rfl, hrk, hlo, hhi⟩
    case istep =>
      rintro x c st'' _ hxk ⟨rfl, l, r, rfl, hlr, hrk, hm, hlo, hhi⟩
      dsimp only
      by_cases hge : l ≥ r
      · first | refine wif_t hge ?_ | rw [if_pos hge]
        have : l = r := by exact ar2 2 (.l (.v 0) (.v 1)) (.l (.v 1) (.v 0)) (.e (.v 0) (.v 1)) (by kernel_rfl) [_, _] hlr hge
        subst this
        exact wpS_pure ⟨rfl, l, l, rfl, hrk, hlo, hhi⟩
      · first | refine wif_f hge ?_ | rw [if_neg hge]
        refine wpS_bind (wpS_ltR L hB' hk (by exact ar5 7 (.l (.a (.v 0) (.v 1)) (.v 2)) (.t (.v 3) (.v 1)) (.l (.v 4) (.v 3)) (.no (.l (.v 4) (.v 5))) (.an (.l (.m 2 (.v 6)) (.a (.v 5) (.v 4))) (.t (.a (.v 5) (.v 4)) (.a (.m 2 (.v 6)) (.n 2)))) (.t (.a (.v 0) (.v 6)) (.v 2)) (by kernel_rfl) [_, _, _, _, _, _, _] hn hkn hrk hge (half_le _)) ?_)
        by_cases hless : Rk rk (arrOf st'') (lo + k) < Rk rk (arrOf st'') (lo + (l + r) / 2)
        · first | refine wif_t (by simpa using hless) ?_ | simp only [hless, decide_true, if_true]
          refine wpS_pure ⟨rfl, l, (l + r) / 2, rfl, by exact ar2 3 (.no (.l (.v 0) (.v 1))) (.an (.l (.m 2 (.v 2)) (.a (.v 1) (.v 0))) (.t (.a (.v 1) (.v 0)) (.a (.m 2 (.v 2)) (.n 2)))) (.l (.v 1) (.v 2)) (by kernel_rfl) [_, _, _] hge (half_le _), by exact ar3 4 (.l (.v 0) (.v 1)) (.no (.l (.v 0) (.v 2))) (.an (.l (.m 2 (.v 3)) (.a (.v 2) (.v 0))) (.t (.a (.v 2) (.v 0)) (.a (.m 2 (.v 3)) (.n 2)))) (.l (.v 3) (.v 1)) (by kernel_rfl) [_, _, _, _] hrk hge (half_le _), by exact ar2 5 (.l (.s (.v 0) (.v 1)) (.s (.v 2) (.v 3))) (.an (.l (.m 2 (.v 4)) (.a (.v 1) (.v 0))) (.t (.a (.v 1) (.v 0)) (.a (.m 2 (.v 4)) (.n 2)))) (.l (.s (.v 4) (.v 1)) (.s (.v 2) (.a (.v 3) (.n 1)))) (by kernel_rfl) [_, _, _, _, _] hm (half_le _), hlo, fun i h1 h2 => ?_⟩
          exact Int.lt_of_lt_of_le hless (hs' _ _ h1 h2)
        · first | refine wif_f (by simpa using hless) ?_ | simp only [hless, decide_false, Bool.false_eq_true, if_false]
          refine wpS_pure ⟨rfl, (l + r) / 2 + 1, r, rfl, by exact ar2 3 (.no (.l (.v 0) (.v 1))) (.an (.l (.m 2 (.v 2)) (.a (.v 1) (.v 0))) (.t (.a (.v 1) (.v 0)) (.a (.m 2 (.v 2)) (.n 2)))) (.l (.a (.v 2) (.n 1)) (.v 0)) (by kernel_rfl) [_, _, _] hge (half_le _), by exact ar1 2 (.l (.v 0) (.v 1)) (.l (.v 0) (.v 1)) (by kernel_rfl) [_, _] hrk, by exact ar2 5 (.l (.s (.v 0) (.v 1)) (.s (.v 2) (.v 3))) (.an (.l (.m 2 (.v 4)) (.a (.v 1) (.v 0))) (.t (.a (.v 1) (.v 0)) (.a (.m 2 (.v 4)) (.n 2)))) (.l (.s (.v 0) (.a (.v 4) (.n 1))) (.s (.v 2) (.a (.v 3) (.n 1)))) (by kernel_rfl) [_, _, _, _, _] hm (half_le _), fun i h1 => ?_, hhi⟩
          exact Int.le_trans (hs' i ((l + r) / 2) (by exact ar1 2 (.t (.v 0) (.a (.v 1) (.n 1))) (.l (.v 0) (.v 1)) (by kernel_rfl) [_, _] h1) (by exact ar3 4 (.l (.v 0) (.v 1)) (.no (.l (.v 0) (.v 2))) (.an (.l (.m 2 (.v 3)) (.a (.v 2) (.v 0))) (.t (.a (.v 2) (.v 0)) (.a (.m 2 (.v 3)) (.n 2)))) (.t (.v 3) (.v 1)) (by kernel_rfl) [_, _, _, _] hrk hge (half_le _))) (Int.not_lt.mp hless)
    case ipost =>
      rintro c st'' ⟨rfl, l, r, rfl, hlk, hlo, hhi⟩
      show wpS _ _ _ _ (do moveDown' (lo + k) (lo + l); pure (ForInStep.yield (none, ()))) _ _
      rw [moveDown'_eq]
      have hks : lo + k < (arrOf st'').size := by rw [hB'.size]; exact hk
      refine wpS_bind (wpS_modify (wpS_pure ⟨rfl, hB'.setArr (bubble_perm _ _ _) (bubble_pre hks (by exact ar0 3 (.l (.s (.a (.v 0) (.v 1)) (.a (.v 0) (.v 2))) (.a (.v 0) (.v 1))) (by kernel_rfl) [_, _, _]) (by exact ar0 3 (.l (.v 0) (.s (.a (.v 0) (.v 1)) (.s (.a (.v 0) (.v 1)) (.a (.v 0) (.v 2))))) (by kernel_rfl) [_, _, _])), ?_⟩))
      rw [show min (k + 1) n = k + 1 by exact ar1 2 (.t (.v 0) (.v 1)) (.e (.mn (.a (.v 0) (.n 1)) (.v 1)) (.a (.v 0) (.n 1))) (by kernel_rfl) [_, _] hkn]
      intro i j hij hj
      show Rk rk (bubble (arrOf st'') (lo + k) (lo + k - (lo + l))) (lo + i) ≤ Rk rk (bubble (arrOf st'') (lo + k) (lo + k - (lo + l))) (lo + j)
      rw [Rk_bubble hks (by exact ar0 3 (.l (.s (.a (.v 0) (.v 1)) (.a (.v 0) (.v 2))) (.a (.v 0) (.v 1))) (by kernel_rfl) [_, _, _]), Rk_bubble hks (by exact ar0 3 (.l (.s (.a (.v 0) (.v 1)) (.a (.v 0) (.v 2))) (.a (.v 0) (.v 1))) (by kernel_rfl) [_, _, _]), show lo + k - (lo + k - (lo + l)) = lo + l by exact ar1 3 (.l (.v 0) (.v 1)) (.e (.s (.a (.v 2) (.v 1)) (.s (.a (.v 2) (.v 1)) (.a (.v 2) (.v 0)))) (.a (.v 2) (.v 0))) (by kernel_rfl) [_, _, _] hlk]
      have H1 : ∀ x, x < lo + l → lo ≤ x → Rk rk (arrOf st'') x ≤ Rk rk (arrOf st'') (lo + k) := fun x h1 h2 => by have := hlo (x - lo) (by exact ar2 3 (.t (.v 0) (.a (.v 1) (.v 2))) (.l (.v 1) (.v 0)) (.t (.s (.v 0) (.v 1)) (.v 2)) (by kernel_rfl) [_, _, _] h1 h2); rwa [show lo + (x - lo) = x by exact ar1 2 (.l (.v 0) (.v 1)) (.e (.a (.v 0) (.s (.v 1) (.v 0))) (.v 1)) (by kernel_rfl) [_, _] h2] at this
      have H2 : ∀ x, lo + l ≤ x → x < lo + k → Rk rk (arrOf st'') (lo + k) ≤ Rk rk (arrOf st'') x := fun x h1 h2 => by have := Int.le_of_lt (hhi (x - lo) (by exact ar1 3 (.l (.a (.v 0) (.v 1)) (.v 2)) (.l (.v 1) (.s (.v 2) (.v 0))) (by kernel_rfl) [_, _, _] h1) (by exact ar2 4 (.l (.a (.v 0) (.v 1)) (.v 2)) (.t (.v 2) (.a (.v 0) (.v 3))) (.t (.s (.v 2) (.v 0)) (.v 3)) (by kernel_rfl) [_, _, _, _] h1 h2)); rwa [show lo + (x - lo) = x by exact ar1 3 (.l (.a (.v 0) (.v 1)) (.v 2)) (.e (.a (.v 0) (.s (.v 2) (.v 0))) (.v 2)) (by kernel_rfl) [_, _, _] h1] at this
      have H3 : ∀ x y, lo ≤ x → x ≤ y → y < lo + k → Rk rk (arrOf st'') x ≤ Rk rk (arrOf st'') y := fun x y h1 h2 h3 => by have := hs' (x - lo) (y - lo) (by exact ar1 3 (.l (.v 0) (.v 1)) (.l (.s (.v 0) (.v 2)) (.s (.v 1) (.v 2))) (by kernel_rfl) [_, _, _] h2) (by exact ar3 4 (.l (.v 0) (.v 1)) (.l (.v 1) (.v 2)) (.t (.v 2) (.a (.v 0) (.v 3))) (.t (.s (.v 2) (.v 0)) (.v 3)) (by kernel_rfl) [_, _, _, _] h1 h2 h3); rwa [show lo + (x - lo) = x by exact ar1 2 (.l (.v 0) (.v 1)) (.e (.a (.v 0) (.s (.v 1) (.v 0))) (.v 1)) (by kernel_rfl) [_, _] h1, show lo + (y - lo) = y by exact ar2 3 (.l (.v 0) (.v 1)) (.l (.v 1) (.v 2)) (.e (.a (.v 0) (.s (.v 2) (.v 0))) (.v 2)) (by kernel_rfl) [_, _, _] h1 h2] at this
      repeat' split
      all_goals first
        | (exfalso; (first | lia | omega))
        | exact Int.le_refl _
        | exact H1 _ (by lia) (by exact ar0 2 (.l (.v 0) (.a (.v 0) (.v 1))) (by kernel_rfl) [_, _])
        | exact H2 _ (by lia) (by omega)
        | exact H3 _ _ (by lia) (by lia) (by lia)
end
end Mine
end
section
open PySem PyProof.Rows
set_option maxRecDepth 100000
namespace Mine
section
variable {prog : Program} {w : World} {A : Around} {E : Value → Shared → Prop} {s : Shared}
variable {kd : SortKind} {U : Keyed → Prop} {rk : Keyed → Int} {a₀ : Array Keyed} {lo : Nat} {pd : Array (Nat × Nat × Nat)} {st : SortSt}
theorem wpS_rev {i j : Nat} {Q : Unit → SortSt → Prop} (hB : SB kd U a₀ lo pd st) (hi : lo ≤ i) (hj : j ≤ a₀.size)
    (h : SB kd U a₀ lo pd (setArr st (mirror (arrOf st) i j ((j - i) / 2))) → Q () (setArr st (mirror (arrOf st) i j ((j - i) / 2)))) : wpS (model prog w) A E s (reverseSlice' i j) Q st := by
  rw [reverseSlice'_eq]
  exact wpS_modify (h (hB.setArr (mirror_perm _ _ _ _) (mirror_pre (by rw [hB.size]; exact hj) hi)))
theorem soOn_one (xs : Array Keyed) (lo : Nat) : SoOn rk xs lo 1 := fun i j hij hj => by
  have : i = j := by exact ar2 2 (.l (.v 0) (.v 1)) (.t (.v 1) (.n 1)) (.e (.v 0) (.v 1)) (by kernel_rfl) [_, _] hij hj
  subst this; exact Int.le_refl _
theorem soOn_succ {xs : Array Keyed} {n : Nat} (h1 : 1 ≤ n) (h : SoOn rk xs lo n) (q : Rk rk xs (lo + n - 1) ≤ Rk rk xs (lo + n)) : SoOn rk xs lo (n + 1) := fun i j hij hj => by
  by_cases hjn : j < n
  · exact h i j hij hjn
  · have : j = n := by exact ar2 2 (.t (.v 0) (.a (.v 1) (.n 1))) (.no (.t (.v 0) (.v 1))) (.e (.v 0) (.v 1)) (by kernel_rfl) [_, _] hj hjn
    subst this
    by_cases hi : i = j
    · subst hi; exact Int.le_refl _
    · have := h i (j - 1) (by exact ar2 2 (.l (.v 0) (.v 1)) (.no (.e (.v 0) (.v 1))) (.l (.v 0) (.s (.v 1) (.n 1))) (by kernel_rfl) [_, _] hij hi) (by exact ar1 1 (.l (.n 1) (.v 0)) (.t (.s (.v 0) (.n 1)) (.v 0)) (by kernel_rfl) [_] h1)
      rw [show lo + (j - 1) = lo + j - 1 by exact ar1 2 (.l (.n 1) (.v 0)) (.e (.a (.v 1) (.s (.v 0) (.n 1))) (.s (.a (.v 1) (.v 0)) (.n 1))) (by kernel_rfl) [_, _] h1] at this
      exact Int.le_trans this q
theorem niOn_succ {xs : Array Keyed} {n : Nat} (h1 : 1 ≤ n) (h : NiOn rk xs lo n) (q : Rk rk xs (lo + n) ≤ Rk rk xs (lo + n - 1)) : NiOn rk xs lo (n + 1) := fun i j hij hj => by
  by_cases hjn : j < n
  · exact h i j hij hjn
  · have : j = n := by exact ar2 2 (.t (.v 0) (.a (.v 1) (.n 1))) (.no (.t (.v 0) (.v 1))) (.e (.v 0) (.v 1)) (by kernel_rfl) [_, _] hj hjn
    subst this
    by_cases hi : i = j
    · subst hi; exact Int.le_refl _
    · have := h i (j - 1) (by exact ar2 2 (.l (.v 0) (.v 1)) (.no (.e (.v 0) (.v 1))) (.l (.v 0) (.s (.v 1) (.n 1))) (by kernel_rfl) [_, _] hij hi) (by exact ar1 1 (.l (.n 1) (.v 0)) (.t (.s (.v 0) (.n 1)) (.v 0)) (by kernel_rfl) [_] h1)
      rw [show lo + (j - 1) = lo + j - 1 by exact ar1 2 (.l (.n 1) (.v 0)) (.e (.a (.v 1) (.s (.v 0) (.n 1))) (.s (.a (.v 1) (.v 0)) (.n 1))) (by kernel_rfl) [_, _] h1] at this
      exact Int.le_trans q this
theorem wpS_up (L : LtOk prog w A E s kd U rk) {a nrem : Nat} {Q : Option (Option Nat) × Nat → SortSt → Prop} {f : Nat → Option (Option Nat) × Nat → StateT SortSt Sem (ForInStep (Option (Option Nat) × Nat))}
    (hf : ∀ x c, f x c = (do
      let x ← ltAt' (lo + c.2) (lo + c.2 - 1)
      match x with
      | some smaller => if smaller = true then pure (ForInStep.done (none, c.2)) else pure (ForInStep.yield (none, c.2 + 1))
      | _ => pure (ForInStep.done (some none, c.2))))
    (hn : lo + nrem ≤ a₀.size) (ha : 1 ≤ a) (han : a ≤ nrem) (hB : SB kd U a₀ lo pd st) (hs : SoOn rk (arrOf st) lo a)
    (h : ∀ n, a ≤ n → n ≤ nrem → SoOn rk (arrOf st) lo n → (n = nrem ∨ Rk rk (arrOf st) (lo + n) < Rk rk (arrOf st) (lo + n - 1)) → Q (none, n) st) :
    wpS (model prog w) A E s (forIn [a:nrem] (none, a) f) Q st := by
  refine wpS_forRange (I := fun x c st' => st' = st ∧ c = (none, x) ∧ SoOn rk (arrOf st) lo x) ?step ?fin ⟨rfl, rfl, hs⟩
  case fin =>
    rintro c st' ⟨rfl, rfl, hs'⟩
    rw [show max a nrem = nrem by lia] at hs' ⊢
    exact h nrem han (Nat.le_refl _) hs' (.inl rfl)
  case step =>
    rintro x c st' hax hxn ⟨rfl, rfl, hs'⟩
    rw [hf]
    dsimp only
    refine wpS_bind (wpS_ltR L hB (by exact ar2 4 (.l (.a (.v 0) (.v 1)) (.v 2)) (.t (.v 3) (.v 1)) (.t (.a (.v 0) (.v 3)) (.v 2)) (by kernel_rfl) [_, _, _, _] hn hxn) (by exact ar2 4 (.l (.a (.v 0) (.v 1)) (.v 2)) (.t (.v 3) (.v 1)) (.t (.s (.a (.v 0) (.v 3)) (.n 1)) (.v 2)) (by kernel_rfl) [_, _, _, _] hn hxn) ?_)
    by_cases hless : Rk rk (arrOf st') (lo + x) < Rk rk (arrOf st') (lo + x - 1)
    · first | refine wif_t (by simpa using hless) ?_ | simp only [hless, decide_true, if_true]
      exact wpS_pure (h x hax (by exact ar1 2 (.t (.v 0) (.v 1)) (.l (.v 0) (.v 1)) (by kernel_rfl) [_, _] hxn) hs' (.inr hless))
    · first | refine wif_f (by simpa using hless) ?_ | simp only [hless, decide_false, Bool.false_eq_true, if_false]
      exact wpS_pure ⟨rfl, rfl, soOn_succ (by exact ar2 2 (.l (.n 1) (.v 0)) (.l (.v 0) (.v 1)) (.l (.n 1) (.v 1)) (by kernel_rfl) [_, _] ha hax) hs' (by lia)⟩
theorem wpS_down (L : LtOk prog w A E s kd U rk) {n nrem : Nat} {Q : Option (Option Nat) × Nat × Nat → SortSt → Prop} {f : Nat → Option (Option Nat) × Nat × Nat → StateT SortSt Sem (ForInStep (Option (Option Nat) × Nat × Nat))}
    (hf : ∀ x c, f x c = (do
      let x ← ltAt' (lo + c.2.1) (lo + c.2.1 - 1)
      match x with
      | some smaller =>
        if smaller = true then
          if c.2.2 > 0 then do
            reverseSlice' (lo + c.2.1 - (c.2.2 + 1)) (lo + c.2.1)
            pure (ForInStep.yield (none, c.2.1 + 1, 0))
          else pure (ForInStep.yield (none, c.2.1 + 1, 0))
        else do
          let x ← ltAt' (lo + c.2.1 - 1) (lo + c.2.1)
          match x with
          | some larger => if larger = true then pure (ForInStep.done (none, c.2.1, c.2.2)) else pure (ForInStep.yield (none, c.2.1 + 1, c.2.2 + 1))
          | _ => pure (ForInStep.done (some none, c.2.1, c.2.2))
      | _ => pure (ForInStep.done (some none, c.2.1, c.2.2))))
    (hn : lo + nrem ≤ a₀.size) (h1 : 1 ≤ n) (hnn : n ≤ nrem) (hB : SB kd U a₀ lo pd st) (hs : NiOn rk (arrOf st) lo n)
    (h : ∀ m neq st', SB kd U a₀ lo pd st' → n ≤ m → m ≤ nrem → NiOn rk (arrOf st') lo m → neq + 1 ≤ m → (∀ i, lo + m - (neq + 1) ≤ i → i < lo + m → Rk rk (arrOf st') i = Rk rk (arrOf st') (lo + m - 1)) → Q (none, m, neq) st') :
    wpS (model prog w) A E s (forIn [n:nrem] (none, n, 0) f) Q st := by
  refine wpS_forRange (I := fun x c st' => ∃ neq, c = (none, x, neq) ∧ SB kd U a₀ lo pd st' ∧ NiOn rk (arrOf st') lo x ∧ neq + 1 ≤ x ∧
      (∀ i, lo + x - (neq + 1) ≤ i → i < lo + x → Rk rk (arrOf st') i = Rk rk (arrOf st') (lo + x - 1))) ?step ?fin ⟨0, rfl, hB, hs, by exact ar1 1 (.l (.n 1) (.v 0)) (.l (.a (.n 0) (.n 1)) (.v 0)) (by kernel_rfl) [_] h1, fun i h1 h2 => by congr 1; exact ar2 3 (.l (.s (.a (.v 0) (.v 1)) (.a (.n 0) (.n 1))) (.v 2)) (.t (.v 2) (.a (.v 0) (.v 1))) (.e (.v 2) (.s (.a (.v 0) (.v 1)) (.n 1))) (by kernel_rfl) [_, _, _] h1 h2⟩
  case fin =>
    rintro c st' ⟨neq, rfl, hB', hs', hq, he⟩
    rw [show max n nrem = nrem by lia] at hs' hq he ⊢
    exact h nrem neq st' hB' hnn (Nat.le_refl _) hs' hq he
  case step =>
    rintro x c st' hax hxn ⟨neq, rfl, hB', hs', hq, he⟩
    rw [hf]
    dsimp only
    have hsz : lo + x ≤ (arrOf st').size := by rw [hB'.size]; exact ar2 4 (.l (.a (.v 0) (.v 1)) (.v 2)) (.t (.v 3) (.v 1)) (.l (.a (.v 0) (.v 3)) (.v 2)) (by kernel_rfl) [_, _, _, _] hn hxn
    refine wpS_bind (wpS_ltR L hB' (by exact ar2 4 (.l (.a (.v 0) (.v 1)) (.v 2)) (.t (.v 3) (.v 1)) (.t (.a (.v 0) (.v 3)) (.v 2)) (by kernel_rfl) [_, _, _, _] hn hxn) (by exact ar2 4 (.l (.a (.v 0) (.v 1)) (.v 2)) (.t (.v 3) (.v 1)) (.t (.s (.a (.v 0) (.v 3)) (.n 1)) (.v 2)) (by kernel_rfl) [_, _, _, _] hn hxn) ?_)
    by_cases hless : Rk rk (arrOf st') (lo + x) < Rk rk (arrOf st') (lo + x - 1)
    · first | refine wif_t (by simpa using hless) ?_ | simp only [hless, decide_true, if_true]
      have n1 := niOn_succ (by exact ar2 2 (.l (.n 1) (.v 0)) (.l (.v 0) (.v 1)) (.l (.n 1) (.v 1)) (by kernel_rfl) [_, _] h1 hax) hs' (Int.le_of_lt hless)
      by_cases hq0 : neq > 0
      · first | refine wif_t hq0 ?_ | rw [if_pos hq0]
        refine wpS_bind (wpS_rev hB' (by exact ar1 3 (.l (.a (.v 0) (.n 1)) (.v 1)) (.l (.v 2) (.s (.a (.v 2) (.v 1)) (.a (.v 0) (.n 1)))) (by kernel_rfl) [_, _, _] hq) (by exact ar2 4 (.l (.a (.v 0) (.v 1)) (.v 2)) (.t (.v 3) (.v 1)) (.l (.a (.v 0) (.v 3)) (.v 2)) (by kernel_rfl) [_, _, _, _] hn hxn) fun hB2 => wpS_pure ⟨0, rfl, hB2, ?_, by exact ar0 1 (.l (.a (.n 0) (.n 1)) (.a (.v 0) (.n 1))) (by kernel_rfl) [_], fun i h1 h2 => by congr 1; exact ar2 3 (.l (.s (.a (.v 0) (.a (.v 1) (.n 1))) (.a (.n 0) (.n 1))) (.v 2)) (.t (.v 2) (.a (.v 0) (.a (.v 1) (.n 1)))) (.e (.v 2) (.s (.a (.v 0) (.a (.v 1) (.n 1))) (.n 1))) (by kernel_rfl) [_, _, _] h1 h2⟩)
        intro i j hij hj
        show Rk rk (mirror (arrOf st') _ _ _) _ ≤ Rk rk (mirror (arrOf st') _ _ _) _
        rw [Rk_mirror_equal hsz he, Rk_mirror_equal hsz he]
        exact n1 i j hij hj
      · first | refine wif_f hq0 ?_ | rw [if_neg hq0]
        exact wpS_pure ⟨0, rfl, hB', n1, by exact ar0 1 (.l (.a (.n 0) (.n 1)) (.a (.v 0) (.n 1))) (by kernel_rfl) [_], fun i h1 h2 => by congr 1; exact ar2 3 (.l (.s (.a (.v 0) (.a (.v 1) (.n 1))) (.a (.n 0) (.n 1))) (.v 2)) (.t (.v 2) (.a (.v 0) (.a (.v 1) (.n 1)))) (.e (.v 2) (.s (.a (.v 0) (.a (.v 1) (.n 1))) (.n 1))) (by kernel_rfl) [_, _, _] h1 h2⟩
    · first | refine wif_f (by simpa using hless) ?_ | simp only [hless, decide_false, Bool.false_eq_true, if_false]
      refine wpS_bind (wpS_ltR L hB' (by exact ar2 4 (.l (.a (.v 0) (.v 1)) (.v 2)) (.t (.v 3) (.v 1)) (.t (.s (.a (.v 0) (.v 3)) (.n 1)) (.v 2)) (by kernel_rfl) [_, _, _, _] hn hxn) (by exact ar2 4 (.l (.a (.v 0) (.v 1)) (.v 2)) (.t (.v 3) (.v 1)) (.t (.a (.v 0) (.v 3)) (.v 2)) (by kernel_rfl) [_, _, _, _] hn hxn) ?_)
      by_cases hl : Rk rk (arrOf st') (lo + x - 1) < Rk rk (arrOf st') (lo + x)
      · first | refine wif_t (by simpa using hl) ?_ | simp only [hl, decide_true, if_true]
        exact wpS_pure (h x neq st' hB' hax (by exact ar1 2 (.t (.v 0) (.v 1)) (.l (.v 0) (.v 1)) (by kernel_rfl) [_, _] hxn) hs' hq he)
      · first | refine wif_f (by simpa using hl) ?_ | simp only [hl, decide_false, Bool.false_eq_true, if_false]
        have e : Rk rk (arrOf st') (lo + x) = Rk rk (arrOf st') (lo + x - 1) := by lia
        refine wpS_pure ⟨neq + 1, rfl, hB', niOn_succ (by exact ar2 2 (.l (.n 1) (.v 0)) (.l (.v 0) (.v 1)) (.l (.n 1) (.v 1)) (by kernel_rfl) [_, _] h1 hax) hs' (by lia), by exact ar1 2 (.l (.a (.v 0) (.n 1)) (.v 1)) (.l (.a (.a (.v 0) (.n 1)) (.n 1)) (.a (.v 1) (.n 1))) (by kernel_rfl) [_, _] hq, fun i h1 h2 => ?_⟩
        rw [show lo + (x + 1) - 1 = lo + x by exact ar0 2 (.e (.s (.a (.v 0) (.a (.v 1) (.n 1))) (.n 1)) (.a (.v 0) (.v 1))) (by kernel_rfl) [_, _], e]
        by_cases hi : i = lo + x
        · rw [hi, e]
        · exact he i (by exact ar1 4 (.l (.s (.a (.v 0) (.a (.v 1) (.n 1))) (.a (.a (.v 2) (.n 1)) (.n 1))) (.v 3)) (.l (.s (.a (.v 0) (.v 1)) (.a (.v 2) (.n 1))) (.v 3)) (by kernel_rfl) [_, _, _, _] h1) (by exact ar2 3 (.t (.v 0) (.a (.v 1) (.a (.v 2) (.n 1)))) (.no (.e (.v 0) (.a (.v 1) (.v 2)))) (.t (.v 0) (.a (.v 1) (.v 2))) (by kernel_rfl) [_, _, _] h2 hi)
theorem wpS_count (L : LtOk prog w A E s kd U rk) {nrem : Nat} {Q : Option Nat → SortSt → Prop} (hn : lo + nrem ≤ a₀.size) (h1 : 1 ≤ nrem) (hB : SB kd U a₀ lo pd st)
    (h : ∀ m st', SB kd U a₀ lo pd st' → 1 ≤ m → m ≤ nrem → SoOn rk (arrOf st') lo m → Q (some m) st') :
    wpS (model prog w) A E s (countRun' lo nrem) Q st := by
  rw [countRun'_eq]
  refine wpS_bind (wpS_up L (by intro x c; rfl) hn (Nat.le_refl 1) h1 hB (soOn_one _ _) fun n hn1 hn2 hsn hor => ?_)
  dsimp only
  by_cases hnn : n = nrem
  · first | refine wif_t (by simpa using hnn) ?_ | rw [if_pos (by simpa using hnn)]
    exact wpS_pure (h n st hB hn1 hn2 hsn)
  · first | refine wif_f (by simpa using hnn) ?_ | rw [if_neg (by simpa using hnn)]
    have hlt : Rk rk (arrOf st) (lo + n) < Rk rk (arrOf st) (lo + n - 1) := hor.resolve_left hnn
    have hB0 := hB
    by_cases hgt : n > 1
    case' pos =>
      first | refine wif_t hgt ?_ | rw [if_pos hgt]
      refine wpS_bind (wpS_ltR L hB (by exact ar2 3 (.l (.a (.v 0) (.v 1)) (.v 2)) (.l (.n 1) (.v 1)) (.t (.v 0) (.v 2)) (by kernel_rfl) [_, _, _] hn h1) (by exact ar3 4 (.l (.a (.v 0) (.v 1)) (.v 2)) (.l (.v 3) (.v 1)) (.no (.e (.v 3) (.v 1))) (.t (.s (.a (.v 0) (.v 3)) (.n 1)) (.v 2)) (by kernel_rfl) [_, _, _, _] hn hn2 hnn) ?_)
      by_cases hrose : Rk rk (arrOf st) lo < Rk rk (arrOf st) (lo + n - 1)
      · first | refine wif_t (by simpa using hrose) ?_ | simp only [hrose, decide_true, if_true]
        exact wpS_pure (h n st hB hn1 hn2 hsn)
      first | refine wif_f (by simpa using hrose) ?_ | simp only [hrose, decide_false, Bool.false_eq_true, if_false]
      have hsz : lo + n ≤ (arrOf st).size := by rw [hB.size]; exact ar2 4 (.l (.a (.v 0) (.v 1)) (.v 2)) (.l (.v 3) (.v 1)) (.l (.a (.v 0) (.v 3)) (.v 2)) (by kernel_rfl) [_, _, _, _] hn hn2
      have hall : ∀ k, lo ≤ k → k < lo + n → Rk rk (arrOf st) k = Rk rk (arrOf st) (lo + n - 1) := by
        intro k hk1 hk
        have a1 := hsn 0 (k - lo) (by exact ar0 2 (.l (.n 0) (.s (.v 0) (.v 1))) (by kernel_rfl) [_, _]) (by exact ar2 3 (.l (.n 1) (.v 0)) (.t (.v 1) (.a (.v 2) (.v 0))) (.t (.s (.v 1) (.v 2)) (.v 0)) (by kernel_rfl) [_, _, _] hn1 hk)
        have a2 := hsn (k - lo) (n - 1) (by exact ar1 3 (.t (.v 0) (.a (.v 1) (.v 2))) (.l (.s (.v 0) (.v 1)) (.s (.v 2) (.n 1))) (by kernel_rfl) [_, _, _] hk) (by exact ar1 1 (.l (.n 1) (.v 0)) (.t (.s (.v 0) (.n 1)) (.v 0)) (by kernel_rfl) [_] hn1)
        rw [show lo + (k - lo) = k by lia] at a1 a2
        rw [show lo + (n - 1) = lo + n - 1 by exact ar1 2 (.l (.n 1) (.v 0)) (.e (.a (.v 1) (.s (.v 0) (.n 1))) (.s (.a (.v 1) (.v 0)) (.n 1))) (by kernel_rfl) [_, _] hn1] at a2
        rw [Nat.add_zero] at a1
        lia
      refine wpS_bind (wpS_rev hB (Nat.le_refl _) (by exact ar2 4 (.l (.a (.v 0) (.v 1)) (.v 2)) (.l (.v 3) (.v 1)) (.l (.a (.v 0) (.v 3)) (.v 2)) (by kernel_rfl) [_, _, _, _] hn hn2) fun hB2 => ?_)
      have hni : NiOn rk (arrOf (setArr st (mirror (arrOf st) lo (lo + n) ((lo + n - lo) / 2)))) lo (n + 1) := by
        refine niOn_succ (by exact ar1 1 (.l (.n 1) (.v 0)) (.l (.n 1) (.v 0)) (by kernel_rfl) [_] hn1) (fun i j hij hj => ?_) ?_
        · show Rk rk (mirror (arrOf st) _ _ _) _ ≤ Rk rk (mirror (arrOf st) _ _ _) _
          rw [Rk_mirror_equal hsz hall, Rk_mirror_equal hsz hall, hall _ (by exact ar0 2 (.l (.v 0) (.a (.v 0) (.v 1))) (by kernel_rfl) [_, _]) (by exact ar1 3 (.t (.v 0) (.v 1)) (.t (.a (.v 2) (.v 0)) (.a (.v 2) (.v 1))) (by kernel_rfl) [_, _, _] hj), hall (lo + i) (by exact ar0 2 (.l (.v 0) (.a (.v 0) (.v 1))) (by kernel_rfl) [_, _]) (by exact ar2 4 (.l (.v 0) (.v 1)) (.t (.v 1) (.v 2)) (.t (.a (.v 3) (.v 0)) (.a (.v 3) (.v 2))) (by kernel_rfl) [_, _, _, _] hij hj)]
          exact Int.le_refl _
        · show Rk rk (mirror (arrOf st) _ _ _) _ ≤ Rk rk (mirror (arrOf st) _ _ _) _
          rw [Rk_mirror_equal hsz hall, Rk_mirror_equal hsz hall]
          lia
      generalize setArr st (mirror (arrOf st) lo (lo + n) ((lo + n - lo) / 2)) = st2 at hB2 hni ⊢
    case' neg =>
      first | refine wif_f hgt ?_ | rw [if_neg hgt]
      have hni : NiOn rk (arrOf st) lo (n + 1) := by
        have hn1' : n = 1 := by exact ar2 1 (.l (.n 1) (.v 0)) (.no (.t (.n 1) (.v 0))) (.e (.v 0) (.n 1)) (by kernel_rfl) [_] hn1 hgt
        subst hn1'
        refine niOn_succ (by exact ar0 0 (.l (.n 1) (.n 1)) (by kernel_rfl) []) (fun i j hij hj => ?_) (Int.le_of_lt hlt)
        have : i = j := by exact ar2 2 (.l (.v 0) (.v 1)) (.t (.v 1) (.n 1)) (.e (.v 0) (.v 1)) (by kernel_rfl) [_, _] hij hj
        subst this; exact Int.le_refl _
      have hB2 := hB
    all_goals
      clear hlt hsn hor hB hB0
      refine wpS_bind (wpS_lift (wpAny_rule ⟨rfl, ?_⟩))
      refine wpS_bind (wpS_down L (by intro x c; rfl) hn (by lia) (by lia) hB2 hni fun m neq st3 hB3 hm1 hm2 hs3 hq he => ?_)
      dsimp only
      have hsz : lo + m ≤ (arrOf st3).size := by rw [hB3.size]; lia
      by_cases hq0 : neq > 0
      case' pos =>
        first | refine wif_t hq0 ?_ | rw [if_pos hq0]
        refine wpS_bind (wpS_rev hB3 (by lia) (by lia) fun hB4 => ?_)
        have hs4 : NiOn rk (arrOf (setArr st3 (mirror (arrOf st3) (lo + m - (neq + 1)) (lo + m) ((lo + m - (lo + m - (neq + 1))) / 2)))) lo m := by
          intro i j hij hj
          show Rk rk (mirror (arrOf st3) _ _ _) _ ≤ Rk rk (mirror (arrOf st3) _ _ _) _
          rw [Rk_mirror_equal hsz he, Rk_mirror_equal hsz he]
          exact hs3 i j hij hj
        generalize setArr st3 (mirror (arrOf st3) (lo + m - (neq + 1)) (lo + m) ((lo + m - (lo + m - (neq + 1))) / 2)) = st4 at hB4 hs4 ⊢
      case' neg =>
        first | refine wif_f hq0 ?_ | rw [if_neg hq0]
        have hs4 := hs3
        have hB4 := hB3
      all_goals
        clear he hs3 hsz hB3
        have hsz := hB4.size
        refine wpS_bind (wpS_rev hB4 (Nat.le_refl _) (by lia) fun hB5 => ?_)
        refine wpS_bind (wpS_up L (by intro x c; rfl) hn (by lia) hm2 hB5 ?_ fun k hk1 hk2 hsk _ => wpS_pure (h k _ hB5 (by lia) hk2 hsk))
        intro i j hij hj
        show Rk rk (mirror _ _ _ _) _ ≤ Rk rk (mirror _ _ _ _) _
        rw [Rk_mirror (by lia), Rk_mirror (by lia), if_pos (by lia), if_pos (by lia)]
        have := hs4 (m - 1 - j) (m - 1 - i) (by omega) (by omega)
        rwa [show lo + (m - 1 - i) = lo + (lo + m) - 1 - (lo + i) by lia, show lo + (m - 1 - j) = lo + (lo + m) - 1 - (lo + j) by lia] at this
end
end Mine
end
section
open PySem PyProof.Rows
set_option maxRecDepth 100000
namespace Mine
noncomputable def gallop' : Bool → Keyed → Array Keyed → Nat → Nat → Nat → StateT SortSt Sem (Option Nat) := sortPriv% PySem.Builtin.gallop
theorem gallop'_eq (left : Bool) (key : Keyed) (arr : Array Keyed) (base n hint : Nat) : gallop' left key arr base n hint = (do
  let beyond (i : Nat) : StateT SortSt Sem (Option Bool) := do
    let x ← elem' arr (base + i)
    if left then lt' x key else return (← lt' key x).map (!·)
  let mut lastofs := 0
  let mut ofs := 1
  let mut lo := 0
  let mut hi := 0
  let some right ← beyond hint | return none
  if right then
    let maxofs := n - hint
    for _ in [0:n] do
      if ofs ≥ maxofs then break
      let some more ← beyond (hint + ofs) | return none
      if !more then break
      lastofs := ofs
      ofs := 2 * ofs + 1
    lo := hint + lastofs + 1
    hi := hint + min ofs maxofs
  else
    let maxofs := hint + 1
    for _ in [0:n] do
      if ofs ≥ maxofs then break
      let some found ← beyond (hint - ofs) | return none
      if found then break
      lastofs := ofs
      ofs := 2 * ofs + 1
    lo := hint + 1 - min ofs maxofs
    hi := hint - lastofs
  for _ in [0:n] do
    if lo ≥ hi then break
    let m := lo + (hi - lo) / 2
    let some more ← beyond m | return none
    if more then lo := m + 1 else hi := m
  return some hi) := rfl

section
variable {prog : Program} {w : World} {A : Around} {E : Value → Shared → Prop} {s : Shared}
variable {kd : SortKind} {U : Keyed → Prop} {rk : Keyed → Int} {st : SortSt}
theorem cutg {P : Prop} (h : ∀ G : Prop, (P → G) → G) : P := h P id
noncomputable def Seg (U : Keyed → Prop) (rk : Keyed → Int) (arr : Array Keyed) (base n : Nat) (r : Nat → Int) : Prop := ∀ i, i < n → ∃ p, arr[base + i]? = some p ∧ U p ∧ rk p = r i
noncomputable def past (left : Bool) (k : Int) (x : Int) : Bool := if left then decide (x < k) else !decide (k < x)
theorem wpS_past (L : LtOk prog w A E s kd U rk) {left : Bool} {key : Keyed} {arr : Array Keyed} {base n i : Nat} {r : Nat → Int} {Q : Option Bool → SortSt → Prop} (hk : kindOf st = kd) (hu : U key) (hs : Seg U rk arr base n r) (hi : i < n)
    (h : Q (some (past left (rk key) (r i))) st) : wpS (model prog w) A E s (do
          let x ← elem' arr (base + i)
          if left = true then lt' x key
            else do
              let y ← lt' key x
              pure (Option.map (fun x => !x) y)) Q st := by
  obtain ⟨p, e, up, er⟩ := hs i hi
  rw [elem'_eq, e]
  refine wpS_bind (wpS_pure ?_)
  unfold past at h
  cases left with
  | true =>
    rw [if_pos rfl] at h ⊢
    refine L p key st _ up hu hk ?_
    rw [er]; exact h
  | false =>
    rw [if_neg (by decide)] at h ⊢
    refine wpS_bind (L key p st _ hu up hk (wpS_pure ?_))
    rw [er]; exact h
theorem past_mono {left : Bool} {k x y : Int} (h : x ≤ y) (hy : past left k y = true) : past left k x = true := by
  unfold past at *
  cases left <;> simp at * <;> lia
noncomputable def beyond' (left : Bool) (key : Keyed) (arr : Array Keyed) (i : Nat) : StateT SortSt Sem (Option Bool) := do
  let x ← elem' arr i
  if left = true then lt' x key else do
    let y ← lt' key x
    pure (Option.map (fun x => !x) y)
abbrev GC := Option (Option Nat) × Nat × Nat
noncomputable def gMid (left : Bool) (key : Keyed) (arr : Array Keyed) (base : Nat) (c : GC) : StateT SortSt Sem (ForInStep GC) :=
  if c.2.1 ≥ c.2.2 then pure (.done (none, c.2.1, c.2.2)) else do
    match (← beyond' left key arr (base + (c.2.1 + (c.2.2 - c.2.1) / 2))) with
    | some more => (if more = true then pure (.yield (none, c.2.1 + (c.2.2 - c.2.1) / 2 + 1, c.2.2)) else pure (.yield (none, c.2.1, c.2.1 + (c.2.2 - c.2.1) / 2)))
    | _ => pure (.done (some none, c.2.1, c.2.2))
noncomputable def gUp (left : Bool) (key : Keyed) (arr : Array Keyed) (base n hint : Nat) (c : GC) : StateT SortSt Sem (ForInStep GC) :=
  if c.2.2 ≥ n - hint then pure (.done (none, c.2.1, c.2.2)) else do
    match (← beyond' left key arr (base + (hint + c.2.2))) with
    | some more => (if (!more) = true then pure (.done (none, c.2.1, c.2.2)) else pure (.yield (none, c.2.2, 2 * c.2.2 + 1)))
    | _ => pure (.done (some none, c.2.1, c.2.2))
noncomputable def gDn (left : Bool) (key : Keyed) (arr : Array Keyed) (base hint : Nat) (c : GC) : StateT SortSt Sem (ForInStep GC) :=
  if c.2.2 ≥ hint + 1 then pure (.done (none, c.2.1, c.2.2)) else do
    match (← beyond' left key arr (base + (hint - c.2.2))) with
    | some found => (if found = true then pure (.done (none, c.2.1, c.2.2)) else pure (.yield (none, c.2.2, 2 * c.2.2 + 1)))
    | _ => pure (.done (some none, c.2.1, c.2.2))
def Ups (left : Bool) (key : Int) (r : Nat → Int) (k : Nat) : Prop := ∀ i, i < k → past left key (r i) = true
def Dns (left : Bool) (key : Int) (r : Nat → Int) (n k : Nat) : Prop := ∀ i, k ≤ i → i < n → past left key (r i) = false
def Rs (r : Nat → Int) (n : Nat) : Prop := ∀ i j, i ≤ j → j < n → r i ≤ r j
theorem Rs.up {left : Bool} {key : Int} {r : Nat → Int} {n : Nat} (hr : Rs r n) {i j : Nat} (h1 : i ≤ j) (h2 : j < n) (h3 : past left key (r j) = true) : past left key (r i) = true := past_mono (hr i j h1 h2) h3
theorem Rs.dn {left : Bool} {key : Int} {r : Nat → Int} {n : Nat} (hr : Rs r n) {i j : Nat} (h1 : i ≤ j) (h2 : j < n) (h3 : past left key (r i) = false) : past left key (r j) = false := by
  cases q : past left key (r j) with
  | false => rfl
  | true => rw [hr.up h1 h2 q] at h3; cases h3
def gMI (left : Bool) (key : Int) (r : Nat → Int) (n : Nat) (st : SortSt) (x : Nat) (c : GC) (st' : SortSt) : Prop := st' = st ∧ ∃ a b, c = (none, a, b) ∧ a ≤ b ∧ b ≤ n ∧ b - a ≤ n - x ∧ Ups left key r a ∧ Dns left key r n b
theorem g_mid (L : LtOk prog w A E s kd U rk) {left : Bool} {key : Keyed} {arr : Array Keyed} {base n : Nat} {r : Nat → Int} {Q : GC → SortSt → Prop} (hk : kindOf st = kd) (hu : U key) (hs : Seg U rk arr base n r) (hr : Rs r n)
    {a b : Nat} {f : Nat → GC → StateT SortSt Sem (ForInStep GC)} (hf : ∀ x c, f x c = gMid left key arr base c) (h0 : a ≤ b) (h1 : b ≤ n) (h4 : Ups left (rk key) r a) (h5 : Dns left (rk key) r n b)
    (h : ∀ l k, k ≤ n → Ups left (rk key) r k → Dns left (rk key) r n k → Q (none, l, k) st) : wpS (model prog w) A E s (forIn [0:n] (none, a, b) f) Q st := by
  refine wpS_forRange (I := gMI left (rk key) r n st) ?bstep ?bfin ⟨rfl, _, _, rfl, h0, h1, by exact ar1 3 (.l (.v 0) (.v 1)) (.l (.s (.v 0) (.v 2)) (.s (.v 1) (.n 0))) (by kernel_rfl) [_, _, _] h1, h4, h5⟩
  case bfin =>
    rintro c st'' ⟨rfl, a, b, rfl, h1, h2, h3, h4, h5⟩
    have : a = b := by exact ar2 3 (.l (.v 0) (.v 1)) (.l (.s (.v 1) (.v 0)) (.s (.v 2) (.mx (.n 0) (.v 2)))) (.e (.v 0) (.v 1)) (by kernel_rfl) [_, _, _] h1 h3
    subst this
    exact h _ _ h2 h4 h5
  case bstep =>
    intro x c st' _ hx hI
    rw [hf]
    refine cutg fun G hG => ?_
    obtain ⟨rfl, a, b, rfl, h1, h2, h3, h4, h5⟩ := hI
    refine hG (wif (fun hge => ?_) fun hge => ?_)
    · have hge : a ≥ b := hge
      have : a = b := by lia
      subst this
      exact wpS_pure (h _ _ h2 h4 h5)
    · have hge : ¬a ≥ b := hge
      refine wpS_bind (wpS_past L hk hu hs (i := a + (b - a) / 2) (by lia) ?_)
      cases hq : past left (rk key) (r (a + (b - a) / 2)) with
      | true => exact wpS_pure ⟨rfl, a + (b - a) / 2 + 1, b, rfl, by lia, h2, by exact ar1 5 (.l (.s (.v 0) (.v 1)) (.s (.v 2) (.v 3))) (.l (.s (.v 0) (.a (.a (.v 1) (.v 4)) (.n 1))) (.s (.v 2) (.a (.v 3) (.n 1)))) (by kernel_rfl) [_, _, _, _, _] h3, fun i hi => hr.up (by exact ar1 3 (.t (.v 0) (.a (.a (.v 1) (.v 2)) (.n 1))) (.l (.v 0) (.a (.v 1) (.v 2))) (by kernel_rfl) [_, _, _] hi) (by lia) hq, h5⟩
      | false => exact wpS_pure ⟨rfl, a, a + (b - a) / 2, rfl, by exact ar0 2 (.l (.v 0) (.a (.v 0) (.v 1))) (by kernel_rfl) [_, _], by lia, by exact ar2 5 (.l (.s (.v 0) (.v 1)) (.s (.v 2) (.v 3))) (.an (.l (.m 2 (.v 4)) (.s (.v 0) (.v 1))) (.t (.s (.v 0) (.v 1)) (.a (.m 2 (.v 4)) (.n 2)))) (.l (.s (.a (.v 1) (.v 4)) (.v 1)) (.s (.v 2) (.a (.v 3) (.n 1)))) (by kernel_rfl) [_, _, _, _, _] h3 (half_le _), h4, fun i h6 h7 => hr.dn h6 h7 hq⟩
def gUI (left : Bool) (key : Int) (r : Nat → Int) (n hint : Nat) (st : SortSt) (x : Nat) (c : GC) (st' : SortSt) : Prop := st' = st ∧ ∃ l o, c = (none, l, o) ∧ l < o ∧ x + 1 ≤ o ∧ hint + l < n ∧ past left key (r (hint + l)) = true
theorem g_up (L : LtOk prog w A E s kd U rk) {left : Bool} {key : Keyed} {arr : Array Keyed} {base n hint : Nat} {r : Nat → Int} {Q : GC → SortSt → Prop} (hk : kindOf st = kd) (hu : U key) (hs : Seg U rk arr base n r)
    {f : Nat → GC → StateT SortSt Sem (ForInStep GC)} (hf : ∀ x c, f x c = gUp left key arr base n hint c) (hh : hint < n) (hb : past left (rk key) (r hint) = true)
    (h : ∀ l o, l < o → hint + l < n → past left (rk key) (r (hint + l)) = true → (n ≤ hint + o ∨ past left (rk key) (r (hint + o)) = false) → Q (none, l, o) st) : wpS (model prog w) A E s (forIn [0:n] (none, 0, 1) f) Q st := by
  refine wpS_forRange (I := gUI left (rk key) r n hint st) ?step ?fin ⟨rfl, 0, 1, rfl, by exact ar0 0 (.t (.n 0) (.n 1)) (by kernel_rfl) [], by exact ar0 0 (.l (.a (.n 0) (.n 1)) (.n 1)) (by kernel_rfl) [], by exact ar1 2 (.t (.v 0) (.v 1)) (.t (.a (.v 0) (.n 0)) (.v 1)) (by kernel_rfl) [_, _] hh, hb⟩
  case fin =>
    rintro c st' ⟨rfl, l, o, rfl, h1, h2, h3, h4⟩
    exact h l o h1 h3 h4 (.inl (by exact ar1 3 (.l (.a (.mx (.n 0) (.v 0)) (.n 1)) (.v 1)) (.l (.v 0) (.a (.v 2) (.v 1))) (by kernel_rfl) [_, _, _] h2))
  case step =>
    intro x c st' _ hx hI
    rw [hf]
    refine cutg fun G hG => ?_
    obtain ⟨rfl, l, o, rfl, h1, h2, h3, h4⟩ := hI
    refine hG (wif (fun hge => ?_) fun hge => ?_)
    · have hge : o ≥ n - hint := hge
      exact wpS_pure (h l o h1 h3 h4 (.inl (by lia)))
    · have hge : ¬o ≥ n - hint := hge
      refine wpS_bind (wpS_past L hk hu hs (i := hint + o) (by lia) ?_)
      cases hq : past left (rk key) (r (hint + o)) with
      | false => exact wpS_pure (h l o h1 h3 h4 (.inr hq))
      | true => exact wpS_pure ⟨rfl, o, 2 * o + 1, rfl, by exact ar0 1 (.t (.v 0) (.a (.m 2 (.v 0)) (.n 1))) (by kernel_rfl) [_], by exact ar1 2 (.l (.a (.v 0) (.n 1)) (.v 1)) (.l (.a (.a (.v 0) (.n 1)) (.n 1)) (.a (.m 2 (.v 1)) (.n 1))) (by kernel_rfl) [_, _] h2, by lia, hq⟩
def gDI (left : Bool) (key : Int) (r : Nat → Int) (hint : Nat) (st : SortSt) (x : Nat) (c : GC) (st' : SortSt) : Prop := st' = st ∧ ∃ l o, c = (none, l, o) ∧ l < o ∧ x + 1 ≤ o ∧ l ≤ hint ∧ past left key (r (hint - l)) = false
theorem g_down (L : LtOk prog w A E s kd U rk) {left : Bool} {key : Keyed} {arr : Array Keyed} {base n hint : Nat} {r : Nat → Int} {Q : GC → SortSt → Prop} (hk : kindOf st = kd) (hu : U key) (hs : Seg U rk arr base n r)
    {f : Nat → GC → StateT SortSt Sem (ForInStep GC)} (hf : ∀ x c, f x c = gDn left key arr base hint c) (hh : hint < n) (hb : past left (rk key) (r hint) = false)
    (h : ∀ l o, l < o → l ≤ hint → past left (rk key) (r (hint - l)) = false → (hint + 1 ≤ o ∨ (o ≤ hint ∧ past left (rk key) (r (hint - o)) = true)) → Q (none, l, o) st) : wpS (model prog w) A E s (forIn [0:n] (none, 0, 1) f) Q st := by
  refine wpS_forRange (I := gDI left (rk key) r hint st) ?step ?fin ⟨rfl, 0, 1, rfl, by exact ar0 0 (.t (.n 0) (.n 1)) (by kernel_rfl) [], by exact ar0 0 (.l (.a (.n 0) (.n 1)) (.n 1)) (by kernel_rfl) [], by exact ar0 1 (.l (.n 0) (.v 0)) (by kernel_rfl) [_], hb⟩
  case fin =>
    rintro c st' ⟨rfl, l, o, rfl, h1, h2, h3, h4⟩
    exact h l o h1 h3 h4 (.inl (by exact ar2 3 (.t (.v 0) (.v 1)) (.l (.a (.mx (.n 0) (.v 1)) (.n 1)) (.v 2)) (.l (.a (.v 0) (.n 1)) (.v 2)) (by kernel_rfl) [_, _, _] hh h2))
  case step =>
    intro x c st' _ hx hI
    rw [hf]
    refine cutg fun G hG => ?_
    obtain ⟨rfl, l, o, rfl, h1, h2, h3, h4⟩ := hI
    refine hG (wif (fun hge => ?_) fun hge => ?_)
    · have hge : o ≥ hint + 1 := hge
      exact wpS_pure (h l o h1 h3 h4 (.inl (by exact ar1 2 (.l (.a (.v 0) (.n 1)) (.v 1)) (.l (.a (.v 0) (.n 1)) (.v 1)) (by kernel_rfl) [_, _] hge)))
    · have hge : ¬o ≥ hint + 1 := hge
      refine wpS_bind (wpS_past L hk hu hs (i := hint - o) (by exact ar1 3 (.t (.v 0) (.v 1)) (.t (.s (.v 0) (.v 2)) (.v 1)) (by kernel_rfl) [_, _, _] hh) ?_)
      cases hq : past left (rk key) (r (hint - o)) with
      | true => exact wpS_pure (h l o h1 h3 h4 (.inr ⟨by lia, hq⟩))
      | false => exact wpS_pure ⟨rfl, o, 2 * o + 1, rfl, by exact ar0 1 (.t (.v 0) (.a (.m 2 (.v 0)) (.n 1))) (by kernel_rfl) [_], by exact ar1 2 (.l (.a (.v 0) (.n 1)) (.v 1)) (.l (.a (.a (.v 0) (.n 1)) (.n 1)) (.a (.m 2 (.v 1)) (.n 1))) (by kernel_rfl) [_, _] h2, by lia, hq⟩
theorem wpS_gallop (L : LtOk prog w A E s kd U rk) {left : Bool} {key : Keyed} {arr : Array Keyed} {base n hint : Nat} {r : Nat → Int} {Q : Option Nat → SortSt → Prop} (hk : kindOf st = kd) (hu : U key) (hs : Seg U rk arr base n r)
    (hr : Rs r n) (hh : hint < n)
    (h : ∀ k, k ≤ n → (∀ i, i < k → past left (rk key) (r i) = true) → (∀ i, k ≤ i → i < n → past left (rk key) (r i) = false) → Q (some k) st) :
    wpS (model prog w) A E s (gallop' left key arr base n hint) Q st := by
  rw [gallop'_eq]
  refine wpS_bind (wpS_past L hk hu hs hh ?_)
  cases hb : past left (rk key) (r hint) with
  | true =>
    refine wpS_bind (g_up L hk hu hs (fun _ _ => rfl) hh hb fun l o h1 h3 h4 h5 => ?_)
    refine wpS_bind (g_mid L hk hu hs hr (a := hint + l + 1) (b := hint + min o (n - hint)) (fun _ _ => rfl) (by exact ar2 4 (.t (.v 0) (.v 1)) (.t (.a (.v 2) (.v 0)) (.v 3)) (.l (.a (.a (.v 2) (.v 0)) (.n 1)) (.a (.v 2) (.mn (.v 1) (.s (.v 3) (.v 2))))) (by kernel_rfl) [_, _, _, _] h1 h3) (by exact ar1 3 (.t (.v 0) (.v 1)) (.l (.a (.v 0) (.mn (.v 2) (.s (.v 1) (.v 0)))) (.v 1)) (by kernel_rfl) [_, _, _] hh) (fun i hi => hr.up (j := hint + l) (by exact ar1 3 (.t (.v 0) (.a (.a (.v 1) (.v 2)) (.n 1))) (.l (.v 0) (.a (.v 1) (.v 2))) (by kernel_rfl) [_, _, _] hi) h3 h4) (fun i h6 h7 => ?binit) fun l k h1 h2 h3 => wpS_pure (h k h1 h2 h3))
    rcases h5 with h5 | h5
    · exfalso; exact ar3 4 (.l (.a (.v 0) (.mn (.v 1) (.s (.v 2) (.v 0)))) (.v 3)) (.t (.v 3) (.v 2)) (.l (.v 2) (.a (.v 0) (.v 1))) .f (by kernel_rfl) [_, _, _, _] h6 h7 h5
    · exact hr.dn (i := hint + o) (by exact ar2 4 (.l (.a (.v 0) (.mn (.v 1) (.s (.v 2) (.v 0)))) (.v 3)) (.t (.v 3) (.v 2)) (.l (.a (.v 0) (.v 1)) (.v 3)) (by kernel_rfl) [_, _, _, _] h6 h7) h7 h5
  | false =>
    refine wpS_bind (g_down L hk hu hs (fun _ _ => rfl) hh hb fun l o h1 h3 h4 h5 => ?_)
    refine wpS_bind (g_mid L hk hu hs hr (a := hint + 1 - min o (hint + 1)) (b := hint - l) (fun _ _ => rfl) (by exact ar1 3 (.t (.v 0) (.v 1)) (.l (.s (.a (.v 2) (.n 1)) (.mn (.v 1) (.a (.v 2) (.n 1)))) (.s (.v 2) (.v 0))) (by kernel_rfl) [_, _, _] h1) (by exact ar1 3 (.t (.v 0) (.v 1)) (.l (.s (.v 0) (.v 2)) (.v 1)) (by kernel_rfl) [_, _, _] hh) (fun i hi => ?binit2) (fun i h6 h7 => hr.dn (i := hint - l) (by exact ar1 3 (.l (.s (.v 0) (.v 1)) (.v 2)) (.l (.s (.v 0) (.v 1)) (.v 2)) (by kernel_rfl) [_, _, _] h6) h7 h4) fun l k h1 h2 h3 => wpS_pure (h k h1 h2 h3))
    rcases h5 with h5 | ⟨h6, h5⟩
    · exfalso; exact ar2 3 (.t (.v 0) (.s (.a (.v 1) (.n 1)) (.mn (.v 2) (.a (.v 1) (.n 1))))) (.l (.a (.v 1) (.n 1)) (.v 2)) .f (by kernel_rfl) [_, _, _] hi h5
    · exact hr.up (j := hint - o) (by exact ar1 3 (.t (.v 0) (.s (.a (.v 1) (.n 1)) (.mn (.v 2) (.a (.v 1) (.n 1))))) (.l (.v 0) (.s (.v 1) (.v 2))) (by kernel_rfl) [_, _, _] hi) (by exact ar1 3 (.t (.v 0) (.v 1)) (.t (.s (.v 0) (.v 2)) (.v 1)) (by kernel_rfl) [_, _, _] hh) h5
end
end Mine
end
section
open PySem PyProof.Rows
set_option maxRecDepth 100000
namespace Mine
section
variable {α : Type} {rk : α → Int} {la lb o : List α} {ia ib : Nat}
noncomputable abbrev Rises (rk : α → Int) (l : List α) : Prop := l.Pairwise fun x y => rk x ≤ rk y
structure MI (rk : α → Int) (la lb o : List α) (ia ib : Nat) : Prop where
  perm : o.Perm (la.take ia ++ lb.take ib)
  so : Rises rk o
  le : ∀ p ∈ o, (∀ q ∈ la.drop ia, rk p ≤ rk q) ∧ ∀ q ∈ lb.drop ib, rk p ≤ rk q
structure MFin (rk : α → Int) (la lb r : List α) : Prop where
  perm : r.Perm (la ++ lb)
  so : Rises rk r
theorem MI.swap (h : MI rk la lb o ia ib) : MI rk lb la o ib ia := ⟨h.perm.trans List.perm_append_comm, h.so, fun p hp => ⟨(h.le p hp).2, (h.le p hp).1⟩⟩
theorem MFin.swap {r : List α} (h : MFin rk la lb r) : MFin rk lb la r := ⟨h.perm.trans List.perm_append_comm, h.so⟩
theorem mem_drop_succ {l : List α} {i : Nat} {q : α} (h : q ∈ l.drop (i + 1)) : q ∈ l.drop i := by
  rw [show i + 1 = i + 1 from rfl, ← List.drop_drop] at h
  exact List.mem_of_mem_drop h
theorem MI.takeB (h : MI rk la lb o ia ib) (sb : Rises rk lb) {x : α} (hx : lb[ib]? = some x) (hle : ∀ q ∈ la.drop ia, rk x ≤ rk q) : MI rk la lb (o ++ [x]) ia (ib + 1) := by
  obtain ⟨hi, e⟩ := List.getElem?_eq_some_iff.mp hx
  have hd : lb.drop ib = x :: lb.drop (ib + 1) := by rw [List.drop_eq_getElem_cons hi, e]
  refine ⟨?_, ?_, ?_⟩
  · rw [List.take_add_one, hx, ← List.append_assoc]
    exact h.perm.append (List.Perm.refl _)
  · refine List.pairwise_append.mpr ⟨h.so, by simp, fun p hp q hq => ?_⟩
    rw [List.mem_singleton] at hq
    subst hq
    exact (h.le p hp).2 q (by rw [hd]; simp)
  · intro p hp
    rcases List.mem_append.mp hp with hp | hp
    · exact ⟨(h.le p hp).1, fun q hq => (h.le p hp).2 q (mem_drop_succ hq)⟩
    · rw [List.mem_singleton] at hp
      subst hp
      refine ⟨hle, fun q hq => ?_⟩
      have : Rises rk (lb.drop ib) := sb.sublist (List.drop_sublist _ _)
      rw [hd] at this
      exact (List.pairwise_cons.mp this).1 q hq
theorem MI.takeBs (h : MI rk la lb o ia ib) (sb : Rises rk lb) : ∀ (k : Nat), ib + k ≤ lb.length → (∀ x ∈ (lb.drop ib).take k, ∀ q ∈ la.drop ia, rk x ≤ rk q) → MI rk la lb (o ++ (lb.drop ib).take k) ia (ib + k)
  | 0, _, _ => by simpa using h
  | k + 1, hk, hle => by
    have hi : ib + k < lb.length := by exact ar1 3 (.l (.a (.v 0) (.a (.v 1) (.n 1))) (.v 2)) (.t (.a (.v 0) (.v 1)) (.v 2)) (by kernel_rfl) [_, _, _] hk
    have e : (lb.drop ib).take (k + 1) = (lb.drop ib).take k ++ [lb[ib + k]] := by rw [List.take_add_one]; simp [hi]
    rw [e, ← List.append_assoc]
    refine (h.takeBs sb k (by exact ar1 3 (.l (.a (.v 0) (.a (.v 1) (.n 1))) (.v 2)) (.l (.a (.v 0) (.v 1)) (.v 2)) (by kernel_rfl) [_, _, _] hk) fun x hx => hle x (by rw [e]; simp [hx])).takeB sb (by simp [hi]) fun q hq => hle _ (by rw [e]; simp) q hq
theorem MI.takeA (h : MI rk la lb o ia ib) (sa : Rises rk la) {x : α} (hx : la[ia]? = some x) (hle : ∀ q ∈ lb.drop ib, rk x ≤ rk q) : MI rk la lb (o ++ [x]) (ia + 1) ib := (h.swap.takeB sa hx hle).swap
theorem MI.takeAs (h : MI rk la lb o ia ib) (sa : Rises rk la) (k : Nat) (hk : ia + k ≤ la.length) (hle : ∀ x ∈ (la.drop ia).take k, ∀ q ∈ lb.drop ib, rk x ≤ rk q) : MI rk la lb (o ++ (la.drop ia).take k) (ia + k) ib := (h.swap.takeBs sa k hk hle).swap
theorem MI.finBA (h : MI rk la lb o ia ib) (sa : Rises rk la) (sb : Rises rk lb) (hle : ∀ x ∈ lb.drop ib, ∀ q ∈ la.drop ia, rk x ≤ rk q) : MFin rk la lb (o ++ lb.drop ib ++ la.drop ia) := by
  refine ⟨?_, ?_⟩
  · have p1 : (o ++ lb.drop ib ++ la.drop ia).Perm (la.take ia ++ lb.take ib ++ lb.drop ib ++ la.drop ia) := (h.perm.append_right _).append_right _
    refine p1.trans ?_
    rw [List.append_assoc (la.take ia), List.take_append_drop]
    have : (la ++ lb).Perm (la.take ia ++ (la.drop ia ++ lb)) := by rw [← List.append_assoc, List.take_append_drop]
    refine List.Perm.trans ?_ this.symm
    rw [List.append_assoc]
    exact List.Perm.append_left _ List.perm_append_comm
  · rw [List.append_assoc]
    refine List.pairwise_append.mpr ⟨h.so, List.pairwise_append.mpr ⟨sb.sublist (List.drop_sublist _ _), sa.sublist (List.drop_sublist _ _), hle⟩, fun p hp q hq => ?_⟩
    rcases List.mem_append.mp hq with hq | hq
    · exact (h.le p hp).2 q hq
    · exact (h.le p hp).1 q hq
theorem MI.finAB (h : MI rk la lb o ia ib) (sa : Rises rk la) (sb : Rises rk lb) (hle : ∀ x ∈ la.drop ia, ∀ q ∈ lb.drop ib, rk x ≤ rk q) : MFin rk la lb (o ++ la.drop ia ++ lb.drop ib) := (h.swap.finBA sb sa hle).swap
end
section
variable {U : Keyed → Prop} {rk : Keyed → Int} {a b out : Array Keyed} {ia ib : Nat}
theorem ext_all (a : Array Keyed) (i : Nat) : (a.extract i a.size).toList = a.toList.drop i := by simp [List.take_of_length_le]
theorem ext_some (a : Array Keyed) (i k : Nat) : (a.extract i (i + k)).toList = (a.toList.drop i).take k := by simp
structure Arr2 (U : Keyed → Prop) (rk : Keyed → Int) (a b : Array Keyed) : Prop where
  ua : ∀ p ∈ a.toList, U p
  ub : ∀ p ∈ b.toList, U p
  sa : Rises rk a.toList
  sb : Rises rk b.toList
  na : 1 ≤ a.size
  nb : 1 ≤ b.size
  lo : ∀ p q, b[0]? = some p → q ∈ a.toList → rk p < rk q
  hi : ∀ p q, a[a.size - 1]? = some p → q ∈ b.toList → rk q < rk p
theorem rises_at {l : List Keyed} (h : Rises rk l) {i j : Nat} {x y : Keyed} (hij : i ≤ j) (hx : l[i]? = some x) (hy : l[j]? = some y) : rk x ≤ rk y := by
  obtain ⟨h1, rfl⟩ := List.getElem?_eq_some_iff.mp hx
  obtain ⟨h2, rfl⟩ := List.getElem?_eq_some_iff.mp hy
  rcases Nat.lt_or_ge i j with q | q
  · exact List.pairwise_iff_getElem.mp h i j h1 h2 q
  · have : i = j := by exact ar2 2 (.l (.v 0) (.v 1)) (.l (.v 1) (.v 0)) (.e (.v 0) (.v 1)) (by kernel_rfl) [_, _] hij q
    subst this; exact Int.le_refl _
theorem mem_drop_at {l : List Keyed} {i : Nat} {q : Keyed} (h : q ∈ l.drop i) : ∃ j, i ≤ j ∧ l[j]? = some q := by
  obtain ⟨k, hk⟩ := List.mem_iff_getElem?.mp h
  rw [List.getElem?_drop] at hk
  exact ⟨i + k, by exact ar0 2 (.l (.v 0) (.a (.v 0) (.v 1))) (by kernel_rfl) [_, _], hk⟩
theorem mem_part_at {l : List Keyed} {i k : Nat} {q : Keyed} (h : q ∈ (l.drop i).take k) : ∃ j, j < k ∧ l[i + j]? = some q := by
  obtain ⟨j, hj⟩ := List.mem_iff_getElem?.mp h
  rw [List.getElem?_take] at hj
  split at hj
  · rw [List.getElem?_drop] at hj
    exact ⟨j, by assumption, hj⟩
  · cases hj
theorem seg_of (ua : ∀ p ∈ a.toList, U p) (i n : Nat) (h : i + n ≤ a.size) : Seg U rk a i n (fun j => Rk rk a (i + j)) := fun j hj => by
  have h1 : i + j < a.size := by exact ar2 4 (.l (.a (.v 0) (.v 1)) (.v 2)) (.t (.v 3) (.v 1)) (.t (.a (.v 0) (.v 3)) (.v 2)) (by kernel_rfl) [_, _, _, _] h hj
  refine ⟨a[i + j], by simp [h1], ua _ (by simp), ?_⟩
  unfold Rk
  simp [h1]
theorem seg_rises (sa : Rises rk a.toList) (i n : Nat) (h : i + n ≤ a.size) : ∀ j k, j ≤ k → k < n → Rk rk a (i + j) ≤ Rk rk a (i + k) := fun j k h1 h2 => by
  have q1 : i + j < a.size := by exact ar3 5 (.l (.a (.v 0) (.v 1)) (.v 2)) (.l (.v 3) (.v 4)) (.t (.v 4) (.v 1)) (.t (.a (.v 0) (.v 3)) (.v 2)) (by kernel_rfl) [_, _, _, _, _] h h1 h2
  have q2 : i + k < a.size := by exact ar2 4 (.l (.a (.v 0) (.v 1)) (.v 2)) (.t (.v 3) (.v 1)) (.t (.a (.v 0) (.v 3)) (.v 2)) (by kernel_rfl) [_, _, _, _] h h2
  have e1 : Rk rk a (i + j) = rk a[i + j] := by unfold Rk; simp [q1]
  have e2 : Rk rk a (i + k) = rk a[i + k] := by unfold Rk; simp [q2]
  rw [e1, e2]
  exact rises_at sa (i := i + j) (j := i + k) (by exact ar1 3 (.l (.v 0) (.v 1)) (.l (.a (.v 2) (.v 0)) (.a (.v 2) (.v 1))) (by kernel_rfl) [_, _, _] h1) (by simp [q1]) (by simp [q2])
theorem rk_at {i : Nat} {p : Keyed} (h : a.toList[i]? = some p) : Rk rk a i = rk p := by
  unfold Rk
  rw [Array.getElem?_toList] at h
  rw [h]
end
structure Same (st st' : SortSt) : Prop where
  k : kindOf st' = kindOf st
  a : arrOf st' = arrOf st
  p : pendingOf st' = pendingOf st
  f : failedOf st' = failedOf st
theorem Same.refl (st : SortSt) : Same st st := ⟨rfl, rfl, rfl, rfl⟩
end Mine
end
section
open PySem PyProof.Rows
set_option maxRecDepth 100000
namespace Mine
noncomputable def setMinGallop' : Nat → StateT SortSt Sem Unit := sortPriv% PySem.Builtin.setMinGallop
theorem setMinGallop'_eq (g : Nat) : setMinGallop' g = modify fun s => SortSt.mk' (kindOf s) (arrOf s) (pendingOf s) g (failedOf s) := rfl
noncomputable def mergeLo' : Array Keyed → Array Keyed → StateT SortSt Sem (Array Keyed) := sortPriv% PySem.Builtin.mergeLo
theorem mergeLo'_eq (a b : Array Keyed) : mergeLo' a b = (do
  rule "list.sort.merge-lo"
  let total := a.size + b.size
  let done (out : Array Keyed) (ia ib : Nat) := out ++ a.extract ia a.size ++ b.extract ib b.size
  let lastOfA (out : Array Keyed) (ia ib : Nat) := out ++ b.extract ib b.size ++ a.extract ia a.size
  let mut out : Array Keyed := #[← elem' b 0]
  let mut ia := 0
  let mut ib := 1
  if ib == b.size then return done out ia ib
  if ia + 1 == a.size then return lastOfA out ia ib
  let mut minGallop := gallopOf (← get)
  for _ in [0:total] do
    let mut acount := 0
    let mut bcount := 0
    for _ in [0:total] do
      let some bWins ← lt' (← elem' b ib) (← elem' a ia) | return done out ia ib
      if bWins then
        out := out.push (← elem' b ib); ib := ib + 1; bcount := bcount + 1; acount := 0
        if ib == b.size then return done out ia ib
        if bcount ≥ minGallop then break
      else
        out := out.push (← elem' a ia); ia := ia + 1; acount := acount + 1; bcount := 0
        if ia + 1 == a.size then return lastOfA out ia ib
        if acount ≥ minGallop then break
    rule "list.sort.gallop"
    minGallop := minGallop + 1
    for _ in [0:total] do
      if minGallop > 1 then minGallop := minGallop - 1
      setMinGallop' minGallop
      let some k ← gallop' false (← elem' b ib) a ia (a.size - ia) 0 | return done out ia ib
      acount := k
      if k > 0 then
        out := out ++ a.extract ia (ia + k); ia := ia + k
        if ia + 1 == a.size then return lastOfA out ia ib
        if ia == a.size then return done out ia ib
      out := out.push (← elem' b ib); ib := ib + 1
      if ib == b.size then return done out ia ib
      let some k ← gallop' true (← elem' a ia) b ib (b.size - ib) 0 | return done out ia ib
      bcount := k
      if k > 0 then
        out := out ++ b.extract ib (ib + k); ib := ib + k
        if ib == b.size then return done out ia ib
      out := out.push (← elem' a ia); ia := ia + 1
      if ia + 1 == a.size then return lastOfA out ia ib
      if acount < 7 && bcount < 7 then break
    minGallop := minGallop + 1
    setMinGallop' minGallop
  unsupported "internal:list.sort.merge-bound") := rfl

noncomputable def stepQ {β σ : Type} (Qd Qy : β → σ → Prop) (r : ForInStep β) (st' : σ) : Prop := match r with
  | .done c => Qd c st'
  | .yield c => Qy c st'
section
variable {prog : Program} {w : World} {A : Around} {E : Value → Shared → Prop} {s : Shared}
variable {kd : SortKind} {U : Keyed → Prop} {rk : Keyed → Int} {st : SortSt} {a b : Array Keyed}
theorem wpS_el {i : Nat} {p : Keyed} {Q : Keyed → SortSt → Prop} (h : a[i]? = some p) (q : Q p st) : wpS (model prog w) A E s (elem' a i) Q st := by
  rw [elem'_eq, h]; exact wpS_pure q
theorem wpS_mg {g : Nat} {Q : Unit → SortSt → Prop} {st0 : SortSt} (hs : Same st0 st) (h : ∀ st', Same st0 st' → Q () st') : wpS (model prog w) A E s (setMinGallop' g) Q st := by
  rw [setMinGallop'_eq]; exact wpS_modify (h _ ⟨hs.k, hs.a, hs.p, hs.f⟩)
noncomputable def LoAt (rk : Keyed → Int) (a b : Array Keyed) (r : Option (Array Keyed)) (out : Array Keyed) (ia ib : Nat) : Prop := match r with
  | some r => MFin rk a.toList b.toList r.toList
  | none => MI rk a.toList b.toList out.toList ia ib ∧ ia + 1 < a.size ∧ ib < b.size
theorem lo_done (X : Arr2 U rk a b) {out : Array Keyed} {ia ib : Nat} (h : MI rk a.toList b.toList out.toList ia ib) (hb : ib = b.size) : MFin rk a.toList b.toList (out ++ a.extract ia a.size ++ b.extract ib b.size).toList := by
  rw [Array.toList_append, Array.toList_append, ext_all, ext_all]
  exact h.finAB X.sa X.sb fun x _ q hq => by rw [hb, List.drop_of_length_le (by simp)] at hq; cases hq
theorem lo_last (X : Arr2 U rk a b) {out : Array Keyed} {ia ib : Nat} (h : MI rk a.toList b.toList out.toList ia ib) (ha : ia + 1 = a.size) : MFin rk a.toList b.toList (out ++ b.extract ib b.size ++ a.extract ia a.size).toList := by
  rw [Array.toList_append, Array.toList_append, ext_all, ext_all]
  refine h.finBA X.sa X.sb fun x hx q hq => ?_
  obtain ⟨j, hj, e⟩ := mem_drop_at hq
  have hlt : j < a.size := by
    obtain ⟨h1, _⟩ := List.getElem?_eq_some_iff.mp e
    simpa using h1
  have : j = a.size - 1 := by exact ar3 3 (.e (.a (.v 0) (.n 1)) (.v 1)) (.l (.v 0) (.v 2)) (.t (.v 2) (.v 1)) (.e (.v 2) (.s (.v 1) (.n 1))) (by kernel_rfl) [_, _, _] ha hj hlt
  subst this
  rw [Array.getElem?_toList] at e
  exact Int.le_of_lt (X.hi q x e (List.mem_of_mem_drop hx))
theorem lo_b (X : Arr2 U rk a b) {out : Array Keyed} {ia ib : Nat} (h : MI rk a.toList b.toList out.toList ia ib) {x y : Keyed} (hx : b[ib]? = some x) (hy : a[ia]? = some y) (hlt : rk x ≤ rk y) : MI rk a.toList b.toList (out.push x).toList ia (ib + 1) := by
  rw [Array.toList_push]
  refine h.takeB X.sb (by rw [Array.getElem?_toList]; exact hx) fun q hq => ?_
  obtain ⟨j, hj, e⟩ := mem_drop_at hq
  exact Int.le_trans hlt (rises_at X.sa hj (by rw [Array.getElem?_toList]; exact hy) e)
theorem lo_a (X : Arr2 U rk a b) {out : Array Keyed} {ia ib : Nat} (h : MI rk a.toList b.toList out.toList ia ib) {x y : Keyed} (hx : b[ib]? = some x) (hy : a[ia]? = some y) (hlt : rk y ≤ rk x) : MI rk a.toList b.toList (out.push y).toList (ia + 1) ib := by
  rw [Array.toList_push]
  refine h.takeA X.sa (by rw [Array.getElem?_toList]; exact hy) fun q hq => ?_
  obtain ⟨j, hj, e⟩ := mem_drop_at hq
  exact Int.le_trans hlt (rises_at X.sb hj (by rw [Array.getElem?_toList]; exact hx) e)
theorem lo_as (X : Arr2 U rk a b) {out : Array Keyed} {ia ib k : Nat} (h : MI rk a.toList b.toList out.toList ia ib) {x : Keyed} (hx : b[ib]? = some x) (hk : ia + k ≤ a.size) (hle : ∀ i, i < k → past false (rk x) (Rk rk a (ia + i)) = true) : MI rk a.toList b.toList (out ++ a.extract ia (ia + k)).toList (ia + k) ib := by
  rw [Array.toList_append, ext_some]
  refine h.takeAs X.sa k (by simpa using hk) fun p hp q hq => ?_
  obtain ⟨j, hj, e⟩ := mem_part_at hp
  obtain ⟨j2, hj2, e2⟩ := mem_drop_at hq
  have := hle j hj
  rw [rk_at e] at this
  simp [past] at this
  exact Int.le_trans this (rises_at X.sb hj2 (by rw [Array.getElem?_toList]; exact hx) e2)
theorem lo_bs (X : Arr2 U rk a b) {out : Array Keyed} {ia ib k : Nat} (h : MI rk a.toList b.toList out.toList ia ib) {y : Keyed} (hy : a[ia]? = some y) (hk : ib + k ≤ b.size) (hle : ∀ i, i < k → past true (rk y) (Rk rk b (ib + i)) = true) : MI rk a.toList b.toList (out ++ b.extract ib (ib + k)).toList ia (ib + k) := by
  rw [Array.toList_append, ext_some]
  refine h.takeBs X.sb k (by simpa using hk) fun p hp q hq => ?_
  obtain ⟨j, hj, e⟩ := mem_part_at hp
  obtain ⟨j2, hj2, e2⟩ := mem_drop_at hq
  have := hle j hj
  rw [rk_at e] at this
  simp [past] at this
  exact Int.le_trans (Int.le_of_lt this) (rises_at X.sa hj2 (by rw [Array.getElem?_toList]; exact hy) e2)
def LoI0 (rk : Keyed → Int) (a b : Array Keyed) (st : SortSt) (x : Nat) (c : Option (Array Keyed) × Array Keyed × Nat × Nat × Nat) (st' : SortSt) : Prop := Same st st' ∧ ∃ out ia ib mg, c = (none, out, ia, ib, mg) ∧ LoAt rk a b none out ia ib ∧ x + 1 ≤ ia + ib
def LoQ0 (rk : Keyed → Int) (a b : Array Keyed) (st : SortSt) (c : Option (Array Keyed) × Array Keyed × Nat × Nat × Nat) (st' : SortSt) : Prop := Same st st' ∧ ∃ r out ia ib mg, c = (some r, out, ia, ib, mg) ∧ LoAt rk a b (some r) out ia ib
def LoI1 (rk : Keyed → Int) (a b : Array Keyed) (st : SortSt) (m y : Nat) (c : Option (Array Keyed) × Array Keyed × Nat × Nat × Nat × Nat) (st' : SortSt) : Prop := Same st st' ∧ ∃ out1 ia1 ib1 ac bc, c = (none, out1, ia1, ib1, ac, bc) ∧ LoAt rk a b none out1 ia1 ib1 ∧ m + y ≤ ia1 + ib1
def LoQ1 (rk : Keyed → Int) (a b : Array Keyed) (st : SortSt) (m : Nat) (c : Option (Array Keyed) × Array Keyed × Nat × Nat × Nat × Nat) (st' : SortSt) : Prop := Same st st' ∧ ∃ r out1 ia1 ib1 ac bc, c = (r, out1, ia1, ib1, ac, bc) ∧ LoAt rk a b r out1 ia1 ib1 ∧ m + 1 ≤ ia1 + ib1
def LoI2 (rk : Keyed → Int) (a b : Array Keyed) (st : SortSt) (m : Nat) (c : Option (Array Keyed) × Array Keyed × Nat × Nat × Nat × Nat × Nat) (st' : SortSt) : Prop := Same st st' ∧ ∃ out2 ia2 ib2 mg ac bc, c = (none, out2, ia2, ib2, mg, ac, bc) ∧ LoAt rk a b none out2 ia2 ib2 ∧ m ≤ ia2 + ib2
def LoQ2 (rk : Keyed → Int) (a b : Array Keyed) (st : SortSt) (m : Nat) (c : Option (Array Keyed) × Array Keyed × Nat × Nat × Nat × Nat × Nat) (st' : SortSt) : Prop := Same st st' ∧ ∃ r out2 ia2 ib2 mg ac bc, c = (r, out2, ia2, ib2, mg, ac, bc) ∧ LoAt rk a b r out2 ia2 ib2 ∧ m ≤ ia2 + ib2
theorem at_some {i : Nat} (h : i < a.size) : ∃ p, a[i]? = some p := ⟨a[i], by simp [h]⟩
theorem Arr2.mu (X : Arr2 U rk a b) {i : Nat} {p : Keyed} (e : a[i]? = some p) : U p := X.ua p (by rw [← Array.getElem?_toList] at e; exact List.mem_of_getElem? e)
theorem Arr2.mub (X : Arr2 U rk a b) {i : Nat} {p : Keyed} (e : b[i]? = some p) : U p := X.ub p (by rw [← Array.getElem?_toList] at e; exact List.mem_of_getElem? e)
noncomputable def loD (a b out : Array Keyed) (ia ib : Nat) : Array Keyed := out ++ a.extract ia a.size ++ b.extract ib b.size
noncomputable def loL (a b out : Array Keyed) (ia ib : Nat) : Array Keyed := out ++ b.extract ib b.size ++ a.extract ia a.size
noncomputable def loT (a b : Array Keyed) (mg : Nat) (out : Array Keyed) (ia ib bc : Nat) : StateT SortSt Sem (ForInStep (Option (Array Keyed) × Array Keyed × Nat × Nat × Nat × Nat)) := do
  let x ← elem' b ib
  if (ib + 1 == b.size) = true then pure (.done (some (loD a b (out.push x) ia (ib + 1)), out.push x, ia, ib + 1, 0, bc + 1))
  else if bc + 1 ≥ mg then pure (.done (none, out.push x, ia, ib + 1, 0, bc + 1)) else pure (.yield (none, out.push x, ia, ib + 1, 0, bc + 1))
noncomputable def loF (a b : Array Keyed) (mg : Nat) (out : Array Keyed) (ia ib ac : Nat) : StateT SortSt Sem (ForInStep (Option (Array Keyed) × Array Keyed × Nat × Nat × Nat × Nat)) := do
  let x ← elem' a ia
  if (ia + 1 + 1 == a.size) = true then pure (.done (some (loL a b (out.push x) (ia + 1) ib), out.push x, ia + 1, ib, ac + 1, 0))
  else if ac + 1 ≥ mg then pure (.done (none, out.push x, ia + 1, ib, ac + 1, 0)) else pure (.yield (none, out.push x, ia + 1, ib, ac + 1, 0))
noncomputable def loB1 (a b : Array Keyed) (mg : Nat) (out : Array Keyed) (ia ib ac bc : Nat) : StateT SortSt Sem (ForInStep (Option (Array Keyed) × Array Keyed × Nat × Nat × Nat × Nat)) := do
  let x ← elem' b ib
  let y ← elem' a ia
  match (← lt' x y) with
  | some w => if w = true then loT a b mg out ia ib bc else loF a b mg out ia ib ac
  | _ => pure (.done (some (loD a b out ia ib), out, ia, ib, ac, bc))
theorem loT_ok (X : Arr2 U rk a b) {out : Array Keyed} {p : Keyed} {m y mg ia ib bc : Nat} {st2 : SortSt} (hs2 : Same st st2) (hp : b[ib]? = some p) (m1 : MI rk a.toList b.toList (out.push p).toList ia (ib + 1)) (ha1 : ia + 1 < a.size) (hb1 : ib < b.size) (hc1 : m + y ≤ ia + ib) :
    wpS (model prog w) A E s (loT a b mg out ia ib bc) (stepQ (LoQ1 rk a b st m) (LoI1 rk a b st m (y + 1))) st2 := by
  refine wpS_bind (wpS_el hp (wif (fun he => ?_) fun he => ?_))
  · have he : ib + 1 = b.size := by simpa using he
    exact wpS_pure ⟨hs2, some _, _, _, _, _, _, rfl, lo_done X m1 he, by exact ar1 4 (.l (.a (.v 0) (.v 1)) (.a (.v 2) (.v 3))) (.l (.a (.v 0) (.n 1)) (.a (.v 2) (.a (.v 3) (.n 1)))) (by kernel_rfl) [_, _, _, _] hc1⟩
  · have he : ¬ib + 1 = b.size := by simpa using he
    exact wif (fun _ => wpS_pure ⟨hs2, none, _, _, _, _, _, rfl, ⟨m1, by exact ar1 2 (.t (.a (.v 0) (.n 1)) (.v 1)) (.t (.a (.v 0) (.n 1)) (.v 1)) (by kernel_rfl) [_, _] ha1, by lia⟩, by exact ar1 4 (.l (.a (.v 0) (.v 1)) (.a (.v 2) (.v 3))) (.l (.a (.v 0) (.n 1)) (.a (.v 2) (.a (.v 3) (.n 1)))) (by kernel_rfl) [_, _, _, _] hc1⟩) fun _ => wpS_pure ⟨hs2, _, _, _, _, _, rfl, ⟨m1, by exact ar1 2 (.t (.a (.v 0) (.n 1)) (.v 1)) (.t (.a (.v 0) (.n 1)) (.v 1)) (by kernel_rfl) [_, _] ha1, by lia⟩, by exact ar1 4 (.l (.a (.v 0) (.v 1)) (.a (.v 2) (.v 3))) (.l (.a (.v 0) (.a (.v 1) (.n 1))) (.a (.v 2) (.a (.v 3) (.n 1)))) (by kernel_rfl) [_, _, _, _] hc1⟩
theorem loF_ok (X : Arr2 U rk a b) {out : Array Keyed} {p : Keyed} {m y mg ia ib ac : Nat} {st2 : SortSt} (hs2 : Same st st2) (hp : a[ia]? = some p) (m1 : MI rk a.toList b.toList (out.push p).toList (ia + 1) ib) (ha1 : ia + 1 < a.size) (hb1 : ib < b.size) (hc1 : m + y ≤ ia + ib) :
    wpS (model prog w) A E s (loF a b mg out ia ib ac) (stepQ (LoQ1 rk a b st m) (LoI1 rk a b st m (y + 1))) st2 := by
  refine wpS_bind (wpS_el hp (wif (fun he => ?_) fun he => ?_))
  · have he : ia + 1 + 1 = a.size := by simpa using he
    exact wpS_pure ⟨hs2, some _, _, _, _, _, _, rfl, lo_last X m1 he, by exact ar1 4 (.l (.a (.v 0) (.v 1)) (.a (.v 2) (.v 3))) (.l (.a (.v 0) (.n 1)) (.a (.a (.v 2) (.n 1)) (.v 3))) (by kernel_rfl) [_, _, _, _] hc1⟩
  · have he : ¬ia + 1 + 1 = a.size := by simpa using he
    exact wif (fun _ => wpS_pure ⟨hs2, none, _, _, _, _, _, rfl, ⟨m1, by lia, by exact ar1 2 (.t (.v 0) (.v 1)) (.t (.v 0) (.v 1)) (by kernel_rfl) [_, _] hb1⟩, by exact ar1 4 (.l (.a (.v 0) (.v 1)) (.a (.v 2) (.v 3))) (.l (.a (.v 0) (.n 1)) (.a (.a (.v 2) (.n 1)) (.v 3))) (by kernel_rfl) [_, _, _, _] hc1⟩) fun _ => wpS_pure ⟨hs2, _, _, _, _, _, rfl, ⟨m1, by lia, by exact ar1 2 (.t (.v 0) (.v 1)) (.t (.v 0) (.v 1)) (by kernel_rfl) [_, _] hb1⟩, by exact ar1 4 (.l (.a (.v 0) (.v 1)) (.a (.v 2) (.v 3))) (.l (.a (.v 0) (.a (.v 1) (.n 1))) (.a (.a (.v 2) (.n 1)) (.v 3))) (by kernel_rfl) [_, _, _, _] hc1⟩
theorem lo_step1 (L : LtOk prog w A E s kd U rk) (X : Arr2 U rk a b) (hk : kindOf st = kd) {m y mg : Nat} {c : Option (Array Keyed) × Array Keyed × Nat × Nat × Nat × Nat} {st2 : SortSt} (hI : LoI1 rk a b st m y c st2) :
    wpS (model prog w) A E s (loB1 a b mg c.2.1 c.2.2.1 c.2.2.2.1 c.2.2.2.2.1 c.2.2.2.2.2) (stepQ (LoQ1 rk a b st m) (LoI1 rk a b st m (y + 1))) st2 := by
  refine cutg fun G hG => ?_
  obtain ⟨hs2, out1, ia1, ib1, ac, bc, rfl, ⟨hM1, ha1, hb1⟩, hc1⟩ := hI
  obtain ⟨p, hp⟩ := at_some (a := b) (i := ib1) hb1
  obtain ⟨q, hq⟩ := at_some (a := a) (i := ia1) (by exact ar1 2 (.t (.a (.v 0) (.n 1)) (.v 1)) (.t (.v 0) (.v 1)) (by kernel_rfl) [_, _] ha1)
  refine hG (wpS_bind (wpS_el hp (wpS_bind (wpS_el hq (wpS_bind (L p q _ _ (X.mub hp) (X.mu hq) (hs2.k.trans hk) ?_))))))
  by_cases hlt : rk p < rk q
  · exact wif_t (by simpa using hlt) (loT_ok X hs2 hp (lo_b X hM1 hp hq (Int.le_of_lt hlt)) ha1 hb1 hc1)
  · exact wif_f (by simpa using hlt) (loF_ok X hs2 hq (lo_a X hM1 hp hq (Int.not_lt.mp hlt)) ha1 hb1 hc1)
noncomputable def lo3 (a b : Array Keyed) (mg ac bc : Nat) (out : Array Keyed) (ia ib : Nat) : StateT SortSt Sem (ForInStep (Option (Array Keyed) × Array Keyed × Nat × Nat × Nat × Nat × Nat)) := do
  let x ← elem' a ia
  if (ia + 1 + 1 == a.size) = true then pure (.done (some (loL a b (out.push x) (ia + 1) ib), out.push x, ia + 1, ib, mg, ac, bc))
  else if (decide (ac < 7) && decide (bc < 7)) = true then pure (.done (none, out.push x, ia + 1, ib, mg, ac, bc)) else pure (.yield (none, out.push x, ia + 1, ib, mg, ac, bc))
noncomputable def lo2b (a b : Array Keyed) (mg ac bc : Nat) (out : Array Keyed) (ia ib : Nat) : StateT SortSt Sem (ForInStep (Option (Array Keyed) × Array Keyed × Nat × Nat × Nat × Nat × Nat)) := do
  let y ← elem' a ia
  match (← gallop' true y b ib (b.size - ib) 0) with
  | some k => (if k > 0 then
      (if (ib + k == b.size) = true then pure (.done (some (loD a b (out ++ b.extract ib (ib + k)) ia (ib + k)), out ++ b.extract ib (ib + k), ia, ib + k, mg, ac, k))
      else lo3 a b mg ac k (out ++ b.extract ib (ib + k)) ia (ib + k))
    else lo3 a b mg ac k out ia ib)
  | _ => pure (.done (some (loD a b out ia ib), out, ia, ib, mg, ac, bc))
noncomputable def lo2 (a b : Array Keyed) (mg ac bc : Nat) (out : Array Keyed) (ia ib : Nat) : StateT SortSt Sem (ForInStep (Option (Array Keyed) × Array Keyed × Nat × Nat × Nat × Nat × Nat)) := do
  let x ← elem' b ib
  if (ib + 1 == b.size) = true then pure (.done (some (loD a b (out.push x) ia (ib + 1)), out.push x, ia, ib + 1, mg, ac, bc))
  else lo2b a b mg ac bc (out.push x) ia (ib + 1)
noncomputable def lo1 (a b : Array Keyed) (mg ac bc : Nat) (out : Array Keyed) (ia ib : Nat) : StateT SortSt Sem (ForInStep (Option (Array Keyed) × Array Keyed × Nat × Nat × Nat × Nat × Nat)) := do
  setMinGallop' mg
  let x ← elem' b ib
  match (← gallop' false x a ia (a.size - ia) 0) with
  | some k => (if k > 0 then
      (if (ia + k + 1 == a.size) = true then pure (.done (some (loL a b (out ++ a.extract ia (ia + k)) (ia + k) ib), out ++ a.extract ia (ia + k), ia + k, ib, mg, k, bc))
      else if (ia + k == a.size) = true then pure (.done (some (loD a b (out ++ a.extract ia (ia + k)) (ia + k) ib), out ++ a.extract ia (ia + k), ia + k, ib, mg, k, bc))
      else lo2 a b mg k bc (out ++ a.extract ia (ia + k)) (ia + k) ib)
    else lo2 a b mg k bc out ia ib)
  | _ => pure (.done (some (loD a b out ia ib), out, ia, ib, mg, ac, bc))
noncomputable def loB2 (a b : Array Keyed) (out : Array Keyed) (ia ib mg ac bc : Nat) : StateT SortSt Sem (ForInStep (Option (Array Keyed) × Array Keyed × Nat × Nat × Nat × Nat × Nat)) :=
  if mg > 1 then lo1 a b (mg - 1) ac bc out ia ib else lo1 a b mg ac bc out ia ib
theorem lo3_ok (X : Arr2 U rk a b) {out : Array Keyed} {z : Keyed} {m mg ac bc ia ib : Nat} {st4 : SortSt} (hs4 : Same st st4) (hz : a[ia]? = some z) (m4 : MI rk a.toList b.toList (out.push z).toList (ia + 1) ib) (ha : ia + 1 < a.size) (hb : ib < b.size) (hc : m ≤ ia + ib) :
    wpS (model prog w) A E s (lo3 a b mg ac bc out ia ib) (stepQ (LoQ2 rk a b st m) (LoI2 rk a b st m)) st4 := by
  refine wpS_bind (wpS_el hz (wif (fun he => ?_) fun he => ?_))
  · have he : ia + 1 + 1 = a.size := by simpa using he
    exact wpS_pure ⟨hs4, some _, _, _, _, _, _, _, rfl, lo_last X m4 he, by exact ar1 3 (.l (.v 0) (.a (.v 1) (.v 2))) (.l (.v 0) (.a (.a (.v 1) (.n 1)) (.v 2))) (by kernel_rfl) [_, _, _] hc⟩
  · have he : ¬ia + 1 + 1 = a.size := by simpa using he
    exact wif (fun _ => wpS_pure ⟨hs4, none, _, _, _, _, _, _, rfl, ⟨m4, by lia, hb⟩, by exact ar1 3 (.l (.v 0) (.a (.v 1) (.v 2))) (.l (.v 0) (.a (.a (.v 1) (.n 1)) (.v 2))) (by kernel_rfl) [_, _, _] hc⟩) fun _ => wpS_pure ⟨hs4, _, _, _, _, _, _, rfl, ⟨m4, by lia, hb⟩, by exact ar1 3 (.l (.v 0) (.a (.v 1) (.v 2))) (.l (.v 0) (.a (.a (.v 1) (.n 1)) (.v 2))) (by kernel_rfl) [_, _, _] hc⟩
theorem lo2b_ok (L : LtOk prog w A E s kd U rk) (X : Arr2 U rk a b) (hk : kindOf st = kd) {out : Array Keyed} {z : Keyed} {m mg ac bc ia ib : Nat} {st4 : SortSt} (hs4 : Same st st4) (hz : a[ia]? = some z) (m2 : MI rk a.toList b.toList out.toList ia ib) (ha : ia + 1 < a.size) (hb : ib < b.size) (hc : m ≤ ia + ib) :
    wpS (model prog w) A E s (lo2b a b mg ac bc out ia ib) (stepQ (LoQ2 rk a b st m) (LoI2 rk a b st m)) st4 := by
  refine wpS_bind (wpS_el hz (wpS_bind (wpS_gallop L (base := ib) (n := b.size - ib) (r := fun j => Rk rk b (ib + j)) (hs4.k.trans hk) (X.mu hz) (seg_of X.ub ib (b.size - ib) (by exact ar1 2 (.t (.v 0) (.v 1)) (.l (.a (.v 0) (.s (.v 1) (.v 0))) (.v 1)) (by kernel_rfl) [_, _] hb)) (seg_rises X.sb ib (b.size - ib) (by exact ar1 2 (.t (.v 0) (.v 1)) (.l (.a (.v 0) (.s (.v 1) (.v 0))) (.v 1)) (by kernel_rfl) [_, _] hb)) (by exact ar1 2 (.t (.v 0) (.v 1)) (.t (.n 0) (.s (.v 1) (.v 0))) (by kernel_rfl) [_, _] hb) fun k hk1 hk2 hk3 => ?_)))
  have go : ∀ o i, MI rk a.toList b.toList o.toList ia i → i = ib + k → i < b.size → wpS (model prog w) A E s (lo3 a b mg ac k o ia i) (stepQ (LoQ2 rk a b st m) (LoI2 rk a b st m)) st4 := by
    intro o i mo hi hi'
    obtain ⟨y, hy⟩ := at_some (a := b) (i := i) hi'
    have hyz : rk z ≤ rk y := by
      have := hk3 k (Nat.le_refl _) (by exact ar2 4 (.e (.v 0) (.a (.v 1) (.v 2))) (.t (.v 0) (.v 3)) (.t (.v 2) (.s (.v 3) (.v 1))) (by kernel_rfl) [_, _, _, _] hi hi')
      rw [← hi, rk_at (by rw [Array.getElem?_toList]; exact hy)] at this
      simpa [past] using this
    exact lo3_ok X hs4 hz (lo_a X mo hy hz hyz) ha hi' (by exact ar2 5 (.l (.v 0) (.a (.v 1) (.v 2))) (.e (.v 3) (.a (.v 2) (.v 4))) (.l (.v 0) (.a (.v 1) (.v 3))) (by kernel_rfl) [_, _, _, _, _] hc hi)
  refine wif (fun hk0 => ?_) fun hk0 => ?_
  · have m3 := lo_bs X m2 hz (k := k) (by exact ar2 3 (.t (.v 0) (.v 1)) (.l (.v 2) (.s (.v 1) (.v 0))) (.l (.a (.v 0) (.v 2)) (.v 1)) (by kernel_rfl) [_, _, _] hb hk1) hk2
    refine wif (fun he => ?_) fun he => ?_
    · have he : ib + k = b.size := by simpa using he
      exact wpS_pure ⟨hs4, some _, _, _, _, _, _, _, rfl, lo_done X m3 he, by exact ar1 4 (.l (.v 0) (.a (.v 1) (.v 2))) (.l (.v 0) (.a (.v 1) (.a (.v 2) (.v 3)))) (by kernel_rfl) [_, _, _, _] hc⟩
    · have he : ¬ib + k = b.size := by simpa using he
      exact go _ _ m3 rfl (by exact ar3 3 (.t (.v 0) (.v 1)) (.l (.v 2) (.s (.v 1) (.v 0))) (.no (.e (.a (.v 0) (.v 2)) (.v 1))) (.t (.a (.v 0) (.v 2)) (.v 1)) (by kernel_rfl) [_, _, _] hb hk1 he)
  · have : k = 0 := by exact ar1 1 (.no (.t (.n 0) (.v 0))) (.e (.v 0) (.n 0)) (by kernel_rfl) [_] hk0
    subst this
    exact go _ _ m2 rfl hb
theorem lo2_ok (L : LtOk prog w A E s kd U rk) (X : Arr2 U rk a b) (hk : kindOf st = kd) {out : Array Keyed} {p z : Keyed} {m mg ac bc ia ib : Nat} {st4 : SortSt} (hs4 : Same st st4) (hp : b[ib]? = some p) (hz : a[ia]? = some z) (hzp : rk p < rk z) (hM : MI rk a.toList b.toList out.toList ia ib) (ha : ia + 1 < a.size) (hb : ib < b.size) (hc : m ≤ ia + ib) :
    wpS (model prog w) A E s (lo2 a b mg ac bc out ia ib) (stepQ (LoQ2 rk a b st m) (LoI2 rk a b st m)) st4 := by
  have m2 := lo_b X hM hp hz (Int.le_of_lt hzp)
  refine wpS_bind (wpS_el hp (wif (fun he => ?_) fun he => ?_))
  · have he : ib + 1 = b.size := by simpa using he
    exact wpS_pure ⟨hs4, some _, _, _, _, _, _, _, rfl, lo_done X m2 he, by exact ar1 3 (.l (.v 0) (.a (.v 1) (.v 2))) (.l (.v 0) (.a (.v 1) (.a (.v 2) (.n 1)))) (by kernel_rfl) [_, _, _] hc⟩
  · have he : ¬ib + 1 = b.size := by simpa using he
    exact lo2b_ok L X hk hs4 hz m2 ha (by exact ar2 2 (.t (.v 0) (.v 1)) (.no (.e (.a (.v 0) (.n 1)) (.v 1))) (.t (.a (.v 0) (.n 1)) (.v 1)) (by kernel_rfl) [_, _] hb he) (by exact ar1 3 (.l (.v 0) (.a (.v 1) (.v 2))) (.l (.v 0) (.a (.v 1) (.a (.v 2) (.n 1)))) (by kernel_rfl) [_, _, _] hc)
theorem lo1_ok (L : LtOk prog w A E s kd U rk) (X : Arr2 U rk a b) (hk : kindOf st = kd) {out : Array Keyed} {m mg ac bc ia ib : Nat} {st3 : SortSt} (hs3 : Same st st3) (hM : MI rk a.toList b.toList out.toList ia ib) (ha : ia + 1 < a.size) (hb : ib < b.size) (hc : m ≤ ia + ib) :
    wpS (model prog w) A E s (lo1 a b mg ac bc out ia ib) (stepQ (LoQ2 rk a b st m) (LoI2 rk a b st m)) st3 := by
  refine wpS_bind (wpS_mg hs3 fun st4 hs4 => ?_)
  refine cutg fun G hG => ?_
  obtain ⟨p, hp⟩ := at_some (a := b) (i := ib) hb
  refine hG (wpS_bind (wpS_el hp (wpS_bind (wpS_gallop L (base := ia) (n := a.size - ia) (r := fun j => Rk rk a (ia + j)) (hs4.k.trans hk) (X.mub hp) (seg_of X.ua ia (a.size - ia) (by exact ar1 2 (.t (.a (.v 0) (.n 1)) (.v 1)) (.l (.a (.v 0) (.s (.v 1) (.v 0))) (.v 1)) (by kernel_rfl) [_, _] ha)) (seg_rises X.sa ia (a.size - ia) (by exact ar1 2 (.t (.a (.v 0) (.n 1)) (.v 1)) (.l (.a (.v 0) (.s (.v 1) (.v 0))) (.v 1)) (by kernel_rfl) [_, _] ha)) (by exact ar1 2 (.t (.a (.v 0) (.n 1)) (.v 1)) (.t (.n 0) (.s (.v 1) (.v 0))) (by kernel_rfl) [_, _] ha) fun k hk1 hk2 hk3 => ?_))))
  have hkl : k < a.size - ia := by
    rcases Nat.lt_or_ge k (a.size - ia) with q | q
    · exact q
    · exfalso
      have := hk2 (a.size - 1 - ia) (by exact ar2 3 (.t (.a (.v 0) (.n 1)) (.v 1)) (.l (.s (.v 1) (.v 0)) (.v 2)) (.t (.s (.s (.v 1) (.n 1)) (.v 0)) (.v 2)) (by kernel_rfl) [_, _, _] ha q)
      obtain ⟨z, hz⟩ := at_some (a := a) (i := a.size - 1) (by exact ar1 2 (.t (.a (.v 0) (.n 1)) (.v 1)) (.t (.s (.v 1) (.n 1)) (.v 1)) (by kernel_rfl) [_, _] ha)
      rw [show ia + (a.size - 1 - ia) = a.size - 1 by exact ar1 2 (.t (.a (.v 0) (.n 1)) (.v 1)) (.e (.a (.v 0) (.s (.s (.v 1) (.n 1)) (.v 0))) (.s (.v 1) (.n 1))) (by kernel_rfl) [_, _] ha, rk_at (by rw [Array.getElem?_toList]; exact hz)] at this
      have h9 := X.hi z p hz (by rw [← Array.getElem?_toList] at hp; exact List.mem_of_getElem? hp)
      simp [past] at this
      lia
  have go : ∀ o i, MI rk a.toList b.toList o.toList i ib → i = ia + k → i + 1 < a.size → wpS (model prog w) A E s (lo2 a b mg k bc o i ib) (stepQ (LoQ2 rk a b st m) (LoI2 rk a b st m)) st4 := by
    intro o i mo hi hi'
    obtain ⟨z, hz⟩ := at_some (a := a) (i := i) (by exact ar1 2 (.t (.a (.v 0) (.n 1)) (.v 1)) (.t (.v 0) (.v 1)) (by kernel_rfl) [_, _] hi')
    have hzp : rk p < rk z := by
      have := hk3 k (Nat.le_refl _) hkl
      rw [← hi, rk_at (by rw [Array.getElem?_toList]; exact hz)] at this
      simpa [past] using this
    exact lo2_ok L X hk hs4 hp hz hzp mo hi' hb (by exact ar2 5 (.l (.v 0) (.a (.v 1) (.v 2))) (.e (.v 3) (.a (.v 1) (.v 4))) (.l (.v 0) (.a (.v 3) (.v 2))) (by kernel_rfl) [_, _, _, _, _] hc hi)
  refine wif (fun hk0 => ?_) fun hk0 => ?_
  · have m1 := lo_as X hM hp (k := k) (by exact ar1 3 (.t (.v 0) (.s (.v 1) (.v 2))) (.l (.a (.v 2) (.v 0)) (.v 1)) (by kernel_rfl) [_, _, _] hkl) hk2
    refine wif (fun he => ?_) fun he => ?_
    · have he : ia + k + 1 = a.size := by simpa using he
      exact wpS_pure ⟨hs4, some _, _, _, _, _, _, _, rfl, lo_last X m1 he, by exact ar1 4 (.l (.v 0) (.a (.v 1) (.v 2))) (.l (.v 0) (.a (.a (.v 1) (.v 3)) (.v 2))) (by kernel_rfl) [_, _, _, _] hc⟩
    · have he : ¬ia + k + 1 = a.size := by simpa using he
      exact wif_f (by have : ¬ ia + k = a.size := by exact ar1 3 (.t (.v 0) (.s (.v 1) (.v 2))) (.no (.e (.a (.v 2) (.v 0)) (.v 1))) (by kernel_rfl) [_, _, _] hkl
                      simpa using this) (go _ _ m1 rfl (by exact ar2 3 (.t (.v 0) (.s (.v 1) (.v 2))) (.no (.e (.a (.a (.v 2) (.v 0)) (.n 1)) (.v 1))) (.t (.a (.a (.v 2) (.v 0)) (.n 1)) (.v 1)) (by kernel_rfl) [_, _, _] hkl he))
  · have : k = 0 := by exact ar1 1 (.no (.t (.n 0) (.v 0))) (.e (.v 0) (.n 0)) (by kernel_rfl) [_] hk0
    subst this
    exact go _ _ hM rfl ha
theorem lo_step2 (L : LtOk prog w A E s kd U rk) (X : Arr2 U rk a b) (hk : kindOf st = kd) {m : Nat} {c : Option (Array Keyed) × Array Keyed × Nat × Nat × Nat × Nat × Nat} {st3 : SortSt} (hI : LoI2 rk a b st m c st3) :
    wpS (model prog w) A E s (loB2 a b c.2.1 c.2.2.1 c.2.2.2.1 c.2.2.2.2.1 c.2.2.2.2.2.1 c.2.2.2.2.2.2) (stepQ (LoQ2 rk a b st m) (LoI2 rk a b st m)) st3 := by
  refine cutg fun G hG => ?_
  obtain ⟨hs3, out2, ia2, ib2, mg2, ac2, bc2, rfl, ⟨hM, ha, hb⟩, hc2⟩ := hI
  exact hG (wif (fun _ => lo1_ok L X hk hs3 hM ha hb hc2) fun _ => lo1_ok L X hk hs3 hM ha hb hc2)
theorem wpS_mergeLo (L : LtOk prog w A E s kd U rk) (X : Arr2 U rk a b) {Q : Array Keyed → SortSt → Prop} (hk : kindOf st = kd)
    (h : ∀ r st', Same st st' → MFin rk a.toList b.toList r.toList → Q r st') : wpS (model prog w) A E s (mergeLo' a b) Q st := by
  rw [mergeLo'_eq]
  refine wpS_bind (wpS_lift (wpAny_rule ⟨rfl, ?_⟩))
  refine cutg fun G hG => ?_
  have hna := X.na
  have hnb := X.nb
  obtain ⟨p0, hp0⟩ := at_some (a := b) (i := 0) (by exact ar1 1 (.l (.n 1) (.v 0)) (.t (.n 0) (.v 0)) (by kernel_rfl) [_] hnb)
  have m0 : MI rk a.toList b.toList (#[p0] : Array Keyed).toList 0 1 := by
    obtain ⟨y, hy⟩ := at_some (a := a) (i := 0) (by exact ar1 1 (.l (.n 1) (.v 0)) (.t (.n 0) (.v 0)) (by kernel_rfl) [_] hna)
    have h0 : MI rk a.toList b.toList (#[] : Array Keyed).toList 0 0 := ⟨by simp, List.Pairwise.nil, fun p hp => by simp at hp⟩
    exact lo_b X h0 hp0 hy (Int.le_of_lt (X.lo p0 y hp0 (by rw [← Array.getElem?_toList] at hy; exact List.mem_of_getElem? hy)))
  refine hG (wpS_bind (wpS_el hp0 (wif (fun he => ?_) fun h1 => wif (fun he => ?_) fun h2 => ?_)))
  · have he : 1 = b.size := by simpa using he
    exact wpS_pure (h _ st (.refl st) (lo_done X m0 he))
  · have he : 0 + 1 = a.size := by simpa using he
    exact wpS_pure (h _ st (.refl st) (lo_last X m0 he))
  have h1 : ¬1 = b.size := by simpa using h1
  have h2 : ¬0 + 1 = a.size := by simpa using h2
  refine wpS_bind (wpS_get (wpS_bind (wpS_mono (wpS_forRange (I := LoI0 rk a b st)
    (Q := LoQ0 rk a b st) ?step ?fin ⟨.refl st, _, _, _, _, rfl, ⟨m0, by lia, by lia⟩, by exact ar0 0 (.l (.a (.n 0) (.n 1)) (.a (.n 0) (.n 1))) (by kernel_rfl) []⟩) ?post)))
  case post =>
    intro c st' h
    refine cutg fun G hG => ?_
    obtain ⟨hs, r, out, ia, ib, mg, rfl, hr⟩ := h
    exact hG (wpS_pure (h r st' hs hr))
  case fin =>
    rintro c st' ⟨hs, out, ia, ib, mg, rfl, hr, hx⟩
    exact absurd hr.2.2 (by have := hr.2.1; exact ar2 4 (.l (.a (.mx (.n 0) (.a (.v 0) (.v 1))) (.n 1)) (.a (.v 2) (.v 3))) (.t (.a (.v 2) (.n 1)) (.v 0)) (.no (.t (.v 3) (.v 1))) (by kernel_rfl) [_, _, _, _] hx this)
  case step =>
    intro x c st1 _ hx hI
    refine cutg fun G hG => ?_
    obtain ⟨hs1, out, ia, ib, mg, rfl, hM, hc⟩ := hI
    refine hG (wpS_bind (wpS_mono (wpS_forRange (I := LoI1 rk a b st (ia + ib))
      (Q := LoQ1 rk a b st (ia + ib)) (fun y c st2 _ hy hI => lo_step1 L X hk hI) ?fin1 ⟨hs1, _, _, _, _, _, rfl, hM, by simp⟩) ?post1))
    case fin1 =>
      rintro c st' ⟨hs, out1, ia1, ib1, ac, bc, rfl, hr, hx⟩
      exact ⟨hs, none, out1, ia1, ib1, ac, bc, rfl, hr, by exact ar2 6 (.l (.n 1) (.v 0)) (.l (.a (.a (.v 1) (.v 2)) (.mx (.n 0) (.a (.v 0) (.v 3)))) (.a (.v 4) (.v 5))) (.l (.a (.a (.v 1) (.v 2)) (.n 1)) (.a (.v 4) (.v 5))) (by kernel_rfl) [_, _, _, _, _, _] hna hx⟩
    case post1 =>
      intro c st2 hQ
      refine cutg fun G hG => ?_
      obtain ⟨hs2, r, out1, ia1, ib1, ac, bc, rfl, hr, hc1⟩ := hQ
      cases r with
      | some r => exact hG (wpS_pure ⟨hs2, r, _, _, _, _, rfl, hr⟩)
      | none =>
        refine hG (wpS_bind (wpS_lift (wpAny_rule ⟨rfl, ?_⟩)))
        refine wpS_bind (wpS_mono (wpS_forRange (I := fun _ => LoI2 rk a b st (ia1 + ib1))
          (Q := LoQ2 rk a b st (ia1 + ib1)) (fun y c st2 _ hy hI => lo_step2 L X hk hI) ?fin2 ⟨hs2, _, _, _, _, _, _, rfl, hr, by simp⟩) ?post2)
        case fin2 =>
          rintro c st' ⟨hs, out1, ia1, ib1, mg, ac, bc, rfl, hr, hx⟩
          exact ⟨hs, none, out1, ia1, ib1, mg, ac, bc, rfl, hr, hx⟩
        case post2 =>
          intro c st3 hQ
          refine cutg fun G hG => ?_
          obtain ⟨hs3, r, out2, ia2, ib2, mg, ac, bc, rfl, hr, hc2⟩ := hQ
          cases r with
          | some r => exact hG (wpS_pure ⟨hs3, r, _, _, _, _, rfl, hr⟩)
          | none => exact hG (wpS_bind (wpS_mg hs3 fun st4 hs4 => wpS_pure ⟨hs4, _, _, _, _, rfl, hr, by show x + 1 + 1 ≤ ia2 + ib2; exact ar3 7 (.l (.a (.v 0) (.n 1)) (.a (.v 1) (.v 2))) (.l (.a (.a (.v 1) (.v 2)) (.n 1)) (.a (.v 3) (.v 4))) (.l (.a (.v 3) (.v 4)) (.a (.v 5) (.v 6))) (.l (.a (.a (.v 0) (.n 1)) (.n 1)) (.a (.v 5) (.v 6))) (by kernel_rfl) [_, _, _, _, _, _, _] hc hc1 hc2⟩))
end
end Mine
end
section
open PySem PyProof.Rows
set_option maxRecDepth 100000
namespace Mine
noncomputable def mergeHi' : Array Keyed → Array Keyed → StateT SortSt Sem (Array Keyed) := sortPriv% PySem.Builtin.mergeHi
theorem mergeHi'_eq (a b : Array Keyed) : mergeHi' a b = (do
  rule "list.sort.merge-hi"
  let total := a.size + b.size
  let done (out : Array Keyed) (na nb : Nat) := a.extract 0 na ++ b.extract 0 nb ++ out.reverse
  let firstOfB (out : Array Keyed) (na nb : Nat) := b.extract 0 nb ++ a.extract 0 na ++ out.reverse
  let mut na := a.size - 1
  let mut nb := b.size
  let mut out : Array Keyed := #[← elem' a na]
  if na == 0 then return done out na nb
  if nb == 1 then return firstOfB out na nb
  let mut minGallop := gallopOf (← get)
  for _ in [0:total] do
    let mut acount := 0
    let mut bcount := 0
    for _ in [0:total] do
      let some aWins ← lt' (← elem' b (nb - 1)) (← elem' a (na - 1)) | return done out na nb
      if aWins then
        na := na - 1; out := out.push (← elem' a na); acount := acount + 1; bcount := 0
        if na == 0 then return done out na nb
        if acount ≥ minGallop then break
      else
        nb := nb - 1; out := out.push (← elem' b nb); bcount := bcount + 1; acount := 0
        if nb == 1 then return firstOfB out na nb
        if bcount ≥ minGallop then break
    rule "list.sort.gallop"
    minGallop := minGallop + 1
    for _ in [0:total] do
      if minGallop > 1 then minGallop := minGallop - 1
      setMinGallop' minGallop
      let some at_ ← gallop' false (← elem' b (nb - 1)) a 0 na (na - 1) | return done out na nb
      let k := na - at_
      acount := k
      if k > 0 then
        out := out ++ (a.extract at_ na).reverse; na := at_
        if na == 0 then return done out na nb
      nb := nb - 1; out := out.push (← elem' b nb)
      if nb == 1 then return firstOfB out na nb
      let some at_ ← gallop' true (← elem' a (na - 1)) b 0 nb (nb - 1) | return done out na nb
      let k := nb - at_
      bcount := k
      if k > 0 then
        out := out ++ (b.extract at_ nb).reverse; nb := at_
        if nb == 1 then return firstOfB out na nb
        if nb == 0 then return done out na nb
      na := na - 1; out := out.push (← elem' a na)
      if na == 0 then return done out na nb
      if acount < 7 && bcount < 7 then break
    minGallop := minGallop + 1
    setMinGallop' minGallop
  unsupported "internal:list.sort.merge-bound") := rfl
section
variable {prog : Program} {w : World} {A : Around} {E : Value → Shared → Prop} {s : Shared}
variable {kd : SortKind} {U : Keyed → Prop} {rk : Keyed → Int} {st : SortSt} {a b : Array Keyed}
structure HI (rk : Keyed → Int) (a b out : Array Keyed) (na nb : Nat) : Prop where
  mi : MI (fun p => - rk p) a.toList.reverse b.toList.reverse out.toList (a.size - na) (b.size - nb)
  la : na ≤ a.size
  lb : nb ≤ b.size
theorem rev_drop {α : Type} (l : List α) (n : Nat) (h : n ≤ l.length) : l.reverse.drop (l.length - n) = (l.take n).reverse := by
  rw [List.drop_reverse]
  congr 2
  exact ar1 2 (.l (.v 0) (.v 1)) (.e (.s (.v 1) (.s (.v 1) (.v 0))) (.v 0)) (by kernel_rfl) [_, _] h
theorem rev_at {α : Type} (l : List α) (n : Nat) (h0 : 1 ≤ n) (h : n ≤ l.length) : l.reverse[l.length - n]? = l[n - 1]? := by
  rw [List.getElem?_reverse (by exact ar2 2 (.l (.n 1) (.v 0)) (.l (.v 0) (.v 1)) (.t (.s (.v 1) (.v 0)) (.v 1)) (by kernel_rfl) [_, _] h0 h)]
  congr 1
  exact ar1 2 (.l (.v 0) (.v 1)) (.e (.s (.s (.v 1) (.n 1)) (.s (.v 1) (.v 0))) (.s (.v 0) (.n 1))) (by kernel_rfl) [_, _] h
theorem rev_part {α : Type} (l : List α) (n at_ : Nat) (h1 : at_ ≤ n) (h : n ≤ l.length) : (l.reverse.drop (l.length - n)).take (n - at_) = ((l.take n).drop at_).reverse := by
  rw [rev_drop l n h, List.take_reverse]
  congr 1
  simp
  congr 1
  exact ar1 3 (.l (.v 0) (.v 1)) (.e (.s (.mn (.v 0) (.v 1)) (.s (.v 0) (.v 2))) (.mn (.v 2) (.mn (.v 0) (.v 1)))) (by kernel_rfl) [_, _, _] h
theorem rises_neg {l : List Keyed} (h : Rises rk l) : Rises (fun p => - rk p) l.reverse := by
  unfold Rises
  rw [List.pairwise_reverse]
  exact h.imp fun q => by dsimp only; lia
theorem hi_fin {r : List Keyed} (h : MFin (fun p => - rk p) a.toList.reverse b.toList.reverse r) : MFin rk a.toList b.toList r.reverse := by
  refine ⟨?_, ?_⟩
  · refine (List.reverse_perm r).trans (h.perm.trans ?_)
    exact (List.reverse_perm _).append (List.reverse_perm _)
  · unfold Rises
    rw [List.pairwise_reverse]
    exact h.so.imp fun q => by dsimp only at q; lia
theorem hi_done (X : Arr2 U rk a b) {out : Array Keyed} {na nb : Nat} (h : HI rk a b out na nb) (hn : na = 0) : MFin rk a.toList b.toList (a.extract 0 na ++ b.extract 0 nb ++ out.reverse).toList := by
  have f := hi_fin (h.mi.finBA (rises_neg X.sa) (rises_neg X.sb) fun x hx q hq => by
    subst hn
    rw [List.drop_of_length_le (by simp)] at hq; cases hq)
  have ea : a.toList.reverse.drop (a.size - na) = (a.toList.take na).reverse := by rw [← Array.length_toList]; exact rev_drop _ _ (by simpa using h.la)
  have eb : b.toList.reverse.drop (b.size - nb) = (b.toList.take nb).reverse := by rw [← Array.length_toList]; exact rev_drop _ _ (by simpa using h.lb)
  rw [ea, eb] at f
  simp only [List.reverse_append, List.reverse_reverse] at f
  simpa [Array.toList_append] using f
theorem hi_first (X : Arr2 U rk a b) {out : Array Keyed} {na nb : Nat} (h : HI rk a b out na nb) (hn : nb = 1) : MFin rk a.toList b.toList (b.extract 0 nb ++ a.extract 0 na ++ out.reverse).toList := by
  have ea : a.toList.reverse.drop (a.size - na) = (a.toList.take na).reverse := by rw [← Array.length_toList]; exact rev_drop _ _ (by simpa using h.la)
  have eb : b.toList.reverse.drop (b.size - nb) = (b.toList.take nb).reverse := by rw [← Array.length_toList]; exact rev_drop _ _ (by simpa using h.lb)
  have f := hi_fin (h.mi.finAB (rises_neg X.sa) (rises_neg X.sb) fun x hx q hq => by
    rw [eb, List.mem_reverse] at hq
    rw [ea, List.mem_reverse] at hx
    subst hn
    have hb := X.nb
    have : b.toList.take 1 = [b[0]] := by
      rw [List.take_one]
      simp [List.head?_eq_getElem?]
    rw [this, List.mem_singleton] at hq
    subst hq
    have := X.lo b[0] x (by rw [Array.getElem?_eq_getElem (by lia)]) (List.mem_of_mem_take hx)
    lia)
  rw [ea, eb] at f
  simp only [List.reverse_append, List.reverse_reverse] at f
  simpa [Array.toList_append] using f
theorem mem_take_at {l : List Keyed} {n : Nat} {q : Keyed} (h : q ∈ l.take n) : ∃ j, j < n ∧ l[j]? = some q := by
  obtain ⟨j, hj⟩ := List.mem_iff_getElem?.mp h
  rw [List.getElem?_take] at hj
  split at hj
  · exact ⟨j, by assumption, hj⟩
  · cases hj
theorem hi_a (X : Arr2 U rk a b) {out : Array Keyed} {na nb : Nat} (h : HI rk a b out na nb) (h0 : 1 ≤ na) (h1 : 1 ≤ nb) {x y : Keyed} (hx : b[nb - 1]? = some x) (hy : a[na - 1]? = some y) (hlt : rk x ≤ rk y) : HI rk a b (out.push y) (na - 1) nb := by
  have hla := h.la
  have hlb := h.lb
  refine ⟨?_, by exact ar1 2 (.l (.v 0) (.v 1)) (.l (.s (.v 0) (.n 1)) (.v 1)) (by kernel_rfl) [_, _] hla, by exact ar1 2 (.l (.v 0) (.v 1)) (.l (.v 0) (.v 1)) (by kernel_rfl) [_, _] hlb⟩
  rw [Array.toList_push, show a.size - (na - 1) = a.size - na + 1 by exact ar2 2 (.l (.n 1) (.v 0)) (.l (.v 0) (.v 1)) (.e (.s (.v 1) (.s (.v 0) (.n 1))) (.a (.s (.v 1) (.v 0)) (.n 1))) (by kernel_rfl) [_, _] h0 hla]
  refine h.mi.takeA (rises_neg X.sa) ?_ fun q hq => ?_
  · rw [← Array.length_toList, rev_at _ _ h0 (by simpa using h.la), Array.getElem?_toList]; exact hy
  · have eb : b.toList.reverse.drop (b.size - nb) = (b.toList.take nb).reverse := by rw [← Array.length_toList]; exact rev_drop _ _ (by simpa using h.lb)
    rw [eb, List.mem_reverse] at hq
    obtain ⟨j, hj, e⟩ := mem_take_at hq
    have := rises_at X.sb (i := j) (j := nb - 1) (by exact ar1 2 (.t (.v 0) (.v 1)) (.l (.v 0) (.s (.v 1) (.n 1))) (by kernel_rfl) [_, _] hj) e (by rw [Array.getElem?_toList]; exact hx)
    lia
theorem hi_b (X : Arr2 U rk a b) {out : Array Keyed} {na nb : Nat} (h : HI rk a b out na nb) (h0 : 1 ≤ na) (h1 : 1 ≤ nb) {x y : Keyed} (hx : b[nb - 1]? = some x) (hy : a[na - 1]? = some y) (hlt : rk y ≤ rk x) : HI rk a b (out.push x) na (nb - 1) := by
  have hla := h.la
  have hlb := h.lb
  refine ⟨?_, by exact ar1 2 (.l (.v 0) (.v 1)) (.l (.v 0) (.v 1)) (by kernel_rfl) [_, _] hla, by exact ar1 2 (.l (.v 0) (.v 1)) (.l (.s (.v 0) (.n 1)) (.v 1)) (by kernel_rfl) [_, _] hlb⟩
  rw [Array.toList_push, show b.size - (nb - 1) = b.size - nb + 1 by exact ar2 2 (.l (.n 1) (.v 0)) (.l (.v 0) (.v 1)) (.e (.s (.v 1) (.s (.v 0) (.n 1))) (.a (.s (.v 1) (.v 0)) (.n 1))) (by kernel_rfl) [_, _] h1 hlb]
  refine h.mi.takeB (rises_neg X.sb) ?_ fun q hq => ?_
  · rw [← Array.length_toList, rev_at _ _ h1 (by simpa using h.lb), Array.getElem?_toList]; exact hx
  · have ea : a.toList.reverse.drop (a.size - na) = (a.toList.take na).reverse := by rw [← Array.length_toList]; exact rev_drop _ _ (by simpa using h.la)
    rw [ea, List.mem_reverse] at hq
    obtain ⟨j, hj, e⟩ := mem_take_at hq
    have := rises_at X.sa (i := j) (j := na - 1) (by exact ar1 2 (.t (.v 0) (.v 1)) (.l (.v 0) (.s (.v 1) (.n 1))) (by kernel_rfl) [_, _] hj) e (by rw [Array.getElem?_toList]; exact hy)
    lia
theorem ext_rev (a : Array Keyed) (at_ n : Nat) : (a.extract at_ n).reverse.toList = ((a.toList.take n).drop at_).reverse := by
  rw [Array.toList_reverse, Array.toList_extract]
  simp [List.extract_eq_take_drop, List.drop_take]
theorem mem_td_at {l : List Keyed} {i n : Nat} {q : Keyed} (h : q ∈ (l.take n).drop i) : ∃ j, i ≤ j ∧ j < n ∧ l[j]? = some q := by
  obtain ⟨k, hk⟩ := List.mem_iff_getElem?.mp h
  rw [List.getElem?_drop, List.getElem?_take] at hk
  split at hk
  · exact ⟨i + k, by exact ar0 2 (.l (.v 0) (.a (.v 0) (.v 1))) (by kernel_rfl) [_, _], by assumption, hk⟩
  · cases hk
theorem hi_as (X : Arr2 U rk a b) {out : Array Keyed} {na nb at_ : Nat} (h : HI rk a b out na nb) (h1 : 1 ≤ nb) {x : Keyed} (hx : b[nb - 1]? = some x) (hk : at_ ≤ na) (hle : ∀ i, at_ ≤ i → i < na → past false (rk x) (Rk rk a (0 + i)) = false) : HI rk a b (out ++ (a.extract at_ na).reverse) at_ nb := by
  have hla := h.la
  have hlb := h.lb
  refine ⟨?_, by exact ar2 3 (.l (.v 0) (.v 1)) (.l (.v 1) (.v 2)) (.l (.v 0) (.v 2)) (by kernel_rfl) [_, _, _] hk hla, by exact ar1 2 (.l (.v 0) (.v 1)) (.l (.v 0) (.v 1)) (by kernel_rfl) [_, _] hlb⟩
  have ep : (a.toList.reverse.drop (a.size - na)).take (na - at_) = ((a.toList.take na).drop at_).reverse := by rw [← Array.length_toList]; exact rev_part _ _ _ hk (by simpa using h.la)
  rw [Array.toList_append, ext_rev, ← ep, show a.size - at_ = a.size - na + (na - at_) by exact ar2 3 (.l (.v 0) (.v 1)) (.l (.v 1) (.v 2)) (.e (.s (.v 2) (.v 0)) (.a (.s (.v 2) (.v 1)) (.s (.v 1) (.v 0)))) (by kernel_rfl) [_, _, _] hk hla]
  refine h.mi.takeAs (rises_neg X.sa) _ (by simp; exact ar1 3 (.l (.v 0) (.v 1)) (.l (.a (.s (.v 1) (.v 0)) (.s (.v 0) (.v 2))) (.v 1)) (by kernel_rfl) [_, _, _] hla) fun p hp q hq => ?_
  rw [ep, List.mem_reverse] at hp
  have eb : b.toList.reverse.drop (b.size - nb) = (b.toList.take nb).reverse := by rw [← Array.length_toList]; exact rev_drop _ _ (by simpa using h.lb)
  rw [eb, List.mem_reverse] at hq
  obtain ⟨j, hj1, hj2, e⟩ := mem_td_at hp
  obtain ⟨j2, hj3, e2⟩ := mem_take_at hq
  have h9 := hle j hj1 hj2
  rw [Nat.zero_add, rk_at e] at h9
  have := rises_at X.sb (i := j2) (j := nb - 1) (by exact ar1 2 (.t (.v 0) (.v 1)) (.l (.v 0) (.s (.v 1) (.n 1))) (by kernel_rfl) [_, _] hj3) e2 (by rw [Array.getElem?_toList]; exact hx)
  simp [past] at h9
  lia
theorem hi_bs (X : Arr2 U rk a b) {out : Array Keyed} {na nb at_ : Nat} (h : HI rk a b out na nb) (h1 : 1 ≤ na) {y : Keyed} (hy : a[na - 1]? = some y) (hk : at_ ≤ nb) (hle : ∀ i, at_ ≤ i → i < nb → past true (rk y) (Rk rk b (0 + i)) = false) : HI rk a b (out ++ (b.extract at_ nb).reverse) na at_ := by
  have hla := h.la
  have hlb := h.lb
  refine ⟨?_, by exact ar1 2 (.l (.v 0) (.v 1)) (.l (.v 0) (.v 1)) (by kernel_rfl) [_, _] hla, by exact ar2 3 (.l (.v 0) (.v 1)) (.l (.v 1) (.v 2)) (.l (.v 0) (.v 2)) (by kernel_rfl) [_, _, _] hk hlb⟩
  have ep : (b.toList.reverse.drop (b.size - nb)).take (nb - at_) = ((b.toList.take nb).drop at_).reverse := by rw [← Array.length_toList]; exact rev_part _ _ _ hk (by simpa using h.lb)
  rw [Array.toList_append, ext_rev, ← ep, show b.size - at_ = b.size - nb + (nb - at_) by exact ar2 3 (.l (.v 0) (.v 1)) (.l (.v 1) (.v 2)) (.e (.s (.v 2) (.v 0)) (.a (.s (.v 2) (.v 1)) (.s (.v 1) (.v 0)))) (by kernel_rfl) [_, _, _] hk hlb]
  refine h.mi.takeBs (rises_neg X.sb) _ (by simp; exact ar1 3 (.l (.v 0) (.v 1)) (.l (.a (.s (.v 1) (.v 0)) (.s (.v 0) (.v 2))) (.v 1)) (by kernel_rfl) [_, _, _] hlb) fun p hp q hq => ?_
  rw [ep, List.mem_reverse] at hp
  have ea : a.toList.reverse.drop (a.size - na) = (a.toList.take na).reverse := by rw [← Array.length_toList]; exact rev_drop _ _ (by simpa using h.la)
  rw [ea, List.mem_reverse] at hq
  obtain ⟨j, hj1, hj2, e⟩ := mem_td_at hp
  obtain ⟨j2, hj3, e2⟩ := mem_take_at hq
  have h9 := hle j hj1 hj2
  rw [Nat.zero_add, rk_at e] at h9
  have := rises_at X.sa (i := j2) (j := na - 1) (by exact ar1 2 (.t (.v 0) (.v 1)) (.l (.v 0) (.s (.v 1) (.n 1))) (by kernel_rfl) [_, _] hj3) e2 (by rw [Array.getElem?_toList]; exact hy)
  simp [past] at h9
  lia

noncomputable def HiAt (rk : Keyed → Int) (a b : Array Keyed) (r : Option (Array Keyed)) (out : Array Keyed) (na nb : Nat) : Prop := match r with
  | some r => MFin rk a.toList b.toList r.toList
  | none => HI rk a b out na nb ∧ 1 ≤ na ∧ 2 ≤ nb
def HiI0 (rk : Keyed → Int) (a b : Array Keyed) (st : SortSt) (x : Nat) (c : Option (Array Keyed) × Nat × Nat × Array Keyed × Nat) (st' : SortSt) : Prop := Same st st' ∧ ∃ na nb out mg, c = (none, na, nb, out, mg) ∧ HiAt rk a b none out na nb ∧ x + na + nb + 1 ≤ a.size + b.size
def HiQ0 (rk : Keyed → Int) (a b : Array Keyed) (st : SortSt) (c : Option (Array Keyed) × Nat × Nat × Array Keyed × Nat) (st' : SortSt) : Prop := Same st st' ∧ ∃ r na nb out mg, c = (some r, na, nb, out, mg) ∧ HiAt rk a b (some r) out na nb
def HiI1 (rk : Keyed → Int) (a b : Array Keyed) (st : SortSt) (m y : Nat) (c : Option (Array Keyed) × Nat × Nat × Array Keyed × Nat × Nat) (st' : SortSt) : Prop := Same st st' ∧ ∃ na1 nb1 out1 ac bc, c = (none, na1, nb1, out1, ac, bc) ∧ HiAt rk a b none out1 na1 nb1 ∧ na1 + nb1 + y ≤ m
def HiQ1 (rk : Keyed → Int) (a b : Array Keyed) (st : SortSt) (m : Nat) (c : Option (Array Keyed) × Nat × Nat × Array Keyed × Nat × Nat) (st' : SortSt) : Prop := Same st st' ∧ ∃ r na1 nb1 out1 ac bc, c = (r, na1, nb1, out1, ac, bc) ∧ HiAt rk a b r out1 na1 nb1 ∧ na1 + nb1 + 1 ≤ m
def HiI2 (rk : Keyed → Int) (a b : Array Keyed) (st : SortSt) (m : Nat) (c : Option (Array Keyed) × Nat × Nat × Array Keyed × Nat × Nat × Nat) (st' : SortSt) : Prop := Same st st' ∧ ∃ na2 nb2 out2 mg ac bc, c = (none, na2, nb2, out2, mg, ac, bc) ∧ HiAt rk a b none out2 na2 nb2 ∧ na2 + nb2 ≤ m
def HiQ2 (rk : Keyed → Int) (a b : Array Keyed) (st : SortSt) (m : Nat) (c : Option (Array Keyed) × Nat × Nat × Array Keyed × Nat × Nat × Nat) (st' : SortSt) : Prop := Same st st' ∧ ∃ r na2 nb2 out2 mg ac bc, c = (r, na2, nb2, out2, mg, ac, bc) ∧ HiAt rk a b r out2 na2 nb2 ∧ na2 + nb2 ≤ m
noncomputable def hiD (a b out : Array Keyed) (na nb : Nat) : Array Keyed := a.extract 0 na ++ b.extract 0 nb ++ out.reverse
noncomputable def hiF (a b out : Array Keyed) (na nb : Nat) : Array Keyed := b.extract 0 nb ++ a.extract 0 na ++ out.reverse
noncomputable def hiT1 (a b : Array Keyed) (mg : Nat) (na nb : Nat) (out : Array Keyed) (ac : Nat) : StateT SortSt Sem (ForInStep (Option (Array Keyed) × Nat × Nat × Array Keyed × Nat × Nat)) := do
  let x ← elem' a (na - 1)
  if (na - 1 == 0) = true then pure (.done (some (hiD a b (out.push x) (na - 1) nb), na - 1, nb, out.push x, ac + 1, 0))
  else if ac + 1 ≥ mg then pure (.done (none, na - 1, nb, out.push x, ac + 1, 0)) else pure (.yield (none, na - 1, nb, out.push x, ac + 1, 0))
noncomputable def hiF1 (a b : Array Keyed) (mg : Nat) (na nb : Nat) (out : Array Keyed) (bc : Nat) : StateT SortSt Sem (ForInStep (Option (Array Keyed) × Nat × Nat × Array Keyed × Nat × Nat)) := do
  let x ← elem' b (nb - 1)
  if (nb - 1 == 1) = true then pure (.done (some (hiF a b (out.push x) na (nb - 1)), na, nb - 1, out.push x, 0, bc + 1))
  else if bc + 1 ≥ mg then pure (.done (none, na, nb - 1, out.push x, 0, bc + 1)) else pure (.yield (none, na, nb - 1, out.push x, 0, bc + 1))
noncomputable def hiB1 (a b : Array Keyed) (mg : Nat) (na nb : Nat) (out : Array Keyed) (ac bc : Nat) : StateT SortSt Sem (ForInStep (Option (Array Keyed) × Nat × Nat × Array Keyed × Nat × Nat)) := do
  let x ← elem' b (nb - 1)
  let y ← elem' a (na - 1)
  match (← lt' x y) with
  | some w => if w = true then hiT1 a b mg na nb out ac else hiF1 a b mg na nb out bc
  | _ => pure (.done (some (hiD a b out na nb), na, nb, out, ac, bc))
theorem hiT1_ok (X : Arr2 U rk a b) {out : Array Keyed} {p : Keyed} {m y mg na nb ac : Nat} {st2 : SortSt} (hs2 : Same st st2) (hp : a[na - 1]? = some p) (m1 : HI rk a b (out.push p) (na - 1) nb) (ha1 : 1 ≤ na) (hb1 : 2 ≤ nb) (hc1 : na + nb + y ≤ m) :
    wpS (model prog w) A E s (hiT1 a b mg na nb out ac) (stepQ (HiQ1 rk a b st m) (HiI1 rk a b st m (y + 1))) st2 := by
  refine wpS_bind (wpS_el hp (wif (fun he => ?_) fun he => ?_))
  · have he : na - 1 = 0 := by simpa using he
    exact wpS_pure ⟨hs2, some _, _, _, _, _, _, rfl, hi_done X m1 he, by exact ar2 4 (.l (.n 1) (.v 0)) (.l (.a (.a (.v 0) (.v 1)) (.v 2)) (.v 3)) (.l (.a (.a (.s (.v 0) (.n 1)) (.v 1)) (.n 1)) (.v 3)) (by kernel_rfl) [_, _, _, _] ha1 hc1⟩
  · have he : ¬na - 1 = 0 := by simpa using he
    exact wif (fun _ => wpS_pure ⟨hs2, none, _, _, _, _, _, rfl, ⟨m1, by lia, by exact ar1 1 (.l (.n 2) (.v 0)) (.l (.n 2) (.v 0)) (by kernel_rfl) [_] hb1⟩, by exact ar2 4 (.l (.n 1) (.v 0)) (.l (.a (.a (.v 0) (.v 1)) (.v 2)) (.v 3)) (.l (.a (.a (.s (.v 0) (.n 1)) (.v 1)) (.n 1)) (.v 3)) (by kernel_rfl) [_, _, _, _] ha1 hc1⟩) fun _ => wpS_pure ⟨hs2, _, _, _, _, _, rfl, ⟨m1, by lia, by exact ar1 1 (.l (.n 2) (.v 0)) (.l (.n 2) (.v 0)) (by kernel_rfl) [_] hb1⟩, by exact ar2 4 (.l (.n 1) (.v 0)) (.l (.a (.a (.v 0) (.v 1)) (.v 2)) (.v 3)) (.l (.a (.a (.s (.v 0) (.n 1)) (.v 1)) (.a (.v 2) (.n 1))) (.v 3)) (by kernel_rfl) [_, _, _, _] ha1 hc1⟩
theorem hiF1_ok (X : Arr2 U rk a b) {out : Array Keyed} {p : Keyed} {m y mg na nb bc : Nat} {st2 : SortSt} (hs2 : Same st st2) (hp : b[nb - 1]? = some p) (m1 : HI rk a b (out.push p) na (nb - 1)) (ha1 : 1 ≤ na) (hb1 : 2 ≤ nb) (hc1 : na + nb + y ≤ m) :
    wpS (model prog w) A E s (hiF1 a b mg na nb out bc) (stepQ (HiQ1 rk a b st m) (HiI1 rk a b st m (y + 1))) st2 := by
  refine wpS_bind (wpS_el hp (wif (fun he => ?_) fun he => ?_))
  · have he : nb - 1 = 1 := by simpa using he
    exact wpS_pure ⟨hs2, some _, _, _, _, _, _, rfl, hi_first X m1 he, by exact ar2 4 (.l (.n 2) (.v 0)) (.l (.a (.a (.v 1) (.v 0)) (.v 2)) (.v 3)) (.l (.a (.a (.v 1) (.s (.v 0) (.n 1))) (.n 1)) (.v 3)) (by kernel_rfl) [_, _, _, _] hb1 hc1⟩
  · have he : ¬nb - 1 = 1 := by simpa using he
    exact wif (fun _ => wpS_pure ⟨hs2, none, _, _, _, _, _, rfl, ⟨m1, by exact ar1 1 (.l (.n 1) (.v 0)) (.l (.n 1) (.v 0)) (by kernel_rfl) [_] ha1, by lia⟩, by exact ar2 4 (.l (.n 2) (.v 0)) (.l (.a (.a (.v 1) (.v 0)) (.v 2)) (.v 3)) (.l (.a (.a (.v 1) (.s (.v 0) (.n 1))) (.n 1)) (.v 3)) (by kernel_rfl) [_, _, _, _] hb1 hc1⟩) fun _ => wpS_pure ⟨hs2, _, _, _, _, _, rfl, ⟨m1, by exact ar1 1 (.l (.n 1) (.v 0)) (.l (.n 1) (.v 0)) (by kernel_rfl) [_] ha1, by lia⟩, by exact ar2 4 (.l (.n 2) (.v 0)) (.l (.a (.a (.v 1) (.v 0)) (.v 2)) (.v 3)) (.l (.a (.a (.v 1) (.s (.v 0) (.n 1))) (.a (.v 2) (.n 1))) (.v 3)) (by kernel_rfl) [_, _, _, _] hb1 hc1⟩
theorem hi_step1 (L : LtOk prog w A E s kd U rk) (X : Arr2 U rk a b) (hk : kindOf st = kd) {m y mg : Nat} {c : Option (Array Keyed) × Nat × Nat × Array Keyed × Nat × Nat} {st2 : SortSt} (hI : HiI1 rk a b st m y c st2) :
    wpS (model prog w) A E s (hiB1 a b mg c.2.1 c.2.2.1 c.2.2.2.1 c.2.2.2.2.1 c.2.2.2.2.2) (stepQ (HiQ1 rk a b st m) (HiI1 rk a b st m (y + 1))) st2 := by
  refine cutg fun G hG => ?_
  obtain ⟨hs2, na1, nb1, out1, ac, bc, rfl, ⟨hM1, ha1, hb1⟩, hc1⟩ := hI
  have hla := hM1.la
  have hlb := hM1.lb
  obtain ⟨p, hp⟩ := at_some (a := b) (i := nb1 - 1) (by exact ar2 2 (.l (.n 2) (.v 0)) (.l (.v 0) (.v 1)) (.t (.s (.v 0) (.n 1)) (.v 1)) (by kernel_rfl) [_, _] hb1 hlb)
  obtain ⟨q, hq⟩ := at_some (a := a) (i := na1 - 1) (by exact ar2 2 (.l (.n 1) (.v 0)) (.l (.v 0) (.v 1)) (.t (.s (.v 0) (.n 1)) (.v 1)) (by kernel_rfl) [_, _] ha1 hla)
  refine hG (wpS_bind (wpS_el hp (wpS_bind (wpS_el hq (wpS_bind (L p q _ _ (X.mub hp) (X.mu hq) (hs2.k.trans hk) ?_))))))
  by_cases hlt : rk p < rk q
  · exact wif_t (by simpa using hlt) (hiT1_ok X hs2 hq (hi_a X hM1 ha1 (by exact ar1 1 (.l (.n 2) (.v 0)) (.l (.n 1) (.v 0)) (by kernel_rfl) [_] hb1) hp hq (Int.le_of_lt hlt)) ha1 hb1 hc1)
  · exact wif_f (by simpa using hlt) (hiF1_ok X hs2 hp (hi_b X hM1 ha1 (by exact ar1 1 (.l (.n 2) (.v 0)) (.l (.n 1) (.v 0)) (by kernel_rfl) [_] hb1) hp hq (Int.not_lt.mp hlt)) ha1 hb1 hc1)
noncomputable def hi3 (a b : Array Keyed) (mg ac bc na nb : Nat) (out : Array Keyed) : StateT SortSt Sem (ForInStep (Option (Array Keyed) × Nat × Nat × Array Keyed × Nat × Nat × Nat)) := do
  let x ← elem' a (na - 1)
  if (na - 1 == 0) = true then pure (.done (some (hiD a b (out.push x) (na - 1) nb), na - 1, nb, out.push x, mg, ac, bc))
  else if (decide (ac < 7) && decide (bc < 7)) = true then pure (.done (none, na - 1, nb, out.push x, mg, ac, bc)) else pure (.yield (none, na - 1, nb, out.push x, mg, ac, bc))
noncomputable def hi2b (a b : Array Keyed) (mg ac bc na nb : Nat) (out : Array Keyed) : StateT SortSt Sem (ForInStep (Option (Array Keyed) × Nat × Nat × Array Keyed × Nat × Nat × Nat)) := do
  let y ← elem' a (na - 1)
  match (← gallop' true y b 0 nb (nb - 1)) with
  | some k => (if nb - k > 0 then
      (if (k == 1) = true then pure (.done (some (hiF a b (out ++ (b.extract k nb).reverse) na k), na, k, out ++ (b.extract k nb).reverse, mg, ac, nb - k))
      else if (k == 0) = true then pure (.done (some (hiD a b (out ++ (b.extract k nb).reverse) na k), na, k, out ++ (b.extract k nb).reverse, mg, ac, nb - k))
      else hi3 a b mg ac (nb - k) na k (out ++ (b.extract k nb).reverse))
    else hi3 a b mg ac (nb - k) na nb out)
  | _ => pure (.done (some (hiD a b out na nb), na, nb, out, mg, ac, bc))
noncomputable def hi2 (a b : Array Keyed) (mg ac bc na nb : Nat) (out : Array Keyed) : StateT SortSt Sem (ForInStep (Option (Array Keyed) × Nat × Nat × Array Keyed × Nat × Nat × Nat)) := do
  let x ← elem' b (nb - 1)
  if (nb - 1 == 1) = true then pure (.done (some (hiF a b (out.push x) na (nb - 1)), na, nb - 1, out.push x, mg, ac, bc))
  else hi2b a b mg ac bc na (nb - 1) (out.push x)
noncomputable def hi1 (a b : Array Keyed) (mg ac bc na nb : Nat) (out : Array Keyed) : StateT SortSt Sem (ForInStep (Option (Array Keyed) × Nat × Nat × Array Keyed × Nat × Nat × Nat)) := do
  setMinGallop' mg
  let x ← elem' b (nb - 1)
  match (← gallop' false x a 0 na (na - 1)) with
  | some k => (if na - k > 0 then
      (if (k == 0) = true then pure (.done (some (hiD a b (out ++ (a.extract k na).reverse) k nb), k, nb, out ++ (a.extract k na).reverse, mg, na - k, bc))
      else hi2 a b mg (na - k) bc k nb (out ++ (a.extract k na).reverse))
    else hi2 a b mg (na - k) bc na nb out)
  | _ => pure (.done (some (hiD a b out na nb), na, nb, out, mg, ac, bc))
noncomputable def hiB2 (a b : Array Keyed) (na nb : Nat) (out : Array Keyed) (mg ac bc : Nat) : StateT SortSt Sem (ForInStep (Option (Array Keyed) × Nat × Nat × Array Keyed × Nat × Nat × Nat)) :=
  if mg > 1 then hi1 a b (mg - 1) ac bc na nb out else hi1 a b mg ac bc na nb out
theorem hi3_ok (X : Arr2 U rk a b) {out : Array Keyed} {z : Keyed} {m mg ac bc na nb : Nat} {st4 : SortSt} (hs4 : Same st st4) (hz : a[na - 1]? = some z) (m4 : HI rk a b (out.push z) (na - 1) nb) (ha : 1 ≤ na) (hb : 2 ≤ nb) (hc : na + nb ≤ m) :
    wpS (model prog w) A E s (hi3 a b mg ac bc na nb out) (stepQ (HiQ2 rk a b st m) (HiI2 rk a b st m)) st4 := by
  refine wpS_bind (wpS_el hz (wif (fun he => ?_) fun he => ?_))
  · have he : na - 1 = 0 := by simpa using he
    exact wpS_pure ⟨hs4, some _, _, _, _, _, _, _, rfl, hi_done X m4 he, by exact ar1 3 (.l (.a (.v 0) (.v 1)) (.v 2)) (.l (.a (.s (.v 0) (.n 1)) (.v 1)) (.v 2)) (by kernel_rfl) [_, _, _] hc⟩
  · have he : ¬na - 1 = 0 := by simpa using he
    exact wif (fun _ => wpS_pure ⟨hs4, none, _, _, _, _, _, _, rfl, ⟨m4, by lia, hb⟩, by exact ar1 3 (.l (.a (.v 0) (.v 1)) (.v 2)) (.l (.a (.s (.v 0) (.n 1)) (.v 1)) (.v 2)) (by kernel_rfl) [_, _, _] hc⟩) fun _ => wpS_pure ⟨hs4, _, _, _, _, _, _, rfl, ⟨m4, by lia, hb⟩, by exact ar1 3 (.l (.a (.v 0) (.v 1)) (.v 2)) (.l (.a (.s (.v 0) (.n 1)) (.v 1)) (.v 2)) (by kernel_rfl) [_, _, _] hc⟩
theorem hi2b_ok (L : LtOk prog w A E s kd U rk) (X : Arr2 U rk a b) (hk : kindOf st = kd) {out : Array Keyed} {z : Keyed} {m mg ac bc na nb : Nat} {st4 : SortSt} (hs4 : Same st st4) (hz : a[na - 1]? = some z) (m2 : HI rk a b out na nb) (ha : 1 ≤ na) (hb : 2 ≤ nb) (hc : na + nb ≤ m) :
    wpS (model prog w) A E s (hi2b a b mg ac bc na nb out) (stepQ (HiQ2 rk a b st m) (HiI2 rk a b st m)) st4 := by
  have hlb := m2.lb
  refine wpS_bind (wpS_el hz (wpS_bind (wpS_gallop L (base := 0) (n := nb) (r := fun j => Rk rk b (0 + j)) (hs4.k.trans hk) (X.mu hz) (seg_of X.ub 0 nb (by exact ar1 2 (.l (.v 0) (.v 1)) (.l (.a (.n 0) (.v 0)) (.v 1)) (by kernel_rfl) [_, _] hlb)) (seg_rises X.sb 0 nb (by exact ar1 2 (.l (.v 0) (.v 1)) (.l (.a (.n 0) (.v 0)) (.v 1)) (by kernel_rfl) [_, _] hlb)) (by exact ar1 1 (.l (.n 2) (.v 0)) (.t (.s (.v 0) (.n 1)) (.v 0)) (by kernel_rfl) [_] hb) fun k hk1 hk2 hk3 => ?_)))
  have hk'1 : 1 ≤ k := by
    rcases Nat.eq_zero_or_pos k with q | q
    · exfalso
      have := hk3 0 (by exact ar1 1 (.e (.v 0) (.n 0)) (.l (.v 0) (.n 0)) (by kernel_rfl) [_] q) (by exact ar1 1 (.l (.n 2) (.v 0)) (.t (.n 0) (.v 0)) (by kernel_rfl) [_] hb)
      obtain ⟨z0, hz0⟩ := at_some (a := b) (i := 0) (by exact ar2 2 (.l (.n 2) (.v 0)) (.l (.v 0) (.v 1)) (.t (.n 0) (.v 1)) (by kernel_rfl) [_, _] hb hlb)
      rw [Nat.zero_add, rk_at (by rw [Array.getElem?_toList]; exact hz0)] at this
      have h9 := X.lo z0 z hz0 (by rw [← Array.getElem?_toList] at hz; exact List.mem_of_getElem? hz)
      simp [past] at this
      lia
    · exact q
  have go : ∀ i o, HI rk a b o na i → i = k → 2 ≤ i → wpS (model prog w) A E s (hi3 a b mg ac (nb - k) na i o) (stepQ (HiQ2 rk a b st m) (HiI2 rk a b st m)) st4 := by
    rintro i o mo rfl hi'
    obtain ⟨y, hy⟩ := at_some (a := b) (i := i - 1) (by exact ar3 3 (.l (.v 0) (.v 1)) (.l (.v 2) (.v 0)) (.l (.n 2) (.v 2)) (.t (.s (.v 2) (.n 1)) (.v 1)) (by kernel_rfl) [_, _, _] hlb hk1 hi')
    have hyz : rk y ≤ rk z := by
      have := hk2 (i - 1) (by exact ar1 1 (.l (.n 2) (.v 0)) (.t (.s (.v 0) (.n 1)) (.v 0)) (by kernel_rfl) [_] hi')
      rw [Nat.zero_add, rk_at (by rw [Array.getElem?_toList]; exact hy)] at this
      simp [past] at this
      lia
    exact hi3_ok X hs4 hz (hi_a X mo ha (by exact ar1 1 (.l (.n 1) (.v 0)) (.l (.n 1) (.v 0)) (by kernel_rfl) [_] hk'1) hy hz hyz) ha hi' (by exact ar2 4 (.l (.a (.v 0) (.v 1)) (.v 2)) (.l (.v 3) (.v 1)) (.l (.a (.v 0) (.v 3)) (.v 2)) (by kernel_rfl) [_, _, _, _] hc hk1)
  refine wif (fun hk0 => ?_) fun hk0 => ?_
  · have m3 := hi_bs X m2 (at_ := k) ha hz hk1 hk3
    refine wif (fun he => ?_) fun he => ?_
    · have he : k = 1 := by simpa using he
      exact wpS_pure ⟨hs4, some _, _, _, _, _, _, _, rfl, hi_first X m3 he, by lia⟩
    · have he : ¬k = 1 := by simpa using he
      exact wif_f (by have : ¬ k = 0 := by exact ar1 1 (.l (.n 1) (.v 0)) (.no (.e (.v 0) (.n 0))) (by kernel_rfl) [_] hk'1
                      simpa using this) (go _ _ m3 rfl (by lia))
  · have : k = nb := by exact ar2 2 (.l (.v 0) (.v 1)) (.no (.t (.n 0) (.s (.v 1) (.v 0)))) (.e (.v 0) (.v 1)) (by kernel_rfl) [_, _] hk1 hk0
    subst this
    exact go _ _ m2 rfl hb
theorem hi2_ok (L : LtOk prog w A E s kd U rk) (X : Arr2 U rk a b) (hk : kindOf st = kd) {out : Array Keyed} {p z : Keyed} {m mg ac bc na nb : Nat} {st4 : SortSt} (hs4 : Same st st4) (hp : b[nb - 1]? = some p) (hz : a[na - 1]? = some z) (hzp : rk z ≤ rk p) (hM : HI rk a b out na nb) (ha : 1 ≤ na) (hb : 2 ≤ nb) (hc : na + nb ≤ m) :
    wpS (model prog w) A E s (hi2 a b mg ac bc na nb out) (stepQ (HiQ2 rk a b st m) (HiI2 rk a b st m)) st4 := by
  have m2 := hi_b X hM ha (by exact ar1 1 (.l (.n 2) (.v 0)) (.l (.n 1) (.v 0)) (by kernel_rfl) [_] hb) hp hz hzp
  refine wpS_bind (wpS_el hp (wif (fun he => ?_) fun he => ?_))
  · have he : nb - 1 = 1 := by simpa using he
    exact wpS_pure ⟨hs4, some _, _, _, _, _, _, _, rfl, hi_first X m2 he, by exact ar1 3 (.l (.a (.v 0) (.v 1)) (.v 2)) (.l (.a (.v 0) (.s (.v 1) (.n 1))) (.v 2)) (by kernel_rfl) [_, _, _] hc⟩
  · have he : ¬nb - 1 = 1 := by simpa using he
    exact hi2b_ok L X hk hs4 hz m2 ha (by exact ar2 1 (.l (.n 2) (.v 0)) (.no (.e (.s (.v 0) (.n 1)) (.n 1))) (.l (.n 2) (.s (.v 0) (.n 1))) (by kernel_rfl) [_] hb he) (by exact ar1 3 (.l (.a (.v 0) (.v 1)) (.v 2)) (.l (.a (.v 0) (.s (.v 1) (.n 1))) (.v 2)) (by kernel_rfl) [_, _, _] hc)
theorem hi1_ok (L : LtOk prog w A E s kd U rk) (X : Arr2 U rk a b) (hk : kindOf st = kd) {out : Array Keyed} {m mg ac bc na nb : Nat} {st3 : SortSt} (hs3 : Same st st3) (hM : HI rk a b out na nb) (ha : 1 ≤ na) (hb : 2 ≤ nb) (hc : na + nb ≤ m) :
    wpS (model prog w) A E s (hi1 a b mg ac bc na nb out) (stepQ (HiQ2 rk a b st m) (HiI2 rk a b st m)) st3 := by
  have hla := hM.la
  have hlb := hM.lb
  refine wpS_bind (wpS_mg hs3 fun st4 hs4 => ?_)
  refine cutg fun G hG => ?_
  obtain ⟨p, hp⟩ := at_some (a := b) (i := nb - 1) (by exact ar2 2 (.l (.n 2) (.v 0)) (.l (.v 0) (.v 1)) (.t (.s (.v 0) (.n 1)) (.v 1)) (by kernel_rfl) [_, _] hb hlb)
  refine hG (wpS_bind (wpS_el hp (wpS_bind (wpS_gallop L (base := 0) (n := na) (r := fun j => Rk rk a (0 + j)) (hs4.k.trans hk) (X.mub hp) (seg_of X.ua 0 na (by exact ar1 2 (.l (.v 0) (.v 1)) (.l (.a (.n 0) (.v 0)) (.v 1)) (by kernel_rfl) [_, _] hla)) (seg_rises X.sa 0 na (by exact ar1 2 (.l (.v 0) (.v 1)) (.l (.a (.n 0) (.v 0)) (.v 1)) (by kernel_rfl) [_, _] hla)) (by exact ar1 1 (.l (.n 1) (.v 0)) (.t (.s (.v 0) (.n 1)) (.v 0)) (by kernel_rfl) [_] ha) fun k hk1 hk2 hk3 => ?_))))
  have go : ∀ i o, HI rk a b o i nb → i = k → 1 ≤ i → wpS (model prog w) A E s (hi2 a b mg (na - k) bc i nb o) (stepQ (HiQ2 rk a b st m) (HiI2 rk a b st m)) st4 := by
    rintro i o mo rfl hi
    obtain ⟨z, hz⟩ := at_some (a := a) (i := i - 1) (by exact ar3 3 (.l (.v 0) (.v 1)) (.l (.v 2) (.v 0)) (.l (.n 1) (.v 2)) (.t (.s (.v 2) (.n 1)) (.v 1)) (by kernel_rfl) [_, _, _] hla hk1 hi)
    have hzp : rk z ≤ rk p := by
      have := hk2 (i - 1) (by exact ar1 1 (.l (.n 1) (.v 0)) (.t (.s (.v 0) (.n 1)) (.v 0)) (by kernel_rfl) [_] hi)
      rw [Nat.zero_add, rk_at (by rw [Array.getElem?_toList]; exact hz)] at this
      simpa [past] using this
    exact hi2_ok L X hk hs4 hp hz hzp mo hi hb (by exact ar2 4 (.l (.a (.v 0) (.v 1)) (.v 2)) (.l (.v 3) (.v 0)) (.l (.a (.v 3) (.v 1)) (.v 2)) (by kernel_rfl) [_, _, _, _] hc hk1)
  refine wif (fun hk0 => ?_) fun hk0 => ?_
  · have m1 := hi_as X hM (at_ := k) (by exact ar1 1 (.l (.n 2) (.v 0)) (.l (.n 1) (.v 0)) (by kernel_rfl) [_] hb) hp hk1 hk3
    refine wif (fun he => ?_) fun he => ?_
    · have he : k = 0 := by simpa using he
      exact wpS_pure ⟨hs4, some _, _, _, _, _, _, _, rfl, hi_done X m1 he, by lia⟩
    · have he : ¬k = 0 := by simpa using he
      exact go _ _ m1 rfl (by lia)
  · have : k = na := by exact ar2 2 (.l (.v 0) (.v 1)) (.no (.t (.n 0) (.s (.v 1) (.v 0)))) (.e (.v 0) (.v 1)) (by kernel_rfl) [_, _] hk1 hk0
    subst this
    exact go _ _ hM rfl ha
theorem hi_step2 (L : LtOk prog w A E s kd U rk) (X : Arr2 U rk a b) (hk : kindOf st = kd) {m : Nat} {c : Option (Array Keyed) × Nat × Nat × Array Keyed × Nat × Nat × Nat} {st3 : SortSt} (hI : HiI2 rk a b st m c st3) :
    wpS (model prog w) A E s (hiB2 a b c.2.1 c.2.2.1 c.2.2.2.1 c.2.2.2.2.1 c.2.2.2.2.2.1 c.2.2.2.2.2.2) (stepQ (HiQ2 rk a b st m) (HiI2 rk a b st m)) st3 := by
  refine cutg fun G hG => ?_
  obtain ⟨hs3, na2, nb2, out2, mg2, ac2, bc2, rfl, ⟨hM, ha, hb⟩, hc2⟩ := hI
  exact hG (wif (fun _ => hi1_ok L X hk hs3 hM ha hb hc2) fun _ => hi1_ok L X hk hs3 hM ha hb hc2)
theorem wpS_mergeHi (L : LtOk prog w A E s kd U rk) (X : Arr2 U rk a b) {Q : Array Keyed → SortSt → Prop} (hk : kindOf st = kd)
    (h : ∀ r st', Same st st' → MFin rk a.toList b.toList r.toList → Q r st') : wpS (model prog w) A E s (mergeHi' a b) Q st := by
  rw [mergeHi'_eq]
  refine wpS_bind (wpS_lift (wpAny_rule ⟨rfl, ?_⟩))
  refine cutg fun G hG => ?_
  have hna := X.na
  have hnb := X.nb
  obtain ⟨p0, hp0⟩ := at_some (a := a) (i := a.size - 1) (by exact ar1 1 (.l (.n 1) (.v 0)) (.t (.s (.v 0) (.n 1)) (.v 0)) (by kernel_rfl) [_] hna)
  have m0 : HI rk a b (#[p0] : Array Keyed) (a.size - 1) b.size := by
    obtain ⟨y, hy⟩ := at_some (a := b) (i := b.size - 1) (by exact ar1 1 (.l (.n 1) (.v 0)) (.t (.s (.v 0) (.n 1)) (.v 0)) (by kernel_rfl) [_] hnb)
    have h0 : HI rk a b (#[] : Array Keyed) a.size b.size := ⟨⟨by simp, List.Pairwise.nil, fun p hp => by simp at hp⟩, by exact ar0 1 (.l (.v 0) (.v 0)) (by kernel_rfl) [_], by exact ar0 1 (.l (.v 0) (.v 0)) (by kernel_rfl) [_]⟩
    exact hi_a X h0 (by exact ar1 1 (.l (.n 1) (.v 0)) (.l (.n 1) (.v 0)) (by kernel_rfl) [_] hna) (by exact ar1 1 (.l (.n 1) (.v 0)) (.l (.n 1) (.v 0)) (by kernel_rfl) [_] hnb) hy hp0 (Int.le_of_lt (X.hi p0 y hp0 (by rw [← Array.getElem?_toList] at hy; exact List.mem_of_getElem? hy)))
  refine hG (wpS_bind (wpS_el hp0 (wif (fun he => ?_) fun h1 => wif (fun he => ?_) fun h2 => ?_)))
  · have he : a.size - 1 = 0 := by simpa using he
    exact wpS_pure (h _ st (.refl st) (hi_done X m0 he))
  · have he : b.size = 1 := by simpa using he
    exact wpS_pure (h _ st (.refl st) (hi_first X m0 he))
  have h1 : ¬a.size - 1 = 0 := by simpa using h1
  have h2 : ¬b.size = 1 := by simpa using h2
  refine wpS_bind (wpS_get (wpS_bind (wpS_mono (wpS_forRange (I := HiI0 rk a b st)
    (Q := HiQ0 rk a b st) ?step ?fin ⟨.refl st, _, _, _, _, rfl, ⟨m0, by lia, by lia⟩, by exact ar1 2 (.l (.n 1) (.v 0)) (.l (.a (.a (.a (.n 0) (.s (.v 0) (.n 1))) (.v 1)) (.n 1)) (.a (.v 0) (.v 1))) (by kernel_rfl) [_, _] hna⟩) ?post)))
  case post =>
    intro c st' hQ
    refine cutg fun G hG => ?_
    obtain ⟨hs, r, na, nb, out, mg, rfl, hr⟩ := hQ
    exact hG (wpS_pure (h r st' hs hr))
  case fin =>
    rintro c st' ⟨hs, na, nb, out, mg, rfl, hr, hx⟩
    exact absurd hr.2.2 (by have := hr.2.1; exact ar1 4 (.l (.a (.a (.a (.mx (.n 0) (.a (.v 0) (.v 1))) (.v 2)) (.v 3)) (.n 1)) (.a (.v 0) (.v 1))) (.no (.l (.n 2) (.v 3))) (by kernel_rfl) [_, _, _, _] hx)
  case step =>
    intro x c st1 _ hx hI
    refine cutg fun G hG => ?_
    obtain ⟨hs1, na, nb, out, mg, rfl, hM, hc⟩ := hI
    refine hG (wpS_bind (wpS_mono (wpS_forRange (I := HiI1 rk a b st (na + nb))
      (Q := HiQ1 rk a b st (na + nb)) (fun y c st2 _ hy hI => hi_step1 L X hk hI) ?fin1 ⟨hs1, _, _, _, _, _, rfl, hM, by simp⟩) ?post1))
    case fin1 =>
      rintro c st' ⟨hs, na1, nb1, out1, ac, bc, rfl, hr, hx⟩
      exact ⟨hs, none, na1, nb1, out1, ac, bc, rfl, hr, by exact ar2 7 (.l (.a (.a (.a (.v 0) (.v 1)) (.v 2)) (.n 1)) (.a (.v 3) (.v 4))) (.l (.a (.a (.v 5) (.v 6)) (.mx (.n 0) (.a (.v 3) (.v 4)))) (.a (.v 1) (.v 2))) (.l (.a (.a (.v 5) (.v 6)) (.n 1)) (.a (.v 1) (.v 2))) (by kernel_rfl) [_, _, _, _, _, _, _] hc hx⟩
    case post1 =>
      intro c st2 hQ
      refine cutg fun G hG => ?_
      obtain ⟨hs2, r, na1, nb1, out1, ac, bc, rfl, hr, hc1⟩ := hQ
      cases r with
      | some r => exact hG (wpS_pure ⟨hs2, r, _, _, _, _, rfl, hr⟩)
      | none =>
        refine hG (wpS_bind (wpS_lift (wpAny_rule ⟨rfl, ?_⟩)))
        refine wpS_bind (wpS_mono (wpS_forRange (I := fun _ => HiI2 rk a b st (na1 + nb1))
          (Q := HiQ2 rk a b st (na1 + nb1)) (fun y c st2 _ hy hI => hi_step2 L X hk hI) ?fin2 ⟨hs2, _, _, _, _, _, _, rfl, hr, by simp⟩) ?post2)
        case fin2 =>
          rintro c st' ⟨hs, out1, ia1, ib1, mg, ac, bc, rfl, hr, hx⟩
          exact ⟨hs, none, out1, ia1, ib1, mg, ac, bc, rfl, hr, hx⟩
        case post2 =>
          intro c st3 hQ
          refine cutg fun G hG => ?_
          obtain ⟨hs3, r, na2, nb2, out2, mg, ac, bc, rfl, hr, hc2⟩ := hQ
          cases r with
          | some r => exact hG (wpS_pure ⟨hs3, r, _, _, _, _, rfl, hr⟩)
          | none => exact hG (wpS_bind (wpS_mg hs3 fun st4 hs4 => wpS_pure ⟨hs4, _, _, _, _, rfl, hr, by show x + 1 + na2 + nb2 + 1 ≤ _; exact ar3 9 (.l (.a (.a (.a (.v 0) (.v 1)) (.v 2)) (.n 1)) (.a (.v 3) (.v 4))) (.l (.a (.a (.v 5) (.v 6)) (.n 1)) (.a (.v 1) (.v 2))) (.l (.a (.v 7) (.v 8)) (.a (.v 5) (.v 6))) (.l (.a (.a (.a (.a (.v 0) (.n 1)) (.v 7)) (.v 8)) (.n 1)) (.a (.v 3) (.v 4))) (by kernel_rfl) [_, _, _, _, _, _, _, _, _] hc hc1 hc2⟩))
end
end Mine
end
section
open PySem PyProof.Rows
set_option maxRecDepth 100000
namespace Mine
section
variable {rk : Keyed → Int}
theorem soOn_iff {xs : Array Keyed} {lo n : Nat} (h : lo + n ≤ xs.size) : SoOn rk xs lo n ↔ Rises rk ((xs.toList.drop lo).take n) := by
  constructor
  · intro q
    unfold Rises
    rw [List.pairwise_iff_getElem]
    intro i j hi hj hij
    simp at hi hj
    have := q i j (by exact ar1 2 (.t (.v 0) (.v 1)) (.l (.v 0) (.v 1)) (by kernel_rfl) [_, _] hij) (by exact ar1 4 (.t (.v 0) (.mn (.v 1) (.s (.v 2) (.v 3)))) (.t (.v 0) (.v 1)) (by kernel_rfl) [_, _, _, _] hj)
    unfold Rk at this
    rw [Array.getElem?_eq_getElem (by omega), Array.getElem?_eq_getElem (by lia)] at this
    simpa using this
  · intro q i j hij hj
    have h1 : lo + i < xs.size := by exact ar3 5 (.l (.a (.v 0) (.v 1)) (.v 2)) (.l (.v 3) (.v 4)) (.t (.v 4) (.v 1)) (.t (.a (.v 0) (.v 3)) (.v 2)) (by kernel_rfl) [_, _, _, _, _] h hij hj
    have h2 : lo + j < xs.size := by exact ar2 4 (.l (.a (.v 0) (.v 1)) (.v 2)) (.t (.v 3) (.v 1)) (.t (.a (.v 0) (.v 3)) (.v 2)) (by kernel_rfl) [_, _, _, _] h hj
    have e1 : ((xs.toList.drop lo).take n)[i]? = some xs[lo + i] := by rw [List.getElem?_take, if_pos (by exact ar2 3 (.l (.v 0) (.v 1)) (.t (.v 1) (.v 2)) (.t (.v 0) (.v 2)) (by kernel_rfl) [_, _, _] hij hj), List.getElem?_drop, Array.getElem?_toList, Array.getElem?_eq_getElem h1]
    have e2 : ((xs.toList.drop lo).take n)[j]? = some xs[lo + j] := by rw [List.getElem?_take, if_pos (by exact ar1 2 (.t (.v 0) (.v 1)) (.t (.v 0) (.v 1)) (by kernel_rfl) [_, _] hj), List.getElem?_drop, Array.getElem?_toList, Array.getElem?_eq_getElem h2]
    have := rises_at q hij e1 e2
    unfold Rk
    rw [Array.getElem?_eq_getElem h1, Array.getElem?_eq_getElem h2]
    exact this
theorem write_over : ∀ (m : List Keyed) (arr : Array Keyed) (sa k : Nat), sa + k + m.length ≤ arr.size →
    ((m.zipIdx k).foldl (fun a (pj : Keyed × Nat) => a.setIfInBounds (sa + pj.2) pj.1) arr).toList = arr.toList.take (sa + k) ++ m ++ arr.toList.drop (sa + k + m.length)
  | [], arr, sa, k, h => by simp
  | p :: m, arr, sa, k, h => by
    rw [List.zipIdx_cons, List.foldl_cons]
    have h' : sa + k + (m.length + 1) ≤ arr.size := by simpa using h
    rw [write_over m _ sa (k + 1) (by simp; exact ar1 4 (.l (.a (.a (.v 0) (.v 1)) (.a (.v 2) (.n 1))) (.v 3)) (.l (.a (.a (.v 0) (.a (.v 1) (.n 1))) (.v 2)) (.v 3)) (by kernel_rfl) [_, _, _, _] h')]
    rw [Array.toList_setIfInBounds]
    have hl : sa + k < arr.toList.length := by simp; exact ar1 4 (.l (.a (.a (.v 0) (.v 1)) (.a (.v 2) (.n 1))) (.v 3)) (.t (.a (.v 0) (.v 1)) (.v 3)) (by kernel_rfl) [_, _, _, _] h'
    have e1 : (arr.toList.set (sa + k) p).take (sa + (k + 1)) = arr.toList.take (sa + k) ++ [p] := by
      rw [show sa + (k + 1) = sa + k + 1 by exact ar0 2 (.e (.a (.v 0) (.a (.v 1) (.n 1))) (.a (.a (.v 0) (.v 1)) (.n 1))) (by kernel_rfl) [_, _], List.take_add_one]
      rw [List.take_set_of_le (by exact ar0 2 (.l (.a (.v 0) (.v 1)) (.a (.v 0) (.v 1))) (by kernel_rfl) [_, _]), List.getElem?_set_self hl]
      rfl
    have e2 : (arr.toList.set (sa + k) p).drop (sa + (k + 1) + m.length) = arr.toList.drop (sa + k + (p :: m).length) := by
      rw [List.drop_set_of_lt (by exact ar0 3 (.t (.a (.v 0) (.v 1)) (.a (.a (.v 0) (.a (.v 1) (.n 1))) (.v 2))) (by kernel_rfl) [_, _, _])]
      congr 1
      simp; exact ar0 3 (.e (.a (.a (.v 0) (.a (.v 1) (.n 1))) (.v 2)) (.a (.a (.v 0) (.v 1)) (.a (.v 2) (.n 1)))) (by kernel_rfl) [_, _, _]
    rw [e1, e2]
    simp
noncomputable def Chain : Nat → List (Nat × Nat × Nat) → Nat → Prop
  | s, [], e => s = e
  | s, x :: r, e => x.1 = s ∧ 1 ≤ x.2.1 ∧ Chain (s + x.2.1) r e
theorem Chain.le : ∀ {s : Nat} {l : List (Nat × Nat × Nat)} {e : Nat}, Chain s l e → s + l.length ≤ e
  | s, [], e, h => by simp [Chain] at h; simp; exact ar1 2 (.e (.v 0) (.v 1)) (.l (.v 0) (.v 1)) (by kernel_rfl) [_, _] h
  | s, x :: r, e, h => by have := h.2.2.le; have := h.2.1; simp; lia
theorem Chain.snoc : ∀ {s : Nat} {l : List (Nat × Nat × Nat)} {e n p : Nat}, Chain s l e → 1 ≤ n → Chain s (l ++ [(e, n, p)]) (e + n)
  | s, [], e, n, p, h, hn => by cases (h : s = e); exact ⟨rfl, hn, rfl⟩
  | s, x :: r, e, n, p, h, hn => ⟨h.1, h.2.1, h.2.2.snoc hn⟩
theorem Chain.mid : ∀ {l1 : List (Nat × Nat × Nat)} {s e : Nat} {x y : Nat × Nat × Nat} {l2 : List (Nat × Nat × Nat)}, Chain s (l1 ++ x :: y :: l2) e →
    y.1 = x.1 + x.2.1 ∧ 1 ≤ x.2.1 ∧ 1 ≤ y.2.1 ∧ y.1 + y.2.1 ≤ e ∧ (∀ z ∈ l1, z.1 + z.2.1 ≤ x.1) ∧ (∀ z ∈ l2, y.1 + y.2.1 ≤ z.1 ∧ z.1 + z.2.1 ≤ e) ∧ Chain s (l1 ++ (x.1, x.2.1 + y.2.1, x.2.2) :: l2) e
  | [], s, e, x, y, l2, h => by
    obtain ⟨h1, h2, h3, h4, h5⟩ := h
    refine ⟨by exact ar2 4 (.e (.v 0) (.v 1)) (.e (.v 2) (.a (.v 1) (.v 3))) (.e (.v 2) (.a (.v 0) (.v 3))) (by kernel_rfl) [_, _, _, _] h1 h3, h2, h4, ?_, fun z hz => by simp at hz, ?_, ⟨h1, by dsimp only; exact ar1 2 (.l (.n 1) (.v 0)) (.l (.n 1) (.a (.v 0) (.v 1))) (by kernel_rfl) [_, _] h2, ?_⟩⟩
    · have := h5.le; exact ar2 6 (.e (.v 0) (.a (.v 1) (.v 2))) (.l (.a (.a (.a (.v 1) (.v 2)) (.v 3)) (.v 4)) (.v 5)) (.l (.a (.v 0) (.v 3)) (.v 5)) (by kernel_rfl) [_, _, _, _, _, _] h3 this
    · intro z hz
      have key : ∀ (l : List (Nat × Nat × Nat)) (s : Nat), Chain s l e → ∀ z ∈ l, s ≤ z.1 ∧ z.1 + z.2.1 ≤ e := by
        intro l
        induction l with
        | nil => intro s _ z hz; cases hz
        | cons a r ih =>
          intro s hc z hz
          rcases List.mem_cons.mp hz with rfl | hz
          · have := hc.2.2.le; have := hc.1; lia
          · have := ih _ hc.2.2 z hz; have := hc.1; lia
      have := key l2 _ h5 z hz
      exact ar2 7 (.e (.v 0) (.a (.v 1) (.v 2))) (.an (.l (.a (.a (.v 1) (.v 2)) (.v 3)) (.v 4)) (.l (.a (.v 4) (.v 5)) (.v 6))) (.an (.l (.a (.v 0) (.v 3)) (.v 4)) (.l (.a (.v 4) (.v 5)) (.v 6))) (by kernel_rfl) [_, _, _, _, _, _, _] h3 this
    · dsimp only
      rw [show s + (x.2.1 + y.2.1) = s + x.2.1 + y.2.1 by exact ar0 3 (.e (.a (.v 0) (.a (.v 1) (.v 2))) (.a (.a (.v 0) (.v 1)) (.v 2))) (by kernel_rfl) [_, _, _]]
      exact h5
  | a :: l1, s, e, x, y, l2, h => by
    obtain ⟨h1, h2, h3⟩ := h
    obtain ⟨q1, q2, q3, q4, q5, q6, q7⟩ := Chain.mid h3
    refine ⟨q1, q2, q3, q4, fun z hz => ?_, q6, h1, h2, q7⟩
    rcases List.mem_cons.mp hz with rfl | hz
    · have key : ∀ (l : List (Nat × Nat × Nat)) (s : Nat), Chain s (l ++ x :: y :: l2) e → s ≤ x.1 := by
        intro l
        induction l with
        | nil => intro s hc; have := hc.1; exact ar1 2 (.e (.v 0) (.v 1)) (.l (.v 1) (.v 0)) (by kernel_rfl) [_, _] this
        | cons a r ih => intro s hc; have := ih _ hc.2.2; exact ar1 3 (.l (.a (.v 0) (.v 1)) (.v 2)) (.l (.v 0) (.v 2)) (by kernel_rfl) [_, _, _] this
      have := key l1 _ h3
      exact ar2 4 (.e (.v 0) (.v 1)) (.l (.a (.v 1) (.v 2)) (.v 3)) (.l (.a (.v 0) (.v 2)) (.v 3)) (by kernel_rfl) [_, _, _, _] h1 this
    · exact q5 z hz
theorem Chain.in_ : ∀ {l : List (Nat × Nat × Nat)} {s e : Nat}, Chain s l e → ∀ z ∈ l, s ≤ z.1 ∧ z.1 + z.2.1 ≤ e ∧ 1 ≤ z.2.1
  | [], s, e, _, z, hz => by cases hz
  | a :: l, s, e, h, z, hz => by
    rcases List.mem_cons.mp hz with rfl | hz
    · have := h.2.2.le; have := h.1; have := h.2.1; lia
    · have := h.2.2.in_ z hz; have := h.1; lia
theorem Chain.power : ∀ {l : List (Nat × Nat × Nat)} {s e : Nat} (i : Nat) (pw : Nat), Chain s l e → Chain s (l.modify i fun x => (x.1, x.2.1, pw)) e
  | [], s, e, i, pw, h => by cases i <;> simpa using h
  | a :: l, s, e, 0, pw, h => ⟨h.1, h.2.1, h.2.2⟩
  | a :: l, s, e, i + 1, pw, h => ⟨h.1, h.2.1, h.2.2.power i pw⟩
theorem merge_plain {pre S1 X Y Z post M l l' : List Keyed} (hl : l = pre ++ (S1 ++ (X ++ (Y ++ (Z ++ post))))) (hl' : l' = pre ++ (S1 ++ (M ++ (Z ++ post)))) (hM : M.Perm (X ++ Y)) (sM : Rises rk M)
    (s1 : Rises rk (S1 ++ X)) (s2 : Rises rk (Y ++ Z)) (h1 : ∀ p ∈ S1, ∀ q ∈ Y, rk p ≤ rk q) (h2 : ∀ p ∈ X, ∀ q ∈ Z, rk p ≤ rk q) (h3 : ∀ p ∈ S1, ∀ q ∈ Z, rk p ≤ rk q) :
    l'.Perm l ∧ Rises rk (S1 ++ (M ++ Z)) := by
  obtain ⟨a1, a2, a3⟩ := List.pairwise_append.mp s1
  obtain ⟨b1, b2, b3⟩ := List.pairwise_append.mp s2
  refine ⟨?_, ?_⟩
  · rw [hl, hl']
    refine List.Perm.append_left _ (List.Perm.append_left _ ?_)
    rw [← List.append_assoc X]
    exact List.Perm.append_right _ hM
  · refine List.pairwise_append.mpr ⟨a1, List.pairwise_append.mpr ⟨sM, b2, fun p hp q hq => ?_⟩, fun p hp q hq => ?_⟩
    · rcases List.mem_append.mp (hM.mem_iff.mp hp) with hp | hp
      · exact h2 p hp q hq
      · exact b3 p hp q hq
    · rcases List.mem_append.mp hq with hq | hq
      · rcases List.mem_append.mp (hM.mem_iff.mp hq) with hq | hq
        · exact a3 p hp q hq
        · exact h1 p hp q hq
      · exact h3 p hp q hq
end
theorem mergeAt'_eq (i : Nat) : mergeAt' i = (do
  let s ← get
  let (some (sa, na, power), some (sb, nb, _)) := ((pendingOf s)[i]?, (pendingOf s)[i + 1]?) | unsupported "internal:list.sort.pending"
  set (setPending s (((pendingOf s).setIfInBounds i (sa, na + nb, power)).eraseIdxIfInBounds (i + 1)))
  let some k ← gallop' false (← elem' (arrOf s) sb) (arrOf s) sa na 0 | return false
  let (sa, na) := (sa + k, na - k)
  if na == 0 then return true
  let some nb ← gallop' true (← elem' (arrOf s) (sa + na - 1)) (arrOf s) sb nb (nb - 1) | return false
  if nb == 0 then return true
  let x := (arrOf s).extract sa sb
  let y := (arrOf s).extract sb (sb + nb)
  let merged ← if na ≤ nb then mergeLo' x y else mergeHi' x y
  modify fun s => setArr s (merged.toList.zipIdx.foldl (fun a (p, j) => a.setIfInBounds (sa + j) p) (arrOf s))
  return (failedOf (← get)).isNone) := rfl
end Mine
end
section
open PySem PyProof.Rows
set_option maxHeartbeats 0
set_option maxRecDepth 100000
namespace Mine
section
variable {prog : Program} {w : World} {A : Around} {E : Value → Shared → Prop} {s : Shared}
variable {kd : SortKind} {U : Keyed → Prop} {rk : Keyed → Int} {st : SortSt}
theorem wpS_set {σ : Type} {x : σ} {M : Model} {Q : PUnit → σ → Prop} {st : σ} (h : Q ⟨⟩ x) : wpS M A E s (set x : StateT σ Sem PUnit) Q st := by
  unfold wpS; rw [StateT.run_set]; exact wpAny_pure ⟨rfl, h⟩
theorem part_mem {l : List Keyed} {i n : Nat} {p : Keyed} (h : p ∈ (l.drop i).take n) : p ∈ l := List.mem_of_mem_drop (List.mem_of_mem_take h)
theorem cut {α : Type} (l : List α) (i n : Nat) : l.drop i = (l.drop i).take n ++ l.drop (i + n) := by rw [← List.drop_drop, List.take_append_drop]
theorem split_at {α : Type} (l : List α) (i : Nat) {k n : Nat} (h : k ≤ n) : (l.drop i).take n = (l.drop i).take k ++ (l.drop (i + k)).take (n - k) := by
  have := List.take_add (l := l.drop i) (i := k) (j := n - k)
  rwa [show k + (n - k) = n by exact ar1 2 (.l (.v 0) (.v 1)) (.e (.a (.v 0) (.s (.v 1) (.v 0))) (.v 1)) (by kernel_rfl) [_, _] h, List.drop_drop] at this
theorem Rk_some {xs : Array Keyed} {i : Nat} {p : Keyed} (h : xs[i]? = some p) : Rk rk xs i = rk p := by unfold Rk; rw [h]
theorem wpS_mergeAt (L : LtOk prog w A E s kd U rk) {i : Nat} {l1 l2 : List (Nat × Nat × Nat)} {x y : Nat × Nat × Nat} {Q : Bool → SortSt → Prop} (hp : (pendingOf st).toList = l1 ++ x :: y :: l2) (hi : l1.length = i)
    (hyx : y.1 = x.1 + x.2.1) (hx1 : 1 ≤ x.2.1) (hy1 : 1 ≤ y.2.1) (hsz : y.1 + y.2.1 ≤ (arrOf st).size) (sx : SoOn rk (arrOf st) x.1 x.2.1) (sy : SoOn rk (arrOf st) y.1 y.2.1)
    (hU : ∀ p ∈ (arrOf st).toList, U p) (hk : kindOf st = kd) (hf : failedOf st = none)
    (h : ∀ st', (arrOf st').Perm (arrOf st) → (∀ j, j < x.1 ∨ y.1 + y.2.1 ≤ j → (arrOf st')[j]? = (arrOf st)[j]?) → SoOn rk (arrOf st') x.1 (x.2.1 + y.2.1) → kindOf st' = kd → failedOf st' = none →
      (pendingOf st').toList = l1 ++ (x.1, x.2.1 + y.2.1, x.2.2) :: l2 → Q true st') : wpS (model prog w) A E s (mergeAt' i) Q st := by
  obtain ⟨sa, na, pw⟩ := x
  obtain ⟨sb, nb, pq⟩ := y
  dsimp only at *
  have e1 : (pendingOf st)[i]? = some (sa, na, pw) := by rw [← Array.getElem?_toList, hp, ← hi]; simp
  have e2 : (pendingOf st)[i + 1]? = some (sb, nb, pq) := by rw [← Array.getElem?_toList, hp, ← hi]; simp
  have e3 : (((pendingOf st).setIfInBounds i (sa, na + nb, pw)).eraseIdxIfInBounds (i + 1)).toList = l1 ++ (sa, na + nb, pw) :: l2 := by
    rw [Array.eraseIdxIfInBounds_eq]
    have hlt : i + 1 < ((pendingOf st).setIfInBounds i (sa, na + nb, pw)).size := by
      have := congrArg List.length hp
      simp at this ⊢
      exact ar2 4 (.e (.v 0) (.v 1)) (.e (.v 2) (.a (.v 0) (.a (.a (.v 3) (.n 1)) (.n 1)))) (.t (.a (.v 1) (.n 1)) (.v 2)) (by kernel_rfl) [_, _, _, _] hi this
    rw [dif_pos hlt, Array.toList_eraseIdx, Array.toList_setIfInBounds, hp, ← hi]
    have : ((l1 ++ (sa, na, pw) :: (sb, nb, pq) :: l2).set l1.length (sa, na + nb, pw)) = l1 ++ (sa, na + nb, pw) :: (sb, nb, pq) :: l2 := by simp
    rw [this, List.eraseIdx_append_of_length_le (by exact ar0 1 (.l (.v 0) (.a (.v 0) (.n 1))) (by kernel_rfl) [_])]
    simp
  rw [mergeAt'_eq]
  refine wpS_bind (wpS_get ?_)
  rw [e1, e2]
  dsimp only
  refine wpS_bind (wpS_set ?_)
  generalize hst1 : setPending st (((pendingOf st).setIfInBounds i (sa, na + nb, pw)).eraseIdxIfInBounds (i + 1)) = st1
  have a1 : arrOf st1 = arrOf st := by rw [← hst1]
  have k1 : kindOf st1 = kd := by rw [← hst1]; exact hk
  have f1 : failedOf st1 = none := by rw [← hst1]; exact hf
  have p1 : (pendingOf st1).toList = l1 ++ (sa, na + nb, pw) :: l2 := by rw [← hst1]; exact e3
  clear hst1 e3 e2 e1
  have mu : ∀ {i p}, (arrOf st)[i]? = some p → U p := fun {i p} e => hU p (by rw [← Array.getElem?_toList] at e; exact List.mem_of_getElem? e)
  obtain ⟨pb, hpb⟩ := at_some (a := arrOf st) (i := sb) (by exact ar2 3 (.l (.n 1) (.v 0)) (.l (.a (.v 1) (.v 0)) (.v 2)) (.t (.v 1) (.v 2)) (by kernel_rfl) [_, _, _] hy1 hsz)
  refine wpS_bind (wpS_el hpb (wpS_bind (wpS_gallop L (base := sa) (n := na) (r := fun j => Rk rk (arrOf st) (sa + j)) k1 (mu hpb) (seg_of hU sa na (by exact ar2 5 (.l (.a (.v 0) (.v 1)) (.v 2)) (.e (.v 0) (.a (.v 3) (.v 4))) (.l (.a (.v 3) (.v 4)) (.v 2)) (by kernel_rfl) [_, _, _, _, _] hsz hyx)) sx (by exact ar1 1 (.l (.n 1) (.v 0)) (.t (.n 0) (.v 0)) (by kernel_rfl) [_] hx1) fun k hk1 hk2 hk3 => ?_)))
  dsimp only
  have low : ∀ j, j < k → Rk rk (arrOf st) (sa + j) ≤ rk pb := fun j hj => by have := hk2 j hj; simpa [past] using this
  have up : ∀ j, k ≤ j → j < na → rk pb < Rk rk (arrOf st) (sa + j) := fun j hj hj2 => by have := hk3 j hj hj2; simpa [past] using this
  have rb0 : Rk rk (arrOf st) sb = rk pb := Rk_some hpb
  by_cases hz : na - k = 0
  · first | refine wif_t (by simpa using hz) ?_ | rw [if_pos (by simpa using hz)]
    refine wpS_pure (h st1 (by rw [a1]) (fun j _ => by rw [a1]) ?_ k1 f1 p1)
    rw [a1]
    intro u v huv hv
    by_cases hv' : v < na
    · exact sx u v huv hv'
    · have q2 := sy (v - na)
      rcases Nat.lt_or_ge u na with hu | hu
      · have q1 := low u (by exact ar2 3 (.e (.s (.v 0) (.v 1)) (.n 0)) (.t (.v 2) (.v 0)) (.t (.v 2) (.v 1)) (by kernel_rfl) [_, _, _] hz hu)
        have q3 := sy 0 (v - na) (by exact ar0 2 (.l (.n 0) (.s (.v 0) (.v 1))) (by kernel_rfl) [_, _]) (by exact ar2 3 (.l (.n 1) (.v 0)) (.t (.v 1) (.a (.v 2) (.v 0))) (.t (.s (.v 1) (.v 2)) (.v 0)) (by kernel_rfl) [_, _, _] hy1 hv)
        rw [Nat.add_zero, rb0, show sb + (v - na) = sa + v by exact ar2 4 (.e (.v 0) (.a (.v 1) (.v 2))) (.no (.t (.v 3) (.v 2))) (.e (.a (.v 0) (.s (.v 3) (.v 2))) (.a (.v 1) (.v 3))) (by kernel_rfl) [_, _, _, _] hyx hv'] at q3
        lia
      · have q3 := sy (u - na) (v - na) (by exact ar1 3 (.l (.v 0) (.v 1)) (.l (.s (.v 0) (.v 2)) (.s (.v 1) (.v 2))) (by kernel_rfl) [_, _, _] huv) (by exact ar2 3 (.l (.n 1) (.v 0)) (.t (.v 1) (.a (.v 2) (.v 0))) (.t (.s (.v 1) (.v 2)) (.v 0)) (by kernel_rfl) [_, _, _] hy1 hv)
        rwa [show sb + (u - na) = sa + u by exact ar2 4 (.e (.v 0) (.a (.v 1) (.v 2))) (.l (.v 2) (.v 3)) (.e (.a (.v 0) (.s (.v 3) (.v 2))) (.a (.v 1) (.v 3))) (by kernel_rfl) [_, _, _, _] hyx hu, show sb + (v - na) = sa + v by exact ar2 4 (.e (.v 0) (.a (.v 1) (.v 2))) (.no (.t (.v 3) (.v 2))) (.e (.a (.v 0) (.s (.v 3) (.v 2))) (.a (.v 1) (.v 3))) (by kernel_rfl) [_, _, _, _] hyx hv'] at q3
  first | refine wif_f (by simpa using hz) ?_ | rw [if_neg (by simpa using hz)]
  obtain ⟨pa, hpa⟩ := at_some (a := arrOf st) (i := sa + k + (na - k) - 1) (by exact ar3 6 (.l (.a (.v 0) (.v 1)) (.v 2)) (.e (.v 0) (.a (.v 3) (.v 4))) (.no (.e (.s (.v 4) (.v 5)) (.n 0))) (.t (.s (.a (.a (.v 3) (.v 5)) (.s (.v 4) (.v 5))) (.n 1)) (.v 2)) (by kernel_rfl) [_, _, _, _, _, _] hsz hyx hz)
  have ra : Rk rk (arrOf st) (sa + (na - 1)) = rk pa := by rw [show sa + (na - 1) = sa + k + (na - k) - 1 by exact ar1 3 (.no (.e (.s (.v 0) (.v 1)) (.n 0))) (.e (.a (.v 2) (.s (.v 0) (.n 1))) (.s (.a (.a (.v 2) (.v 1)) (.s (.v 0) (.v 1))) (.n 1))) (by kernel_rfl) [_, _, _] hz]; exact Rk_some hpa
  refine wpS_bind (wpS_el hpa (wpS_bind (wpS_gallop L (base := sb) (n := nb) (r := fun j => Rk rk (arrOf st) (sb + j)) k1 (mu hpa) (seg_of hU sb nb (by exact ar1 3 (.l (.a (.v 0) (.v 1)) (.v 2)) (.l (.a (.v 0) (.v 1)) (.v 2)) (by kernel_rfl) [_, _, _] hsz)) sy (by exact ar1 1 (.l (.n 1) (.v 0)) (.t (.s (.v 0) (.n 1)) (.v 0)) (by kernel_rfl) [_] hy1) fun k' hk1' hk2' hk3' => ?_)))
  dsimp only
  have low' : ∀ j, j < k' → Rk rk (arrOf st) (sb + j) < rk pa := fun j hj => by have := hk2' j hj; simpa [past] using this
  have up' : ∀ j, k' ≤ j → j < nb → rk pa ≤ Rk rk (arrOf st) (sb + j) := fun j hj hj2 => by have := hk3' j hj hj2; simpa [past] using this
  by_cases hz' : k' = 0
  · first | refine wif_t (by simpa using hz') ?_ | rw [if_pos (by simpa using hz')]
    refine wpS_pure (h st1 (by rw [a1]) (fun j _ => by rw [a1]) ?_ k1 f1 p1)
    rw [a1]
    intro u v huv hv
    by_cases hv' : v < na
    · exact sx u v huv hv'
    · rcases Nat.lt_or_ge u na with hu | hu
      · have q1 := sx u (na - 1) (by exact ar1 2 (.t (.v 0) (.v 1)) (.l (.v 0) (.s (.v 1) (.n 1))) (by kernel_rfl) [_, _] hu) (by exact ar1 1 (.l (.n 1) (.v 0)) (.t (.s (.v 0) (.n 1)) (.v 0)) (by kernel_rfl) [_] hx1)
        have q3 := up' (v - na) (by exact ar1 3 (.e (.v 0) (.n 0)) (.l (.v 0) (.s (.v 1) (.v 2))) (by kernel_rfl) [_, _, _] hz') (by exact ar2 3 (.l (.n 1) (.v 0)) (.t (.v 1) (.a (.v 2) (.v 0))) (.t (.s (.v 1) (.v 2)) (.v 0)) (by kernel_rfl) [_, _, _] hy1 hv)
        rw [show sb + (v - na) = sa + v by exact ar2 4 (.e (.v 0) (.a (.v 1) (.v 2))) (.no (.t (.v 3) (.v 2))) (.e (.a (.v 0) (.s (.v 3) (.v 2))) (.a (.v 1) (.v 3))) (by kernel_rfl) [_, _, _, _] hyx hv'] at q3
        lia
      · have q3 := sy (u - na) (v - na) (by exact ar1 3 (.l (.v 0) (.v 1)) (.l (.s (.v 0) (.v 2)) (.s (.v 1) (.v 2))) (by kernel_rfl) [_, _, _] huv) (by exact ar2 3 (.l (.n 1) (.v 0)) (.t (.v 1) (.a (.v 2) (.v 0))) (.t (.s (.v 1) (.v 2)) (.v 0)) (by kernel_rfl) [_, _, _] hy1 hv)
        rwa [show sb + (u - na) = sa + u by exact ar2 4 (.e (.v 0) (.a (.v 1) (.v 2))) (.l (.v 2) (.v 3)) (.e (.a (.v 0) (.s (.v 3) (.v 2))) (.a (.v 1) (.v 3))) (by kernel_rfl) [_, _, _, _] hyx hu, show sb + (v - na) = sa + v by exact ar2 4 (.e (.v 0) (.a (.v 1) (.v 2))) (.no (.t (.v 3) (.v 2))) (.e (.a (.v 0) (.s (.v 3) (.v 2))) (.a (.v 1) (.v 3))) (by kernel_rfl) [_, _, _, _] hyx hv'] at q3
  first | refine wif_f (by simpa using hz') ?_ | rw [if_neg (by simpa using hz')]
  -- the two arrays
  have hS : (arrOf st).toList.length = (arrOf st).size := Array.length_toList
  have ex : ((arrOf st).extract (sa + k) sb).toList = ((arrOf st).toList.drop (sa + k)).take (na - k) := by
    have := ext_some (arrOf st) (sa + k) (na - k)
    rwa [show sa + k + (na - k) = sb by exact ar2 4 (.e (.v 0) (.a (.v 1) (.v 2))) (.no (.e (.s (.v 2) (.v 3)) (.n 0))) (.e (.a (.a (.v 1) (.v 3)) (.s (.v 2) (.v 3))) (.v 0)) (by kernel_rfl) [_, _, _, _] hyx hz] at this
  have ey : ((arrOf st).extract sb (sb + k')).toList = ((arrOf st).toList.drop sb).take k' := ext_some (arrOf st) sb k'
  have rX : Rises rk (((arrOf st).toList.drop sa).take na) := (soOn_iff (by exact ar2 5 (.l (.a (.v 0) (.v 1)) (.v 2)) (.e (.v 0) (.a (.v 3) (.v 4))) (.l (.a (.v 3) (.v 4)) (.v 2)) (by kernel_rfl) [_, _, _, _, _] hsz hyx)).mp sx
  have rY : Rises rk (((arrOf st).toList.drop sb).take nb) := (soOn_iff (by exact ar1 3 (.l (.a (.v 0) (.v 1)) (.v 2)) (.l (.a (.v 0) (.v 1)) (.v 2)) (by kernel_rfl) [_, _, _] hsz)).mp sy
  have c1 : ((arrOf st).toList.drop sa).take na = ((arrOf st).toList.drop sa).take k ++ ((arrOf st).toList.drop (sa + k)).take (na - k) := by
    exact split_at _ _ hk1
  have c2 : ((arrOf st).toList.drop sb).take nb = ((arrOf st).toList.drop sb).take k' ++ ((arrOf st).toList.drop (sb + k')).take (nb - k') := by
    exact split_at _ _ hk1'
  rw [c1] at rX
  rw [c2] at rY
  obtain ⟨rS1, rXX, rS1X⟩ := List.pairwise_append.mp rX
  obtain ⟨rYY, rZ, rYZ⟩ := List.pairwise_append.mp rY
  have mX : ∀ {q}, q ∈ ((arrOf st).toList.drop (sa + k)).take (na - k) → rk pb < rk q ∧ rk q ≤ rk pa := fun {q} hq => by
    obtain ⟨j, hj, e⟩ := mem_part_at hq
    have q1 := up (k + j) (by exact ar0 2 (.l (.v 0) (.a (.v 0) (.v 1))) (by kernel_rfl) [_, _]) (by exact ar1 3 (.t (.v 0) (.s (.v 1) (.v 2))) (.t (.a (.v 2) (.v 0)) (.v 1)) (by kernel_rfl) [_, _, _] hj)
    have q2 := sx (k + j) (na - 1) (by exact ar1 3 (.t (.v 0) (.s (.v 1) (.v 2))) (.l (.a (.v 2) (.v 0)) (.s (.v 1) (.n 1))) (by kernel_rfl) [_, _, _] hj) (by exact ar1 1 (.l (.n 1) (.v 0)) (.t (.s (.v 0) (.n 1)) (.v 0)) (by kernel_rfl) [_] hx1)
    rw [← Nat.add_assoc, rk_at e] at q1
    rw [ra, ← Nat.add_assoc, rk_at e] at q2
    exact ⟨q1, q2⟩
  have mY : ∀ {q}, q ∈ ((arrOf st).toList.drop sb).take k' → rk pb ≤ rk q ∧ rk q < rk pa := fun {q} hq => by
    obtain ⟨j, hj, e⟩ := mem_part_at hq
    have q1 := low' j hj
    have q2 := sy 0 j (by exact ar0 1 (.l (.n 0) (.v 0)) (by kernel_rfl) [_]) (by exact ar2 3 (.l (.v 0) (.v 1)) (.t (.v 2) (.v 0)) (.t (.v 2) (.v 1)) (by kernel_rfl) [_, _, _] hk1' hj)
    rw [Nat.add_zero, rb0] at q2
    rw [rk_at e] at q1 q2
    exact ⟨q2, q1⟩
  have mS : ∀ {q}, q ∈ ((arrOf st).toList.drop sa).take k → rk q ≤ rk pb := fun {q} hq => by
    obtain ⟨j, hj, e⟩ := mem_part_at hq
    have q1 := low j hj
    rwa [rk_at e] at q1
  have mZ : ∀ {q}, q ∈ ((arrOf st).toList.drop (sb + k')).take (nb - k') → rk pa ≤ rk q := fun {q} hq => by
    obtain ⟨j, hj, e⟩ := mem_part_at hq
    have q1 := up' (k' + j) (by exact ar0 2 (.l (.v 0) (.a (.v 0) (.v 1))) (by kernel_rfl) [_, _]) (by exact ar1 3 (.t (.v 0) (.s (.v 1) (.v 2))) (.t (.a (.v 2) (.v 0)) (.v 1)) (by kernel_rfl) [_, _, _] hj)
    rwa [← Nat.add_assoc, rk_at e] at q1
  have hba : rk pb < rk pa := by have := up (na - 1) (by exact ar1 2 (.no (.e (.s (.v 0) (.v 1)) (.n 0))) (.l (.v 1) (.s (.v 0) (.n 1))) (by kernel_rfl) [_, _] hz) (by exact ar1 1 (.l (.n 1) (.v 0)) (.t (.s (.v 0) (.n 1)) (.v 0)) (by kernel_rfl) [_] hx1); rwa [ra] at this
  have X2 : Arr2 U rk ((arrOf st).extract (sa + k) sb) ((arrOf st).extract sb (sb + k')) := by
    refine ⟨fun p hp => hU p (part_mem (ex ▸ hp)), fun p hp => hU p (part_mem (ey ▸ hp)), by rw [ex]; exact rXX, by rw [ey]; exact rYY, by simp; exact ar3 6 (.l (.a (.v 0) (.v 1)) (.v 2)) (.e (.v 0) (.a (.v 3) (.v 4))) (.no (.e (.s (.v 4) (.v 5)) (.n 0))) (.l (.n 1) (.s (.mn (.v 0) (.v 2)) (.a (.v 3) (.v 5)))) (by kernel_rfl) [_, _, _, _, _, _] hsz hyx hz, by simp; exact ar3 4 (.l (.n 1) (.v 0)) (.l (.a (.v 1) (.v 0)) (.v 2)) (.no (.e (.v 3) (.n 0))) (.l (.n 1) (.s (.mn (.a (.v 1) (.v 3)) (.v 2)) (.v 1))) (by kernel_rfl) [_, _, _, _] hy1 hsz hz', fun p q hp hq => ?_, fun p q hp hq => ?_⟩
    · rw [← Array.getElem?_toList, ey, List.getElem?_take, if_pos (by exact ar1 1 (.no (.e (.v 0) (.n 0))) (.t (.n 0) (.v 0)) (by kernel_rfl) [_] hz'), List.getElem?_drop, Nat.add_zero, Array.getElem?_toList, hpb] at hp
      cases hp
      exact (mX (ex ▸ hq)).1
    · rw [← Array.getElem?_toList, ex, show ((arrOf st).extract (sa + k) sb).size = na - k by simp; exact ar2 6 (.l (.a (.v 0) (.v 1)) (.v 2)) (.e (.v 0) (.a (.v 3) (.v 4))) (.e (.s (.mn (.v 0) (.v 2)) (.a (.v 3) (.v 5))) (.s (.v 4) (.v 5))) (by kernel_rfl) [_, _, _, _, _, _] hsz hyx, List.getElem?_take, if_pos (by exact ar1 2 (.no (.e (.s (.v 0) (.v 1)) (.n 0))) (.t (.s (.s (.v 0) (.v 1)) (.n 1)) (.s (.v 0) (.v 1))) (by kernel_rfl) [_, _] hz), List.getElem?_drop, Array.getElem?_toList, show sa + k + (na - k - 1) = sa + k + (na - k) - 1 by exact ar1 3 (.no (.e (.s (.v 0) (.v 1)) (.n 0))) (.e (.a (.a (.v 2) (.v 1)) (.s (.s (.v 0) (.v 1)) (.n 1))) (.s (.a (.a (.v 2) (.v 1)) (.s (.v 0) (.v 1))) (.n 1))) (by kernel_rfl) [_, _, _] hz, hpa] at hp
      cases hp
      exact (mY (ey ▸ hq)).2
  have fin : ∀ (r : Array Keyed) (st' : SortSt), Same st1 st' → MFin rk ((arrOf st).extract (sa + k) sb).toList ((arrOf st).extract sb (sb + k')).toList r.toList →
      wpS (model prog w) A E s (do
        modify fun s => setArr s (r.toList.zipIdx.foldl (fun a (pj : Keyed × Nat) => a.setIfInBounds (sa + k + pj.2) pj.1) (arrOf s))
        let __do_lift ← get
        pure (failedOf __do_lift).isNone) Q st' := by
    intro r st' hs hr
    refine wpS_bind (wpS_modify (wpS_bind (wpS_get ?_)))
    have hf' : failedOf (setArr st' (r.toList.zipIdx.foldl (fun a (pj : Keyed × Nat) => a.setIfInBounds (sa + k + pj.2) pj.1) (arrOf st'))) = none := hs.f.trans f1
    rw [hf']
    have hlen : r.toList.length = (na - k) + k' := by
      have := hr.perm.length_eq
      rw [this, ex, ey]
      simp
      exact ar3 7 (.l (.a (.v 0) (.v 1)) (.v 2)) (.e (.v 0) (.a (.v 3) (.v 4))) (.l (.v 5) (.v 1)) (.e (.a (.mn (.s (.v 4) (.v 6)) (.s (.v 2) (.a (.v 3) (.v 6)))) (.mn (.v 5) (.s (.v 2) (.v 0)))) (.a (.s (.v 4) (.v 6)) (.v 5))) (by kernel_rfl) [_, _, _, _, _, _, _] hsz hyx hk1'
    have hw := write_over r.toList (arrOf st') (sa + k) 0 (by rw [hs.a, a1]; exact ar5 8 (.l (.a (.v 0) (.v 1)) (.v 2)) (.e (.v 0) (.a (.v 3) (.v 4))) (.no (.e (.s (.v 4) (.v 5)) (.n 0))) (.l (.v 6) (.v 1)) (.e (.v 7) (.a (.s (.v 4) (.v 5)) (.v 6))) (.l (.a (.a (.a (.v 3) (.v 5)) (.n 0)) (.v 7)) (.v 2)) (by kernel_rfl) [_, _, _, _, _, _, _, _] hsz hyx hz hk1' hlen)
    rw [hs.a, a1] at hw
    rw [ex, ey] at hr
    have d1 : (arrOf st).toList = (arrOf st).toList.take sa ++ (((arrOf st).toList.drop sa).take k ++ (((arrOf st).toList.drop (sa + k)).take (na - k) ++ (((arrOf st).toList.drop sb).take k' ++ (((arrOf st).toList.drop (sb + k')).take (nb - k') ++ (arrOf st).toList.drop (sb + nb))))) := by
      have z1 := cut (arrOf st).toList (sb + k') (nb - k')
      rw [show sb + k' + (nb - k') = sb + nb by exact ar1 3 (.l (.v 0) (.v 1)) (.e (.a (.a (.v 2) (.v 0)) (.s (.v 1) (.v 0))) (.a (.v 2) (.v 1))) (by kernel_rfl) [_, _, _] hk1'] at z1
      have z3 := cut (arrOf st).toList (sa + k) (na - k)
      rw [show sa + k + (na - k) = sb by exact ar2 4 (.e (.v 0) (.a (.v 1) (.v 2))) (.no (.e (.s (.v 2) (.v 3)) (.n 0))) (.e (.a (.a (.v 1) (.v 3)) (.s (.v 2) (.v 3))) (.v 0)) (by kernel_rfl) [_, _, _, _] hyx hz] at z3
      rw [← z1, ← cut, ← z3, ← cut, List.take_append_drop]
    have d2 : (r.toList.zipIdx.foldl (fun a (pj : Keyed × Nat) => a.setIfInBounds (sa + k + pj.2) pj.1) (arrOf st)).toList = (arrOf st).toList.take sa ++ (((arrOf st).toList.drop sa).take k ++ (r.toList ++ (((arrOf st).toList.drop (sb + k')).take (nb - k') ++ (arrOf st).toList.drop (sb + nb)))) := by
      rw [hw, hlen]
      have z1 := cut (arrOf st).toList (sb + k') (nb - k')
      rw [show sb + k' + (nb - k') = sb + nb by exact ar1 3 (.l (.v 0) (.v 1)) (.e (.a (.a (.v 2) (.v 0)) (.s (.v 1) (.v 0))) (.a (.v 2) (.v 1))) (by kernel_rfl) [_, _, _] hk1'] at z1
      rw [← z1, show sa + k + 0 + (na - k + k') = sb + k' by exact ar2 5 (.e (.v 0) (.a (.v 1) (.v 2))) (.no (.e (.s (.v 2) (.v 3)) (.n 0))) (.e (.a (.a (.a (.v 1) (.v 3)) (.n 0)) (.a (.s (.v 2) (.v 3)) (.v 4))) (.a (.v 0) (.v 4))) (by kernel_rfl) [_, _, _, _, _] hyx hz, Nat.add_zero]
      have z2 : (arrOf st).toList.take (sa + k) = (arrOf st).toList.take sa ++ ((arrOf st).toList.drop sa).take k := by
        rw [List.take_add]
      rw [z2]
      simp only [List.append_assoc]
    obtain ⟨g1, g2⟩ := merge_plain d1 d2 hr.perm hr.so rX rY (fun p hp q hq => Int.le_trans (mS hp) (mY hq).1) (fun p hp q hq => Int.le_trans (mX hp).2 (mZ hq)) (fun p hp q hq => Int.le_trans (mS hp) (Int.le_trans (Int.le_of_lt hba) (mZ hq)))
    have hsz2 : (r.toList.zipIdx.foldl (fun a (pj : Keyed × Nat) => a.setIfInBounds (sa + k + pj.2) pj.1) (arrOf st)).size = (arrOf st).size := by
      rw [← Array.length_toList, g1.length_eq]; simp
    rw [hs.a, a1] at hf' ⊢
    refine wpS_pure (h _ (Array.perm_iff_toList_perm.mpr g1) (fun j hj => ?_) ?_ (hs.k.trans k1) hf' ?_)
    · show (r.toList.zipIdx.foldl (fun a (pj : Keyed × Nat) => a.setIfInBounds (sa + k + pj.2) pj.1) (arrOf st))[j]? = _
      rw [← Array.getElem?_toList, ← Array.getElem?_toList, hw]
      rcases hj with hj | hj
      · rw [List.append_assoc, List.getElem?_append_left (by simp; exact ar3 7 (.l (.a (.v 0) (.v 1)) (.v 2)) (.e (.v 0) (.a (.v 3) (.v 4))) (.t (.v 5) (.v 3)) (.t (.v 5) (.mn (.a (.v 3) (.v 6)) (.v 2))) (by kernel_rfl) [_, _, _, _, _, _, _] hsz hyx hj), List.getElem?_take, if_pos (by exact ar1 3 (.t (.v 0) (.v 1)) (.t (.v 0) (.a (.a (.v 1) (.v 2)) (.n 0))) (by kernel_rfl) [_, _, _] hj)]
      · rw [List.getElem?_append_right (by simp [hlen]; exact ar4 8 (.e (.v 0) (.a (.v 1) (.v 2))) (.no (.e (.s (.v 2) (.v 3)) (.n 0))) (.l (.v 4) (.v 5)) (.l (.a (.v 0) (.v 5)) (.v 6)) (.l (.a (.mn (.a (.v 1) (.v 3)) (.v 7)) (.a (.s (.v 2) (.v 3)) (.v 4))) (.v 6)) (by kernel_rfl) [_, _, _, _, _, _, _, _] hyx hz hk1' hj), List.getElem?_drop]
        congr 1
        simp [hlen]
        exact ar5 8 (.l (.a (.v 0) (.v 1)) (.v 2)) (.e (.v 0) (.a (.v 3) (.v 4))) (.no (.e (.s (.v 4) (.v 5)) (.n 0))) (.l (.v 6) (.v 1)) (.l (.a (.v 0) (.v 1)) (.v 7)) (.e (.a (.a (.a (.v 3) (.v 5)) (.a (.s (.v 4) (.v 5)) (.v 6))) (.s (.v 7) (.a (.mn (.a (.v 3) (.v 5)) (.v 2)) (.a (.s (.v 4) (.v 5)) (.v 6))))) (.v 7)) (by kernel_rfl) [_, _, _, _, _, _, _, _] hsz hyx hz hk1' hj
    · refine (soOn_iff (by show sa + (na + nb) ≤ (r.toList.zipIdx.foldl (fun a (pj : Keyed × Nat) => a.setIfInBounds (sa + k + pj.2) pj.1) (arrOf st)).size; exact ar3 6 (.l (.a (.v 0) (.v 1)) (.v 2)) (.e (.v 0) (.a (.v 3) (.v 4))) (.e (.v 5) (.v 2)) (.l (.a (.v 3) (.a (.v 4) (.v 1))) (.v 5)) (by kernel_rfl) [_, _, _, _, _, _] hsz hyx hsz2)).mpr ?_
      show Rises rk (((r.toList.zipIdx.foldl (fun a (pj : Keyed × Nat) => a.setIfInBounds (sa + k + pj.2) pj.1) (arrOf st)).toList.drop sa).take (na + nb))
      rw [d2, List.drop_left' (by simp; exact ar2 5 (.l (.a (.v 0) (.v 1)) (.v 2)) (.e (.v 0) (.a (.v 3) (.v 4))) (.e (.mn (.v 3) (.v 2)) (.v 3)) (by kernel_rfl) [_, _, _, _, _] hsz hyx)]
      rw [← List.append_assoc r.toList, ← List.append_assoc (((arrOf st).toList.drop sa).take k), List.take_left' (by simp [hlen]; exact ar4 7 (.l (.a (.v 0) (.v 1)) (.v 2)) (.e (.v 0) (.a (.v 3) (.v 4))) (.no (.e (.s (.v 4) (.v 5)) (.n 0))) (.l (.v 6) (.v 1)) (.e (.a (.mn (.v 5) (.s (.v 2) (.v 3))) (.a (.a (.s (.v 4) (.v 5)) (.v 6)) (.mn (.s (.v 1) (.v 6)) (.s (.v 2) (.a (.v 0) (.v 6)))))) (.a (.v 4) (.v 1))) (by kernel_rfl) [_, _, _, _, _, _, _] hsz hyx hz hk1')]
      exact g2
    · exact hs.p ▸ p1
  have hsplit : sa + k + (na - k) = sb := by exact ar2 4 (.e (.v 0) (.a (.v 1) (.v 2))) (.no (.e (.s (.v 2) (.v 3)) (.n 0))) (.e (.a (.a (.v 1) (.v 3)) (.s (.v 2) (.v 3))) (.v 0)) (by kernel_rfl) [_, _, _, _] hyx hz
  by_cases hle : na - k ≤ k'
  · first | refine wif_t hle ?_ | rw [if_pos hle]
    exact wpS_bind (wpS_mergeLo L X2 k1 fun r st' hs hr => fin r st' hs hr)
  · first | refine wif_f hle ?_ | rw [if_neg hle]
    exact wpS_bind (wpS_mergeHi L X2 k1 fun r st' hs hr => fin r st' hs hr)
end
end Mine
end
section
open PySem PyProof.Rows
set_option maxRecDepth 100000
namespace Mine
section
variable {prog : Program} {w : World} {A : Around} {E : Value → Shared → Prop} {s : Shared}
variable {kd : SortKind} {U : Keyed → Prop} {rk : Keyed → Int} {st : SortSt} {a₀ : Array Keyed}
structure RJ (kd : SortKind) (rk : Keyed → Int) (a₀ : Array Keyed) (lo : Nat) (st : SortSt) : Prop where
  perm : (arrOf st).Perm a₀
  kind : kindOf st = kd
  failed : failedOf st = none
  chain : Chain 0 (pendingOf st).toList lo
  so : ∀ z ∈ (pendingOf st).toList, SoOn rk (arrOf st) z.1 z.2.1
theorem soOn_same {xs ys : Array Keyed} {lo n : Nat} (h : ∀ j, lo ≤ j → j < lo + n → ys[j]? = xs[j]?) (q : SoOn rk xs lo n) : SoOn rk ys lo n := fun i j hij hj => by
  rw [Rk_congr (rk := rk) (h (lo + i) (by exact ar0 2 (.l (.v 0) (.a (.v 0) (.v 1))) (by kernel_rfl) [_, _]) (by exact ar2 4 (.l (.v 0) (.v 1)) (.t (.v 1) (.v 2)) (.t (.a (.v 3) (.v 0)) (.a (.v 3) (.v 2))) (by kernel_rfl) [_, _, _, _] hij hj)), Rk_congr (rk := rk) (h (lo + j) (by exact ar0 2 (.l (.v 0) (.a (.v 0) (.v 1))) (by kernel_rfl) [_, _]) (by exact ar1 3 (.t (.v 0) (.v 1)) (.t (.a (.v 2) (.v 0)) (.a (.v 2) (.v 1))) (by kernel_rfl) [_, _, _] hj))]
  exact q i j hij hj
theorem wpS_mergeJ (L : LtOk prog w A E s kd U rk) {i lo : Nat} {Q : Bool → SortSt → Prop} (hU : ∀ p ∈ a₀.toList, U p) (J : RJ kd rk a₀ lo st) (hlo : lo ≤ a₀.size) (hi : i + 1 < (pendingOf st).size)
    (h : ∀ st', RJ kd rk a₀ lo st' → (∀ j, lo ≤ j → (arrOf st')[j]? = (arrOf st)[j]?) → (pendingOf st').size + 1 = (pendingOf st).size → Q true st') : wpS (model prog w) A E s (mergeAt' i) Q st := by
  have hsz : (arrOf st).size = a₀.size := J.perm.size_eq
  have hl : i + 1 < (pendingOf st).toList.length := by simpa using hi
  have e : (pendingOf st).toList = (pendingOf st).toList.take i ++ (pendingOf st).toList[i] :: (pendingOf st).toList[i + 1] :: (pendingOf st).toList.drop (i + 1 + 1) := by
    rw [← List.drop_eq_getElem_cons hl, ← List.drop_eq_getElem_cons (by exact ar1 2 (.t (.a (.v 0) (.n 1)) (.v 1)) (.t (.v 0) (.v 1)) (by kernel_rfl) [_, _] hl), List.take_append_drop]
  generalize hx : (pendingOf st).toList[i] = x at e
  generalize hy : (pendingOf st).toList[i + 1] = y at e
  generalize h1 : (pendingOf st).toList.take i = l1 at e
  generalize h2 : (pendingOf st).toList.drop (i + 1 + 1) = l2 at e
  have hc := J.chain
  rw [e] at hc
  obtain ⟨c1, c2, c3, c4, c5, c6, c7⟩ := hc.mid
  have so := J.so
  rw [e] at so
  refine wpS_mergeAt L e (by rw [← h1]; simp; exact ar1 2 (.t (.a (.v 0) (.n 1)) (.v 1)) (.e (.mn (.v 0) (.v 1)) (.v 0)) (by kernel_rfl) [_, _] hi) c1 c2 c3 (by exact ar3 5 (.l (.v 0) (.v 1)) (.e (.v 2) (.v 1)) (.l (.a (.v 3) (.v 4)) (.v 0)) (.l (.a (.v 3) (.v 4)) (.v 2)) (by kernel_rfl) [_, _, _, _, _] hlo hsz c4) (so x (by simp)) (so y (by simp)) (fun p hp => hU p ((Array.perm_iff_toList_perm.mp J.perm).mem_iff.mp hp)) J.kind J.failed fun st' p1 p2 p3 p4 p5 p6 => ?_
  refine h st' ⟨p1.trans J.perm, p4, p5, by rw [p6]; exact c7, fun z hz => ?_⟩ (fun j hj => p2 j (.inr (by exact ar2 4 (.l (.a (.v 0) (.v 1)) (.v 2)) (.l (.v 2) (.v 3)) (.l (.a (.v 0) (.v 1)) (.v 3)) (by kernel_rfl) [_, _, _, _] c4 hj))) ?_
  · rw [p6] at hz
    rcases List.mem_append.mp hz with hz | hz
    · have := c5 z hz
      exact soOn_same (fun j _ hj => p2 j (.inl (by exact ar2 4 (.l (.a (.v 0) (.v 1)) (.v 2)) (.t (.v 3) (.a (.v 0) (.v 1))) (.t (.v 3) (.v 2)) (by kernel_rfl) [_, _, _, _] this hj))) (so z (by simp [hz]))
    · rcases List.mem_cons.mp hz with rfl | hz
      · exact p3
      · have := c6 z hz
        exact soOn_same (fun j hj _ => p2 j (.inr (by exact ar2 6 (.an (.l (.a (.v 0) (.v 1)) (.v 2)) (.l (.a (.v 2) (.v 3)) (.v 4))) (.l (.v 2) (.v 5)) (.l (.a (.v 0) (.v 1)) (.v 5)) (by kernel_rfl) [_, _, _, _, _, _] this hj))) (so z (by simp [hz]))
  · have q1 := congrArg List.length p6
    have q2 := congrArg List.length e
    simp at q1 q2
    exact ar2 4 (.e (.v 0) (.a (.v 1) (.a (.v 2) (.n 1)))) (.e (.v 3) (.a (.v 1) (.a (.a (.v 2) (.n 1)) (.n 1)))) (.e (.a (.v 0) (.n 1)) (.v 3)) (by kernel_rfl) [_, _, _, _] q1 q2
theorem wpS_runs (L : LtOk prog w A E s kd U rk) {Q : Unit → SortSt → Prop} (hU : ∀ p ∈ a₀.toList, U p) (hp : (arrOf st).Perm a₀) (hk : kindOf st = kd) (hf : failedOf st = none) (hpd : pendingOf st = #[]) (h1 : 1 ≤ a₀.size)
    (h : ∀ st', (arrOf st').Perm a₀ → failedOf st' = none → SoOn rk (arrOf st') 0 a₀.size → Q () st') : wpS (model prog w) A E s sortRuns' Q st := by
  rw [sortRuns'_eq]
  refine wpS_bind (wpS_get ?_)
  have hsz : (arrOf st).size = a₀.size := hp.size_eq
  (try dsimp -zeta only)
  rw [hsz]
  refine wpS_bind (wpS_mono (wpS_forRange
    (I := fun x c st' => ∃ lo, c = (none, lo) ∧ RJ kd rk a₀ lo st' ∧ x ≤ lo ∧ lo ≤ a₀.size)
    (Q := fun c st' => c = (none, a₀.size) ∧ RJ kd rk a₀ a₀.size st') ?step ?fin ⟨0, rfl, ⟨hp, hk, hf, by rw [hpd]; rfl, fun z hz => by rw [hpd] at hz; simp at hz⟩, by exact ar0 0 (.l (.n 0) (.n 0)) (by kernel_rfl) [], by exact ar0 1 (.l (.n 0) (.v 0)) (by kernel_rfl) [_]⟩) ?post)
  case fin =>
    rintro c st' ⟨lo, rfl, J, hx, hlo⟩
    have : lo = a₀.size := by exact ar2 2 (.l (.mx (.n 0) (.v 0)) (.v 1)) (.l (.v 1) (.v 0)) (.e (.v 1) (.v 0)) (by kernel_rfl) [_, _] hx hlo
    subst this
    exact ⟨rfl, J⟩
  case step =>
    rintro x c st' _ hx ⟨lo, rfl, J, hxl, hlo⟩
    have hsz' : (arrOf st').size = a₀.size := J.perm.size_eq
    by_cases hge : lo ≥ a₀.size
    · first | refine wif_t hge ?_ | rw [if_pos hge]
      have : lo = a₀.size := by exact ar2 2 (.l (.v 0) (.v 1)) (.l (.v 1) (.v 0)) (.e (.v 0) (.v 1)) (by kernel_rfl) [_, _] hlo hge
      subst this
      exact wpS_pure ⟨rfl, J⟩
    first | refine wif_f hge ?_ | rw [if_neg hge]
    have hU' : ∀ p, p ∈ (arrOf st').toList → U p := fun p hp => hU p ((Array.perm_iff_toList_perm.mp J.perm).mem_iff.mp hp)
    refine wpS_bind (wpS_count L (a₀ := arrOf st') (lo := lo) (nrem := a₀.size - lo) (pd := pendingOf st') (by exact ar2 3 (.e (.v 0) (.v 1)) (.no (.l (.v 1) (.v 2))) (.l (.a (.v 2) (.s (.v 1) (.v 2))) (.v 0)) (by kernel_rfl) [_, _, _] hsz' hge) (by exact ar1 2 (.no (.l (.v 0) (.v 1))) (.l (.n 1) (.s (.v 0) (.v 1))) (by kernel_rfl) [_, _] hge) ⟨.refl _, fun _ _ => rfl, J.kind, J.failed, rfl, hU'⟩ fun m st2 B2 hm1 hm2 so2 => ?_)
    (try dsimp -zeta only)
    extract_lets n0 jp force n1
    -- behind the run's end
    have hjp : ∀ n st3, SB kd U (arrOf st') lo (pendingOf st') st3 → 1 ≤ n → lo + n ≤ a₀.size → SoOn rk (arrOf st3) lo n → wpS (model prog w) A E s (jp () n)
        (stepQ (fun c st' => c = (none, a₀.size) ∧ RJ kd rk a₀ a₀.size st') (fun c st' => ∃ lo, c = (none, lo) ∧ RJ kd rk a₀ lo st' ∧ x + 1 ≤ lo ∧ lo ≤ a₀.size)) st3 := by
      intro n st3 B3 hn1 hn2 so3
      have J3 : RJ kd rk a₀ lo st3 := by
        refine ⟨B3.perm.trans J.perm, B3.kind, B3.failed, by rw [B3.pend]; exact J.chain, fun z hz => ?_⟩
        rw [B3.pend] at hz
        have := J.chain.in_ z hz
        exact soOn_same (fun j _ hj => B3.pre j (by exact ar2 4 (.an (.l (.n 0) (.v 0)) (.an (.l (.a (.v 0) (.v 1)) (.v 2)) (.l (.n 1) (.v 1)))) (.t (.v 3) (.a (.v 0) (.v 1))) (.t (.v 3) (.v 2)) (by kernel_rfl) [_, _, _, _] this hj)) (J.so z hz)
      clear B3 so2 B2
      refine wpS_bind (wpS_get ?_)
      have fin3 : ∀ st4, RJ kd rk a₀ lo st4 → SoOn rk (arrOf st4) lo n → wpS (model prog w) A E s (do
          modify fun s => setPending s ((pendingOf s).push (lo, n, 0))
          pure (ForInStep.yield ((none, lo + n) : Option Unit × Nat)))
          (stepQ (fun c st' => c = (none, a₀.size) ∧ RJ kd rk a₀ a₀.size st') (fun c st' => ∃ lo, c = (none, lo) ∧ RJ kd rk a₀ lo st' ∧ x + 1 ≤ lo ∧ lo ≤ a₀.size)) st4 := by
        intro st4 J4 so4
        refine wpS_bind (wpS_modify (wpS_pure ⟨lo + n, rfl, ⟨J4.perm, J4.kind, J4.failed, ?_, fun z hz => ?_⟩, by exact ar2 3 (.l (.v 0) (.v 1)) (.l (.n 1) (.v 2)) (.l (.a (.v 0) (.n 1)) (.a (.v 1) (.v 2))) (by kernel_rfl) [_, _, _] hxl hn1, hn2⟩))
        · show Chain 0 ((pendingOf st4).push (lo, n, 0)).toList (lo + n)
          rw [Array.toList_push]
          exact J4.chain.snoc hn1
        · have hz' : z ∈ ((pendingOf st4).push (lo, n, 0)).toList := hz
          rw [Array.toList_push] at hz'
          rcases List.mem_append.mp hz' with hz' | hz'
          · exact J4.so z hz'
          · rw [List.mem_singleton] at hz'
            subst hz'
            exact so4
      cases hb : (pendingOf st3).back? with
      | none => exact fin3 st3 J3 so3
      | some last =>
        obtain ⟨s1, n1', p1⟩ := last
        (try dsimp -zeta only)
        refine wpS_bind (wpS_mono (wpS_forRange (I := fun y c st4 => c = (none, ()) ∧ RJ kd rk a₀ lo st4 ∧ SoOn rk (arrOf st4) lo n)
          (Q := fun c st4 => c = (none, ()) ∧ RJ kd rk a₀ lo st4 ∧ SoOn rk (arrOf st4) lo n) ?mstep (fun c st' hh => hh) ⟨rfl, J3, so3⟩) ?mpost)
        case mpost =>
          rintro c st4 ⟨rfl, J4, so4⟩
          (try dsimp -zeta only)
          refine wpS_bind (wpS_modify ?_)
          refine fin3 _ ⟨J4.perm, J4.kind, J4.failed, ?_, fun z hz => ?_⟩ so4
          · show Chain 0 ((pendingOf st4).modify _ _).toList lo
            rw [Array.toList_modify]
            exact J4.chain.power _ _
          · have hz' : z ∈ ((pendingOf st4).modify ((pendingOf st4).size - 1) fun x => (x.1, x.2.1, power' a₀.size (2 * s1 + n1') (2 * s1 + n1' + n1' + n) a₀.size)).toList := hz
            rw [Array.toList_modify] at hz'
            obtain ⟨j, hj⟩ := List.mem_iff_getElem?.mp hz'
            rw [List.getElem?_modify] at hj
            cases hq : (pendingOf st4).toList[j]? with
            | none => rw [hq] at hj; cases hj
            | some z0 =>
              rw [hq] at hj
              have s0 := J4.so z0 (List.mem_of_getElem? hq)
              simp only [Option.map_eq_map, Option.map_some, Option.some.injEq] at hj
              subst hj
              split
              · exact s0
              · exact s0
        case mstep =>
          rintro y c st4 _ hy ⟨rfl, J4, so4⟩
          refine wpS_bind (wpS_get ?_)
          (try dsimp only)
          by_cases hgt : (pendingOf st4).size > 1
          · first | refine wif_t hgt ?_ | rw [if_pos hgt]
            obtain ⟨⟨q1, q2, q3⟩, hq⟩ : ∃ z, (pendingOf st4)[(pendingOf st4).size - 2]? = some z := ⟨_, Array.getElem?_eq_getElem (by exact ar1 1 (.t (.n 1) (.v 0)) (.t (.s (.v 0) (.n 2)) (.v 0)) (by kernel_rfl) [_] hgt)⟩
            rw [hq]
            (try dsimp only)
            split
            · exact wpS_pure ⟨rfl, J4, so4⟩
            · refine wpS_bind (wpS_mergeJ L hU J4 hlo (by exact ar1 1 (.t (.n 1) (.v 0)) (.t (.a (.s (.v 0) (.n 2)) (.n 1)) (.v 0)) (by kernel_rfl) [_] hgt) fun st5 J5 h5 _ => ?_)
              exact wpS_pure ⟨rfl, J5, soOn_same (fun j hj _ => h5 j hj) so4⟩
          · first | refine wif_f hgt ?_ | rw [if_neg hgt]
            exact wpS_pure ⟨rfl, J4, so4⟩
    by_cases hlt : m < minRun' a₀.size a₀.size 0
    · first | refine wif_t hlt ?_ | rw [if_pos hlt]
      refine wpS_bind (wpS_lift (wpAny_rule ⟨rfl, ?_⟩))
      refine wpS_bind (wpS_bin L (by rw [hsz']; show lo + min (a₀.size - lo) (minRun' a₀.size a₀.size 0) ≤ _; exact ar2 4 (.l (.n 1) (.v 0)) (.l (.v 0) (.s (.v 1) (.v 2))) (.l (.a (.v 2) (.mn (.s (.v 1) (.v 2)) (.v 3))) (.v 1)) (by kernel_rfl) [_, _, _, _] hm1 hm2) (by show m ≤ min (a₀.size - lo) (minRun' a₀.size a₀.size 0); exact ar2 4 (.l (.v 0) (.s (.v 1) (.v 2))) (.t (.v 0) (.v 3)) (.l (.v 0) (.mn (.s (.v 1) (.v 2)) (.v 3))) (by kernel_rfl) [_, _, _, _] hm2 hlt) B2 so2 fun st3 B3 so3 => ?_)
      exact hjp _ _ B3 (by show 1 ≤ min (a₀.size - lo) (minRun' a₀.size a₀.size 0); exact ar3 4 (.l (.n 1) (.v 0)) (.l (.v 0) (.s (.v 1) (.v 2))) (.t (.v 0) (.v 3)) (.l (.n 1) (.mn (.s (.v 1) (.v 2)) (.v 3))) (by kernel_rfl) [_, _, _, _] hm1 hm2 hlt) (by show lo + min (a₀.size - lo) (minRun' a₀.size a₀.size 0) ≤ _; exact ar2 4 (.l (.n 1) (.v 0)) (.l (.v 0) (.s (.v 1) (.v 2))) (.l (.a (.v 2) (.mn (.s (.v 1) (.v 2)) (.v 3))) (.v 1)) (by kernel_rfl) [_, _, _, _] hm1 hm2) so3
    · first | refine wif_f hlt ?_ | rw [if_neg hlt]
      exact hjp _ _ B2 hm1 (by exact ar2 3 (.l (.n 1) (.v 0)) (.l (.v 0) (.s (.v 1) (.v 2))) (.l (.a (.v 2) (.v 0)) (.v 1)) (by kernel_rfl) [_, _, _] hm1 hm2) so2
  case post =>
    rintro c st' ⟨rfl, J⟩
    (try dsimp only)
    refine wpS_bind (wpS_mono (wpS_forRange (I := fun x c st4 => c = (none, ()) ∧ RJ kd rk a₀ a₀.size st4 ∧ (pendingOf st4).size ≤ max 1 (a₀.size - x))
      (Q := fun c st4 => c = (none, ()) ∧ RJ kd rk a₀ a₀.size st4 ∧ (pendingOf st4).size ≤ 1) ?fstep ?ffin ⟨rfl, J, by have := J.chain.le; simp at this; exact ar1 2 (.l (.v 0) (.v 1)) (.l (.v 0) (.mx (.n 1) (.s (.v 1) (.n 0)))) (by kernel_rfl) [_, _] this⟩) ?fpost)
    case ffin =>
      rintro c st4 ⟨rfl, J4, hs4⟩
      exact ⟨rfl, J4, by exact ar1 2 (.l (.v 0) (.mx (.n 1) (.s (.v 1) (.mx (.n 0) (.v 1))))) (.l (.v 0) (.n 1)) (by kernel_rfl) [_, _] hs4⟩
    case fpost =>
      rintro c st4 ⟨rfl, J4, hs4⟩
      refine wpS_pure (h st4 J4.perm J4.failed ?_)
      have hc := J4.chain
      have so := J4.so
      have hl : (pendingOf st4).toList.length ≤ 1 := by simpa using hs4
      match hq : (pendingOf st4).toList, hc, so, hl with
      | [], hc, _, _ =>
        have q0 : (0 : Nat) = a₀.size := hc
        exfalso; exact ar2 1 (.l (.n 1) (.v 0)) (.e (.n 0) (.v 0)) .f (by kernel_rfl) [_] h1 q0
      | [z], hc, so, _ =>
        have q1 := hc.1
        have q2 : 0 + z.2.1 = a₀.size := hc.2.2
        have := so z (by simp)
        rw [q1] at this
        rwa [show z.2.1 = a₀.size by exact ar1 2 (.e (.a (.n 0) (.v 0)) (.v 1)) (.e (.v 0) (.v 1)) (by kernel_rfl) [_, _] q2] at this
      | _ :: _ :: _, _, _, hl => simp at hl
    case fstep =>
      rintro x c st4 _ hx ⟨rfl, J4, hs4⟩
      refine wpS_bind (wpS_get ?_)
      (try dsimp only)
      by_cases hle : (pendingOf st4).size ≤ 1
      · first | refine wif_t hle ?_ | rw [if_pos hle]
        exact wpS_pure ⟨rfl, J4, hle⟩
      first | refine wif_f hle ?_ | rw [if_neg hle]
      refine wpS_bind (wpS_mergeJ L hU J4 (Nat.le_refl _) ?_ fun st5 J5 h5 h6 => ?_)
      · refine Nat.lt_of_le_of_lt (Nat.succ_le_succ (m := (pendingOf st4).size - 2) ?_) (by omega)
        split <;> split <;> lia
      · exact wpS_pure ⟨rfl, J5, by exact ar2 4 (.l (.v 0) (.mx (.n 1) (.s (.v 1) (.v 2)))) (.e (.a (.v 3) (.n 1)) (.v 0)) (.l (.v 3) (.mx (.n 1) (.s (.v 1) (.a (.v 2) (.n 1))))) (by kernel_rfl) [_, _, _, _] hs4 h6⟩
end
end Mine
end
section
open PySem PySem.W PyProof.Rows PySem.Calls
set_option maxRecDepth 100000
namespace Mine
section
variable {prog : Program} {w : World} {A : Around} {E : Value → Shared → Prop} {s : Shared}
noncomputable def isInt1 (p : Keyed) : Prop := ∃ n t, p.1 = .int n t
theorem ltOk_int : LtOk prog w A E s oneType' isInt1 (fun p => numOf p.1) := fun p q st Q hp hq hk h => by
  obtain ⟨p1, p2⟩ := p
  obtain ⟨q1, q2⟩ := q
  obtain ⟨a, t, hp⟩ := hp
  obtain ⟨b, u, hq⟩ := hq
  dsimp only at hp hq
  subst hp hq
  rw [lt'_eq]
  refine wpS_bind (wpS_get ?_)
  rw [hk, keyLt'_oneType]
  exact wpS_bind (wpS_lift (wpAny_attempt (oneLt_int ⟨rfl, wpS_pure h⟩)))
theorem soOn_sorted {xs : Array Keyed} {n : Nat} (h : SoOn (fun p => numOf p.1) xs 0 n) : SortedTo xs n := fun i j hij hj => by
  have := h i j hij hj
  rw [Nat.zero_add, Nat.zero_add] at this
  exact this
theorem sort_ints {a : Addr} {vs : List Value} {ns : List Int} {n : Nat} {P : Fin → Shared → Prop} (ho : s.heap.get? a = some (seqObj "list" vs.toArray n))
    (hI : IntsAre vs ns) (hz : vs.length ≤ 1000000)
    (h : ∀ (out : Array Value) (ns' : List Int), IntsAre out.toList ns' → ns'.Perm ns → ns'.Pairwise (· ≤ ·) → P (.done (.ret .none)) { s with heap := sortedHeap s.heap a vs out }) :
    wpAny (model prog w) A (Builtin.«list.sort» ⟨[.ref a], []⟩) P E s := by
  rw [list_sort_plain]
  have ha : a < s.heap.objs.size := Heap.lt_size ho
  have hsl : sizeLine = 16777216 := rfl
  refine wpAny_bind (listItems_at ho rfl (wpAny_bind (listUpdate_at ho rfl ?_ (by simp; exact ar2 2 (.l (.v 0) (.n 1000000)) (.e (.v 1) (.n 16777216)) (.l (.v 0) (.v 1)) (by kernel_rfl) [_, _] hz hsl) (by simp))))
  obtain ⟨e1, ho1⟩ : ∃ e1, (s.heap.update a (Obj.mapSeq fun _ => #[])).get? a = some (seqObj "list" #[] e1) := ⟨_, get?_update_seq ho (fun _ => #[])⟩
  refine wpAny_bind (seqEpoch_at ho1 rfl (wpAny_bind (wpAny_newTuple (wpAny_bind (wpAny_newList (wpAny_holding ?_)) )) ))
  have ho6 : (((s.heap.update a (Obj.mapSeq fun _ => #[])).push (seqObj "tuple" vs.toArray 0)).push (seqObj "list" #[] 0)).get? a = some (seqObj "list" #[] e1) :=
    push_grow _ _ (push_grow _ _ ho1)
  show wpAny (model prog w) A _ P E { s with heap := ((s.heap.update a (Obj.mapSeq fun _ => #[])).push (seqObj "tuple" vs.toArray 0)).push (seqObj "list" #[] 0) }
  dsimp only
  have fin : ∀ st' : SortSt, (arrOf st').Perm (pairsOf vs) → SortedTo (arrOf st') (pairsOf vs).size →
      P (.done (.ret .none)) { s with heap := sortedHeap s.heap a vs ((arrOf st').map (·.2)) } := fun st' hp hs => by
    obtain ⟨ns', h1, h2, h3⟩ := sorted_out hI hp hs
    exact h _ ns' h1 h2 h3
  by_cases h2 : vs.toArray.size < 2
  · rw [if_pos h2, if_pos h2]
    refine wpAny_bind (wpAny_pure ?_)
    rw [StateT.run_pure]
    refine wpAny_bind (wpAny_pure ?_)
    dsimp only
    refine wpAny_bind (seqEpoch_at ho6 rfl ?_)
    refine wpAny_bind (listUpdate_at ho6 rfl ?_ (by simp) (by rw [Array.size_map]; show (pairsOf vs).size ≤ _; rw [pairsOf_size]; exact ar2 2 (.l (.v 0) (.n 1000000)) (.e (.v 1) (.n 16777216)) (.l (.v 0) (.a (.v 1) (.n 1))) (by kernel_rfl) [_, _] hz hsl))
    simp only [bne_self_eq_false, Bool.false_eq_true, if_false]
    refine wpAny_pure (fin (SortSt.mk' general' (vs.toArray.zip vs.toArray) #[] 7 none) (Array.Perm.refl _) fun i j hij hj => ?_)
    have h2' : vs.length < 2 := by simpa using h2
    have : i = j := by rw [pairsOf_size] at hj; exact ar3 3 (.l (.v 0) (.v 1)) (.t (.v 1) (.v 2)) (.t (.v 2) (.n 2)) (.e (.v 0) (.v 1)) (by kernel_rfl) [_, _, _] hij hj h2'
    subst this; exact Int.le_refl _
  · rw [if_neg h2, if_neg h2]
    obtain ⟨v₁, v₂, rest, rfl⟩ : ∃ v₁ v₂ rest, vs = v₁ :: v₂ :: rest := by
      match vs, h2 with
      | [], h2 => simp at h2
      | [_], h2 => simp at h2
      | v₁ :: v₂ :: rest, _ => exact ⟨v₁, v₂, rest, rfl⟩
    rw [keyKind_ints hI]
    refine wpAny_bind (wpAny_pure ?_)
    refine wpAny_bind (wpAny_mono (wpS_runs (ltOk_int (s := { s with heap := ((s.heap.update a (Obj.mapSeq fun _ => #[])).push (seqObj "tuple" (v₁ :: v₂ :: rest).toArray 0)).push (seqObj "list" #[] 0) })) (a₀ := pairsOf (v₁ :: v₂ :: rest)) (st := SortSt.mk' oneType' ((v₁ :: v₂ :: rest).toArray.zip (v₁ :: v₂ :: rest).toArray) #[] 7 none)
      (Q := fun _ st' => (arrOf st').Perm (pairsOf (v₁ :: v₂ :: rest)) ∧ failedOf st' = none ∧ SortedTo (arrOf st') (pairsOf (v₁ :: v₂ :: rest)).size)
      (fun p hp => hI.intKeys p hp) (Array.Perm.refl _) rfl rfl rfl (by rw [pairsOf_size]; simp) fun st' a1 a2 a3 => ⟨a1, a2, soOn_sorted a3⟩) ?_ fun _ _ e => e)
    rintro ⟨⟨⟩, st'⟩ s' ⟨rfl, hp, hf, hs⟩
    dsimp only
    refine wpAny_bind (seqEpoch_at ho6 rfl ?_)
    refine wpAny_bind (listUpdate_at ho6 rfl ?_ (by simp) (by refine Nat.le_trans (Nat.le_of_eq ((Array.size_map ..).trans (hp.size_eq.trans (pairsOf_size _)))) ?_; exact ar2 2 (.e (.v 0) (.n 16777216)) (.l (.v 1) (.n 1000000)) (.l (.v 1) (.a (.v 0) (.n 1))) (by kernel_rfl) [_, _] hsl hz))
    rw [hf]
    simp only [bne_self_eq_false, Bool.false_eq_true, if_false]
    exact wpAny_pure (fin st' hp hs)
theorem sorted_any {l : Addr} {vs : List Value} {ns : List Int} {Q : Value → Shared → Prop} (hl : s.heap.IsList l vs.toArray) (hI : IntsAre vs ns) (hz : vs.length ≤ 1000000)
    (h : ∀ (out : Array Value) (ns' : List Int), IntsAre out.toList ns' → ns'.Perm ns → ns'.Pairwise (· ≤ ·) → Q (.ref (s.heap.objs.size + 1)) { s with heap := sortedAll s.heap vs out }) :
    wpAny (model prog w) A (call (.builtin "sorted") [.ref l]) Q E s := by
  have hsl : sizeLine = 16777216 := rfl
  refine call_function_entry kind_sorted plain_sorted entry_sorted (args_sorted1 _) ?_
  unfold Builtin.«sorted»
  refine wpAny_bind (m := checkCount "sorted" 1 1 _) (wpAny_pure (wpAny_bind (collect_list hl (wpAny_bind (wpAny_newList ?_)) (by exact ar2 2 (.l (.v 0) (.n 1000000)) (.e (.v 1) (.n 16777216)) (.l (.v 0) (.v 1)) (by kernel_rfl) [_, _] hz hsl))))
  have hsz : ((s.heap.push (seqObj "list" #[] 0)).update s.heap.objs.size (Obj.mapSeq (· ++ vs.toArray))).objs.size = s.heap.objs.size + 1 := by
    rw [Heap.size_update, size_push']
  have hoL : (((s.heap.push (seqObj "list" #[] 0)).update s.heap.objs.size (Obj.mapSeq (· ++ vs.toArray))).push (seqObj "list" vs.toArray 0)).get? (s.heap.objs.size + 1) = some (seqObj "list" vs.toArray 0) := by
    rw [← hsz]; exact Heap.get?_push_size _ rfl
  show wpAny _ _ _ _ _ { s with heap := ((s.heap.push (seqObj "list" #[] 0)).update s.heap.objs.size (Obj.mapSeq (· ++ vs.toArray))).push (seqObj "list" vs.toArray 0) }
  rw [hsz]
  refine wpAny_bind (wpAny_holding (wpAny_call_entry slot_list_sort ⟨_, hoL, rfl⟩ entry_list_sort (sort_ints hoL hI hz fun out ns' a1 a2 a3 => ⟨_, rfl, ?_⟩) (args_list_sort _)))
  exact wpAny_pure ⟨_, rfl, h out ns' a1 a2 a3⟩
end
theorem reps_intsAre {h : Heap} : ∀ {ns : List Int} {vs : List Value}, Reps h (ns.map V.int) vs → IntsAre vs ns
  | [], vs, e => by cases (e : vs = []); exact .nil
  | n :: ns, vs, ⟨v, r, e, ⟨t, hv⟩, hr⟩ => by subst e hv; exact .cons n t (reps_intsAre hr)
theorem intsAre_reps {h : Heap} : ∀ {ns : List Int} {vs : List Value}, IntsAre vs ns → Reps h (ns.map V.int) vs
  | _, _, .nil => rfl
  | _, _, .cons n t r => ⟨_, _, rfl, ⟨t, rfl⟩, intsAre_reps r⟩
section
variable {c : Ctx} {m : Lo} {H : Hp} {Q : V → Lo → Hp → Prop}
theorem k_sorted {a : Addr} {ns : List Int} (ha : Sees c H a (.list (ns.map .int))) (hz : ns.length ≤ 1000000) (h : ∀ x ns', List.Perm ns' ns → ns'.Pairwise (· ≤ ·) → Q (.ref x) m ((x, .list (ns'.map .int)) :: H)) : Cal c (.bi "sorted") [.ref a] m H Q := fun s vf vvs R rf rv P k => by
  cases (rf : vf = _)
  obtain ⟨va, rfl, ra⟩ := rv.sole
  cases (ra : va = _)
  obtain ⟨items, n, hl, hr⟩ := O.list_get (ha m s R)
  have hI := reps_intsAre hr
  have hlen := hI.length
  refine sorted_any (vs := items.toList) (by simpa using IsL.isList hl) hI (by exact ar2 2 (.l (.v 0) (.n 1000000)) (.e (.v 1) (.v 0)) (.l (.v 1) (.n 1000000)) (by kernel_rfl) [_, _] hz hlen) fun out ns' a1 a2 a3 => ?_
  obtain ⟨e, he⟩ := sortedAll_at s.heap items.toList out
  have hg : ∀ b o, s.heap.get? b = some o → (sortedAll s.heap items.toList out).get? b = some o := fun _ _ => sortedAll_old
  exact k (.ref (s.heap.objs.size + 1)) _ m ((s.heap.objs.size + 1, .list (ns'.map .int)) :: H) _ (tkn s s.toks) (R.new (tkn s s.toks) hg (get_ge (Nat.le_succ _)) (O.list_mk he (intsAre_reps a1))) (.new hg (get_ge (Nat.le_succ _))) rfl (h _ ns' a2 a3)
end
end Mine
end
section
open PySem PySem.W PyProof.Rows PySem.Calls
set_option maxRecDepth 100000
namespace Mine
inductive CLoc (x : Str) (a : Addr) : List (Str × Addr) → Prop
  | head (m : List (Str × Addr)) : CLoc x a ((x, a) :: m)
  | tail {y : Str} {b : Addr} {m : List (Str × Addr)} : x ≠ y → CLoc x a m → CLoc x a ((y, b) :: m)
theorem CLoc.eq {x : Str} {a : Addr} {m : List (Str × Addr)} (h : CLoc x a m) : m.lookup x = some a := by
  induction h with
  | head m => simp [List.lookup]
  | @tail y w m hne _ ih =>
    rw [List.lookup_cons]
    have : (x == y) = false := by simpa using hne
    rw [this]; exact ih
inductive Clo (cs : List (Str × Addr)) : List (Str × NameKind) → List (Str × Addr) → List (Str × Addr) → Prop
  | nil (acc : List (Str × Addr)) : Clo cs [] acc acc
  | skip {x : Str} {k : NameKind} {r : List (Str × NameKind)} {acc cl : List (Str × Addr)} : k ≠ .free → Clo cs r acc cl → Clo cs ((x, k) :: r) acc cl
  | take {x : Str} {a : Addr} {r : List (Str × NameKind)} {acc cl : List (Str × Addr)} : CLoc x a cs → Clo cs r ((x, a) :: acc) cl → Clo cs ((x, .free) :: r) acc cl
section
variable {c : Ctx} {m : Lo} {H : Hp} {pos : Pos}
theorem clo_eq {scope : Scope} {cs cl : List (Str × Addr)} (hc : c.env.cells = cs) (h : Clo cs scope.names [] cl) : closureFor scope c.env = pure cl := by
  have key : ∀ (l : List (Str × NameKind)) (acc cl : List (Str × Addr)), Clo cs l acc cl → (forIn l acc fun (x : Str × NameKind) (r : List (Str × Addr)) => if (x.2 == NameKind.free) = true then (do let a ← cellOf c.env x.1; pure (ForInStep.yield ((x.1, a) :: r)) : Sem (ForInStep (List (Str × Addr)))) else pure (ForInStep.yield r)) = (pure cl : Sem (List (Str × Addr))) := by
    intro l acc cl h
    induction h with
    | nil acc => rfl
    | @skip x k r acc cl hk _ ih =>
      rw [List.forIn_cons]
      have : (k == NameKind.free) = false := by simpa using hk
      dsimp only
      rw [this]
      exact ih
    | @take x a r acc cl hl _ ih =>
      rw [List.forIn_cons]
      have e : cellOf c.env x = pure a := by unfold cellOf; rw [hc, hl.eq]
      dsimp only
      rw [e]
      exact ih
  have e := key _ _ _ h
  unfold closureFor
  rw [← bind_pure (pure cl), ← e]
theorem cell_at {ns : List (Str × NameKind)} {cs : List (Str × Addr)} {x : Str} {a : Addr} (hn : c.env.scope.names = ns) (hc : c.env.cells = cs) (hk : ns.lookup x = some .cell) (hl : CLoc x a cs) : cellAt c x = some a := by
  unfold cellAt
  rw [kind_of hn hk, hc]
  exact hl.eq
theorem e_cel {ns : List (Str × NameKind)} {cs : List (Str × Addr)} {x : Str} {a : Addr} {u : V} {Q : V → Lo → Hp → Prop} (hn : c.env.scope.names = ns) (hc : c.env.cells = cs) (hk : ns.lookup x = some .cell) (hl : CLoc x a cs)
    (hv : Sees c H a (.cell (some u))) (h : Q u m H) (hd : autoParam ((x == ("__debug__" : Str)) = false) auDec) : WPe c (.Name x pos) m H Q := e_cell (cell_at hn hc hk hl) hv h hd
theorem e_free {ns : List (Str × NameKind)} {cs : List (Str × Addr)} {x : Str} {a : Addr} {u : V} {Q : V → Lo → Hp → Prop} (hn : c.env.scope.names = ns) (hc : c.env.cells = cs) (hk : ns.lookup x = some .free) (hl : CLoc x a cs)
    (hv : Sees c H a (.cell (some u))) (h : Q u m H) (hx : autoParam ((x == ("__classdict__" : Str)) = false) auDec) (hd : autoParam ((x == ("__debug__" : Str)) = false) auDec) : WPe c (.Name x pos) m H Q := by
  refine e_cell ?_ hv h hd
  unfold cellAt
  rw [kind_of hn hk, hc]
  simp only [hx]
  exact hl.eq
theorem sto_cel {ns : List (Str × NameKind)} {cs : List (Str × Addr)} {x : Str} {a : Addr} {v : V} {u : Option V} {H' : Hp} {Q : Lo → Hp → Prop} (hn : c.env.scope.names = ns) (hc : c.env.cells = cs) (hk : ns.lookup x = some .cell) (hl : CLoc x a cs)
    (up : Upd a (.cell u) (.cell (some v)) H H') (h : Q m H') : Sto c x v m H Q := sto_cell (kind_of hn hk) (by rw [hc]; exact hl.eq) up h
end
end Mine
end
section
namespace Mine
noncomputable def cl (E : List Nat) (t : Nat) : Nat := (E.filter fun e => decide (e < t)).length
noncomputable def ins : List Nat → Nat → List Nat
  | [], j => [j]
  | e :: E, j => if e < j then e :: ins E j else j :: E
noncomputable def gRow (f : Nat → Nat) (ok : Nat → Bool) : Nat → Nat
  | 0 => 0
  | j + 1 => if ok j then f j + 1 else max (f (j + 1)) (gRow f ok j)
theorem cl_nil (t : Nat) : cl [] t = 0 := rfl
theorem cl_cons (e : Nat) (E : List Nat) (t : Nat) : cl (e :: E) t = (if e < t then 1 else 0) + cl E t := by
  unfold cl
  by_cases h : e < t <;> simp [h]; exact ar0 1 (.e (.a (.v 0) (.n 1)) (.a (.n 1) (.v 0))) (by kernel_rfl) [_]
theorem cl_zero_of (E : List Nat) (t : Nat) (h : ∀ e ∈ E, t ≤ e) : cl E t = 0 := by
  unfold cl
  rw [List.length_eq_zero_iff, List.filter_eq_nil_iff]
  intro e he
  have := h e he
  simp; exact ar1 2 (.l (.v 0) (.v 1)) (.l (.v 0) (.v 1)) (by kernel_rfl) [_, _] this
theorem cl_mono (E : List Nat) {s t : Nat} (h : s ≤ t) : cl E s ≤ cl E t := by
  induction E with
  | nil => simp [cl_nil]
  | cons e E ih => rw [cl_cons, cl_cons]; split <;> split <;> lia
theorem cl_zero (E : List Nat) : cl E 0 = 0 := cl_zero_of E 0 fun _ _ => Nat.zero_le _
theorem cl_le (E : List Nat) (t : Nat) : cl E t ≤ E.length := List.length_filter_le _ _
theorem cl_succ (E : List Nat) (hE : E.Pairwise (· < ·)) (t : Nat) : cl E (t + 1) = cl E t + (if t ∈ E then 1 else 0) := by
  induction E with
  | nil => simp [cl_nil]
  | cons e E ih =>
    rw [List.pairwise_cons] at hE
    rw [cl_cons, cl_cons, ih hE.2]
    by_cases h : t = e
    · subst h
      have : t ∉ E := fun q => Nat.lt_irrefl _ (hE.1 t q)
      simp [this]; exact ar0 1 (.e (.a (.n 1) (.v 0)) (.a (.v 0) (.n 1))) (by kernel_rfl) [_]
    · have : (t ∈ e :: E) ↔ t ∈ E := by simp [h]
      simp only [this]
      by_cases h1 : e < t
      · have : e < t + 1 := by exact ar1 2 (.t (.v 0) (.v 1)) (.t (.v 0) (.a (.v 1) (.n 1))) (by kernel_rfl) [_, _] h1
        simp [h1, this]; exact ar0 2 (.e (.a (.n 1) (.a (.v 0) (.v 1))) (.a (.a (.n 1) (.v 0)) (.v 1))) (by kernel_rfl) [_, _]
      · have : ¬ e < t + 1 := by exact ar2 2 (.no (.e (.v 0) (.v 1))) (.no (.t (.v 1) (.v 0))) (.no (.t (.v 1) (.a (.v 0) (.n 1)))) (by kernel_rfl) [_, _] h h1
        simp [h1, this]
theorem mem_ins {E : List Nat} {j e : Nat} (h : e ∈ ins E j) : e = j ∨ e ∈ E := by
  induction E with
  | nil => simp [ins] at h; exact .inl h
  | cons a E ih =>
    unfold ins at h
    split at h
    · rcases List.mem_cons.mp h with rfl | h
      · exact .inr List.mem_cons_self
      · exact (ih h).imp id (List.mem_cons_of_mem _)
    · rcases List.mem_cons.mp h with rfl | h
      · exact .inl rfl
      · exact .inr (List.mem_cons_of_mem _ h)
theorem ins_sorted {E : List Nat} (hE : E.Pairwise (· < ·)) (j : Nat) : (ins E j).Pairwise (· < ·) := by
  induction E with
  | nil => simp [ins]
  | cons e E ih =>
    rw [List.pairwise_cons] at hE
    unfold ins
    split
    · refine List.pairwise_cons.mpr ⟨fun a ha => ?_, ih hE.2⟩
      rcases mem_ins ha with rfl | h
      · assumption
      · exact hE.1 a h
    · refine List.pairwise_cons.mpr ⟨fun a ha => ?_, hE.2⟩
      have := hE.1 a ha; lia
theorem ins_eq {E : List Nat} (hE : E.Pairwise (· < ·)) (j : Nat) : ins E j = if cl E j = E.length then E ++ [j] else E.set (cl E j) j := by
  induction E with
  | nil => simp [ins, cl_nil]
  | cons e E ih =>
    rw [List.pairwise_cons] at hE
    unfold ins
    rw [cl_cons]
    by_cases h : e < j
    · simp only [h, if_true, List.length_cons]
      rw [ih hE.2]
      by_cases q : cl E j = E.length
      · have : 1 + cl E j = E.length + 1 := by lia
        simp [q]; intro h; exfalso; exact ar1 1 (.no (.e (.a (.n 1) (.v 0)) (.a (.v 0) (.n 1)))) .f (by kernel_rfl) [_] h
      · have : ¬ (1 + cl E j = E.length + 1) := by exact ar1 2 (.no (.e (.v 0) (.v 1))) (.no (.e (.a (.n 1) (.v 0)) (.a (.v 1) (.n 1)))) (by kernel_rfl) [_, _] q
        rw [if_neg q, if_neg this, Nat.add_comm 1, List.set_cons_succ]
    · have h0 : cl E j = 0 := cl_zero_of E j fun a ha => by have := hE.1 a ha; exact ar2 3 (.no (.t (.v 0) (.v 1))) (.t (.v 0) (.v 2)) (.l (.v 1) (.v 2)) (by kernel_rfl) [_, _, _] h this
      simp only [h, if_false, h0]
      simp
theorem cl_ins {E : List Nat} (hE : E.Pairwise (· < ·)) (j t : Nat) : cl (ins E j) t = if j < t ∧ cl E t = cl E j then cl E t + 1 else cl E t := by
  induction E with
  | nil => by_cases h : j < t <;> simp [ins, cl_nil, cl_cons, h]
  | cons e E ih =>
    rw [List.pairwise_cons] at hE
    unfold ins
    by_cases h : e < j
    · rw [if_pos h, cl_cons, cl_cons, cl_cons, ih hE.2, if_pos h]
      by_cases h1 : j < t
      · have h2 : e < t := by exact ar2 3 (.t (.v 0) (.v 1)) (.t (.v 1) (.v 2)) (.t (.v 0) (.v 2)) (by kernel_rfl) [_, _, _] h h1
        simp only [h1, h2, if_true, true_and]
        by_cases q : cl E t = cl E j
        · simp [q]; exact ar0 1 (.e (.a (.n 1) (.a (.v 0) (.n 1))) (.a (.a (.n 1) (.v 0)) (.n 1))) (by kernel_rfl) [_]
        · have : ¬ (1 + cl E t = 1 + cl E j) := by exact ar1 2 (.no (.e (.v 0) (.v 1))) (.no (.e (.a (.n 1) (.v 0)) (.a (.n 1) (.v 1)))) (by kernel_rfl) [_, _] q
          simp [q, this]
      · simp [h1]
    · have h0 : cl E j = 0 := cl_zero_of E j fun a ha => by have := hE.1 a ha; exact ar2 3 (.no (.t (.v 0) (.v 1))) (.t (.v 0) (.v 2)) (.l (.v 1) (.v 2)) (by kernel_rfl) [_, _, _] h this
      rw [if_neg h, cl_cons, cl_cons, cl_cons, if_neg h, h0]
      by_cases h1 : j < t
      · simp only [h1, if_true, true_and]
        by_cases q : e < t
        · simp only [q, if_true]
          have : ¬ (1 + cl E t = 0 + 0) := by exact ar0 1 (.no (.e (.a (.n 1) (.v 0)) (.a (.n 0) (.n 0)))) (by kernel_rfl) [_]
          rw [if_neg this]
        · have : cl E t = 0 := cl_zero_of E t fun a ha => by have := hE.1 a ha; exact ar2 3 (.no (.t (.v 0) (.v 1))) (.t (.v 0) (.v 2)) (.l (.v 1) (.v 2)) (by kernel_rfl) [_, _, _] q this
          simp [q, this]
      · have : ¬ e < t := by exact ar2 3 (.no (.t (.v 0) (.v 1))) (.no (.t (.v 1) (.v 2))) (.no (.t (.v 0) (.v 2))) (by kernel_rfl) [_, _, _] h h1
        simp [h1, this]
theorem fold_sorted {M : List Nat} : ∀ {E : List Nat}, E.Pairwise (· < ·) → (M.foldl ins E).Pairwise (· < ·) := by
  induction M with
  | nil => intro E h; exact h
  | cons j M ih => intro E h; exact ih (ins_sorted h j)
theorem mem_fold {M : List Nat} : ∀ {E : List Nat} {e : Nat}, e ∈ M.foldl ins E → e ∈ M ∨ e ∈ E := by
  induction M with
  | nil => intro E e h; exact .inr h
  | cons j M ih =>
    intro E e h
    rcases ih h with h | h
    · exact .inl (List.mem_cons_of_mem _ h)
    · rcases mem_ins h with rfl | h
      · exact .inl List.mem_cons_self
      · exact .inr h
theorem cl_fold {M : List Nat} (hM : M.Pairwise (· > ·)) : ∀ {E : List Nat}, E.Pairwise (· < ·) → ∀ t, cl (M.foldl ins E) t = if ∃ j ∈ M, j < t ∧ cl E j = cl E t then cl E t + 1 else cl E t := by
  induction M with
  | nil => intro E _ t; simp
  | cons j M ih =>
    intro E hE t
    rw [List.pairwise_cons] at hM
    rw [List.foldl_cons, ih hM.2 (ins_sorted hE j)]
    have same : ∀ j' ∈ M, cl (ins E j) j' = cl E j' := fun j' h' => by
      have := hM.1 j' h'
      rw [cl_ins hE, if_neg (by exact ar1 4 (.t (.v 0) (.v 1)) (.no (.an (.t (.v 1) (.v 0)) (.e (.v 2) (.v 3)))) (by kernel_rfl) [_, _, _, _] this)]
    rw [cl_ins hE j t]
    by_cases q : j < t ∧ cl E t = cl E j
    · rw [if_pos q]
      rw [if_neg, if_pos ⟨j, List.mem_cons_self, q.1, q.2.symm⟩]
      rintro ⟨j', h', h1, h2⟩
      rw [same j' h'] at h2
      have := cl_mono E (Nat.le_of_lt (hM.1 j' h'))
      exact ar3 5 (.an (.t (.v 0) (.v 1)) (.e (.v 2) (.v 3))) (.e (.v 4) (.a (.v 2) (.n 1))) (.l (.v 4) (.v 3)) .f (by kernel_rfl) [_, _, _, _, _] q h2 this
    · rw [if_neg q]
      by_cases q2 : ∃ j' ∈ M, j' < t ∧ cl E j' = cl E t
      · have h1 : ∃ j' ∈ M, j' < t ∧ cl (ins E j) j' = cl E t := by
          obtain ⟨j', h', h1, h2⟩ := q2
          exact ⟨j', h', h1, by rw [same j' h']; exact h2⟩
        have h2 : ∃ j' ∈ j :: M, j' < t ∧ cl E j' = cl E t := by
          obtain ⟨j', h', h1, h2⟩ := q2
          exact ⟨j', List.mem_cons_of_mem _ h', h1, h2⟩
        rw [if_pos h1, if_pos h2]
      · have h1 : ¬ ∃ j' ∈ M, j' < t ∧ cl (ins E j) j' = cl E t := by
          rintro ⟨j', h', h1, h2⟩
          exact q2 ⟨j', h', h1, by rw [same j' h'] at h2; exact h2⟩
        have h2 : ¬ ∃ j' ∈ j :: M, j' < t ∧ cl E j' = cl E t := by
          rintro ⟨j', h', a1, a2⟩
          rcases List.mem_cons.mp h' with rfl | h'
          · exact q ⟨a1, a2.symm⟩
          · exact q2 ⟨j', h', a1, a2⟩
        rw [if_neg h1, if_neg h2]
theorem row_ok {E M : List Nat} (hE : E.Pairwise (· < ·)) (hM : M.Pairwise (· < ·)) {ok : Nat → Bool} : ∀ t, (∀ j, j < t → (ok j = true ↔ j ∈ M)) → gRow (cl E) ok t = cl (M.reverse.foldl ins E) t := by
  have hR : M.reverse.Pairwise (· > ·) := List.pairwise_reverse.mpr hM
  intro t
  induction t with
  | zero => intro _; rw [cl_zero]; rfl
  | succ j ih =>
    intro hok
    have ih := ih fun i hi => hok i (by lia)
    unfold gRow
    rw [ih, cl_fold hR hE, cl_fold hR hE]
    have hs := cl_succ E hE j
    by_cases q : ok j = true
    · rw [if_pos q]
      have hj : j ∈ M := (hok j (by lia)).mp q
      by_cases h1 : j ∈ E
      · rw [if_pos h1] at hs
        rw [if_neg]
        · exact ar1 2 (.e (.v 0) (.a (.v 1) (.n 1))) (.e (.a (.v 1) (.n 1)) (.v 0)) (by kernel_rfl) [_, _] hs
        · rintro ⟨j', _, h2, h3⟩
          have := cl_mono E (show j' ≤ j by exact ar1 2 (.t (.v 0) (.a (.v 1) (.n 1))) (.l (.v 0) (.v 1)) (by kernel_rfl) [_, _] h2)
          exact ar3 3 (.e (.v 0) (.a (.v 1) (.n 1))) (.e (.v 2) (.v 0)) (.l (.v 2) (.v 1)) .f (by kernel_rfl) [_, _, _] hs h3 this
      · rw [if_neg h1] at hs
        rw [if_pos ⟨j, by simpa using hj, by exact ar0 1 (.t (.v 0) (.a (.v 0) (.n 1))) (by kernel_rfl) [_], by exact ar1 2 (.e (.v 0) (.a (.v 1) (.n 0))) (.e (.v 1) (.v 0)) (by kernel_rfl) [_, _] hs⟩]
        exact ar1 2 (.e (.v 0) (.a (.v 1) (.n 0))) (.e (.a (.v 1) (.n 1)) (.a (.v 0) (.n 1))) (by kernel_rfl) [_, _] hs
    · rw [if_neg q]
      have hj : j ∉ M := fun h => q ((hok j (by exact ar0 1 (.t (.v 0) (.a (.v 0) (.n 1))) (by kernel_rfl) [_])).mpr h)
      by_cases h1 : j ∈ E
      · rw [if_pos h1] at hs
        have hn : ¬ ∃ j' ∈ M.reverse, j' < j + 1 ∧ cl E j' = cl E (j + 1) := by
          rintro ⟨j', _, h2, h3⟩
          have := cl_mono E (show j' ≤ j by exact ar1 2 (.t (.v 0) (.a (.v 1) (.n 1))) (.l (.v 0) (.v 1)) (by kernel_rfl) [_, _] h2)
          exact ar3 3 (.e (.v 0) (.a (.v 1) (.n 1))) (.e (.v 2) (.v 0)) (.l (.v 2) (.v 1)) .f (by kernel_rfl) [_, _, _] hs h3 this
        rw [if_neg hn]
        split <;> lia
      · rw [if_neg h1] at hs
        have hi : (∃ j' ∈ M.reverse, j' < j + 1 ∧ cl E j' = cl E (j + 1)) ↔ ∃ j' ∈ M.reverse, j' < j ∧ cl E j' = cl E j := by
          constructor
          · rintro ⟨j', h', h2, h3⟩
            refine ⟨j', h', ?_, by exact ar2 3 (.e (.v 0) (.a (.v 1) (.n 0))) (.e (.v 2) (.v 0)) (.e (.v 2) (.v 1)) (by kernel_rfl) [_, _, _] hs h3⟩
            rcases Nat.lt_or_ge j' j with h | h
            · exact h
            · have : j' = j := by exact ar2 2 (.t (.v 0) (.a (.v 1) (.n 1))) (.l (.v 1) (.v 0)) (.e (.v 0) (.v 1)) (by kernel_rfl) [_, _] h2 h
              subst this
              exact absurd (by simpa using h') hj
          · rintro ⟨j', h', h2, h3⟩
            exact ⟨j', h', by exact ar1 2 (.t (.v 0) (.v 1)) (.t (.v 0) (.a (.v 1) (.n 1))) (by kernel_rfl) [_, _] h2, by exact ar2 3 (.e (.v 0) (.a (.v 1) (.n 0))) (.e (.v 2) (.v 1)) (.e (.v 2) (.v 0)) (by kernel_rfl) [_, _, _] hs h3⟩
        simp only [hi]
        split <;> omega
theorem jumps {E : List Nat} (hE : E.Pairwise (· < ·)) {n : Nat} (hn : ∀ e ∈ E, e < n) : (List.range n).filter (fun j => decide (cl E j < cl E (j + 1))) = E := by
  have h1 : (List.range n).filter (fun j => decide (cl E j < cl E (j + 1))) = (List.range n).filter (fun j => decide (j ∈ E)) := by
    apply List.filter_congr
    intro j _
    rw [cl_succ E hE]
    apply decide_eq_decide.mpr
    split
    · simp [*]
    · simp [*]
  rw [h1]
  have s1 : ((List.range n).filter fun j => decide (j ∈ E)).Pairwise (· < ·) := List.Pairwise.filter _ List.pairwise_lt_range
  have p : List.Perm ((List.range n).filter fun j => decide (j ∈ E)) E := by
    refine (List.perm_ext_iff_of_nodup (s1.imp Nat.ne_of_lt) (hE.imp Nat.ne_of_lt)).mpr fun a => ?_
    rw [List.mem_filter]
    constructor
    · rintro ⟨_, h⟩; simpa using h
    · intro h; exact ⟨List.mem_range.mpr (hn a h), by simpa using h⟩
  exact List.Perm.eq_of_pairwise (fun a b _ _ h1 h2 => absurd h1 (Nat.lt_asymm h2)) s1 hE p
end Mine
end
section
open PySem PySem.W PyProof.Rows PySem.Calls
set_option maxRecDepth 100000
namespace Mine
section
variable {c : Ctx} {m : Lo} {H : Hp} {pos : Pos} {Q : V → Lo → Hp → Prop}
theorem e_slice_step2 {v st : Expr} {lower upper : Option Expr} {p : Pos} (h : WPe c v m H fun a m1 H1 => WPpart c lower m1 H1 fun lo m2 H2 => WPpart c upper m2 H2 fun hi m3 H3 => WPe c st m3 H3 fun u m4 H4 => ∃ l xs i, a = .ref l ∧ u = .int i ∧ i ≠ 0 ∧ Sees c H4 l (.list xs) ∧ xs.length ≤ 1000000 ∧ ∀ x, Q (.ref x) m4 ((x, .list (pick xs lo hi (some i))) :: H4))
    (hsub : ∀ o i, subscripted (.Slice lower upper (some st) p) false o i = operate [o, i] (getItem o i) := by intro _ _; rfl) : WPe c (.Subscript v (.Slice lower upper (some st) p) pos) m H Q := fun s R P k => by
  refine Subscript_ (h s R _ fun a va m1 H1 h1 tk1 R1 F1 r1 q1 => wpAny_Slice (q1.run R1 _ fun vl lo m2 H2 h2 tk2 R2 F2 pl q2 => q2.run R2 _ fun vu hi m3 H3 h3 tk3 R3 F3 pu q3 => ?_))
  rw [evalPart_some]
  refine q3 _ R3 _ fun u vs m4 H4 h4 tk4 R4 F4 r4 q4 => ?_
  obtain ⟨l, xs, i, rfl, rfl, hi0, hx, hz, q⟩ := q4
  cases (r1 : va = _)
  obtain ⟨t, rfl⟩ := r4
  obtain ⟨items, n, hl, hr⟩ := O.list_get (hx m4 _ R4)
  have hlen := hr.length
  have g1 : ∀ b o, h4.get? b = some o → (h4.push { cls := .type "slice", data := .fields #[vl, vu, .int i t] }).get? b = some o := push_grow
  have hl1 : (h4.push { cls := .type "slice", data := .fields #[vl, vu, .int i t] }).IsList l items := IsL.isList (g1 _ _ hl)
  refine tail_any hl1.typeIs list_getitem_lookup (wpAny_getItem_list_slice hl1 (Heap.IsSliceOf.new ..) pl pu (.int i t) (by simpa using hi0) ?_ ?_) (hsub _ _)
  · have g : ∀ b o, h4.get? b = some o → ((h4.push { cls := .type "slice", data := .fields #[vl, vu, .int i t] }).push { cls := .type "list", data := .seq (slicePick items lo hi (some i)) }).get? b = some o := fun b o e => push_grow _ _ (push_grow _ _ e)
    have e1 : (h4.push { cls := .type "slice", data := .fields #[vl, vu, .int i t] }).objs.size = h4.objs.size + 1 := by simp
    have hn : h4.get? (h4.objs.size + 1) = none := get_ge (Nat.le_succ _)
    have hN : ((h4.push { cls := .type "slice", data := .fields #[vl, vu, .int i t] }).push { cls := .type "list", data := .seq (slicePick items lo hi (some i)) }).get? (h4.objs.size + 1) = some { cls := .type "list", data := .seq (slicePick items lo hi (some i)) } := by
      rw [← e1]; exact Heap.get?_push_size _ rfl
    have F := ((F1.trans R1.hasL F2).trans R2.hasL F3).trans R3.hasL F4
    show P (.ref (h4.push { cls := .type "slice", data := .fields #[vl, vu, .int i t] }).objs.size) _
    rw [e1]
    refine k (.ref (h4.objs.size + 1)) _ m4 _ _ tk4 (R4.new tk4 g hn (o := .list (pick xs lo hi (some i))) (O.list_mk (n := 0) hN ?_)) (F.trans R4.hasL (.new g hn)) rfl (q _)
    have e2 : (slicePick items lo hi (some i)).toList = pick items.toList lo hi (some i) := by rw [pick_array]
    rw [e2]
    exact (R4.liftL (.grow (H := H4) g) hr).pick lo hi (some i)
  · rw [← Array.length_toList, hlen]; have : sizeLine = 16777216 := rfl; exact ar2 2 (.l (.v 0) (.n 1000000)) (.e (.v 1) (.n 16777216)) (.l (.v 0) (.v 1)) (by kernel_rfl) [_, _] hz this
theorem e_lc2 {t elt iter : Expr} {ifs : List Expr} {t2 iter2 : Expr} {ifs2 : List Expr} {scope : Scope} {cl : List (Str × Addr)} (hclos : closureFor scope c.env = pure cl) (hk : scope.kind = .function)
    (h : WPit c t iter m H fun n x Ok m1 H1 => ∀ c2 D, Inner c scope cl c2 → OuterI c c2 t elt ifs t2 iter2 ifs2 D n x Ok H1 fun H2 => Q (.ref D) m1 H2)
    (hcell : autoParam (∀ y ∈ scope.names, y.2 ≠ .cell) auDec) (hnames : autoParam (∀ y ∈ scope.names, y.2 = .local → scope.names.lookup y.1 = some .local) auDec)
    (hs : autoParam (∀ x, foldedSetIterable iter c.env x = pure x) auFun) (hs2 : ∀ C x, foldedSetIterable iter2 (compEnvC scope cl C c.env) x = pure x := by intro _ _; rfl) : WPe c (lc2 elt t iter ifs t2 iter2 ifs2 scope pos) m H Q :=
  e_comp2 hclos hk (fun s R P k => h s R P fun it fp n x Ok J J' m1 H1 h1 tk W R1 F1 A1 fr j q => k it fp n x Ok J J' m1 H1 h1 tk W R1 F1 A1 fr j fun C D => q _ D (c.inner scope cl C hk)) hcell hnames hs hs2
end
end Mine
end
section
open PySem PySem.W PyProof.Rows PySem.Calls
set_option maxRecDepth 100000
namespace Mine
section
variable {c : Ctx} {m : Lo} {H : Hp}
theorem WPs.frameObj {b : List Stmt} {a : Addr} {o : Obj} {Q : Fl → Lo → Hp → Prop} (h : WPs c b m H Q) : WPs c b m ((a, .obj o) :: H) fun f m' H' => ∃ H2, H' = (a, .obj o) :: H2 ∧ Q f m' H2 := fun s R P k => by
  have nd := R.nd
  have hn : a ∉ dom H := (List.nodup_cons.mp nd).1
  have hnd : (dom H).Nodup := (List.nodup_cons.mp nd).2
  have ap := R.apart a (List.mem_cons_self)
  have ro := R.obj a (.obj o) (List.mem_cons_self)
  refine h s (R.weaken (st' := ⟨m, H⟩) (fun _ _ e => e) (fun _ hp => List.mem_cons_of_mem _ hp) hnd) P fun f v m' H' h' tk R' F r q => ?_
  have hk : h'.get? a = some o := F.keep a o hn ap.1 ro.1
  have hn' : a ∉ dom H' := fun q => by
    rcases F.dom a q with q | q
    · exact hn q
    · have := ro.1; rw [q] at this; cases this
  refine k f v m' ((a, .obj o) :: H') h' tk ⟨R'.loc, fun b ob hb => ?_, List.nodup_cons.mpr ⟨hn', R'.nd⟩, fun b hb => ?_, R'.keep, R'.gl⟩ ⟨fun b ob hb hL e => ?_, fun b hb => ?_, F.alive⟩ r ⟨H', rfl, q⟩
  · rcases List.mem_cons.mp hb with e | e
    · cases e; exact ⟨hk, ro.2⟩
    · exact R'.obj b ob e
  · rcases List.mem_cons.mp hb with e | e
    · cases (e : b = a); exact ap
    · exact R'.apart b e
  · exact F.keep b ob (fun q => hb (List.mem_cons_of_mem _ q)) hL e
  · rcases List.mem_cons.mp hb with e | e
    · exact .inl (e ▸ List.mem_cons_self)
    · exact (F.dom b e).imp (List.mem_cons_of_mem _) id
end
end Mine
end
section
open PySem PySem.W PyProof.Rows PySem.Calls
set_option maxRecDepth 100000
namespace Mine
section
open PySem PySem.W PyProof.Rows PySem.Calls
set_option maxRecDepth 100000
noncomputable abbrev K08 (p : Params) : Frag := hdL.heap_1 p

noncomputable def llKind (first : Int) : Int := 3 + first.fmod 4
theorem llKind_bd (first : Int) : 3 ≤ llKind first ∧ llKind first ≤ 6 := by
  have h1 := Int.fmod_nonneg_of_pos first (b := 4) (by decide)
  have h2 := Int.fmod_lt_of_pos first (b := 4) (by decide)
  unfold llKind; (first | lia | omega)
theorem WPs.cutk {c : Ctx} {b : List Stmt} {m : Lo} {H : Hp} {Q : Fl → Lo → Hp → Prop} (h : ∀ Q' : Fl → Lo → Hp → Prop, (∀ f m H, Q f m H → Q' f m H) → WPs c b m H Q') : WPs c b m H Q := h Q fun _ _ _ q => q
noncomputable def llItem (first : Int) (ts : List V) (t : Int) : V := ts.getD ((t.fdiv 3).fmod (llKind first)).toNat .none
noncomputable def llA1 (first : Int) (ts : List V) (t : Int) : List V := if t.fmod 3 != 1 then [llItem first ts t] else []
noncomputable def llB1 (first : Int) (ts : List V) (t : Int) : List V := if t.fmod 3 != 0 then List.replicate (1 + ((t.fdiv 3).fdiv (llKind first)).fmod 3).toNat (llItem first ts t) else []
noncomputable def llA (first : Int) (ts : List V) (ns : List Int) : List V := ns.flatMap (llA1 first ts)
noncomputable def llB (first : Int) (ts : List V) (ns : List Int) : List V := ns.flatMap (llB1 first ts)
noncomputable def llSize (first : Int) : Int := ([0, 200, 199, 300, 299] : List Int).getD ((first.fdiv 4).fmod 5).toNat 0
theorem llSize_bd (first : Int) : 0 ≤ llSize first ∧ llSize first ≤ 300 := by
  unfold llSize
  have : ∀ k : Nat, 0 ≤ ([0, 200, 199, 300, 299] : List Int).getD k 0 ∧ ([0, 200, 199, 300, 299] : List Int).getD k 0 ≤ 300
    | 0 | 1 | 2 | 3 | 4 => by decide
    | k + 5 => by simp [List.getD]
  exact this _
noncomputable def llFresh (first : Int) (bs : List V) : List V := (List.range (llSize first - bs.length - 0).toNat).filterMap fun i => some (.int (1000 + (i : Nat)))
theorem llFresh_len (first : Int) (bs : List V) : (llFresh first bs).length ≤ 300 := by
  have := llSize_bd first
  unfold llFresh
  refine Nat.le_trans (List.length_filterMap_le _ _) ?_
  simp; (first | lia | omega)
noncomputable def llFull (first : Int) (bs : List V) : List V := if (first.fdiv 20).fmod 2 == 0 then bs ++ llFresh first bs else llFresh first bs ++ bs
theorem llB1_len (first : Int) (ts : List V) (t : Int) : (llB1 first ts t).length ≤ 3 := by
  unfold llB1
  have h2 := Int.fmod_lt_of_pos ((t.fdiv 3).fdiv (llKind first)) (b := 3) (by decide)
  split <;> simp; (first | lia | omega)
theorem llA1_len (first : Int) (ts : List V) (t : Int) : (llA1 first ts t).length ≤ 1 := by unfold llA1; split <;> simp
theorem flatMap_len {α : Type} (f : Int → List α) (k : Nat) (h : ∀ t, (f t).length ≤ k) : ∀ ns : List Int, (ns.flatMap f).length ≤ k * ns.length
  | [] => by simp
  | t :: ns => by have := flatMap_len f k h ns; have := h t; simp only [List.flatMap_cons, List.length_append, List.length_cons, Nat.mul_add]; (first | lia | omega)
theorem flatMap_snoc {α : Type} (f : Int → List α) (ns : List Int) (i : Nat) (t : Int) (h : ns[i]? = some t) : (ns.take (i + 1)).flatMap f = (ns.take i).flatMap f ++ f t := by
  rw [List.take_add_one, h, List.flatMap_append]; simp
noncomputable def llI (first : Int) (ts : List V) (ns : List Int) (H : Hp) (xa xb rt ra : Addr) (i : Nat) (m2 : Lo) (H2 : Hp) : Prop := Less m2 H2 [("b", .ref xb), ("a", .ref xa), ("kinds", .int (llKind first)), ("things", .ref rt), ("numbers", .ref ra), ("first", .int first)]
    ((xb, .list (llB first ts (ns.take i))) :: (xa, .list (llA first ts (ns.take i))) :: H)
theorem law_lists_ok (p : Params) (c : Ctx) (B : Base c (K08 p)) (hs : c.env.scope = (fdIn (K08 p) 251).scope) {H : Hp} {first : Int} {ra rt : Addr} {ns : List Int} {ts : List V} (hts : ts.length = 6) (hns : ns.length ≤ 100) (hra : (ra, O.list (ns.map V.int)) ∈ H) (hrt : (rt, O.list ts) ∈ H)
    : WPs c (bodyIn (fdIn (K08 p) 251)) [("things", .ref rt), ("numbers", .ref ra), ("first", .int first)] (H)
      fun f _ H' => ∃ xa xb, f = .ret (.tup .none [.ref xa, .ref xb]) ∧ Less [] H' [] ((xb, .list (llFull first (llB first ts ns))) :: (xa, .list (llA first ts ns)) :: H) := by
  have hn := congrArg Scope.names hs
  conv at hn => rhs; whnf
  have gl : Glob c "len" (.bi "len") := B.bi (kind_of hn (by decide +kernel)) (by kernel_rfl) (by kernel_rfl) (by decide) rfl
  have gr : Glob c "range" (.ty "range") := B.bi (kind_of hn (by decide +kernel)) (by kernel_rfl) (by kernel_rfl) (by decide) rfl
  have hz : sizeLine = 16777216 := rfl
  refine s_cons (s1_assign ?_)
  with_reducible refine e_binop ?_
  with_reducible refine e_int ?_
  with_reducible refine e_binop ?_
  refine e_loc (by with_reducible assumption) (by decide +kernel) (Loc.tail (by decide) (Loc.tail (by decide) (Loc.head _))) ?_
  with_reducible refine e_int ?_
  refine o_mod ?_
  with_reducible refine o_add ?_
  refine sto_local (kind_of (by with_reducible assumption) (by decide +kernel)) ?_
  ((with_reducible refine s_cons ?_); refine s1_assign ?_)
  with_reducible refine e_list ?_
  with_reducible refine items_nil ?_
  refine ⟨by exact Nat.le_of_ble_eq_true rfl, ?_⟩
  intro xa
  refine sto_local (kind_of (by with_reducible assumption) (by decide +kernel)) ?_
  ((with_reducible refine s_cons ?_); refine s1_assign ?_)
  with_reducible refine e_list ?_
  with_reducible refine items_nil ?_
  refine ⟨by exact Nat.le_of_ble_eq_true rfl, ?_⟩
  intro xb
  refine sto_local (kind_of (by with_reducible assumption) (by decide +kernel)) ?_
  refine s_for_list ?_
  refine e_loc (by with_reducible assumption) (by decide +kernel) (Loc.tail (by decide) (Loc.tail (by decide) (Loc.tail (by decide) (Loc.tail (by decide) (Loc.head _))))) ?_
  refine ⟨_, ns.map .int, rfl, ?_⟩
  have hb1 := llKind_bd first
  refine ⟨llI first ts ns H xa xb rt ra, Less.refl _ _, fun i m2 H2 hl => Sees.less hl (List.mem_cons_of_mem _ (List.mem_cons_of_mem _ (by with_reducible assumption))), ?_, ?_⟩
  · intro i v m2 H2 hi hl
    obtain ⟨t, ht, rfl⟩ : ∃ t, ns[i]? = some t ∧ v = .int t := by
      rw [List.getElem?_map] at hi
      cases q : ns[i]? with
      | none => rw [q] at hi; cases hi
      | some t => rw [q] at hi; cases hi; exact ⟨t, rfl, rfl⟩
    refine On1.less hl (asg_name ?_)
    have hk0 : llKind first ≠ 0 := by (first | lia | omega)
    have hkn : (llKind first).natAbs < 1073741824 := by (first | lia | omega)
    have lenA : (llA first ts (ns.take i)).length ≤ 100 := by have := flatMap_len (llA1 first ts) 1 (llA1_len first ts) (ns.take i); unfold llA; simp at this ⊢; (exact ar2 3 (.l (.v 0) (.n 100)) (.l (.v 1) (.mn (.v 2) (.v 0))) (.l (.v 1) (.n 100)) (by kernel_rfl) [_, _, _] hns this)
    have lenB : (llB first ts (ns.take i)).length ≤ 300 := by have := flatMap_len (llB1 first ts) 3 (llB1_len first ts) (ns.take i); unfold llB; simp at this ⊢; (exact ar2 3 (.l (.v 0) (.n 100)) (.l (.v 1) (.m 3 (.mn (.v 2) (.v 0)))) (.l (.v 1) (.n 300)) (by kernel_rfl) [_, _, _] hns this)
    refine sto_local (kind_of (by with_reducible assumption) (by decide +kernel)) ?_
    show WPs c _ _ _ _
    refine WPs.cutk fun Qa hQa => ?_
    ((with_reducible refine s_cons ?_); refine s1_assign ?_)
    with_reducible refine e_sub ?_
    refine e_loc (by with_reducible assumption) (by decide +kernel) (Loc.tail (by decide) (Loc.tail (by decide) (Loc.tail (by decide) (Loc.tail (by decide) (Loc.head _))))) ?_
    with_reducible refine e_binop ?_
    with_reducible refine e_binop ?_
    refine e_loc (by with_reducible assumption) (by decide +kernel) (Loc.head _) ?_
    with_reducible refine e_int ?_
    refine o_div ?_
    refine e_loc (by with_reducible assumption) (by decide +kernel) (Loc.tail (by decide) (Loc.tail (by decide) (Loc.tail (by decide) (Loc.head _)))) ?_
    refine o_mod ?_ hk0
    have f1 := Int.fmod_nonneg_of_pos (t.fdiv 3) (b := llKind first) (by (first | lia | omega))
    have f2 := Int.fmod_lt_of_pos (t.fdiv 3) (b := llKind first) (by (first | lia | omega))
    refine sub_list (u := llItem first ts t) (xs := ts) (Sees.mem (List.mem_cons_of_mem _ (List.mem_cons_of_mem _ (by with_reducible assumption)))) f1 ?_ ?_ (hl := by (exact ar2 2 (.e (.v 0) (.n 6)) (.e (.v 1) (.n 16777216)) (.l (.v 0) (.v 1)) (by kernel_rfl) [_, _] hts hz))
    · have : ((t.fdiv 3).fmod (llKind first)).toNat < ts.length := by (first | lia | omega)
      unfold llItem; simp [List.getD, this]
    refine sto_local (kind_of (by with_reducible assumption) (by decide +kernel)) ?_
    have fa := flatMap_snoc (llA1 first ts) ns i t ht
    have fb := flatMap_snoc (llB1 first ts) ns i t ht
    refine s_to [("x", llItem first ts t), ("t", .int t), ("b", .ref xb), ("a", .ref xa), ("kinds", .int (llKind first)), ("things", .ref rt), ("numbers", .ref ra), ("first", .int first)]
      ((xb, .list (llB first ts (ns.take i))) :: (xa, .list (llA first ts (ns.take (i + 1)))) :: H) (s1_if ?_) ?_
    · refine t_cmp ?_ (by with_unfolding_all rfl)
      with_reducible refine e_binop ?_
      refine e_loc (by with_reducible assumption) (by decide +kernel) (Loc.tail (by decide) (Loc.head _)) ?_
      with_reducible refine e_int ?_
      refine o_mod ?_
      with_reducible refine e_int ?_
      with_reducible refine c_ne ?_
      with_reducible refine tru_bool ?_
      refine if_b (fun hA => ?_) (fun hA => ?_)
      · ((with_reducible refine s_cons ?_); refine s1_expr ?_)
        refine e_method ?_
        refine e_loc (by with_reducible assumption) (by decide +kernel) (Loc.tail (by decide) (Loc.tail (by decide) (Loc.tail (by decide) (Loc.head _)))) ?_
        refine ⟨_, _, gm_list (Sees.mem (List.mem_cons_of_mem _ List.mem_cons_self)) F.slot_list_append F.type_list_append, ?_⟩
        refine items_cons ?_
        refine e_loc (by with_reducible assumption) (by decide +kernel) (Loc.head _) ?_
        with_reducible refine items_nil ?_
        refine ⟨keep_bi, k_append (Upd.tail (Upd.head _)) ?_ ?hz⟩
        case hz => (exact ar2 2 (.e (.v 0) (.n 16777216)) (.l (.v 1) (.n 100)) (.l (.v 1) (.v 0)) (by kernel_rfl) [_, _] hz lenA)
        with_reducible refine s_nil ?_
        have : llA first ts (ns.take (i + 1)) = llA first ts (ns.take i) ++ [llItem first ts t] := by unfold llA; rw [fa]; simp [llA1, hA]
        rw [this]
        exact (less_of (LessM.cons (Loc.head _) (LessM.cons (Loc.tail (by decide) (Loc.head _)) (LessM.cons (Loc.tail (by decide) (Loc.tail (by decide) (Loc.head _))) (LessM.cons (Loc.tail (by decide) (Loc.tail (by decide) (Loc.tail (by decide) (Loc.head _)))) (LessM.cons (Loc.tail (by decide) (Loc.tail (by decide) (Loc.tail (by decide) (Loc.tail (by decide) (Loc.head _))))) (LessM.cons (Loc.tail (by decide) (Loc.tail (by decide) (Loc.tail (by decide) (Loc.tail (by decide) (Loc.tail (by decide) (Loc.head _)))))) (LessM.cons (Loc.tail (by decide) (Loc.tail (by decide) (Loc.tail (by decide) (Loc.tail (by decide) (Loc.tail (by decide) (Loc.tail (by decide) (Loc.head _))))))) (LessM.cons (Loc.tail (by decide) (Loc.tail (by decide) (Loc.tail (by decide) (Loc.tail (by decide) (Loc.tail (by decide) (Loc.tail (by decide) (Loc.tail (by decide) (Loc.head _)))))))) LessM.nil)))))))) (List.Sublist.refl _))
      · with_reducible refine s_nil ?_
        have : llA first ts (ns.take (i + 1)) = llA first ts (ns.take i) := by unfold llA; rw [fa]; simp [llA1, hA]
        rw [this]
        exact (less_of (LessM.cons (Loc.head _) (LessM.cons (Loc.tail (by decide) (Loc.head _)) (LessM.cons (Loc.tail (by decide) (Loc.tail (by decide) (Loc.head _))) (LessM.cons (Loc.tail (by decide) (Loc.tail (by decide) (Loc.tail (by decide) (Loc.head _)))) (LessM.cons (Loc.tail (by decide) (Loc.tail (by decide) (Loc.tail (by decide) (Loc.tail (by decide) (Loc.head _))))) (LessM.cons (Loc.tail (by decide) (Loc.tail (by decide) (Loc.tail (by decide) (Loc.tail (by decide) (Loc.tail (by decide) (Loc.head _)))))) (LessM.cons (Loc.tail (by decide) (Loc.tail (by decide) (Loc.tail (by decide) (Loc.tail (by decide) (Loc.tail (by decide) (Loc.tail (by decide) (Loc.head _))))))) (LessM.cons (Loc.tail (by decide) (Loc.tail (by decide) (Loc.tail (by decide) (Loc.tail (by decide) (Loc.tail (by decide) (Loc.tail (by decide) (Loc.tail (by decide) (Loc.head _)))))))) LessM.nil)))))))) (List.Sublist.refl _))
    · refine s_cons (s1_if ?_)
      refine t_cmp ?_ (by with_unfolding_all rfl)
      with_reducible refine e_binop ?_
      refine e_loc (by with_reducible assumption) (by decide +kernel) (Loc.tail (by decide) (Loc.head _)) ?_
      with_reducible refine e_int ?_
      refine o_mod ?_
      with_reducible refine e_int ?_
      with_reducible refine c_ne ?_
      with_reducible refine tru_bool ?_
      have g2 := Int.fmod_lt_of_pos ((t.fdiv 3).fdiv (llKind first)) (b := 3) (by decide)
      have g1 := Int.fmod_nonneg_of_pos ((t.fdiv 3).fdiv (llKind first)) (b := 3) (by decide)
      refine if_b (fun hB => ?_) (fun hB => ?_)
      · ((with_reducible refine s_cons ?_); refine s1_expr ?_)
        refine e_method ?_
        refine e_loc (by with_reducible assumption) (by decide +kernel) (Loc.tail (by decide) (Loc.tail (by decide) (Loc.head _))) ?_
        refine ⟨_, _, gm_list (Sees.mem List.mem_cons_self) F.slot_list_extend F.type_list_extend, ?_⟩
        refine items_cons ?_
        with_reducible refine e_binop ?_
        with_reducible refine e_list ?_
        refine items_cons ?_
        refine e_loc (by with_reducible assumption) (by decide +kernel) (Loc.head _) ?_
        with_reducible refine items_nil ?_
        refine ⟨by exact Nat.le_of_ble_eq_true rfl, ?_⟩
        intro y1
        with_reducible refine e_binop ?_
        with_reducible refine e_int ?_
        with_reducible refine e_binop ?_
        with_reducible refine e_binop ?_
        with_reducible refine e_binop ?_
        refine e_loc (by with_reducible assumption) (by decide +kernel) (Loc.tail (by decide) (Loc.head _)) ?_
        with_reducible refine e_int ?_
        refine o_div ?_
        refine e_loc (by with_reducible assumption) (by decide +kernel) (Loc.tail (by decide) (Loc.tail (by decide) (Loc.tail (by decide) (Loc.tail (by decide) (Loc.head _))))) ?_
        refine o_div ?_ hk0 hkn
        with_reducible refine e_int ?_
        refine o_mod ?_
        with_reducible refine o_add ?_
        refine o_rep (xs := [llItem first ts t]) (Sees.mem List.mem_cons_self) ?_ (by (first | lia | omega)) (by simp; (first | lia | omega))
        intro y2
        with_reducible refine items_nil ?_
        refine ⟨keep_bi, k_extend (Sees.mem List.mem_cons_self) (Upd.tail (Upd.tail (Upd.head _))) ?_ ?hz⟩
        case hz => rw [lm_rep_flat_one]; simp; (first | lia | omega)
        with_reducible refine s_nil ?_
        with_reducible refine s_nil ?_
        have : llB first ts (ns.take (i + 1)) = llB first ts (ns.take i) ++ (List.replicate (1 + ((t.fdiv 3).fdiv (llKind first)).fmod 3).toNat [llItem first ts t]).flatten := by unfold llB; rw [fb, lm_rep_flat_one]; simp [llB1, hB]
        refine hQa _ _ _ ?_
        dsimp only
        unfold llI
        rw [this]
        exact (less_of (LessM.cons (Loc.tail (by decide) (Loc.tail (by decide) (Loc.head _))) (LessM.cons (Loc.tail (by decide) (Loc.tail (by decide) (Loc.tail (by decide) (Loc.head _)))) (LessM.cons (Loc.tail (by decide) (Loc.tail (by decide) (Loc.tail (by decide) (Loc.tail (by decide) (Loc.head _))))) (LessM.cons (Loc.tail (by decide) (Loc.tail (by decide) (Loc.tail (by decide) (Loc.tail (by decide) (Loc.tail (by decide) (Loc.head _)))))) (LessM.cons (Loc.tail (by decide) (Loc.tail (by decide) (Loc.tail (by decide) (Loc.tail (by decide) (Loc.tail (by decide) (Loc.tail (by decide) (Loc.head _))))))) (LessM.cons (Loc.tail (by decide) (Loc.tail (by decide) (Loc.tail (by decide) (Loc.tail (by decide) (Loc.tail (by decide) (Loc.tail (by decide) (Loc.tail (by decide) (Loc.head _)))))))) LessM.nil)))))) (List.Sublist.cons _ (List.Sublist.cons _ (List.Sublist.refl _))))
      · with_reducible refine s_nil ?_
        with_reducible refine s_nil ?_
        have : llB first ts (ns.take (i + 1)) = llB first ts (ns.take i) := by unfold llB; rw [fb]; simp [llB1, hB]
        refine hQa _ _ _ ?_
        dsimp only
        unfold llI
        rw [this]
        exact (less_of (LessM.cons (Loc.tail (by decide) (Loc.tail (by decide) (Loc.head _))) (LessM.cons (Loc.tail (by decide) (Loc.tail (by decide) (Loc.tail (by decide) (Loc.head _)))) (LessM.cons (Loc.tail (by decide) (Loc.tail (by decide) (Loc.tail (by decide) (Loc.tail (by decide) (Loc.head _))))) (LessM.cons (Loc.tail (by decide) (Loc.tail (by decide) (Loc.tail (by decide) (Loc.tail (by decide) (Loc.tail (by decide) (Loc.head _)))))) (LessM.cons (Loc.tail (by decide) (Loc.tail (by decide) (Loc.tail (by decide) (Loc.tail (by decide) (Loc.tail (by decide) (Loc.tail (by decide) (Loc.head _))))))) (LessM.cons (Loc.tail (by decide) (Loc.tail (by decide) (Loc.tail (by decide) (Loc.tail (by decide) (Loc.tail (by decide) (Loc.tail (by decide) (Loc.tail (by decide) (Loc.head _)))))))) LessM.nil)))))) (List.Sublist.refl _))
  · intro m2 H2 hl
    refine WPs.less hl ?_
    have e : ns.take (ns.map V.int).length = ns := by simp
    rw [e]
    have lenA : (llA first ts ns).length ≤ 100 := by have := flatMap_len (llA1 first ts) 1 (llA1_len first ts) ns; unfold llA; (exact ar2 2 (.l (.v 0) (.n 100)) (.l (.v 1) (.m 1 (.v 0))) (.l (.v 1) (.n 100)) (by kernel_rfl) [_, _] hns this)
    have lenB : (llB first ts ns).length ≤ 300 := by have := flatMap_len (llB1 first ts) 3 (llB1_len first ts) ns; unfold llB; (exact ar2 2 (.l (.v 0) (.n 100)) (.l (.v 1) (.m 3 (.v 0))) (.l (.v 1) (.n 300)) (by kernel_rfl) [_, _] hns this)
    generalize llA first ts ns = as at *
    generalize llB first ts ns = bs at *
    ((with_reducible refine s_cons ?_); refine s1_assign ?_)
    with_reducible refine e_sub ?_
    with_reducible refine e_list ?_
    refine items_cons ?_
    with_reducible refine e_int ?_
    refine items_cons ?_
    with_reducible refine e_int ?_
    refine items_cons ?_
    with_reducible refine e_int ?_
    refine items_cons ?_
    with_reducible refine e_int ?_
    refine items_cons ?_
    with_reducible refine e_int ?_
    with_reducible refine items_nil ?_
    refine ⟨by exact Nat.le_of_ble_eq_true rfl, ?_⟩
    intro y1
    with_reducible refine e_binop ?_
    with_reducible refine e_binop ?_
    refine e_loc (by with_reducible assumption) (by decide +kernel) (Loc.tail (by decide) (Loc.tail (by decide) (Loc.tail (by decide) (Loc.tail (by decide) (Loc.tail (by decide) (Loc.head _)))))) ?_
    with_reducible refine e_int ?_
    refine o_div ?_
    with_reducible refine e_int ?_
    refine o_mod ?_
    have f1 := Int.fmod_nonneg_of_pos (first.fdiv 4) (b := 5) (by decide)
    have f2 := Int.fmod_lt_of_pos (first.fdiv 4) (b := 5) (by decide)
    refine sub_list (u := .int (llSize first)) (xs := [.int 0, .int 200, .int 199, .int 300, .int 299]) (Sees.mem List.mem_cons_self) f1 ?_ ?_
    · unfold llSize
      have : ∀ k : Nat, k < 5 → ([V.int 0, .int 200, .int 199, .int 300, .int 299] : List V)[k]? = some (.int (([0, 200, 199, 300, 299] : List Int).getD k 0)) := by decide
      exact this _ (by (first | lia | omega))
    refine sto_local (kind_of (by with_reducible assumption) (by decide +kernel)) ?_
    have hS := llSize_bd first
    refine s_cons (s1_comp (cl := []) (closureFor_none (by decide)) rfl (kind_of hn (by decide +kernel)) (it_range rfl ?_) (swaps_yes hn (by decide +kernel) (by decide) (by decide)))
    refine e_call ?_
    refine e_glob (by with_reducible assumption) ?_
    refine items_cons ?_
    with_reducible refine e_binop ?_
    refine e_loc (by with_reducible assumption) (by decide +kernel) (Loc.head _) ?_
    refine e_call ?_
    refine e_glob (by with_reducible assumption) ?_
    refine items_cons ?_
    refine e_loc (by with_reducible assumption) (by decide +kernel) (Loc.tail (by decide) (Loc.head _)) ?_
    with_reducible refine items_nil ?_
    refine ⟨keep_bi, k_len (Sees.mem (List.mem_cons_of_mem _ List.mem_cons_self)) ?_ ?hz⟩
    case hz => (exact ar1 1 (.l (.v 0) (.n 300)) (.l (.v 0) (.n 1000000)) (by kernel_rfl) [_] lenB)
    with_reducible refine o_sub ?_
    with_reducible refine items_nil ?_
    refine ⟨keep_ty, k_range ?_⟩
    intro y2
    have hbs : (0 : Int) ≤ bs.length := by (first | lia | omega)
    refine ⟨_, _, _, rfl, by exact (Sees.mem List.mem_cons_self), by (first | lia | omega), by (first | lia | omega), ?_⟩
    refine ⟨by (first | lia | omega), compOver (f := fun i => some (.int (1000 + i))) (H' := (xb, .list bs) :: (xa, .list as) :: H) (fun _ => by exact (less_of LessM.nil (List.Sublist.cons _ (List.Sublist.cons _ (List.Sublist.refl _))))) ?_ (fun _ _ => trivial) ?_⟩
    · intro c2 hc i hi
      refine asg_name ?_
      have hn2 := hc.named hn
      refine sto_local (kind_of (by with_reducible assumption) (by decide +kernel)) ?_
      show WPe _ _ _ _ _
      with_reducible refine e_binop ?_
      with_reducible refine e_int ?_
      refine e_loc (by with_reducible assumption) (by decide +kernel) (Loc.head _) ?_
      with_reducible refine o_add ?_
      refine ⟨by simp, by exact (less_of LessM.nil (List.Sublist.refl _))⟩
    · intro H2 hl D
      refine WPs.less hl.lift ?_
      have lF := llFresh_len first bs
      show WPs c _ _ ((D, .list (llFresh first bs)) :: _) _
      refine s_if ?_
      refine t_cmp ?_ (by with_unfolding_all rfl)
      with_reducible refine e_binop ?_
      with_reducible refine e_binop ?_
      refine e_loc (by with_reducible assumption) (by decide +kernel) (Loc.tail (by decide) (Loc.tail (by decide) (Loc.tail (by decide) (Loc.tail (by decide) (Loc.tail (by decide) (Loc.tail (by decide) (Loc.tail (by decide) (Loc.head _)))))))) ?_
      with_reducible refine e_int ?_
      refine o_div ?_
      with_reducible refine e_int ?_
      refine o_mod ?_
      with_reducible refine e_int ?_
      with_reducible refine c_eq ?_
      with_reducible refine tru_bool ?_
      refine if_b (fun h => ?_) (fun h => ?_)
      · with_reducible refine s_cons (s1_return ?_)
        with_reducible refine e_tuple ?_
        refine items_cons ?_
        refine e_loc (by with_reducible assumption) (by decide +kernel) (Loc.tail (by decide) (Loc.tail (by decide) (Loc.tail (by decide) (Loc.head _)))) ?_
        refine items_cons ?_
        with_reducible refine e_binop ?_
        refine e_loc (by with_reducible assumption) (by decide +kernel) (Loc.tail (by decide) (Loc.tail (by decide) (Loc.head _))) ?_
        refine e_loc (by with_reducible assumption) (by decide +kernel) (Loc.head _) ?_
        refine o_cat (xs := bs) (ys := llFresh first bs) (Sees.mem (List.mem_cons_of_mem _ List.mem_cons_self)) (Sees.mem List.mem_cons_self) ?_ (by (exact ar3 3 (.e (.v 0) (.n 16777216)) (.l (.v 1) (.n 300)) (.l (.v 2) (.n 300)) (.l (.a (.v 1) (.v 2)) (.v 0)) (by kernel_rfl) [_, _, _] hz lenB lF))
        intro E
        with_reducible refine items_nil ?_
        refine ⟨[.ref xa, .ref E], rfl, by exact Nat.le_of_ble_eq_true rfl, xa, E, rfl, ?_⟩
        rw [show llFull first bs = bs ++ llFresh first bs by unfold llFull; rw [if_pos h]]
        exact (less_of LessM.nil (List.Sublist.cons_cons _ (List.Sublist.cons _ (List.Sublist.cons _ (List.Sublist.refl _)))))
      · with_reducible refine s_nil ?_
        with_reducible refine s_cons (s1_return ?_)
        with_reducible refine e_tuple ?_
        refine items_cons ?_
        refine e_loc (by with_reducible assumption) (by decide +kernel) (Loc.tail (by decide) (Loc.tail (by decide) (Loc.tail (by decide) (Loc.head _)))) ?_
        refine items_cons ?_
        with_reducible refine e_binop ?_
        refine e_loc (by with_reducible assumption) (by decide +kernel) (Loc.head _) ?_
        refine e_loc (by with_reducible assumption) (by decide +kernel) (Loc.tail (by decide) (Loc.tail (by decide) (Loc.head _))) ?_
        refine o_cat (xs := llFresh first bs) (ys := bs) (Sees.mem List.mem_cons_self) (Sees.mem (List.mem_cons_of_mem _ List.mem_cons_self)) ?_ (by (exact ar3 3 (.e (.v 0) (.n 16777216)) (.l (.v 1) (.n 300)) (.l (.v 2) (.n 300)) (.l (.a (.v 2) (.v 1)) (.v 0)) (by kernel_rfl) [_, _, _] hz lenB lF))
        intro E
        with_reducible refine items_nil ?_
        refine ⟨[.ref xa, .ref E], rfl, by exact Nat.le_of_ble_eq_true rfl, xa, E, rfl, ?_⟩
        rw [show llFull first bs = llFresh first bs ++ bs by unfold llFull; rw [if_neg (by rw [h]; decide)]]
        exact (less_of LessM.nil (List.Sublist.cons_cons _ (List.Sublist.cons _ (List.Sublist.cons _ (List.Sublist.refl _)))))
end
section
open PySem PySem.W PyProof.Rows PySem.Calls
set_option maxRecDepth 100000

theorem cls08 (p : Params) : Cls (K08 p) 242 := ⟨by kernel_rfl, by kernel_rfl, by kernel_rfl, by kernel_rfl, by kernel_rfl⟩
structure JunkFn (c : Ctx) (J : V) (jk : IS → Bool) (W : Hp) : Prop where
  tru : ∀ m H' (Q : Bool → Lo → Hp → Prop), (∀ p ∈ W, p ∈ H') → Q true m H' → Tru c J m H' Q
  keep : ∀ H', (∀ p ∈ W, p ∈ H') → KeepOk c J H'
  call : ∀ k m H' (Q : V → Lo → Hp → Prop), (∀ p ∈ W, p ∈ H') → Q (.bool (jk k)) m H' → Cal c J [k.v] m H' Q
noncomputable def JunkOk (c : Ctx) (J : V) (jk : IS → Bool) (W : Hp) : Prop := (J = .none ∧ ∀ k, jk k = false) ∨ JunkFn c J jk W
noncomputable def chPop (n : Nat) (on : Bool) (e : IS × Addr × List Int) : Bool := on && decide (200 ≤ n) && decide (n / 100 + 1 < e.2.2.length)
theorem inj_nodup : ∀ {G : GL} (nd : (G.map (·.1)).Nodup) {e e' : IS × Addr × List Int} (h : e ∈ G) (h' : e' ∈ G) (q : e.1 = e'.1), e = e'
  | [], _, _, _, h, _, _ => by cases h
  | g :: G, nd, e, e', h, h', q => by
    rw [List.map_cons, List.nodup_cons] at nd
    rcases List.mem_cons.mp h with rfl | h1 <;> rcases List.mem_cons.mp h' with rfl | h2
    · rfl
    · exact absurd (List.mem_map.mpr ⟨e', h2, q.symm⟩) nd.1
    · exact absurd (List.mem_map.mpr ⟨e, h1, q⟩) nd.1
    · exact inj_nodup nd.2 h1 h2 q
theorem filter_keys {G : GL} (nd : (G.map (·.1)).Nodup) (P : IS × Addr × List Int → Bool) (σ : List IS) (h : ∀ k, k ∈ σ ↔ k ∈ (G.filter P).map (·.1)) : ((gD G).filter fun e => decide (e.1 ∉ σ)) = gD (G.filter fun e => !P e) := by
  unfold gD
  rw [List.filter_map]
  congr 1
  apply List.filter_congr
  intro e he
  have : e.1 ∈ σ ↔ P e = true := by
    rw [h]
    constructor
    · intro q
      obtain ⟨e', he', ee⟩ := List.mem_map.mp q
      obtain ⟨h1, h2⟩ := List.mem_filter.mp he'
      obtain rfl : e' = e := inj_nodup nd h1 he ee
      exact h2
    · intro q
      exact List.mem_map.mpr ⟨e, List.mem_filter.mpr ⟨he, q⟩, rfl⟩
  by_cases q : P e = true
  · simp [this, q]
  · simp [this, q]
noncomputable def chI1 (bs : List IS) (fs : List (Str × V)) (H : Hp) (D x d rb : Addr) (i : Nat) (m2 : Lo) (H2 : Hp) : Prop := ∃ G ep, gP G = grpTo bs i ∧ Less m2 H2 [("b2j", .ref D), ("b", .ref rb), ("self", .ref x)] ((D, .dict ep (gD G)) :: (x, .inst 242 d) :: (d, .ns (("b2j", .ref D) :: fs)) :: (gL G ++ H))
noncomputable def chJ1 (G : GL) (jk : IS → Bool) (fs : List (Str × V)) (H : Hp) (S D x d rb : Addr) (m1 : Lo) (H1 : Hp) : Prop := ∃ z' ep', Less m1 H1 [("b2j", .ref D), ("b", .ref rb), ("self", .ref x)] ((S, .set z' ((G.map (·.1)).filter jk)) :: (D, .dict ep' (gD (G.filter fun e => !jk e.1))) :: (x, .inst 242 d) :: (d, .ns (("bjunk", .ref S) :: ("b2j", .ref D) :: fs)) :: (gL G ++ H))
noncomputable def chI2 (G : GL) (jk : IS → Bool) (J : V) (ep : Nat) (fs : List (Str × V)) (H : Hp) (S D x d rb : Addr) (i : Nat) (m2 : Lo) (H2 : Hp) : Prop := ∃ z', Less m2 H2 [("isjunk", J), ("junk", .ref S), ("b2j", .ref D), ("b", .ref rb), ("self", .ref x)] ((S, .set z' (((G.take i).map (·.1)).filter jk)) :: (D, .dict ep (gD G)) :: (x, .inst 242 d) :: (d, .ns (("bjunk", .ref S) :: ("b2j", .ref D) :: fs)) :: (gL G ++ H))
noncomputable def chJ2 (G G1 : GL) (bs : List IS) (on : Bool) (jk : IS → Bool) (z1 : Raw) (fs : List (Str × V)) (H : Hp) (S2 S D x d : Addr) (m1 : Lo) (H1 : Hp) : Prop := ∃ z' ep', Less m1 H1 [] ((S2, .set z' (if on && decide (200 ≤ bs.length) then (G1.filter fun e => decide ((bs.length / 100 + 1 : Nat) < e.2.2.length)).map (·.1) else [])) :: (S, .set z1 ((G.map (·.1)).filter jk)) :: (D, .dict ep' (gD (if on && decide (200 ≤ bs.length) then G1.filter fun e => !decide ((bs.length / 100 + 1 : Nat) < e.2.2.length) else G1))) :: (x, .inst 242 d) :: (d, .ns (("bpopular", .ref S2) :: ("bjunk", .ref S) :: ("b2j", .ref D) :: fs)) :: (gL G ++ H))
noncomputable def chI3 (G G1 : GL) (bs : List IS) (jk : IS → Bool) (z1 : Raw) (ep1 : Nat) (fs : List (Str × V)) (H : Hp) (S2 S D x d rb : Addr) (i : Nat) (m2 : Lo) (H2 : Hp) : Prop := ∃ z', Less m2 H2 [("ntest", .int (((bs.map IS.v).length : Int).fdiv 100 + 1)), ("popular", .ref S2), ("b2j", .ref D), ("b", .ref rb), ("self", .ref x)] ((S2, .set z' (((G1.take i).filter fun e => decide ((bs.length / 100 + 1 : Nat) < e.2.2.length)).map (·.1))) :: (S, .set z1 ((G.map (·.1)).filter jk)) :: (D, .dict ep1 (gD G1)) :: (x, .inst 242 d) :: (d, .ns (("bpopular", .ref S2) :: ("bjunk", .ref S) :: ("b2j", .ref D) :: fs)) :: (gL G ++ H))
theorem chain_ok (p : Params) (c : Ctx) (B : Base c (K08 p)) (hs : c.env.scope = (fdIn (K08 p) 188).scope) {H : Hp} {x d rb : Addr} {fs : List (Str × V)} {bs : List IS} {J : V} {on : Bool} (hfb : fs.lookup ("b" : Str) = some (.ref rb)) (hfj : fs.lookup ("isjunk" : Str) = some J) (hfa : fs.lookup ("autojunk" : Str) = some (.bool on)) (hJb : J.notBi = true) {jk : IS → Bool} {W : Hp} (hJ : JunkOk c J jk W) (hW : ∀ p ∈ W, p ∈ H) (hrb : (rb, O.list (bs.map IS.v)) ∈ H) (hfz : fs.length ≤ 100) (hbz : bs.length ≤ 1000)
    : WPs c (bodyIn (fdIn (K08 p) 188)) [("self", .ref x)] ((x, .inst 242 d) :: (d, .ns fs) :: H)
      fun f _ H' => f.val = .none ∧ ∃ D S S2 z1 z2 ep G, gP G = grp bs ∧ Less [] H' [] ((S2, .set z2 (((G.filter fun e => !jk e.1).filter (chPop bs.length on)).map (·.1))) :: (S, .set z1 ((G.map (·.1)).filter jk)) :: (D, .dict ep (gD ((G.filter fun e => !jk e.1).filter fun e => !chPop bs.length on e))) :: (x, .inst 242 d) :: (d, .ns (("bpopular", .ref S2) :: ("bjunk", .ref S) :: ("b2j", .ref D) :: fs)) :: (gL G ++ H)) := by
  have hn := congrArg Scope.names hs
  conv at hn => rhs; whnf
  refine WPs.cutk fun Q0 hQ0 => ?_
  have hC := cls08 p
  have gl : Glob c "len" (.bi "len") := B.bi (kind_of hn (by decide +kernel)) (by kernel_rfl) (by kernel_rfl) (by decide) rfl
  have ge : Glob c "enumerate" (.ty "enumerate") := B.bi (kind_of hn (by decide +kernel)) (by kernel_rfl) (by kernel_rfl) (by decide) rfl
  have gs : Glob c "set" (.ty "set") := B.bi (kind_of hn (by decide +kernel)) (by kernel_rfl) (by kernel_rfl) (by decide) rfl
  refine s_cons (s1_assign ?_)
  refine e_attr ?_
  refine e_loc (by with_reducible assumption) (by decide +kernel) (Loc.head _) ?_
  refine a_inst B hC (by kernel_rfl) (Sees.mem List.mem_cons_self) (Sees.mem (List.mem_cons_of_mem _ List.mem_cons_self)) hfb ?_
  refine sto_local (kind_of (by with_reducible assumption) (by decide +kernel)) ?_
  refine s_cons (s1_to2 ?_)
  refine e_dict B ?_
  intro D
  refine asg_attr ?_
  refine e_loc (by with_reducible assumption) (by decide +kernel) (Loc.tail (by decide) (Loc.head _)) ?_
  refine set_inst B hC (by kernel_rfl) (Sees.mem (List.mem_cons_of_mem _ List.mem_cons_self)) (Upd.tail (Upd.tail (Upd.head _))) ?_ (by (exact ar1 1 (.l (.v 0) (.n 100)) (.l (.v 0) (.n 1000)) (by kernel_rfl) [_] hfz))
  refine asg_name ?_
  refine sto_local (kind_of (by with_reducible assumption) (by decide +kernel)) ?_
  refine s_cons (s1_for (it_enum ge ?_))
  refine e_loc (by with_reducible assumption) (by decide +kernel) (Loc.tail (by decide) (Loc.head _)) ?_
  refine ⟨rb, bs.map IS.a, rfl, ?_, ?_⟩
  · rw [List.map_map]
    have e : (V.at ∘ IS.a) = IS.v := by funext k; exact (IS.v_a k).symm
    rw [e]
    exact (Sees.mem (List.mem_cons_of_mem _ (List.mem_cons_of_mem _ (List.mem_cons_of_mem _ (by with_reducible assumption)))))
  refine ⟨chI1 bs fs H D x d rb, ?_, ?_, ?_⟩
  · refine ⟨[], 0, rfl, ?_⟩
    show Less _ _ _ ((D, .dict 0 []) :: (x, .inst 242 d) :: (d, .ns (("b2j", .ref D) :: fs)) :: H)
    exact (less_of (LessM.cons (Loc.head _) (LessM.cons (Loc.tail (by decide) (Loc.head _)) (LessM.cons (Loc.tail (by decide) (Loc.tail (by decide) (Loc.head _))) LessM.nil))) (List.Sublist.refl _))
  · intro i m2 H2 hi hI
    obtain ⟨G, ep, hG, hl⟩ := hI
    have hi' : i < bs.length := by simpa using hi
    have hk : (bs.map IS.a).getD i .none = (bs[i]).a := by simp [List.getD, hi']
    have eL : (bs.map IS.a).map V.at = bs.map IS.v := by
      rw [List.map_map]
      apply List.map_congr_left
      intro k _
      exact (IS.v_a k).symm
    generalize hbk : bs[i] = k at hk
    refine ⟨?_, ?_⟩
    · rw [eL]
      exact Sees.less hl (by first | exact (List.mem_cons_of_mem _ (List.mem_cons_of_mem _ (List.mem_cons_of_mem _ (List.mem_append_right _ (by with_reducible assumption))))) | simp [hrb])
    refine On1.less hl ?_
    show Asg c _ (.tup .none [.int i, (bs.map IS.a).getD i .none]) _ _ _
    rw [hk]
    refine asg_tuple ?_
    refine asg_name ?_
    refine sto_local (kind_of (by with_reducible assumption) (by decide +kernel)) ?_
    refine asg_name ?_
    refine sto_local (kind_of (by with_reducible assumption) (by decide +kernel)) ?_
    show WPs c _ _ _ _
    rw [← IS.v_a]
    refine WPs.cutk fun Qk hQk => ?_
    refine s_cons (s1_assign ?_)
    refine e_method ?_
    refine e_loc (by with_reducible assumption) (by decide +kernel) (Loc.tail (by decide) (Loc.tail (by decide) (Loc.head _))) ?_
    refine ⟨_, _, gm_dict (ep := ep) (es := gD G) (Sees.mem List.mem_cons_self) PySem.F.slot_dict_setdefault PySem.F.type_dict_setdefault, ?_⟩
    refine items_cons ?_
    refine e_loc (by with_reducible assumption) (by decide +kernel) (Loc.head _) ?_
    refine items_cons ?_
    with_reducible refine e_list ?_
    with_reducible refine items_nil ?_
    refine ⟨by exact Nat.le_of_ble_eq_true rfl, ?_⟩
    intro y1
    with_reducible refine items_nil ?_
    have gi := isGrp_to bs i (Nat.le_of_lt hi')
    rw [← hG] at gi
    have hGn : G.length ≤ i := by have := grpTo_len bs i; rw [← hG, gP_len] at this; exact this
    have hGl : (gD G).length ≤ 1000 := by rw [gD_len]; (exact ar3 3 (.l (.v 0) (.n 1000)) (.t (.v 1) (.v 0)) (.l (.v 2) (.v 1)) (.l (.v 2) (.n 1000)) (by kernel_rfl) [_, _, _] hbz hi' hGn)
    have hbi : bs[i]? = some k := by rw [← hbk]; simp [hi']
    have hsucc := grpTo_succ hbi
    rw [← hG] at hsucc
    by_cases hm : k ∈ G.map (·.1)
    · obtain ⟨G1, a, ps, G2, rfl, h1⟩ := split_key hm
      refine ⟨keep_bi, k_setdefault_old (d := D) (ep := ep) (es := gD (G1 ++ (k, a, ps) :: G2)) (Sees.mem (List.mem_cons_of_mem _ List.mem_cons_self)) (dictAt_gD_mid h1) ?_ (by (exact ar1 1 (.l (.v 0) (.n 1000)) (.l (.v 0) (.n 1000000)) (by kernel_rfl) [_] hGl))⟩
      refine sto_local (kind_of (by with_reducible assumption) (by decide +kernel)) ?_
      ((with_reducible refine s_cons ?_); refine s1_expr ?_)
      refine e_method ?_
      refine e_loc (by with_reducible assumption) (by decide +kernel) (Loc.head _) ?_
      have h2 : k ∉ G2.map (·.1) := by
        have := gi.nd
        rw [gP_keys, List.map_append, List.map_cons] at this
        have := (List.nodup_append.mp this).2.1
        exact (List.nodup_cons.mp this).1
      have hps : ps.length ≤ i := by
        have := gi.at_ (k, ps) (List.mem_map.mpr ⟨(k, a, ps), by simp, rfl⟩)
        dsimp only at this
        rw [this]
        exact placesTo_len bs i k
      rw [gL_mid]
      refine ⟨_, _, gm_list (xs := ps.map .int) (Sees.mem (by first | exact (List.mem_cons_of_mem _ (List.mem_cons_of_mem _ (List.mem_cons_of_mem _ (List.mem_cons_of_mem _ (List.mem_append_right _ List.mem_cons_self))))) | simp)) F.slot_list_append F.type_list_append, ?_⟩
      refine items_cons ?_
      refine e_loc (by with_reducible assumption) (by decide +kernel) (Loc.tail (by decide) (Loc.tail (by decide) (Loc.head _))) ?_
      with_reducible refine items_nil ?_
      refine ⟨keep_bi, k_append (xs := ps.map .int) (.tail (.tail (.tail (.tail (Upd.mid _))))) ?_ (by have : sizeLine = 16777216 := rfl; simp; (exact ar4 4 (.l (.v 0) (.n 1000)) (.t (.v 1) (.v 0)) (.l (.v 2) (.v 1)) (.e (.v 3) (.n 16777216)) (.l (.v 2) (.v 3)) (by kernel_rfl) [_, _, _, _] hbz hi' hps this))⟩
      with_reducible refine s_nil ?_
      refine hQk _ _ _ ?_
      refine ⟨G1 ++ (k, a, ps ++ [(i : Int)]) :: G2, ep, ?_, ?_⟩
      · rw [hsucc, addPos_mid h1 h2]
      · have e1 : gD (G1 ++ (k, a, ps ++ [(i : Int)]) :: G2) = gD (G1 ++ (k, a, ps) :: G2) := by unfold gD; simp
        rw [gL_mid, e1]
        dsimp only
        rw [List.map_append, List.map_cons, List.map_nil]
        exact (less_of (LessM.cons (Loc.tail (by decide) (Loc.tail (by decide) (Loc.tail (by decide) (Loc.head _)))) (LessM.cons (Loc.tail (by decide) (Loc.tail (by decide) (Loc.tail (by decide) (Loc.tail (by decide) (Loc.head _))))) (LessM.cons (Loc.tail (by decide) (Loc.tail (by decide) (Loc.tail (by decide) (Loc.tail (by decide) (Loc.tail (by decide) (Loc.head _)))))) LessM.nil))) (List.Sublist.cons _ (List.Sublist.refl _)))
    · refine ⟨keep_bi, k_setdefault_new (d := D) (ep := ep) (es := gD G) (F := ?F) ?sp (dictAt_gD_none hm) ?_ (by (exact ar1 1 (.l (.v 0) (.n 1000)) (.l (.v 0) (.n 1000000)) (by kernel_rfl) [_] hGl))⟩
      case sp => exact (Spot.tail (Spot.head _))
      intro ep'
      refine sto_local (kind_of (by with_reducible assumption) (by decide +kernel)) ?_
      ((with_reducible refine s_cons ?_); refine s1_expr ?_)
      refine e_method ?_
      refine e_loc (by with_reducible assumption) (by decide +kernel) (Loc.head _) ?_
      refine ⟨_, _, gm_list (Sees.mem List.mem_cons_self) F.slot_list_append F.type_list_append, ?_⟩
      refine items_cons ?_
      refine e_loc (by with_reducible assumption) (by decide +kernel) (Loc.tail (by decide) (Loc.tail (by decide) (Loc.head _))) ?_
      with_reducible refine items_nil ?_
      refine ⟨keep_bi, k_append (Upd.head _) ?_ ?hz⟩
      case hz => simp
      with_reducible refine s_nil ?_
      refine hQk _ _ _ ?_
      refine ⟨G ++ [(k, y1, [(i : Int)])], ep', ?_, ?_⟩
      · rw [hsucc, addPos_new hm]
      · have e1 : gD (G ++ [(k, y1, [(i : Int)])]) = gD G ++ [(k, .ref y1)] := by unfold gD; simp
        rw [gL_mid, e1]
        exact less_perm (LessM.cons (Loc.tail (by decide) (Loc.tail (by decide) (Loc.tail (by decide) (Loc.head _)))) (LessM.cons (Loc.tail (by decide) (Loc.tail (by decide) (Loc.tail (by decide) (Loc.tail (by decide) (Loc.head _))))) (LessM.cons (Loc.tail (by decide) (Loc.tail (by decide) (Loc.tail (by decide) (Loc.tail (by decide) (Loc.tail (by decide) (Loc.head _)))))) LessM.nil))) (List.perm_middle (l₁ := (D, _) :: (x, _) :: (d, _) :: gL G))
  · intro m2 H2 hI
    obtain ⟨G, ep, hG, hl⟩ := hI
    have eL : (bs.map IS.a).map V.at = bs.map IS.v := by
      rw [List.map_map]
      apply List.map_congr_left
      intro k _
      exact (IS.v_a k).symm
    refine ⟨?_, ?_⟩
    · rw [eL]
      exact Sees.less hl (by first | exact (List.mem_cons_of_mem _ (List.mem_cons_of_mem _ (List.mem_cons_of_mem _ (List.mem_append_right _ (by with_reducible assumption))))) | simp [hrb])
    have hG' : gP G = grp bs := by rw [hG, List.length_map]; rfl
    refine WPs.less hl ?_
    clear hl hG
    have gi := isGrp bs
    rw [← hG'] at gi
    have hGn : G.length ≤ 1000 := by have := grpTo_len bs bs.length; rw [show grpTo bs bs.length = gP G from hG'.symm, gP_len] at this; (exact ar2 2 (.l (.v 0) (.n 1000)) (.l (.v 1) (.v 0)) (.l (.v 1) (.n 1000)) (by kernel_rfl) [_, _] hbz this)
    have hnd : (G.map (·.1)).Nodup := by have := gi.nd; rw [gP_keys] at this; exact this
    refine s_cons (s1_to2 ?_)
    refine e_call ?_
    refine e_glob (by with_reducible assumption) ?_
    with_reducible refine items_nil ?_
    refine ⟨keep_ty, k_set0 ?_⟩
    intro S z
    refine asg_attr ?_
    refine e_loc (by with_reducible assumption) (by decide +kernel) (Loc.tail (by decide) (Loc.tail (by decide) (Loc.head _))) ?_
    refine set_inst B hC (by kernel_rfl) (Sees.mem (List.mem_cons_of_mem _ (List.mem_cons_of_mem _ List.mem_cons_self))) (Upd.tail (Upd.tail (Upd.tail (Upd.head _)))) ?_ (by simp; (exact ar1 1 (.l (.v 0) (.n 100)) (.l (.v 0) (.n 999)) (by kernel_rfl) [_] hfz))
    refine asg_name ?_
    refine sto_local (kind_of (by with_reducible assumption) (by decide +kernel)) ?_
    refine s_cons (s1_assign ?_)
    refine e_attr ?_
    refine e_loc (by with_reducible assumption) (by decide +kernel) (Loc.tail (by decide) (Loc.tail (by decide) (Loc.tail (by decide) (Loc.head _)))) ?_
    refine a_inst B hC (by kernel_rfl) (Sees.mem (List.mem_cons_of_mem _ (List.mem_cons_of_mem _ List.mem_cons_self))) (Sees.mem (List.mem_cons_of_mem _ (List.mem_cons_of_mem _ (List.mem_cons_of_mem _ List.mem_cons_self)))) (u := J) ?_ ?_ ?_
    · rw [look_skip (by decide), look_skip (by decide)]; exact hfj
    · refine sto_local (kind_of (by with_reducible assumption) (by decide +kernel)) ?_
      refine s_join (chJ1 G jk fs H S D x d rb) (s1_if ?_) ?_
      · refine t_value ?_ (by intro _; rfl)
        refine e_loc (by with_reducible assumption) (by decide +kernel) (Loc.head _) ?_
        rcases hJ with ⟨rfl, hjk⟩ | hJ
        · refine tru_none ?_
          have e1 : (G.map (·.1)).filter jk = [] := by rw [List.filter_eq_nil_iff]; intro k _; rw [hjk]; simp
          have e2 : (G.filter fun e => !jk e.1) = G := by rw [List.filter_eq_self]; intro e _; rw [hjk]; rfl
          refine s_nil ?_
          refine ⟨z, ep, ?_⟩
          rw [e1, e2]
          exact (less_of (LessM.cons (Loc.tail (by decide) (Loc.tail (by decide) (Loc.head _))) (LessM.cons (Loc.tail (by decide) (Loc.tail (by decide) (Loc.tail (by decide) (Loc.head _)))) (LessM.cons (Loc.tail (by decide) (Loc.tail (by decide) (Loc.tail (by decide) (Loc.tail (by decide) (Loc.head _))))) LessM.nil))) (List.Sublist.refl _))
        · refine hJ.tru _ _ _ (fun p hp => by first | (have h9 := hW p hp; exact (List.mem_cons_of_mem _ (List.mem_cons_of_mem _ (List.mem_cons_of_mem _ (List.mem_cons_of_mem _ (List.mem_append_right _ (by with_reducible assumption))))))) | simp [hW p hp]) ?_
          refine s_cons (s1_for (it_keys rfl ?_))
          refine e_method ?_
          refine e_loc (by with_reducible assumption) (by decide +kernel) (Loc.tail (by decide) (Loc.tail (by decide) (Loc.head _))) ?_
          refine ⟨_, _, gm_dict (ep := ep) (es := gD G) (Sees.mem (List.mem_cons_of_mem _ List.mem_cons_self)) PySem.F.slot_dict_keys PySem.F.type_dict_keys, ?_⟩
          with_reducible refine items_nil ?_
          refine ⟨keep_bi, k_keys (ep := ep) (es := gD G) (Sees.mem (List.mem_cons_of_mem _ List.mem_cons_self)) ?_⟩
          intro vw
          refine ⟨vw, D, ep, gD G, rfl, by exact (Sees.mem List.mem_cons_self), by exact (Sees.mem (List.mem_cons_of_mem _ (List.mem_cons_of_mem _ List.mem_cons_self))), ?_⟩
          refine ⟨chI2 G jk J ep fs H S D x d rb, ?_, ?_, ?_⟩
          · refine ⟨z, ?_⟩
            rw [List.take_zero]
            simp only [List.map_nil, List.filter_nil]
            exact (less_of (LessM.cons (Loc.head _) (LessM.cons (Loc.tail (by decide) (Loc.head _)) (LessM.cons (Loc.tail (by decide) (Loc.tail (by decide) (Loc.head _))) (LessM.cons (Loc.tail (by decide) (Loc.tail (by decide) (Loc.tail (by decide) (Loc.head _)))) (LessM.cons (Loc.tail (by decide) (Loc.tail (by decide) (Loc.tail (by decide) (Loc.tail (by decide) (Loc.head _))))) LessM.nil))))) (List.Sublist.cons _ (List.Sublist.refl _)))
          · intro i m2 H2 hi hI
            obtain ⟨z', hl⟩ := hI
            have hi' : i < G.length := by rw [gD_len] at hi; exact hi
            refine ⟨Sees.less hl (by first | exact (List.mem_cons_of_mem _ List.mem_cons_self) | simp), On1.less hl ?_⟩
            have hk : ((gD G).getD i (.i 0, .none)).1 = (G[i]).1 := by unfold gD; simp [List.getD, hi']
            dsimp only
            rw [hk]
            generalize hgi : G[i] = g
            refine asg_name ?_
            refine sto_local (kind_of (by with_reducible assumption) (by decide +kernel)) ?_
            show WPs c _ _ _ _
            refine WPs.cutk fun Qk2 hQk2 => ?_
            refine s_cons (s1_if ?_)
            refine t_value ?_ (by intro _; rfl)
            refine e_call ?_
            refine e_loc (by with_reducible assumption) (by decide +kernel) (Loc.tail (by decide) (Loc.head _)) ?_
            refine items_cons ?_
            refine e_loc (by with_reducible assumption) (by decide +kernel) (Loc.head _) ?_
            with_reducible refine items_nil ?_
            refine ⟨hJ.keep _ (fun p hp => by first | (have h9 := hW p hp; exact (List.mem_cons_of_mem _ (List.mem_cons_of_mem _ (List.mem_cons_of_mem _ (List.mem_cons_of_mem _ (List.mem_append_right _ (by with_reducible assumption))))))) | simp [hW p hp]), hJ.call g.1 _ _ _ (fun p hp => by first | (have h9 := hW p hp; exact (List.mem_cons_of_mem _ (List.mem_cons_of_mem _ (List.mem_cons_of_mem _ (List.mem_cons_of_mem _ (List.mem_append_right _ (by with_reducible assumption))))))) | simp [hW p hp]) ?_⟩
            refine tru_bool ?_
            have et : (G.take (i + 1)).map (·.1) = (G.take i).map (·.1) ++ [g.1] := by
              rw [List.take_add_one, List.getElem?_eq_getElem hi', hgi]; simp
            refine if_b (fun h => ?_) (fun h => ?_)
            · ((with_reducible refine s_cons ?_); refine s1_expr ?_)
              refine e_method ?_
              refine e_loc (by with_reducible assumption) (by decide +kernel) (Loc.tail (by decide) (Loc.tail (by decide) (Loc.head _))) ?_
              refine ⟨_, _, gm_set (z := z') (ks := ((G.take i).map (·.1)).filter jk) (Sees.mem List.mem_cons_self) PySem.F.slot_set_add PySem.F.type_set_add, ?_⟩
              refine items_cons ?_
              refine e_loc (by with_reducible assumption) (by decide +kernel) (Loc.head _) ?_
              with_reducible refine items_nil ?_
              refine ⟨keep_bi, k_add (a := S) (z := z') (ks := ((G.take i).map (·.1)).filter jk) (F := ?F2) ?sp2 ?hz2 ?_⟩
              case sp2 => exact (Spot.head _)
              case hz2 => exact Nat.le_trans (List.length_filter_le _ _) (by simp; (exact ar1 2 (.l (.v 0) (.n 1000)) (.l (.mn (.v 1) (.v 0)) (.n 1000)) (by kernel_rfl) [_, _] hGn))
              intro z2
              refine s_nil (s_nil ?_)
              refine hQk2 _ _ _ ?_
              refine ⟨z2, ?_⟩
              have e0 : setPut (((G.take i).map (·.1)).filter jk) g.1 = ((G.take (i + 1)).map (·.1)).filter jk := by
                have e1 : [g.1].filter jk = [g.1] := by simp [h]
                rw [et, List.filter_append, e1]
                unfold setPut
                rw [if_neg]
                intro hm
                have hm2 := (List.mem_filter.mp hm).1
                have e2 : G.map (·.1) = (G.take i).map (·.1) ++ (G.drop i).map (·.1) := by rw [← List.map_append, List.take_append_drop]
                rw [e2] at hnd
                refine (List.nodup_append.mp hnd).2.2 g.1 hm2 g.1 ?_ rfl
                rw [List.drop_eq_getElem_cons hi', hgi]
                simp
              rw [e0]
              exact (less_of (LessM.cons (Loc.tail (by decide) (Loc.head _)) (LessM.cons (Loc.tail (by decide) (Loc.tail (by decide) (Loc.head _))) (LessM.cons (Loc.tail (by decide) (Loc.tail (by decide) (Loc.tail (by decide) (Loc.head _)))) (LessM.cons (Loc.tail (by decide) (Loc.tail (by decide) (Loc.tail (by decide) (Loc.tail (by decide) (Loc.head _))))) (LessM.cons (Loc.tail (by decide) (Loc.tail (by decide) (Loc.tail (by decide) (Loc.tail (by decide) (Loc.tail (by decide) (Loc.head _)))))) LessM.nil))))) (List.Sublist.refl _))
            · refine s_nil (s_nil ?_)
              refine hQk2 _ _ _ ?_
              refine ⟨z', ?_⟩
              have e0 : [g.1].filter jk = [] := by simp [h]
              rw [et, List.filter_append, e0, List.append_nil]
              exact (less_of (LessM.cons (Loc.tail (by decide) (Loc.head _)) (LessM.cons (Loc.tail (by decide) (Loc.tail (by decide) (Loc.head _))) (LessM.cons (Loc.tail (by decide) (Loc.tail (by decide) (Loc.tail (by decide) (Loc.head _)))) (LessM.cons (Loc.tail (by decide) (Loc.tail (by decide) (Loc.tail (by decide) (Loc.tail (by decide) (Loc.head _))))) (LessM.cons (Loc.tail (by decide) (Loc.tail (by decide) (Loc.tail (by decide) (Loc.tail (by decide) (Loc.tail (by decide) (Loc.head _)))))) LessM.nil))))) (List.Sublist.refl _))
          · intro m2 H2 hI
            obtain ⟨z', hl⟩ := hI
            refine ⟨Sees.less hl (by first | exact (List.mem_cons_of_mem _ List.mem_cons_self) | simp), ?_⟩
            show WPs c _ _ _ _
            refine WPs.less hl ?_
            rw [gD_len, List.take_length]
            refine WPs.cutk fun Qe0 hQe0 => ?_
            refine s_cons (s1_for_set ?_)
            refine e_loc (by with_reducible assumption) (by decide +kernel) (Loc.tail (by decide) (Loc.head _)) ?_
            refine ⟨S, z', (G.map (·.1)).filter jk, rfl, by exact (Sees.mem List.mem_cons_self), ?_⟩
            intro σ hσ
            refine ⟨fun i m3 H3 => ∃ ep', Less m3 H3 [("b2j", .ref D), ("b", .ref rb), ("self", .ref x)] ((S, .set z' ((G.map (·.1)).filter jk)) :: (D, .dict ep' ((gD G).filter fun e => decide (e.1 ∉ σ.take i))) :: (x, .inst 242 d) :: (d, .ns (("bjunk", .ref S) :: ("b2j", .ref D) :: fs)) :: (gL G ++ H)), ?_, ?_, ?_⟩
            · refine ⟨ep, ?_⟩
              have e0 : ((gD G).filter fun e => decide (e.1 ∉ σ.take 0)) = gD G := by rw [List.filter_eq_self]; intro e _; simp
              rw [e0]
              exact (less_of (LessM.cons (Loc.tail (by decide) (Loc.tail (by decide) (Loc.head _))) (LessM.cons (Loc.tail (by decide) (Loc.tail (by decide) (Loc.tail (by decide) (Loc.head _)))) (LessM.cons (Loc.tail (by decide) (Loc.tail (by decide) (Loc.tail (by decide) (Loc.tail (by decide) (Loc.head _))))) LessM.nil))) (List.Sublist.refl _))
            · intro i k m3 H3 hk hI
              obtain ⟨ep', hl⟩ := hI
              refine ⟨Sees.less hl (by first | exact List.mem_cons_self | simp), On1.less hl ?_⟩
              refine asg_name ?_
              refine sto_local (kind_of (by with_reducible assumption) (by decide +kernel)) ?_
              refine WPs.cutk fun Qd0 hQd0 => ?_
              refine s_cons (s1_del ?_)
              refine e_loc (by with_reducible assumption) (by decide +kernel) (Loc.tail (by decide) (Loc.head _)) ?_
              refine e_loc (by with_reducible assumption) (by decide +kernel) (Loc.head _) ?_
              have hkj : k ∈ (G.map (·.1)).filter jk := hσ.mem_iff.mp (List.mem_of_getElem? hk)
              have hki : k ∉ σ.take i := take_not (hσ.nodup_iff.mpr (hnd.filter _)) hk
              obtain ⟨u, hu⟩ := dictAt_mem (es := (gD G).filter fun e => decide (e.1 ∉ σ.take i)) (k := k) (by
                obtain ⟨e, he, ek⟩ := List.mem_map.mp (gD_keys G ▸ (List.mem_filter.mp hkj).1 : k ∈ (gD G).map (·.1))
                exact List.mem_map.mpr ⟨e, List.mem_filter.mpr ⟨he, by rw [ek]; simpa using hki⟩, ek⟩)
              refine del_dict (d := D) (ep := ep') (es := (gD G).filter fun e => decide (e.1 ∉ σ.take i)) (k := k) (F := ?F3) ?sp3 hu ?_ ?hz3
              case sp3 => exact (Spot.tail (Spot.head _))
              case hz3 => exact Nat.le_trans (List.length_filter_le _ _) (by rw [gD_len]; (exact ar1 1 (.l (.v 0) (.n 1000)) (.l (.v 0) (.n 1000000)) (by kernel_rfl) [_] hGn))
              intro ep2
              refine s_nil ?_
              refine hQd0 _ _ _ ?_
              refine ⟨ep2, ?_⟩
              have e0 : dictDel ((gD G).filter fun e => decide (e.1 ∉ σ.take i)) k = (gD G).filter fun e => decide (e.1 ∉ σ.take (i + 1)) := by
                unfold dictDel
                rw [List.filter_filter, List.take_add_one, hk]
                apply List.filter_congr
                intro e _
                simp [Bool.and_comm, and_comm]
              rw [e0]
              exact (less_of (LessM.cons (Loc.tail (by decide) (Loc.head _)) (LessM.cons (Loc.tail (by decide) (Loc.tail (by decide) (Loc.head _))) (LessM.cons (Loc.tail (by decide) (Loc.tail (by decide) (Loc.tail (by decide) (Loc.head _)))) LessM.nil))) (List.Sublist.refl _))
            · intro m3 H3 hI
              obtain ⟨ep', hl⟩ := hI
              refine ⟨Sees.less hl (by first | exact List.mem_cons_self | simp), ?_⟩
              refine s_nil ?_
              refine hQe0 _ _ _ ?_
              refine ⟨z', ep', ?_⟩
              have e0 : ((gD G).filter fun e => decide (e.1 ∉ σ.take σ.length)) = gD (G.filter fun e => !jk e.1) := by
                rw [List.take_length, ← gD_filter G (fun k => !jk k)]
                apply List.filter_congr
                intro e he
                have hek : e.1 ∈ G.map (·.1) := gD_keys G ▸ List.mem_map.mpr ⟨e, he, rfl⟩
                have : e.1 ∈ σ ↔ jk e.1 = true := by rw [hσ.mem_iff, List.mem_filter]; exact ⟨fun q => q.2, fun q => ⟨hek, q⟩⟩
                by_cases q : jk e.1 = true
                · simp [this, q]
                · simp [this, q]
              rw [← e0]
              exact hl
      · intro m1 H1 hI
        obtain ⟨z1, ep1, hl⟩ := hI
        refine WPs.less hl ?_
        clear hl
        generalize hG1 : (G.filter fun e => !jk e.1) = G1
        refine s_cons (s1_to2 ?_)
        refine e_call ?_
        refine e_glob (by with_reducible assumption) ?_
        with_reducible refine items_nil ?_
        refine ⟨keep_ty, k_set0 ?_⟩
        intro S2 z2
        refine asg_attr ?_
        refine e_loc (by with_reducible assumption) (by decide +kernel) (Loc.tail (by decide) (Loc.tail (by decide) (Loc.head _))) ?_
        refine set_inst B hC (by kernel_rfl) (Sees.mem (List.mem_cons_of_mem _ (List.mem_cons_of_mem _ (List.mem_cons_of_mem _ List.mem_cons_self)))) (Upd.tail (Upd.tail (Upd.tail (Upd.tail (Upd.head _))))) ?_ (by simp; (exact ar1 1 (.l (.v 0) (.n 100)) (.l (.v 0) (.n 998)) (by kernel_rfl) [_] hfz))
        refine asg_name ?_
        refine sto_local (kind_of (by with_reducible assumption) (by decide +kernel)) ?_
        refine s_cons (s1_assign ?_)
        refine e_call ?_
        refine e_glob (by with_reducible assumption) ?_
        refine items_cons ?_
        refine e_loc (by with_reducible assumption) (by decide +kernel) (Loc.tail (by decide) (Loc.tail (by decide) (Loc.head _))) ?_
        with_reducible refine items_nil ?_
        refine ⟨keep_bi, k_len (Sees.mem (List.mem_cons_of_mem _ (List.mem_cons_of_mem _ (List.mem_cons_of_mem _ (List.mem_cons_of_mem _ (List.mem_cons_of_mem _ (List.mem_append_right _ (by with_reducible assumption)))))))) ?_ ?hz⟩
        case hz => simp; (exact ar1 1 (.l (.v 0) (.n 1000)) (.l (.v 0) (.n 1000000)) (by kernel_rfl) [_] hbz)
        refine sto_local (kind_of (by with_reducible assumption) (by decide +kernel)) ?_
        refine s_join (chJ2 G G1 bs on jk z1 fs H S2 S D x d) (s1_if ?_) ?_
        · refine t_bool (all_and (t_value (e_attr ?_) ?_))
          · refine e_loc (by with_reducible assumption) (by decide +kernel) (Loc.tail (by decide) (Loc.tail (by decide) (Loc.tail (by decide) (Loc.tail (by decide) (Loc.head _))))) ?_
            refine a_inst B hC (by kernel_rfl) (Sees.mem (List.mem_cons_of_mem _ (List.mem_cons_of_mem _ (List.mem_cons_of_mem _ List.mem_cons_self)))) (Sees.mem (List.mem_cons_of_mem _ (List.mem_cons_of_mem _ (List.mem_cons_of_mem _ (List.mem_cons_of_mem _ List.mem_cons_self))))) (u := .bool on) ?_ ?_
            · rw [look_skip (by decide), look_skip (by decide), look_skip (by decide)]; exact hfa
            refine tru_bool ?_
            refine if_b (fun h => ?_) (fun h => ?_)
            · with_reducible refine all_and ?_
              refine t_cmp ?_ (by with_unfolding_all rfl)
              refine e_loc (by with_reducible assumption) (by decide +kernel) (Loc.head _) ?_
              with_reducible refine e_int ?_
              with_reducible refine c_ge ?_
              with_reducible refine tru_bool ?_
              refine if_b (fun h2 => ?_) (fun h2 => ?_)
              · refine all_and_nil ?_
                rw [if_pos rfl]
                ((with_reducible refine s_cons ?_); refine s1_assign ?_)
                with_reducible refine e_binop ?_
                with_reducible refine e_binop ?_
                refine e_loc (by with_reducible assumption) (by decide +kernel) (Loc.head _) ?_
                with_reducible refine e_int ?_
                refine o_div ?_
                with_reducible refine e_int ?_
                with_reducible refine o_add ?_
                refine sto_local (kind_of (by with_reducible assumption) (by decide +kernel)) ?_
                have hG1n : G1.length ≤ 1000 := by rw [← hG1]; exact Nat.le_trans (List.length_filter_le _ _) hGn
                refine s_cons (s1_for (it_items ?_))
                refine e_method ?_
                refine e_loc (by with_reducible assumption) (by decide +kernel) (Loc.tail (by decide) (Loc.tail (by decide) (Loc.tail (by decide) (Loc.head _)))) ?_
                refine ⟨_, _, gm_dict (ep := ep1) (es := gD G1) (Sees.mem (List.mem_cons_of_mem _ (List.mem_cons_of_mem _ List.mem_cons_self))) PySem.F.slot_dict_items PySem.F.type_dict_items, ?_⟩
                with_reducible refine items_nil ?_
                refine ⟨keep_bi, k_items (ep := ep1) (es := gD G1) (Sees.mem (List.mem_cons_of_mem _ (List.mem_cons_of_mem _ List.mem_cons_self))) ?_⟩
                intro vw
                have eA : (G1.map fun e => (e.1, At.ref e.2.1)).map atE = gD G1 := by unfold gD; rw [List.map_map]; rfl
                refine ⟨vw, D, ep1, G1.map fun e => (e.1, At.ref e.2.1), rfl, by exact (Sees.mem List.mem_cons_self), by rw [eA]; exact (Sees.mem (List.mem_cons_of_mem _ (List.mem_cons_of_mem _ (List.mem_cons_of_mem _ List.mem_cons_self)))), ?_⟩
                rw [eA]
                refine ⟨chI3 G G1 bs jk z1 ep1 fs H S2 S D x d rb, ?_, ?_, ?_⟩
                · refine ⟨z2, ?_⟩
                  rw [List.take_zero]
                  simp only [List.map_nil, List.filter_nil]
                  exact (less_of (LessM.cons (Loc.head _) (LessM.cons (Loc.tail (by decide) (Loc.tail (by decide) (Loc.head _))) (LessM.cons (Loc.tail (by decide) (Loc.tail (by decide) (Loc.tail (by decide) (Loc.head _)))) (LessM.cons (Loc.tail (by decide) (Loc.tail (by decide) (Loc.tail (by decide) (Loc.tail (by decide) (Loc.head _))))) (LessM.cons (Loc.tail (by decide) (Loc.tail (by decide) (Loc.tail (by decide) (Loc.tail (by decide) (Loc.tail (by decide) (Loc.head _)))))) LessM.nil))))) (List.Sublist.cons _ (List.Sublist.refl _)))
                · intro i m2 H2 hi hI
                  obtain ⟨z', hl⟩ := hI
                  have hi' : i < G1.length := by simpa using hi
                  refine ⟨Sees.less hl (by first | exact (List.mem_cons_of_mem _ (List.mem_cons_of_mem _ List.mem_cons_self)) | simp), On1.less hl ?_⟩
                  have hk : (G1.map fun e => (e.1, At.ref e.2.1)).getD i (.i 0, .none) = (G1[i].1, At.ref G1[i].2.1) := by simp [List.getD, hi']
                  dsimp only
                  rw [hk]
                  generalize hgi : G1[i] = g
                  have hgm : g ∈ G := by
                    have : g ∈ G1 := hgi ▸ List.getElem_mem hi'
                    rw [← hG1] at this
                    exact (List.mem_filter.mp this).1
                  refine asg_tuple ?_
                  refine asg_name ?_
                  refine sto_local (kind_of (by with_reducible assumption) (by decide +kernel)) ?_
                  refine asg_name ?_
                  refine sto_local (kind_of (by with_reducible assumption) (by decide +kernel)) ?_
                  show WPs c _ _ _ _
                  refine WPs.cutk fun Qk3 hQk3 => ?_
                  refine s_cons (s1_if ?_)
                  refine t_cmp ?_ (by with_unfolding_all rfl)
                  refine e_call ?_
                  refine e_glob (by with_reducible assumption) ?_
                  refine items_cons ?_
                  refine e_loc (by with_reducible assumption) (by decide +kernel) (Loc.head _) ?_
                  with_reducible refine items_nil ?_
                  have hgp : g.2.2.length ≤ bs.length := by
                    have := gi.at_ (g.1, g.2.2) (List.mem_map.mpr ⟨g, hgm, rfl⟩)
                    dsimp only at this
                    rw [this]
                    exact placesTo_len bs _ _
                  refine ⟨keep_bi, k_len (xs := g.2.2.map .int) (Sees.mem (by have := gL_mem hgm; simp [this])) ?_ (by simp; (exact ar2 2 (.l (.v 0) (.n 1000)) (.l (.v 1) (.v 0)) (.l (.v 1) (.n 1000000)) (by kernel_rfl) [_, _] hbz hgp))⟩
                  refine e_loc (by with_reducible assumption) (by decide +kernel) (Loc.tail (by decide) (Loc.tail (by decide) (Loc.head _))) ?_
                  with_reducible refine c_gt ?_
                  with_reducible refine tru_bool ?_
                  have hP : decide (((bs.map IS.v).length : Int).fdiv 100 + 1 < ((g.2.2.map V.int).length : Int)) = decide ((bs.length / 100 + 1 : Nat) < g.2.2.length) := by
                    rw [List.length_map, List.length_map, Int.fdiv_eq_ediv_of_nonneg _ (by decide)]
                    apply decide_eq_decide.mpr
                    (first | lia | omega)
                  rw [hP]
                  dsimp only
                  rw [← IS.v_a]
                  have et : G1.take (i + 1) = G1.take i ++ [g] := by
                    rw [List.take_add_one, List.getElem?_eq_getElem hi', hgi]; rfl
                  refine if_b (fun h3 => ?_) (fun h3 => ?_)
                  · ((with_reducible refine s_cons ?_); refine s1_expr ?_)
                    refine e_method ?_
                    refine e_loc (by with_reducible assumption) (by decide +kernel) (Loc.tail (by decide) (Loc.tail (by decide) (Loc.tail (by decide) (Loc.head _)))) ?_
                    refine ⟨_, _, gm_set (z := z') (ks := ((G1.take i).filter fun e => decide ((bs.length / 100 + 1 : Nat) < e.2.2.length)).map (·.1)) (Sees.mem List.mem_cons_self) PySem.F.slot_set_add PySem.F.type_set_add, ?_⟩
                    refine items_cons ?_
                    refine e_loc (by with_reducible assumption) (by decide +kernel) (Loc.tail (by decide) (Loc.head _)) ?_
                    with_reducible refine items_nil ?_
                    refine ⟨keep_bi, k_add (a := S2) (z := z') (ks := ((G1.take i).filter fun e => decide ((bs.length / 100 + 1 : Nat) < e.2.2.length)).map (·.1)) (F := ?F4) ?sp4 ?hz4 ?_⟩
                    case sp4 => exact (Spot.head _)
                    case hz4 =>
                      rw [List.length_map]
                      exact Nat.le_trans (List.length_filter_le _ _) (by simp; (exact ar1 2 (.l (.v 0) (.n 1000)) (.l (.mn (.v 1) (.v 0)) (.n 1000)) (by kernel_rfl) [_, _] hG1n))
                    intro z3
                    refine s_nil (s_nil ?_)
                    refine hQk3 _ _ _ ?_
                    refine ⟨z3, ?_⟩
                    have e0 : [g].filter (fun e => decide ((bs.length / 100 + 1 : Nat) < e.2.2.length)) = [g] := by simp only [List.filter_cons, h3, List.filter_nil]; rfl
                    have e1 : setPut (((G1.take i).filter fun e => decide ((bs.length / 100 + 1 : Nat) < e.2.2.length)).map (·.1)) g.1 = ((G1.take (i + 1)).filter fun e => decide ((bs.length / 100 + 1 : Nat) < e.2.2.length)).map (·.1) := by
                      rw [et, List.filter_append, e0, List.map_append]
                      unfold setPut
                      rw [if_neg]
                      · rfl
                      intro hm
                      obtain ⟨e, he, ee⟩ := List.mem_map.mp hm
                      have he2 := (List.mem_filter.mp he).1
                      have hnd1 : (G1.map (·.1)).Nodup := by
                        rw [← hG1]
                        exact (List.filter_sublist.map _).nodup hnd
                      have e2 : G1.map (·.1) = (G1.take i).map (·.1) ++ (G1.drop i).map (·.1) := by rw [← List.map_append, List.take_append_drop]
                      rw [e2] at hnd1
                      refine (List.nodup_append.mp hnd1).2.2 g.1 (ee ▸ List.mem_map.mpr ⟨e, he2, rfl⟩) g.1 ?_ rfl
                      rw [List.drop_eq_getElem_cons hi', hgi]
                      simp
                    rw [e1]
                    exact (less_of (LessM.cons (Loc.tail (by decide) (Loc.tail (by decide) (Loc.head _))) (LessM.cons (Loc.tail (by decide) (Loc.tail (by decide) (Loc.tail (by decide) (Loc.head _)))) (LessM.cons (Loc.tail (by decide) (Loc.tail (by decide) (Loc.tail (by decide) (Loc.tail (by decide) (Loc.head _))))) (LessM.cons (Loc.tail (by decide) (Loc.tail (by decide) (Loc.tail (by decide) (Loc.tail (by decide) (Loc.tail (by decide) (Loc.head _)))))) (LessM.cons (Loc.tail (by decide) (Loc.tail (by decide) (Loc.tail (by decide) (Loc.tail (by decide) (Loc.tail (by decide) (Loc.tail (by decide) (Loc.head _))))))) LessM.nil))))) (List.Sublist.refl _))
                  · refine s_nil (s_nil ?_)
                    refine hQk3 _ _ _ ?_
                    refine ⟨z', ?_⟩
                    have e0 : [g].filter (fun e => decide ((bs.length / 100 + 1 : Nat) < e.2.2.length)) = [] := by simp only [List.filter_cons, h3, List.filter_nil]; rfl
                    rw [et, List.filter_append, e0, List.append_nil]
                    exact (less_of (LessM.cons (Loc.tail (by decide) (Loc.tail (by decide) (Loc.head _))) (LessM.cons (Loc.tail (by decide) (Loc.tail (by decide) (Loc.tail (by decide) (Loc.head _)))) (LessM.cons (Loc.tail (by decide) (Loc.tail (by decide) (Loc.tail (by decide) (Loc.tail (by decide) (Loc.head _))))) (LessM.cons (Loc.tail (by decide) (Loc.tail (by decide) (Loc.tail (by decide) (Loc.tail (by decide) (Loc.tail (by decide) (Loc.head _)))))) (LessM.cons (Loc.tail (by decide) (Loc.tail (by decide) (Loc.tail (by decide) (Loc.tail (by decide) (Loc.tail (by decide) (Loc.tail (by decide) (Loc.head _))))))) LessM.nil))))) (List.Sublist.refl _))
                · intro m2 H2 hI
                  obtain ⟨z', hl⟩ := hI
                  refine ⟨Sees.less hl (by first | exact (List.mem_cons_of_mem _ (List.mem_cons_of_mem _ List.mem_cons_self)) | simp), ?_⟩
                  show WPs c _ _ _ _
                  refine WPs.less hl ?_
                  rw [show (G1.map (fun e => (e.1, At.ref e.2.1))).length = G1.length by simp, List.take_length]
                  have e9 : (on && decide (200 ≤ bs.length)) = true := by rw [h]; simp at h2 ⊢; (first | lia | omega)
                  unfold chJ2
                  rw [e9]
                  simp only [if_true]
                  generalize hps : (G1.filter fun e => decide ((bs.length / 100 + 1 : Nat) < e.2.2.length)).map (·.1) = qs
                  have hnd1 : (G1.map (·.1)).Nodup := by
                    rw [← hG1]
                    exact (List.filter_sublist.map _).nodup hnd
                  have hqn : qs.Nodup := by rw [← hps]; exact (List.filter_sublist.map _).nodup hnd1
                  have hqs : ∀ k ∈ qs, k ∈ G1.map (·.1) := fun k hk => by
                    rw [← hps] at hk
                    obtain ⟨e, he, rfl⟩ := List.mem_map.mp hk
                    exact List.mem_map.mpr ⟨e, (List.mem_filter.mp he).1, rfl⟩
                  refine WPs.cutk fun Qe1 hQe1 => ?_
                  refine s_cons (s1_for_set ?_)
                  refine e_loc (by with_reducible assumption) (by decide +kernel) (Loc.tail (by decide) (Loc.head _)) ?_
                  refine ⟨S2, z', qs, rfl, by exact (Sees.mem List.mem_cons_self), ?_⟩
                  intro σ hσ
                  refine ⟨fun i m3 H3 => ∃ ep', Less m3 H3 [("b2j", .ref D)] ((S2, .set z' qs) :: (S, .set z1 ((G.map (·.1)).filter jk)) :: (D, .dict ep' ((gD G1).filter fun e => decide (e.1 ∉ σ.take i))) :: (x, .inst 242 d) :: (d, .ns (("bpopular", .ref S2) :: ("bjunk", .ref S) :: ("b2j", .ref D) :: fs)) :: (gL G ++ H)), ?_, ?_, ?_⟩
                  · refine ⟨ep1, ?_⟩
                    have e0 : ((gD G1).filter fun e => decide (e.1 ∉ σ.take 0)) = gD G1 := by rw [List.filter_eq_self]; intro e _; simp
                    rw [e0]
                    exact (less_of (LessM.cons (Loc.tail (by decide) (Loc.tail (by decide) (Loc.head _))) LessM.nil) (List.Sublist.refl _))
                  · intro i k m3 H3 hk hI
                    obtain ⟨ep', hl⟩ := hI
                    refine ⟨Sees.less hl (by first | exact List.mem_cons_self | simp), On1.less hl ?_⟩
                    refine asg_name ?_
                    refine sto_local (kind_of (by with_reducible assumption) (by decide +kernel)) ?_
                    refine WPs.cutk fun Qd1 hQd1 => ?_
                    refine s_cons (s1_del ?_)
                    refine e_loc (by with_reducible assumption) (by decide +kernel) (Loc.tail (by decide) (Loc.head _)) ?_
                    refine e_loc (by with_reducible assumption) (by decide +kernel) (Loc.head _) ?_
                    have hkj : k ∈ qs := hσ.mem_iff.mp (List.mem_of_getElem? hk)
                    have hki : k ∉ σ.take i := take_not (hσ.nodup_iff.mpr hqn) hk
                    obtain ⟨u, hu⟩ := dictAt_mem (es := (gD G1).filter fun e => decide (e.1 ∉ σ.take i)) (k := k) (by
                      obtain ⟨e, he, ek⟩ := List.mem_map.mp (gD_keys G1 ▸ hqs k hkj : k ∈ (gD G1).map (·.1))
                      exact List.mem_map.mpr ⟨e, List.mem_filter.mpr ⟨he, by rw [ek]; simpa using hki⟩, ek⟩)
                    refine del_dict (d := D) (ep := ep') (es := (gD G1).filter fun e => decide (e.1 ∉ σ.take i)) (k := k) (F := ?F5) ?sp5 hu ?_ ?hz5
                    case sp5 => exact (Spot.tail (Spot.tail (Spot.head _)))
                    case hz5 => exact Nat.le_trans (List.length_filter_le _ _) (by rw [gD_len]; (exact ar1 1 (.l (.v 0) (.n 1000)) (.l (.v 0) (.n 1000000)) (by kernel_rfl) [_] hG1n))
                    intro ep2
                    refine s_nil ?_
                    refine hQd1 _ _ _ ?_
                    refine ⟨ep2, ?_⟩
                    have e0 : dictDel ((gD G1).filter fun e => decide (e.1 ∉ σ.take i)) k = (gD G1).filter fun e => decide (e.1 ∉ σ.take (i + 1)) := by
                      unfold dictDel
                      rw [List.filter_filter, List.take_add_one, hk]
                      apply List.filter_congr
                      intro e _
                      simp [Bool.and_comm, and_comm]
                    rw [e0]
                    exact (less_of (LessM.cons (Loc.tail (by decide) (Loc.head _)) LessM.nil) (List.Sublist.refl _))
                  · intro m3 H3 hI
                    obtain ⟨ep', hl⟩ := hI
                    refine ⟨Sees.less hl (by first | exact List.mem_cons_self | simp), ?_⟩
                    refine s_nil ?_
                    refine hQe1 _ _ _ ?_
                    refine ⟨z', ep', ?_⟩
                    have e0 : ((gD G1).filter fun e => decide (e.1 ∉ σ.take σ.length)) = gD (G1.filter fun e => !decide ((bs.length / 100 + 1 : Nat) < e.2.2.length)) := by
                      rw [List.take_length]
                      exact filter_keys hnd1 (fun e => decide ((bs.length / 100 + 1 : Nat) < e.2.2.length)) σ (fun k => by rw [hσ.mem_iff, ← hps])
                    rw [← e0]
                    exact ⟨fun x u e => by simp at e, hl.2.1, hl.2.2⟩
              · refine s_nil ?_
                refine ⟨z2, ep1, ?_⟩
                have e0 : (on && decide (200 ≤ bs.length)) = false := by
                  rw [h]; simp at h2 ⊢; (first | lia | omega)
                rw [e0]
                simp only [Bool.false_eq_true, if_false]
                exact (less_of LessM.nil (List.Sublist.refl _))
            · refine s_nil ?_
              refine ⟨z2, ep1, ?_⟩
              rw [h]
              simp only [Bool.false_and, Bool.false_eq_true, if_false]
              exact (less_of LessM.nil (List.Sublist.refl _))
          · intro _; rfl
        · intro m1 H1 hI
          obtain ⟨z', ep', hl⟩ := hI
          refine s_nil (hQ0 _ _ _ ⟨rfl, D, S, S2, z1, z', ep', G, hG', ?_⟩)
          rw [hG1]
          have e1 : (G1.filter (chPop bs.length on)).map (·.1) = if on && decide (200 ≤ bs.length) then (G1.filter fun e => decide ((bs.length / 100 + 1 : Nat) < e.2.2.length)).map (·.1) else [] := by
            unfold chPop
            cases on && decide (200 ≤ bs.length) <;> simp
          have e2 : (G1.filter fun e => !chPop bs.length on e) = if on && decide (200 ≤ bs.length) then G1.filter fun e => !decide ((bs.length / 100 + 1 : Nat) < e.2.2.length) else G1 := by
            unfold chPop
            cases on && decide (200 ≤ bs.length) <;> simp
          rw [e1, e2]
          exact ⟨fun x u e => by simp at e, hl.2.1, hl.2.2⟩
    · exact hJb
end
section
open PySem PySem.W PyProof.Rows PySem.Calls
set_option maxRecDepth 100000

noncomputable def JunkIn (c : Ctx) (k : Nat) (J : V) (jk : IS → Bool) (W : Hp) : Prop := ∀ c2 : Ctx, c2.fuel = k → c2.prog = c.prog → c2.w = c.w → (∀ P, c.Knows P → c2.Knows P) → JunkOk c2 J jk W
theorem JunkIn.called {c c2 : Ctx} {k : Nat} {J : V} {jk : IS → Bool} {W : Hp} {fd : FuncData} {L : Addr} (h : JunkIn c k J jk W) (hc : Called c fd L c2) : JunkIn c2 k J jk W :=
  fun c3 e1 e2 e3 e4 => h c3 e1 (e2.trans hc.prog) (e3.trans hc.w) fun P q => e4 P (hc.knows P q)
theorem JunkIn.made {c c2 : Ctx} {k : Nat} {J : V} {jk : IS → Bool} {W : Hp} (h : JunkIn c k J jk W) (hc : Made c c2) : JunkIn c2 k J jk W :=
  fun c3 e1 e2 e3 e4 => h c3 e1 (e2.trans hc.prog) (e3.trans hc.w) fun P q => e4 P (fun h hh => q h (fun b o e => hh b o (hc.G ▸ e)))
theorem seq1_ok (p : Params) (c : Ctx) (B : Base c (K08 p)) (hs : c.env.scope = (fdIn (K08 p) 174).scope) {H : Hp} {x d ra : Addr} {fs : List (Str × V)} {ua : At} (hfa : fs.lookup ("a" : Str) = some (.at ua)) (hua : (V.at ua).notBi = true) (hne : isAt (.ref ra) ua = some false) (hz : fs.length ≤ 100)
    : WPs c (bodyIn (fdIn (K08 p) 174)) [("a", .ref ra), ("self", .ref x)] ((x, .inst 242 d) :: (d, .ns fs) :: H)
      fun f _ H' => f.val = .none ∧ Less [] H' [] ((x, .inst 242 d) :: (d, .ns (("opcodes", .none) :: ("matching_blocks", .none) :: ("a", .ref ra) :: fs)) :: H) := by
  have hn := congrArg Scope.names hs
  conv at hn => rhs; whnf
  have hC := cls08 p
  refine s_cons (s1_expr ?_)
  with_reducible refine e_str ?_
  with_reducible refine s_if ?_
  refine t_cmp ?_ (by with_unfolding_all rfl)
  refine e_loc (by with_reducible assumption) (by decide +kernel) (Loc.head _) ?_
  refine e_attr ?_
  refine e_loc (by with_reducible assumption) (by decide +kernel) (Loc.tail (by decide) (Loc.head _)) ?_
  refine a_inst B hC (by kernel_rfl) (Sees.mem List.mem_cons_self) (Sees.mem (List.mem_cons_of_mem _ List.mem_cons_self)) hfa ?_ hua
  refine c_is hne ?_
  with_reducible refine tru_bool ?_
  refine if_b (fun h => nomatch h) (fun _ => ?_)
  with_reducible refine s_nil ?_
  refine s_cons (s1_to ?_)
  refine e_loc (by with_reducible assumption) (by decide +kernel) (Loc.head _) ?_
  refine asg_attr ?_
  refine e_loc (by with_reducible assumption) (by decide +kernel) (Loc.tail (by decide) (Loc.head _)) ?_
  refine set_inst B hC (by kernel_rfl) (Sees.mem List.mem_cons_self) (Upd.tail (Upd.head _)) ?_ (by (exact ar1 1 (.l (.v 0) (.n 100)) (.l (.v 0) (.n 1000)) (by kernel_rfl) [_] hz))
  refine s_cons (s1_to2 ?_)
  with_reducible refine e_none ?_
  refine asg_attr ?_
  refine e_loc (by with_reducible assumption) (by decide +kernel) (Loc.tail (by decide) (Loc.head _)) ?_
  refine set_inst B hC (by kernel_rfl) (Sees.mem List.mem_cons_self) (Upd.tail (Upd.head _)) ?_ (by simp; (exact ar1 1 (.l (.v 0) (.n 100)) (.l (.v 0) (.n 999)) (by kernel_rfl) [_] hz))
  refine asg_attr ?_
  refine e_loc (by with_reducible assumption) (by decide +kernel) (Loc.tail (by decide) (Loc.head _)) ?_
  refine set_inst B hC (by kernel_rfl) (Sees.mem List.mem_cons_self) (Upd.tail (Upd.head _)) ?_ (by simp; (exact ar1 1 (.l (.v 0) (.n 100)) (.l (.v 0) (.n 998)) (by kernel_rfl) [_] hz))
  refine s_nil ⟨rfl, ?_⟩
  exact (less_of LessM.nil (List.Sublist.refl _))

theorem bind1 {fd : FuncData} {ns : List Str} (h : ∀ a0, bindArgs fd { pos := [a0] } = pure (ns.zip [a0])) : ∀ l : List Value, l.length = 1 → bindArgs fd { pos := l } = pure (ns.zip l)
  | [a0], _ => h a0
theorem bind2 {fd : FuncData} {ns : List Str} (h : ∀ a0 a1, bindArgs fd { pos := [a0, a1] } = pure (ns.zip [a0, a1])) : ∀ l : List Value, l.length = 2 → bindArgs fd { pos := l } = pure (ns.zip l)
  | [a0, a1], _ => h a0 a1
theorem bind3 {fd : FuncData} {ns : List Str} (h : ∀ a0 a1 a2, bindArgs fd { pos := [a0, a1, a2] } = pure (ns.zip [a0, a1, a2])) : ∀ l : List Value, l.length = 3 → bindArgs fd { pos := l } = pure (ns.zip l)
  | [a0, a1, a2], _ => h a0 a1 a2
theorem bind4 {fd : FuncData} {ns : List Str} (h : ∀ a0 a1 a2 a3, bindArgs fd { pos := [a0, a1, a2, a3] } = pure (ns.zip [a0, a1, a2, a3])) : ∀ l : List Value, l.length = 4 → bindArgs fd { pos := l } = pure (ns.zip l)
  | [a0, a1, a2, a3], _ => h a0 a1 a2 a3
theorem vals4 {P : List Value → Prop} (h : ∀ a0 a1 a2 a3, P [a0, a1, a2, a3]) : ∀ l : List Value, l.length = 4 → P l
  | [a0, a1, a2, a3], _ => h a0 a1 a2 a3
theorem vals5 {P : List Value → Prop} (h : ∀ a0 a1 a2 a3 a4, P [a0, a1, a2, a3, a4]) : ∀ l : List Value, l.length = 5 → P l
  | [a0, a1, a2, a3, a4], _ => h a0 a1 a2 a3 a4
theorem chain_cal (p : Params) {c : Ctx} {k : Nat} (hf : c.fuel = k + 1) (B : Base c (K08 p)) {m : Lo} {Q : V → Lo → Hp → Prop} {H : Hp} {x d rb : Addr} {fs : List (Str × V)} {bs : List IS} {J : V} {on : Bool} (hfb : fs.lookup ("b" : Str) = some (.ref rb)) (hfj : fs.lookup ("isjunk" : Str) = some J) (hfa : fs.lookup ("autojunk" : Str) = some (.bool on)) (hJb : J.notBi = true) {jk : IS → Bool} {W : Hp} (hJ : JunkIn c k J jk W) (hW : ∀ p ∈ W, p ∈ H) (hrb : (rb, O.list (bs.map IS.v)) ∈ H) (hfz : fs.length ≤ 100) (hbz : bs.length ≤ 1000)
    (h : ∀ D S S2 z1 z2 ep G, gP G = grp bs → Q .none m ((S2, .set z2 (((G.filter fun e => !jk e.1).filter (chPop bs.length on)).map (·.1))) :: (S, .set z1 ((G.map (·.1)).filter jk)) :: (D, .dict ep (gD ((G.filter fun e => !jk e.1).filter fun e => !chPop bs.length on e))) :: (x, .inst 242 d) :: (d, .ns (("bpopular", .ref S2) :: ("bjunk", .ref S) :: ("b2j", .ref D) :: fs)) :: (gL G ++ H))) :
    CalC c (.ref 188) [.ref x] m ((x, .inst 242 d) :: (d, .ns fs) :: H) Q := by
  refine cal_K (fd := fdIn (K08 p) 188) (bs := List.zip [("self" : Str)] [V.ref x]) B hf (fnOk_of (by kernel_rfl)) (by kernel_rfl) (by kernel_rfl) (fun s vvs X r => binds_plain rfl (fun vvs hl => ?_) s vvs X r) fun L c2 hc hk B2 => ?_
  · exact bind1 (fun v0 => by kernel_rfl) vvs hl
  · have e1 : locOf (fdIn (K08 p) 188).scope.names (List.zip [("self" : Str)] [V.ref x]) = [(("self" : Str), V.ref x)] := by kernel_rfl
    have e2 : cellsAt L (fdIn (K08 p) 188) (List.zip [("self" : Str)] [V.ref x]) = [] := by kernel_rfl
    rw [e1, e2]
    refine WPs.post (WPs.mono (chain_ok p c2 B2 hc.scope hfb hfj hfa hJb (hJ c2 hk hc.prog hc.w hc.knows) hW hrb hfz hbz) ?_)
    rintro f m' H' ⟨hv, D, S, S2, z1, z2, ep, G, hG, hl⟩
    refine ⟨[], _, ⟨(fun _ _ e => nomatch e), hl.2⟩, ?_⟩
    rw [hv]
    exact h D S S2 z1 z2 ep G hG
theorem seq1_cal (p : Params) {c : Ctx} {k : Nat} (hf : c.fuel = k + 1) (B : Base c (K08 p)) {m : Lo} {Q : V → Lo → Hp → Prop} {H : Hp} {x d ra : Addr} {fs : List (Str × V)} {ua : At} (hfa : fs.lookup ("a" : Str) = some (.at ua)) (hua : (V.at ua).notBi = true) (hne : isAt (.ref ra) ua = some false) (hz : fs.length ≤ 100)
    (h : Q .none m ((x, .inst 242 d) :: (d, .ns (("opcodes", .none) :: ("matching_blocks", .none) :: ("a", .ref ra) :: fs)) :: H)) : CalC c (.ref 174) [.ref x, .ref ra] m ((x, .inst 242 d) :: (d, .ns fs) :: H) Q := by
  refine cal_K (fd := fdIn (K08 p) 174) (bs := List.zip [("self" : Str), "a"] [V.ref x, V.ref ra]) B hf (fnOk_of (by kernel_rfl)) (by kernel_rfl) (by kernel_rfl) (fun s vvs X r => binds_plain rfl (fun vvs hl => ?_) s vvs X r) fun L c2 hc hk B2 => ?_
  · exact bind2 (fun v0 v1 => by kernel_rfl) vvs hl
  · have e1 : locOf (fdIn (K08 p) 174).scope.names (List.zip [("self" : Str), "a"] [V.ref x, V.ref ra]) = [(("a" : Str), V.ref ra), ("self", V.ref x)] := by kernel_rfl
    have e2 : cellsAt L (fdIn (K08 p) 174) (List.zip [("self" : Str), "a"] [V.ref x, V.ref ra]) = [] := by kernel_rfl
    rw [e1, e2]
    refine WPs.post (WPs.mono (seq1_ok p c2 B2 hc.scope hfa hua hne hz) ?_)
    rintro f m' H' ⟨hv, hl⟩
    refine ⟨[], _, ⟨(fun _ _ e => nomatch e), hl.2⟩, ?_⟩
    rw [hv]
    exact h

theorem seq2_ok (p : Params) (c : Ctx) {k : Nat} (hf : c.fuel = k + 1) (B : Base c (K08 p)) (hs : c.env.scope = (fdIn (K08 p) 181).scope) {H : Hp} {x d rb : Addr} {fs : List (Str × V)} {ub : At} (hfb : fs.lookup ("b" : Str) = some (.at ub)) (hub : (V.at ub).notBi = true) (hne : isAt (.ref rb) ub = some false)
    {bs : List IS} {J : V} {on : Bool} (hfj : fs.lookup ("isjunk" : Str) = some J) (hfa : fs.lookup ("autojunk" : Str) = some (.bool on)) (hJb : J.notBi = true) {jk : IS → Bool} {W : Hp} (hJ : JunkIn c k J jk W) (hW : ∀ p ∈ W, p ∈ H) (hrb : (rb, O.list (bs.map IS.v)) ∈ H) (hfc : fs.lookup ("_SequenceMatcher__chain_b" : Str) = .none) (hz : fs.length ≤ 90) (hbz : bs.length ≤ 1000)
    : WPs c (bodyIn (fdIn (K08 p) 181)) [("b", .ref rb), ("self", .ref x)] ((x, .inst 242 d) :: (d, .ns fs) :: H)
      fun f _ H' => f.val = .none ∧ ∃ D S S2 z1 z2 ep G, gP G = grp bs ∧ Less [] H' [] ((S2, .set z2 (((G.filter fun e => !jk e.1).filter (chPop bs.length on)).map (·.1))) :: (S, .set z1 ((G.map (·.1)).filter jk)) :: (D, .dict ep (gD ((G.filter fun e => !jk e.1).filter fun e => !chPop bs.length on e))) :: (x, .inst 242 d) :: (d, .ns (("bpopular", .ref S2) :: ("bjunk", .ref S) :: ("b2j", .ref D) :: ("fullbcount", .none) :: ("opcodes", .none) :: ("matching_blocks", .none) :: ("b", .ref rb) :: fs)) :: (gL G ++ H)) := by
  have hn := congrArg Scope.names hs
  conv at hn => rhs; whnf
  have hC := cls08 p
  refine s_cons (s1_expr ?_)
  with_reducible refine e_str ?_
  with_reducible refine s_if ?_
  refine t_cmp ?_ (by with_unfolding_all rfl)
  refine e_loc (by with_reducible assumption) (by decide +kernel) (Loc.head _) ?_
  refine e_attr ?_
  refine e_loc (by with_reducible assumption) (by decide +kernel) (Loc.tail (by decide) (Loc.head _)) ?_
  refine a_inst B hC (by kernel_rfl) (Sees.mem List.mem_cons_self) (Sees.mem (List.mem_cons_of_mem _ List.mem_cons_self)) hfb ?_ hub
  refine c_is hne ?_
  with_reducible refine tru_bool ?_
  refine if_b (fun h => nomatch h) (fun _ => ?_)
  with_reducible refine s_nil ?_
  refine s_cons (s1_to ?_)
  refine e_loc (by with_reducible assumption) (by decide +kernel) (Loc.head _) ?_
  refine asg_attr ?_
  refine e_loc (by with_reducible assumption) (by decide +kernel) (Loc.tail (by decide) (Loc.head _)) ?_
  refine set_inst B hC (by kernel_rfl) (Sees.mem List.mem_cons_self) (Upd.tail (Upd.head _)) ?_ (by (exact ar1 1 (.l (.v 0) (.n 90)) (.l (.v 0) (.n 1000)) (by kernel_rfl) [_] hz))
  refine s_cons (s1_to2 ?_)
  with_reducible refine e_none ?_
  refine asg_attr ?_
  refine e_loc (by with_reducible assumption) (by decide +kernel) (Loc.tail (by decide) (Loc.head _)) ?_
  refine set_inst B hC (by kernel_rfl) (Sees.mem List.mem_cons_self) (Upd.tail (Upd.head _)) ?_ (by simp; (exact ar1 1 (.l (.v 0) (.n 90)) (.l (.v 0) (.n 999)) (by kernel_rfl) [_] hz))
  refine asg_attr ?_
  refine e_loc (by with_reducible assumption) (by decide +kernel) (Loc.tail (by decide) (Loc.head _)) ?_
  refine set_inst B hC (by kernel_rfl) (Sees.mem List.mem_cons_self) (Upd.tail (Upd.head _)) ?_ (by simp; (exact ar1 1 (.l (.v 0) (.n 90)) (.l (.v 0) (.n 998)) (by kernel_rfl) [_] hz))
  refine s_cons (s1_to ?_)
  with_reducible refine e_none ?_
  refine asg_attr ?_
  refine e_loc (by with_reducible assumption) (by decide +kernel) (Loc.tail (by decide) (Loc.head _)) ?_
  refine set_inst B hC (by kernel_rfl) (Sees.mem List.mem_cons_self) (Upd.tail (Upd.head _)) ?_ (by simp; (exact ar1 1 (.l (.v 0) (.n 90)) (.l (.v 0) (.n 997)) (by kernel_rfl) [_] hz))
  ((with_reducible refine s_cons ?_); refine s1_expr ?_)
  refine e_method ?_
  refine e_loc (by with_reducible assumption) (by decide +kernel) (Loc.tail (by decide) (Loc.head _)) ?_
  refine ⟨_, _, gm_inst (K := K08 p) (C := 242) (f := 188) B hC (by kernel_rfl) (by kernel_rfl) (Sees.mem List.mem_cons_self) (Sees.mem (List.mem_cons_of_mem _ List.mem_cons_self)) ?_, ?_⟩
  · rw [look_skip (by decide), look_skip (by decide), look_skip (by decide), look_skip (by decide)]; exact hfc
  with_reducible refine items_nil ?_
  refine ⟨keep_K B (by kernel_rfl), CalC.cal (chain_cal p hf B (on := on) (fs := ("fullbcount", .none) :: ("opcodes", .none) :: ("matching_blocks", .none) :: ("b", .ref rb) :: fs) rfl ?_ ?_ hJb hJ hW hrb (by simp; (exact ar1 1 (.l (.v 0) (.n 90)) (.l (.v 0) (.n 96)) (by kernel_rfl) [_] hz)) hbz ?_)⟩
  · rw [look_skip (by decide), look_skip (by decide), look_skip (by decide), look_skip (by decide)]; exact hfj
  · rw [look_skip (by decide), look_skip (by decide), look_skip (by decide), look_skip (by decide)]; exact hfa
  intro D S S2 z1 z2 ep G hG
  with_reducible refine s_nil ?_
  exact ⟨rfl, D, S, S2, z1, z2, ep, G, hG, by exact (less_of LessM.nil (List.Sublist.refl _))⟩

theorem seq2_cal (p : Params) {c : Ctx} {k : Nat} (hf : c.fuel = k + 1 + 1) (B : Base c (K08 p)) {m : Lo} {Q : V → Lo → Hp → Prop} {H : Hp} {x d rb : Addr} {fs : List (Str × V)} {ub : At} (hfb : fs.lookup ("b" : Str) = some (.at ub)) (hub : (V.at ub).notBi = true) (hne : isAt (.ref rb) ub = some false)
    {bs : List IS} {J : V} {on : Bool} (hfj : fs.lookup ("isjunk" : Str) = some J) (hfa : fs.lookup ("autojunk" : Str) = some (.bool on)) (hJb : J.notBi = true) {jk : IS → Bool} {W : Hp} (hJ : JunkIn c k J jk W) (hW : ∀ p ∈ W, p ∈ H) (hrb : (rb, O.list (bs.map IS.v)) ∈ H) (hfc : fs.lookup ("_SequenceMatcher__chain_b" : Str) = .none) (hz : fs.length ≤ 90) (hbz : bs.length ≤ 1000)
    (h : ∀ D S S2 z1 z2 ep G, gP G = grp bs → Q .none m ((S2, .set z2 (((G.filter fun e => !jk e.1).filter (chPop bs.length on)).map (·.1))) :: (S, .set z1 ((G.map (·.1)).filter jk)) :: (D, .dict ep (gD ((G.filter fun e => !jk e.1).filter fun e => !chPop bs.length on e))) :: (x, .inst 242 d) :: (d, .ns (("bpopular", .ref S2) :: ("bjunk", .ref S) :: ("b2j", .ref D) :: ("fullbcount", .none) :: ("opcodes", .none) :: ("matching_blocks", .none) :: ("b", .ref rb) :: fs)) :: (gL G ++ H))) : CalC c (.ref 181) [.ref x, .ref rb] m ((x, .inst 242 d) :: (d, .ns fs) :: H) Q := by
  refine cal_K (fd := fdIn (K08 p) 181) (bs := List.zip [("self" : Str), "b"] [V.ref x, V.ref rb]) B hf (fnOk_of (by kernel_rfl)) (by kernel_rfl) (by kernel_rfl) (fun s vvs X r => binds_plain rfl (fun vvs hl => ?_) s vvs X r) fun L c2 hc hk B2 => ?_
  · exact bind2 (fun v0 v1 => by kernel_rfl) vvs hl
  · have e1 : locOf (fdIn (K08 p) 181).scope.names (List.zip [("self" : Str), "b"] [V.ref x, V.ref rb]) = [(("b" : Str), V.ref rb), ("self", V.ref x)] := by kernel_rfl
    have e2 : cellsAt L (fdIn (K08 p) 181) (List.zip [("self" : Str), "b"] [V.ref x, V.ref rb]) = [] := by kernel_rfl
    rw [e1, e2]
    refine WPs.post (WPs.mono (seq2_ok p c2 hk B2 hc.scope hfb hub hne hfj hfa hJb (hJ.called hc) hW hrb hfc hz hbz) ?_)
    rintro f m' H' ⟨hv, D, S, S2, z1, z2, ep, G, hG, hl⟩
    refine ⟨[], _, ⟨(fun _ _ e => nomatch e), hl.2⟩, ?_⟩
    rw [hv]
    exact h D S S2 z1 z2 ep G hG
noncomputable abbrev fs0 (J : V) (on : Bool) : List (Str × V) := [("autojunk", .bool on), ("b", .none), ("a", .none), ("isjunk", J)]
noncomputable abbrev fsA (J : V) (on : Bool) (ra : Addr) : List (Str × V) := ("opcodes", .none) :: ("matching_blocks", .none) :: ("a", .ref ra) :: fs0 J on
noncomputable abbrev fsB (J : V) (on : Bool) (ra rb D S S2 : Addr) : List (Str × V) := ("bpopular", .ref S2) :: ("bjunk", .ref S) :: ("b2j", .ref D) :: ("fullbcount", .none) :: ("opcodes", .none) :: ("matching_blocks", .none) :: ("b", .ref rb) :: fsA J on ra
noncomputable abbrev mkH (x d ra rb D S S2 : Addr) (z1 z2 : Raw) (ep : Nat) (G : GL) (bs : List IS) (J : V) (jk : IS → Bool) (on : Bool) (H : Hp) : Hp :=
  (S2, .set z2 (((G.filter fun e => !jk e.1).filter (chPop bs.length on)).map (·.1))) :: (S, .set z1 ((G.map (·.1)).filter jk)) :: (D, .dict ep (gD ((G.filter fun e => !jk e.1).filter fun e => !chPop bs.length on e))) :: (x, .inst 242 d) :: (d, .ns (fsB J on ra rb D S S2)) :: (gL G ++ H)
theorem seqs_ok (p : Params) (c : Ctx) {k : Nat} (hf : c.fuel = k + 1 + 1) (B : Base c (K08 p)) (hs : c.env.scope = (fdIn (K08 p) 167).scope) {H : Hp} {x d ra rb : Addr} {bs : List IS} {J : V} {on : Bool} (hJb : J.notBi = true) {jk : IS → Bool} {W : Hp} (hJ : JunkIn c k J jk W) (hW : ∀ p ∈ W, p ∈ H) (hrb : (rb, O.list (bs.map IS.v)) ∈ H) (hbz : bs.length ≤ 1000)
    : WPs c (bodyIn (fdIn (K08 p) 167)) [("b", .ref rb), ("a", .ref ra), ("self", .ref x)] ((x, .inst 242 d) :: (d, .ns (fs0 J on)) :: H)
      fun f _ H' => f.val = .none ∧ ∃ D S S2 z1 z2 ep G, gP G = grp bs ∧ Less [] H' [] (mkH x d ra rb D S S2 z1 z2 ep G bs J jk on H) := by
  have hn := congrArg Scope.names hs
  conv at hn => rhs; whnf
  have hC := cls08 p
  refine s_cons (s1_expr ?_)
  with_reducible refine e_str ?_
  ((with_reducible refine s_cons ?_); refine s1_expr ?_)
  refine e_method ?_
  refine e_loc (by with_reducible assumption) (by decide +kernel) (Loc.tail (by decide) (Loc.tail (by decide) (Loc.head _))) ?_
  refine ⟨_, _, gm_inst (K := K08 p) (C := 242) (f := 174) B hC (by kernel_rfl) (by kernel_rfl) (Sees.mem List.mem_cons_self) (Sees.mem (List.mem_cons_of_mem _ List.mem_cons_self)) rfl, ?_⟩
  refine items_cons ?_
  refine e_loc (by with_reducible assumption) (by decide +kernel) (Loc.tail (by decide) (Loc.head _)) ?_
  with_reducible refine items_nil ?_
  refine ⟨keep_K B (by kernel_rfl), CalC.cal (seq1_cal p hf B (fs := fs0 J on) (ua := .none) rfl rfl rfl (by simp) ?_)⟩
  ((with_reducible refine s_cons ?_); refine s1_expr ?_)
  refine e_method ?_
  refine e_loc (by with_reducible assumption) (by decide +kernel) (Loc.tail (by decide) (Loc.tail (by decide) (Loc.head _))) ?_
  refine ⟨_, _, gm_inst (K := K08 p) (C := 242) (f := 181) B hC (by kernel_rfl) (by kernel_rfl) (Sees.mem List.mem_cons_self) (Sees.mem (List.mem_cons_of_mem _ List.mem_cons_self)) rfl, ?_⟩
  refine items_cons ?_
  refine e_loc (by with_reducible assumption) (by decide +kernel) (Loc.head _) ?_
  with_reducible refine items_nil ?_
  refine ⟨keep_K B (by kernel_rfl), CalC.cal (seq2_cal p hf B (on := on) (fs := fsA J on ra) (ub := .none) rfl rfl rfl rfl rfl hJb hJ hW hrb rfl (by simp) hbz ?_)⟩
  intro D S S2 z1 z2 ep G hG
  with_reducible refine s_nil ?_
  exact ⟨rfl, D, S, S2, z1, z2, ep, G, hG, by exact (less_of LessM.nil (List.Sublist.refl _))⟩
theorem seqs_cal (p : Params) {c : Ctx} {k : Nat} (hf : c.fuel = k + 1 + 1 + 1) (B : Base c (K08 p)) {m : Lo} {Q : V → Lo → Hp → Prop} {H : Hp} {x d ra rb : Addr}
    {bs : List IS} {J : V} {on : Bool} (hJb : J.notBi = true) {jk : IS → Bool} {W : Hp} (hJ : JunkIn c k J jk W) (hW : ∀ p ∈ W, p ∈ H) (hrb : (rb, O.list (bs.map IS.v)) ∈ H) (hbz : bs.length ≤ 1000)
    (h : ∀ D S S2 z1 z2 ep G, gP G = grp bs → Q .none m (mkH x d ra rb D S S2 z1 z2 ep G bs J jk on H)) : CalC c (.ref 167) [.ref x, .ref ra, .ref rb] m ((x, .inst 242 d) :: (d, .ns (fs0 J on)) :: H) Q := by
  refine cal_K (fd := fdIn (K08 p) 167) (bs := List.zip [("self" : Str), "a", "b"] [V.ref x, V.ref ra, V.ref rb]) B hf (fnOk_of (by kernel_rfl)) (by kernel_rfl) (by kernel_rfl) (fun s vvs X r => binds_plain rfl (fun vvs hl => ?_) s vvs X r) fun L c2 hc hk B2 => ?_
  · exact bind3 (fun v0 v1 v2 => by kernel_rfl) vvs hl
  · have e1 : locOf (fdIn (K08 p) 167).scope.names (List.zip [("self" : Str), "a", "b"] [V.ref x, V.ref ra, V.ref rb]) = [(("b" : Str), V.ref rb), ("a", V.ref ra), ("self", V.ref x)] := by kernel_rfl
    have e2 : cellsAt L (fdIn (K08 p) 167) (List.zip [("self" : Str), "a", "b"] [V.ref x, V.ref ra, V.ref rb]) = [] := by kernel_rfl
    rw [e1, e2]
    refine WPs.post (WPs.mono (seqs_ok p c2 hk B2 hc.scope hJb (hJ.called hc) hW hrb hbz) ?_)
    rintro f m' H' ⟨hv, D, S, S2, z1, z2, ep, G, hG, hl⟩
    refine ⟨[], _, ⟨(fun _ _ e => nomatch e), hl.2⟩, ?_⟩
    rw [hv]
    exact h D S S2 z1 z2 ep G hG
theorem init_ok (p : Params) (c : Ctx) {k : Nat} (hf : c.fuel = k + 1 + 1 + 1) (B : Base c (K08 p)) (hs : c.env.scope = (fdIn (K08 p) 160).scope) {H : Hp} {x d ra rb : Addr} {bs : List IS} {J : V} {on : Bool} (hJb : J.notBi = true) {jk : IS → Bool} {W : Hp} (hJ : JunkIn c k J jk W) (hW : ∀ p ∈ W, p ∈ H) (hrb : (rb, O.list (bs.map IS.v)) ∈ H) (hbz : bs.length ≤ 1000)
    : WPs c (bodyIn (fdIn (K08 p) 160)) [("autojunk", .bool on), ("b", .ref rb), ("a", .ref ra), ("isjunk", J), ("self", .ref x)] ((x, .inst 242 d) :: (d, .ns []) :: H)
      fun f _ H' => f.val = .none ∧ ∃ D S S2 z1 z2 ep G, gP G = grp bs ∧ Less [] H' [] (mkH x d ra rb D S S2 z1 z2 ep G bs J jk on H) := by
  have hn := congrArg Scope.names hs
  conv at hn => rhs; whnf
  have hC := cls08 p
  refine s_cons (s1_expr ?_)
  with_reducible refine e_str ?_
  refine s_cons (s1_to ?_)
  refine e_loc (by with_reducible assumption) (by decide +kernel) (Loc.tail (by decide) (Loc.tail (by decide) (Loc.tail (by decide) (Loc.head _)))) ?_
  refine asg_attr ?_
  refine e_loc (by with_reducible assumption) (by decide +kernel) (Loc.tail (by decide) (Loc.tail (by decide) (Loc.tail (by decide) (Loc.tail (by decide) (Loc.head _))))) ?_
  refine set_inst B hC (by kernel_rfl) (Sees.mem List.mem_cons_self) (Upd.tail (Upd.head _)) ?_ (by decide)
  refine s_cons (s1_to2 ?_)
  with_reducible refine e_none ?_
  refine asg_attr ?_
  refine e_loc (by with_reducible assumption) (by decide +kernel) (Loc.tail (by decide) (Loc.tail (by decide) (Loc.tail (by decide) (Loc.tail (by decide) (Loc.head _))))) ?_
  refine set_inst B hC (by kernel_rfl) (Sees.mem List.mem_cons_self) (Upd.tail (Upd.head _)) ?_ (by simp)
  refine asg_attr ?_
  refine e_loc (by with_reducible assumption) (by decide +kernel) (Loc.tail (by decide) (Loc.tail (by decide) (Loc.tail (by decide) (Loc.tail (by decide) (Loc.head _))))) ?_
  refine set_inst B hC (by kernel_rfl) (Sees.mem List.mem_cons_self) (Upd.tail (Upd.head _)) ?_ (by simp)
  refine s_cons (s1_to ?_)
  refine e_loc (by with_reducible assumption) (by decide +kernel) (Loc.head _) ?_
  refine asg_attr ?_
  refine e_loc (by with_reducible assumption) (by decide +kernel) (Loc.tail (by decide) (Loc.tail (by decide) (Loc.tail (by decide) (Loc.tail (by decide) (Loc.head _))))) ?_
  refine set_inst B hC (by kernel_rfl) (Sees.mem List.mem_cons_self) (Upd.tail (Upd.head _)) ?_ (by simp)
  refine s_cons (s1_expr ?_)
  refine e_method ?_
  refine e_loc (by with_reducible assumption) (by decide +kernel) (Loc.tail (by decide) (Loc.tail (by decide) (Loc.tail (by decide) (Loc.tail (by decide) (Loc.head _))))) ?_
  refine ⟨_, _, gm_inst (K := K08 p) (C := 242) (f := 167) B hC (by kernel_rfl) (by kernel_rfl) (Sees.mem List.mem_cons_self) (Sees.mem (List.mem_cons_of_mem _ List.mem_cons_self)) rfl, ?_⟩
  refine items_cons ?_
  refine e_loc (by with_reducible assumption) (by decide +kernel) (Loc.tail (by decide) (Loc.tail (by decide) (Loc.head _))) ?_
  refine items_cons ?_
  refine e_loc (by with_reducible assumption) (by decide +kernel) (Loc.tail (by decide) (Loc.head _)) ?_
  with_reducible refine items_nil ?_
  refine ⟨keep_K B (by kernel_rfl), CalC.cal (seqs_cal p hf B (on := on) hJb hJ hW hrb hbz ?_)⟩
  intro D S S2 z1 z2 ep G hG
  with_reducible refine s_nil ?_
  exact ⟨rfl, D, S, S2, z1, z2, ep, G, hG, by exact (less_of LessM.nil (List.Sublist.refl _))⟩
end
section
open PySem PySem.W PyProof.Rows PySem.Calls
set_option maxRecDepth 100000
theorem dfl_look (p : Params) : (K08 p).lookup 153 = some { cls := Value.type "tuple", data := Data.seq #[Value.none, Value.str (Str.ofString "") 404, Value.str (Str.ofString "") 405, Value.bool true] 0 } := by kernel_rfl
noncomputable def initParams : Arguments := ⟨[], [⟨Str.ofString "self", none, ⟨145, 17, 145, 21⟩⟩, ⟨Str.ofString "isjunk", none, ⟨145, 23, 145, 29⟩⟩, ⟨Str.ofString "a", none, ⟨145, 36, 145, 37⟩⟩, ⟨Str.ofString "b", none, ⟨145, 42, 145, 43⟩⟩, ⟨Str.ofString "autojunk", none, ⟨145, 48, 145, 56⟩⟩],
  none, [], [], none,
    [Expr.Constant Const.none 0 ⟨145, 30, 145, 34⟩, Expr.Constant (Const.str (Str.ofString "")) 0 ⟨145, 38, 145, 40⟩, Expr.Constant (Const.str (Str.ofString "")) 0 ⟨145, 44, 145, 46⟩, Expr.Constant (Const.bool true) 0 ⟨145, 57, 145, 61⟩]⟩
theorem bi5 {fd : FuncData} {T : Addr} {s : Shared} {o : Obj} {d1 d2 d3 d4 : Value} {n : Nat} (hp : fd.params = initParams) (hd : fd.defaults = .ref T) (ho : s.heap.get? T = some o) (hs : o.data = .seq #[d1, d2, d3, d4] n) (v0 v1 v2 v3 v4 : Value) :
    BindsTo s fd ⟨[v0, v1, v2, v3, v4], []⟩ (List.zip [("self" : Str), "isjunk", "a", "b", "autojunk"] [v0, v1, v2, v3, v4]) := by
  cases fd
  dsimp only at hp hd
  subst hp hd
  exact BindsTo.of_defaults rfl ho hs rfl rfl
theorem bi4 {fd : FuncData} {T : Addr} {s : Shared} {o : Obj} {d1 d2 d3 d4 : Value} {n : Nat} (hp : fd.params = initParams) (hd : fd.defaults = .ref T) (ho : s.heap.get? T = some o) (hs : o.data = .seq #[d1, d2, d3, d4] n) (v0 v1 v2 v3 : Value) :
    BindsTo s fd ⟨[v0, v1, v2, v3], []⟩ (List.zip [("self" : Str), "isjunk", "a", "b", "autojunk"] [v0, v1, v2, v3, d4]) := by
  cases fd
  dsimp only at hp hd
  subst hp hd
  exact BindsTo.of_defaults rfl ho hs rfl rfl
theorem binds_init5 (p : Params) (s : Shared) (X : (K08 p).In s.heap) (v0 v1 v2 v3 v4 : Value) : BindsTo s (fdIn (K08 p) 160) ⟨[v0, v1, v2, v3, v4], []⟩ (List.zip [("self" : Str), "isjunk", "a", "b", "autojunk"] [v0, v1, v2, v3, v4]) :=
  bi5 (by kernel_rfl) (by kernel_rfl) (X _ _ (dfl_look p)) rfl _ _ _ _ _
theorem binds_init4 (p : Params) (s : Shared) (X : (K08 p).In s.heap) (v0 v1 v2 v3 : Value) : BindsTo s (fdIn (K08 p) 160) ⟨[v0, v1, v2, v3], []⟩ (List.zip [("self" : Str), "isjunk", "a", "b", "autojunk"] [v0, v1, v2, v3, .bool true]) :=
  bi4 (by kernel_rfl) (by kernel_rfl) (X _ _ (dfl_look p)) rfl _ _ _ _
theorem init_cal (p : Params) {c : Ctx} {k : Nat} (hf : c.fuel = k + 1 + 1 + 1 + 1) (B : Base c (K08 p)) {m : Lo} {Q : V → Lo → Hp → Prop} {H : Hp} {x d ra rb : Addr}
    {bs : List IS} {J : V} {on : Bool} {more : List V} (hmore : more = [.bool on] ∨ (more = [] ∧ on = true)) (hJb : J.notBi = true) {jk : IS → Bool} {W : Hp} (hJ : JunkIn c k J jk W) (hW : ∀ p ∈ W, p ∈ H) (hrb : (rb, O.list (bs.map IS.v)) ∈ H) (hbz : bs.length ≤ 1000)
    (h : ∀ D S S2 z1 z2 ep G, gP G = grp bs → Q .none m (mkH x d ra rb D S S2 z1 z2 ep G bs J jk on H)) : CalC c (.ref 160) (.ref x :: J :: .ref ra :: .ref rb :: more) m ((x, .inst 242 d) :: (d, .ns []) :: H) Q := by
  refine cal_K (fd := fdIn (K08 p) 160) (bs := List.zip [("self" : Str), "isjunk", "a", "b", "autojunk"] [V.ref x, J, V.ref ra, V.ref rb, .bool on]) B hf (fnOk_of (by kernel_rfl)) (by kernel_rfl) (by kernel_rfl) ?_ fun L c2 hc hk B2 => ?_
  · intro s vvs X r
    rcases hmore with rfl | ⟨rfl, rfl⟩
    · revert r
      refine fun r => vals5 (P := fun l => Reps s.heap _ l → ∃ binds, BindsTo s _ ⟨l, []⟩ binds ∧ BRep s.heap _ binds) (fun v0 v1 v2 v3 v4 r => ?_) vvs r.length r
      exact ⟨_, binds_init5 p s X v0 v1 v2 v3 v4, rfl, r⟩
    · revert r
      refine fun r => vals4 (P := fun l => Reps s.heap _ l → ∃ binds, BindsTo s _ ⟨l, []⟩ binds ∧ BRep s.heap _ binds) (fun v0 v1 v2 v3 r => ?_) vvs r.length r
      exact ⟨_, binds_init4 p s X v0 v1 v2 v3, rfl, Reps.append (ys := [V.bool true]) (ws := [Value.bool true]) r (Reps.one (x := V.bool true) rfl)⟩
  · have e1 : locOf (fdIn (K08 p) 160).scope.names (List.zip [("self" : Str), "isjunk", "a", "b", "autojunk"] [V.ref x, J, V.ref ra, V.ref rb, .bool on]) = [(("autojunk" : Str), V.bool on), ("b", .ref rb), ("a", .ref ra), ("isjunk", J), ("self", V.ref x)] := by kernel_rfl
    have e2 : cellsAt L (fdIn (K08 p) 160) (List.zip [("self" : Str), "isjunk", "a", "b", "autojunk"] [V.ref x, J, V.ref ra, V.ref rb, .bool on]) = [] := by kernel_rfl
    rw [e1, e2]
    refine WPs.post (WPs.mono (init_ok p c2 hk B2 hc.scope hJb (hJ.called hc) hW hrb hbz) ?_)
    rintro f m' H' ⟨hv, D, S, S2, z1, z2, ep, G, hG, hl⟩
    refine ⟨[], _, ⟨(fun _ _ e => nomatch e), hl.2⟩, ?_⟩
    rw [hv]
    exact h D S S2 z1 z2 ep G hG
theorem class_cal (p : Params) {c : Ctx} {k : Nat} (hf : c.fuel = k + 1 + 1 + 1 + 1 + 1) (B : Base c (K08 p)) {m : Lo} {Q : V → Lo → Hp → Prop} {H : Hp} {ra rb : Addr}
    {bs : List IS} {J : V} {on : Bool} {more : List V} (hmore : more = [.bool on] ∨ (more = [] ∧ on = true)) (hJb : J.notBi = true) {jk : IS → Bool} {W : Hp} (hJ : JunkIn c k J jk W) (hW : ∀ p ∈ W, p ∈ H) (hrb : (rb, O.list (bs.map IS.v)) ∈ H) (hbz : bs.length ≤ 1000)
    (h : ∀ x d D S S2 z1 z2 ep G, gP G = grp bs → Q (.ref x) m (mkH x d ra rb D S S2 z1 z2 ep G bs J jk on H)) : CalC c (.ref 242) (J :: .ref ra :: .ref rb :: more) m H Q := by
  refine cal_class B hf (fI := 160) (by kernel_rfl) (by kernel_rfl) (by kernel_rfl) fun c2 x d hc hk B2 => ?_
  exact init_cal p hk B2 hmore hJb (hJ.made hc) hW hrb hbz fun D S S2 z1 z2 ep G hG => ⟨rfl, h x d D S S2 z1 z2 ep G hG⟩
end
section
open PySem PySem.W PyProof.Rows PySem.Calls
set_option maxRecDepth 100000

noncomputable def cnt (bs : List IS) (k : IS) : Nat := ((List.range bs.length).filter fun i => decide (bs[i]? = some k)).length
noncomputable def lawPlain (k : IS) (bs js : List IS) (on : Bool) : Bool := !decide (k ∈ js) && !(on && decide ((200 : Int) ≤ bs.length) && decide ((bs.length : Int) < 100 * ((cnt bs k : Int) - 1)))
theorem filterMap_len (p : Nat → Bool) (g : Nat → V) : ∀ l : List Nat, (l.filterMap fun i => if p i then some (g i) else none).length = (l.filter p).length
  | [] => rfl
  | i :: l => by
    have := filterMap_len p g l
    cases h : p i <;> simp [h, this]
theorem law_plain_ok (p : Params) (c : Ctx) (B : Base c (K08 p)) (hs : c.env.scope = (fdIn (K08 p) 256).scope) {cb cx : Addr} (hcs : c.env.cells = [(("b" : Str), cb), ("x", cx)]) {H : Hp} {k : IS} {rb rj : Addr} {bs js : List IS} {on : Bool} (hz : bs.length ≤ 1000)
    (hb : (rb, O.list (bs.map IS.v)) ∈ H) (hj : (rj, O.list (js.map IS.v)) ∈ H)
    : WPs c (bodyIn (fdIn (K08 p) 256)) [("on", .bool on), ("junk", .ref rj)] ((cb, .cell (some (.ref rb))) :: (cx, .cell (some k.v)) :: H)
      fun f _ H' => f.val = .bool (lawPlain k bs js on) ∧ Less [] H' [] H := by
  have hn := congrArg Scope.names hs
  conv at hn => rhs; whnf
  have gl : Glob c "len" (.bi "len") := B.bi (kind_of hn (by decide +kernel)) (by kernel_rfl) (by kernel_rfl) (by decide) rfl
  have gr : Glob c "range" (.ty "range") := B.bi (kind_of hn (by decide +kernel)) (by kernel_rfl) (by kernel_rfl) (by decide) rfl
  refine s_if ?_
  refine t_cmp ?_ (by with_unfolding_all rfl)
  refine e_cel (by with_reducible assumption) (by with_reducible assumption) (by decide +kernel) (CLoc.tail (by decide) (CLoc.head _)) (Sees.mem (List.mem_cons_of_mem _ List.mem_cons_self)) ?_
  refine e_loc (by with_reducible assumption) (by decide +kernel) (Loc.tail (by decide) (Loc.head _)) ?_
  refine c_in (ks := js) (Sees.mem (List.mem_cons_of_mem _ (List.mem_cons_of_mem _ (by with_reducible assumption)))) ?_
  with_reducible refine tru_bool ?_
  refine if_b (fun h => ?_) (fun h => ?_)
  · with_reducible refine s_cons (s1_return ?_)
    with_reducible refine e_bool ?_
    refine ⟨?_, by exact (less_of LessM.nil (List.Sublist.cons _ (List.Sublist.cons _ (List.Sublist.refl _))))⟩
    show V.bool false = _
    unfold lawPlain
    rw [h]; rfl
  with_reducible refine s_nil ?_
  ((with_reducible refine s_cons ?_); refine s1_assign ?_)
  refine e_call ?_
  refine e_glob (by with_reducible assumption) ?_
  refine items_cons ?_
  refine e_comp (cl := ?cl) ?hclo rfl (it_range rfl ?_)
  case hclo =>
    refine clo_eq hcs ?_
    (refine (Clo.skip (by decide) (Clo.skip (by decide) (Clo.take (CLoc.head _) (Clo.take (CLoc.tail (by decide) (CLoc.head _)) ?_)))); exact Clo.nil _)
  refine e_call ?_
  refine e_glob (by with_reducible assumption) ?_
  refine items_cons ?_
  refine e_call ?_
  refine e_glob (by with_reducible assumption) ?_
  refine items_cons ?_
  refine e_cel (by with_reducible assumption) (by with_reducible assumption) (by decide +kernel) (CLoc.head _) (Sees.mem List.mem_cons_self) ?_
  with_reducible refine items_nil ?_
  refine ⟨keep_bi, k_len (xs := bs.map IS.v) (Sees.mem (List.mem_cons_of_mem _ (List.mem_cons_of_mem _ (by with_reducible assumption)))) ?_ (by simp; (exact ar1 1 (.l (.v 0) (.n 1000)) (.l (.v 0) (.n 1000000)) (by kernel_rfl) [_] hz))⟩
  with_reducible refine items_nil ?_
  refine ⟨keep_ty, k_range ?_⟩
  intro y2
  refine ⟨_, _, _, rfl, by exact (Sees.mem List.mem_cons_self), by (first | lia | omega), by simp; (first | lia | omega), ?_⟩
  have hsz : sizeLine = 16777216 := rfl
  refine ⟨by simp; (exact ar2 2 (.l (.v 0) (.n 1000)) (.e (.v 1) (.n 16777216)) (.l (.v 0) (.v 1)) (by kernel_rfl) [_, _] hz hsz), compOver (f := fun i => if decide (bs[i]? = some k) then some (.int (0 + (i : Int))) else .none) (H' := (cb, .cell (some (.ref rb))) :: (cx, .cell (some k.v)) :: H) (fun _ => by exact (less_of LessM.nil (List.Sublist.cons _ (List.Sublist.refl _)))) ?_ (fun _ _ => trivial) ?_⟩
  · intro c2 hc i hi
    refine asg_name ?_
    have hn2 := hc.named hn
    have hcs2 := hc.cells
    refine sto_local (kind_of (by with_reducible assumption) (by decide +kernel)) ?_
    show WPt _ _ _ _ _
    refine t_cmp ?_ (by with_unfolding_all rfl)
    with_reducible refine e_sub ?_
    refine e_cel (by with_reducible assumption) (by with_reducible assumption) (by decide +kernel) (CLoc.tail (by decide) (CLoc.head _)) (Sees.mem List.mem_cons_self) ?_
    refine e_loc (by with_reducible assumption) (by decide +kernel) (Loc.head _) ?_
    have hi' : i < bs.length := by simpa using hi
    refine sub_list (u := (bs[i]).v) (xs := bs.map IS.v) (Sees.mem (List.mem_cons_of_mem _ (List.mem_cons_of_mem _ (by with_reducible assumption)))) (by (first | lia | omega)) ?_ ?_ (hl := by simp; (exact ar2 2 (.l (.v 0) (.n 1000)) (.e (.v 1) (.n 16777216)) (.l (.v 0) (.v 1)) (by kernel_rfl) [_, _] hz hsz))
    · simp [hi']
    refine e_cel (by with_reducible assumption) (by with_reducible assumption) (by decide +kernel) (CLoc.head _) (Sees.mem (List.mem_cons_of_mem _ List.mem_cons_self)) ?_
    refine c_eqIS ?_
    refine tru_bool ?_
    have e0 : decide (bs[i] = k) = decide (bs[i]? = some k) := by simp [hi']
    rw [e0]
    cases hd : decide (bs[i]? = some k)
    · exact ⟨by simp, by exact (less_of LessM.nil (List.Sublist.refl _))⟩
    · show WPe _ _ _ _ _
      refine e_loc (by with_reducible assumption) (by decide +kernel) (Loc.head _) ?_
      exact ⟨by simp, by exact (less_of LessM.nil (List.Sublist.refl _))⟩
  · intro H2 hl D
    with_reducible refine items_nil ?_
    have hcn := filterMap_len (fun i => decide (bs[i]? = some k)) (fun i => V.int (0 + (i : Int))) (List.range bs.length)
    have hcl : cnt bs k ≤ bs.length := by unfold cnt; exact Nat.le_trans (List.length_filter_le _ _) (by simp)
    have hel : (↑(List.map IS.v bs).length - 0 : Int).toNat = bs.length := by simp
    rw [hel]
    refine ⟨keep_bi, Cal.less hl.lift (k_len (xs := (List.range bs.length).filterMap fun (i : Nat) => if decide (bs[i]? = some k) = true then some (.int (0 + (i : Int))) else none) (Sees.mem List.mem_cons_self) ?_ (by rw [hcn]; exact Nat.le_trans hcl (by (exact ar1 1 (.l (.v 0) (.n 1000)) (.l (.v 0) (.n 1000000)) (by kernel_rfl) [_] hz))))⟩
    rw [hcn]
    show Sto _ _ (.int (cnt bs k)) _ _ _
    refine sto_local (kind_of (by with_reducible assumption) (by decide +kernel)) ?_
    with_reducible refine s_cons (s1_return ?_)
    with_reducible refine e_unary ?_
    with_reducible refine e_band ?_
    refine e_loc (by with_reducible assumption) (by decide +kernel) (Loc.tail (by decide) (Loc.head _)) ?_
    with_reducible refine tru_bool ?_
    refine if_b (fun h1 => ?_) (fun h1 => ?_)
    · with_reducible refine e_band ?_
      refine e_cmp ?_ (by with_unfolding_all rfl)
      refine e_call ?_
      refine e_glob (by with_reducible assumption) ?_
      refine items_cons ?_
      refine e_cel (by with_reducible assumption) (by with_reducible assumption) (by decide +kernel) (CLoc.head _) (Sees.mem (List.mem_cons_of_mem _ List.mem_cons_self)) ?_
      with_reducible refine items_nil ?_
      refine ⟨keep_bi, k_len (xs := bs.map IS.v) (Sees.mem (List.mem_cons_of_mem _ (List.mem_cons_of_mem _ (List.mem_cons_of_mem _ (by with_reducible assumption))))) ?_ (by simp; (exact ar1 1 (.l (.v 0) (.n 1000)) (.l (.v 0) (.n 1000000)) (by kernel_rfl) [_] hz))⟩
      with_reducible refine e_int ?_
      with_reducible refine c_ge ?_
      with_reducible refine tru_bool ?_
      refine if_b (fun h2 => ?_) (fun h2 => ?_)
      · with_reducible refine e_bone ?_
        refine e_cmp ?_ (by with_unfolding_all rfl)
        with_reducible refine e_binop ?_
        with_reducible refine e_int ?_
        with_reducible refine e_binop ?_
        refine e_loc (by with_reducible assumption) (by decide +kernel) (Loc.head _) ?_
        with_reducible refine e_int ?_
        with_reducible refine o_sub ?_
        refine o_mul ?_ (.of_left (by decide))
        refine e_call ?_
        refine e_glob (by with_reducible assumption) ?_
        refine items_cons ?_
        refine e_cel (by with_reducible assumption) (by with_reducible assumption) (by decide +kernel) (CLoc.head _) (Sees.mem (List.mem_cons_of_mem _ List.mem_cons_self)) ?_
        with_reducible refine items_nil ?_
        refine ⟨keep_bi, k_len (xs := bs.map IS.v) (Sees.mem (List.mem_cons_of_mem _ (List.mem_cons_of_mem _ (List.mem_cons_of_mem _ (by with_reducible assumption))))) ?_ (by simp; (exact ar1 1 (.l (.v 0) (.n 1000)) (.l (.v 0) (.n 1000000)) (by kernel_rfl) [_] hz))⟩
        with_reducible refine c_gt ?_
        refine u_not (tru_bool ?_)
        refine ⟨?_, by exact (less_of LessM.nil (List.Sublist.cons _ (List.Sublist.cons _ (List.Sublist.cons _ (List.Sublist.refl _)))))⟩
        show V.bool _ = _
        have h3 : decide ((200 : Int) ≤ bs.length) = true := by simpa using h2
        unfold lawPlain
        rw [h, h1, h3, List.length_map]
        rfl
      · refine u_not (tru_bool ?_)
        refine ⟨?_, by exact (less_of LessM.nil (List.Sublist.cons _ (List.Sublist.cons _ (List.Sublist.cons _ (List.Sublist.refl _)))))⟩
        show V.bool _ = _
        have h3 : decide ((200 : Int) ≤ bs.length) = false := by simpa using h2
        unfold lawPlain
        rw [h, h1, h3, List.length_map]
        simp at h2
        simp [h2]
    · refine u_not (tru_bool ?_)
      refine ⟨?_, by exact (less_of LessM.nil (List.Sublist.cons _ (List.Sublist.cons _ (List.Sublist.cons _ (List.Sublist.refl _)))))⟩
      show V.bool _ = _
      unfold lawPlain
      rw [h, h1]
      rfl
end
section
open PySem PySem.W PyProof.Rows PySem.Calls
set_option maxRecDepth 100000
theorem plain_cal (p : Params) {c : Ctx} {n : Nat} (hf : c.fuel = n + 1) (B : Base c (K08 p)) {m : Lo} {Q : V → Lo → Hp → Prop} {H : Hp} {k : IS} {rb rj : Addr} {bs js : List IS} {on : Bool} (hz : bs.length ≤ 1000)
    (hb : (rb, O.list (bs.map IS.v)) ∈ H) (hj : (rj, O.list (js.map IS.v)) ∈ H) (h : Q (.bool (lawPlain k bs js on)) m H) : CalC c (.ref 256) [k.v, .ref rb, .ref rj, .bool on] m H Q := by
  refine cal_K (fd := fdIn (K08 p) 256) (bs := List.zip [("x" : Str), "b", "junk", "on"] [k.v, V.ref rb, V.ref rj, V.bool on]) B hf (fnOk_of (by kernel_rfl)) (by kernel_rfl) (by kernel_rfl) (fun s vvs X r => binds_plain rfl (fun vvs hl => ?_) s vvs X r) fun L c2 hc hk B2 => ?_
  · exact bind4 (fun v0 v1 v2 v3 => by kernel_rfl) vvs hl
  · have e1 : locOf (fdIn (K08 p) 256).scope.names (List.zip [("x" : Str), "b", "junk", "on"] [k.v, V.ref rb, V.ref rj, V.bool on]) = [(("on" : Str), V.bool on), ("junk", .ref rj)] := by kernel_rfl
    have e2 : cellsAt L (fdIn (K08 p) 256) (List.zip [("x" : Str), "b", "junk", "on"] [k.v, V.ref rb, V.ref rj, V.bool on]) = [(L + 1 + 1, .cell (some (.ref rb))), (L + 1, .cell (some k.v))] := by kernel_rfl
    have e3 : cellsFrom (L + 1) (fdIn (K08 p) 256).scope.names [] = [(("b" : Str), L + 1 + 1), ("x", L + 1)] := by kernel_rfl
    rw [e1, e2]
    refine WPs.post (WPs.mono (law_plain_ok p c2 B2 hc.scope (hc.cells.trans e3) (on := on) hz hb hj) ?_)
    rintro f m' H' ⟨hv, hl⟩
    refine ⟨[], _, ⟨(fun _ _ e => nomatch e), hl.2⟩, ?_⟩
    rw [hv]
    exact h
theorem lists_cal (p : Params) {c : Ctx} {n : Nat} (hf : c.fuel = n + 1) (B : Base c (K08 p)) {m : Lo} {Q : V → Lo → Hp → Prop} {H : Hp} {first : Int} {ra rt : Addr} {ns : List Int} {ts : List V} (hts : ts.length = 6) (hns : ns.length ≤ 100) (hra : (ra, O.list (ns.map V.int)) ∈ H) (hrt : (rt, O.list ts) ∈ H)
    (h : ∀ xa xb, Q (.tup .none [.ref xa, .ref xb]) m ((xb, .list (llFull first (llB first ts ns))) :: (xa, .list (llA first ts ns)) :: H)) : CalC c (.ref 251) [.int first, .ref ra, .ref rt] m H Q := by
  refine cal_K (fd := fdIn (K08 p) 251) (bs := List.zip [("first" : Str), "numbers", "things"] [V.int first, V.ref ra, V.ref rt]) B hf (fnOk_of (by kernel_rfl)) (by kernel_rfl) (by kernel_rfl) (fun s vvs X r => binds_plain rfl (fun vvs hl => ?_) s vvs X r) fun L c2 hc hk B2 => ?_
  · exact bind3 (fun v0 v1 v2 => by kernel_rfl) vvs hl
  · have e1 : locOf (fdIn (K08 p) 251).scope.names (List.zip [("first" : Str), "numbers", "things"] [V.int first, V.ref ra, V.ref rt]) = [(("things" : Str), V.ref rt), ("numbers", .ref ra), ("first", .int first)] := by kernel_rfl
    have e2 : cellsAt L (fdIn (K08 p) 251) (List.zip [("first" : Str), "numbers", "things"] [V.int first, V.ref ra, V.ref rt]) = [] := by kernel_rfl
    rw [e1, e2]
    refine WPs.post (WPs.mono (law_lists_ok p c2 B2 hc.scope hts hns hra hrt) ?_)
    rintro f m' H' ⟨xa, xb, rfl, hl⟩
    exact ⟨[], _, ⟨(fun _ _ e => nomatch e), hl.2⟩, h xa xb⟩
end
section
open PySem PySem.W PyProof.Rows PySem.Calls
set_option maxRecDepth 100000
set_option maxHeartbeats 4000000

theorem filt_list {α β : Type} (l : List α) (g : α → β) (p : α → Bool) (d : α) : (List.range l.length).filterMap (fun i => if p (l.getD i d) then some (g (l.getD i d)) else none) = (l.filter p).map g := by
  induction l with
  | nil => rfl
  | cons a l ih =>
    rw [List.length_cons, List.range_succ_eq_map, List.filterMap_cons, List.filterMap_map]
    have e : ((fun i => if p ((a :: l).getD i d) then some (g ((a :: l).getD i d)) else none) ∘ Nat.succ) = fun i => if p (l.getD i d) then some (g (l.getD i d)) else none := by
      funext i; simp [List.getD]; rfl
    rw [e, ih]
    cases h : p a <;> simp [List.getD, h]
theorem map_list {α β : Type} (l : List α) (g : α → β) (d : α) : (List.range l.length).filterMap (fun i => some (g (l.getD i d))) = l.map g := by
  have := filt_list l g (fun _ => true) d
  simp only [if_true] at this
  rw [this, List.filter_eq_self.mpr (fun _ _ => rfl)]
theorem dictAt_get {G : GL} (nd : (G.map (·.1)).Nodup) {i : Nat} (h : i < G.length) : dictAt (gD G) (G[i]).1 = some (.ref (G[i]).2.1) := by
  have e : G = G.take i ++ G[i] :: G.drop (i + 1) := by rw [← List.drop_eq_getElem_cons h, List.take_append_drop]
  have nd' := nd
  rw [e, List.map_append, List.map_cons] at nd'
  have h1 : (G[i]).1 ∉ (G.take i).map (·.1) := fun q => (List.nodup_append.mp nd').2.2 _ q _ List.mem_cons_self rfl
  have := dictAt_gD_mid (G2 := G.drop (i + 1)) (a := (G[i]).2.1) (ps := (G[i]).2.2) h1
  rw [show ((G[i]).1, (G[i]).2.1, (G[i]).2.2) = G[i] from rfl, ← e] at this
  exact this
theorem getD_gD (G : GL) (i : Nat) (h : i < G.length) : ((gD G).getD i (.i 0, .none)).1 = (G[i]).1 := by simp [gD, List.getD, h]
theorem getD_nones : ∀ i : Nat, ([V.none, V.none, V.none] : List V).getD i .none = .none
  | 0 => rfl
  | 1 => rfl
  | 2 => rfl
  | i + 3 => rfl
theorem On2.less {c : Ctx} {m : Lo} {H : Hp} {a b : V} {α β : Type} {R : Heap → β → α → Prop} {t : Value → Value → Sem α} {Q : β → Lo → Hp → Prop} {m' : Lo} {H' : Hp} (l : Less m H m' H') (h : On2 c a b R t m' H' Q) : On2 c a b R t m H Q :=
  fun s va vb R ra rb P k => h s va vb (R.weaken l.1 l.2.1 (l.2.2 R.nd)) ra rb P fun b v m' H2 h tk R' F r q => k b v m' H2 h tk R' (F.less l.2.1) r q
theorem getD_v (l : List IS) (i : Nat) (h : i < l.length) : (l.map IS.v).getD i .none = (l.getD i (.i 0)).v := by simp [List.getD, h]
noncomputable def tsI : List IS := [.i 0, .s "0", .s "", .i (-1), .i (-2), .i (2 ^ 61 - 1)]
noncomputable def plI (bs js : List IS) (on : Bool) : List IS := tsI.filter fun k => lawPlain k bs js on
noncomputable def ofI (bs js : List IS) (on : Bool) : List IS := tsI.filter fun k => decide (k ∈ bs) && !decide (k ∈ plI bs js on) && !decide (k ∈ js)
structure Env8 (H : Hp) (cb con cm cpl cof cju x d ra rb rj rt D S S2 D1 D2 : Addr) (ep : Nat) (z1 z2 : Raw) (G : GL) (kj kp as bs js : List IS) (J : At) (on : Bool) : Prop where
  hb : (cb, O.cell (some (.ref rb))) ∈ H
  hon : (con, O.cell (some (.bool on))) ∈ H
  hm : (cm, O.cell (some (.ref x))) ∈ H
  hju : (cju, O.cell (some (.ref rj))) ∈ H
  hpl : (cpl, O.cell (some (.ref D1))) ∈ H
  hof : (cof, O.cell (some (.ref D2))) ∈ H
  hD1 : (D1, O.list ((plI bs js on).map IS.v)) ∈ H
  hD2 : (D2, O.list ((ofI bs js on).map IS.v)) ∈ H
  hx : (x, O.inst 242 d) ∈ H
  hd : (d, O.ns (fsB (.at J) on ra rb D S S2)) ∈ H
  hD : (D, O.dict ep (gD G)) ∈ H
  hS : (S, O.set z1 kj) ∈ H
  hS2 : (S2, O.set z2 kp) ∈ H
  hra : (ra, O.list (as.map IS.v)) ∈ H
  hrb : (rb, O.list (bs.map IS.v)) ∈ H
  hrj : (rj, O.list (js.map IS.v)) ∈ H
  hrt : (rt, O.list (tsI.map IS.v)) ∈ H
  hG : ∀ e ∈ G, (e.2.1, O.list (e.2.2.map V.int)) ∈ H
theorem law_t2 (p : Params) (c : Ctx) {n : Nat} (hfu : c.fuel = n + 1) (B : Base c (K08 p)) (hs : c.env.scope = (fdIn (K08 p) 261).scope) {cb con cm cpl cof cj cno cju : Addr}
    (hcs : c.env.cells = [(("junk" : Str), cju), ("now", cno), ("j", cj), ("often", cof), ("plain", cpl), ("m", cm), ("on", con), ("b", cb)]) {H : Hp} {as bs js : List IS} {on : Bool} {J : At} {x d ra rb rj rt D S S2 D1 D2 : Addr} {ep : Nat} {z1 z2 : Raw} {G : GL} {kj kp : List IS}
    (E : Env8 H cb con cm cpl cof cju x d ra rb rj rt D S S2 D1 D2 ep z1 z2 G kj kp as bs js J on)
    (hbz : bs.length ≤ 1000) (haz : as.length ≤ 1000) (hjz : js.length ≤ 10) (hGz : G.length ≤ 1000)
    (f1 : List.Perm kj ((js.filter fun k => decide (k ∈ bs)).foldl setPut [])) (f2 : List.Perm kp ((ofI bs js on).foldl setPut [])) (f3 : ∀ e ∈ G, e.2.2 ≠ []) (hnd : (G.map (·.1)).Nodup)
    (next : WPs c ((bodyIn (fdIn (K08 p) 261)).drop 14) [("a", .ref ra)] ((cj, .cell .none) :: (cno, .cell .none) :: H) fun f _ _ => f = .ret (.bool true))
    : WPs c ((bodyIn (fdIn (K08 p) 261)).drop 11) [("a", .ref ra)] ((cj, .cell .none) :: (cno, .cell .none) :: H)
      fun f _ _ => f = .ret (.bool true) := by
  have hn := congrArg Scope.names hs
  conv at hn => rhs; whnf
  have hC := cls08 p
  have hsz : sizeLine = 16777216 := rfl
  have gs : Glob c "set" (.ty "set") := B.bi (kind_of hn (by decide +kernel)) (by kernel_rfl) (by kernel_rfl) (by decide) rfl
  obtain ⟨hb, hon, hm, hju, hpl, hof, hD1, hD2, hx, hd, hD, hS, hS2, hra, hrb, hrj, hrt, hG⟩ := E
  refine s_if ?_
  with_reducible refine t_bool ?_
  with_reducible refine all_or ?_
  refine t_cmp ?_ (by with_unfolding_all rfl)
  refine e_attr ?_
  refine e_cel (by with_reducible assumption) (by with_reducible assumption) (by decide +kernel) (CLoc.tail (by decide) (CLoc.tail (by decide) (CLoc.tail (by decide) (CLoc.tail (by decide) (CLoc.tail (by decide) (CLoc.head _)))))) (Sees.mem (List.mem_cons_of_mem _ (List.mem_cons_of_mem _ (by with_reducible assumption)))) ?_
  refine a_inst B hC (by kernel_rfl) (Sees.mem (List.mem_cons_of_mem _ (List.mem_cons_of_mem _ (by with_reducible assumption)))) (Sees.mem (List.mem_cons_of_mem _ (List.mem_cons_of_mem _ (by with_reducible assumption)))) (u := .ref S) rfl ?_
  refine e_call ?_
  refine e_glob (by with_reducible assumption) ?_
  refine items_cons ?_
  refine e_comp (cl := ?cl) ?hclo rfl (it_list rfl ?_)
  case hclo =>
    refine clo_eq hcs ?_
    (refine (Clo.skip (by decide) (Clo.skip (by decide) (Clo.take (CLoc.tail (by decide) (CLoc.tail (by decide) (CLoc.tail (by decide) (CLoc.tail (by decide) (CLoc.tail (by decide) (CLoc.tail (by decide) (CLoc.tail (by decide) (CLoc.head _)))))))) ?_))); exact Clo.nil _)
  refine e_cel (by with_reducible assumption) (by with_reducible assumption) (by decide +kernel) (CLoc.head _) (Sees.mem (List.mem_cons_of_mem _ (List.mem_cons_of_mem _ (by with_reducible assumption)))) ?_
  refine ⟨_, _, rfl, by exact (Sees.mem (List.mem_cons_of_mem _ (List.mem_cons_of_mem _ (by with_reducible assumption)))), ?_⟩
  refine ⟨by simp [hsz]; (exact ar1 1 (.l (.v 0) (.n 10)) (.l (.v 0) (.n 16777216)) (by kernel_rfl) [_] hjz), compOver (f := fun i => if (decide (js.getD i (.i 0) ∈ bs)) then some (js.getD i (.i 0)).v else .none) (H' := (cj, .cell .none) :: (cno, .cell .none) :: H) (fun _ => by exact (less_of LessM.nil (List.Sublist.refl _))) ?_ (fun _ hl => Sees.less hl (List.mem_cons_of_mem _ (List.mem_cons_of_mem _ (by with_reducible assumption)))) ?_⟩
  · intro c2 hc i hi
    have hi' : i < js.length := by simpa using hi
    have hn2 := hc.named hn
    have hcs2 := hc.cells
    rw [getD_v _ _ hi']
    generalize js.getD i (.i 0) = k
    refine asg_name ?_
    refine sto_local (kind_of (by with_reducible assumption) (by decide +kernel)) ?_
    show WPt _ _ _ _ _
    refine t_cmp ?_ (by with_unfolding_all rfl)
    refine e_loc (by with_reducible assumption) (by decide +kernel) (Loc.head _) ?_
    refine e_cel (by with_reducible assumption) (by with_reducible assumption) (by decide +kernel) (CLoc.head _) (Sees.mem (List.mem_cons_of_mem _ (List.mem_cons_of_mem _ (by with_reducible assumption)))) ?_
    refine c_in (ks := bs) (Sees.mem (List.mem_cons_of_mem _ (List.mem_cons_of_mem _ (by with_reducible assumption)))) ?_
    with_reducible refine tru_bool ?_
    refine if_b (fun h1 => ?_) (fun h1 => ?_)
    · show WPe _ _ _ _ _
      refine e_loc (by with_reducible assumption) (by decide +kernel) (Loc.head _) ?_
      rw [h1]
      exact ⟨rfl, by exact (less_of LessM.nil (List.Sublist.refl _))⟩
    · refine ⟨?_, by exact (less_of LessM.nil (List.Sublist.refl _))⟩
      rw [h1]; rfl
  intro H2 hl D3
  rw [List.length_map, filt_list js IS.v (fun k => decide (k ∈ bs)) (.i 0)]
  with_reducible refine items_nil ?_
  have hfl : (js.filter fun k => decide (k ∈ bs)).length ≤ 10 := Nat.le_trans (List.length_filter_le _ _) hjz
  refine ⟨keep_ty, Cal.less hl.lift (k_setl (ks := js.filter fun k => decide (k ∈ bs)) (Sees.mem List.mem_cons_self) (by (exact ar1 1 (.l (.v 0) (.n 10)) (.l (.v 0) (.n 1000)) (by kernel_rfl) [_] hfl)) ?_)⟩
  intro S3 z3
  refine c_neSet (Sees.mem (List.mem_cons_of_mem _ (List.mem_cons_of_mem _ (List.mem_cons_of_mem _ (List.mem_cons_of_mem _ (by with_reducible assumption)))))) (Sees.mem List.mem_cons_self) ?_
  with_reducible refine tru_bool ?_
  rw [decide_eq_true f1]
  refine if_b (fun h => nomatch h) (fun _ => ?_)
  with_reducible refine all_or ?_
  refine t_cmp ?_ (by with_unfolding_all rfl)
  refine e_attr ?_
  refine e_cel (by with_reducible assumption) (by with_reducible assumption) (by decide +kernel) (CLoc.tail (by decide) (CLoc.tail (by decide) (CLoc.tail (by decide) (CLoc.tail (by decide) (CLoc.tail (by decide) (CLoc.head _)))))) (Sees.mem (List.mem_cons_of_mem _ (List.mem_cons_of_mem _ (List.mem_cons_of_mem _ (List.mem_cons_of_mem _ (by with_reducible assumption)))))) ?_
  refine a_inst B hC (by kernel_rfl) (Sees.mem (List.mem_cons_of_mem _ (List.mem_cons_of_mem _ (List.mem_cons_of_mem _ (List.mem_cons_of_mem _ (by with_reducible assumption)))))) (Sees.mem (List.mem_cons_of_mem _ (List.mem_cons_of_mem _ (List.mem_cons_of_mem _ (List.mem_cons_of_mem _ (by with_reducible assumption)))))) (u := .ref S2) rfl ?_
  refine e_call ?_
  refine e_glob (by with_reducible assumption) ?_
  refine items_cons ?_
  refine e_cel (by with_reducible assumption) (by with_reducible assumption) (by decide +kernel) (CLoc.tail (by decide) (CLoc.tail (by decide) (CLoc.tail (by decide) (CLoc.head _)))) (Sees.mem (List.mem_cons_of_mem _ (List.mem_cons_of_mem _ (List.mem_cons_of_mem _ (List.mem_cons_of_mem _ (by with_reducible assumption)))))) ?_
  with_reducible refine items_nil ?_
  have hfo : (ofI bs js on).length ≤ 6 := Nat.le_trans (List.length_filter_le _ _) (by simp [tsI])
  refine ⟨keep_ty, (k_setl (ks := ofI bs js on) (Sees.mem (List.mem_cons_of_mem _ (List.mem_cons_of_mem _ (List.mem_cons_of_mem _ (List.mem_cons_of_mem _ (by with_reducible assumption)))))) (by (exact ar1 1 (.l (.v 0) (.n 6)) (.l (.v 0) (.n 1000)) (by kernel_rfl) [_] hfo)) ?_)⟩
  intro S4 z4
  refine c_neSet (Sees.mem (List.mem_cons_of_mem _ (List.mem_cons_of_mem _ (List.mem_cons_of_mem _ (List.mem_cons_of_mem _ (List.mem_cons_of_mem _ (by with_reducible assumption))))))) (Sees.mem List.mem_cons_self) ?_
  with_reducible refine tru_bool ?_
  rw [decide_eq_true f2]
  refine if_b (fun h => nomatch h) (fun _ => ?_)
  with_reducible refine all_or_nil ?_
  rw [if_neg (by decide)]
  with_reducible refine s_nil ?_
  refine WPs.less (m' := [("a", .ref ra)]) (H' := (cj, .cell .none) :: (cno, .cell .none) :: H) (less_of (LessM.cons (Loc.head _) LessM.nil) (List.Sublist.cons _ (List.Sublist.cons _ (List.Sublist.cons _ (List.Sublist.refl _))))) ?_
  refine s_cons (s1_comp (cl := []) (closureFor_none (by decide)) rfl (kind_of hn (by decide +kernel)) (it_list rfl ?_) (swaps_yes hn (by decide +kernel) (by decide) (by decide)))
  with_reducible refine e_list ?_
  refine items_cons ?_
  refine e_attr ?_
  refine e_cel (by with_reducible assumption) (by with_reducible assumption) (by decide +kernel) (CLoc.tail (by decide) (CLoc.tail (by decide) (CLoc.tail (by decide) (CLoc.tail (by decide) (CLoc.tail (by decide) (CLoc.head _)))))) (Sees.mem (List.mem_cons_of_mem _ (List.mem_cons_of_mem _ (by with_reducible assumption)))) ?_
  refine a_inst B hC (by kernel_rfl) (Sees.mem (List.mem_cons_of_mem _ (List.mem_cons_of_mem _ (by with_reducible assumption)))) (Sees.mem (List.mem_cons_of_mem _ (List.mem_cons_of_mem _ (by with_reducible assumption)))) (u := .none) rfl ?_
  refine items_cons ?_
  refine e_attr ?_
  refine e_cel (by with_reducible assumption) (by with_reducible assumption) (by decide +kernel) (CLoc.tail (by decide) (CLoc.tail (by decide) (CLoc.tail (by decide) (CLoc.tail (by decide) (CLoc.tail (by decide) (CLoc.head _)))))) (Sees.mem (List.mem_cons_of_mem _ (List.mem_cons_of_mem _ (by with_reducible assumption)))) ?_
  refine a_inst B hC (by kernel_rfl) (Sees.mem (List.mem_cons_of_mem _ (List.mem_cons_of_mem _ (by with_reducible assumption)))) (Sees.mem (List.mem_cons_of_mem _ (List.mem_cons_of_mem _ (by with_reducible assumption)))) (u := .none) rfl ?_
  refine items_cons ?_
  refine e_attr ?_
  refine e_cel (by with_reducible assumption) (by with_reducible assumption) (by decide +kernel) (CLoc.tail (by decide) (CLoc.tail (by decide) (CLoc.tail (by decide) (CLoc.tail (by decide) (CLoc.tail (by decide) (CLoc.head _)))))) (Sees.mem (List.mem_cons_of_mem _ (List.mem_cons_of_mem _ (by with_reducible assumption)))) ?_
  refine a_inst B hC (by kernel_rfl) (Sees.mem (List.mem_cons_of_mem _ (List.mem_cons_of_mem _ (by with_reducible assumption)))) (Sees.mem (List.mem_cons_of_mem _ (List.mem_cons_of_mem _ (by with_reducible assumption)))) (u := .none) rfl ?_
  with_reducible refine items_nil ?_
  refine ⟨by exact Nat.le_of_ble_eq_true rfl, ?_⟩
  intro y1
  refine ⟨_, _, rfl, by exact (Sees.mem List.mem_cons_self), ?_⟩
  refine ⟨by simp [hsz], compOver (f := fun i => .none) (H' := (y1, .list [.none, .none, .none]) :: (cj, .cell .none) :: (cno, .cell .none) :: H) (fun _ => by exact (less_of LessM.nil (List.Sublist.refl _))) ?_ (fun _ hl => Sees.less hl List.mem_cons_self) ?_⟩
  · intro c2 hc i hi
    have hn2 := hc.named hn
    rw [getD_nones]
    refine asg_name ?_
    refine sto_local (kind_of (by with_reducible assumption) (by decide +kernel)) ?_
    show WPt _ _ _ _ _
    refine t_cmp ?_ (by with_unfolding_all rfl)
    refine e_loc (by with_reducible assumption) (by decide +kernel) (Loc.head _) ?_
    with_reducible refine e_none ?_
    refine c_isnot (r := true) rfl ?_
    with_reducible refine tru_bool ?_
    exact ⟨rfl, by exact (less_of LessM.nil (List.Sublist.refl _))⟩
  intro H4 hl4 D4
  have e0 : ((List.range [V.none, V.none, V.none].length).filterMap fun i => (.none : Option V)) = [] := by simp
  rw [e0]
  refine WPs.less hl4.lift ?_
  refine WPs.less (m' := [("told", .ref D4), ("a", .ref ra)]) (H' := (D4, .list []) :: (cj, .cell .none) :: (cno, .cell .none) :: H) (less_of (LessM.cons (Loc.head _) (LessM.cons (Loc.tail (by decide) (Loc.head _)) LessM.nil)) (List.Sublist.cons_cons _ (List.Sublist.cons _ (List.Sublist.refl _)))) ?_
  refine s_if ?_
  with_reducible refine t_bool ?_
  with_reducible refine all_or ?_
  refine t_cmp ?_ (by with_unfolding_all rfl)
  refine e_loc (by with_reducible assumption) (by decide +kernel) (Loc.head _) ?_
  with_reducible refine e_list ?_
  with_reducible refine items_nil ?_
  refine ⟨by exact Nat.le_of_ble_eq_true rfl, ?_⟩
  intro y2
  refine c_neL (xs := []) (ys := []) (Sees.mem (List.mem_cons_of_mem _ List.mem_cons_self)) (Sees.mem List.mem_cons_self) (.inl ⟨[], rfl, rfl, rfl⟩) ?_
  with_reducible refine tru_bool ?_
  refine if_b (fun h => nomatch h) (fun _ => ?_)
  with_reducible refine all_or ?_
  refine t_cmp ?_ (by with_unfolding_all rfl)
  with_reducible refine e_list ?_
  with_reducible refine items_nil ?_
  refine ⟨by exact Nat.le_of_ble_eq_true rfl, ?_⟩
  intro y3
  refine e_comp (cl := ?cl2) ?hclo2 rfl (it_dict rfl ?_)
  case hclo2 =>
    refine clo_eq hcs ?_
    (refine (Clo.skip (by decide) (Clo.skip (by decide) (Clo.take (CLoc.tail (by decide) (CLoc.tail (by decide) (CLoc.tail (by decide) (CLoc.tail (by decide) (CLoc.tail (by decide) (CLoc.head _)))))) ?_))); exact Clo.nil _)
  refine e_attr ?_
  refine e_cel (by with_reducible assumption) (by with_reducible assumption) (by decide +kernel) (CLoc.tail (by decide) (CLoc.tail (by decide) (CLoc.tail (by decide) (CLoc.tail (by decide) (CLoc.tail (by decide) (CLoc.head _)))))) (Sees.mem (List.mem_cons_of_mem _ (List.mem_cons_of_mem _ (List.mem_cons_of_mem _ (List.mem_cons_of_mem _ (List.mem_cons_of_mem _ (by with_reducible assumption))))))) ?_
  refine a_inst B hC (by kernel_rfl) (Sees.mem (List.mem_cons_of_mem _ (List.mem_cons_of_mem _ (List.mem_cons_of_mem _ (List.mem_cons_of_mem _ (List.mem_cons_of_mem _ (by with_reducible assumption))))))) (Sees.mem (List.mem_cons_of_mem _ (List.mem_cons_of_mem _ (List.mem_cons_of_mem _ (List.mem_cons_of_mem _ (List.mem_cons_of_mem _ (by with_reducible assumption))))))) (u := .ref D) rfl ?_
  refine ⟨D, ep, gD G, rfl, by exact (Sees.mem (List.mem_cons_of_mem _ (List.mem_cons_of_mem _ (List.mem_cons_of_mem _ (List.mem_cons_of_mem _ (List.mem_cons_of_mem _ (by with_reducible assumption))))))), ?_⟩
  refine ⟨by simp [hsz, gD_len]; (exact ar1 1 (.l (.v 0) (.n 1000)) (.l (.v 0) (.n 16777216)) (by kernel_rfl) [_] hGz), compOver (f := fun i => some (V.ref (G.getD i (.i 0, 0, [])).2.1)) (H' := (y3, .list []) :: (D4, .list []) :: (cj, .cell .none) :: (cno, .cell .none) :: H) (fun _ => by exact (less_of LessM.nil (List.Sublist.cons_cons _ (List.Sublist.cons _ (List.Sublist.refl _))))) ?_ (fun _ hl => Sees.less hl (List.mem_cons_of_mem _ (List.mem_cons_of_mem _ (List.mem_cons_of_mem _ (List.mem_cons_of_mem _ (by with_reducible assumption)))))) ?_⟩
  · intro c2 hc i hi
    have hi' : i < G.length := by rw [gD_len] at hi; exact hi
    have hn2 := hc.named hn
    have hcs2 := hc.cells
    have B2 := hc.base _ B
    rw [getD_gD _ _ hi']
    refine asg_name ?_
    refine sto_local (kind_of (by with_reducible assumption) (by decide +kernel)) ?_
    show WPe _ _ _ _ _
    with_reducible refine e_sub ?_
    refine e_attr ?_
    refine e_cel (by with_reducible assumption) (by with_reducible assumption) (by decide +kernel) (CLoc.head _) (Sees.mem (List.mem_cons_of_mem _ (List.mem_cons_of_mem _ (List.mem_cons_of_mem _ (List.mem_cons_of_mem _ (by with_reducible assumption)))))) ?_
    refine a_inst B2 hC (by kernel_rfl) (Sees.mem (List.mem_cons_of_mem _ (List.mem_cons_of_mem _ (List.mem_cons_of_mem _ (List.mem_cons_of_mem _ (by with_reducible assumption)))))) (Sees.mem (List.mem_cons_of_mem _ (List.mem_cons_of_mem _ (List.mem_cons_of_mem _ (List.mem_cons_of_mem _ (by with_reducible assumption)))))) (u := .ref D) rfl ?_
    refine e_loc (by with_reducible assumption) (by decide +kernel) (Loc.head _) ?_
    refine sub_dict (k := (G[i]).1) (Sees.mem (List.mem_cons_of_mem _ (List.mem_cons_of_mem _ (List.mem_cons_of_mem _ (List.mem_cons_of_mem _ (by with_reducible assumption)))))) (dictAt_get hnd hi') ?_
    refine ⟨?_, by exact (less_of LessM.nil (List.Sublist.refl _))⟩
    simp [List.getD, hi']
  intro H5 hl5 D5
  rw [gD_len, map_list G (fun e => V.ref e.2.1) (.i 0, 0, [])]
  have eG : (G.map fun e => V.ref e.2.1) = (G.map fun e => e.2.1).map V.ref := by rw [List.map_map]; rfl
  rw [eG]
  refine On2.less hl5.lift ?_
  refine c_inE (ys := G.map fun e => e.2.1) (Sees.mem (List.mem_cons_of_mem _ List.mem_cons_self)) (Sees.mem List.mem_cons_self) ?_ ?_
  · intro y hy
    obtain ⟨e, he, rfl⟩ := List.mem_map.mp hy
    have := hG e he
    exact ⟨e.2.2.map V.int, by simpa using f3 e he, Sees.mem (by simp [this])⟩
  with_reducible refine tru_bool ?_
  refine if_b (fun h => nomatch h) (fun _ => ?_)
  with_reducible refine all_or_nil ?_
  refine s_nil ?_
  refine WPs.less (m' := [("a", .ref ra)]) (H' := (cj, .cell .none) :: (cno, .cell .none) :: H) (less_of (LessM.cons (Loc.tail (by decide) (Loc.head _)) LessM.nil) (List.Sublist.cons _ (List.Sublist.cons _ (List.Sublist.cons _ (List.Sublist.refl _))))) ?_
  exact next
end
section
open PySem PySem.W PyProof.Rows PySem.Calls
set_option maxRecDepth 100000
set_option maxHeartbeats 4000000

noncomputable abbrev nv (n : Nat) : V := .int n
noncomputable def pn (bs : List IS) (k : IS) : List Nat := (List.range bs.length).filter fun i => decide (bs[i]? = some k)
noncomputable def Mx (bs pl : List IS) (k : IS) : List Nat := if k ∈ pl then pn bs k else []
noncomputable def hsE (bs pl as : List IS) : List Nat := as.foldl (fun E k => (Mx bs pl k).reverse.foldl ins E) []
theorem pn_sorted (bs : List IS) (k : IS) : (pn bs k).Pairwise (· < ·) := List.Pairwise.filter _ List.pairwise_lt_range
theorem Mx_sorted (bs pl : List IS) (k : IS) : (Mx bs pl k).Pairwise (· < ·) := by unfold Mx; split; exact pn_sorted _ _; exact .nil
theorem Mx_lt {bs pl : List IS} {k : IS} {j : Nat} (h : j ∈ Mx bs pl k) : j < bs.length := by
  unfold Mx at h
  split at h
  · exact List.mem_range.mp (List.mem_filter.mp h).1
  · cases h
theorem Mx_len (bs pl : List IS) (k : IS) : (Mx bs pl k).length ≤ bs.length := by
  unfold Mx; split
  · exact Nat.le_trans (List.length_filter_le _ _) (by simp)
  · simp
theorem hsE_snoc (bs pl as : List IS) (k : IS) : hsE bs pl (as ++ [k]) = (Mx bs pl k).reverse.foldl ins (hsE bs pl as) := by unfold hsE; rw [List.foldl_append]; rfl
theorem hsE_ok (bs pl : List IS) : ∀ as : List IS, (hsE bs pl as).Pairwise (· < ·) ∧ ∀ e ∈ hsE bs pl as, e < bs.length := by
  have key : ∀ (as : List IS) (E : List Nat), (E.Pairwise (· < ·) ∧ ∀ e ∈ E, e < bs.length) → ((as.foldl (fun E k => (Mx bs pl k).reverse.foldl ins E) E).Pairwise (· < ·) ∧ ∀ e ∈ as.foldl (fun E k => (Mx bs pl k).reverse.foldl ins E) E, e < bs.length) := by
    intro as
    induction as with
    | nil => intro E h; exact h
    | cons k as ih =>
      intro E h
      refine ih _ ⟨fold_sorted h.1, fun e he => ?_⟩
      rcases mem_fold he with q | q
      · exact Mx_lt (by simpa using q)
      · exact h.2 e q
  exact fun as => key as [] ⟨.nil, fun e he => by cases he⟩
theorem sorted_len {E : List Nat} (hE : E.Pairwise (· < ·)) {n : Nat} (h : ∀ e ∈ E, e < n) : E.length ≤ n := by
  have := jumps hE h
  rw [← this]
  exact Nat.le_trans (List.length_filter_le _ _) (by simp)
theorem above0 (n : Nat) : (List.replicate n [V.int 0]).flatten = (List.range n).map fun t => nv (cl [] t) := by
  induction n with
  | zero => rfl
  | succ n ih => rw [List.replicate_succ', List.flatten_append, ih, List.range_succ, List.map_append]; rfl
theorem rm_get {n i : Nat} (f : Nat → V) (h : i < n) : ((List.range n).map f)[i]? = some (f i) := by simp [h]
theorem eqLs_nv (E : List Nat) : LEq (E.map nv) (E.map nv) true := .inl ⟨E.map fun (n : Nat) => (n : Int), by rw [List.map_map]; rfl, by rw [List.map_map]; rfl, rfl⟩
theorem filt_range (p : Nat → Bool) : ∀ l : List Nat, (l.filterMap fun (i : Nat) => if p i then some (V.int (0 + (i : Int))) else none) = (l.filter p).map nv
  | [] => rfl
  | i :: l => by
    have ih := filt_range p l
    have e : (0 : Int) + (i : Int) = i := by (first | lia | omega)
    cases h : p i
    · rw [List.filterMap_cons_none (by rw [h]; rfl), List.filter_cons_of_neg (by simp [h]), ih]
    · rw [List.filterMap_cons_some (b := nv i) (by rw [h, e]; rfl), List.filter_cons_of_pos h, List.map_cons, ih]
noncomputable def t3I1 (bs : List IS) (pl : List IS) (as : List IS) (H : Hp) (xe ra cj cno : Addr) (i : Nat) (m2 : Lo) (H2 : Hp) : Prop := ∃ xab uj un, Less m2 H2 [("above", .ref xab), ("ends", .ref xe), ("a", .ref ra)]
    ((xab, .list ((List.range (bs.length + 1)).map fun t => nv (cl (hsE bs pl (as.take i)) t))) :: (xe, .list ((hsE bs pl (as.take i)).map nv)) :: (cj, .cell uj) :: (cno, .cell un) :: H)
noncomputable def t3I2 (bs : List IS) (k : IS) (R E : List Nat) (H : Hp) (un : Option V) (xab xe ra x3 cj cno : Addr) (i : Nat) (m2 : Lo) (H2 : Hp) : Prop := ∃ uj, Less m2 H2 [("x", k.v), ("above", .ref xab), ("ends", .ref xe), ("a", .ref ra)] ((x3, .list (R.map nv)) :: (xab, .list ((List.range (bs.length + 1)).map fun t => nv (cl E t))) :: (xe, .list (((R.take i).foldl ins E).map nv)) :: (cj, .cell uj) :: (cno, .cell un) :: H)
noncomputable def t3I3 (bs : List IS) (k : IS) (E E2 : List Nat) (ok : Nat → Bool) (H : Hp) (xab xe ra xn cj cno : Addr) (i : Nat) (m2 : Lo) (H2 : Hp) : Prop := ∃ uj, Less m2 H2 [("x", k.v), ("above", .ref xab), ("ends", .ref xe), ("a", .ref ra)] ((xn, .list ((List.range (i + 1)).map fun t => nv (gRow (cl E) ok t))) :: (xab, .list ((List.range (bs.length + 1)).map fun t => nv (cl E t))) :: (xe, .list (E2.map nv)) :: (cj, .cell uj) :: (cno, .cell (some (.ref xn))) :: H)
theorem law_t3 (p : Params) (c : Ctx) {n : Nat} (hfu : c.fuel = n + 1) (B : Base c (K08 p)) (hs : c.env.scope = (fdIn (K08 p) 261).scope) {cb con cm cpl cof cj cno cju : Addr}
    (hcs : c.env.cells = [(("junk" : Str), cju), ("now", cno), ("j", cj), ("often", cof), ("plain", cpl), ("m", cm), ("on", con), ("b", cb)]) {H : Hp} {as bs js : List IS} {on : Bool} {J : At} {x d ra rb rj rt D S S2 D1 D2 : Addr} {ep : Nat} {z1 z2 : Raw} {G : GL} {kj kp : List IS}
    (E : Env8 H cb con cm cpl cof cju x d ra rb rj rt D S S2 D1 D2 ep z1 z2 G kj kp as bs js J on)
    (hbz : bs.length ≤ 1000) (haz : as.length ≤ 1000)
    (hget : ∀ k ∈ as, (dictAt (gD G) k = .none ∧ Mx bs (plI bs js on) k = []) ∨ ∃ r, dictAt (gD G) k = some (.ref r) ∧ (r, O.list ((Mx bs (plI bs js on) k).map nv)) ∈ H)
    (next : WPs c ((bodyIn (fdIn (K08 p) 261)).drop 17) [] H fun f _ _ => f = .ret (.bool true))
    : WPs c ((bodyIn (fdIn (K08 p) 261)).drop 14) [("a", .ref ra)] ((cj, .cell .none) :: (cno, .cell .none) :: H)
      fun f _ _ => f = .ret (.bool true) := by
  have hn := congrArg Scope.names hs
  conv at hn => rhs; whnf
  have hC := cls08 p
  have hsz : sizeLine = 16777216 := rfl
  have gl : Glob c "len" (.bi "len") := B.bi (kind_of hn (by decide +kernel)) (by kernel_rfl) (by kernel_rfl) (by decide) rfl
  have gr : Glob c "range" (.ty "range") := B.bi (kind_of hn (by decide +kernel)) (by kernel_rfl) (by kernel_rfl) (by decide) rfl
  have gm : Glob c "max" (.bi "max") := B.bi (kind_of hn (by decide +kernel)) (by kernel_rfl) (by kernel_rfl) (by decide) rfl
  obtain ⟨hb, hon, hm, hju, hpl, hof, hD1, hD2, hx, hd, hD, hS, hS2, hra, hrb, hrj, hrt, hG⟩ := E
  generalize hpls : plI bs js on = pl at *
  refine s_cons (s1_assign ?_)
  with_reducible refine e_list ?_
  with_reducible refine items_nil ?_
  refine ⟨by exact Nat.le_of_ble_eq_true rfl, ?_⟩
  intro xe
  refine sto_local (kind_of (by with_reducible assumption) (by decide +kernel)) ?_
  ((with_reducible refine s_cons ?_); refine s1_assign ?_)
  with_reducible refine e_binop ?_
  with_reducible refine e_list ?_
  refine items_cons ?_
  with_reducible refine e_int ?_
  with_reducible refine items_nil ?_
  refine ⟨by exact Nat.le_of_ble_eq_true rfl, ?_⟩
  intro y1
  with_reducible refine e_binop ?_
  refine e_call ?_
  refine e_glob (by with_reducible assumption) ?_
  refine items_cons ?_
  refine e_cel (by with_reducible assumption) (by with_reducible assumption) (by decide +kernel) (CLoc.tail (by decide) (CLoc.tail (by decide) (CLoc.tail (by decide) (CLoc.tail (by decide) (CLoc.tail (by decide) (CLoc.tail (by decide) (CLoc.tail (by decide) (CLoc.head _)))))))) (Sees.mem (List.mem_cons_of_mem _ (List.mem_cons_of_mem _ (List.mem_cons_of_mem _ (List.mem_cons_of_mem _ (by with_reducible assumption)))))) ?_
  with_reducible refine items_nil ?_
  refine ⟨keep_bi, k_len (xs := bs.map IS.v) (Sees.mem (List.mem_cons_of_mem _ (List.mem_cons_of_mem _ (List.mem_cons_of_mem _ (List.mem_cons_of_mem _ (by with_reducible assumption)))))) ?_ (by simp; (exact ar1 1 (.l (.v 0) (.n 1000)) (.l (.v 0) (.n 1000000)) (by kernel_rfl) [_] hbz))⟩
  with_reducible refine e_int ?_
  with_reducible refine o_add ?_
  refine o_rep (xs := [.int 0]) (Sees.mem List.mem_cons_self) ?_ (by simp; (first | lia | omega)) (by simp; (exact ar1 1 (.l (.v 0) (.n 1000)) (.l (.v 0) (.n 999999)) (by kernel_rfl) [_] hbz))
  intro xab
  have e0 : (((bs.map IS.v).length : Int) + 1).toNat = bs.length + 1 := by simp
  rw [e0, above0]
  refine sto_local (kind_of (by with_reducible assumption) (by decide +kernel)) ?_
  refine s_for_list ?_
  refine e_loc (by with_reducible assumption) (by decide +kernel) (Loc.tail (by decide) (Loc.tail (by decide) (Loc.head _))) ?_
  refine ⟨_, as.map IS.v, rfl, ?_⟩
  refine ⟨t3I1 bs pl as H xe ra cj cno, ?_, ?_, ?_, ?_⟩
  · refine ⟨xab, .none, .none, ?_⟩
    rw [List.take_zero, show hsE bs pl [] = [] from rfl, List.map_nil]
    exact (less_of (LessM.cons (Loc.head _) (LessM.cons (Loc.tail (by decide) (Loc.head _)) (LessM.cons (Loc.tail (by decide) (Loc.tail (by decide) (Loc.head _))) LessM.nil))) (List.Sublist.cons_cons _ (List.Sublist.cons _ (List.Sublist.refl _))))
  · rintro i m2 H2 ⟨xab, uj, un, hl⟩
    exact Sees.less hl (by first | exact (List.mem_cons_of_mem _ (List.mem_cons_of_mem _ (List.mem_cons_of_mem _ (List.mem_cons_of_mem _ (by with_reducible assumption))))) | simp [hra])
  · rintro i v m2 H2 hi ⟨xab, uj, un, hl⟩
    obtain ⟨k, hk, rfl⟩ : ∃ k, as[i]? = some k ∧ v = k.v := by
      rw [List.getElem?_map] at hi
      cases q : as[i]? with
      | none => rw [q] at hi; cases hi
      | some t => rw [q] at hi; cases hi; exact ⟨t, rfl, rfl⟩
    refine On1.less hl (asg_name ?_)
    have hEi := hsE_ok bs pl (as.take i)
    have hsn : hsE bs pl (as.take (i + 1)) = (Mx bs pl k).reverse.foldl ins (hsE bs pl (as.take i)) := by rw [List.take_add_one, hk]; exact hsE_snoc ..
    generalize hsE bs pl (as.take i) = E at *
    have hMl := Mx_len bs pl k
    refine sto_local (kind_of (by with_reducible assumption) (by decide +kernel)) ?_
    refine WPs.cutk fun Qa hQa => ?_
    refine WPs.less (m' := [("x", k.v), ("above", .ref xab), ("ends", .ref xe), ("a", .ref ra)]) (Less.refl ..) ?_
    refine s_for_list (e_slice_step2 ?_)
    refine e_method ?_
    refine e_attr ?_
    refine e_cel (by with_reducible assumption) (by with_reducible assumption) (by decide +kernel) (CLoc.tail (by decide) (CLoc.tail (by decide) (CLoc.tail (by decide) (CLoc.tail (by decide) (CLoc.tail (by decide) (CLoc.head _)))))) (Sees.mem (List.mem_cons_of_mem _ (List.mem_cons_of_mem _ (List.mem_cons_of_mem _ (List.mem_cons_of_mem _ (by with_reducible assumption)))))) ?_
    refine a_inst B hC (by kernel_rfl) (Sees.mem (List.mem_cons_of_mem _ (List.mem_cons_of_mem _ (List.mem_cons_of_mem _ (List.mem_cons_of_mem _ (by with_reducible assumption)))))) (Sees.mem (List.mem_cons_of_mem _ (List.mem_cons_of_mem _ (List.mem_cons_of_mem _ (List.mem_cons_of_mem _ (by with_reducible assumption)))))) (u := .ref D) rfl ?_
    refine ⟨_, _, gm_dict (ep := ep) (es := gD G) (Sees.mem (List.mem_cons_of_mem _ (List.mem_cons_of_mem _ (List.mem_cons_of_mem _ (List.mem_cons_of_mem _ (by with_reducible assumption)))))) PySem.F.slot_dict_get PySem.F.type_dict_get, ?_⟩
    refine items_cons ?_
    refine e_loc (by with_reducible assumption) (by decide +kernel) (Loc.head _) ?_
    refine items_cons ?_
    with_reducible refine e_list ?_
    with_reducible refine items_nil ?_
    refine ⟨by exact Nat.le_of_ble_eq_true rfl, ?_⟩
    intro y2
    with_reducible refine items_nil ?_
    refine ⟨keep_bi, k_get (d := D) (ep := ep) (es := gD G) (Sees.mem (List.mem_cons_of_mem _ (List.mem_cons_of_mem _ (List.mem_cons_of_mem _ (List.mem_cons_of_mem _ (List.mem_cons_of_mem _ (by with_reducible assumption))))))) ?_⟩
    obtain ⟨r, hr, hrm⟩ : ∃ r, (dictAt (gD G) k).getD (.ref y2) = .ref r ∧ (r, O.list ((Mx bs pl k).map nv)) ∈ (y2, O.list []) :: (xab, .list ((List.range (bs.length + 1)).map fun t => nv (cl E t))) :: (xe, .list (E.map nv)) :: (cj, .cell uj) :: (cno, .cell un) :: H := by
      rcases hget k (List.mem_of_getElem? hk) with ⟨h1, h2⟩ | ⟨r, h1, h2⟩
      · exact ⟨y2, by rw [h1]; rfl, by rw [h2]; exact List.mem_cons_self⟩
      · exact ⟨r, by rw [h1]; rfl, by simp [h2]⟩
    rw [hr]
    show WPe _ _ _ _ _
    with_reducible refine e_unary ?_
    with_reducible refine e_int ?_
    with_reducible refine u_neg ?_
    refine ⟨r, _, -1, rfl, rfl, by decide, Sees.mem hrm, by simp; (exact ar2 2 (.l (.v 0) (.n 1000)) (.l (.v 1) (.v 0)) (.l (.v 1) (.n 1000000)) (by kernel_rfl) [_, _] hbz hMl), ?_⟩
    intro x3
    rw [pick_rev]
    rw [← List.map_reverse]
    have hRs : (Mx bs pl k).reverse.Pairwise (· > ·) := List.pairwise_reverse.mpr (Mx_sorted bs pl k)
    have hRl : ∀ j ∈ (Mx bs pl k).reverse, j < bs.length := fun j hj => Mx_lt (by simpa using hj)
    generalize hR : (Mx bs pl k).reverse = R at *
    refine ⟨x3, R.map nv, rfl, ?_⟩
    refine ⟨t3I2 bs k R E H un xab xe ra x3 cj cno, ?_, ?_, ?_, ?_⟩
    · refine ⟨uj, ?_⟩
      rw [List.take_zero, List.foldl_nil]
      exact (less_of (LessM.cons (Loc.head _) (LessM.cons (Loc.tail (by decide) (Loc.head _)) (LessM.cons (Loc.tail (by decide) (Loc.tail (by decide) (Loc.head _))) (LessM.cons (Loc.tail (by decide) (Loc.tail (by decide) (Loc.tail (by decide) (Loc.head _)))) LessM.nil)))) (List.Sublist.cons_cons _ (List.Sublist.cons _ (List.Sublist.refl _))))
    · rintro i m2 H2 ⟨uj, hl⟩
      exact Sees.less hl List.mem_cons_self
    · rintro i v m2 H2 hi ⟨uj, hl⟩
      obtain ⟨j, hj, rfl⟩ : ∃ j, R[i]? = some j ∧ v = nv j := by
        rw [List.getElem?_map] at hi
        cases q : R[i]? with
        | none => rw [q] at hi; cases hi
        | some t => rw [q] at hi; cases hi; exact ⟨t, rfl, rfl⟩
      refine On1.less hl (asg_name ?_)
      have hEs : ((R.take i).foldl ins E).Pairwise (· < ·) := fold_sorted hEi.1
      have hEl : ∀ e ∈ (R.take i).foldl ins E, e < bs.length := fun e he => (mem_fold he).elim (fun q => hRl e (List.mem_of_mem_take q)) (hEi.2 e)
      have hsucc : (R.take (i + 1)).foldl ins E = ins ((R.take i).foldl ins E) j := by rw [List.take_add_one, hj, List.foldl_append]; rfl
      have hEn := sorted_len hEs hEl
      generalize (R.take i).foldl ins E = E1 at *
      refine sto_cel (by with_reducible assumption) (by with_reducible assumption) (by decide +kernel) (CLoc.tail (by decide) (CLoc.tail (by decide) (CLoc.head _))) (Upd.tail (Upd.tail (Upd.tail (Upd.head _)))) ?_
      show WPs _ _ _ _ _
      refine WPs.cutk fun Qb hQb => ?_
      refine s_cons (s1_assign ?_)
      refine e_call ?_
      refine e_glob (by with_reducible assumption) ?_
      refine items_cons ?_
      refine e_comp (cl := ?cl) ?hclo rfl (it_list rfl ?_)
      case hclo =>
        refine clo_eq hcs ?_
        (refine (Clo.skip (by decide) (Clo.skip (by decide) (Clo.take (CLoc.tail (by decide) (CLoc.tail (by decide) (CLoc.head _))) ?_))); exact Clo.nil _)
      refine e_loc (by with_reducible assumption) (by decide +kernel) (Loc.tail (by decide) (Loc.tail (by decide) (Loc.head _))) ?_
      refine ⟨xe, E1.map nv, rfl, by exact (Sees.mem (List.mem_cons_of_mem _ (List.mem_cons_of_mem _ List.mem_cons_self))), ?_⟩
      refine ⟨by simp; (exact ar3 3 (.l (.v 0) (.n 1000)) (.e (.v 1) (.n 16777216)) (.l (.v 2) (.v 0)) (.l (.v 2) (.v 1)) (by kernel_rfl) [_, _, _] hbz hsz hEn), compOver (f := fun i => if decide (E1.getD i 0 < j) then some (nv (E1.getD i 0)) else .none) (H' := (x3, .list (R.map nv)) :: (xab, .list ((List.range (bs.length + 1)).map fun t => nv (cl E t))) :: (xe, .list (E1.map nv)) :: (cj, .cell (some (nv j))) :: (cno, .cell un) :: H) (fun _ => by exact (less_of LessM.nil (List.Sublist.refl _))) ?_ (fun _ hl => Sees.less hl (List.mem_cons_of_mem _ (List.mem_cons_of_mem _ List.mem_cons_self))) ?_⟩
      · intro c2 hc i hi
        have hi' : i < E1.length := by simpa using hi
        have hn2 := hc.named hn
        have hcs2 := hc.cells
        have e1 : (E1.map nv).getD i .none = nv (E1.getD i 0) := by simp [List.getD, hi']
        rw [e1]
        generalize E1.getD i 0 = e
        refine asg_name ?_
        refine sto_local (kind_of (by with_reducible assumption) (by decide +kernel)) ?_
        show WPt _ _ _ _ _
        refine t_cmp ?_ (by with_unfolding_all rfl)
        refine e_loc (by with_reducible assumption) (by decide +kernel) (Loc.head _) ?_
        refine e_cel (by with_reducible assumption) (by with_reducible assumption) (by decide +kernel) (CLoc.head _) (Sees.mem (List.mem_cons_of_mem _ (List.mem_cons_of_mem _ (List.mem_cons_of_mem _ List.mem_cons_self)))) ?_
        with_reducible refine c_lt ?_
        with_reducible refine tru_bool ?_
        have e2 : decide ((e : Int) < (j : Int)) = decide (e < j) := by simp
        rw [e2]
        refine if_b (fun h1 => ?_) (fun h1 => ?_)
        · show WPe _ _ _ _ _
          refine e_loc (by with_reducible assumption) (by decide +kernel) (Loc.head _) ?_
          rw [h1]
          exact ⟨rfl, by exact (less_of LessM.nil (List.Sublist.refl _))⟩
        · refine ⟨?_, by exact (less_of LessM.nil (List.Sublist.refl _))⟩
          rw [h1]; rfl
      intro H2 hl2 D3
      rw [List.length_map, filt_list E1 nv (fun e => decide (e < j)) 0]
      with_reducible refine items_nil ?_
      have hce : (E1.filter fun e => decide (e < j)).length = cl E1 j := rfl
      have hcl := cl_le E1 j
      refine ⟨keep_bi, Cal.less hl2.lift (k_len (xs := (E1.filter fun e => decide (e < j)).map nv) (Sees.mem List.mem_cons_self) ?_ (by simp; (exact ar4 4 (.l (.v 0) (.n 1000)) (.l (.v 1) (.v 0)) (.e (.v 2) (.v 3)) (.l (.v 3) (.v 1)) (.l (.v 2) (.n 1000000)) (by kernel_rfl) [_, _, _, _] hbz hEn hce hcl)))⟩
      rw [List.length_map, hce]
      refine sto_local (kind_of (by with_reducible assumption) (by decide +kernel)) ?_
      with_reducible refine s_if ?_
      refine t_cmp ?_ (by with_unfolding_all rfl)
      refine e_loc (by with_reducible assumption) (by decide +kernel) (Loc.head _) ?_
      refine e_call ?_
      refine e_glob (by with_reducible assumption) ?_
      refine items_cons ?_
      refine e_loc (by with_reducible assumption) (by decide +kernel) (Loc.tail (by decide) (Loc.tail (by decide) (Loc.tail (by decide) (Loc.head _)))) ?_
      with_reducible refine items_nil ?_
      refine ⟨keep_bi, k_len (xs := E1.map nv) (Sees.mem (List.mem_cons_of_mem _ (List.mem_cons_of_mem _ (List.mem_cons_of_mem _ List.mem_cons_self)))) ?_ (by simp; (exact ar2 2 (.l (.v 0) (.n 1000)) (.l (.v 1) (.v 0)) (.l (.v 1) (.n 1000000)) (by kernel_rfl) [_, _] hbz hEn))⟩
      with_reducible refine c_eq ?_
      with_reducible refine tru_bool ?_
      rw [List.length_map]
      refine if_b (fun h1 => ?_) (fun h1 => ?_)
      · ((with_reducible refine s_cons ?_); refine s1_expr ?_)
        refine e_method ?_
        refine e_loc (by with_reducible assumption) (by decide +kernel) (Loc.tail (by decide) (Loc.tail (by decide) (Loc.tail (by decide) (Loc.head _)))) ?_
        refine ⟨_, _, gm_list (xs := E1.map nv) (Sees.mem (List.mem_cons_of_mem _ (List.mem_cons_of_mem _ (List.mem_cons_of_mem _ List.mem_cons_self)))) F.slot_list_append F.type_list_append, ?_⟩
        refine items_cons ?_
        refine e_cel (by with_reducible assumption) (by with_reducible assumption) (by decide +kernel) (CLoc.tail (by decide) (CLoc.tail (by decide) (CLoc.head _))) (Sees.mem (List.mem_cons_of_mem _ (List.mem_cons_of_mem _ (List.mem_cons_of_mem _ (List.mem_cons_of_mem _ List.mem_cons_self))))) ?_
        with_reducible refine items_nil ?_
        refine ⟨keep_bi, k_append (xs := E1.map nv) (H' := ?HA) ?huA ?_ ?hzA⟩
        case huA => exact (Upd.tail (Upd.tail (Upd.tail (Upd.head _))))
        case hzA => simp; (exact ar3 3 (.l (.v 0) (.n 1000)) (.e (.v 1) (.n 16777216)) (.l (.v 2) (.v 0)) (.l (.v 2) (.v 1)) (by kernel_rfl) [_, _, _] hbz hsz hEn)
        with_reducible refine s_nil ?_
        with_reducible refine s_nil ?_
        have hq : cl E1 j = E1.length := by have := eq_of_beq h1; (first | lia | omega)
        refine hQb _ _ _ ?_
        refine ⟨some (nv j), ?_⟩
        rw [hsucc, ins_eq hEs, if_pos hq, List.map_append, List.map_cons, List.map_nil]
        exact (less_of (LessM.cons (Loc.tail (by decide) (Loc.head _)) (LessM.cons (Loc.tail (by decide) (Loc.tail (by decide) (Loc.head _))) (LessM.cons (Loc.tail (by decide) (Loc.tail (by decide) (Loc.tail (by decide) (Loc.head _)))) (LessM.cons (Loc.tail (by decide) (Loc.tail (by decide) (Loc.tail (by decide) (Loc.tail (by decide) (Loc.head _))))) LessM.nil)))) (List.Sublist.cons _ (List.Sublist.refl _)))
      · have hq : cl E1 j ≠ E1.length := fun q => by rw [q] at h1; simp at h1
        refine s_cons (s1_to ?_)
        refine e_cel (by with_reducible assumption) (by with_reducible assumption) (by decide +kernel) (CLoc.tail (by decide) (CLoc.tail (by decide) (CLoc.head _))) (Sees.mem (List.mem_cons_of_mem _ (List.mem_cons_of_mem _ (List.mem_cons_of_mem _ (List.mem_cons_of_mem _ List.mem_cons_self))))) ?_
        refine asg_sub ?_
        refine e_loc (by with_reducible assumption) (by decide +kernel) (Loc.tail (by decide) (Loc.tail (by decide) (Loc.tail (by decide) (Loc.head _)))) ?_
        refine e_loc (by with_reducible assumption) (by decide +kernel) (Loc.head _) ?_
        refine seti_list (xs := E1.map nv) (F := ?FA) ?spA (by (first | lia | omega)) (by simp; (exact ar2 2 (.l (.v 0) (.v 1)) (.no (.e (.v 0) (.v 1))) (.t (.v 0) (.v 1)) (by kernel_rfl) [_, _] hcl hq)) (by simp; (exact ar2 2 (.l (.v 0) (.n 1000)) (.l (.v 1) (.v 0)) (.l (.v 1) (.n 1000000)) (by kernel_rfl) [_, _] hbz hEn)) ?_
        case spA => exact (Spot.tail (Spot.tail (Spot.tail (Spot.head _))))
        refine s_nil (s_nil ?_)
        refine hQb _ _ _ ?_
        refine ⟨some (nv j), ?_⟩
        rw [hsucc, ins_eq hEs, if_neg hq, List.map_set, Int.toNat_natCast]
        exact (less_of (LessM.cons (Loc.tail (by decide) (Loc.head _)) (LessM.cons (Loc.tail (by decide) (Loc.tail (by decide) (Loc.head _))) (LessM.cons (Loc.tail (by decide) (Loc.tail (by decide) (Loc.tail (by decide) (Loc.head _)))) (LessM.cons (Loc.tail (by decide) (Loc.tail (by decide) (Loc.tail (by decide) (Loc.tail (by decide) (Loc.head _))))) LessM.nil)))) (List.Sublist.cons _ (List.Sublist.refl _)))
    · rintro m2 H2 ⟨uj, hl⟩
      rw [List.length_map, List.take_length] at hl
      have hrow : ∀ t, t ≤ bs.length → gRow (cl E) (fun (j : Nat) => decide (k ∈ pl) && decide (bs[j]? = some k)) t = cl (R.foldl ins E) t := fun t ht => by
        rw [← hR]
        refine row_ok hEi.1 (Mx_sorted bs pl k) t fun j hj => ?_
        unfold Mx pn
        by_cases q : k ∈ pl
        · simp [q]; (first | lia | omega)
        · simp [q]
      have hE2s : (R.foldl ins E).Pairwise (· < ·) := fold_sorted hEi.1
      have hE2l : ∀ e ∈ R.foldl ins E, e < bs.length := fun e he => (mem_fold he).elim (fun q => hRl e q) (hEi.2 e)
      refine WPs.less hl ?_
      rw [← hsn]
      have hsn' := hsn
      rw [← hsn] at hrow hE2s hE2l
      generalize hE2 : hsE bs pl (as.take (i + 1)) = E2 at *
      refine WPs.less (m' := [("x", k.v), ("above", .ref xab), ("ends", .ref xe), ("a", .ref ra)]) (H' := (xab, .list ((List.range (bs.length + 1)).map fun t => nv (cl E t))) :: (xe, .list (E2.map nv)) :: (cj, .cell uj) :: (cno, .cell un) :: H) (less_of (LessM.cons (Loc.head _) (LessM.cons (Loc.tail (by decide) (Loc.head _)) (LessM.cons (Loc.tail (by decide) (Loc.tail (by decide) (Loc.head _))) (LessM.cons (Loc.tail (by decide) (Loc.tail (by decide) (Loc.tail (by decide) (Loc.head _)))) LessM.nil)))) (List.Sublist.cons _ (List.Sublist.refl _))) ?_
      clear hl hsn hR hRs hRl hrm hr
      refine s_cons (s1_assign ?_)
      with_reducible refine e_list ?_
      refine items_cons ?_
      with_reducible refine e_int ?_
      with_reducible refine items_nil ?_
      refine ⟨by exact Nat.le_of_ble_eq_true rfl, ?_⟩
      intro xn
      refine sto_cel (by with_reducible assumption) (by with_reducible assumption) (by decide +kernel) (CLoc.tail (by decide) (CLoc.head _)) (Upd.tail (Upd.tail (Upd.tail (Upd.tail (Upd.head _))))) ?_
      refine s_for_range ?_
      refine e_call ?_
      refine e_glob (by with_reducible assumption) ?_
      refine items_cons ?_
      refine e_call ?_
      refine e_glob (by with_reducible assumption) ?_
      refine items_cons ?_
      refine e_cel (by with_reducible assumption) (by with_reducible assumption) (by decide +kernel) (CLoc.tail (by decide) (CLoc.tail (by decide) (CLoc.tail (by decide) (CLoc.tail (by decide) (CLoc.tail (by decide) (CLoc.tail (by decide) (CLoc.tail (by decide) (CLoc.head _)))))))) (Sees.mem (List.mem_cons_of_mem _ (List.mem_cons_of_mem _ (List.mem_cons_of_mem _ (List.mem_cons_of_mem _ (List.mem_cons_of_mem _ (by with_reducible assumption))))))) ?_
      with_reducible refine items_nil ?_
      refine ⟨keep_bi, k_len (xs := bs.map IS.v) (Sees.mem (List.mem_cons_of_mem _ (List.mem_cons_of_mem _ (List.mem_cons_of_mem _ (List.mem_cons_of_mem _ (List.mem_cons_of_mem _ (by with_reducible assumption))))))) ?_ (by simp; (exact ar1 1 (.l (.v 0) (.n 1000)) (.l (.v 0) (.n 1000000)) (by kernel_rfl) [_] hbz))⟩
      with_reducible refine items_nil ?_
      refine ⟨keep_ty, k_range ?_⟩
      intro y3
      refine ⟨_, _, _, rfl, by exact (Sees.mem List.mem_cons_self), by (first | lia | omega), by simp; (first | lia | omega), ?_⟩
      generalize hok : (fun (j : Nat) => decide (k ∈ pl) && decide (bs[j]? = some k)) = ok at *
      refine ⟨t3I3 bs k E E2 ok H xab xe ra xn cj cno, ?_, ?_, ?_⟩
      · refine ⟨uj, ?_⟩
        show Less _ _ _ ((xn, .list [.int 0]) :: _)
        exact (less_of (LessM.cons (Loc.head _) (LessM.cons (Loc.tail (by decide) (Loc.head _)) (LessM.cons (Loc.tail (by decide) (Loc.tail (by decide) (Loc.head _))) (LessM.cons (Loc.tail (by decide) (Loc.tail (by decide) (Loc.tail (by decide) (Loc.head _)))) LessM.nil)))) (List.Sublist.cons _ (List.Sublist.refl _)))
      · rintro j m2 H2 hj ⟨uj, hl⟩
        have hj' : j < bs.length := by simp at hj; (exact ar1 2 (.t (.v 0) (.v 1)) (.t (.v 0) (.v 1)) (by kernel_rfl) [_, _] hj)
        refine On1.less hl (asg_name ?_)
        have ej : (0 : Int) + (j : Int) = j := by (first | lia | omega)
        rw [ej]
        refine sto_cel (by with_reducible assumption) (by with_reducible assumption) (by decide +kernel) (CLoc.tail (by decide) (CLoc.tail (by decide) (CLoc.head _))) (Upd.tail (Upd.tail (Upd.tail (Upd.head _)))) ?_
        show WPs _ _ _ _ _
        refine WPs.cutk fun Qc hQc => ?_
        refine s_if ?_
        with_reducible refine t_bool ?_
        with_reducible refine all_and ?_
        refine t_cmp ?_ (by with_unfolding_all rfl)
        refine e_loc (by with_reducible assumption) (by decide +kernel) (Loc.head _) ?_
        refine e_cel (by with_reducible assumption) (by with_reducible assumption) (by decide +kernel) (CLoc.tail (by decide) (CLoc.tail (by decide) (CLoc.tail (by decide) (CLoc.tail (by decide) (CLoc.head _))))) (Sees.mem (List.mem_cons_of_mem _ (List.mem_cons_of_mem _ (List.mem_cons_of_mem _ (List.mem_cons_of_mem _ (List.mem_cons_of_mem _ (by with_reducible assumption))))))) ?_
        refine c_in (ks := pl) (Sees.mem (List.mem_cons_of_mem _ (List.mem_cons_of_mem _ (List.mem_cons_of_mem _ (List.mem_cons_of_mem _ (List.mem_cons_of_mem _ (by with_reducible assumption))))))) ?_
        have hs1 : ((List.range (j + 1 + 1)).map fun t => nv (gRow (cl E) ok t)) = ((List.range (j + 1)).map fun t => nv (gRow (cl E) ok t)) ++ [nv (gRow (cl E) ok (j + 1))] := by rw [List.range_succ, List.map_append]; rfl
        have hokj : ok j = (decide (k ∈ pl) && decide (bs[j] = k)) := by rw [← hok]; simp [hj']
        with_reducible refine tru_bool ?_
        refine if_b (fun h1 => ?_) (fun h1 => ?_)
        · with_reducible refine all_and ?_
          refine t_cmp ?_ (by with_unfolding_all rfl)
          with_reducible refine e_sub ?_
          refine e_cel (by with_reducible assumption) (by with_reducible assumption) (by decide +kernel) (CLoc.tail (by decide) (CLoc.tail (by decide) (CLoc.tail (by decide) (CLoc.tail (by decide) (CLoc.tail (by decide) (CLoc.tail (by decide) (CLoc.tail (by decide) (CLoc.head _)))))))) (Sees.mem (List.mem_cons_of_mem _ (List.mem_cons_of_mem _ (List.mem_cons_of_mem _ (List.mem_cons_of_mem _ (List.mem_cons_of_mem _ (by with_reducible assumption))))))) ?_
          refine e_cel (by with_reducible assumption) (by with_reducible assumption) (by decide +kernel) (CLoc.tail (by decide) (CLoc.tail (by decide) (CLoc.head _))) (Sees.mem (List.mem_cons_of_mem _ (List.mem_cons_of_mem _ (List.mem_cons_of_mem _ List.mem_cons_self)))) ?_
          refine sub_list (u := (bs[j]).v) (xs := bs.map IS.v) (Sees.mem (List.mem_cons_of_mem _ (List.mem_cons_of_mem _ (List.mem_cons_of_mem _ (List.mem_cons_of_mem _ (List.mem_cons_of_mem _ (by with_reducible assumption))))))) (by (first | lia | omega)) (by simp [hj']) ?_ (hl := by simp; (exact ar2 2 (.l (.v 0) (.n 1000)) (.e (.v 1) (.n 16777216)) (.l (.v 0) (.v 1)) (by kernel_rfl) [_, _] hbz hsz))
          refine e_loc (by with_reducible assumption) (by decide +kernel) (Loc.head _) ?_
          refine c_eqIS ?_
          with_reducible refine tru_bool ?_
          refine if_b (fun h2 => ?_) (fun h2 => ?_)
          · refine all_and_nil ?_
            rw [if_pos rfl]
            ((with_reducible refine s_cons ?_); refine s1_expr ?_)
            refine e_method ?_
            refine e_cel (by with_reducible assumption) (by with_reducible assumption) (by decide +kernel) (CLoc.tail (by decide) (CLoc.head _)) (Sees.mem (List.mem_cons_of_mem _ (List.mem_cons_of_mem _ (List.mem_cons_of_mem _ (List.mem_cons_of_mem _ List.mem_cons_self))))) ?_
            refine ⟨_, _, gm_list (xs := (List.range (j + 1)).map fun t => nv (gRow (cl E) ok t)) (Sees.mem List.mem_cons_self) F.slot_list_append F.type_list_append, ?_⟩
            refine items_cons ?_
            with_reducible refine e_binop ?_
            with_reducible refine e_sub ?_
            refine e_loc (by with_reducible assumption) (by decide +kernel) (Loc.tail (by decide) (Loc.head _)) ?_
            refine e_cel (by with_reducible assumption) (by with_reducible assumption) (by decide +kernel) (CLoc.tail (by decide) (CLoc.tail (by decide) (CLoc.head _))) (Sees.mem (List.mem_cons_of_mem _ (List.mem_cons_of_mem _ (List.mem_cons_of_mem _ List.mem_cons_self)))) ?_
            refine sub_list (u := nv (cl E j)) (xs := (List.range (bs.length + 1)).map fun t => nv (cl E t)) (Sees.mem (List.mem_cons_of_mem _ List.mem_cons_self)) (by (first | lia | omega)) (rm_get _ (by (first | lia | omega))) ?_ (hl := by simp; (exact ar2 2 (.l (.v 0) (.n 1000)) (.e (.v 1) (.n 16777216)) (.l (.a (.v 0) (.n 1)) (.v 1)) (by kernel_rfl) [_, _] hbz hsz))
            with_reducible refine e_int ?_
            with_reducible refine o_add ?_
            with_reducible refine items_nil ?_
            refine ⟨keep_bi, k_append (xs := (List.range (j + 1)).map fun t => nv (gRow (cl E) ok t)) (H' := ?HB) ?huB ?_ ?hzB⟩
            case huB => exact (Upd.head _)
            case hzB => simp; (exact ar3 3 (.l (.v 0) (.n 1000)) (.e (.v 1) (.n 16777216)) (.t (.v 2) (.v 0)) (.l (.a (.v 2) (.n 1)) (.v 1)) (by kernel_rfl) [_, _, _] hbz hsz hj')
            with_reducible refine s_nil ?_
            with_reducible refine s_nil ?_
            refine hQc _ _ _ ?_
            refine ⟨some (nv j), ?_⟩
            have hg : gRow (cl E) ok (j + 1) = cl E j + 1 := by rw [gRow, hokj, h1, h2]; rfl
            rw [hs1, hg]
            show Less _ _ _ ((xn, .list (_ ++ [.int ((cl E j : Int) + 1)])) :: _)
            exact (less_of (LessM.cons (Loc.head _) (LessM.cons (Loc.tail (by decide) (Loc.head _)) (LessM.cons (Loc.tail (by decide) (Loc.tail (by decide) (Loc.head _))) (LessM.cons (Loc.tail (by decide) (Loc.tail (by decide) (Loc.tail (by decide) (Loc.head _)))) LessM.nil)))) (List.Sublist.refl _))
          · have hokf : ok j = false := by rw [hokj, h1, h2]; rfl
            show WPs _ _ _ _ _
            ((with_reducible refine s_cons ?_); refine s1_expr ?_)
            refine e_method ?_
            refine e_cel (by with_reducible assumption) (by with_reducible assumption) (by decide +kernel) (CLoc.tail (by decide) (CLoc.head _)) (Sees.mem (List.mem_cons_of_mem _ (List.mem_cons_of_mem _ (List.mem_cons_of_mem _ (List.mem_cons_of_mem _ List.mem_cons_self))))) ?_
            refine ⟨_, _, gm_list (xs := (List.range (j + 1)).map fun t => nv (gRow (cl E) ok t)) (Sees.mem List.mem_cons_self) F.slot_list_append F.type_list_append, ?_⟩
            refine items_cons ?_
            refine e_call ?_
            refine e_glob (by with_reducible assumption) ?_
            refine items_cons ?_
            with_reducible refine e_sub ?_
            refine e_loc (by with_reducible assumption) (by decide +kernel) (Loc.tail (by decide) (Loc.head _)) ?_
            with_reducible refine e_binop ?_
            refine e_cel (by with_reducible assumption) (by with_reducible assumption) (by decide +kernel) (CLoc.tail (by decide) (CLoc.tail (by decide) (CLoc.head _))) (Sees.mem (List.mem_cons_of_mem _ (List.mem_cons_of_mem _ (List.mem_cons_of_mem _ List.mem_cons_self)))) ?_
            with_reducible refine e_int ?_
            with_reducible refine o_add ?_
            refine sub_list (u := nv (cl E (j + 1))) (xs := (List.range (bs.length + 1)).map fun t => nv (cl E t)) (Sees.mem (List.mem_cons_of_mem _ List.mem_cons_self)) (by (first | lia | omega)) ?_ ?_ (hl := by simp; (exact ar2 2 (.l (.v 0) (.n 1000)) (.e (.v 1) (.n 16777216)) (.l (.a (.v 0) (.n 1)) (.v 1)) (by kernel_rfl) [_, _] hbz hsz))
            · have : ((j : Int) + 1).toNat = j + 1 := by (first | lia | omega)
              rw [this]; exact rm_get _ (by (exact ar1 2 (.t (.v 0) (.v 1)) (.t (.a (.v 0) (.n 1)) (.a (.v 1) (.n 1))) (by kernel_rfl) [_, _] hj'))
            refine items_cons ?_
            with_reducible refine e_sub ?_
            refine e_cel (by with_reducible assumption) (by with_reducible assumption) (by decide +kernel) (CLoc.tail (by decide) (CLoc.head _)) (Sees.mem (List.mem_cons_of_mem _ (List.mem_cons_of_mem _ (List.mem_cons_of_mem _ (List.mem_cons_of_mem _ List.mem_cons_self))))) ?_
            refine e_cel (by with_reducible assumption) (by with_reducible assumption) (by decide +kernel) (CLoc.tail (by decide) (CLoc.tail (by decide) (CLoc.head _))) (Sees.mem (List.mem_cons_of_mem _ (List.mem_cons_of_mem _ (List.mem_cons_of_mem _ List.mem_cons_self)))) ?_
            refine sub_list (u := nv (gRow (cl E) ok j)) (xs := (List.range (j + 1)).map fun t => nv (gRow (cl E) ok t)) (Sees.mem List.mem_cons_self) (by (first | lia | omega)) (rm_get _ (by (first | lia | omega))) ?_ (hl := by simp; (exact ar3 3 (.l (.v 0) (.n 1000)) (.e (.v 1) (.n 16777216)) (.t (.v 2) (.v 0)) (.l (.a (.v 2) (.n 1)) (.v 1)) (by kernel_rfl) [_, _, _] hbz hsz hj'))
            with_reducible refine items_nil ?_
            refine ⟨keep_bi, k_max ?_⟩
            with_reducible refine items_nil ?_
            refine ⟨keep_bi, k_append (xs := (List.range (j + 1)).map fun t => nv (gRow (cl E) ok t)) (H' := ?HD) ?huD ?_ ?hzD⟩
            case huD => exact (Upd.head _)
            case hzD => simp; (exact ar3 3 (.l (.v 0) (.n 1000)) (.e (.v 1) (.n 16777216)) (.t (.v 2) (.v 0)) (.l (.a (.v 2) (.n 1)) (.v 1)) (by kernel_rfl) [_, _, _] hbz hsz hj')
            with_reducible refine s_nil ?_
            with_reducible refine s_nil ?_
            refine hQc _ _ _ ?_
            refine ⟨some (nv j), ?_⟩
            have hg : (if (gRow (cl E) ok j : Int) > (cl E (j + 1) : Int) then (gRow (cl E) ok j : Int) else (cl E (j + 1) : Int)) = ((gRow (cl E) ok (j + 1) : Nat) : Int) := by
              rw [gRow, hokf]
              simp only [Bool.false_eq_true, if_false]
              split <;> (first | lia | omega)
            rw [hs1, hg]
            exact (less_of (LessM.cons (Loc.head _) (LessM.cons (Loc.tail (by decide) (Loc.head _)) (LessM.cons (Loc.tail (by decide) (Loc.tail (by decide) (Loc.head _))) (LessM.cons (Loc.tail (by decide) (Loc.tail (by decide) (Loc.tail (by decide) (Loc.head _)))) LessM.nil)))) (List.Sublist.refl _))
        · have hokf : ok j = false := by rw [hokj, h1]; rfl
          show WPs _ _ _ _ _
          ((with_reducible refine s_cons ?_); refine s1_expr ?_)
          refine e_method ?_
          refine e_cel (by with_reducible assumption) (by with_reducible assumption) (by decide +kernel) (CLoc.tail (by decide) (CLoc.head _)) (Sees.mem (List.mem_cons_of_mem _ (List.mem_cons_of_mem _ (List.mem_cons_of_mem _ (List.mem_cons_of_mem _ List.mem_cons_self))))) ?_
          refine ⟨_, _, gm_list (xs := (List.range (j + 1)).map fun t => nv (gRow (cl E) ok t)) (Sees.mem List.mem_cons_self) F.slot_list_append F.type_list_append, ?_⟩
          refine items_cons ?_
          refine e_call ?_
          refine e_glob (by with_reducible assumption) ?_
          refine items_cons ?_
          with_reducible refine e_sub ?_
          refine e_loc (by with_reducible assumption) (by decide +kernel) (Loc.tail (by decide) (Loc.head _)) ?_
          with_reducible refine e_binop ?_
          refine e_cel (by with_reducible assumption) (by with_reducible assumption) (by decide +kernel) (CLoc.tail (by decide) (CLoc.tail (by decide) (CLoc.head _))) (Sees.mem (List.mem_cons_of_mem _ (List.mem_cons_of_mem _ (List.mem_cons_of_mem _ List.mem_cons_self)))) ?_
          with_reducible refine e_int ?_
          with_reducible refine o_add ?_
          refine sub_list (u := nv (cl E (j + 1))) (xs := (List.range (bs.length + 1)).map fun t => nv (cl E t)) (Sees.mem (List.mem_cons_of_mem _ List.mem_cons_self)) (by (first | lia | omega)) ?_ ?_ (hl := by simp; (exact ar2 2 (.l (.v 0) (.n 1000)) (.e (.v 1) (.n 16777216)) (.l (.a (.v 0) (.n 1)) (.v 1)) (by kernel_rfl) [_, _] hbz hsz))
          · have : ((j : Int) + 1).toNat = j + 1 := by (first | lia | omega)
            rw [this]; exact rm_get _ (by (exact ar1 2 (.t (.v 0) (.v 1)) (.t (.a (.v 0) (.n 1)) (.a (.v 1) (.n 1))) (by kernel_rfl) [_, _] hj'))
          refine items_cons ?_
          with_reducible refine e_sub ?_
          refine e_cel (by with_reducible assumption) (by with_reducible assumption) (by decide +kernel) (CLoc.tail (by decide) (CLoc.head _)) (Sees.mem (List.mem_cons_of_mem _ (List.mem_cons_of_mem _ (List.mem_cons_of_mem _ (List.mem_cons_of_mem _ List.mem_cons_self))))) ?_
          refine e_cel (by with_reducible assumption) (by with_reducible assumption) (by decide +kernel) (CLoc.tail (by decide) (CLoc.tail (by decide) (CLoc.head _))) (Sees.mem (List.mem_cons_of_mem _ (List.mem_cons_of_mem _ (List.mem_cons_of_mem _ List.mem_cons_self)))) ?_
          refine sub_list (u := nv (gRow (cl E) ok j)) (xs := (List.range (j + 1)).map fun t => nv (gRow (cl E) ok t)) (Sees.mem List.mem_cons_self) (by (first | lia | omega)) (rm_get _ (by (first | lia | omega))) ?_ (hl := by simp; (exact ar3 3 (.l (.v 0) (.n 1000)) (.e (.v 1) (.n 16777216)) (.t (.v 2) (.v 0)) (.l (.a (.v 2) (.n 1)) (.v 1)) (by kernel_rfl) [_, _, _] hbz hsz hj'))
          with_reducible refine items_nil ?_
          refine ⟨keep_bi, k_max ?_⟩
          with_reducible refine items_nil ?_
          refine ⟨keep_bi, k_append (xs := (List.range (j + 1)).map fun t => nv (gRow (cl E) ok t)) (H' := ?HC) ?huC ?_ ?hzC⟩
          case huC => exact (Upd.head _)
          case hzC => simp; (exact ar3 3 (.l (.v 0) (.n 1000)) (.e (.v 1) (.n 16777216)) (.t (.v 2) (.v 0)) (.l (.a (.v 2) (.n 1)) (.v 1)) (by kernel_rfl) [_, _, _] hbz hsz hj')
          with_reducible refine s_nil ?_
          with_reducible refine s_nil ?_
          refine hQc _ _ _ ?_
          refine ⟨some (nv j), ?_⟩
          have hg : (if (gRow (cl E) ok j : Int) > (cl E (j + 1) : Int) then (gRow (cl E) ok j : Int) else (cl E (j + 1) : Int)) = ((gRow (cl E) ok (j + 1) : Nat) : Int) := by
            rw [gRow, hokf]
            simp only [Bool.false_eq_true, if_false]
            split <;> (first | lia | omega)
          rw [hs1, hg]
          exact (less_of (LessM.cons (Loc.head _) (LessM.cons (Loc.tail (by decide) (Loc.head _)) (LessM.cons (Loc.tail (by decide) (Loc.tail (by decide) (Loc.head _))) (LessM.cons (Loc.tail (by decide) (Loc.tail (by decide) (Loc.tail (by decide) (Loc.head _)))) LessM.nil)))) (List.Sublist.refl _))
      · rintro m2 H2 ⟨uj, hl⟩
        have en : (((bs.map IS.v).length : Int) - 0).toNat = bs.length := by simp
        rw [en] at hl
        have eg : ((List.range (bs.length + 1)).map fun t => nv (gRow (cl E) ok t)) = (List.range (bs.length + 1)).map fun t => nv (cl E2 t) := by
          apply List.map_congr_left
          intro t ht
          rw [hrow t (by have := List.mem_range.mp ht; (exact ar1 2 (.t (.v 0) (.a (.v 1) (.n 1))) (.l (.v 0) (.v 1)) (by kernel_rfl) [_, _] this))]
        rw [eg] at hl
        have hjm := jumps hE2s hE2l
        have hEl2 := sorted_len hE2s hE2l
        refine WPs.less hl ?_
        refine s_if ?_
        refine t_cmp ?_ (by with_unfolding_all rfl)
        refine e_loc (by with_reducible assumption) (by decide +kernel) (Loc.tail (by decide) (Loc.tail (by decide) (Loc.head _))) ?_
        refine e_comp (cl := ?cl3) ?hclo3 rfl (it_range rfl ?_)
        case hclo3 =>
          refine clo_eq hcs ?_
          (refine (Clo.skip (by decide) (Clo.skip (by decide) (Clo.take (CLoc.tail (by decide) (CLoc.head _)) ?_))); exact Clo.nil _)
        refine e_call ?_
        refine e_glob (by with_reducible assumption) ?_
        refine items_cons ?_
        refine e_call ?_
        refine e_glob (by with_reducible assumption) ?_
        refine items_cons ?_
        refine e_cel (by with_reducible assumption) (by with_reducible assumption) (by decide +kernel) (CLoc.tail (by decide) (CLoc.tail (by decide) (CLoc.tail (by decide) (CLoc.tail (by decide) (CLoc.tail (by decide) (CLoc.tail (by decide) (CLoc.tail (by decide) (CLoc.head _)))))))) (Sees.mem (List.mem_cons_of_mem _ (List.mem_cons_of_mem _ (List.mem_cons_of_mem _ (List.mem_cons_of_mem _ (List.mem_cons_of_mem _ (by with_reducible assumption))))))) ?_
        with_reducible refine items_nil ?_
        refine ⟨keep_bi, k_len (xs := bs.map IS.v) (Sees.mem (List.mem_cons_of_mem _ (List.mem_cons_of_mem _ (List.mem_cons_of_mem _ (List.mem_cons_of_mem _ (List.mem_cons_of_mem _ (by with_reducible assumption))))))) ?_ (by simp; (exact ar1 1 (.l (.v 0) (.n 1000)) (.l (.v 0) (.n 1000000)) (by kernel_rfl) [_] hbz))⟩
        with_reducible refine items_nil ?_
        refine ⟨keep_ty, k_range ?_⟩
        intro y4
        refine ⟨_, _, _, rfl, by exact (Sees.mem List.mem_cons_self), by (first | lia | omega), by simp; (first | lia | omega), ?_⟩
        refine ⟨by simp; (exact ar2 2 (.l (.v 0) (.n 1000)) (.e (.v 1) (.n 16777216)) (.l (.v 0) (.v 1)) (by kernel_rfl) [_, _] hbz hsz), compOver (f := fun i => if decide (cl E2 i < cl E2 (i + 1)) then some (.int (0 + (i : Int))) else .none) (H' := (xn, .list ((List.range (bs.length + 1)).map fun t => nv (cl E2 t))) :: (xe, .list (E2.map nv)) :: (cj, .cell uj) :: (cno, .cell (some (.ref xn))) :: H) (fun _ => by exact (less_of LessM.nil (List.Sublist.cons _ (List.Sublist.cons_cons _ (List.Sublist.cons _ (List.Sublist.refl _)))))) ?_ (fun _ _ => trivial) ?_⟩
        · intro c2 hc j hj
          have hj' : j < bs.length := by simp at hj; (exact ar1 2 (.t (.v 0) (.v 1)) (.t (.v 0) (.v 1)) (by kernel_rfl) [_, _] hj)
          have hn2 := hc.named hn
          have hcs2 := hc.cells
          refine asg_name ?_
          have ej : (0 : Int) + (j : Int) = j := by (first | lia | omega)
          rw [ej]
          refine sto_local (kind_of (by with_reducible assumption) (by decide +kernel)) ?_
          show WPt _ _ _ _ _
          refine t_cmp ?_ (by with_unfolding_all rfl)
          with_reducible refine e_sub ?_
          refine e_cel (by with_reducible assumption) (by with_reducible assumption) (by decide +kernel) (CLoc.head _) (Sees.mem (List.mem_cons_of_mem _ (List.mem_cons_of_mem _ (List.mem_cons_of_mem _ List.mem_cons_self)))) ?_
          with_reducible refine e_binop ?_
          refine e_loc (by with_reducible assumption) (by decide +kernel) (Loc.head _) ?_
          with_reducible refine e_int ?_
          with_reducible refine o_add ?_
          refine sub_list (u := nv (cl E2 (j + 1))) (xs := (List.range (bs.length + 1)).map fun t => nv (cl E2 t)) (Sees.mem List.mem_cons_self) (by (first | lia | omega)) ?_ ?_ (hl := by simp; (exact ar2 2 (.l (.v 0) (.n 1000)) (.e (.v 1) (.n 16777216)) (.l (.a (.v 0) (.n 1)) (.v 1)) (by kernel_rfl) [_, _] hbz hsz))
          · have : ((j : Int) + 1).toNat = j + 1 := by (first | lia | omega)
            rw [this]; exact rm_get _ (by (exact ar2 3 (.e (.v 0) (.v 1)) (.t (.v 2) (.v 0)) (.t (.a (.v 2) (.n 1)) (.a (.v 1) (.n 1))) (by kernel_rfl) [_, _, _] en hj))
          with_reducible refine e_sub ?_
          refine e_cel (by with_reducible assumption) (by with_reducible assumption) (by decide +kernel) (CLoc.head _) (Sees.mem (List.mem_cons_of_mem _ (List.mem_cons_of_mem _ (List.mem_cons_of_mem _ List.mem_cons_self)))) ?_
          refine e_loc (by with_reducible assumption) (by decide +kernel) (Loc.head _) ?_
          refine sub_list (u := nv (cl E2 j)) (xs := (List.range (bs.length + 1)).map fun t => nv (cl E2 t)) (Sees.mem List.mem_cons_self) (by (first | lia | omega)) (rm_get _ (by (first | lia | omega))) ?_ (hl := by simp; (exact ar2 2 (.l (.v 0) (.n 1000)) (.e (.v 1) (.n 16777216)) (.l (.a (.v 0) (.n 1)) (.v 1)) (by kernel_rfl) [_, _] hbz hsz))
          with_reducible refine c_gt ?_
          with_reducible refine tru_bool ?_
          have e2 : decide (((cl E2 j : Nat) : Int) < ((cl E2 (j + 1) : Nat) : Int)) = decide (cl E2 j < cl E2 (j + 1)) := by simp
          rw [e2]
          refine if_b (fun h1 => ?_) (fun h1 => ?_)
          · show WPe _ _ _ _ _
            refine e_loc (by with_reducible assumption) (by decide +kernel) (Loc.head _) ?_
            rw [h1]
            exact ⟨rfl, by exact (less_of LessM.nil (List.Sublist.refl _))⟩
          · refine ⟨?_, by exact (less_of LessM.nil (List.Sublist.refl _))⟩
            rw [h1]; rfl
        intro H3 hl3 D4
        rw [en, filt_range (fun j => decide (cl E2 j < cl E2 (j + 1))), hjm]
        refine On2.less hl3.lift ?_
        refine c_neL (xs := E2.map nv) (ys := E2.map nv) (Sees.mem (List.mem_cons_of_mem _ (List.mem_cons_of_mem _ List.mem_cons_self))) (Sees.mem List.mem_cons_self) (eqLs_nv E2) ?_
        with_reducible refine tru_bool ?_
        refine if_b (fun h => nomatch h) (fun _ => ?_)
        with_reducible refine s_nil ?_
        ((with_reducible refine s_cons ?_); refine s1_assign ?_)
        refine e_cel (by with_reducible assumption) (by with_reducible assumption) (by decide +kernel) (CLoc.tail (by decide) (CLoc.head _)) (Sees.mem (List.mem_cons_of_mem _ (List.mem_cons_of_mem _ (List.mem_cons_of_mem _ (List.mem_cons_of_mem _ List.mem_cons_self))))) ?_
        refine sto_local (kind_of (by with_reducible assumption) (by decide +kernel)) ?_
        with_reducible refine s_nil ?_
        refine hQa _ _ _ ?_
        refine ⟨xn, uj, some (.ref xn), ?_⟩
        rw [hE2]
        exact (less_of (LessM.cons (Loc.head _) (LessM.cons (Loc.tail (by decide) (Loc.tail (by decide) (Loc.tail (by decide) (Loc.head _)))) (LessM.cons (Loc.tail (by decide) (Loc.tail (by decide) (Loc.tail (by decide) (Loc.tail (by decide) (Loc.head _))))) LessM.nil))) (List.Sublist.cons _ (List.Sublist.refl _)))
  · rintro m2 H2 ⟨xab, uj, un, hl⟩
    refine WPs.less hl ?_
    refine WPs.less (m' := []) (H' := H) (less_of LessM.nil (List.Sublist.cons _ (List.Sublist.cons _ (List.Sublist.cons _ (List.Sublist.cons _ (List.Sublist.refl _)))))) ?_
    exact next
end
section
open PySem PySem.W PyProof.Rows PySem.Calls
set_option maxRecDepth 100000
set_option maxHeartbeats 4000000

theorem eqLs_self (E : List Int) : LEq (E.map V.int) (E.map V.int) true := .inl ⟨E, rfl, rfl, rfl⟩
theorem flat_snoc {G : GL} {i : Nat} (h : i < G.length) : (G.take (i + 1)).flatMap (fun e => e.2.2) = (G.take i).flatMap (fun e => e.2.2) ++ (G[i]).2.2 := by
  rw [List.take_add_one, List.getElem?_eq_getElem h, List.flatMap_append]; simp
theorem mem_le_sum (a : Nat) : ∀ l : List Nat, a ∈ l → a ≤ l.sum
  | b :: l, h => by
    rw [List.sum_cons]
    rcases List.mem_cons.mp h with rfl | h
    · (exact ar0 2 (.l (.v 0) (.a (.v 0) (.v 1))) (by kernel_rfl) [_, _])
    · have := mem_le_sum a l h; (exact ar1 3 (.l (.v 0) (.v 1)) (.l (.v 0) (.a (.v 2) (.v 1))) (by kernel_rfl) [_, _, _] this)
theorem law_t4 (p : Params) (c : Ctx) {n : Nat} (hfu : c.fuel = n + 1) (B : Base c (K08 p)) (hs : c.env.scope = (fdIn (K08 p) 261).scope) {cb con cm cpl cof cj cno cju : Addr}
    (hcs : c.env.cells = [(("junk" : Str), cju), ("now", cno), ("j", cj), ("often", cof), ("plain", cpl), ("m", cm), ("on", con), ("b", cb)]) {H : Hp} {as bs js : List IS} {on : Bool} {J : At} {x d ra rb rj rt D S S2 D1 D2 : Addr} {ep : Nat} {z1 z2 : Raw} {G : GL} {kj kp : List IS}
    (E : Env8 H cb con cm cpl cof cju x d ra rb rj rt D S S2 D1 D2 ep z1 z2 G kj kp as bs js J on)
    (hbz : bs.length ≤ 1000) (hnd : (G.map (·.1)).Nodup) (hGz : G.length ≤ 1000)
    (f5 : List.Perm (G.flatMap fun e => e.2.2) (((List.range bs.length).filter fun q => !decide (bs.getD q (.i 0) ∈ js) && !decide (bs.getD q (.i 0) ∈ ofI bs js on)).map fun (n : Nat) => (n : Int)))
    : WPs c ((bodyIn (fdIn (K08 p) 261)).drop 17) [] H fun f _ _ => f = .ret (.bool true) := by
  have hn := congrArg Scope.names hs
  conv at hn => rhs; whnf
  have hC := cls08 p
  have hsz : sizeLine = 16777216 := rfl
  have gl : Glob c "len" (.bi "len") := B.bi (kind_of hn (by decide +kernel)) (by kernel_rfl) (by kernel_rfl) (by decide) rfl
  have gr : Glob c "range" (.ty "range") := B.bi (kind_of hn (by decide +kernel)) (by kernel_rfl) (by kernel_rfl) (by decide) rfl
  have gs : Glob c "sorted" (.bi "sorted") := B.bi (kind_of hn (by decide +kernel)) (by kernel_rfl) (by kernel_rfl) (by decide) rfl
  obtain ⟨hb, hon, hm, hju, hpl, hof, hD1, hD2, hx, hd, hD, hS, hS2, hra, hrb, hrj, hrt, hG⟩ := E
  have hlen : (G.flatMap fun e => e.2.2).length ≤ bs.length := by
    rw [f5.length_eq, List.length_map]
    exact Nat.le_trans (List.length_filter_le _ _) (by simp)
  have hel : ∀ e ∈ G, e.2.2.length ≤ bs.length := fun e he => by
    refine Nat.le_trans ?_ hlen
    rw [List.length_flatMap]
    exact mem_le_sum _ _ (List.mem_map.mpr ⟨e, he, rfl⟩)
  have htl : ∀ i, ((G.take i).flatMap fun e => e.2.2).length ≤ bs.length := fun i => by
    refine Nat.le_trans ?_ hlen
    conv => rhs; rw [← List.take_append_drop i G, List.flatMap_append, List.length_append]
    (exact ar0 2 (.l (.v 0) (.a (.v 0) (.v 1))) (by kernel_rfl) [_, _])
  refine s_cons (s1_assign ?_)
  refine e_call ?_
  refine e_glob (by with_reducible assumption) ?_
  refine items_cons ?_
  refine e_lc2 (cl := ?cl) ?hclo rfl (it_dict rfl ?_)
  case hclo =>
    refine clo_eq hcs ?_
    (refine (Clo.skip (by decide) (Clo.skip (by decide) (Clo.skip (by decide) (Clo.take (CLoc.tail (by decide) (CLoc.tail (by decide) (CLoc.tail (by decide) (CLoc.tail (by decide) (CLoc.tail (by decide) (CLoc.head _)))))) ?_)))); exact Clo.nil _)
  refine e_attr ?_
  refine e_cel (by with_reducible assumption) (by with_reducible assumption) (by decide +kernel) (CLoc.tail (by decide) (CLoc.tail (by decide) (CLoc.tail (by decide) (CLoc.tail (by decide) (CLoc.tail (by decide) (CLoc.head _)))))) (Sees.mem (by with_reducible assumption)) ?_
  refine a_inst B hC (by kernel_rfl) (Sees.mem (by with_reducible assumption)) (Sees.mem (by with_reducible assumption)) (u := .ref D) rfl ?_
  refine ⟨D, ep, gD G, rfl, by exact (Sees.mem (by with_reducible assumption)), ?_⟩
  intro c2 DD hc
  refine ⟨fun i H2 => Less [] H2 [] ((DD, .list (((G.take i).flatMap fun e => e.2.2).map V.int)) :: H), ?_, ?_, ?_⟩
  · exact Less.refl _ _
  · intro i H2 hi hl
    have hi' : i < G.length := by rw [gD_len] at hi; exact hi
    refine ⟨Sees.less hl (by first | exact (List.mem_cons_of_mem _ (by with_reducible assumption)) | simp [hD]), ?_⟩
    dsimp only
    rw [getD_gD _ _ hi']
    refine On1.less hl ?_
    have hn2 := hc.named hn
    have hcs2 := hc.cells
    have B2 := hc.base _ B
    refine asg_name ?_
    refine sto_local (kind_of (by with_reducible assumption) (by decide +kernel)) ?_
    show WPit _ _ _ _ _ _
    refine it_list rfl ?_
    with_reducible refine e_sub ?_
    refine e_attr ?_
    refine e_cel (by with_reducible assumption) (by with_reducible assumption) (by decide +kernel) (CLoc.head _) (Sees.mem (List.mem_cons_of_mem _ (by with_reducible assumption))) ?_
    refine a_inst B2 hC (by kernel_rfl) (Sees.mem (List.mem_cons_of_mem _ (by with_reducible assumption))) (Sees.mem (List.mem_cons_of_mem _ (by with_reducible assumption))) (u := .ref D) rfl ?_
    refine e_loc (by with_reducible assumption) (by decide +kernel) (Loc.head _) ?_
    refine sub_dict (k := (G[i]).1) (Sees.mem (List.mem_cons_of_mem _ (by with_reducible assumption))) (dictAt_get hnd hi') ?_
    have hgi := hG G[i] (List.getElem_mem hi')
    have hgl := hel G[i] (List.getElem_mem hi')
    have hsn := flat_snoc hi'
    have hti := htl i
    have hti1 := htl (i + 1)
    rw [hsn] at hti1
    have hI : ∀ H', Less [] H' [] ((DD, .list ((((G.take i).flatMap fun e => e.2.2) ++ (G[i]).2.2).map V.int)) :: H) → Less [] H' [] ((DD, .list (((G.take (i + 1)).flatMap fun e => e.2.2).map V.int)) :: H) := fun H' h => by rw [hsn]; exact h
    refine ⟨(G[i]).2.1, (G[i]).2.2.map V.int, rfl, by exact (Sees.mem (List.mem_cons_of_mem _ (by with_reducible assumption))), ?_⟩
    generalize (G[i]).2.2 = ps at *
    generalize ((G.take i).flatMap fun e => e.2.2) = qs at *
    refine ⟨fun j m2 H2 => Less m2 H2 [("x", (G[i]).1.v)] ((DD, .list ((qs ++ ps.take j).map V.int)) :: H), ?_, ?_, ?_⟩
    · dsimp only
      rw [List.take_zero, List.append_nil]
      exact (less_of (LessM.cons (Loc.head _) LessM.nil) (List.Sublist.refl _))
    · intro j m2 H3 hj hl3
      have hj' : j < ps.length := by simpa using hj
      refine ⟨Sees.less hl3 (by first | exact (List.mem_cons_of_mem _ (by with_reducible assumption)) | simp [hgi]), On1.less hl3 ?_⟩
      have ej : (ps.map V.int).getD j .none = .int (ps[j]) := by simp [List.getD, hj']
      dsimp only
      rw [ej]
      refine asg_name ?_
      refine sto_local (kind_of (by with_reducible assumption) (by decide +kernel)) ?_
      show WPe _ _ _ _ _
      refine e_loc (by with_reducible assumption) (by decide +kernel) (Loc.head _) ?_
      refine k_append (xs := (qs ++ ps.take j).map V.int) (.head _) ?_ (by simp at hti1 ⊢; (exact ar3 5 (.l (.v 0) (.n 1000)) (.e (.v 1) (.n 16777216)) (.l (.a (.v 2) (.v 3)) (.v 0)) (.l (.a (.v 2) (.mn (.v 4) (.v 3))) (.v 1)) (by kernel_rfl) [_, _, _, _, _] hbz hsz hti1))
      have hs1 : (qs ++ ps.take (j + 1)).map V.int = (qs ++ ps.take j).map V.int ++ [.int ps[j]] := by
        rw [show ps.take (j + 1) = ps.take j ++ [ps[j]] by rw [List.take_add_one, List.getElem?_eq_getElem hj']; rfl, ← List.append_assoc, List.map_append]; rfl
      rw [hs1]
      exact (less_of (LessM.cons (Loc.tail (by decide) (Loc.head _)) LessM.nil) (List.Sublist.refl _))
    · intro m2 H3 hl3
      refine ⟨Sees.less hl3 (by first | exact (List.mem_cons_of_mem _ (by with_reducible assumption)) | simp [hgi]), ?_⟩
      rw [List.length_map, List.take_length] at hl3
      exact hI _ ⟨(fun _ _ e => nomatch e), hl3.2⟩
  · intro H2 hl
    rw [gD_len, List.take_length] at hl
    refine ⟨Sees.less hl (by first | exact (List.mem_cons_of_mem _ (by with_reducible assumption)) | simp [hD]), ?_⟩
    generalize (G.flatMap fun e => e.2.2) = ps at *
    show WPitems _ _ _ _ _ _
    refine items_nil ?_
    refine ⟨keep_bi, Cal.less (m' := []) (H' := (DD, .list (ps.map V.int)) :: H) hl (k_sorted (ns := ps) (Sees.mem List.mem_cons_self) (by (exact ar2 2 (.l (.v 0) (.n 1000)) (.l (.v 1) (.v 0)) (.l (.v 1) (.n 1000000)) (by kernel_rfl) [_, _] hbz hlen)) ?_)⟩
    intro z qs hp hso
    have e1 : qs = ((List.range bs.length).filter fun q => !decide (bs.getD q (.i 0) ∈ js) && !decide (bs.getD q (.i 0) ∈ ofI bs js on)).map fun (n : Nat) => (n : Int) := by
      refine List.Perm.eq_of_pairwise (fun a b _ _ h1 h2 => Int.le_antisymm h1 h2) hso ?_ (hp.trans f5)
      rw [List.pairwise_map]
      exact (List.Pairwise.filter _ List.pairwise_lt_range).imp fun h => by (first | lia | omega)
    refine sto_local (kind_of (by with_reducible assumption) (by decide +kernel)) ?_
    with_reducible refine s_cons (s1_return ?_)
    refine e_cmp ?_ (by with_unfolding_all rfl)
    refine e_loc (by with_reducible assumption) (by decide +kernel) (Loc.head _) ?_
    refine e_comp (cl := ?cl4) ?hclo4 rfl (it_range rfl ?_)
    case hclo4 =>
      refine clo_eq hcs ?_
      (refine (Clo.skip (by decide) (Clo.skip (by decide) (Clo.take (CLoc.tail (by decide) (CLoc.tail (by decide) (CLoc.tail (by decide) (CLoc.tail (by decide) (CLoc.tail (by decide) (CLoc.tail (by decide) (CLoc.tail (by decide) (CLoc.head _)))))))) (Clo.take (CLoc.head _) (Clo.take (CLoc.tail (by decide) (CLoc.tail (by decide) (CLoc.tail (by decide) (CLoc.head _)))) ?_))))); exact Clo.nil _)
    refine e_call ?_
    refine e_glob (by with_reducible assumption) ?_
    refine items_cons ?_
    refine e_call ?_
    refine e_glob (by with_reducible assumption) ?_
    refine items_cons ?_
    refine e_cel (by with_reducible assumption) (by with_reducible assumption) (by decide +kernel) (CLoc.tail (by decide) (CLoc.tail (by decide) (CLoc.tail (by decide) (CLoc.tail (by decide) (CLoc.tail (by decide) (CLoc.tail (by decide) (CLoc.tail (by decide) (CLoc.head _)))))))) (Sees.mem (List.mem_cons_of_mem _ (List.mem_cons_of_mem _ (by with_reducible assumption)))) ?_
    with_reducible refine items_nil ?_
    refine ⟨keep_bi, k_len (xs := bs.map IS.v) (Sees.mem (List.mem_cons_of_mem _ (List.mem_cons_of_mem _ (by with_reducible assumption)))) ?_ (by simp; (exact ar1 1 (.l (.v 0) (.n 1000)) (.l (.v 0) (.n 1000000)) (by kernel_rfl) [_] hbz))⟩
    with_reducible refine items_nil ?_
    refine ⟨keep_ty, k_range ?_⟩
    intro y4
    refine ⟨_, _, _, rfl, by exact (Sees.mem List.mem_cons_self), by (first | lia | omega), by simp; (first | lia | omega), ?_⟩
    refine ⟨by simp; (exact ar2 2 (.l (.v 0) (.n 1000)) (.e (.v 1) (.n 16777216)) (.l (.v 0) (.v 1)) (by kernel_rfl) [_, _] hbz hsz), compOver (f := fun i => if (!decide (bs.getD i (.i 0) ∈ js) && !decide (bs.getD i (.i 0) ∈ ofI bs js on)) then some (.int (0 + (i : Int))) else .none) (H' := (z, .list (qs.map V.int)) :: H) (fun _ => by exact (less_of LessM.nil (List.Sublist.cons _ (List.Sublist.cons_cons _ (List.Sublist.cons _ (List.Sublist.refl _)))))) ?_ (fun _ _ => trivial) ?_⟩
    · intro c2 hc j hj
      have hj' : j < bs.length := by simp at hj; (exact ar1 2 (.t (.v 0) (.v 1)) (.t (.v 0) (.v 1)) (by kernel_rfl) [_, _] hj)
      have hn2 := hc.named hn
      have hcs2 := hc.cells
      have ej : (0 : Int) + (j : Int) = j := by (first | lia | omega)
      rw [ej]
      refine asg_name ?_
      refine sto_local (kind_of (by with_reducible assumption) (by decide +kernel)) ?_
      show WPt _ _ _ _ _
      with_reducible refine t_bool ?_
      with_reducible refine all_and ?_
      refine t_cmp ?_ (by with_unfolding_all rfl)
      with_reducible refine e_sub ?_
      refine e_cel (by with_reducible assumption) (by with_reducible assumption) (by decide +kernel) (CLoc.tail (by decide) (CLoc.tail (by decide) (CLoc.head _))) (Sees.mem (List.mem_cons_of_mem _ (by with_reducible assumption))) ?_
      refine e_loc (by with_reducible assumption) (by decide +kernel) (Loc.head _) ?_
      refine sub_list (u := (bs.getD j (.i 0)).v) (xs := bs.map IS.v) (Sees.mem (List.mem_cons_of_mem _ (by with_reducible assumption))) (by (first | lia | omega)) (by simp [hj', List.getD]) ?_ (hl := by simp; (exact ar2 2 (.l (.v 0) (.n 1000)) (.e (.v 1) (.n 16777216)) (.l (.v 0) (.v 1)) (by kernel_rfl) [_, _] hbz hsz))
      generalize hk : bs.getD j (.i 0) = k
      refine e_cel (by with_reducible assumption) (by with_reducible assumption) (by decide +kernel) (CLoc.tail (by decide) (CLoc.head _)) (Sees.mem (List.mem_cons_of_mem _ (by with_reducible assumption))) ?_
      refine c_notin (ks := js) (Sees.mem (List.mem_cons_of_mem _ (by with_reducible assumption))) ?_
      with_reducible refine tru_bool ?_
      refine if_b (fun h1 => ?_) (fun h1 => ?_)
      · with_reducible refine all_and ?_
        refine t_cmp ?_ (by with_unfolding_all rfl)
        with_reducible refine e_sub ?_
        refine e_cel (by with_reducible assumption) (by with_reducible assumption) (by decide +kernel) (CLoc.tail (by decide) (CLoc.tail (by decide) (CLoc.head _))) (Sees.mem (List.mem_cons_of_mem _ (by with_reducible assumption))) ?_
        refine e_loc (by with_reducible assumption) (by decide +kernel) (Loc.head _) ?_
        refine sub_list (u := k.v) (xs := bs.map IS.v) (Sees.mem (List.mem_cons_of_mem _ (by with_reducible assumption))) (by (first | lia | omega)) (by rw [← hk]; simp [hj', List.getD]) ?_ (hl := by simp; (exact ar2 2 (.l (.v 0) (.n 1000)) (.e (.v 1) (.n 16777216)) (.l (.v 0) (.v 1)) (by kernel_rfl) [_, _] hbz hsz))
        refine e_cel (by with_reducible assumption) (by with_reducible assumption) (by decide +kernel) (CLoc.head _) (Sees.mem (List.mem_cons_of_mem _ (by with_reducible assumption))) ?_
        refine c_notin (ks := ofI bs js on) (Sees.mem (List.mem_cons_of_mem _ (by with_reducible assumption))) ?_
        with_reducible refine tru_bool ?_
        refine if_b (fun h2 => ?_) (fun h2 => ?_)
        · refine all_and_nil ?_
          show WPe _ _ _ _ _
          refine e_loc (by with_reducible assumption) (by decide +kernel) (Loc.head _) ?_
          rw [h1, h2]
          exact ⟨rfl, by exact (less_of LessM.nil (List.Sublist.refl _))⟩
        · refine ⟨?_, by exact (less_of LessM.nil (List.Sublist.refl _))⟩
          rw [h1, h2]; rfl
      · refine ⟨?_, by exact (less_of LessM.nil (List.Sublist.refl _))⟩
        rw [h1]; rfl
    intro H3 hl3 D4
    have en : (((bs.map IS.v).length : Int) - 0).toNat = bs.length := by simp
    rw [en, filt_range (fun q => !decide (bs.getD q (.i 0) ∈ js) && !decide (bs.getD q (.i 0) ∈ ofI bs js on))]
    have e3 : (((List.range bs.length).filter fun q => !decide (bs.getD q (.i 0) ∈ js) && !decide (bs.getD q (.i 0) ∈ ofI bs js on)).map nv) = qs.map V.int := by rw [e1, List.map_map]; rfl
    rw [e3]
    refine On2.less hl3.lift ?_
    refine c_eqL (xs := qs.map V.int) (ys := qs.map V.int) (r := true) (Sees.mem (List.mem_cons_of_mem _ List.mem_cons_self)) (Sees.mem List.mem_cons_self) (eqLs_self qs) ?_
    rfl
end
section
open PySem PySem.W PyProof.Rows PySem.Calls
set_option maxRecDepth 100000
set_option maxHeartbeats 4000000

theorem law_t1 (p : Params) (c : Ctx) {n : Nat} (hfu : c.fuel = n + 1) (B : Base c (K08 p)) (hs : c.env.scope = (fdIn (K08 p) 261).scope) {cb con cm cpl cof cj cno cju : Addr}
    (hcs : c.env.cells = [(("junk" : Str), cju), ("now", cno), ("j", cj), ("often", cof), ("plain", cpl), ("m", cm), ("on", con), ("b", cb)]) {H : Hp} {as bs js : List IS} {on : Bool} {J : At} {x d ra rb rj rt D S S2 : Addr} {ep : Nat} {z1 z2 : Raw} {G : GL} {kj kp : List IS}
    (hb : (cb, O.cell (some (.ref rb))) ∈ H) (hon : (con, O.cell (some (.bool on))) ∈ H) (hm : (cm, O.cell (some (.ref x))) ∈ H) (hju : (cju, O.cell (some (.ref rj))) ∈ H)
    (hx : (x, O.inst 242 d) ∈ H) (hd : (d, O.ns (fsB (.at J) on ra rb D S S2)) ∈ H) (hD : (D, O.dict ep (gD G)) ∈ H) (hS : (S, O.set z1 kj) ∈ H) (hS2 : (S2, O.set z2 kp) ∈ H)
    (hra : (ra, O.list (as.map IS.v)) ∈ H) (hrb : (rb, O.list (bs.map IS.v)) ∈ H) (hrj : (rj, O.list (js.map IS.v)) ∈ H) (hrt : (rt, O.list (tsI.map IS.v)) ∈ H) (hG : ∀ e ∈ G, (e.2.1, O.list (e.2.2.map V.int)) ∈ H)
    (hbz : bs.length ≤ 1000) (hJb : (V.at J).notBi = true) (hJJ : isAt J J = some true) (haz : as.length ≤ 1000) (hjz : js.length ≤ 10) (hGz : G.length ≤ 1000)
    (f1 : List.Perm kj ((js.filter fun k => decide (k ∈ bs)).foldl setPut [])) (f2 : List.Perm kp ((ofI bs js on).foldl setPut [])) (f3 : ∀ e ∈ G, e.2.2 ≠ []) (hnd : (G.map (·.1)).Nodup)
    (next : ∀ D1 D2 H', Env8 H' cb con cm cpl cof cju x d ra rb rj rt D S S2 D1 D2 ep z1 z2 G kj kp as bs js J on → WPs c ((bodyIn (fdIn (K08 p) 261)).drop 14) [("a", .ref ra)] ((cj, .cell .none) :: (cno, .cell .none) :: H') fun f _ _ => f = .ret (.bool true))
    : WPs c ((bodyIn (fdIn (K08 p) 261)).drop 8) [("test", .at J), ("a", .ref ra), ("things", .ref rt)] ((cpl, .cell .none) :: (cof, .cell .none) :: (cj, .cell .none) :: (cno, .cell .none) :: H)
      fun f _ _ => f = .ret (.bool true) := by
  have hn := congrArg Scope.names hs
  conv at hn => rhs; whnf
  have hC := cls08 p
  have hsz : sizeLine = 16777216 := rfl
  refine s_cons (s1_assign ?_ (swaps_no hn (by decide +kernel)))
  refine e_comp (cl := ?cl) ?hclo rfl (it_list rfl ?_)
  case hclo =>
    refine clo_eq hcs ?_
    (refine (Clo.skip (by decide) (Clo.skip (by decide) (Clo.skip (by decide) (Clo.take (CLoc.tail (by decide) (CLoc.tail (by decide) (CLoc.tail (by decide) (CLoc.tail (by decide) (CLoc.tail (by decide) (CLoc.tail (by decide) (CLoc.tail (by decide) (CLoc.head _)))))))) (Clo.take (CLoc.head _) (Clo.take (CLoc.tail (by decide) (CLoc.tail (by decide) (CLoc.tail (by decide) (CLoc.tail (by decide) (CLoc.tail (by decide) (CLoc.tail (by decide) (CLoc.head _))))))) ?_)))))); exact Clo.nil _)
  refine e_loc (by with_reducible assumption) (by decide +kernel) (Loc.tail (by decide) (Loc.tail (by decide) (Loc.head _))) ?_
  refine ⟨_, _, rfl, by exact (Sees.mem (List.mem_cons_of_mem _ (List.mem_cons_of_mem _ (List.mem_cons_of_mem _ (List.mem_cons_of_mem _ (by with_reducible assumption)))))), ?_⟩
  refine ⟨by simp [tsI, hsz], compOver (f := fun i => if lawPlain (tsI.getD i (.i 0)) bs js on then some (tsI.getD i (.i 0)).v else .none) (H' := (cpl, .cell .none) :: (cof, .cell .none) :: (cj, .cell .none) :: (cno, .cell .none) :: H) (fun _ => by exact (less_of LessM.nil (List.Sublist.refl _))) ?_ (fun _ hl => Sees.less hl (List.mem_cons_of_mem _ (List.mem_cons_of_mem _ (List.mem_cons_of_mem _ (List.mem_cons_of_mem _ (by with_reducible assumption)))))) ?_⟩
  · intro c2 hc i hi
    have hi' : i < tsI.length := by simpa using hi
    have hn2 := hc.named hn
    have hcs2 := hc.cells
    have B2 := hc.base _ B
    rw [getD_v _ _ hi']
    generalize tsI.getD i (.i 0) = k
    refine asg_name ?_
    refine sto_local (kind_of (by with_reducible assumption) (by decide +kernel)) ?_
    show WPt _ _ _ _ _
    have gp : Glob c2 "_law_plain" (.ref 256) := B2.glob (kind_of hn2 (by decide +kernel)) (by kernel_rfl) rfl
    refine t_value ?_ (by intro _; rfl)
    refine e_call ?_
    refine e_glob (by with_reducible assumption) ?_
    refine items_cons ?_
    refine e_loc (by with_reducible assumption) (by decide +kernel) (Loc.head _) ?_
    refine items_cons ?_
    refine e_cel (by with_reducible assumption) (by with_reducible assumption) (by decide +kernel) (CLoc.tail (by decide) (CLoc.tail (by decide) (CLoc.head _))) (Sees.mem (List.mem_cons_of_mem _ (List.mem_cons_of_mem _ (List.mem_cons_of_mem _ (List.mem_cons_of_mem _ (by with_reducible assumption)))))) ?_
    refine items_cons ?_
    refine e_cel (by with_reducible assumption) (by with_reducible assumption) (by decide +kernel) (CLoc.tail (by decide) (CLoc.head _)) (Sees.mem (List.mem_cons_of_mem _ (List.mem_cons_of_mem _ (List.mem_cons_of_mem _ (List.mem_cons_of_mem _ (by with_reducible assumption)))))) ?_
    refine items_cons ?_
    refine e_cel (by with_reducible assumption) (by with_reducible assumption) (by decide +kernel) (CLoc.head _) (Sees.mem (List.mem_cons_of_mem _ (List.mem_cons_of_mem _ (List.mem_cons_of_mem _ (List.mem_cons_of_mem _ (by with_reducible assumption)))))) ?_
    with_reducible refine items_nil ?_
    refine ⟨keep_K B2 (by kernel_rfl), CalC.cal (plain_cal p (hc.fuel.trans hfu) B2 hbz (List.mem_cons_of_mem _ (List.mem_cons_of_mem _ (List.mem_cons_of_mem _ (List.mem_cons_of_mem _ (by with_reducible assumption))))) (List.mem_cons_of_mem _ (List.mem_cons_of_mem _ (List.mem_cons_of_mem _ (List.mem_cons_of_mem _ (by with_reducible assumption))))) ?_)⟩
    refine tru_bool ?_
    cases lawPlain k bs js on
    · exact ⟨rfl, by exact (less_of LessM.nil (List.Sublist.refl _))⟩
    · show WPe _ _ _ _ _
      refine e_loc (by with_reducible assumption) (by decide +kernel) (Loc.head _) ?_
      exact ⟨rfl, by exact (less_of LessM.nil (List.Sublist.refl _))⟩
  intro H2 hl D1
  rw [List.length_map, filt_list tsI IS.v (fun k => lawPlain k bs js on) (.i 0)]
  refine On1.less hl.lift ?_
  show Sto c _ _ _ ((D1, .list ((plI bs js on).map IS.v)) :: _) _
  refine sto_cel (by with_reducible assumption) (by with_reducible assumption) (by decide +kernel) (CLoc.tail (by decide) (CLoc.tail (by decide) (CLoc.tail (by decide) (CLoc.tail (by decide) (CLoc.head _))))) (Upd.tail (Upd.head _)) ?_
  with_reducible refine s_if ?_
  with_reducible refine t_not ?_
  with_reducible refine t_bool ?_
  with_reducible refine all_and ?_
  refine t_cmp ?_ (by with_unfolding_all rfl)
  refine e_attr ?_
  refine e_cel (by with_reducible assumption) (by with_reducible assumption) (by decide +kernel) (CLoc.tail (by decide) (CLoc.tail (by decide) (CLoc.tail (by decide) (CLoc.tail (by decide) (CLoc.tail (by decide) (CLoc.head _)))))) (Sees.mem (List.mem_cons_of_mem _ (List.mem_cons_of_mem _ (List.mem_cons_of_mem _ (List.mem_cons_of_mem _ (List.mem_cons_of_mem _ (by with_reducible assumption))))))) ?_
  refine a_inst B hC (by kernel_rfl) (Sees.mem (List.mem_cons_of_mem _ (List.mem_cons_of_mem _ (List.mem_cons_of_mem _ (List.mem_cons_of_mem _ (List.mem_cons_of_mem _ (by with_reducible assumption))))))) (Sees.mem (List.mem_cons_of_mem _ (List.mem_cons_of_mem _ (List.mem_cons_of_mem _ (List.mem_cons_of_mem _ (List.mem_cons_of_mem _ (by with_reducible assumption))))))) (u := .ref ra) rfl ?_
  refine e_loc (by with_reducible assumption) (by decide +kernel) (Loc.tail (by decide) (Loc.head _)) ?_
  refine c_is (r := true) (if_pos rfl) ?_
  with_reducible refine tru_bool ?_
  refine if_b (fun _ => ?_) (fun h => nomatch h)
  with_reducible refine all_and ?_
  refine t_cmp ?_ (by with_unfolding_all rfl)
  refine e_attr ?_
  refine e_cel (by with_reducible assumption) (by with_reducible assumption) (by decide +kernel) (CLoc.tail (by decide) (CLoc.tail (by decide) (CLoc.tail (by decide) (CLoc.tail (by decide) (CLoc.tail (by decide) (CLoc.head _)))))) (Sees.mem (List.mem_cons_of_mem _ (List.mem_cons_of_mem _ (List.mem_cons_of_mem _ (List.mem_cons_of_mem _ (List.mem_cons_of_mem _ (by with_reducible assumption))))))) ?_
  refine a_inst B hC (by kernel_rfl) (Sees.mem (List.mem_cons_of_mem _ (List.mem_cons_of_mem _ (List.mem_cons_of_mem _ (List.mem_cons_of_mem _ (List.mem_cons_of_mem _ (by with_reducible assumption))))))) (Sees.mem (List.mem_cons_of_mem _ (List.mem_cons_of_mem _ (List.mem_cons_of_mem _ (List.mem_cons_of_mem _ (List.mem_cons_of_mem _ (by with_reducible assumption))))))) (u := .ref rb) rfl ?_
  refine e_cel (by with_reducible assumption) (by with_reducible assumption) (by decide +kernel) (CLoc.tail (by decide) (CLoc.tail (by decide) (CLoc.tail (by decide) (CLoc.tail (by decide) (CLoc.tail (by decide) (CLoc.tail (by decide) (CLoc.tail (by decide) (CLoc.head _)))))))) (Sees.mem (List.mem_cons_of_mem _ (List.mem_cons_of_mem _ (List.mem_cons_of_mem _ (List.mem_cons_of_mem _ (List.mem_cons_of_mem _ (by with_reducible assumption))))))) ?_
  refine c_is (r := true) (if_pos rfl) ?_
  with_reducible refine tru_bool ?_
  refine if_b (fun _ => ?_) (fun h => nomatch h)
  with_reducible refine all_and ?_
  refine t_cmp ?_ (by with_unfolding_all rfl)
  refine e_attr ?_
  refine e_cel (by with_reducible assumption) (by with_reducible assumption) (by decide +kernel) (CLoc.tail (by decide) (CLoc.tail (by decide) (CLoc.tail (by decide) (CLoc.tail (by decide) (CLoc.tail (by decide) (CLoc.head _)))))) (Sees.mem (List.mem_cons_of_mem _ (List.mem_cons_of_mem _ (List.mem_cons_of_mem _ (List.mem_cons_of_mem _ (List.mem_cons_of_mem _ (by with_reducible assumption))))))) ?_
  refine a_inst B hC (by kernel_rfl) (Sees.mem (List.mem_cons_of_mem _ (List.mem_cons_of_mem _ (List.mem_cons_of_mem _ (List.mem_cons_of_mem _ (List.mem_cons_of_mem _ (by with_reducible assumption))))))) (Sees.mem (List.mem_cons_of_mem _ (List.mem_cons_of_mem _ (List.mem_cons_of_mem _ (List.mem_cons_of_mem _ (List.mem_cons_of_mem _ (by with_reducible assumption))))))) (u := .at J) rfl ?_ hJb
  refine e_loc (by with_reducible assumption) (by decide +kernel) (Loc.head _) ?_
  refine c_is (r := true) hJJ ?_
  with_reducible refine tru_bool ?_
  refine if_b (fun _ => ?_) (fun h => nomatch h)
  with_reducible refine all_and ?_
  refine t_cmp ?_ (by with_unfolding_all rfl)
  refine e_attr ?_
  refine e_cel (by with_reducible assumption) (by with_reducible assumption) (by decide +kernel) (CLoc.tail (by decide) (CLoc.tail (by decide) (CLoc.tail (by decide) (CLoc.tail (by decide) (CLoc.tail (by decide) (CLoc.head _)))))) (Sees.mem (List.mem_cons_of_mem _ (List.mem_cons_of_mem _ (List.mem_cons_of_mem _ (List.mem_cons_of_mem _ (List.mem_cons_of_mem _ (by with_reducible assumption))))))) ?_
  refine a_inst B hC (by kernel_rfl) (Sees.mem (List.mem_cons_of_mem _ (List.mem_cons_of_mem _ (List.mem_cons_of_mem _ (List.mem_cons_of_mem _ (List.mem_cons_of_mem _ (by with_reducible assumption))))))) (Sees.mem (List.mem_cons_of_mem _ (List.mem_cons_of_mem _ (List.mem_cons_of_mem _ (List.mem_cons_of_mem _ (List.mem_cons_of_mem _ (by with_reducible assumption))))))) (u := .bool on) rfl ?_
  refine e_cel (by with_reducible assumption) (by with_reducible assumption) (by decide +kernel) (CLoc.tail (by decide) (CLoc.tail (by decide) (CLoc.tail (by decide) (CLoc.tail (by decide) (CLoc.tail (by decide) (CLoc.tail (by decide) (CLoc.head _))))))) (Sees.mem (List.mem_cons_of_mem _ (List.mem_cons_of_mem _ (List.mem_cons_of_mem _ (List.mem_cons_of_mem _ (List.mem_cons_of_mem _ (by with_reducible assumption))))))) ?_
  refine c_is (r := true) (congrArg some (beq_self_eq_true on)) ?_
  with_reducible refine tru_bool ?_
  refine if_b (fun _ => ?_) (fun h => nomatch h)
  with_reducible refine all_and_nil ?_
  refine if_b (fun h => nomatch h) (fun _ => ?_)
  with_reducible refine s_nil ?_
  refine s_cons (s1_assign ?_ (swaps_no hn (by decide +kernel)))
  refine e_comp (cl := ?cl2) ?hclo2 rfl (it_list rfl ?_)
  case hclo2 =>
    refine clo_eq hcs ?_
    (refine (Clo.skip (by decide) (Clo.skip (by decide) (Clo.take (CLoc.tail (by decide) (CLoc.tail (by decide) (CLoc.tail (by decide) (CLoc.tail (by decide) (CLoc.tail (by decide) (CLoc.tail (by decide) (CLoc.tail (by decide) (CLoc.head _)))))))) (Clo.take (CLoc.head _) (Clo.take (CLoc.tail (by decide) (CLoc.tail (by decide) (CLoc.tail (by decide) (CLoc.tail (by decide) (CLoc.head _))))) ?_))))); exact Clo.nil _)
  refine e_loc (by with_reducible assumption) (by decide +kernel) (Loc.tail (by decide) (Loc.tail (by decide) (Loc.head _))) ?_
  refine ⟨_, _, rfl, by exact (Sees.mem (List.mem_cons_of_mem _ (List.mem_cons_of_mem _ (List.mem_cons_of_mem _ (List.mem_cons_of_mem _ (List.mem_cons_of_mem _ (by with_reducible assumption))))))), ?_⟩
  refine ⟨by simp [tsI, hsz], compOver (f := fun i => if (decide (tsI.getD i (.i 0) ∈ bs) && !decide (tsI.getD i (.i 0) ∈ plI bs js on) && !decide (tsI.getD i (.i 0) ∈ js)) then some (tsI.getD i (.i 0)).v else .none) (H' := (D1, .list ((plI bs js on).map IS.v)) :: (cpl, .cell (some (.ref D1))) :: (cof, .cell .none) :: (cj, .cell .none) :: (cno, .cell .none) :: H) (fun _ => by exact (less_of LessM.nil (List.Sublist.refl _))) ?_ (fun _ hl => Sees.less hl (List.mem_cons_of_mem _ (List.mem_cons_of_mem _ (List.mem_cons_of_mem _ (List.mem_cons_of_mem _ (List.mem_cons_of_mem _ (by with_reducible assumption))))))) ?_⟩
  · intro c2 hc i hi
    have hi' : i < tsI.length := by simpa using hi
    have hn2 := hc.named hn
    have hcs2 := hc.cells
    rw [getD_v _ _ hi']
    generalize tsI.getD i (.i 0) = k
    refine asg_name ?_
    refine sto_local (kind_of (by with_reducible assumption) (by decide +kernel)) ?_
    show WPt _ _ _ _ _
    with_reducible refine t_bool ?_
    with_reducible refine all_and ?_
    refine t_cmp ?_ (by with_unfolding_all rfl)
    refine e_loc (by with_reducible assumption) (by decide +kernel) (Loc.head _) ?_
    refine e_cel (by with_reducible assumption) (by with_reducible assumption) (by decide +kernel) (CLoc.tail (by decide) (CLoc.tail (by decide) (CLoc.head _))) (Sees.mem (List.mem_cons_of_mem _ (List.mem_cons_of_mem _ (List.mem_cons_of_mem _ (List.mem_cons_of_mem _ (List.mem_cons_of_mem _ (by with_reducible assumption))))))) ?_
    refine c_in (ks := bs) (Sees.mem (List.mem_cons_of_mem _ (List.mem_cons_of_mem _ (List.mem_cons_of_mem _ (List.mem_cons_of_mem _ (List.mem_cons_of_mem _ (by with_reducible assumption))))))) ?_
    with_reducible refine tru_bool ?_
    refine if_b (fun h1 => ?_) (fun h1 => ?_)
    · with_reducible refine all_and ?_
      refine t_cmp ?_ (by with_unfolding_all rfl)
      refine e_loc (by with_reducible assumption) (by decide +kernel) (Loc.head _) ?_
      refine e_cel (by with_reducible assumption) (by with_reducible assumption) (by decide +kernel) (CLoc.head _) (Sees.mem (List.mem_cons_of_mem _ List.mem_cons_self)) ?_
      refine c_notin (ks := plI bs js on) (Sees.mem List.mem_cons_self) ?_
      with_reducible refine tru_bool ?_
      refine if_b (fun h2 => ?_) (fun h2 => ?_)
      · with_reducible refine all_and ?_
        refine t_cmp ?_ (by with_unfolding_all rfl)
        refine e_loc (by with_reducible assumption) (by decide +kernel) (Loc.head _) ?_
        refine e_cel (by with_reducible assumption) (by with_reducible assumption) (by decide +kernel) (CLoc.tail (by decide) (CLoc.head _)) (Sees.mem (List.mem_cons_of_mem _ (List.mem_cons_of_mem _ (List.mem_cons_of_mem _ (List.mem_cons_of_mem _ (List.mem_cons_of_mem _ (by with_reducible assumption))))))) ?_
        refine c_notin (ks := js) (Sees.mem (List.mem_cons_of_mem _ (List.mem_cons_of_mem _ (List.mem_cons_of_mem _ (List.mem_cons_of_mem _ (List.mem_cons_of_mem _ (by with_reducible assumption))))))) ?_
        with_reducible refine tru_bool ?_
        refine if_b (fun h3 => ?_) (fun h3 => ?_)
        · refine all_and_nil ?_
          show WPe _ _ _ _ _
          refine e_loc (by with_reducible assumption) (by decide +kernel) (Loc.head _) ?_
          rw [h1, h2, h3]
          exact ⟨rfl, by exact (less_of LessM.nil (List.Sublist.refl _))⟩
        · refine ⟨?_, by exact (less_of LessM.nil (List.Sublist.refl _))⟩
          rw [h1, h2, h3]; rfl
      · refine ⟨?_, by exact (less_of LessM.nil (List.Sublist.refl _))⟩
        rw [h1, h2]; rfl
    · refine ⟨?_, by exact (less_of LessM.nil (List.Sublist.refl _))⟩
      rw [h1]; rfl
  clear hl
  intro H2 hl D2
  rw [List.length_map, filt_list tsI IS.v (fun k => decide (k ∈ bs) && !decide (k ∈ plI bs js on) && !decide (k ∈ js)) (.i 0)]
  refine On1.less hl.lift ?_
  show Sto c _ _ _ ((D2, .list ((ofI bs js on).map IS.v)) :: _) _
  refine sto_cel (by with_reducible assumption) (by with_reducible assumption) (by decide +kernel) (CLoc.tail (by decide) (CLoc.tail (by decide) (CLoc.tail (by decide) (CLoc.head _)))) (Upd.tail (Upd.tail (Upd.tail (Upd.head _)))) ?_
  refine WPs.less (m' := [("a", .ref ra)]) (H' := (cj, .cell .none) :: (cno, .cell .none) :: (D2, .list ((ofI bs js on).map IS.v)) :: (D1, .list ((plI bs js on).map IS.v)) :: (cpl, .cell (some (.ref D1))) :: (cof, .cell (some (.ref D2))) :: H)
    (less_perm (LessM.cons (Loc.tail (by decide) (Loc.head _)) LessM.nil) (List.perm_append_comm_assoc [(cj, O.cell .none), (cno, O.cell .none)] [(D2, O.list ((ofI bs js on).map IS.v)), (D1, O.list ((plI bs js on).map IS.v)), (cpl, O.cell (some (.ref D1))), (cof, O.cell (some (.ref D2)))] H)) ?_
  have E : Env8 ((D2, .list ((ofI bs js on).map IS.v)) :: (D1, .list ((plI bs js on).map IS.v)) :: (cpl, .cell (some (.ref D1))) :: (cof, .cell (some (.ref D2))) :: H) cb con cm cpl cof cju x d ra rb rj rt D S S2 D1 D2 ep z1 z2 G kj kp as bs js J on :=
    ⟨by exact (List.mem_cons_of_mem _ (List.mem_cons_of_mem _ (List.mem_cons_of_mem _ (List.mem_cons_of_mem _ (by with_reducible assumption))))), by exact (List.mem_cons_of_mem _ (List.mem_cons_of_mem _ (List.mem_cons_of_mem _ (List.mem_cons_of_mem _ (by with_reducible assumption))))), by exact (List.mem_cons_of_mem _ (List.mem_cons_of_mem _ (List.mem_cons_of_mem _ (List.mem_cons_of_mem _ (by with_reducible assumption))))), by exact (List.mem_cons_of_mem _ (List.mem_cons_of_mem _ (List.mem_cons_of_mem _ (List.mem_cons_of_mem _ (by with_reducible assumption))))), by exact (List.mem_cons_of_mem _ (List.mem_cons_of_mem _ List.mem_cons_self)), by exact (List.mem_cons_of_mem _ (List.mem_cons_of_mem _ (List.mem_cons_of_mem _ List.mem_cons_self))), by exact (List.mem_cons_of_mem _ List.mem_cons_self), by exact List.mem_cons_self, by exact (List.mem_cons_of_mem _ (List.mem_cons_of_mem _ (List.mem_cons_of_mem _ (List.mem_cons_of_mem _ (by with_reducible assumption))))), by exact (List.mem_cons_of_mem _ (List.mem_cons_of_mem _ (List.mem_cons_of_mem _ (List.mem_cons_of_mem _ (by with_reducible assumption))))), by exact (List.mem_cons_of_mem _ (List.mem_cons_of_mem _ (List.mem_cons_of_mem _ (List.mem_cons_of_mem _ (by with_reducible assumption))))), by exact (List.mem_cons_of_mem _ (List.mem_cons_of_mem _ (List.mem_cons_of_mem _ (List.mem_cons_of_mem _ (by with_reducible assumption))))), by exact (List.mem_cons_of_mem _ (List.mem_cons_of_mem _ (List.mem_cons_of_mem _ (List.mem_cons_of_mem _ (by with_reducible assumption))))), by exact (List.mem_cons_of_mem _ (List.mem_cons_of_mem _ (List.mem_cons_of_mem _ (List.mem_cons_of_mem _ (by with_reducible assumption))))), by exact (List.mem_cons_of_mem _ (List.mem_cons_of_mem _ (List.mem_cons_of_mem _ (List.mem_cons_of_mem _ (by with_reducible assumption))))), by exact (List.mem_cons_of_mem _ (List.mem_cons_of_mem _ (List.mem_cons_of_mem _ (List.mem_cons_of_mem _ (by with_reducible assumption))))), by exact (List.mem_cons_of_mem _ (List.mem_cons_of_mem _ (List.mem_cons_of_mem _ (List.mem_cons_of_mem _ (by with_reducible assumption))))), fun e he => by simp [hG e he]⟩
  exact law_t2 p c hfu B hs hcs E hbz haz hjz hGz f1 f2 f3 hnd (next D1 D2 _ E)
end
section
open PySem PySem.W PyProof.Rows PySem.Calls
set_option maxRecDepth 100000
set_option maxHeartbeats 4000000
theorem lam_junk {c : Ctx} {k : Nat} {W : Hp} {f c' cju rj : Addr} {js : List IS} {p1 p2 p3 p4 : Pos} {scope : Scope} {q : Str} {pm ctv : Value} {oc : Obj} {vs : Array Value} {t : Nat} (hlim : c.Knows Heap.NoLimit)
    (hk : scope.kind = .function) (hco : scope.isCoroutine = false) (hgen : scope.isGenerator = false) (hnames : scope.names = [(("x" : Str), NameKind.local), ("junk", NameKind.free)])
    (hoc : oc.data = .fields vs) (hq : vs[1]? = some (.str q t))
    (h1 : (f, O.obj (kla_obj "<lambda>" q ⟨[], [⟨"x", none, p1⟩], none, [], [], none, []⟩ (.Compare (.Name "x" p2) [.In] [.Name "junk" p3] p4) scope [("junk", cju)] pm c' ctv)) ∈ W) (h2 : (c', O.obj oc) ∈ W) (h3 : (cju, O.cell (some (.ref rj))) ∈ W) (h4 : (rj, O.list (js.map IS.v)) ∈ W) :
    JunkIn c (k + 1) (.ref f) (fun x => decide (x ∈ js)) W := fun c2 hf hp hw hkn => by
  refine .inr ⟨fun m H' Q hW hQ => tru_fn (Sees.mem (hW _ h1)) rfl hQ, fun H' hW => keep_fn (Sees.mem (hW _ h1)) rfl, fun x m H' Q hW hQ => ?_⟩
  refine CalC.cal (cal_lam (bs := [(("x" : Str), x.v)]) hf (Sees.mem (hW _ h1)) rfl ?_ (hkn _ hlim) rfl hk hco hgen ?_ ?_ ?_ fun L => ?_)
  · intro m s R
    exact ⟨c', oc, vs, t, rfl, (R.obj _ _ (hW _ h2)).1, hoc, hq⟩
  · intro y hy
    have hy : y ∈ scope.names := hy
    rw [hnames] at hy
    rcases List.mem_cons.mp hy with rfl | hy
    · simp
    · rcases List.mem_cons.mp hy with rfl | hy
      · simp
      · cases hy
  · intro m H s vvs R r
    obtain ⟨v, rfl, hv⟩ := r.sole
    exact ⟨[(("x" : Str), v)], .of_eq rfl, rfl, .one hv⟩
  · intro y hy
    show scope.names.lookup _ = _
    rw [hnames]
    simp at hy
    subst hy
    rfl
  · have hn : (c2.lam (kla_fn "<lambda>" q ⟨[], [⟨"x", none, p1⟩], none, [], [], none, []⟩ (.Compare (.Name "x" p2) [.In] [.Name "junk" p3] p4) scope [("junk", cju)] pm (.ref c') ctv) f L k hf hk).env.scope.names = [(("x" : Str), NameKind.local), ("junk", NameKind.free)] := hnames
    have hcs : (c2.lam (kla_fn "<lambda>" q ⟨[], [⟨"x", none, p1⟩], none, [], [], none, []⟩ (.Compare (.Name "x" p2) [.In] [.Name "junk" p3] p4) scope [("junk", cju)] pm (.ref c') ctv) f L k hf hk).env.cells = [(("junk" : Str), cju)] := rfl
    refine e_cmp ?_
    refine e_loc hn (by decide) (.head _) ?_
    refine e_free hn hcs (by decide) (.head _) (Sees.mem (hW _ h3)) ?_
    exact c_in (Sees.mem (hW _ h4)) hQ
noncomputable abbrev lamS : Scope := { kind := .function, names := [("x", NameKind.local), ("junk", NameKind.free)], isGenerator := false, isCoroutine := false }
noncomputable abbrev lamO (q : Str) (pm : Value) (cju c' : Addr) (ctv : Value) : Obj := kla_obj "<lambda>" q ⟨[], [⟨"x", none, ⟨445, 19, 445, 20⟩⟩], none, [], [], none, []⟩ (.Compare (.Name "x" ⟨445, 22, 445, 23⟩) [.In] [.Name "junk" ⟨445, 27, 445, 31⟩] ⟨445, 22, 445, 31⟩) lamS [("junk", cju)] pm c' ctv
end
section
open PySem PySem.W PyProof.Rows PySem.Calls
set_option maxRecDepth 100000
noncomputable def nsOf (script : List Int) : List Int := script.drop 1 ++ [(script.length : Int), 11, 2, 13, 40, 8, 12, 5, 10, 6, 14]
noncomputable def fstOf (script : List Int) : Int := (script ++ [47]).headD 0
noncomputable def itI (first : Int) (t : Int) : IS := tsI.getD ((t.fdiv 3).fmod (llKind first)).toNat (.i 0)
noncomputable def asI (first : Int) (ns : List Int) : List IS := ns.flatMap fun t => if t.fmod 3 != 1 then [itI first t] else []
noncomputable def bs0 (first : Int) (ns : List Int) : List IS := ns.flatMap fun t => if t.fmod 3 != 0 then List.replicate (1 + ((t.fdiv 3).fdiv (llKind first)).fmod 3).toNat (itI first t) else []
noncomputable def freshI (first : Int) (n : Nat) : List IS := (List.range (llSize first - n - 0).toNat).map fun (i : Nat) => .i (1000 + (i : Int))
noncomputable def bsI (first : Int) (ns : List Int) : List IS := if (first.fdiv 20).fmod 2 == 0 then bs0 first ns ++ freshI first (bs0 first ns).length else freshI first (bs0 first ns).length ++ bs0 first ns
theorem itI_eq (first t : Int) : llItem first (tsI.map IS.v) t = (itI first t).v := by
  have hb := llKind_bd first
  have f1 := Int.fmod_nonneg_of_pos (t.fdiv 3) (b := llKind first) (by (first | lia | omega))
  have f2 := Int.fmod_lt_of_pos (t.fdiv 3) (b := llKind first) (by (first | lia | omega))
  have : ((t.fdiv 3).fmod (llKind first)).toNat < tsI.length := by show _ < 6; (first | lia | omega)
  unfold llItem itI
  exact getD_v _ _ this
theorem llA_eq (first : Int) (ns : List Int) : llA first (tsI.map IS.v) ns = (asI first ns).map IS.v := by
  unfold llA asI
  rw [List.map_flatMap]
  congr 1
  funext t
  unfold llA1
  rw [itI_eq]
  split <;> rfl
theorem llB_eq (first : Int) (ns : List Int) : llB first (tsI.map IS.v) ns = (bs0 first ns).map IS.v := by
  unfold llB bs0
  rw [List.map_flatMap]
  congr 1
  funext t
  unfold llB1
  rw [itI_eq]
  split
  · rw [List.map_replicate]
  · rfl
theorem fresh_eq (first : Int) (bs : List IS) : llFresh first (bs.map IS.v) = (freshI first bs.length).map IS.v := by
  unfold llFresh freshI
  rw [List.length_map, List.map_map]
  have : ∀ l : List Nat, (l.filterMap fun (i : Nat) => some (V.int (1000 + (i : Int)))) = l.map (IS.v ∘ fun (i : Nat) => IS.i (1000 + (i : Int))) := fun l => by
    have e := congrFun (List.filterMap_eq_map (f := fun (i : Nat) => V.int (1000 + (i : Int)))) l
    exact e
  exact this _
theorem llFull_eq (first : Int) (ns : List Int) : llFull first (llB first (tsI.map IS.v) ns) = (bsI first ns).map IS.v := by
  unfold llFull bsI
  rw [llB_eq, fresh_eq]
  split <;> rw [List.map_append]
theorem asI_len (first : Int) (ns : List Int) (h : ns.length ≤ 100) : (asI first ns).length ≤ 1000 := by
  have := flatMap_len (llA1 first (tsI.map IS.v)) 1 (llA1_len first _) ns
  have e := congrArg List.length (llA_eq first ns)
  rw [List.length_map] at e
  unfold llA at e
  (exact ar3 3 (.l (.v 0) (.n 100)) (.l (.v 1) (.m 1 (.v 0))) (.e (.v 1) (.v 2)) (.l (.v 2) (.n 1000)) (by kernel_rfl) [_, _, _] h this e)
theorem bsI_len (first : Int) (ns : List Int) (h : ns.length ≤ 100) : (bsI first ns).length ≤ 1000 := by
  have := flatMap_len (llB1 first (tsI.map IS.v)) 3 (llB1_len first _) ns
  have e := congrArg List.length (llB_eq first ns)
  rw [List.length_map] at e
  unfold llB at e
  have h2 := llFresh_len first ((bs0 first ns).map IS.v)
  rw [fresh_eq, List.length_map] at h2
  unfold bsI
  split <;> rw [List.length_append] <;> (first | lia | omega)
end
section
open PySem PySem.W PyProof.Rows PySem.Calls
set_option maxRecDepth 100000
theorem cnt_cons (b : IS) (bs : List IS) (k : IS) : cnt (b :: bs) k = (if b = k then 1 else 0) + cnt bs k := by
  unfold cnt
  rw [List.length_cons, List.range_succ_eq_map, List.filter_cons]
  have e : ((List.map Nat.succ (List.range bs.length)).filter fun i => decide ((b :: bs)[i]? = some k)).length = ((List.range bs.length).filter fun i => decide (bs[i]? = some k)).length := by
    rw [List.filter_map, List.length_map]
    congr 1
  by_cases h : b = k
  · subst h; simp [e]; (exact ar0 1 (.e (.a (.v 0) (.n 1)) (.a (.n 1) (.v 0))) (by kernel_rfl) [_])
  · simp [h, e]
theorem cnt_count (bs : List IS) (k : IS) : cnt bs k = bs.count k := by
  induction bs with
  | nil => rfl
  | cons b bs ih =>
    rw [cnt_cons, ih, List.count_cons]
    by_cases h : b = k
    · subst h; simp; (exact ar0 1 (.e (.a (.n 1) (.v 0)) (.a (.v 0) (.n 1))) (by kernel_rfl) [_])
    · simp [h]
theorem pn_len (bs : List IS) (k : IS) : (pn bs k).length = cnt bs k := rfl
theorem mem_pn {bs : List IS} {k : IS} {i : Nat} : i ∈ pn bs k ↔ bs[i]? = some k := by
  unfold pn
  rw [List.mem_filter, List.mem_range]
  constructor
  · rintro ⟨_, h⟩; simpa using h
  · intro h; exact ⟨(List.getElem?_eq_some_iff.mp h).1, by simpa using h⟩
theorem mem_iff_get {bs : List IS} {k : IS} : k ∈ bs ↔ ∃ i : Nat, bs[i]? = some k := List.mem_iff_getElem?
noncomputable def popK (bs : List IS) (on : Bool) (k : IS) : Bool := on && decide (200 ≤ bs.length) && decide (bs.length / 100 + 1 < cnt bs k)
theorem lawPlain_eq (k : IS) (bs js : List IS) (on : Bool) : lawPlain k bs js on = (!decide (k ∈ js) && !popK bs on k) := by
  unfold lawPlain popK
  have h1 : decide ((200 : Int) ≤ (bs.length : Int)) = decide (200 ≤ bs.length) := by apply decide_eq_decide.mpr; (first | lia | omega)
  have h2 : decide ((bs.length : Int) < 100 * ((cnt bs k : Int) - 1)) = decide (bs.length / 100 + 1 < cnt bs k) := by apply decide_eq_decide.mpr; (first | lia | omega)
  rw [h1, h2]
theorem mem_pl {k : IS} {bs js : List IS} {on : Bool} : k ∈ plI bs js on ↔ k ∈ tsI ∧ k ∉ js ∧ popK bs on k = false := by
  unfold plI
  rw [List.mem_filter, lawPlain_eq]
  simp
theorem pop_ts {bs : List IS} {on : Bool} (hc : ∀ k, k ∉ tsI → cnt bs k ≤ 1) {k : IS} (h : popK bs on k = true) : k ∈ tsI := by
  by_cases q : k ∈ tsI
  · exact q
  · have := hc k q
    unfold popK at h
    simp at h
    (first | lia | omega)
theorem mem_of {k : IS} {bs js : List IS} {on : Bool} (hc : ∀ k, k ∉ tsI → cnt bs k ≤ 1) : k ∈ ofI bs js on ↔ k ∈ bs ∧ k ∉ js ∧ popK bs on k = true := by
  unfold ofI
  rw [List.mem_filter]
  simp only [Bool.and_eq_true, decide_eq_true_eq, Bool.not_eq_true', decide_eq_false_iff_not, mem_pl]
  constructor
  · rintro ⟨h1, ⟨h2, h3⟩, h4⟩
    refine ⟨h2, h4, ?_⟩
    by_cases q : popK bs on k = true
    · exact q
    · exact absurd ⟨h1, h4, by simpa using q⟩ h3
  · rintro ⟨h1, h2, h3⟩
    refine ⟨pop_ts hc h3, ⟨h1, fun q => ?_⟩, h2⟩
    rw [h3] at q
    exact absurd q.2.2 (by decide)
theorem setPut_mem (l : List IS) : ∀ acc k, k ∈ l.foldl setPut acc ↔ k ∈ l ∨ k ∈ acc := by
  induction l with
  | nil => intro acc k; simp
  | cons a l ih =>
    intro acc k
    rw [List.foldl_cons, ih]
    unfold setPut
    split
    · rename_i h
      constructor
      · rintro (h1 | h1)
        · exact .inl (List.mem_cons_of_mem _ h1)
        · exact .inr h1
      · rintro (h1 | h1)
        · rcases List.mem_cons.mp h1 with rfl | h1
          · exact .inr h
          · exact .inl h1
        · exact .inr h1
    · simp only [List.mem_append, List.mem_cons, List.not_mem_nil, or_false]
      constructor
      · rintro (h1 | h1 | h1)
        · exact .inl (.inr h1)
        · exact .inr h1
        · exact .inl (.inl h1)
      · rintro ((h1 | h1) | h1)
        · exact .inr (.inr h1)
        · exact .inl h1
        · exact .inr (.inl h1)
theorem setPut_nd (l : List IS) : ∀ acc : List IS, acc.Nodup → (l.foldl setPut acc).Nodup := by
  induction l with
  | nil => intro acc h; exact h
  | cons a l ih =>
    intro acc h
    rw [List.foldl_cons]
    refine ih _ ?_
    unfold setPut
    split
    · exact h
    · rename_i q
      exact List.nodup_append.mpr ⟨h, by simp, fun x hx y hy e => by simp at hy; subst hy; subst e; exact q hx⟩
section
variable {bs js : List IS} {on : Bool} {G : GL}
theorem g_places (gi : IsGrp bs bs.length (gP G)) {e : IS × Addr × List Int} (h : e ∈ G) : e.2.2 = (pn bs e.1).map fun (n : Nat) => (n : Int) :=
  gi.at_ (e.1, e.2.2) (List.mem_map.mpr ⟨e, h, rfl⟩)
theorem g_key (gi : IsGrp bs bs.length (gP G)) {k : IS} : k ∈ G.map (·.1) ↔ k ∈ bs := by
  rw [← gP_keys, gi.mem, mem_iff_get]
  constructor
  · rintro ⟨i, _, h⟩; exact ⟨i, h⟩
  · rintro ⟨i, h⟩; exact ⟨i, (List.getElem?_eq_some_iff.mp h).1, h⟩
theorem g_nd (gi : IsGrp bs bs.length (gP G)) : (G.map (·.1)).Nodup := by have := gi.nd; rw [gP_keys] at this; exact this
theorem g_pop (gi : IsGrp bs bs.length (gP G)) {e : IS × Addr × List Int} (h : e ∈ G) : chPop bs.length on e = popK bs on e.1 := by
  unfold chPop popK
  rw [g_places gi h, List.length_map, pn_len]
noncomputable abbrev g2 (G : GL) (bs js : List IS) (on : Bool) : GL := (G.filter fun e => !decide (e.1 ∈ js)).filter fun e => !chPop bs.length on e
theorem g2_mem (gi : IsGrp bs bs.length (gP G)) {e : IS × Addr × List Int} : e ∈ g2 G bs js on ↔ e ∈ G ∧ e.1 ∉ js ∧ popK bs on e.1 = false := by
  rw [List.mem_filter, List.mem_filter]
  constructor
  · rintro ⟨⟨h1, h2⟩, h3⟩
    rw [g_pop gi h1] at h3
    exact ⟨h1, by simpa using h2, by simpa using h3⟩
  · rintro ⟨h1, h2, h3⟩
    rw [g_pop gi h1]
    exact ⟨⟨h1, by simpa using h2⟩, by simpa using h3⟩
theorem g2_key (gi : IsGrp bs bs.length (gP G)) {k : IS} : k ∈ (g2 G bs js on).map (·.1) ↔ k ∈ bs ∧ k ∉ js ∧ popK bs on k = false := by
  constructor
  · intro h
    obtain ⟨e, he, rfl⟩ := List.mem_map.mp h
    obtain ⟨h1, h2⟩ := (g2_mem gi).mp he
    exact ⟨(g_key gi).mp (List.mem_map.mpr ⟨e, h1, rfl⟩), h2⟩
  · rintro ⟨h1, h2⟩
    obtain ⟨e, he, rfl⟩ := List.mem_map.mp ((g_key gi).mpr h1)
    exact List.mem_map.mpr ⟨e, (g2_mem gi).mpr ⟨he, h2⟩, rfl⟩
theorem g2_nd (gi : IsGrp bs bs.length (gP G)) : ((g2 G bs js on).map (·.1)).Nodup :=
  ((List.filter_sublist.trans List.filter_sublist).map _).nodup (g_nd gi)
theorem fact1 (gi : IsGrp bs bs.length (gP G)) : List.Perm ((G.map (·.1)).filter fun k => decide (k ∈ js)) ((js.filter fun k => decide (k ∈ bs)).foldl setPut []) := by
  refine (List.perm_ext_iff_of_nodup ((g_nd gi).filter _) (setPut_nd _ _ .nil)).mpr fun k => ?_
  rw [setPut_mem, List.mem_filter, List.mem_filter, g_key gi]
  simp [and_comm]
theorem fact2 (gi : IsGrp bs bs.length (gP G)) (hc : ∀ k, k ∉ tsI → cnt bs k ≤ 1) : List.Perm (((G.filter fun e => !decide (e.1 ∈ js)).filter (chPop bs.length on)).map (·.1)) ((ofI bs js on).foldl setPut []) := by
  refine (List.perm_ext_iff_of_nodup (((List.filter_sublist.trans List.filter_sublist).map _).nodup (g_nd gi)) (setPut_nd _ _ .nil)).mpr fun k => ?_
  rw [setPut_mem, mem_of hc]
  simp only [List.not_mem_nil, or_false]
  constructor
  · intro h
    obtain ⟨e, he, rfl⟩ := List.mem_map.mp h
    rw [List.mem_filter, List.mem_filter] at he
    obtain ⟨⟨h1, h2⟩, h3⟩ := he
    rw [g_pop gi h1] at h3
    exact ⟨(g_key gi).mp (List.mem_map.mpr ⟨e, h1, rfl⟩), by simpa using h2, h3⟩
  · rintro ⟨h1, h2, h3⟩
    obtain ⟨e, he, rfl⟩ := List.mem_map.mp ((g_key gi).mpr h1)
    refine List.mem_map.mpr ⟨e, ?_, rfl⟩
    rw [List.mem_filter, List.mem_filter, g_pop gi he]
    exact ⟨⟨he, by simpa using h2⟩, h3⟩
theorem fact3 (gi : IsGrp bs bs.length (gP G)) : ∀ e ∈ g2 G bs js on, e.2.2 ≠ [] := fun e he q => by
  obtain ⟨h1, _⟩ := (g2_mem gi).mp he
  rw [g_places gi h1] at q
  obtain ⟨i, hi⟩ := mem_iff_get.mp ((g_key gi).mp (List.mem_map.mpr ⟨e, h1, rfl⟩))
  have := mem_pn.mpr hi
  rw [List.map_eq_nil_iff.mp q] at this
  cases this
theorem dictAt_mem_get {G : GL} (nd : (G.map (·.1)).Nodup) {e : IS × Addr × List Int} (h : e ∈ G) : dictAt (gD G) e.1 = some (.ref e.2.1) := by
  obtain ⟨i, hi, rfl⟩ := List.mem_iff_getElem.mp h
  exact dictAt_get nd hi
theorem fact4 (gi : IsGrp bs bs.length (gP G)) {H : Hp} (hG : ∀ e ∈ g2 G bs js on, (e.2.1, O.list (e.2.2.map V.int)) ∈ H) {k : IS} (hk : k ∈ tsI) :
    (dictAt (gD (g2 G bs js on)) k = .none ∧ Mx bs (plI bs js on) k = []) ∨ ∃ r, dictAt (gD (g2 G bs js on)) k = some (.ref r) ∧ (r, O.list ((Mx bs (plI bs js on) k).map nv)) ∈ H := by
  by_cases q : k ∈ (g2 G bs js on).map (·.1)
  · right
    obtain ⟨e, he, rfl⟩ := List.mem_map.mp q
    obtain ⟨h1, h2, h3⟩ := (g2_mem gi).mp he
    refine ⟨e.2.1, dictAt_mem_get (g2_nd gi) he, ?_⟩
    have := hG e he
    rw [g_places gi h1, List.map_map] at this
    unfold Mx
    rw [if_pos (mem_pl.mpr ⟨hk, h2, h3⟩)]
    exact this
  · left
    refine ⟨dictAt_gD_none q, ?_⟩
    unfold Mx
    split
    · rename_i h
      obtain ⟨_, h2, h3⟩ := mem_pl.mp h
      have hb : k ∉ bs := fun hb => q ((g2_key gi).mpr ⟨hb, h2, h3⟩)
      unfold pn
      rw [List.filter_eq_nil_iff]
      intro i _ hi
      exact hb (mem_iff_get.mpr ⟨i, by simpa using hi⟩)
    · rfl
theorem fact5 (gi : IsGrp bs bs.length (gP G)) (hc : ∀ k, k ∉ tsI → cnt bs k ≤ 1) :
    List.Perm ((g2 G bs js on).flatMap fun e => e.2.2) (((List.range bs.length).filter fun q => !decide (bs.getD q (.i 0) ∈ js) && !decide (bs.getD q (.i 0) ∈ ofI bs js on)).map fun (n : Nat) => (n : Int)) := by
  have hinj : ∀ a b : Nat, ((a : Int) = (b : Int)) → a = b := fun a b h => by (first | lia | omega)
  refine (List.perm_ext_iff_of_nodup ?_ ?_).mpr fun z => ?_
  · refine List.pairwise_flatMap.mpr ?_
    constructor
    · intro e he
      rw [g_places gi ((g2_mem gi).mp he).1]
      exact List.pairwise_map.mpr ((pn_sorted bs e.1).imp fun {a b} h => by (first | lia | omega))
    · have hp : (g2 G bs js on).Pairwise fun a b => a.1 ≠ b.1 := List.pairwise_map.mp (g2_nd gi)
      refine List.Pairwise.imp_of_mem ?_ hp
      intro a b ha hb hne
      intro z hza z' hzb hzz
      subst hzz
      rw [g_places gi ((g2_mem gi).mp ha).1] at hza
      rw [g_places gi ((g2_mem gi).mp hb).1] at hzb
      obtain ⟨i, hi, rfl⟩ := List.mem_map.mp hza
      obtain ⟨j, hj, e⟩ := List.mem_map.mp hzb
      have := hinj j i e
      subst this
      have h1 := mem_pn.mp hi
      have h2 := mem_pn.mp hj
      rw [h1] at h2
      exact hne (Option.some.inj h2)
  · exact List.pairwise_map.mpr ((List.Pairwise.filter _ List.pairwise_lt_range).imp fun {a b} h => by (first | lia | omega))
  · rw [List.mem_flatMap, List.mem_map]
    constructor
    · rintro ⟨e, he, hz⟩
      obtain ⟨h1, h2, h3⟩ := (g2_mem gi).mp he
      rw [g_places gi h1] at hz
      obtain ⟨i, hi, rfl⟩ := List.mem_map.mp hz
      have hi' := mem_pn.mp hi
      have hlt := (List.getElem?_eq_some_iff.mp hi').1
      have hd : bs.getD i (.i 0) = e.1 := by unfold List.getD; rw [hi']; rfl
      refine ⟨i, ?_, rfl⟩
      rw [List.mem_filter, hd]
      refine ⟨List.mem_range.mpr hlt, ?_⟩
      have : e.1 ∉ ofI bs js on := fun q => by have := ((mem_of hc).mp q).2.2; rw [h3] at this; cases this
      simp [h2, this]
    · rintro ⟨i, hi, rfl⟩
      rw [List.mem_filter, List.mem_range] at hi
      obtain ⟨hlt, hq⟩ := hi
      have hi' : bs[i]? = some (bs.getD i (.i 0)) := by unfold List.getD; rw [List.getElem?_eq_getElem hlt]; rfl
      generalize bs.getD i (.i 0) = k at *
      simp only [Bool.and_eq_true, Bool.not_eq_true', decide_eq_false_iff_not] at hq
      have hb : k ∈ bs := mem_iff_get.mpr ⟨i, hi'⟩
      have hp : popK bs on k = false := by
        by_cases q : popK bs on k = true
        · exact absurd ((mem_of hc).mpr ⟨hb, hq.1, q⟩) hq.2
        · simpa using q
      obtain ⟨e, he, rfl⟩ := List.mem_map.mp ((g2_key (js := js) gi).mpr ⟨hb, hq.1, hp⟩)
      refine ⟨e, he, ?_⟩
      rw [g_places gi ((g2_mem gi).mp he).1]
      exact List.mem_map.mpr ⟨i, mem_pn.mpr hi', rfl⟩
end
theorem itI_ts (first t : Int) : itI first t ∈ tsI := by
  have hb := llKind_bd first
  have f1 := Int.fmod_nonneg_of_pos (t.fdiv 3) (b := llKind first) (by (first | lia | omega))
  have f2 := Int.fmod_lt_of_pos (t.fdiv 3) (b := llKind first) (by (first | lia | omega))
  have : ((t.fdiv 3).fmod (llKind first)).toNat < tsI.length := by show _ < 6; (first | lia | omega)
  unfold itI List.getD
  rw [List.getElem?_eq_getElem this]
  exact List.getElem_mem this
theorem asI_ts (first : Int) (ns : List Int) : ∀ k ∈ asI first ns, k ∈ tsI := fun k hk => by
  unfold asI at hk
  obtain ⟨t, _, h⟩ := List.mem_flatMap.mp hk
  split at h
  · simp at h; subst h; exact itI_ts _ _
  · cases h
theorem bs0_ts (first : Int) (ns : List Int) : ∀ k ∈ bs0 first ns, k ∈ tsI := fun k hk => by
  unfold bs0 at hk
  obtain ⟨t, _, h⟩ := List.mem_flatMap.mp hk
  split at h
  · rw [(List.mem_replicate.mp h).2]; exact itI_ts _ _
  · cases h
theorem fresh_nd (first : Int) (n : Nat) : (freshI first n).Nodup := by
  unfold freshI
  exact List.pairwise_map.mpr (List.pairwise_lt_range.imp fun {a b} h q => by injection q; (first | lia | omega))
theorem bsI_cnt (first : Int) (ns : List Int) : ∀ k, k ∉ tsI → cnt (bsI first ns) k ≤ 1 := fun k hk => by
  have h0 : (bs0 first ns).count k = 0 := List.count_eq_zero.mpr fun q => hk (bs0_ts first ns k q)
  have h1 : (freshI first (bs0 first ns).length).count k ≤ 1 := List.nodup_iff_count.mp (fresh_nd _ _) k
  rw [cnt_count]
  unfold bsI
  split <;> rw [List.count_append] <;> (first | lia | omega)
end
section
open PySem PySem.W PyProof.Rows PySem.Calls
set_option maxRecDepth 100000
set_option maxHeartbeats 1000000

theorem leq_nil : ∀ js : List IS, LEq (js.map IS.v) [] (decide (js = []))
  | [] => .inl ⟨[], rfl, rfl, rfl⟩
  | _ :: _ => .inr ⟨(fun h => nomatch h), decide_eq_false (fun h => nomatch h)⟩
theorem asgl_nil {c : Ctx} {m : Lo} {H : Hp} {Q : Lo → Hp → Prop} (h : Q m H) : AsgL c [] [] m H Q := h
theorem Upd.app {a : Addr} {o o' : O} {r r' : Hp} : ∀ (l : Hp), Upd a o o' r r' → Upd a o o' (l ++ r) (l ++ r')
  | [], h => h
  | p :: l, h => .tail (Upd.app l h)
noncomputable def lsJ1 (c : Ctx) (n : Nat) (first : Int) (as bs js tsI : List IS) (R : Hp) (ra rb rt rj cpl cof cj cno cb con cm cju : Addr) (m1 : Lo) (H1 : Hp) : Prop := ∃ (J : At) (W U : Hp) (ps : Array Value), Less m1 H1 [("test", .at J), ("a", .ref ra), ("things", .ref rt), ("first", .int first)] (U ++ ((rb, .list (bs.map IS.v)) :: (ra, .list (as.map IS.v)) :: (rt, .list (tsI.map IS.v)) :: (cpl, .cell .none) :: (cof, .cell .none) :: (cj, .cell .none) :: (cno, .cell .none) :: (cb, .cell (some (.ref rb))) :: (con, .cell .none) :: (cm, .cell .none) :: (cju, .cell (some (.ref rj))) :: (258, .obj (tabObj ps)) :: R)) ∧
    (V.at J).notBi = true ∧ isAt J J = some true ∧ JunkIn c (n + 1) (.at J) (fun x => decide (x ∈ js)) W ∧ ∀ q ∈ W, q ∈ U ++ [(cju, .cell (some (.ref rj))), (rj, .list (js.map IS.v))]
noncomputable def lsJ2 (J : At) (on : Bool) (as bs js tsI : List IS) (U R : Hp) (ra rb rt rj cpl cof cj cno cb con cm cju : Addr) (m1 : Lo) (H1 : Hp) : Prop := ∃ x d D S S2 z1 z2 ep G, gP G = grp bs ∧ Less m1 H1 [("test", .at J), ("a", .ref ra), ("things", .ref rt)] ((S2, .set z2 (((G.filter fun e => !decide (e.1 ∈ js)).filter (chPop bs.length on)).map (·.1))) :: (S, .set z1 ((G.map (·.1)).filter fun k => decide (k ∈ js))) :: (D, .dict ep (gD ((G.filter fun e => !decide (e.1 ∈ js)).filter fun e => !chPop bs.length on e))) :: (x, .inst 242 d) :: (d, .ns (fsB (.at J) on ra rb D S S2)) :: (gL G ++ (U ++ ((rb, .list (bs.map IS.v)) :: (ra, .list (as.map IS.v)) :: (rt, .list (tsI.map IS.v)) :: (cpl, .cell .none) :: (cof, .cell .none) :: (cj, .cell .none) :: (cno, .cell .none) :: (cb, .cell (some (.ref rb))) :: (con, .cell (some (.bool on))) :: (cm, .cell (some (.ref x))) :: (cju, .cell (some (.ref rj))) :: R))))
theorem law_s (p : Params) (c : Ctx) {n : Nat} (hfu : c.fuel = n + 1 + 1 + 1 + 1 + 1 + 1) (B : Base c (K08 p)) {mg : Str → Option Value} (LB : LamBase c mg 260 258) (hs : c.env.scope = (fdIn (K08 p) 261).scope) {cb con cm cpl cof cj cno cju : Addr}
    (hcs : c.env.cells = [(("junk" : Str), cju), ("now", cno), ("j", cj), ("often", cof), ("plain", cpl), ("m", cm), ("on", con), ("b", cb)]) {script : List Int} {rs : Addr} (hlen : script.length ≤ 63) (hS : ∀ H, Sees c H rs (.list (script.map .int)))
    : WPs c (bodyIn (fdIn (K08 p) 261)) [("script", .ref rs)] ((cpl, .cell .none) :: (cof, .cell .none) :: (cj, .cell .none) :: (cno, .cell .none) :: (cb, .cell .none) :: (con, .cell .none) :: (cm, .cell .none) :: (cju, .cell .none) :: (258, .obj (tabObj #[])) :: [])
      fun f _ H' => f = .ret (.bool true) ∧ ∃ ps, (258, O.obj (tabObj ps)) ∈ H' := by
  have hn := congrArg Scope.names hs
  conv at hn => rhs; whnf
  have hC := cls08 p
  have hsz : sizeLine = 16777216 := rfl
  have gl : Glob c "len" (.bi "len") := B.bi (kind_of hn (by decide +kernel)) (by kernel_rfl) (by kernel_rfl) (by decide) rfl
  have gll : Glob c "_law_lists" (.ref 251) := B.glob (kind_of hn (by decide +kernel)) (by kernel_rfl) rfl
  have gsm : Glob c "SequenceMatcher" (.ref 242) := B.glob (kind_of hn (by decide +kernel)) (by kernel_rfl) rfl
  refine s_cons (s1_assign ?_)
  with_reducible refine e_sub ?_
  with_reducible refine e_binop ?_
  refine e_loc (by with_reducible assumption) (by decide +kernel) (Loc.head _) ?_
  with_reducible refine e_list ?_
  refine items_cons ?_
  with_reducible refine e_int ?_
  with_reducible refine items_nil ?_
  refine ⟨by exact Nat.le_of_ble_eq_true rfl, ?_⟩
  intro y1
  refine o_cat (hS _) (Sees.mem List.mem_cons_self) ?_ (by simp; (exact ar2 2 (.l (.v 0) (.n 63)) (.e (.v 1) (.n 16777216)) (.l (.a (.v 0) (.n 1)) (.v 1)) (by kernel_rfl) [_, _] hlen hsz))
  intro y2
  with_reducible refine e_int ?_
  refine sub_list (u := .int (fstOf script)) (xs := script.map .int ++ [.int 47]) (Sees.mem List.mem_cons_self) (by decide) ?_ ?_ (hl := by simp; (exact ar2 2 (.l (.v 0) (.n 63)) (.e (.v 1) (.n 16777216)) (.l (.a (.v 0) (.n 1)) (.v 1)) (by kernel_rfl) [_, _] hlen hsz))
  · unfold fstOf; cases script <;> rfl
  refine sto_local (kind_of (by with_reducible assumption) (by decide +kernel)) ?_
  ((with_reducible refine s_cons ?_); refine s1_assign ?_)
  with_reducible refine e_list ?_
  refine items_cons ?_
  with_reducible refine e_int ?_
  refine items_cons ?_
  with_reducible refine e_str ?_
  refine items_cons ?_
  with_reducible refine e_str ?_
  refine items_cons ?_
  with_reducible refine e_unary ?_
  with_reducible refine e_int ?_
  with_reducible refine u_neg ?_
  refine items_cons ?_
  with_reducible refine e_unary ?_
  with_reducible refine e_int ?_
  with_reducible refine u_neg ?_
  refine items_cons ?_
  with_reducible refine e_binop ?_
  with_reducible refine e_binop ?_
  with_reducible refine e_int ?_
  with_reducible refine e_int ?_
  refine o_pow ?_
  with_reducible refine e_int ?_
  with_reducible refine o_sub ?_
  with_reducible refine items_nil ?_
  refine ⟨by exact Nat.le_of_ble_eq_true rfl, ?_⟩
  intro rt
  rw [show [V.int 0, V.str (Str.ofString "0"), V.str (Str.ofString ""), V.int (-1), V.int (-2), V.int (2 ^ Int.toNat 61 - 1)] = tsI.map IS.v by kernel_rfl]
  refine sto_local (kind_of (by with_reducible assumption) (by decide +kernel)) ?_
  refine WPs.less (m' := [("things", .ref rt), ("first", .int (fstOf script)), ("script", .ref rs)]) (H' := (rt, .list (tsI.map IS.v)) :: (cpl, .cell .none) :: (cof, .cell .none) :: (cj, .cell .none) :: (cno, .cell .none) :: (cb, .cell .none) :: (con, .cell .none) :: (cm, .cell .none) :: (cju, .cell .none) :: (258, .obj (tabObj #[])) :: []) (less_of (LessM.cons (Loc.head _) (LessM.cons (Loc.tail (by decide) (Loc.head _)) (LessM.cons (Loc.tail (by decide) (Loc.tail (by decide) (Loc.head _))) LessM.nil))) (List.Sublist.cons_cons _ (List.Sublist.cons _ (List.Sublist.cons _ (List.Sublist.refl _))))) ?_
  generalize fstOf script = first
  refine s_cons (s1_assign (e_binop (e_slice ?_)))
  refine e_loc (by with_reducible assumption) (by decide +kernel) (Loc.tail (by decide) (Loc.tail (by decide) (Loc.head _))) ?_
  show WPe _ _ _ _ _
  with_reducible refine e_int ?_
  refine ⟨1, rfl, rs, script.map .int, rfl, hS _, by simp; (exact ar1 1 (.l (.v 0) (.n 63)) (.l (.v 0) (.n 1000000)) (by kernel_rfl) [_] hlen), ?_⟩
  intro y3
  have ep : pick (script.map V.int) (some 1) none none = (script.drop 1).map V.int := by rw [List.map_drop]; exact pick_from _ 1
  rw [ep]
  with_reducible refine e_list ?_
  refine items_cons ?_
  refine e_call ?_
  refine e_glob (by with_reducible assumption) ?_
  refine items_cons ?_
  refine e_loc (by with_reducible assumption) (by decide +kernel) (Loc.tail (by decide) (Loc.tail (by decide) (Loc.head _))) ?_
  with_reducible refine items_nil ?_
  refine ⟨keep_bi, k_len (hS _) ?_ (by simp; (exact ar1 1 (.l (.v 0) (.n 63)) (.l (.v 0) (.n 1000000)) (by kernel_rfl) [_] hlen))⟩
  refine items_cons ?_
  with_reducible refine e_int ?_
  refine items_cons ?_
  with_reducible refine e_int ?_
  refine items_cons ?_
  with_reducible refine e_int ?_
  refine items_cons ?_
  with_reducible refine e_int ?_
  refine items_cons ?_
  with_reducible refine e_int ?_
  refine items_cons ?_
  with_reducible refine e_int ?_
  refine items_cons ?_
  with_reducible refine e_int ?_
  refine items_cons ?_
  with_reducible refine e_int ?_
  refine items_cons ?_
  with_reducible refine e_int ?_
  refine items_cons ?_
  with_reducible refine e_int ?_
  with_reducible refine items_nil ?_
  refine ⟨by exact Nat.le_of_ble_eq_true rfl, ?_⟩
  intro y4
  refine o_cat (xs := (script.drop 1).map V.int) (Sees.mem (List.mem_cons_of_mem _ List.mem_cons_self)) (Sees.mem List.mem_cons_self) ?_ (by simp; (exact ar2 2 (.l (.v 0) (.n 63)) (.e (.v 1) (.n 16777216)) (.l (.a (.s (.v 0) (.n 1)) (.n 11)) (.v 1)) (by kernel_rfl) [_, _] hlen hsz))
  intro rn
  have en : (script.drop 1).map V.int ++ [V.int ((script.map V.int).length : Int), V.int 11, V.int 2, V.int 13, V.int 40, V.int 8, V.int 12, V.int 5, V.int 10, V.int 6, V.int 14] = (nsOf script).map V.int := by
    unfold nsOf; rw [List.map_append, List.length_map]; rfl
  rw [en]
  have hnl : (nsOf script).length ≤ 100 := by unfold nsOf; simp; (exact ar1 1 (.l (.v 0) (.n 63)) (.l (.v 0) (.n 90)) (by kernel_rfl) [_] hlen)
  generalize nsOf script = ns at *
  refine sto_local (kind_of (by with_reducible assumption) (by decide +kernel)) ?_
  refine WPs.less (m' := [("numbers", .ref rn), ("things", .ref rt), ("first", .int first)]) (H' := (rn, .list (ns.map V.int)) :: (rt, .list (tsI.map IS.v)) :: (cpl, .cell .none) :: (cof, .cell .none) :: (cj, .cell .none) :: (cno, .cell .none) :: (cb, .cell .none) :: (con, .cell .none) :: (cm, .cell .none) :: (cju, .cell .none) :: (258, .obj (tabObj #[])) :: []) (less_of (LessM.cons (Loc.head _) (LessM.cons (Loc.tail (by decide) (Loc.head _)) (LessM.cons (Loc.tail (by decide) (Loc.tail (by decide) (Loc.head _))) LessM.nil))) (List.Sublist.cons_cons _ (List.Sublist.cons _ (List.Sublist.cons _ (List.Sublist.refl _))))) ?_
  refine s_cons (s1_unpack ?_)
  refine e_call ?_
  refine e_glob (by with_reducible assumption) ?_
  refine items_cons ?_
  refine e_loc (by with_reducible assumption) (by decide +kernel) (Loc.tail (by decide) (Loc.tail (by decide) (Loc.head _))) ?_
  refine items_cons ?_
  refine e_loc (by with_reducible assumption) (by decide +kernel) (Loc.head _) ?_
  refine items_cons ?_
  refine e_loc (by with_reducible assumption) (by decide +kernel) (Loc.tail (by decide) (Loc.head _)) ?_
  with_reducible refine items_nil ?_
  refine ⟨keep_K B (by kernel_rfl), CalC.cal (lists_cal p hfu B (first := first) (ns := ns) (ts := tsI.map IS.v) (by simp [tsI]) hnl List.mem_cons_self (List.mem_cons_of_mem _ List.mem_cons_self) ?_)⟩
  intro ra rb
  rw [llA_eq, llFull_eq]
  have haz := asI_len first ns hnl
  have hbz := bsI_len first ns hnl
  refine asg_tuple ?_
  refine asg_name ?_
  refine sto_local (kind_of (by with_reducible assumption) (by decide +kernel)) ?_
  refine asg_name ?_
  refine sto_cel (by with_reducible assumption) (by with_reducible assumption) (by decide +kernel) (CLoc.tail (by decide) (CLoc.tail (by decide) (CLoc.tail (by decide) (CLoc.tail (by decide) (CLoc.tail (by decide) (CLoc.tail (by decide) (CLoc.tail (by decide) (CLoc.head _)))))))) (Upd.tail (Upd.tail (Upd.tail (Upd.tail (Upd.tail (Upd.tail (Upd.tail (Upd.tail (Upd.head _))))))))) ?_
  have hat := asI_ts first ns
  have hbc := bsI_cnt first ns
  generalize asI first ns = as at *
  generalize bsI first ns = bs at *
  refine asgl_nil ?_
  show WPs c _ _ _ _
  with_reducible refine WPs.less (m' := [("a", .ref ra), ("things", .ref rt), ("first", .int first)]) (H' := (rb, .list (bs.map IS.v)) :: (ra, .list (as.map IS.v)) :: (rt, .list (tsI.map IS.v)) :: (cpl, .cell .none) :: (cof, .cell .none) :: (cj, .cell .none) :: (cno, .cell .none) :: (cb, .cell (some (.ref rb))) :: (con, .cell .none) :: (cm, .cell .none) :: (cju, .cell .none) :: (258, .obj (tabObj #[])) :: []) (less_of (LessM.cons (Loc.head _) (LessM.cons (Loc.tail (by decide) (Loc.tail (by decide) (Loc.head _))) (LessM.cons (Loc.tail (by decide) (Loc.tail (by decide) (Loc.tail (by decide) (Loc.head _)))) LessM.nil))) (List.Sublist.cons_cons _ (List.Sublist.cons_cons _ (List.Sublist.cons _ (List.Sublist.refl _))))) ?_
  ((with_reducible refine s_cons ?_); refine s1_assign ?_)
  with_reducible refine e_sub ?_
  with_reducible refine e_list ?_
  refine items_cons ?_
  with_reducible refine e_list ?_
  with_reducible refine items_nil ?_
  refine ⟨by exact Nat.le_of_ble_eq_true rfl, ?_⟩
  intro r0
  refine items_cons ?_
  with_reducible refine e_list ?_
  refine items_cons ?_
  with_reducible refine e_int ?_
  with_reducible refine items_nil ?_
  refine ⟨by exact Nat.le_of_ble_eq_true rfl, ?_⟩
  intro r1
  refine items_cons ?_
  with_reducible refine e_list ?_
  refine items_cons ?_
  with_reducible refine e_str ?_
  with_reducible refine items_nil ?_
  refine ⟨by exact Nat.le_of_ble_eq_true rfl, ?_⟩
  intro r2
  refine items_cons ?_
  with_reducible refine e_list ?_
  refine items_cons ?_
  with_reducible refine e_int ?_
  refine items_cons ?_
  with_reducible refine e_str ?_
  with_reducible refine items_nil ?_
  refine ⟨by exact Nat.le_of_ble_eq_true rfl, ?_⟩
  intro r3
  refine items_cons ?_
  with_reducible refine e_list ?_
  refine items_cons ?_
  with_reducible refine e_str ?_
  refine items_cons ?_
  with_reducible refine e_unary ?_
  with_reducible refine e_int ?_
  with_reducible refine u_neg ?_
  with_reducible refine items_nil ?_
  refine ⟨by exact Nat.le_of_ble_eq_true rfl, ?_⟩
  intro r4
  with_reducible refine items_nil ?_
  refine ⟨by exact Nat.le_of_ble_eq_true rfl, ?_⟩
  intro r5
  with_reducible refine e_binop ?_
  with_reducible refine e_binop ?_
  refine e_loc (by with_reducible assumption) (by decide +kernel) (Loc.tail (by decide) (Loc.tail (by decide) (Loc.head _))) ?_
  with_reducible refine e_int ?_
  refine o_div ?_
  with_reducible refine e_int ?_
  refine o_mod ?_
  have f1 := Int.fmod_nonneg_of_pos (first.fdiv 40) (b := 5) (by decide)
  have f2 := Int.fmod_lt_of_pos (first.fdiv 40) (b := 5) (by decide)
  obtain ⟨rj, js, hrj, hjm, hjz, hjn, hjt⟩ : ∃ (rj : Addr) (js : List IS), [V.ref r0, V.ref r1, V.ref r2, V.ref r3, V.ref r4][((first.fdiv 40).fmod 5).toNat]? = some (.ref rj) ∧
      (rj, O.list (js.map IS.v)) ∈ [(r4, O.list [V.str (Str.ofString "0"), V.int (-1)]), (r3, O.list [V.int 0, V.str (Str.ofString "")]), (r2, O.list [V.str (Str.ofString "0")]), (r1, O.list [V.int 0]), (r0, O.list [])] ∧ js.length ≤ 10 ∧ js.Nodup ∧ ∀ k ∈ js, k ∈ tsI := by
    have hi : ((first.fdiv 40).fmod 5).toNat < 5 := by (first | lia | omega)
    generalize ((first.fdiv 40).fmod 5).toNat = i at *
    match i, hi with
    | 0, _ => exact ⟨r0, [], rfl, by simp, by decide, by decide, by decide⟩
    | 1, _ => exact ⟨r1, [.i 0], rfl, by simp [IS.v], by decide, by decide, by decide⟩
    | 2, _ => exact ⟨r2, [.s "0"], rfl, by simp [IS.v], by decide, by decide, by decide⟩
    | 3, _ => exact ⟨r3, [.i 0, .s ""], rfl, by simp [IS.v], by decide, by decide, by decide⟩
    | 4, _ => exact ⟨r4, [.s "0", .i (-1)], rfl, by simp [IS.v], by decide, by decide, by decide⟩
  refine sub_list (u := .ref rj) (xs := [V.ref r0, V.ref r1, V.ref r2, V.ref r3, V.ref r4]) (Sees.mem List.mem_cons_self) f1 hrj ?_
  refine sto_cel (by with_reducible assumption) (by with_reducible assumption) (by decide +kernel) (CLoc.head _) (Upd.tail (Upd.tail (Upd.tail (Upd.tail (Upd.tail (Upd.tail (Upd.tail (Upd.tail (Upd.tail (Upd.tail (Upd.tail (Upd.tail (Upd.tail (Upd.tail (Upd.tail (Upd.tail (Upd.head _))))))))))))))))) ?_
  show WPs c _ _ _ _
  generalize hR : [(r4, O.list [V.str (Str.ofString "0"), V.int (-1)]), (r3, O.list [V.int 0, V.str (Str.ofString "")]), (r2, O.list [V.str (Str.ofString "0")]), (r1, O.list [V.int 0]), (r0, O.list [])] = R at hjm
  with_reducible refine WPs.less (m' := [("a", .ref ra), ("things", .ref rt), ("first", .int first)]) (H' := R ++ ((rb, .list (bs.map IS.v)) :: (ra, .list (as.map IS.v)) :: (rt, .list (tsI.map IS.v)) :: (cpl, .cell .none) :: (cof, .cell .none) :: (cj, .cell .none) :: (cno, .cell .none) :: (cb, .cell (some (.ref rb))) :: (con, .cell .none) :: (cm, .cell .none) :: (cju, .cell (some (.ref rj))) :: (258, .obj (tabObj #[])) :: [])) (by rw [← hR]; exact less_of (LessM.cons (Loc.head _) (LessM.cons (Loc.tail (by decide) (Loc.head _)) (LessM.cons (Loc.tail (by decide) (Loc.tail (by decide) (Loc.head _))) LessM.nil))) (List.Sublist.cons _ (List.Sublist.refl _))) ?_
  clear hR
  with_reducible refine WPs.less (m' := [("a", .ref ra), ("things", .ref rt), ("first", .int first)]) (H' := ((rb, .list (bs.map IS.v)) :: (ra, .list (as.map IS.v)) :: (rt, .list (tsI.map IS.v)) :: (cpl, .cell .none) :: (cof, .cell .none) :: (cj, .cell .none) :: (cno, .cell .none) :: (cb, .cell (some (.ref rb))) :: (con, .cell .none) :: (cm, .cell .none) :: (cju, .cell (some (.ref rj))) :: (258, .obj (tabObj #[])) :: R)) (less_perm (LessM.cons (Loc.head _) (LessM.cons (Loc.tail (by decide) (Loc.head _)) (LessM.cons (Loc.tail (by decide) (Loc.tail (by decide) (Loc.head _))) LessM.nil))) (List.perm_append_comm (l₁ := _ :: _ :: _ :: _ :: _ :: _ :: _ :: _ :: _ :: _ :: _ :: _ :: []))) ?_
  refine s_join (lsJ1 c n first as bs js tsI R ra rb rt rj cpl cof cj cno cb con cm cju) (s1_assign (e_ifexp ?_)) ?_
  · refine t_cmp ?_ (by with_unfolding_all rfl)
    refine e_cel (by with_reducible assumption) (by with_reducible assumption) (by decide +kernel) (CLoc.head _) (Sees.mem (List.mem_cons_of_mem _ (List.mem_cons_of_mem _ (List.mem_cons_of_mem _ (List.mem_cons_of_mem _ (List.mem_cons_of_mem _ (List.mem_cons_of_mem _ (List.mem_cons_of_mem _ (List.mem_cons_of_mem _ (List.mem_cons_of_mem _ (List.mem_cons_of_mem _ List.mem_cons_self))))))))))) ?_
    with_reducible refine e_list ?_
    with_reducible refine items_nil ?_
    refine ⟨by exact Nat.le_of_ble_eq_true rfl, ?_⟩
    intro y6
    refine c_neL (xs := js.map IS.v) (ys := []) (Sees.mem (List.mem_cons_of_mem _ (List.mem_cons_of_mem _ (List.mem_cons_of_mem _ (List.mem_cons_of_mem _ (List.mem_cons_of_mem _ (List.mem_cons_of_mem _ (List.mem_cons_of_mem _ (List.mem_cons_of_mem _ (List.mem_cons_of_mem _ (List.mem_cons_of_mem _ (List.mem_cons_of_mem _ (List.mem_cons_of_mem _ (List.mem_cons_of_mem _ (by with_reducible assumption))))))))))))))) (Sees.mem List.mem_cons_self) (leq_nil js) ?_
    refine tru_bool ?_
    refine if_b (fun h1 => ?_) (fun h1 => ?_)
    · refine e_lambda (ps := #[]) (F := ?FL) (clos := [("junk", cju)]) LB rfl ?hcloL ?spL trivial rfl ?_
      case hcloL => exact clo_eq hcs (by (refine (Clo.skip (by decide) (Clo.take (CLoc.head _) ?_)); exact Clo.nil _))
      case spL => exact (Spot.tail (Spot.tail (Spot.tail (Spot.tail (Spot.tail (Spot.tail (Spot.tail (Spot.tail (Spot.tail (Spot.tail (Spot.tail (Spot.tail (Spot.head _)))))))))))))
      intro f c' oc ctv vs t ps' hoc hq
      refine sto_local (kind_of (by with_reducible assumption) (by decide +kernel)) ?_
      refine ⟨.ref f, (f, .obj (lamO (c.env.qual ++ "<lambda>") ((mg "__name__").getD .none) cju c' ctv)) :: (c', .obj oc) :: (cju, .cell (some (.ref rj))) :: (rj, .list (js.map IS.v)) :: [], (f, .obj (lamO (c.env.qual ++ "<lambda>") ((mg "__name__").getD .none) cju c' ctv)) :: (c', .obj oc) :: [], ps', ?_, rfl, by simp [isAt], lam_junk B.lim rfl rfl rfl rfl hoc hq (.head _) (.tail _ (.head _)) (.tail _ (.tail _ (.head _))) (.tail _ (.tail _ (.tail _ (.head _)))), fun q hq => hq⟩
      show Less _ _ _ ((f, .obj (lamO (c.env.qual ++ "<lambda>") ((mg "__name__").getD .none) cju c' ctv)) :: (c', .obj oc) :: (rb, _) :: _)
      exact (less_of (LessM.cons (Loc.head _) (LessM.cons (Loc.tail (by decide) (Loc.head _)) (LessM.cons (Loc.tail (by decide) (Loc.tail (by decide) (Loc.head _))) (LessM.cons (Loc.tail (by decide) (Loc.tail (by decide) (Loc.tail (by decide) (Loc.head _)))) LessM.nil)))) (List.Sublist.cons_cons _ (List.Sublist.cons_cons _ (List.Sublist.cons _ (List.Sublist.refl _)))))
    · show WPe _ _ _ _ _
      with_reducible refine e_none ?_
      refine sto_local (kind_of (by with_reducible assumption) (by decide +kernel)) ?_
      have hj0 : js = [] := by simpa using h1
      refine ⟨.none, [], [], #[], ?_, rfl, rfl, fun c2 _ _ _ _ => .inl ⟨rfl, fun k => by rw [hj0]; rfl⟩, fun q hq => nomatch hq⟩
      rw [List.nil_append]
      exact (less_of (LessM.cons (Loc.head _) (LessM.cons (Loc.tail (by decide) (Loc.head _)) (LessM.cons (Loc.tail (by decide) (Loc.tail (by decide) (Loc.head _))) (LessM.cons (Loc.tail (by decide) (Loc.tail (by decide) (Loc.tail (by decide) (Loc.head _)))) LessM.nil)))) (List.Sublist.cons _ (List.Sublist.refl _)))
  · rintro m1 H1 ⟨J, W, U, ps, hl, hJb, hJJ, hJ, hW⟩
    refine WPs.less hl ?_
    have hp258 := (List.perm_middle (a := (258, O.obj (tabObj ps))) (l₁ := U ++ [(rb, O.list (bs.map IS.v)), (ra, O.list (as.map IS.v)), (rt, O.list (tsI.map IS.v)), (cpl, O.cell .none), (cof, O.cell .none), (cj, O.cell .none), (cno, O.cell .none), (cb, O.cell (some (.ref rb))), (con, O.cell .none), (cm, O.cell .none), (cju, O.cell (some (.ref rj)))]) (l₂ := R)).symm
    rw [List.append_assoc, List.append_assoc] at hp258
    refine WPs.less (Less.perm hp258) ?_
    refine WPs.mono (WPs.frameObj (Q := fun f _ _ => f = .ret (.bool true)) ?_) (fun f m' H' q => ⟨q.choose_spec.2, ps, q.choose_spec.1 ▸ List.mem_cons_self⟩)
    show WPs c _ _ (U ++ ((rb, .list (bs.map IS.v)) :: (ra, .list (as.map IS.v)) :: (rt, .list (tsI.map IS.v)) :: (cpl, .cell .none) :: (cof, .cell .none) :: (cj, .cell .none) :: (cno, .cell .none) :: (cb, .cell (some (.ref rb))) :: (con, .cell .none) :: (cm, .cell .none) :: (cju, .cell (some (.ref rj))) :: R)) _
    refine s_cons (s1_assign ?_)
    refine e_cmp ?_ (by with_unfolding_all rfl)
    with_reducible refine e_binop ?_
    with_reducible refine e_binop ?_
    refine e_loc (by with_reducible assumption) (by decide +kernel) (Loc.tail (by decide) (Loc.tail (by decide) (Loc.tail (by decide) (Loc.head _)))) ?_
    with_reducible refine e_int ?_
    refine o_div ?_
    with_reducible refine e_int ?_
    refine o_mod ?_
    with_reducible refine e_int ?_
    with_reducible refine c_eq ?_
    refine sto_cel (by with_reducible assumption) (by with_reducible assumption) (by decide +kernel) (CLoc.tail (by decide) (CLoc.tail (by decide) (CLoc.tail (by decide) (CLoc.tail (by decide) (CLoc.tail (by decide) (CLoc.tail (by decide) (CLoc.head _))))))) (Upd.app _ (Upd.tail (Upd.tail (Upd.tail (Upd.tail (Upd.tail (Upd.tail (Upd.tail (Upd.tail (Upd.head _)))))))))) ?_
    show WPs c _ _ _ _
    generalize hon : ((first.fdiv 200).fmod 2 == 0) = on
    refine s_join (lsJ2 J on as bs js tsI U R ra rb rt rj cpl cof cj cno cb con cm cju) (s1_if ?_) ?_
    · refine t_value ?_ (by intro _; rfl)
      refine e_cel (by with_reducible assumption) (by with_reducible assumption) (by decide +kernel) (CLoc.tail (by decide) (CLoc.tail (by decide) (CLoc.tail (by decide) (CLoc.tail (by decide) (CLoc.tail (by decide) (CLoc.tail (by decide) (CLoc.head _))))))) (Sees.mem (List.mem_append_right _ (List.mem_cons_of_mem _ (List.mem_cons_of_mem _ (List.mem_cons_of_mem _ (List.mem_cons_of_mem _ (List.mem_cons_of_mem _ (List.mem_cons_of_mem _ (List.mem_cons_of_mem _ (List.mem_cons_of_mem _ List.mem_cons_self)))))))))) ?_
      with_reducible refine tru_bool ?_
      have hW2 : ∀ q ∈ W, q ∈ U ++ ((rb, .list (bs.map IS.v)) :: (ra, .list (as.map IS.v)) :: (rt, .list (tsI.map IS.v)) :: (cpl, .cell .none) :: (cof, .cell .none) :: (cj, .cell .none) :: (cno, .cell .none) :: (cb, .cell (some (.ref rb))) :: (con, .cell (some (.bool on))) :: (cm, .cell .none) :: (cju, .cell (some (.ref rj))) :: R) := fun q hq => by
        rcases List.mem_append.mp (hW q hq) with h | h
        · exact List.mem_append_left _ h
        · refine List.mem_append_right _ ?_
          rcases List.mem_cons.mp h with rfl | h
          · exact .tail _ (.tail _ (.tail _ (.tail _ (.tail _ (.tail _ (.tail _ (.tail _ (.tail _ (.tail _ (.head _))))))))))
          · rcases List.mem_cons.mp h with rfl | h
            · exact .tail _ (.tail _ (.tail _ (.tail _ (.tail _ (.tail _ (.tail _ (.tail _ (.tail _ (.tail _ (.tail _ hjm))))))))))
            · cases h
      refine if_b (fun h1 => ?_) (fun h1 => ?_)
      · subst h1
        refine s_cons (s1_assign ?_)
        refine e_call ?_
        refine e_glob (by with_reducible assumption) ?_
        refine items_cons ?_
        refine e_loc (by with_reducible assumption) (by decide +kernel) (Loc.head _) ?_
        refine items_cons ?_
        refine e_loc (by with_reducible assumption) (by decide +kernel) (Loc.tail (by decide) (Loc.head _)) ?_
        refine items_cons ?_
        refine e_cel (by with_reducible assumption) (by with_reducible assumption) (by decide +kernel) (CLoc.tail (by decide) (CLoc.tail (by decide) (CLoc.tail (by decide) (CLoc.tail (by decide) (CLoc.tail (by decide) (CLoc.tail (by decide) (CLoc.tail (by decide) (CLoc.head _)))))))) (Sees.mem (List.mem_append_right _ (List.mem_cons_of_mem _ (List.mem_cons_of_mem _ (List.mem_cons_of_mem _ (List.mem_cons_of_mem _ (List.mem_cons_of_mem _ (List.mem_cons_of_mem _ (List.mem_cons_of_mem _ List.mem_cons_self))))))))) ?_
        with_reducible refine items_nil ?_
        refine ⟨keep_K B (by kernel_rfl), CalC.cal (class_cal p hfu B (more := []) (on := true) (.inr ⟨rfl, rfl⟩) hJb hJ hW2 (List.mem_append_right _ List.mem_cons_self) hbz ?_)⟩
        intro x d D S S2 z1 z2 ep G hG
        refine sto_cel (by with_reducible assumption) (by with_reducible assumption) (by decide +kernel) (CLoc.tail (by decide) (CLoc.tail (by decide) (CLoc.tail (by decide) (CLoc.tail (by decide) (CLoc.tail (by decide) (CLoc.head _)))))) (Upd.tail (Upd.tail (Upd.tail (Upd.tail (Upd.tail (Upd.app _ (Upd.app _ (Upd.tail (Upd.tail (Upd.tail (Upd.tail (Upd.tail (Upd.tail (Upd.tail (Upd.tail (Upd.tail (Upd.head _))))))))))))))))) ?_
        refine s_nil ⟨x, d, D, S, S2, z1, z2, ep, G, hG, ?_⟩
        exact (less_of (LessM.cons (Loc.head _) (LessM.cons (Loc.tail (by decide) (Loc.head _)) (LessM.cons (Loc.tail (by decide) (Loc.tail (by decide) (Loc.head _))) LessM.nil))) (List.Sublist.refl _))
      · subst h1
        refine s_cons (s1_assign ?_)
        refine e_call ?_
        refine e_glob (by with_reducible assumption) ?_
        refine items_cons ?_
        refine e_loc (by with_reducible assumption) (by decide +kernel) (Loc.head _) ?_
        refine items_cons ?_
        refine e_loc (by with_reducible assumption) (by decide +kernel) (Loc.tail (by decide) (Loc.head _)) ?_
        refine items_cons ?_
        refine e_cel (by with_reducible assumption) (by with_reducible assumption) (by decide +kernel) (CLoc.tail (by decide) (CLoc.tail (by decide) (CLoc.tail (by decide) (CLoc.tail (by decide) (CLoc.tail (by decide) (CLoc.tail (by decide) (CLoc.tail (by decide) (CLoc.head _)))))))) (Sees.mem (List.mem_append_right _ (List.mem_cons_of_mem _ (List.mem_cons_of_mem _ (List.mem_cons_of_mem _ (List.mem_cons_of_mem _ (List.mem_cons_of_mem _ (List.mem_cons_of_mem _ (List.mem_cons_of_mem _ List.mem_cons_self))))))))) ?_
        refine items_cons ?_
        with_reducible refine e_bool ?_
        with_reducible refine items_nil ?_
        refine ⟨keep_K B (by kernel_rfl), CalC.cal (class_cal p hfu B (more := [.bool false]) (on := false) (.inl rfl) hJb hJ hW2 (List.mem_append_right _ List.mem_cons_self) hbz ?_)⟩
        intro x d D S S2 z1 z2 ep G hG
        refine sto_cel (by with_reducible assumption) (by with_reducible assumption) (by decide +kernel) (CLoc.tail (by decide) (CLoc.tail (by decide) (CLoc.tail (by decide) (CLoc.tail (by decide) (CLoc.tail (by decide) (CLoc.head _)))))) (Upd.tail (Upd.tail (Upd.tail (Upd.tail (Upd.tail (Upd.app _ (Upd.app _ (Upd.tail (Upd.tail (Upd.tail (Upd.tail (Upd.tail (Upd.tail (Upd.tail (Upd.tail (Upd.tail (Upd.head _))))))))))))))))) ?_
        refine s_nil ⟨x, d, D, S, S2, z1, z2, ep, G, hG, ?_⟩
        exact (less_of (LessM.cons (Loc.head _) (LessM.cons (Loc.tail (by decide) (Loc.head _)) (LessM.cons (Loc.tail (by decide) (Loc.tail (by decide) (Loc.head _))) LessM.nil))) (List.Sublist.refl _))
    · rintro m1 H1 ⟨x, d, D, S, S2, z1, z2, ep, G, hG, hl2⟩
      refine WPs.less hl2 ?_
      have gi : IsGrp bs bs.length (gP G) := by rw [hG]; exact isGrp bs
      have hGz : G.length ≤ 1000 := by have := grpTo_len bs bs.length; rw [show grpTo bs bs.length = gP G from hG.symm, gP_len] at this; (exact ar2 2 (.l (.v 0) (.n 1000)) (.l (.v 1) (.v 0)) (.l (.v 1) (.n 1000)) (by kernel_rfl) [_, _] hbz this)
      have hperm := List.perm_append_comm_assoc [(cpl, O.cell .none), (cof, O.cell .none), (cj, O.cell .none), (cno, O.cell .none)] ((S2, O.set z2 (((G.filter fun e => !decide (e.1 ∈ js)).filter (chPop bs.length on)).map (·.1))) :: (S, O.set z1 ((G.map (·.1)).filter fun k => decide (k ∈ js))) :: (D, O.dict ep (gD (g2 G bs js on))) :: (x, O.inst 242 d) :: (d, O.ns (fsB (.at J) on ra rb D S S2)) :: (gL G ++ (U ++ [(rb, O.list (bs.map IS.v)), (ra, O.list (as.map IS.v)), (rt, O.list (tsI.map IS.v))]))) ((cb, O.cell (some (.ref rb))) :: (con, O.cell (some (.bool on))) :: (cm, O.cell (some (.ref x))) :: (cju, O.cell (some (.ref rj))) :: R)
      with_reducible refine WPs.less (m' := [("test", .at J), ("a", .ref ra), ("things", .ref rt)]) (H' := (cpl, .cell .none) :: (cof, .cell .none) :: (cj, .cell .none) :: (cno, .cell .none) :: (((S2, O.set z2 (((G.filter fun e => !decide (e.1 ∈ js)).filter (chPop bs.length on)).map (·.1))) :: (S, O.set z1 ((G.map (·.1)).filter fun k => decide (k ∈ js))) :: (D, O.dict ep (gD (g2 G bs js on))) :: (x, O.inst 242 d) :: (d, O.ns (fsB (.at J) on ra rb D S S2)) :: (gL G ++ (U ++ [(rb, O.list (bs.map IS.v)), (ra, O.list (as.map IS.v)), (rt, O.list (tsI.map IS.v))]))) ++ ((cb, O.cell (some (.ref rb))) :: (con, O.cell (some (.bool on))) :: (cm, O.cell (some (.ref x))) :: (cju, O.cell (some (.ref rj))) :: R))) ?hlX ?_
      case hlX => exact less_perm (LessM.cons (Loc.head _) (LessM.cons (Loc.tail (by decide) (Loc.head _)) (LessM.cons (Loc.tail (by decide) (Loc.tail (by decide) (Loc.head _))) LessM.nil))) (hperm.trans (List.Perm.of_eq (by simp)))
      have hGm : ∀ e ∈ g2 G bs js on, (e.2.1, O.list (e.2.2.map V.int)) ∈ ((S2, O.set z2 (((G.filter fun e => !decide (e.1 ∈ js)).filter (chPop bs.length on)).map (·.1))) :: (S, O.set z1 ((G.map (·.1)).filter fun k => decide (k ∈ js))) :: (D, O.dict ep (gD (g2 G bs js on))) :: (x, O.inst 242 d) :: (d, O.ns (fsB (.at J) on ra rb D S S2)) :: (gL G ++ (U ++ [(rb, O.list (bs.map IS.v)), (ra, O.list (as.map IS.v)), (rt, O.list (tsI.map IS.v))]))) ++ ((cb, O.cell (some (.ref rb))) :: (con, O.cell (some (.bool on))) :: (cm, O.cell (some (.ref x))) :: (cju, O.cell (some (.ref rj))) :: R) := fun e he => List.mem_append_left _ (.tail _ (.tail _ (.tail _ (.tail _ (.tail _ (List.mem_append_left _ (gL_mem ((g2_mem gi).mp he).1)))))))
      exact law_t1 p c hfu B hs hcs (G := g2 G bs js on) (List.mem_append_right _ (.head _)) (List.mem_append_right _ (.tail _ (.head _))) (List.mem_append_right _ (.tail _ (.tail _ (.head _)))) (List.mem_append_right _ (.tail _ (.tail _ (.tail _ (.head _))))) (List.mem_append_left _ (.tail _ (.tail _ (.tail _ (.head _))))) (List.mem_append_left _ (.tail _ (.tail _ (.tail _ (.tail _ (.head _)))))) (List.mem_append_left _ (.tail _ (.tail _ (.head _)))) (List.mem_append_left _ (.tail _ (.head _))) (List.mem_append_left _ (.head _)) (List.mem_append_left _ (.tail _ (.tail _ (.tail _ (.tail _ (.tail _ (List.mem_append_right _ (List.mem_append_right _ (.tail _ (.head _)))))))))) (List.mem_append_left _ (.tail _ (.tail _ (.tail _ (.tail _ (.tail _ (List.mem_append_right _ (List.mem_append_right _ (.head _))))))))) (List.mem_append_right _ (.tail _ (.tail _ (.tail _ (.tail _ hjm))))) (List.mem_append_left _ (.tail _ (.tail _ (.tail _ (.tail _ (.tail _ (List.mem_append_right _ (List.mem_append_right _ (.tail _ (.tail _ (.head _))))))))))) hGm hbz hJb hJJ haz hjz (Nat.le_trans (Nat.le_trans (List.length_filter_le _ _) (List.length_filter_le _ _)) hGz) (fact1 gi) (fact2 gi hbc) (fact3 gi) (g2_nd gi)
        fun D1 D2 H' E => law_t3 p c hfu B hs hcs E hbz haz (fun k hk => fact4 gi E.hG (hat k hk)) (law_t4 p c hfu B hs hcs E hbz (g2_nd gi) (Nat.le_trans (Nat.le_trans (List.length_filter_le _ _) (List.length_filter_le _ _)) hGz) (fact5 gi hbc))
end
section
open PySem PySem.W PyProof.Rows PySem.Calls
set_option maxRecDepth 100000
set_option maxHeartbeats 4000000
theorem allp_nil {α β : Type} {P : α → β → Prop} : ∀ a o, (a, o) ∈ ([] : List (α × β)) → P a o := fun _ _ h => nomatch h
theorem allp_cons {α β : Type} {P : α → β → Prop} {x : α} {y : β} {l : List (α × β)} (h : P x y) (k : ∀ a o, (a, o) ∈ l → P a o) : ∀ a o, (a, o) ∈ (x, y) :: l → P a o := fun a o m => by
  rcases List.mem_cons.mp m with e | m
  · cases e; exact h
  · exact k a o m
theorem allk_nil {α β : Type} {P : α → Prop} : ∀ a, a ∈ ([] : List (α × β)).map (·.1) → P a := fun _ h => nomatch h
theorem allk_cons {α β : Type} {P : α → Prop} {x : α} {y : β} {l : List (α × β)} (h : P x) (k : ∀ a, a ∈ l.map (·.1) → P a) : ∀ a, a ∈ ((x, y) :: l).map (·.1) → P a := fun a m => by
  rcases List.mem_cons.mp m with e | m
  · cases e; exact h
  · exact k a m
theorem finish08 {prog : Program} {w : World} {s₁ : Shared} {env : Env} {b : List Stmt} {tp : Program} {loose : List Str} {mean mean' : ExcName → Option Value} {mg mb : Str → Option Value} {script : List Int} {vs : List Value} {rs L : Addr} {h₁ : Heap} {tk₁ : Nat} {mm : Str → Option Value} {o1 o2 o3 o4 o5 o6 o7 o8 : Obj} {C : ClaimW} {cl : Str → Option Addr} {args : List WData} {E : Value → Shared → Prop}
    (N : News (ghostOf s₁.heap [(260, 258)]) L h₁ [(L + 1 + 1 + 1 + 1 + 1 + 1 + 1 + 1, o8), (L + 1 + 1 + 1 + 1 + 1 + 1 + 1, o7), (L + 1 + 1 + 1 + 1 + 1 + 1, o6), (L + 1 + 1 + 1 + 1 + 1, o5), (L + 1 + 1 + 1 + 1, o4), (L + 1 + 1 + 1, o3), (L + 1 + 1, o2), (L + 1, o1), (258, tabObj #[])])
    (F : Fr (ghostOf s₁.heap [(260, 258)]) L h₁ mm) (T : Top tp loose mean mg mb (ghostOf s₁.heap [(260, 258)])) (X : (K08 w.params).In (ghostOf s₁.heap [(260, 258)])) (hCd : CodeHd (ghostOf s₁.heap [(260, 258)]) 260 258)
    (hT9 : TabsAt [(260, 258)] s₁.heap) (w1 : Well w.params s₁.heap (.ref rs) (ofPy (.list (script.map PyData.int)))) (hL : s₁.heap.IsList rs vs.toArray) (hI : IntsAre vs script) (hlen : script.length ≤ 63) (hg : s₁.gens = #[]) (hlt : 258 < L)
    (d1 : o1.data = .cell .none) (d2 : o2.data = .cell .none) (d3 : o3.data = .cell .none) (d4 : o4.data = .cell .none) (d5 : o5.data = .cell .none) (d6 : o6.data = .cell .none) (d7 : o7.data = .cell .none) (d8 : o8.data = .cell .none)
    (hm : mm "script" = some (.ref rs)) (he : env = { scope := (fdIn (K08 w.params) 261).scope, locals := L, globals := mainGlobals, cells := [(("junk" : Str), L + 1 + 1 + 1 + 1 + 1 + 1 + 1 + 1), ("now", L + 1 + 1 + 1 + 1 + 1 + 1 + 1), ("j", L + 1 + 1 + 1 + 1 + 1 + 1), ("often", L + 1 + 1 + 1 + 1 + 1), ("plain", L + 1 + 1 + 1 + 1), ("m", L + 1 + 1 + 1), ("on", L + 1 + 1), ("b", L + 1)], qual := env.qual, func := env.func, code := .ref 260, frame := env.frame, builtins := builtinsNs }) (hb : b = bodyIn (fdIn (K08 w.params) 261))
    (hr : ∀ cls, C.raises args cls = false) (hp : C.post args (.bool true) args = true) (hprog : True) :
    wpAny (model prog w) (callerA.deeper env) (execs b env) (fun f s' => GoodW C cl mean' args { heap := ghostOf s₁.heap [(260, 258)], gens := s₁.gens, drawn := s₁.drawn, toks := s₁.toks, os := s₁.os } (.ok (.ret (match f with | .ret v => v | x => .none))) s' ∧ GrownAll [(260, 258)] s'.heap) E
      { heap := h₁, gens := s₁.gens, drawn := s₁.drawn, toks := tk₁, os := s₁.os } := by
  subst hb
  obtain ⟨qual, func, frame, he⟩ : ∃ q f r, env = { scope := (fdIn (K08 w.params) 261).scope, locals := L, globals := mainGlobals, cells := [(("junk" : Str), L + 1 + 1 + 1 + 1 + 1 + 1 + 1 + 1), ("now", L + 1 + 1 + 1 + 1 + 1 + 1 + 1), ("j", L + 1 + 1 + 1 + 1 + 1 + 1), ("often", L + 1 + 1 + 1 + 1 + 1), ("plain", L + 1 + 1 + 1 + 1), ("m", L + 1 + 1 + 1), ("on", L + 1 + 1), ("b", L + 1)], qual := q, func := f, code := .ref 260, frame := r, builtins := builtinsNs } := ⟨_, _, _, he⟩
  subst he
  have hk : (fdIn (K08 w.params) 261).scope.kind = .function := by kernel_rfl
  let env : Env := { scope := (fdIn (K08 w.params) 261).scope, locals := L, globals := mainGlobals, cells := [(("junk" : Str), L + 1 + 1 + 1 + 1 + 1 + 1 + 1 + 1), ("now", L + 1 + 1 + 1 + 1 + 1 + 1 + 1), ("j", L + 1 + 1 + 1 + 1 + 1 + 1), ("often", L + 1 + 1 + 1 + 1 + 1), ("plain", L + 1 + 1 + 1 + 1), ("m", L + 1 + 1 + 1), ("on", L + 1 + 1), ("b", L + 1)], qual := qual, func := func, code := .ref 260, frame := frame, builtins := builtinsNs }
  let c : Ctx := ⟨prog, w, callerA.deeper env, env, (ghostOf s₁.heap [(260, 258)]).get?, 6, rfl, by show callerA.depth + 1 + 6 < recursionLimit; decide +kernel, by show callerA.units + 3 + 40 * 6 + 400 < cLine; decide +kernel, hk⟩
  have hscr : ∃ ws : List Value, (ghostOf s₁.heap [(260, 258)]).get? rs = some { cls := .type "list", data := .seq ws.toArray } ∧ IntsAre ws script := by
    cases w1 with
    | list hget _ =>
      refine ⟨_, ghost_get hT9 hget (fun q => by cases q), ?_⟩
      obtain ⟨o, ho, _, n, hd⟩ := hL
      rw [hget] at ho
      cases ho
      cases hd
      exact hI
  obtain ⟨ws, hws, hwI⟩ := hscr
  have B : Base c (K08 w.params) := ⟨fun h hh => X.keeps hh, ⟨mg, fun h hh => T.g.keeps hh⟩, ⟨mb, fun h hh => T.b.keeps hh, T.builtins⟩, fun h hh => T.nolimit.keeps hh, rfl, rfl⟩
  have LB : LamBase c mg 260 258 := ⟨fun h hh => T.g.keeps hh, fun h hh => let ⟨bm, ob, q1, q2, q3, r⟩ := T.bmain; ⟨bm, ob, q1, q2, hh _ _ q3, r⟩, fun h hh => hCd.keeps hh, rfl, rfl⟩
  have hS : ∀ H, Sees c H rs (.list (script.map .int)) := fun H => Sees.known fun h hh => by
    have := hh _ _ hws
    exact ⟨ws.toArray, ⟨_, this, rfl, _, rfl⟩, ⟨_, this, rfl, rfl⟩, by simpa using intsAre_reps hwI⟩
  have cellR : ∀ (a : Addr) (o : Obj), h₁.get? a = some o → o.data = .cell .none → (O.cell .none).rep prog w h₁ a := fun a o h1 h2 => ⟨o, h1, .none, h2, rfl⟩
  have R : Rel c ⟨[("script", .ref rs)], (L + 1 + 1 + 1 + 1, .cell .none) :: (L + 1 + 1 + 1 + 1 + 1, .cell .none) :: (L + 1 + 1 + 1 + 1 + 1 + 1, .cell .none) :: (L + 1 + 1 + 1 + 1 + 1 + 1 + 1, .cell .none) :: (L + 1, .cell .none) :: (L + 1 + 1, .cell .none) :: (L + 1 + 1 + 1, .cell .none) :: (L + 1 + 1 + 1 + 1 + 1 + 1 + 1 + 1, .cell .none) :: (258, .obj (tabObj #[])) :: []⟩ { heap := h₁, gens := s₁.gens, drawn := s₁.drawn, toks := tk₁, os := s₁.os } := by
    refine ⟨⟨mm, F.ns, fun x u e => ?_⟩, ?_, ?_, ?_, fun b o e => F.keep b o e, get_ge F.above⟩
    · rw [List.lookup_cons] at e
      cases q : x == ("script" : Str) with
      | true => rw [q] at e; cases e; rw [beq_iff_eq.mp q]; exact ⟨_, hm, rfl⟩
      | false => rw [q] at e; cases e
    · exact allp_cons (cellR _ _ (N (_, o4) (by repeat (first | with_reducible exact List.mem_cons_self | refine List.mem_cons_of_mem _ ?_))).1 d4) (allp_cons (cellR _ _ (N (_, o5) (by repeat (first | with_reducible exact List.mem_cons_self | refine List.mem_cons_of_mem _ ?_))).1 d5) (allp_cons (cellR _ _ (N (_, o6) (by repeat (first | with_reducible exact List.mem_cons_self | refine List.mem_cons_of_mem _ ?_))).1 d6) (allp_cons (cellR _ _ (N (_, o7) (by repeat (first | with_reducible exact List.mem_cons_self | refine List.mem_cons_of_mem _ ?_))).1 d7) (allp_cons (cellR _ _ (N (_, o1) (by repeat (first | with_reducible exact List.mem_cons_self | refine List.mem_cons_of_mem _ ?_))).1 d1) (allp_cons (cellR _ _ (N (_, o2) (by repeat (first | with_reducible exact List.mem_cons_self | refine List.mem_cons_of_mem _ ?_))).1 d2) (allp_cons (cellR _ _ (N (_, o3) (by repeat (first | with_reducible exact List.mem_cons_self | refine List.mem_cons_of_mem _ ?_))).1 d3) (allp_cons (cellR _ _ (N (_, o8) (by repeat (first | with_reducible exact List.mem_cons_self | refine List.mem_cons_of_mem _ ?_))).1 d8) (allp_cons ⟨(N (258, tabObj #[]) (by repeat (first | with_reducible exact List.mem_cons_self | refine List.mem_cons_of_mem _ ?_))).1, trivial⟩ allp_nil))))))))
    · show List.Nodup [_, _, _, _, _, _, _, _, _]
      have hlt' : (258 : Nat) < L := hlt
      simp only [List.nodup_cons, List.mem_cons, List.not_mem_nil, or_false, not_or, List.nodup_nil, not_false_eq_true, and_true]
      have key : ∀ i j : Nat, i ≠ j → L + i ≠ L + j := fun i j h q => h (Nat.add_left_cancel q)
      have k2 : ∀ i : Nat, L + i ≠ 258 := fun i q => absurd hlt' (Nat.not_lt.mpr (q ▸ Nat.le_add_right L i))
      exact ⟨⟨key 4 5 (by decide), key 4 6 (by decide), key 4 7 (by decide), key 4 1 (by decide), key 4 2 (by decide), key 4 3 (by decide), key 4 8 (by decide), k2 4⟩, ⟨key 5 6 (by decide), key 5 7 (by decide), key 5 1 (by decide), key 5 2 (by decide), key 5 3 (by decide), key 5 8 (by decide), k2 5⟩, ⟨key 6 7 (by decide), key 6 1 (by decide), key 6 2 (by decide), key 6 3 (by decide), key 6 8 (by decide), k2 6⟩, ⟨key 7 1 (by decide), key 7 2 (by decide), key 7 3 (by decide), key 7 8 (by decide), k2 7⟩, ⟨key 1 2 (by decide), key 1 3 (by decide), key 1 8 (by decide), k2 1⟩, ⟨key 2 3 (by decide), key 2 8 (by decide), k2 2⟩, ⟨key 3 8 (by decide), k2 3⟩, k2 8⟩
    · exact allk_cons (N (_, o4) (by repeat (first | with_reducible exact List.mem_cons_self | refine List.mem_cons_of_mem _ ?_))).2 (allk_cons (N (_, o5) (by repeat (first | with_reducible exact List.mem_cons_self | refine List.mem_cons_of_mem _ ?_))).2 (allk_cons (N (_, o6) (by repeat (first | with_reducible exact List.mem_cons_self | refine List.mem_cons_of_mem _ ?_))).2 (allk_cons (N (_, o7) (by repeat (first | with_reducible exact List.mem_cons_self | refine List.mem_cons_of_mem _ ?_))).2 (allk_cons (N (_, o1) (by repeat (first | with_reducible exact List.mem_cons_self | refine List.mem_cons_of_mem _ ?_))).2 (allk_cons (N (_, o2) (by repeat (first | with_reducible exact List.mem_cons_self | refine List.mem_cons_of_mem _ ?_))).2 (allk_cons (N (_, o3) (by repeat (first | with_reducible exact List.mem_cons_self | refine List.mem_cons_of_mem _ ?_))).2 (allk_cons (N (_, o8) (by repeat (first | with_reducible exact List.mem_cons_self | refine List.mem_cons_of_mem _ ?_))).2 (allk_cons (N (258, tabObj #[]) (by repeat (first | with_reducible exact List.mem_cons_self | refine List.mem_cons_of_mem _ ?_))).2 allk_nil))))))))
  have main := law_s w.params c (n := 0) rfl B LB rfl rfl hlen hS _ R
  refine wpAny_mono (main _ fun f v m' H' h tk R' F' r q => ?_) (fun _ _ q => q) fun _ _ q => q.elim
  have hf : f = .ret (.bool true) := q.1
  have hgr : GrownAll [(260, 258)] h := ⟨let ⟨ps, hps⟩ := q.2; ⟨ps, (R'.obj _ _ hps).1⟩, trivial⟩
  subst hf
  have r' : ∃ v', v = .ret v' ∧ V.rep h (.bool true) v' := r
  obtain ⟨v', rfl, hv⟩ := r'
  have hv' : v' = .bool true := hv
  subst hv'
  exact ⟨⟨.inl ⟨.bool true, .bool true, [], rfl, hr, .bool _, hp, fun _ => ⟨.nil, fun a ha => nomatch ha⟩⟩, fun b o e => R'.keep b o e, rfl, hg⟩, hgr⟩
end
end Mine
end
open PySem PySem.W PyProof.Rows PySem.Calls
set_option maxRecDepth 100000 in
set_option maxHeartbeats 8000000 in
theorem PySem.Challenge.cw_dm0051_08_holds : PySem.Challenge.rw_dm0051_08.Holds := by
  exact hdL (by
    w_on
    k_go0
    refine Mine.finish08 (mean' := _) (by assumption) (by assumption) (by assumption) (by assumption) (by assumption) (by assumption) (by assumption) (by assumption) (by assumption) (by omega) (by assumption) (by assumption) (by assumption) (by assumption) (by assumption) (by assumption) (by assumption) (by assumption) (by assumption) (by assumption) ?h1 ?h2 ?h3 ?h4 ?h5 trivial
    case h1 => kernel_rfl
    case h2 => kernel_rfl
    case h3 => kernel_rfl
    case h4 => (intro _; rfl)
    case h5 => exact postW_of (X := true) rfl (by show WTm.value _ (.eq .res (.lit (.bool true))) _ = _; simp [WTm.value, PySem.W.same]) rfl)
