import JvmDerived
import JvmDerived.Pilot.@@N@@Statement
import JvmDerived.Pilot.@@N@@Code
set_option linter.unusedVariables false
set_option linter.unusedSimpArgs false
namespace Jvm.RoadKit
open Sem ClassFile Op Lib Jvm.Stand Jvm.Free Jvm.LawKit
section New
variable {p : Program} {l : Launch} {e : Env} {R : Room} {s : State} {m : MethodId} {args : Array Value} {below : List Frame} {meth : Method} {c : Code} {T : State} {locs : List Loc} {cells slots : Nat}
theorem retI (X : Stand p l e R s m args below meth c T locs cells slots) (hx : p.tables.exec = Jvm.exec) {pc : Nat} {Ls : Array Slot} {z : Int32} {rest : List Value} (hret : meth.sig.returnType = some .int) (hd : decode c.code pc = .ok (.ireturn, 1)) {fs : List Frame}
    (hl : ∀ (f : JFrame) (acts : List Action), f.method = m → f.locked = none → f.entered = [] → (doReturn e (T.setTop f) acts (some (.int z))).1 = T.setFrames fs) : Steps p.tables e below (T.setTop (mkF m pc Ls (.int z :: rest))) (T.setFrames fs) := by
  have hm' : T.vm.method? m = some meth := X.method'
  have hn : narrow .int (.int z) = .int z := rfl
  show Steps p.tables e below (T.setTop { method := m, pc := pc, locals := Ls, stack := _ :: rest, locked := none }) _
  jvm_step X.here [X.here.top, hx, hd, hm', hret, hn]
  first | (intro acts; rw [hl _ acts rfl rfl rfl]) | rw [hl _ _ rfl rfl rfl]
  exact Steps.refl _
end New
end Jvm.RoadKit
namespace Jvm.Pilot.@@N@@
open Jvm Jvm.ClassFile Sem Op Lib Jvm.Free Jvm.Stand Jvm.LawKit Jvm.RoadKit Bundle Jvm.Pilot.@@N@@.Jvm.D
def Qv (r : Option Value) (h0 : Heap) (n0 : Nat) (v : Option Value) (h : Heap) (L : List Loc) : Prop := v = r ∧ Fr n0 L ∧ h = h0
def Ql (r : Option Value) (n0 : Nat) (v : Option Value) (h : Heap) (L : List Loc) : Prop := v = r ∧ Fr n0 L ∧ True
theorem own_ord {args : Array Value} {s : State} {t : Term} {C n d : String} {k : Int32} {x : Addr} (h : (Jvm.Cond.eq (.field t C n d) (.int k)).value args s none s [] = some true) (ht : t.eval args s none [] s = some (.ref x)) : s.fieldOf? x C n d = some (.int k) := by
  simp only [Cond.value, Term.eval, ht] at h
  cases hf : s.fieldOf? x C n d with
  | none => simp [hf] at h
  | some v => cases v <;> simp [hf] at h ⊢; exact h
theorem own_ne {s : State} {C n d : String} {k k' : Int32} {x y : Addr} (h : s.fieldOf? x C n d = some (.int k)) (h' : s.fieldOf? y C n d = some (.int k')) (hk : k ≠ k') : ¬ (x = y) := fun e => by
  subst e; exact hk (Value.int.inj (Option.some.inj (h.symm.trans h')))
theorem own_dneg {i : Int} {a : UInt64} (h : FP.Core.DInt i a) : FP.Core.DInt (-i) (FP.dneg a) := by
  rw [FP.dneg_core ((FP.Core.notNaN_iff a).mpr (FP.Core.DInt_ne_nan h))]; exact FP.Core.dneg_int h
theorem own_cmp {i j : Int} {a b : UInt64} (ha : FP.Core.DInt i a) (hb : FP.Core.DInt j b) (o : CmpOp) : (i < j → cmpValue (FP.dcmp a b) o = -1) ∧ (i = j → cmpValue (FP.dcmp a b) o = 0) ∧ (j < i → cmpValue (FP.dcmp a b) o = 1) := by
  have e : FP.dcmp a b = some (compare i j) := FP.Core.dcmp_int ha hb
  rw [e]
  refine ⟨fun h => ?_, fun h => ?_, fun h => ?_⟩
  · rw [show compare i j = .lt from Int.compare_eq_lt.mpr h]; cases o <;> rfl
  · rw [show compare i j = .eq from Int.compare_eq_eq.mpr h]; cases o <;> rfl
  · rw [show compare i j = .gt from Int.compare_eq_gt.mpr h]; cases o <;> rfl
theorem own_one (p : Int32) : p &&& (1 : Int32) = (0 : Int32) ∨ p &&& (1 : Int32) = (1 : Int32) := and_one p
theorem own_two (p : Int32) : p &&& (2 : Int32) = (0 : Int32) ∨ ¬ (p &&& (2 : Int32) = (0 : Int32)) := Classical.em _
def GG (Z : State) (w0 w1 w2 : Addr) : Prop := (Sta Z Z.heap "com/example/fieldward/fieldward/validation/OrderedKind$Order" "GREATER" "Lcom/example/fieldward/fieldward/validation/OrderedKind$Order;" (.ref w0)) ∧ (Sta Z Z.heap "com/example/fieldward/fieldward/validation/OrderedKind$Order" "LESS" "Lcom/example/fieldward/fieldward/validation/OrderedKind$Order;" (.ref w1)) ∧ (Sta Z Z.heap "com/example/fieldward/fieldward/validation/OrderedKind$Order" "EQUAL" "Lcom/example/fieldward/fieldward/validation/OrderedKind$Order;" (.ref w2)) ∧ (Exa Z Z.heap w0 "com/example/fieldward/fieldward/validation/OrderedKind$Order") ∧ (Exa Z Z.heap w1 "com/example/fieldward/fieldward/validation/OrderedKind$Order") ∧ (Exa Z Z.heap w2 "com/example/fieldward/fieldward/validation/OrderedKind$Order")
theorem d1_0 : decode prog_15_method_5_code 0 = .ok (.dload_n 0, 1) := by decide +kernel
theorem d1_1 : decode prog_15_method_5_code 1 = .ok (.dload_n 2, 1) := by decide +kernel
theorem d1_2 : decode prog_15_method_5_code 2 = .ok (.dcmp .g, 1) := by decide +kernel
theorem d1_3 : decode prog_15_method_5_code 3 = .ok (.ifCond .ge 11, 3) := by decide +kernel
theorem d1_6 : decode prog_15_method_5_code 6 = .ok (.getstatic 3, 3) := by decide +kernel
theorem d1_9 : decode prog_15_method_5_code 9 = .ok (.astore 4, 2) := by decide +kernel
theorem d1_11 : decode prog_15_method_5_code 11 = .ok (.goto 36, 3) := by decide +kernel
theorem d1_47 : decode prog_15_method_5_code 47 = .ok (.aload 4, 2) := by decide +kernel
theorem d1_49 : decode prog_15_method_5_code 49 = .ok (.areturn, 1) := by decide +kernel
theorem ef_5_DD (m : MethodId) (x0 : UInt64) (x1 : UInt64) : entryFrame m #[(.double x0), (.double x1)] 5 = mkF m 0 #[.val (.double x0), .second, .val (.double x1), .second, .unset] [] := by first | (simp [entryFrame, mkF, argsToLocals, Value.category]; done) | rfl
theorem pn_com_example_fieldward_fieldward_validation_OrderedKind_Order : plainName "com/example/fieldward/fieldward/validation/OrderedKind$Order" = true := by first | (simp [plainName, overriddenIn]; done) | decide +kernel
set_option maxRecDepth 65536 in
set_option maxHeartbeats 40000000 in
theorem rm_0_0_0 (l : Launch) (Z : State) (a0 : Array Value) (hw : ∀ d ∈ tables_1, d.before a0 Z = true) (ws : List Jvm.Cond) (x0 x1 : UInt64) (w0 : Addr) (w1 : Addr) (w2 : Addr) (h0 : Heap) (n0 : Nat) (O : Old Z n0 h0) (hG : GG Z w0 w1 w2) (hD : ∀ o, cmpValue (FP.dcmp x0 x1) o = (-1 : Int32)) :
    MetFree l (⟨"com/example/fieldward/fieldward/validation/OrderedKind$Order", "of", "(DD)Lcom/example/fieldward/fieldward/validation/OrderedKind$Order;"⟩ : MethodName) (head1 (Jvm.Cond.code (⟨"com/example/fieldward/fieldward/validation/OrderedKind$Order", "of", "(DD)Lcom/example/fieldward/fieldward/validation/OrderedKind$Order;"⟩ : MethodName) prog_15_method_5_code 5 (some (.object "com/example/fieldward/fieldward/validation/OrderedKind$Order")) :: ws) ({ frames := 0, cells := 0, slots := 0, locals := 0 } : Room)) (fun a U => a = #[(.double x0), (.double x1)] ∧ Z.Warmed39 U.vm ∧ U.heap = h0) (fun _ _ _ _ _ => True) (fun _ U o U' => ∃ v L, o = .returned v ∧ Qv (some (.ref w1)) h0 n0 v U'.heap L ∧ FrameEnd U o U' L ({ frames := 0, cells := 0, slots := 0, locals := 0 } : Room).cells ({ frames := 0, cells := 0, slots := 0, locals := 0 } : Room).slots) := by
  refine MetFree.of_bodySF (plainFor_of_name pn_com_example_fieldward_fieldward_validation_OrderedKind_Order) hisR ?_
  intro p e s m args below meth c s₁ Bd hml0 hP hK
  obtain ⟨rfl, hZ, hh⟩ := hP
  have hx := Bd.exec
  have hby := Bd.bytes
  have hml : c.maxLocals = 5 := hml0
  have hown : s.vm.findClass "com/example/fieldward/fieldward/validation/OrderedKind$Order" = some m.cls := findClass_of_methodNamed Bd.named
  have hnm := (name_of_methodNamed Bd.named Bd.method).1
  have X0 : Stand p l e ({ frames := 0, cells := 0, slots := 0, locals := 0 } : Room) s m #[(.double x0), (.double x1)] below meth c s₁ [] 0 0 := Stand.of_body Bd
  have e0 : s₁.heap = h0 := by rw [← hh, Bd.state]; rfl
  have N0 := Fr.nil n0
  have pre0 : ∀ t, Steps p.tables e below (s₁.setTop (mkF m 0 #[.val (.double x0), .second, .val (.double x1), .second, .unset] [])) t → Steps p.tables e below (s₁.setTop (entryFrame m #[(.double x0), (.double x1)] 5)) t := fun t k => castTop (ef_5_DD m x0 x1) k
  obtain ⟨Sw0, Sw1, Sw2, Ew0, Ew1, Ew2⟩ := id hG
  obtain ⟨T1, X1, e1, st1⟩ := getS2 X0 hx hZ hown (host := "") (Or.inl (hw _ (List.mem_of_getElem? (i := 9) rfl))) Via.refl e0 (Sw1.ext O.2) (g := (mkF m 6 #[.val (.double x0), .second, .val (.double x1), .second, .unset] [])) rfl (hb hby d1_6)
  obtain ⟨fs, hr, hrun, hended, hW, hsame⟩ := X1.leave (v := some (.ref w1)) (fun h => by rw [Bd.returns] at h; cases h)
  refine ⟨_, _, pre0 _ ?_, hrun, hended, _, _, rfl, ?_, ⟨_, rfl⟩, hW, hsame.mono (by decide) (by decide)⟩
  · show Steps p.tables e below (s₁.setTop (mkF m 0 #[.val (.double x0), .second, .val (.double x1), .second, .unset] [])) _
    refine XS.dloadN X0.here hx rfl (hb hby d1_0) rfl ?_
    show Steps p.tables e below (s₁.setTop (mkF m 1 #[.val (.double x0), .second, .val (.double x1), .second, .unset] [(.double x0)])) _
    refine XS.dloadN X0.here hx rfl (hb hby d1_1) rfl ?_
    show Steps p.tables e below (s₁.setTop (mkF m 2 #[.val (.double x0), .second, .val (.double x1), .second, .unset] [(.double x1), (.double x0)])) _
    refine XS.dcmpS X0.here hx rfl (hb hby d1_2) rfl rfl ?_
    show Steps p.tables e below (s₁.setTop (mkF m 3 #[.val (.double x0), .second, .val (.double x1), .second, .unset] [(.int (cmpValue (FP.dcmp x0 x1) .g))])) _
    rw [hD]
    show Steps p.tables e below (s₁.setTop (mkF m 3 #[.val (.double x0), .second, .val (.double x1), .second, .unset] [(.int (-1 : Int32))])) _
    refine XS.ifNo X0.here hx rfl (hb hby d1_3) rfl ((if0 _ _).trans (tlt ((by decide) : (-1 : Int32) < (0 : Int32))).2.1) ?_
    show Steps p.tables e below (s₁.setTop (mkF m 6 #[.val (.double x0), .second, .val (.double x1), .second, .unset] [])) _
    refine st1 _ ?_
    show Steps p.tables e below (T1.setTop (mkF m 9 #[.val (.double x0), .second, .val (.double x1), .second, .unset] [(.ref w1)])) _
    refine XS.astore X1.here hx rfl (hb hby d1_9) rfl rfl (l' := #[.val (.double x0), .second, .val (.double x1), .second, .val (.ref w1)]) rfl ?_
    show Steps p.tables e below (T1.setTop (mkF m 11 #[.val (.double x0), .second, .val (.double x1), .second, .val (.ref w1)] [])) _
    refine XS.goto X1.here hx rfl (pc0 := 11) (pc' := 47) rfl (hb hby d1_11) (by decide) (by decide) ?_
    show Steps p.tables e below (T1.setTop (mkF m 47 #[.val (.double x0), .second, .val (.double x1), .second, .val (.ref w1)] [])) _
    refine XS.aload X1.here hx rfl (hb hby d1_47) rfl rfl ?_
    show Steps p.tables e below (T1.setTop (mkF m 49 #[.val (.double x0), .second, .val (.double x1), .second, .val (.ref w1)] [(.ref w1)])) _
    exact retOut X1 hx Bd.returns rfl (Or.inr (Or.inr (Or.inr (Or.inr ⟨rfl, rfl, rfl⟩)))) (hb hby d1_49) hr
  · exact ⟨rfl, N0, e1⟩
theorem pd_28DD29Lcom2fexample2ffieldward2ffieldward2fvalidation2fOrderedKind24Order3b : parseMethodDescriptor "(DD)Lcom/example/fieldward/fieldward/validation/OrderedKind$Order;" = some ⟨[.double, .double], some (.object "com/example/fieldward/fieldward/validation/OrderedKind$Order")⟩ := by decide +kernel
theorem ef_maxLocals_III (m : MethodId) (x0 : Int32) (x1 : Int32) (x2 : Int32) : entryFrame m #[(.int x0), (.int x1), (.int x2)] maxLocals = mkF m 0 #[.val (.int x0), .val (.int x1), .val (.int x2), .unset, .unset, .unset, .unset, .unset, .unset, .unset, .unset, .unset, .unset, .unset] [] := by first | (simp [entryFrame, mkF, argsToLocals, Value.category, maxLocals]; done) | rfl
theorem pn_com_example_fieldward_fieldward_validation_OrderOfPinLaw : plainName "com/example/fieldward/fieldward/validation/OrderOfPinLaw" = true := by first | (simp [plainName, overriddenIn]; done) | decide +kernel
set_option maxRecDepth 65536 in
set_option maxHeartbeats 40000000 in
theorem rl_0_0_0 (l : Launch) (Z : State) (a0 : Array Value) (hw : ∀ d ∈ tables_1, d.before a0 Z = true) (ws : List Jvm.Cond) (p0 p1 p2 : Int32) (w0 : Addr) (w1 : Addr) (w2 : Addr) (h0 : Heap) (n0 : Nat) (O : Old Z n0 h0) (hG : GG Z w0 w1 w2) (hA : p2 &&& (1 : Int32) = (0 : Int32)) (hB : p2 &&& (2 : Int32) = (0 : Int32)) (hL : lcmpW (p0.toInt64) (p1.toInt64) = (-1 : Int32)) (hD : ∀ o, cmpValue (FP.dcmp (FP.i2d p0) (FP.i2d p1)) o = (-1 : Int32)) :
    MetFree l x (head1 (Jvm.Cond.code x code maxLocals ret :: ws) room_1) (fun a U => a = #[(.int p0), (.int p1), (.int p2)] ∧ Z.Warmed39 U.vm ∧ U.heap = h0) (fun _ _ _ _ _ => True) (fun _ U o U' => ∃ v L, o = .returned v ∧ Qv (some (.int (1 : Int32))) h0 n0 v U'.heap L ∧ FrameEnd U o U' L 0 0) := by
  refine MetFree.of_bodySF (plainFor_of_name pn_com_example_fieldward_fieldward_validation_OrderOfPinLaw) hisR ?_
  intro p e s m args below meth c s₁ Bd hml0 hP hK
  obtain ⟨rfl, hZ, hh⟩ := hP
  have hx := Bd.exec
  have hby := Bd.bytes
  have hml : c.maxLocals = 14 := hml0
  have hown : s.vm.findClass "com/example/fieldward/fieldward/validation/OrderOfPinLaw" = some m.cls := findClass_of_methodNamed Bd.named
  have hnm := (name_of_methodNamed Bd.named Bd.method).1
  have X0 : Stand p l e room_1 s m #[(.int p0), (.int p1), (.int p2)] below meth c s₁ [] 0 0 := Stand.of_body Bd
  have e0 : s₁.heap = h0 := by rw [← hh, Bd.state]; rfl
  have N0 := Fr.nil n0
  have pre0 : ∀ t, Steps p.tables e below (s₁.setTop (mkF m 0 #[.val (.int p0), .val (.int p1), .val (.int p2), .unset, .unset, .unset, .unset, .unset, .unset, .unset, .unset, .unset, .unset, .unset] [])) t → Steps p.tables e below (s₁.setTop (entryFrame m #[(.int p0), (.int p1), (.int p2)] maxLocals)) t := fun t k => castTop (ef_maxLocals_III m p0 p1 p2) k
  obtain ⟨Sw0, Sw1, Sw2, Ew0, Ew1, Ew2⟩ := id hG
  obtain ⟨T1, X1, e1, st1⟩ := getS2 X0 hx hZ hown (host := "") (Or.inl (hw _ (List.mem_of_getElem? (i := 7) rfl))) Via.refl e0 (Sw1.ext O.2) (g := (mkF m 91 #[.val (.int p0), .val (.int p1), .val (.int p2), .val (.int (0 : Int32)), .val (.int (0 : Int32)), .val (.long (p0.toInt64)), .second, .val (.long (p1.toInt64)), .second, .val (.double (FP.i2d p0)), .second, .val (.double (FP.i2d p1)), .second, .unset] [])) rfl (hb hby at_91)
  obtain ⟨_, _, ⟨T2, L2, k2, n2⟩, -, X2, ⟨Lc2, hQ2, l2, y2, z2⟩, st2⟩ := Jvm.LawKit.callS X1 hx (y := (⟨"com/example/fieldward/fieldward/validation/OrderedKind$Order", "of", "(DD)Lcom/example/fieldward/fieldward/validation/OrderedKind$Order;"⟩ : MethodName)) hown (mvT hZ (hw _ (List.mem_of_getElem? (i := 3) rfl))) (mvT hZ (hw _ (List.mem_of_getElem? (i := 4) rfl))) (mvT hZ (hw _ (List.mem_of_getElem? (i := 1) rfl))) (mvT hZ (hw _ (List.mem_of_getElem? (i := 5) rfl))) (by decide) (backOf (W := 0) (rm_0_0_0 l Z a0 hw [] (FP.i2d p0) (FP.i2d p1) w0 w1 w2 h0 n0 O hG hD) hZ (hw _ (List.mem_of_getElem? (i := 5) rfl)) (hw _ (List.mem_of_getElem? (i := 1) rfl)) (by decide) (by decide)) (g := (mkF m 124 #[.val (.int p0), .val (.int p1), .val (.int p2), .val (.int (0 : Int32)), .val (.int (0 : Int32)), .val (.long (p0.toInt64)), .second, .val (.long (p1.toInt64)), .second, .val (.double (FP.i2d p0)), .second, .val (.double (FP.i2d p1)), .second, .val (.ref w1)] [(.double (FP.i2d p1)), (.double (FP.i2d p0))])) rfl (by rw [hml]; rfl) (argsL := [(.double (FP.i2d p0)), (.double (FP.i2d p1))]) (rest := []) (lenOf pd_28DD29Lcom2fexample2ffieldward2ffieldward2fvalidation2fOrderedKind24Order3b rfl) rfl (by show 2 * 0 + _ ≤ _; exact Nat.le_of_eq rfl) (hb hby at_124) (fun _ _ => ⟨rfl, e1, (by decide : 0 + 0 ≤ _), (by decide : 0 + 0 ≤ _)⟩)
  dsimp only [Pt.U, Pt.locs, Pt.cells, Pt.slots] at X2 l2 y2 z2 st2 hQ2
  subst l2 y2 z2
  obtain ⟨rfl, N2q, e2⟩ := hQ2
  have N2 := Fr.app N0 N2q
  obtain ⟨fs, hr, hrun, hended, hW, hsame⟩ := X2.leave (v := some (.int (1 : Int32))) (fun h => by rw [Bd.returns] at h; cases h)
  refine ⟨_, _, pre0 _ ?_, hrun, hended, _, _, rfl, ?_, ⟨_, rfl⟩, hW, hsame.mono (by decide) (by decide)⟩
  · show Steps p.tables e below (s₁.setTop (mkF m 0 #[.val (.int p0), .val (.int p1), .val (.int p2), .unset, .unset, .unset, .unset, .unset, .unset, .unset, .unset, .unset, .unset, .unset] [])) _
    refine XS.iloadN X0.here hx rfl (hb hby at_0) rfl ?_
    show Steps p.tables e below (s₁.setTop (mkF m 1 #[.val (.int p0), .val (.int p1), .val (.int p2), .unset, .unset, .unset, .unset, .unset, .unset, .unset, .unset, .unset, .unset, .unset] [(.int p2)])) _
    refine XS.iconst X0.here hx rfl (hb hby at_1) ?_
    show Steps p.tables e below (s₁.setTop (mkF m 2 #[.val (.int p0), .val (.int p1), .val (.int p2), .unset, .unset, .unset, .unset, .unset, .unset, .unset, .unset, .unset, .unset, .unset] [(.int (1 : Int32)), (.int p2)])) _
    refine XS.iand X0.here hx rfl (hb hby at_2) rfl ?_
    show Steps p.tables e below (s₁.setTop (mkF m 3 #[.val (.int p0), .val (.int p1), .val (.int p2), .unset, .unset, .unset, .unset, .unset, .unset, .unset, .unset, .unset, .unset, .unset] [(.int (p2 &&& (1 : Int32)))])) _
    rw [hA]
    show Steps p.tables e below (s₁.setTop (mkF m 3 #[.val (.int p0), .val (.int p1), .val (.int p2), .unset, .unset, .unset, .unset, .unset, .unset, .unset, .unset, .unset, .unset, .unset] [(.int (0 : Int32))])) _
    refine XS.ifYes X0.here hx rfl (pc0 := 3) (pc' := 10) rfl (hb hby at_3) rfl ((if0 _ _).trans (teq ((by decide) : (0 : Int32) = (0 : Int32))).1) (by decide) (by decide) ?_
    show Steps p.tables e below (s₁.setTop (mkF m 10 #[.val (.int p0), .val (.int p1), .val (.int p2), .unset, .unset, .unset, .unset, .unset, .unset, .unset, .unset, .unset, .unset, .unset] [])) _
    refine XS.iconst X0.here hx rfl (hb hby at_10) ?_
    show Steps p.tables e below (s₁.setTop (mkF m 11 #[.val (.int p0), .val (.int p1), .val (.int p2), .unset, .unset, .unset, .unset, .unset, .unset, .unset, .unset, .unset, .unset, .unset] [(.int (0 : Int32))])) _
    refine XS.istoreN X0.here hx rfl (hb hby at_11) rfl (l' := #[.val (.int p0), .val (.int p1), .val (.int p2), .val (.int (0 : Int32)), .unset, .unset, .unset, .unset, .unset, .unset, .unset, .unset, .unset, .unset]) rfl ?_
    show Steps p.tables e below (s₁.setTop (mkF m 12 #[.val (.int p0), .val (.int p1), .val (.int p2), .val (.int (0 : Int32)), .unset, .unset, .unset, .unset, .unset, .unset, .unset, .unset, .unset, .unset] [])) _
    refine XS.iloadN X0.here hx rfl (hb hby at_12) rfl ?_
    show Steps p.tables e below (s₁.setTop (mkF m 13 #[.val (.int p0), .val (.int p1), .val (.int p2), .val (.int (0 : Int32)), .unset, .unset, .unset, .unset, .unset, .unset, .unset, .unset, .unset, .unset] [(.int p2)])) _
    refine XS.iconst X0.here hx rfl (hb hby at_13) ?_
    show Steps p.tables e below (s₁.setTop (mkF m 14 #[.val (.int p0), .val (.int p1), .val (.int p2), .val (.int (0 : Int32)), .unset, .unset, .unset, .unset, .unset, .unset, .unset, .unset, .unset, .unset] [(.int (2 : Int32)), (.int p2)])) _
    refine XS.iand X0.here hx rfl (hb hby at_14) rfl ?_
    show Steps p.tables e below (s₁.setTop (mkF m 15 #[.val (.int p0), .val (.int p1), .val (.int p2), .val (.int (0 : Int32)), .unset, .unset, .unset, .unset, .unset, .unset, .unset, .unset, .unset, .unset] [(.int (p2 &&& (2 : Int32)))])) _
    refine XS.ifYes X0.here hx rfl (pc0 := 15) (pc' := 22) rfl (hb hby at_15) rfl ((if0 _ _).trans (teq (hB : (p2 &&& (2 : Int32)) = (0 : Int32))).1) (by decide) (by decide) ?_
    show Steps p.tables e below (s₁.setTop (mkF m 22 #[.val (.int p0), .val (.int p1), .val (.int p2), .val (.int (0 : Int32)), .unset, .unset, .unset, .unset, .unset, .unset, .unset, .unset, .unset, .unset] [])) _
    refine XS.iconst X0.here hx rfl (hb hby at_22) ?_
    show Steps p.tables e below (s₁.setTop (mkF m 23 #[.val (.int p0), .val (.int p1), .val (.int p2), .val (.int (0 : Int32)), .unset, .unset, .unset, .unset, .unset, .unset, .unset, .unset, .unset, .unset] [(.int (0 : Int32))])) _
    refine XS.istore X0.here hx rfl (hb hby at_23) rfl (l' := #[.val (.int p0), .val (.int p1), .val (.int p2), .val (.int (0 : Int32)), .val (.int (0 : Int32)), .unset, .unset, .unset, .unset, .unset, .unset, .unset, .unset, .unset]) rfl ?_
    show Steps p.tables e below (s₁.setTop (mkF m 25 #[.val (.int p0), .val (.int p1), .val (.int p2), .val (.int (0 : Int32)), .val (.int (0 : Int32)), .unset, .unset, .unset, .unset, .unset, .unset, .unset, .unset, .unset] [])) _
    refine XS.iloadN X0.here hx rfl (hb hby at_25) rfl ?_
    show Steps p.tables e below (s₁.setTop (mkF m 26 #[.val (.int p0), .val (.int p1), .val (.int p2), .val (.int (0 : Int32)), .val (.int (0 : Int32)), .unset, .unset, .unset, .unset, .unset, .unset, .unset, .unset, .unset] [(.int (0 : Int32))])) _
    refine XS.ifYes X0.here hx rfl (pc0 := 26) (pc' := 35) rfl (hb hby at_26) rfl ((if0 _ _).trans (teq ((by decide) : (0 : Int32) = (0 : Int32))).1) (by decide) (by decide) ?_
    show Steps p.tables e below (s₁.setTop (mkF m 35 #[.val (.int p0), .val (.int p1), .val (.int p2), .val (.int (0 : Int32)), .val (.int (0 : Int32)), .unset, .unset, .unset, .unset, .unset, .unset, .unset, .unset, .unset] [])) _
    refine XS.iloadN X0.here hx rfl (hb hby at_35) rfl ?_
    show Steps p.tables e below (s₁.setTop (mkF m 36 #[.val (.int p0), .val (.int p1), .val (.int p2), .val (.int (0 : Int32)), .val (.int (0 : Int32)), .unset, .unset, .unset, .unset, .unset, .unset, .unset, .unset, .unset] [(.int p0)])) _
    refine XS.i2l X0.here hx rfl (hb hby at_36) rfl ?_
    show Steps p.tables e below (s₁.setTop (mkF m 37 #[.val (.int p0), .val (.int p1), .val (.int p2), .val (.int (0 : Int32)), .val (.int (0 : Int32)), .unset, .unset, .unset, .unset, .unset, .unset, .unset, .unset, .unset] [(.long (p0.toInt64))])) _
    refine XS.lstore X0.here hx rfl (hb hby at_37) rfl (l' := #[.val (.int p0), .val (.int p1), .val (.int p2), .val (.int (0 : Int32)), .val (.int (0 : Int32)), .val (.long (p0.toInt64)), .second, .unset, .unset, .unset, .unset, .unset, .unset, .unset]) rfl ?_
    show Steps p.tables e below (s₁.setTop (mkF m 39 #[.val (.int p0), .val (.int p1), .val (.int p2), .val (.int (0 : Int32)), .val (.int (0 : Int32)), .val (.long (p0.toInt64)), .second, .unset, .unset, .unset, .unset, .unset, .unset, .unset] [])) _
    refine XS.iload X0.here hx rfl (hb hby at_39) rfl ?_
    show Steps p.tables e below (s₁.setTop (mkF m 41 #[.val (.int p0), .val (.int p1), .val (.int p2), .val (.int (0 : Int32)), .val (.int (0 : Int32)), .val (.long (p0.toInt64)), .second, .unset, .unset, .unset, .unset, .unset, .unset, .unset] [(.int (0 : Int32))])) _
    refine XS.ifYes X0.here hx rfl (pc0 := 41) (pc' := 50) rfl (hb hby at_41) rfl ((if0 _ _).trans (teq ((by decide) : (0 : Int32) = (0 : Int32))).1) (by decide) (by decide) ?_
    show Steps p.tables e below (s₁.setTop (mkF m 50 #[.val (.int p0), .val (.int p1), .val (.int p2), .val (.int (0 : Int32)), .val (.int (0 : Int32)), .val (.long (p0.toInt64)), .second, .unset, .unset, .unset, .unset, .unset, .unset, .unset] [])) _
    refine XS.iloadN X0.here hx rfl (hb hby at_50) rfl ?_
    show Steps p.tables e below (s₁.setTop (mkF m 51 #[.val (.int p0), .val (.int p1), .val (.int p2), .val (.int (0 : Int32)), .val (.int (0 : Int32)), .val (.long (p0.toInt64)), .second, .unset, .unset, .unset, .unset, .unset, .unset, .unset] [(.int p1)])) _
    refine XS.i2l X0.here hx rfl (hb hby at_51) rfl ?_
    show Steps p.tables e below (s₁.setTop (mkF m 52 #[.val (.int p0), .val (.int p1), .val (.int p2), .val (.int (0 : Int32)), .val (.int (0 : Int32)), .val (.long (p0.toInt64)), .second, .unset, .unset, .unset, .unset, .unset, .unset, .unset] [(.long (p1.toInt64))])) _
    refine XS.lstore X0.here hx rfl (hb hby at_52) rfl (l' := #[.val (.int p0), .val (.int p1), .val (.int p2), .val (.int (0 : Int32)), .val (.int (0 : Int32)), .val (.long (p0.toInt64)), .second, .val (.long (p1.toInt64)), .second, .unset, .unset, .unset, .unset, .unset]) rfl ?_
    show Steps p.tables e below (s₁.setTop (mkF m 54 #[.val (.int p0), .val (.int p1), .val (.int p2), .val (.int (0 : Int32)), .val (.int (0 : Int32)), .val (.long (p0.toInt64)), .second, .val (.long (p1.toInt64)), .second, .unset, .unset, .unset, .unset, .unset] [])) _
    refine XS.iloadN X0.here hx rfl (hb hby at_54) rfl ?_
    show Steps p.tables e below (s₁.setTop (mkF m 55 #[.val (.int p0), .val (.int p1), .val (.int p2), .val (.int (0 : Int32)), .val (.int (0 : Int32)), .val (.long (p0.toInt64)), .second, .val (.long (p1.toInt64)), .second, .unset, .unset, .unset, .unset, .unset] [(.int (0 : Int32))])) _
    refine XS.ifYes X0.here hx rfl (pc0 := 55) (pc' := 64) rfl (hb hby at_55) rfl ((if0 _ _).trans (teq ((by decide) : (0 : Int32) = (0 : Int32))).1) (by decide) (by decide) ?_
    show Steps p.tables e below (s₁.setTop (mkF m 64 #[.val (.int p0), .val (.int p1), .val (.int p2), .val (.int (0 : Int32)), .val (.int (0 : Int32)), .val (.long (p0.toInt64)), .second, .val (.long (p1.toInt64)), .second, .unset, .unset, .unset, .unset, .unset] [])) _
    refine XS.iloadN X0.here hx rfl (hb hby at_64) rfl ?_
    show Steps p.tables e below (s₁.setTop (mkF m 65 #[.val (.int p0), .val (.int p1), .val (.int p2), .val (.int (0 : Int32)), .val (.int (0 : Int32)), .val (.long (p0.toInt64)), .second, .val (.long (p1.toInt64)), .second, .unset, .unset, .unset, .unset, .unset] [(.int p0)])) _
    refine XS.i2dS X0.here hx rfl (hb hby at_65) rfl rfl ?_
    show Steps p.tables e below (s₁.setTop (mkF m 66 #[.val (.int p0), .val (.int p1), .val (.int p2), .val (.int (0 : Int32)), .val (.int (0 : Int32)), .val (.long (p0.toInt64)), .second, .val (.long (p1.toInt64)), .second, .unset, .unset, .unset, .unset, .unset] [(.double (FP.i2d p0))])) _
    refine XS.dstore X0.here hx rfl (hb hby at_66) rfl (l' := #[.val (.int p0), .val (.int p1), .val (.int p2), .val (.int (0 : Int32)), .val (.int (0 : Int32)), .val (.long (p0.toInt64)), .second, .val (.long (p1.toInt64)), .second, .val (.double (FP.i2d p0)), .second, .unset, .unset, .unset]) rfl ?_
    show Steps p.tables e below (s₁.setTop (mkF m 68 #[.val (.int p0), .val (.int p1), .val (.int p2), .val (.int (0 : Int32)), .val (.int (0 : Int32)), .val (.long (p0.toInt64)), .second, .val (.long (p1.toInt64)), .second, .val (.double (FP.i2d p0)), .second, .unset, .unset, .unset] [])) _
    refine XS.iload X0.here hx rfl (hb hby at_68) rfl ?_
    show Steps p.tables e below (s₁.setTop (mkF m 70 #[.val (.int p0), .val (.int p1), .val (.int p2), .val (.int (0 : Int32)), .val (.int (0 : Int32)), .val (.long (p0.toInt64)), .second, .val (.long (p1.toInt64)), .second, .val (.double (FP.i2d p0)), .second, .unset, .unset, .unset] [(.int (0 : Int32))])) _
    refine XS.ifYes X0.here hx rfl (pc0 := 70) (pc' := 79) rfl (hb hby at_70) rfl ((if0 _ _).trans (teq ((by decide) : (0 : Int32) = (0 : Int32))).1) (by decide) (by decide) ?_
    show Steps p.tables e below (s₁.setTop (mkF m 79 #[.val (.int p0), .val (.int p1), .val (.int p2), .val (.int (0 : Int32)), .val (.int (0 : Int32)), .val (.long (p0.toInt64)), .second, .val (.long (p1.toInt64)), .second, .val (.double (FP.i2d p0)), .second, .unset, .unset, .unset] [])) _
    refine XS.iloadN X0.here hx rfl (hb hby at_79) rfl ?_
    show Steps p.tables e below (s₁.setTop (mkF m 80 #[.val (.int p0), .val (.int p1), .val (.int p2), .val (.int (0 : Int32)), .val (.int (0 : Int32)), .val (.long (p0.toInt64)), .second, .val (.long (p1.toInt64)), .second, .val (.double (FP.i2d p0)), .second, .unset, .unset, .unset] [(.int p1)])) _
    refine XS.i2dS X0.here hx rfl (hb hby at_80) rfl rfl ?_
    show Steps p.tables e below (s₁.setTop (mkF m 81 #[.val (.int p0), .val (.int p1), .val (.int p2), .val (.int (0 : Int32)), .val (.int (0 : Int32)), .val (.long (p0.toInt64)), .second, .val (.long (p1.toInt64)), .second, .val (.double (FP.i2d p0)), .second, .unset, .unset, .unset] [(.double (FP.i2d p1))])) _
    refine XS.dstore X0.here hx rfl (hb hby at_81) rfl (l' := #[.val (.int p0), .val (.int p1), .val (.int p2), .val (.int (0 : Int32)), .val (.int (0 : Int32)), .val (.long (p0.toInt64)), .second, .val (.long (p1.toInt64)), .second, .val (.double (FP.i2d p0)), .second, .val (.double (FP.i2d p1)), .second, .unset]) rfl ?_
    show Steps p.tables e below (s₁.setTop (mkF m 83 #[.val (.int p0), .val (.int p1), .val (.int p2), .val (.int (0 : Int32)), .val (.int (0 : Int32)), .val (.long (p0.toInt64)), .second, .val (.long (p1.toInt64)), .second, .val (.double (FP.i2d p0)), .second, .val (.double (FP.i2d p1)), .second, .unset] [])) _
    refine XS.lload X0.here hx rfl (hb hby at_83) rfl ?_
    show Steps p.tables e below (s₁.setTop (mkF m 85 #[.val (.int p0), .val (.int p1), .val (.int p2), .val (.int (0 : Int32)), .val (.int (0 : Int32)), .val (.long (p0.toInt64)), .second, .val (.long (p1.toInt64)), .second, .val (.double (FP.i2d p0)), .second, .val (.double (FP.i2d p1)), .second, .unset] [(.long (p0.toInt64))])) _
    refine XS.lload X0.here hx rfl (hb hby at_85) rfl ?_
    show Steps p.tables e below (s₁.setTop (mkF m 87 #[.val (.int p0), .val (.int p1), .val (.int p2), .val (.int (0 : Int32)), .val (.int (0 : Int32)), .val (.long (p0.toInt64)), .second, .val (.long (p1.toInt64)), .second, .val (.double (FP.i2d p0)), .second, .val (.double (FP.i2d p1)), .second, .unset] [(.long (p1.toInt64)), (.long (p0.toInt64))])) _
    refine XS.lcmp X0.here hx rfl (hb hby at_87) rfl ?_
    show Steps p.tables e below (s₁.setTop (mkF m 88 #[.val (.int p0), .val (.int p1), .val (.int p2), .val (.int (0 : Int32)), .val (.int (0 : Int32)), .val (.long (p0.toInt64)), .second, .val (.long (p1.toInt64)), .second, .val (.double (FP.i2d p0)), .second, .val (.double (FP.i2d p1)), .second, .unset] [(.int (lcmpW (p0.toInt64) (p1.toInt64)))])) _
    rw [hL]
    show Steps p.tables e below (s₁.setTop (mkF m 88 #[.val (.int p0), .val (.int p1), .val (.int p2), .val (.int (0 : Int32)), .val (.int (0 : Int32)), .val (.long (p0.toInt64)), .second, .val (.long (p1.toInt64)), .second, .val (.double (FP.i2d p0)), .second, .val (.double (FP.i2d p1)), .second, .unset] [(.int (-1 : Int32))])) _
    refine XS.ifNo X0.here hx rfl (hb hby at_88) rfl ((if0 _ _).trans (tlt ((by decide) : (-1 : Int32) < (0 : Int32))).2.1) ?_
    show Steps p.tables e below (s₁.setTop (mkF m 91 #[.val (.int p0), .val (.int p1), .val (.int p2), .val (.int (0 : Int32)), .val (.int (0 : Int32)), .val (.long (p0.toInt64)), .second, .val (.long (p1.toInt64)), .second, .val (.double (FP.i2d p0)), .second, .val (.double (FP.i2d p1)), .second, .unset] [])) _
    refine st1 _ ?_
    show Steps p.tables e below (T1.setTop (mkF m 94 #[.val (.int p0), .val (.int p1), .val (.int p2), .val (.int (0 : Int32)), .val (.int (0 : Int32)), .val (.long (p0.toInt64)), .second, .val (.long (p1.toInt64)), .second, .val (.double (FP.i2d p0)), .second, .val (.double (FP.i2d p1)), .second, .unset] [(.ref w1)])) _
    refine XS.astore X1.here hx rfl (hb hby at_94) rfl rfl (l' := #[.val (.int p0), .val (.int p1), .val (.int p2), .val (.int (0 : Int32)), .val (.int (0 : Int32)), .val (.long (p0.toInt64)), .second, .val (.long (p1.toInt64)), .second, .val (.double (FP.i2d p0)), .second, .val (.double (FP.i2d p1)), .second, .val (.ref w1)]) rfl ?_
    show Steps p.tables e below (T1.setTop (mkF m 96 #[.val (.int p0), .val (.int p1), .val (.int p2), .val (.int (0 : Int32)), .val (.int (0 : Int32)), .val (.long (p0.toInt64)), .second, .val (.long (p1.toInt64)), .second, .val (.double (FP.i2d p0)), .second, .val (.double (FP.i2d p1)), .second, .val (.ref w1)] [])) _
    refine XS.goto X1.here hx rfl (pc0 := 96) (pc' := 120) rfl (hb hby at_96) (by decide) (by decide) ?_
    show Steps p.tables e below (T1.setTop (mkF m 120 #[.val (.int p0), .val (.int p1), .val (.int p2), .val (.int (0 : Int32)), .val (.int (0 : Int32)), .val (.long (p0.toInt64)), .second, .val (.long (p1.toInt64)), .second, .val (.double (FP.i2d p0)), .second, .val (.double (FP.i2d p1)), .second, .val (.ref w1)] [])) _
    refine XS.dload X1.here hx rfl (hb hby at_120) rfl ?_
    show Steps p.tables e below (T1.setTop (mkF m 122 #[.val (.int p0), .val (.int p1), .val (.int p2), .val (.int (0 : Int32)), .val (.int (0 : Int32)), .val (.long (p0.toInt64)), .second, .val (.long (p1.toInt64)), .second, .val (.double (FP.i2d p0)), .second, .val (.double (FP.i2d p1)), .second, .val (.ref w1)] [(.double (FP.i2d p0))])) _
    refine XS.dload X1.here hx rfl (hb hby at_122) rfl ?_
    show Steps p.tables e below (T1.setTop (mkF m 124 #[.val (.int p0), .val (.int p1), .val (.int p2), .val (.int (0 : Int32)), .val (.int (0 : Int32)), .val (.long (p0.toInt64)), .second, .val (.long (p1.toInt64)), .second, .val (.double (FP.i2d p0)), .second, .val (.double (FP.i2d p1)), .second, .val (.ref w1)] [(.double (FP.i2d p1)), (.double (FP.i2d p0))])) _
    refine st2 _ ?_
    show Steps p.tables e below (T2.setTop (mkF m 127 #[.val (.int p0), .val (.int p1), .val (.int p2), .val (.int (0 : Int32)), .val (.int (0 : Int32)), .val (.long (p0.toInt64)), .second, .val (.long (p1.toInt64)), .second, .val (.double (FP.i2d p0)), .second, .val (.double (FP.i2d p1)), .second, .val (.ref w1)] [(.ref w1)])) _
    refine XS.aload X2.here hx rfl (hb hby at_127) rfl rfl ?_
    show Steps p.tables e below (T2.setTop (mkF m 129 #[.val (.int p0), .val (.int p1), .val (.int p2), .val (.int (0 : Int32)), .val (.int (0 : Int32)), .val (.long (p0.toInt64)), .second, .val (.long (p1.toInt64)), .second, .val (.double (FP.i2d p0)), .second, .val (.double (FP.i2d p1)), .second, .val (.ref w1)] [(.ref w1), (.ref w1)])) _
    refine Jvm.RoadKit.acmp (g := (mkF m 129 #[.val (.int p0), .val (.int p1), .val (.int p2), .val (.int (0 : Int32)), .val (.int (0 : Int32)), .val (.long (p0.toInt64)), .second, .val (.long (p1.toInt64)), .second, .val (.double (FP.i2d p0)), .second, .val (.double (FP.i2d p1)), .second, .val (.ref w1)] [(.ref w1), (.ref w1)])) X2 hx rfl rfl rfl (pc0 := 129) (pc' := 132) (same := true) rfl (hb hby at_129) rfl (decide_eq_true rfl) (by decide) (by decide) ?_
    show Steps p.tables e below (T2.setTop (mkF m 132 #[.val (.int p0), .val (.int p1), .val (.int p2), .val (.int (0 : Int32)), .val (.int (0 : Int32)), .val (.long (p0.toInt64)), .second, .val (.long (p1.toInt64)), .second, .val (.double (FP.i2d p0)), .second, .val (.double (FP.i2d p1)), .second, .val (.ref w1)] [])) _
    refine XS.iconst X2.here hx rfl (hb hby at_132) ?_
    show Steps p.tables e below (T2.setTop (mkF m 133 #[.val (.int p0), .val (.int p1), .val (.int p2), .val (.int (0 : Int32)), .val (.int (0 : Int32)), .val (.long (p0.toInt64)), .second, .val (.long (p1.toInt64)), .second, .val (.double (FP.i2d p0)), .second, .val (.double (FP.i2d p1)), .second, .val (.ref w1)] [(.int (1 : Int32))])) _
    refine XS.goto X2.here hx rfl (pc0 := 133) (pc' := 137) rfl (hb hby at_133) (by decide) (by decide) ?_
    show Steps p.tables e below (T2.setTop (mkF m 137 #[.val (.int p0), .val (.int p1), .val (.int p2), .val (.int (0 : Int32)), .val (.int (0 : Int32)), .val (.long (p0.toInt64)), .second, .val (.long (p1.toInt64)), .second, .val (.double (FP.i2d p0)), .second, .val (.double (FP.i2d p1)), .second, .val (.ref w1)] [(.int (1 : Int32))])) _
    exact retN X2 hx (t := .boolean) Bd.returns (by simp) (hb hby at_137) hr
  · exact ⟨rfl, N2, e2⟩
theorem d1_14 : decode prog_15_method_5_code 14 = .ok (.dload_n 0, 1) := by decide +kernel
theorem d1_15 : decode prog_15_method_5_code 15 = .ok (.dload_n 2, 1) := by decide +kernel
theorem d1_16 : decode prog_15_method_5_code 16 = .ok (.dcmp .l, 1) := by decide +kernel
theorem d1_17 : decode prog_15_method_5_code 17 = .ok (.ifCond .le 11, 3) := by decide +kernel
theorem d1_28 : decode prog_15_method_5_code 28 = .ok (.dload_n 0, 1) := by decide +kernel
theorem d1_29 : decode prog_15_method_5_code 29 = .ok (.dload_n 2, 1) := by decide +kernel
theorem d1_30 : decode prog_15_method_5_code 30 = .ok (.dcmp .l, 1) := by decide +kernel
theorem d1_31 : decode prog_15_method_5_code 31 = .ok (.ifCond .ne 11, 3) := by decide +kernel
theorem d1_34 : decode prog_15_method_5_code 34 = .ok (.getstatic 7, 3) := by decide +kernel
theorem d1_37 : decode prog_15_method_5_code 37 = .ok (.astore 4, 2) := by decide +kernel
theorem d1_39 : decode prog_15_method_5_code 39 = .ok (.goto 8, 3) := by decide +kernel
set_option maxRecDepth 65536 in
set_option maxHeartbeats 40000000 in
theorem rm_0_0_1 (l : Launch) (Z : State) (a0 : Array Value) (hw : ∀ d ∈ tables_1, d.before a0 Z = true) (ws : List Jvm.Cond) (x0 x1 : UInt64) (w0 : Addr) (w1 : Addr) (w2 : Addr) (h0 : Heap) (n0 : Nat) (O : Old Z n0 h0) (hG : GG Z w0 w1 w2) (hD : ∀ o, cmpValue (FP.dcmp x0 x1) o = (0 : Int32)) :
    MetFree l (⟨"com/example/fieldward/fieldward/validation/OrderedKind$Order", "of", "(DD)Lcom/example/fieldward/fieldward/validation/OrderedKind$Order;"⟩ : MethodName) (head1 (Jvm.Cond.code (⟨"com/example/fieldward/fieldward/validation/OrderedKind$Order", "of", "(DD)Lcom/example/fieldward/fieldward/validation/OrderedKind$Order;"⟩ : MethodName) prog_15_method_5_code 5 (some (.object "com/example/fieldward/fieldward/validation/OrderedKind$Order")) :: ws) ({ frames := 0, cells := 0, slots := 0, locals := 0 } : Room)) (fun a U => a = #[(.double x0), (.double x1)] ∧ Z.Warmed39 U.vm ∧ U.heap = h0) (fun _ _ _ _ _ => True) (fun _ U o U' => ∃ v L, o = .returned v ∧ Qv (some (.ref w2)) h0 n0 v U'.heap L ∧ FrameEnd U o U' L ({ frames := 0, cells := 0, slots := 0, locals := 0 } : Room).cells ({ frames := 0, cells := 0, slots := 0, locals := 0 } : Room).slots) := by
  refine MetFree.of_bodySF (plainFor_of_name pn_com_example_fieldward_fieldward_validation_OrderedKind_Order) hisR ?_
  intro p e s m args below meth c s₁ Bd hml0 hP hK
  obtain ⟨rfl, hZ, hh⟩ := hP
  have hx := Bd.exec
  have hby := Bd.bytes
  have hml : c.maxLocals = 5 := hml0
  have hown : s.vm.findClass "com/example/fieldward/fieldward/validation/OrderedKind$Order" = some m.cls := findClass_of_methodNamed Bd.named
  have hnm := (name_of_methodNamed Bd.named Bd.method).1
  have X0 : Stand p l e ({ frames := 0, cells := 0, slots := 0, locals := 0 } : Room) s m #[(.double x0), (.double x1)] below meth c s₁ [] 0 0 := Stand.of_body Bd
  have e0 : s₁.heap = h0 := by rw [← hh, Bd.state]; rfl
  have N0 := Fr.nil n0
  have pre0 : ∀ t, Steps p.tables e below (s₁.setTop (mkF m 0 #[.val (.double x0), .second, .val (.double x1), .second, .unset] [])) t → Steps p.tables e below (s₁.setTop (entryFrame m #[(.double x0), (.double x1)] 5)) t := fun t k => castTop (ef_5_DD m x0 x1) k
  obtain ⟨Sw0, Sw1, Sw2, Ew0, Ew1, Ew2⟩ := id hG
  obtain ⟨T1, X1, e1, st1⟩ := getS2 X0 hx hZ hown (host := "") (Or.inl (hw _ (List.mem_of_getElem? (i := 12) rfl))) Via.refl e0 (Sw2.ext O.2) (g := (mkF m 34 #[.val (.double x0), .second, .val (.double x1), .second, .unset] [])) rfl (hb hby d1_34)
  obtain ⟨fs, hr, hrun, hended, hW, hsame⟩ := X1.leave (v := some (.ref w2)) (fun h => by rw [Bd.returns] at h; cases h)
  refine ⟨_, _, pre0 _ ?_, hrun, hended, _, _, rfl, ?_, ⟨_, rfl⟩, hW, hsame.mono (by decide) (by decide)⟩
  · show Steps p.tables e below (s₁.setTop (mkF m 0 #[.val (.double x0), .second, .val (.double x1), .second, .unset] [])) _
    refine XS.dloadN X0.here hx rfl (hb hby d1_0) rfl ?_
    show Steps p.tables e below (s₁.setTop (mkF m 1 #[.val (.double x0), .second, .val (.double x1), .second, .unset] [(.double x0)])) _
    refine XS.dloadN X0.here hx rfl (hb hby d1_1) rfl ?_
    show Steps p.tables e below (s₁.setTop (mkF m 2 #[.val (.double x0), .second, .val (.double x1), .second, .unset] [(.double x1), (.double x0)])) _
    refine XS.dcmpS X0.here hx rfl (hb hby d1_2) rfl rfl ?_
    show Steps p.tables e below (s₁.setTop (mkF m 3 #[.val (.double x0), .second, .val (.double x1), .second, .unset] [(.int (cmpValue (FP.dcmp x0 x1) .g))])) _
    rw [hD]
    show Steps p.tables e below (s₁.setTop (mkF m 3 #[.val (.double x0), .second, .val (.double x1), .second, .unset] [(.int (0 : Int32))])) _
    refine XS.ifYes X0.here hx rfl (pc0 := 3) (pc' := 14) rfl (hb hby d1_3) rfl ((if0 _ _).trans (flt ((by decide) : ¬ ((0 : Int32) < (0 : Int32)))).2.1) (by decide) (by decide) ?_
    show Steps p.tables e below (s₁.setTop (mkF m 14 #[.val (.double x0), .second, .val (.double x1), .second, .unset] [])) _
    refine XS.dloadN X0.here hx rfl (hb hby d1_14) rfl ?_
    show Steps p.tables e below (s₁.setTop (mkF m 15 #[.val (.double x0), .second, .val (.double x1), .second, .unset] [(.double x0)])) _
    refine XS.dloadN X0.here hx rfl (hb hby d1_15) rfl ?_
    show Steps p.tables e below (s₁.setTop (mkF m 16 #[.val (.double x0), .second, .val (.double x1), .second, .unset] [(.double x1), (.double x0)])) _
    refine XS.dcmpS X0.here hx rfl (hb hby d1_16) rfl rfl ?_
    show Steps p.tables e below (s₁.setTop (mkF m 17 #[.val (.double x0), .second, .val (.double x1), .second, .unset] [(.int (cmpValue (FP.dcmp x0 x1) .l))])) _
    rw [hD]
    show Steps p.tables e below (s₁.setTop (mkF m 17 #[.val (.double x0), .second, .val (.double x1), .second, .unset] [(.int (0 : Int32))])) _
    refine XS.ifYes X0.here hx rfl (pc0 := 17) (pc' := 28) rfl (hb hby d1_17) rfl ((if0 _ _).trans (flt ((by decide) : ¬ ((0 : Int32) < (0 : Int32)))).2.2.2) (by decide) (by decide) ?_
    show Steps p.tables e below (s₁.setTop (mkF m 28 #[.val (.double x0), .second, .val (.double x1), .second, .unset] [])) _
    refine XS.dloadN X0.here hx rfl (hb hby d1_28) rfl ?_
    show Steps p.tables e below (s₁.setTop (mkF m 29 #[.val (.double x0), .second, .val (.double x1), .second, .unset] [(.double x0)])) _
    refine XS.dloadN X0.here hx rfl (hb hby d1_29) rfl ?_
    show Steps p.tables e below (s₁.setTop (mkF m 30 #[.val (.double x0), .second, .val (.double x1), .second, .unset] [(.double x1), (.double x0)])) _
    refine XS.dcmpS X0.here hx rfl (hb hby d1_30) rfl rfl ?_
    show Steps p.tables e below (s₁.setTop (mkF m 31 #[.val (.double x0), .second, .val (.double x1), .second, .unset] [(.int (cmpValue (FP.dcmp x0 x1) .l))])) _
    rw [hD]
    show Steps p.tables e below (s₁.setTop (mkF m 31 #[.val (.double x0), .second, .val (.double x1), .second, .unset] [(.int (0 : Int32))])) _
    refine XS.ifNo X0.here hx rfl (hb hby d1_31) rfl ((if0 _ _).trans (teq ((by decide) : (0 : Int32) = (0 : Int32))).2) ?_
    show Steps p.tables e below (s₁.setTop (mkF m 34 #[.val (.double x0), .second, .val (.double x1), .second, .unset] [])) _
    refine st1 _ ?_
    show Steps p.tables e below (T1.setTop (mkF m 37 #[.val (.double x0), .second, .val (.double x1), .second, .unset] [(.ref w2)])) _
    refine XS.astore X1.here hx rfl (hb hby d1_37) rfl rfl (l' := #[.val (.double x0), .second, .val (.double x1), .second, .val (.ref w2)]) rfl ?_
    show Steps p.tables e below (T1.setTop (mkF m 39 #[.val (.double x0), .second, .val (.double x1), .second, .val (.ref w2)] [])) _
    refine XS.goto X1.here hx rfl (pc0 := 39) (pc' := 47) rfl (hb hby d1_39) (by decide) (by decide) ?_
    show Steps p.tables e below (T1.setTop (mkF m 47 #[.val (.double x0), .second, .val (.double x1), .second, .val (.ref w2)] [])) _
    refine XS.aload X1.here hx rfl (hb hby d1_47) rfl rfl ?_
    show Steps p.tables e below (T1.setTop (mkF m 49 #[.val (.double x0), .second, .val (.double x1), .second, .val (.ref w2)] [(.ref w2)])) _
    exact retOut X1 hx Bd.returns rfl (Or.inr (Or.inr (Or.inr (Or.inr ⟨rfl, rfl, rfl⟩)))) (hb hby d1_49) hr
  · exact ⟨rfl, N0, e1⟩
set_option maxRecDepth 65536 in
set_option maxHeartbeats 40000000 in
theorem rl_0_0_1 (l : Launch) (Z : State) (a0 : Array Value) (hw : ∀ d ∈ tables_1, d.before a0 Z = true) (ws : List Jvm.Cond) (p0 p1 p2 : Int32) (w0 : Addr) (w1 : Addr) (w2 : Addr) (h0 : Heap) (n0 : Nat) (O : Old Z n0 h0) (hG : GG Z w0 w1 w2) (hA : p2 &&& (1 : Int32) = (0 : Int32)) (hB : p2 &&& (2 : Int32) = (0 : Int32)) (hL : lcmpW (p0.toInt64) (p1.toInt64) = (0 : Int32)) (hD : ∀ o, cmpValue (FP.dcmp (FP.i2d p0) (FP.i2d p1)) o = (0 : Int32)) :
    MetFree l x (head1 (Jvm.Cond.code x code maxLocals ret :: ws) room_1) (fun a U => a = #[(.int p0), (.int p1), (.int p2)] ∧ Z.Warmed39 U.vm ∧ U.heap = h0) (fun _ _ _ _ _ => True) (fun _ U o U' => ∃ v L, o = .returned v ∧ Qv (some (.int (1 : Int32))) h0 n0 v U'.heap L ∧ FrameEnd U o U' L 0 0) := by
  refine MetFree.of_bodySF (plainFor_of_name pn_com_example_fieldward_fieldward_validation_OrderOfPinLaw) hisR ?_
  intro p e s m args below meth c s₁ Bd hml0 hP hK
  obtain ⟨rfl, hZ, hh⟩ := hP
  have hx := Bd.exec
  have hby := Bd.bytes
  have hml : c.maxLocals = 14 := hml0
  have hown : s.vm.findClass "com/example/fieldward/fieldward/validation/OrderOfPinLaw" = some m.cls := findClass_of_methodNamed Bd.named
  have hnm := (name_of_methodNamed Bd.named Bd.method).1
  have X0 : Stand p l e room_1 s m #[(.int p0), (.int p1), (.int p2)] below meth c s₁ [] 0 0 := Stand.of_body Bd
  have e0 : s₁.heap = h0 := by rw [← hh, Bd.state]; rfl
  have N0 := Fr.nil n0
  have pre0 : ∀ t, Steps p.tables e below (s₁.setTop (mkF m 0 #[.val (.int p0), .val (.int p1), .val (.int p2), .unset, .unset, .unset, .unset, .unset, .unset, .unset, .unset, .unset, .unset, .unset] [])) t → Steps p.tables e below (s₁.setTop (entryFrame m #[(.int p0), (.int p1), (.int p2)] maxLocals)) t := fun t k => castTop (ef_maxLocals_III m p0 p1 p2) k
  obtain ⟨Sw0, Sw1, Sw2, Ew0, Ew1, Ew2⟩ := id hG
  obtain ⟨T1, X1, e1, st1⟩ := getS2 X0 hx hZ hown (host := "") (Or.inl (hw _ (List.mem_of_getElem? (i := 10) rfl))) Via.refl e0 (Sw2.ext O.2) (g := (mkF m 115 #[.val (.int p0), .val (.int p1), .val (.int p2), .val (.int (0 : Int32)), .val (.int (0 : Int32)), .val (.long (p0.toInt64)), .second, .val (.long (p1.toInt64)), .second, .val (.double (FP.i2d p0)), .second, .val (.double (FP.i2d p1)), .second, .unset] [])) rfl (hb hby at_115)
  obtain ⟨_, _, ⟨T2, L2, k2, n2⟩, -, X2, ⟨Lc2, hQ2, l2, y2, z2⟩, st2⟩ := Jvm.LawKit.callS X1 hx (y := (⟨"com/example/fieldward/fieldward/validation/OrderedKind$Order", "of", "(DD)Lcom/example/fieldward/fieldward/validation/OrderedKind$Order;"⟩ : MethodName)) hown (mvT hZ (hw _ (List.mem_of_getElem? (i := 3) rfl))) (mvT hZ (hw _ (List.mem_of_getElem? (i := 4) rfl))) (mvT hZ (hw _ (List.mem_of_getElem? (i := 1) rfl))) (mvT hZ (hw _ (List.mem_of_getElem? (i := 5) rfl))) (by decide) (backOf (W := 0) (rm_0_0_1 l Z a0 hw [] (FP.i2d p0) (FP.i2d p1) w0 w1 w2 h0 n0 O hG hD) hZ (hw _ (List.mem_of_getElem? (i := 5) rfl)) (hw _ (List.mem_of_getElem? (i := 1) rfl)) (by decide) (by decide)) (g := (mkF m 124 #[.val (.int p0), .val (.int p1), .val (.int p2), .val (.int (0 : Int32)), .val (.int (0 : Int32)), .val (.long (p0.toInt64)), .second, .val (.long (p1.toInt64)), .second, .val (.double (FP.i2d p0)), .second, .val (.double (FP.i2d p1)), .second, .val (.ref w2)] [(.double (FP.i2d p1)), (.double (FP.i2d p0))])) rfl (by rw [hml]; rfl) (argsL := [(.double (FP.i2d p0)), (.double (FP.i2d p1))]) (rest := []) (lenOf pd_28DD29Lcom2fexample2ffieldward2ffieldward2fvalidation2fOrderedKind24Order3b rfl) rfl (by show 2 * 0 + _ ≤ _; exact Nat.le_of_eq rfl) (hb hby at_124) (fun _ _ => ⟨rfl, e1, (by decide : 0 + 0 ≤ _), (by decide : 0 + 0 ≤ _)⟩)
  dsimp only [Pt.U, Pt.locs, Pt.cells, Pt.slots] at X2 l2 y2 z2 st2 hQ2
  subst l2 y2 z2
  obtain ⟨rfl, N2q, e2⟩ := hQ2
  have N2 := Fr.app N0 N2q
  obtain ⟨fs, hr, hrun, hended, hW, hsame⟩ := X2.leave (v := some (.int (1 : Int32))) (fun h => by rw [Bd.returns] at h; cases h)
  refine ⟨_, _, pre0 _ ?_, hrun, hended, _, _, rfl, ?_, ⟨_, rfl⟩, hW, hsame.mono (by decide) (by decide)⟩
  · show Steps p.tables e below (s₁.setTop (mkF m 0 #[.val (.int p0), .val (.int p1), .val (.int p2), .unset, .unset, .unset, .unset, .unset, .unset, .unset, .unset, .unset, .unset, .unset] [])) _
    refine XS.iloadN X0.here hx rfl (hb hby at_0) rfl ?_
    show Steps p.tables e below (s₁.setTop (mkF m 1 #[.val (.int p0), .val (.int p1), .val (.int p2), .unset, .unset, .unset, .unset, .unset, .unset, .unset, .unset, .unset, .unset, .unset] [(.int p2)])) _
    refine XS.iconst X0.here hx rfl (hb hby at_1) ?_
    show Steps p.tables e below (s₁.setTop (mkF m 2 #[.val (.int p0), .val (.int p1), .val (.int p2), .unset, .unset, .unset, .unset, .unset, .unset, .unset, .unset, .unset, .unset, .unset] [(.int (1 : Int32)), (.int p2)])) _
    refine XS.iand X0.here hx rfl (hb hby at_2) rfl ?_
    show Steps p.tables e below (s₁.setTop (mkF m 3 #[.val (.int p0), .val (.int p1), .val (.int p2), .unset, .unset, .unset, .unset, .unset, .unset, .unset, .unset, .unset, .unset, .unset] [(.int (p2 &&& (1 : Int32)))])) _
    rw [hA]
    show Steps p.tables e below (s₁.setTop (mkF m 3 #[.val (.int p0), .val (.int p1), .val (.int p2), .unset, .unset, .unset, .unset, .unset, .unset, .unset, .unset, .unset, .unset, .unset] [(.int (0 : Int32))])) _
    refine XS.ifYes X0.here hx rfl (pc0 := 3) (pc' := 10) rfl (hb hby at_3) rfl ((if0 _ _).trans (teq ((by decide) : (0 : Int32) = (0 : Int32))).1) (by decide) (by decide) ?_
    show Steps p.tables e below (s₁.setTop (mkF m 10 #[.val (.int p0), .val (.int p1), .val (.int p2), .unset, .unset, .unset, .unset, .unset, .unset, .unset, .unset, .unset, .unset, .unset] [])) _
    refine XS.iconst X0.here hx rfl (hb hby at_10) ?_
    show Steps p.tables e below (s₁.setTop (mkF m 11 #[.val (.int p0), .val (.int p1), .val (.int p2), .unset, .unset, .unset, .unset, .unset, .unset, .unset, .unset, .unset, .unset, .unset] [(.int (0 : Int32))])) _
    refine XS.istoreN X0.here hx rfl (hb hby at_11) rfl (l' := #[.val (.int p0), .val (.int p1), .val (.int p2), .val (.int (0 : Int32)), .unset, .unset, .unset, .unset, .unset, .unset, .unset, .unset, .unset, .unset]) rfl ?_
    show Steps p.tables e below (s₁.setTop (mkF m 12 #[.val (.int p0), .val (.int p1), .val (.int p2), .val (.int (0 : Int32)), .unset, .unset, .unset, .unset, .unset, .unset, .unset, .unset, .unset, .unset] [])) _
    refine XS.iloadN X0.here hx rfl (hb hby at_12) rfl ?_
    show Steps p.tables e below (s₁.setTop (mkF m 13 #[.val (.int p0), .val (.int p1), .val (.int p2), .val (.int (0 : Int32)), .unset, .unset, .unset, .unset, .unset, .unset, .unset, .unset, .unset, .unset] [(.int p2)])) _
    refine XS.iconst X0.here hx rfl (hb hby at_13) ?_
    show Steps p.tables e below (s₁.setTop (mkF m 14 #[.val (.int p0), .val (.int p1), .val (.int p2), .val (.int (0 : Int32)), .unset, .unset, .unset, .unset, .unset, .unset, .unset, .unset, .unset, .unset] [(.int (2 : Int32)), (.int p2)])) _
    refine XS.iand X0.here hx rfl (hb hby at_14) rfl ?_
    show Steps p.tables e below (s₁.setTop (mkF m 15 #[.val (.int p0), .val (.int p1), .val (.int p2), .val (.int (0 : Int32)), .unset, .unset, .unset, .unset, .unset, .unset, .unset, .unset, .unset, .unset] [(.int (p2 &&& (2 : Int32)))])) _
    refine XS.ifYes X0.here hx rfl (pc0 := 15) (pc' := 22) rfl (hb hby at_15) rfl ((if0 _ _).trans (teq (hB : (p2 &&& (2 : Int32)) = (0 : Int32))).1) (by decide) (by decide) ?_
    show Steps p.tables e below (s₁.setTop (mkF m 22 #[.val (.int p0), .val (.int p1), .val (.int p2), .val (.int (0 : Int32)), .unset, .unset, .unset, .unset, .unset, .unset, .unset, .unset, .unset, .unset] [])) _
    refine XS.iconst X0.here hx rfl (hb hby at_22) ?_
    show Steps p.tables e below (s₁.setTop (mkF m 23 #[.val (.int p0), .val (.int p1), .val (.int p2), .val (.int (0 : Int32)), .unset, .unset, .unset, .unset, .unset, .unset, .unset, .unset, .unset, .unset] [(.int (0 : Int32))])) _
    refine XS.istore X0.here hx rfl (hb hby at_23) rfl (l' := #[.val (.int p0), .val (.int p1), .val (.int p2), .val (.int (0 : Int32)), .val (.int (0 : Int32)), .unset, .unset, .unset, .unset, .unset, .unset, .unset, .unset, .unset]) rfl ?_
    show Steps p.tables e below (s₁.setTop (mkF m 25 #[.val (.int p0), .val (.int p1), .val (.int p2), .val (.int (0 : Int32)), .val (.int (0 : Int32)), .unset, .unset, .unset, .unset, .unset, .unset, .unset, .unset, .unset] [])) _
    refine XS.iloadN X0.here hx rfl (hb hby at_25) rfl ?_
    show Steps p.tables e below (s₁.setTop (mkF m 26 #[.val (.int p0), .val (.int p1), .val (.int p2), .val (.int (0 : Int32)), .val (.int (0 : Int32)), .unset, .unset, .unset, .unset, .unset, .unset, .unset, .unset, .unset] [(.int (0 : Int32))])) _
    refine XS.ifYes X0.here hx rfl (pc0 := 26) (pc' := 35) rfl (hb hby at_26) rfl ((if0 _ _).trans (teq ((by decide) : (0 : Int32) = (0 : Int32))).1) (by decide) (by decide) ?_
    show Steps p.tables e below (s₁.setTop (mkF m 35 #[.val (.int p0), .val (.int p1), .val (.int p2), .val (.int (0 : Int32)), .val (.int (0 : Int32)), .unset, .unset, .unset, .unset, .unset, .unset, .unset, .unset, .unset] [])) _
    refine XS.iloadN X0.here hx rfl (hb hby at_35) rfl ?_
    show Steps p.tables e below (s₁.setTop (mkF m 36 #[.val (.int p0), .val (.int p1), .val (.int p2), .val (.int (0 : Int32)), .val (.int (0 : Int32)), .unset, .unset, .unset, .unset, .unset, .unset, .unset, .unset, .unset] [(.int p0)])) _
    refine XS.i2l X0.here hx rfl (hb hby at_36) rfl ?_
    show Steps p.tables e below (s₁.setTop (mkF m 37 #[.val (.int p0), .val (.int p1), .val (.int p2), .val (.int (0 : Int32)), .val (.int (0 : Int32)), .unset, .unset, .unset, .unset, .unset, .unset, .unset, .unset, .unset] [(.long (p0.toInt64))])) _
    refine XS.lstore X0.here hx rfl (hb hby at_37) rfl (l' := #[.val (.int p0), .val (.int p1), .val (.int p2), .val (.int (0 : Int32)), .val (.int (0 : Int32)), .val (.long (p0.toInt64)), .second, .unset, .unset, .unset, .unset, .unset, .unset, .unset]) rfl ?_
    show Steps p.tables e below (s₁.setTop (mkF m 39 #[.val (.int p0), .val (.int p1), .val (.int p2), .val (.int (0 : Int32)), .val (.int (0 : Int32)), .val (.long (p0.toInt64)), .second, .unset, .unset, .unset, .unset, .unset, .unset, .unset] [])) _
    refine XS.iload X0.here hx rfl (hb hby at_39) rfl ?_
    show Steps p.tables e below (s₁.setTop (mkF m 41 #[.val (.int p0), .val (.int p1), .val (.int p2), .val (.int (0 : Int32)), .val (.int (0 : Int32)), .val (.long (p0.toInt64)), .second, .unset, .unset, .unset, .unset, .unset, .unset, .unset] [(.int (0 : Int32))])) _
    refine XS.ifYes X0.here hx rfl (pc0 := 41) (pc' := 50) rfl (hb hby at_41) rfl ((if0 _ _).trans (teq ((by decide) : (0 : Int32) = (0 : Int32))).1) (by decide) (by decide) ?_
    show Steps p.tables e below (s₁.setTop (mkF m 50 #[.val (.int p0), .val (.int p1), .val (.int p2), .val (.int (0 : Int32)), .val (.int (0 : Int32)), .val (.long (p0.toInt64)), .second, .unset, .unset, .unset, .unset, .unset, .unset, .unset] [])) _
    refine XS.iloadN X0.here hx rfl (hb hby at_50) rfl ?_
    show Steps p.tables e below (s₁.setTop (mkF m 51 #[.val (.int p0), .val (.int p1), .val (.int p2), .val (.int (0 : Int32)), .val (.int (0 : Int32)), .val (.long (p0.toInt64)), .second, .unset, .unset, .unset, .unset, .unset, .unset, .unset] [(.int p1)])) _
    refine XS.i2l X0.here hx rfl (hb hby at_51) rfl ?_
    show Steps p.tables e below (s₁.setTop (mkF m 52 #[.val (.int p0), .val (.int p1), .val (.int p2), .val (.int (0 : Int32)), .val (.int (0 : Int32)), .val (.long (p0.toInt64)), .second, .unset, .unset, .unset, .unset, .unset, .unset, .unset] [(.long (p1.toInt64))])) _
    refine XS.lstore X0.here hx rfl (hb hby at_52) rfl (l' := #[.val (.int p0), .val (.int p1), .val (.int p2), .val (.int (0 : Int32)), .val (.int (0 : Int32)), .val (.long (p0.toInt64)), .second, .val (.long (p1.toInt64)), .second, .unset, .unset, .unset, .unset, .unset]) rfl ?_
    show Steps p.tables e below (s₁.setTop (mkF m 54 #[.val (.int p0), .val (.int p1), .val (.int p2), .val (.int (0 : Int32)), .val (.int (0 : Int32)), .val (.long (p0.toInt64)), .second, .val (.long (p1.toInt64)), .second, .unset, .unset, .unset, .unset, .unset] [])) _
    refine XS.iloadN X0.here hx rfl (hb hby at_54) rfl ?_
    show Steps p.tables e below (s₁.setTop (mkF m 55 #[.val (.int p0), .val (.int p1), .val (.int p2), .val (.int (0 : Int32)), .val (.int (0 : Int32)), .val (.long (p0.toInt64)), .second, .val (.long (p1.toInt64)), .second, .unset, .unset, .unset, .unset, .unset] [(.int (0 : Int32))])) _
    refine XS.ifYes X0.here hx rfl (pc0 := 55) (pc' := 64) rfl (hb hby at_55) rfl ((if0 _ _).trans (teq ((by decide) : (0 : Int32) = (0 : Int32))).1) (by decide) (by decide) ?_
    show Steps p.tables e below (s₁.setTop (mkF m 64 #[.val (.int p0), .val (.int p1), .val (.int p2), .val (.int (0 : Int32)), .val (.int (0 : Int32)), .val (.long (p0.toInt64)), .second, .val (.long (p1.toInt64)), .second, .unset, .unset, .unset, .unset, .unset] [])) _
    refine XS.iloadN X0.here hx rfl (hb hby at_64) rfl ?_
    show Steps p.tables e below (s₁.setTop (mkF m 65 #[.val (.int p0), .val (.int p1), .val (.int p2), .val (.int (0 : Int32)), .val (.int (0 : Int32)), .val (.long (p0.toInt64)), .second, .val (.long (p1.toInt64)), .second, .unset, .unset, .unset, .unset, .unset] [(.int p0)])) _
    refine XS.i2dS X0.here hx rfl (hb hby at_65) rfl rfl ?_
    show Steps p.tables e below (s₁.setTop (mkF m 66 #[.val (.int p0), .val (.int p1), .val (.int p2), .val (.int (0 : Int32)), .val (.int (0 : Int32)), .val (.long (p0.toInt64)), .second, .val (.long (p1.toInt64)), .second, .unset, .unset, .unset, .unset, .unset] [(.double (FP.i2d p0))])) _
    refine XS.dstore X0.here hx rfl (hb hby at_66) rfl (l' := #[.val (.int p0), .val (.int p1), .val (.int p2), .val (.int (0 : Int32)), .val (.int (0 : Int32)), .val (.long (p0.toInt64)), .second, .val (.long (p1.toInt64)), .second, .val (.double (FP.i2d p0)), .second, .unset, .unset, .unset]) rfl ?_
    show Steps p.tables e below (s₁.setTop (mkF m 68 #[.val (.int p0), .val (.int p1), .val (.int p2), .val (.int (0 : Int32)), .val (.int (0 : Int32)), .val (.long (p0.toInt64)), .second, .val (.long (p1.toInt64)), .second, .val (.double (FP.i2d p0)), .second, .unset, .unset, .unset] [])) _
    refine XS.iload X0.here hx rfl (hb hby at_68) rfl ?_
    show Steps p.tables e below (s₁.setTop (mkF m 70 #[.val (.int p0), .val (.int p1), .val (.int p2), .val (.int (0 : Int32)), .val (.int (0 : Int32)), .val (.long (p0.toInt64)), .second, .val (.long (p1.toInt64)), .second, .val (.double (FP.i2d p0)), .second, .unset, .unset, .unset] [(.int (0 : Int32))])) _
    refine XS.ifYes X0.here hx rfl (pc0 := 70) (pc' := 79) rfl (hb hby at_70) rfl ((if0 _ _).trans (teq ((by decide) : (0 : Int32) = (0 : Int32))).1) (by decide) (by decide) ?_
    show Steps p.tables e below (s₁.setTop (mkF m 79 #[.val (.int p0), .val (.int p1), .val (.int p2), .val (.int (0 : Int32)), .val (.int (0 : Int32)), .val (.long (p0.toInt64)), .second, .val (.long (p1.toInt64)), .second, .val (.double (FP.i2d p0)), .second, .unset, .unset, .unset] [])) _
    refine XS.iloadN X0.here hx rfl (hb hby at_79) rfl ?_
    show Steps p.tables e below (s₁.setTop (mkF m 80 #[.val (.int p0), .val (.int p1), .val (.int p2), .val (.int (0 : Int32)), .val (.int (0 : Int32)), .val (.long (p0.toInt64)), .second, .val (.long (p1.toInt64)), .second, .val (.double (FP.i2d p0)), .second, .unset, .unset, .unset] [(.int p1)])) _
    refine XS.i2dS X0.here hx rfl (hb hby at_80) rfl rfl ?_
    show Steps p.tables e below (s₁.setTop (mkF m 81 #[.val (.int p0), .val (.int p1), .val (.int p2), .val (.int (0 : Int32)), .val (.int (0 : Int32)), .val (.long (p0.toInt64)), .second, .val (.long (p1.toInt64)), .second, .val (.double (FP.i2d p0)), .second, .unset, .unset, .unset] [(.double (FP.i2d p1))])) _
    refine XS.dstore X0.here hx rfl (hb hby at_81) rfl (l' := #[.val (.int p0), .val (.int p1), .val (.int p2), .val (.int (0 : Int32)), .val (.int (0 : Int32)), .val (.long (p0.toInt64)), .second, .val (.long (p1.toInt64)), .second, .val (.double (FP.i2d p0)), .second, .val (.double (FP.i2d p1)), .second, .unset]) rfl ?_
    show Steps p.tables e below (s₁.setTop (mkF m 83 #[.val (.int p0), .val (.int p1), .val (.int p2), .val (.int (0 : Int32)), .val (.int (0 : Int32)), .val (.long (p0.toInt64)), .second, .val (.long (p1.toInt64)), .second, .val (.double (FP.i2d p0)), .second, .val (.double (FP.i2d p1)), .second, .unset] [])) _
    refine XS.lload X0.here hx rfl (hb hby at_83) rfl ?_
    show Steps p.tables e below (s₁.setTop (mkF m 85 #[.val (.int p0), .val (.int p1), .val (.int p2), .val (.int (0 : Int32)), .val (.int (0 : Int32)), .val (.long (p0.toInt64)), .second, .val (.long (p1.toInt64)), .second, .val (.double (FP.i2d p0)), .second, .val (.double (FP.i2d p1)), .second, .unset] [(.long (p0.toInt64))])) _
    refine XS.lload X0.here hx rfl (hb hby at_85) rfl ?_
    show Steps p.tables e below (s₁.setTop (mkF m 87 #[.val (.int p0), .val (.int p1), .val (.int p2), .val (.int (0 : Int32)), .val (.int (0 : Int32)), .val (.long (p0.toInt64)), .second, .val (.long (p1.toInt64)), .second, .val (.double (FP.i2d p0)), .second, .val (.double (FP.i2d p1)), .second, .unset] [(.long (p1.toInt64)), (.long (p0.toInt64))])) _
    refine XS.lcmp X0.here hx rfl (hb hby at_87) rfl ?_
    show Steps p.tables e below (s₁.setTop (mkF m 88 #[.val (.int p0), .val (.int p1), .val (.int p2), .val (.int (0 : Int32)), .val (.int (0 : Int32)), .val (.long (p0.toInt64)), .second, .val (.long (p1.toInt64)), .second, .val (.double (FP.i2d p0)), .second, .val (.double (FP.i2d p1)), .second, .unset] [(.int (lcmpW (p0.toInt64) (p1.toInt64)))])) _
    rw [hL]
    show Steps p.tables e below (s₁.setTop (mkF m 88 #[.val (.int p0), .val (.int p1), .val (.int p2), .val (.int (0 : Int32)), .val (.int (0 : Int32)), .val (.long (p0.toInt64)), .second, .val (.long (p1.toInt64)), .second, .val (.double (FP.i2d p0)), .second, .val (.double (FP.i2d p1)), .second, .unset] [(.int (0 : Int32))])) _
    refine XS.ifYes X0.here hx rfl (pc0 := 88) (pc' := 99) rfl (hb hby at_88) rfl ((if0 _ _).trans (flt ((by decide) : ¬ ((0 : Int32) < (0 : Int32)))).2.1) (by decide) (by decide) ?_
    show Steps p.tables e below (s₁.setTop (mkF m 99 #[.val (.int p0), .val (.int p1), .val (.int p2), .val (.int (0 : Int32)), .val (.int (0 : Int32)), .val (.long (p0.toInt64)), .second, .val (.long (p1.toInt64)), .second, .val (.double (FP.i2d p0)), .second, .val (.double (FP.i2d p1)), .second, .unset] [])) _
    refine XS.lload X0.here hx rfl (hb hby at_99) rfl ?_
    show Steps p.tables e below (s₁.setTop (mkF m 101 #[.val (.int p0), .val (.int p1), .val (.int p2), .val (.int (0 : Int32)), .val (.int (0 : Int32)), .val (.long (p0.toInt64)), .second, .val (.long (p1.toInt64)), .second, .val (.double (FP.i2d p0)), .second, .val (.double (FP.i2d p1)), .second, .unset] [(.long (p0.toInt64))])) _
    refine XS.lload X0.here hx rfl (hb hby at_101) rfl ?_
    show Steps p.tables e below (s₁.setTop (mkF m 103 #[.val (.int p0), .val (.int p1), .val (.int p2), .val (.int (0 : Int32)), .val (.int (0 : Int32)), .val (.long (p0.toInt64)), .second, .val (.long (p1.toInt64)), .second, .val (.double (FP.i2d p0)), .second, .val (.double (FP.i2d p1)), .second, .unset] [(.long (p1.toInt64)), (.long (p0.toInt64))])) _
    refine XS.lcmp X0.here hx rfl (hb hby at_103) rfl ?_
    show Steps p.tables e below (s₁.setTop (mkF m 104 #[.val (.int p0), .val (.int p1), .val (.int p2), .val (.int (0 : Int32)), .val (.int (0 : Int32)), .val (.long (p0.toInt64)), .second, .val (.long (p1.toInt64)), .second, .val (.double (FP.i2d p0)), .second, .val (.double (FP.i2d p1)), .second, .unset] [(.int (lcmpW (p0.toInt64) (p1.toInt64)))])) _
    rw [hL]
    show Steps p.tables e below (s₁.setTop (mkF m 104 #[.val (.int p0), .val (.int p1), .val (.int p2), .val (.int (0 : Int32)), .val (.int (0 : Int32)), .val (.long (p0.toInt64)), .second, .val (.long (p1.toInt64)), .second, .val (.double (FP.i2d p0)), .second, .val (.double (FP.i2d p1)), .second, .unset] [(.int (0 : Int32))])) _
    refine XS.ifYes X0.here hx rfl (pc0 := 104) (pc' := 115) rfl (hb hby at_104) rfl ((if0 _ _).trans (flt ((by decide) : ¬ ((0 : Int32) < (0 : Int32)))).2.2.2) (by decide) (by decide) ?_
    show Steps p.tables e below (s₁.setTop (mkF m 115 #[.val (.int p0), .val (.int p1), .val (.int p2), .val (.int (0 : Int32)), .val (.int (0 : Int32)), .val (.long (p0.toInt64)), .second, .val (.long (p1.toInt64)), .second, .val (.double (FP.i2d p0)), .second, .val (.double (FP.i2d p1)), .second, .unset] [])) _
    refine st1 _ ?_
    show Steps p.tables e below (T1.setTop (mkF m 118 #[.val (.int p0), .val (.int p1), .val (.int p2), .val (.int (0 : Int32)), .val (.int (0 : Int32)), .val (.long (p0.toInt64)), .second, .val (.long (p1.toInt64)), .second, .val (.double (FP.i2d p0)), .second, .val (.double (FP.i2d p1)), .second, .unset] [(.ref w2)])) _
    refine XS.astore X1.here hx rfl (hb hby at_118) rfl rfl (l' := #[.val (.int p0), .val (.int p1), .val (.int p2), .val (.int (0 : Int32)), .val (.int (0 : Int32)), .val (.long (p0.toInt64)), .second, .val (.long (p1.toInt64)), .second, .val (.double (FP.i2d p0)), .second, .val (.double (FP.i2d p1)), .second, .val (.ref w2)]) rfl ?_
    show Steps p.tables e below (T1.setTop (mkF m 120 #[.val (.int p0), .val (.int p1), .val (.int p2), .val (.int (0 : Int32)), .val (.int (0 : Int32)), .val (.long (p0.toInt64)), .second, .val (.long (p1.toInt64)), .second, .val (.double (FP.i2d p0)), .second, .val (.double (FP.i2d p1)), .second, .val (.ref w2)] [])) _
    refine XS.dload X1.here hx rfl (hb hby at_120) rfl ?_
    show Steps p.tables e below (T1.setTop (mkF m 122 #[.val (.int p0), .val (.int p1), .val (.int p2), .val (.int (0 : Int32)), .val (.int (0 : Int32)), .val (.long (p0.toInt64)), .second, .val (.long (p1.toInt64)), .second, .val (.double (FP.i2d p0)), .second, .val (.double (FP.i2d p1)), .second, .val (.ref w2)] [(.double (FP.i2d p0))])) _
    refine XS.dload X1.here hx rfl (hb hby at_122) rfl ?_
    show Steps p.tables e below (T1.setTop (mkF m 124 #[.val (.int p0), .val (.int p1), .val (.int p2), .val (.int (0 : Int32)), .val (.int (0 : Int32)), .val (.long (p0.toInt64)), .second, .val (.long (p1.toInt64)), .second, .val (.double (FP.i2d p0)), .second, .val (.double (FP.i2d p1)), .second, .val (.ref w2)] [(.double (FP.i2d p1)), (.double (FP.i2d p0))])) _
    refine st2 _ ?_
    show Steps p.tables e below (T2.setTop (mkF m 127 #[.val (.int p0), .val (.int p1), .val (.int p2), .val (.int (0 : Int32)), .val (.int (0 : Int32)), .val (.long (p0.toInt64)), .second, .val (.long (p1.toInt64)), .second, .val (.double (FP.i2d p0)), .second, .val (.double (FP.i2d p1)), .second, .val (.ref w2)] [(.ref w2)])) _
    refine XS.aload X2.here hx rfl (hb hby at_127) rfl rfl ?_
    show Steps p.tables e below (T2.setTop (mkF m 129 #[.val (.int p0), .val (.int p1), .val (.int p2), .val (.int (0 : Int32)), .val (.int (0 : Int32)), .val (.long (p0.toInt64)), .second, .val (.long (p1.toInt64)), .second, .val (.double (FP.i2d p0)), .second, .val (.double (FP.i2d p1)), .second, .val (.ref w2)] [(.ref w2), (.ref w2)])) _
    refine Jvm.RoadKit.acmp (g := (mkF m 129 #[.val (.int p0), .val (.int p1), .val (.int p2), .val (.int (0 : Int32)), .val (.int (0 : Int32)), .val (.long (p0.toInt64)), .second, .val (.long (p1.toInt64)), .second, .val (.double (FP.i2d p0)), .second, .val (.double (FP.i2d p1)), .second, .val (.ref w2)] [(.ref w2), (.ref w2)])) X2 hx rfl rfl rfl (pc0 := 129) (pc' := 132) (same := true) rfl (hb hby at_129) rfl (decide_eq_true rfl) (by decide) (by decide) ?_
    show Steps p.tables e below (T2.setTop (mkF m 132 #[.val (.int p0), .val (.int p1), .val (.int p2), .val (.int (0 : Int32)), .val (.int (0 : Int32)), .val (.long (p0.toInt64)), .second, .val (.long (p1.toInt64)), .second, .val (.double (FP.i2d p0)), .second, .val (.double (FP.i2d p1)), .second, .val (.ref w2)] [])) _
    refine XS.iconst X2.here hx rfl (hb hby at_132) ?_
    show Steps p.tables e below (T2.setTop (mkF m 133 #[.val (.int p0), .val (.int p1), .val (.int p2), .val (.int (0 : Int32)), .val (.int (0 : Int32)), .val (.long (p0.toInt64)), .second, .val (.long (p1.toInt64)), .second, .val (.double (FP.i2d p0)), .second, .val (.double (FP.i2d p1)), .second, .val (.ref w2)] [(.int (1 : Int32))])) _
    refine XS.goto X2.here hx rfl (pc0 := 133) (pc' := 137) rfl (hb hby at_133) (by decide) (by decide) ?_
    show Steps p.tables e below (T2.setTop (mkF m 137 #[.val (.int p0), .val (.int p1), .val (.int p2), .val (.int (0 : Int32)), .val (.int (0 : Int32)), .val (.long (p0.toInt64)), .second, .val (.long (p1.toInt64)), .second, .val (.double (FP.i2d p0)), .second, .val (.double (FP.i2d p1)), .second, .val (.ref w2)] [(.int (1 : Int32))])) _
    exact retN X2 hx (t := .boolean) Bd.returns (by simp) (hb hby at_137) hr
  · exact ⟨rfl, N2, e2⟩
theorem d1_20 : decode prog_15_method_5_code 20 = .ok (.getstatic 10, 3) := by decide +kernel
theorem d1_23 : decode prog_15_method_5_code 23 = .ok (.astore 4, 2) := by decide +kernel
theorem d1_25 : decode prog_15_method_5_code 25 = .ok (.goto 22, 3) := by decide +kernel
set_option maxRecDepth 65536 in
set_option maxHeartbeats 40000000 in
theorem rm_0_0_2 (l : Launch) (Z : State) (a0 : Array Value) (hw : ∀ d ∈ tables_1, d.before a0 Z = true) (ws : List Jvm.Cond) (x0 x1 : UInt64) (w0 : Addr) (w1 : Addr) (w2 : Addr) (h0 : Heap) (n0 : Nat) (O : Old Z n0 h0) (hG : GG Z w0 w1 w2) (hD : ∀ o, cmpValue (FP.dcmp x0 x1) o = (1 : Int32)) :
    MetFree l (⟨"com/example/fieldward/fieldward/validation/OrderedKind$Order", "of", "(DD)Lcom/example/fieldward/fieldward/validation/OrderedKind$Order;"⟩ : MethodName) (head1 (Jvm.Cond.code (⟨"com/example/fieldward/fieldward/validation/OrderedKind$Order", "of", "(DD)Lcom/example/fieldward/fieldward/validation/OrderedKind$Order;"⟩ : MethodName) prog_15_method_5_code 5 (some (.object "com/example/fieldward/fieldward/validation/OrderedKind$Order")) :: ws) ({ frames := 0, cells := 0, slots := 0, locals := 0 } : Room)) (fun a U => a = #[(.double x0), (.double x1)] ∧ Z.Warmed39 U.vm ∧ U.heap = h0) (fun _ _ _ _ _ => True) (fun _ U o U' => ∃ v L, o = .returned v ∧ Qv (some (.ref w0)) h0 n0 v U'.heap L ∧ FrameEnd U o U' L ({ frames := 0, cells := 0, slots := 0, locals := 0 } : Room).cells ({ frames := 0, cells := 0, slots := 0, locals := 0 } : Room).slots) := by
  refine MetFree.of_bodySF (plainFor_of_name pn_com_example_fieldward_fieldward_validation_OrderedKind_Order) hisR ?_
  intro p e s m args below meth c s₁ Bd hml0 hP hK
  obtain ⟨rfl, hZ, hh⟩ := hP
  have hx := Bd.exec
  have hby := Bd.bytes
  have hml : c.maxLocals = 5 := hml0
  have hown : s.vm.findClass "com/example/fieldward/fieldward/validation/OrderedKind$Order" = some m.cls := findClass_of_methodNamed Bd.named
  have hnm := (name_of_methodNamed Bd.named Bd.method).1
  have X0 : Stand p l e ({ frames := 0, cells := 0, slots := 0, locals := 0 } : Room) s m #[(.double x0), (.double x1)] below meth c s₁ [] 0 0 := Stand.of_body Bd
  have e0 : s₁.heap = h0 := by rw [← hh, Bd.state]; rfl
  have N0 := Fr.nil n0
  have pre0 : ∀ t, Steps p.tables e below (s₁.setTop (mkF m 0 #[.val (.double x0), .second, .val (.double x1), .second, .unset] [])) t → Steps p.tables e below (s₁.setTop (entryFrame m #[(.double x0), (.double x1)] 5)) t := fun t k => castTop (ef_5_DD m x0 x1) k
  obtain ⟨Sw0, Sw1, Sw2, Ew0, Ew1, Ew2⟩ := id hG
  obtain ⟨T1, X1, e1, st1⟩ := getS2 X0 hx hZ hown (host := "") (Or.inl (hw _ (List.mem_of_getElem? (i := 6) rfl))) Via.refl e0 (Sw0.ext O.2) (g := (mkF m 20 #[.val (.double x0), .second, .val (.double x1), .second, .unset] [])) rfl (hb hby d1_20)
  obtain ⟨fs, hr, hrun, hended, hW, hsame⟩ := X1.leave (v := some (.ref w0)) (fun h => by rw [Bd.returns] at h; cases h)
  refine ⟨_, _, pre0 _ ?_, hrun, hended, _, _, rfl, ?_, ⟨_, rfl⟩, hW, hsame.mono (by decide) (by decide)⟩
  · show Steps p.tables e below (s₁.setTop (mkF m 0 #[.val (.double x0), .second, .val (.double x1), .second, .unset] [])) _
    refine XS.dloadN X0.here hx rfl (hb hby d1_0) rfl ?_
    show Steps p.tables e below (s₁.setTop (mkF m 1 #[.val (.double x0), .second, .val (.double x1), .second, .unset] [(.double x0)])) _
    refine XS.dloadN X0.here hx rfl (hb hby d1_1) rfl ?_
    show Steps p.tables e below (s₁.setTop (mkF m 2 #[.val (.double x0), .second, .val (.double x1), .second, .unset] [(.double x1), (.double x0)])) _
    refine XS.dcmpS X0.here hx rfl (hb hby d1_2) rfl rfl ?_
    show Steps p.tables e below (s₁.setTop (mkF m 3 #[.val (.double x0), .second, .val (.double x1), .second, .unset] [(.int (cmpValue (FP.dcmp x0 x1) .g))])) _
    rw [hD]
    show Steps p.tables e below (s₁.setTop (mkF m 3 #[.val (.double x0), .second, .val (.double x1), .second, .unset] [(.int (1 : Int32))])) _
    refine XS.ifYes X0.here hx rfl (pc0 := 3) (pc' := 14) rfl (hb hby d1_3) rfl ((if0 _ _).trans (flt ((by decide) : ¬ ((1 : Int32) < (0 : Int32)))).2.1) (by decide) (by decide) ?_
    show Steps p.tables e below (s₁.setTop (mkF m 14 #[.val (.double x0), .second, .val (.double x1), .second, .unset] [])) _
    refine XS.dloadN X0.here hx rfl (hb hby d1_14) rfl ?_
    show Steps p.tables e below (s₁.setTop (mkF m 15 #[.val (.double x0), .second, .val (.double x1), .second, .unset] [(.double x0)])) _
    refine XS.dloadN X0.here hx rfl (hb hby d1_15) rfl ?_
    show Steps p.tables e below (s₁.setTop (mkF m 16 #[.val (.double x0), .second, .val (.double x1), .second, .unset] [(.double x1), (.double x0)])) _
    refine XS.dcmpS X0.here hx rfl (hb hby d1_16) rfl rfl ?_
    show Steps p.tables e below (s₁.setTop (mkF m 17 #[.val (.double x0), .second, .val (.double x1), .second, .unset] [(.int (cmpValue (FP.dcmp x0 x1) .l))])) _
    rw [hD]
    show Steps p.tables e below (s₁.setTop (mkF m 17 #[.val (.double x0), .second, .val (.double x1), .second, .unset] [(.int (1 : Int32))])) _
    refine XS.ifNo X0.here hx rfl (hb hby d1_17) rfl ((if0 _ _).trans (tlt ((by decide) : (0 : Int32) < (1 : Int32))).2.2.2) ?_
    show Steps p.tables e below (s₁.setTop (mkF m 20 #[.val (.double x0), .second, .val (.double x1), .second, .unset] [])) _
    refine st1 _ ?_
    show Steps p.tables e below (T1.setTop (mkF m 23 #[.val (.double x0), .second, .val (.double x1), .second, .unset] [(.ref w0)])) _
    refine XS.astore X1.here hx rfl (hb hby d1_23) rfl rfl (l' := #[.val (.double x0), .second, .val (.double x1), .second, .val (.ref w0)]) rfl ?_
    show Steps p.tables e below (T1.setTop (mkF m 25 #[.val (.double x0), .second, .val (.double x1), .second, .val (.ref w0)] [])) _
    refine XS.goto X1.here hx rfl (pc0 := 25) (pc' := 47) rfl (hb hby d1_25) (by decide) (by decide) ?_
    show Steps p.tables e below (T1.setTop (mkF m 47 #[.val (.double x0), .second, .val (.double x1), .second, .val (.ref w0)] [])) _
    refine XS.aload X1.here hx rfl (hb hby d1_47) rfl rfl ?_
    show Steps p.tables e below (T1.setTop (mkF m 49 #[.val (.double x0), .second, .val (.double x1), .second, .val (.ref w0)] [(.ref w0)])) _
    exact retOut X1 hx Bd.returns rfl (Or.inr (Or.inr (Or.inr (Or.inr ⟨rfl, rfl, rfl⟩)))) (hb hby d1_49) hr
  · exact ⟨rfl, N0, e1⟩
set_option maxRecDepth 65536 in
set_option maxHeartbeats 40000000 in
theorem rl_0_0_2 (l : Launch) (Z : State) (a0 : Array Value) (hw : ∀ d ∈ tables_1, d.before a0 Z = true) (ws : List Jvm.Cond) (p0 p1 p2 : Int32) (w0 : Addr) (w1 : Addr) (w2 : Addr) (h0 : Heap) (n0 : Nat) (O : Old Z n0 h0) (hG : GG Z w0 w1 w2) (hA : p2 &&& (1 : Int32) = (0 : Int32)) (hB : p2 &&& (2 : Int32) = (0 : Int32)) (hL : lcmpW (p0.toInt64) (p1.toInt64) = (1 : Int32)) (hD : ∀ o, cmpValue (FP.dcmp (FP.i2d p0) (FP.i2d p1)) o = (1 : Int32)) :
    MetFree l x (head1 (Jvm.Cond.code x code maxLocals ret :: ws) room_1) (fun a U => a = #[(.int p0), (.int p1), (.int p2)] ∧ Z.Warmed39 U.vm ∧ U.heap = h0) (fun _ _ _ _ _ => True) (fun _ U o U' => ∃ v L, o = .returned v ∧ Qv (some (.int (1 : Int32))) h0 n0 v U'.heap L ∧ FrameEnd U o U' L 0 0) := by
  refine MetFree.of_bodySF (plainFor_of_name pn_com_example_fieldward_fieldward_validation_OrderOfPinLaw) hisR ?_
  intro p e s m args below meth c s₁ Bd hml0 hP hK
  obtain ⟨rfl, hZ, hh⟩ := hP
  have hx := Bd.exec
  have hby := Bd.bytes
  have hml : c.maxLocals = 14 := hml0
  have hown : s.vm.findClass "com/example/fieldward/fieldward/validation/OrderOfPinLaw" = some m.cls := findClass_of_methodNamed Bd.named
  have hnm := (name_of_methodNamed Bd.named Bd.method).1
  have X0 : Stand p l e room_1 s m #[(.int p0), (.int p1), (.int p2)] below meth c s₁ [] 0 0 := Stand.of_body Bd
  have e0 : s₁.heap = h0 := by rw [← hh, Bd.state]; rfl
  have N0 := Fr.nil n0
  have pre0 : ∀ t, Steps p.tables e below (s₁.setTop (mkF m 0 #[.val (.int p0), .val (.int p1), .val (.int p2), .unset, .unset, .unset, .unset, .unset, .unset, .unset, .unset, .unset, .unset, .unset] [])) t → Steps p.tables e below (s₁.setTop (entryFrame m #[(.int p0), (.int p1), (.int p2)] maxLocals)) t := fun t k => castTop (ef_maxLocals_III m p0 p1 p2) k
  obtain ⟨Sw0, Sw1, Sw2, Ew0, Ew1, Ew2⟩ := id hG
  obtain ⟨T1, X1, e1, st1⟩ := getS2 X0 hx hZ hown (host := "") (Or.inl (hw _ (List.mem_of_getElem? (i := 0) rfl))) Via.refl e0 (Sw0.ext O.2) (g := (mkF m 107 #[.val (.int p0), .val (.int p1), .val (.int p2), .val (.int (0 : Int32)), .val (.int (0 : Int32)), .val (.long (p0.toInt64)), .second, .val (.long (p1.toInt64)), .second, .val (.double (FP.i2d p0)), .second, .val (.double (FP.i2d p1)), .second, .unset] [])) rfl (hb hby at_107)
  obtain ⟨_, _, ⟨T2, L2, k2, n2⟩, -, X2, ⟨Lc2, hQ2, l2, y2, z2⟩, st2⟩ := Jvm.LawKit.callS X1 hx (y := (⟨"com/example/fieldward/fieldward/validation/OrderedKind$Order", "of", "(DD)Lcom/example/fieldward/fieldward/validation/OrderedKind$Order;"⟩ : MethodName)) hown (mvT hZ (hw _ (List.mem_of_getElem? (i := 3) rfl))) (mvT hZ (hw _ (List.mem_of_getElem? (i := 4) rfl))) (mvT hZ (hw _ (List.mem_of_getElem? (i := 1) rfl))) (mvT hZ (hw _ (List.mem_of_getElem? (i := 5) rfl))) (by decide) (backOf (W := 0) (rm_0_0_2 l Z a0 hw [] (FP.i2d p0) (FP.i2d p1) w0 w1 w2 h0 n0 O hG hD) hZ (hw _ (List.mem_of_getElem? (i := 5) rfl)) (hw _ (List.mem_of_getElem? (i := 1) rfl)) (by decide) (by decide)) (g := (mkF m 124 #[.val (.int p0), .val (.int p1), .val (.int p2), .val (.int (0 : Int32)), .val (.int (0 : Int32)), .val (.long (p0.toInt64)), .second, .val (.long (p1.toInt64)), .second, .val (.double (FP.i2d p0)), .second, .val (.double (FP.i2d p1)), .second, .val (.ref w0)] [(.double (FP.i2d p1)), (.double (FP.i2d p0))])) rfl (by rw [hml]; rfl) (argsL := [(.double (FP.i2d p0)), (.double (FP.i2d p1))]) (rest := []) (lenOf pd_28DD29Lcom2fexample2ffieldward2ffieldward2fvalidation2fOrderedKind24Order3b rfl) rfl (by show 2 * 0 + _ ≤ _; exact Nat.le_of_eq rfl) (hb hby at_124) (fun _ _ => ⟨rfl, e1, (by decide : 0 + 0 ≤ _), (by decide : 0 + 0 ≤ _)⟩)
  dsimp only [Pt.U, Pt.locs, Pt.cells, Pt.slots] at X2 l2 y2 z2 st2 hQ2
  subst l2 y2 z2
  obtain ⟨rfl, N2q, e2⟩ := hQ2
  have N2 := Fr.app N0 N2q
  obtain ⟨fs, hr, hrun, hended, hW, hsame⟩ := X2.leave (v := some (.int (1 : Int32))) (fun h => by rw [Bd.returns] at h; cases h)
  refine ⟨_, _, pre0 _ ?_, hrun, hended, _, _, rfl, ?_, ⟨_, rfl⟩, hW, hsame.mono (by decide) (by decide)⟩
  · show Steps p.tables e below (s₁.setTop (mkF m 0 #[.val (.int p0), .val (.int p1), .val (.int p2), .unset, .unset, .unset, .unset, .unset, .unset, .unset, .unset, .unset, .unset, .unset] [])) _
    refine XS.iloadN X0.here hx rfl (hb hby at_0) rfl ?_
    show Steps p.tables e below (s₁.setTop (mkF m 1 #[.val (.int p0), .val (.int p1), .val (.int p2), .unset, .unset, .unset, .unset, .unset, .unset, .unset, .unset, .unset, .unset, .unset] [(.int p2)])) _
    refine XS.iconst X0.here hx rfl (hb hby at_1) ?_
    show Steps p.tables e below (s₁.setTop (mkF m 2 #[.val (.int p0), .val (.int p1), .val (.int p2), .unset, .unset, .unset, .unset, .unset, .unset, .unset, .unset, .unset, .unset, .unset] [(.int (1 : Int32)), (.int p2)])) _
    refine XS.iand X0.here hx rfl (hb hby at_2) rfl ?_
    show Steps p.tables e below (s₁.setTop (mkF m 3 #[.val (.int p0), .val (.int p1), .val (.int p2), .unset, .unset, .unset, .unset, .unset, .unset, .unset, .unset, .unset, .unset, .unset] [(.int (p2 &&& (1 : Int32)))])) _
    rw [hA]
    show Steps p.tables e below (s₁.setTop (mkF m 3 #[.val (.int p0), .val (.int p1), .val (.int p2), .unset, .unset, .unset, .unset, .unset, .unset, .unset, .unset, .unset, .unset, .unset] [(.int (0 : Int32))])) _
    refine XS.ifYes X0.here hx rfl (pc0 := 3) (pc' := 10) rfl (hb hby at_3) rfl ((if0 _ _).trans (teq ((by decide) : (0 : Int32) = (0 : Int32))).1) (by decide) (by decide) ?_
    show Steps p.tables e below (s₁.setTop (mkF m 10 #[.val (.int p0), .val (.int p1), .val (.int p2), .unset, .unset, .unset, .unset, .unset, .unset, .unset, .unset, .unset, .unset, .unset] [])) _
    refine XS.iconst X0.here hx rfl (hb hby at_10) ?_
    show Steps p.tables e below (s₁.setTop (mkF m 11 #[.val (.int p0), .val (.int p1), .val (.int p2), .unset, .unset, .unset, .unset, .unset, .unset, .unset, .unset, .unset, .unset, .unset] [(.int (0 : Int32))])) _
    refine XS.istoreN X0.here hx rfl (hb hby at_11) rfl (l' := #[.val (.int p0), .val (.int p1), .val (.int p2), .val (.int (0 : Int32)), .unset, .unset, .unset, .unset, .unset, .unset, .unset, .unset, .unset, .unset]) rfl ?_
    show Steps p.tables e below (s₁.setTop (mkF m 12 #[.val (.int p0), .val (.int p1), .val (.int p2), .val (.int (0 : Int32)), .unset, .unset, .unset, .unset, .unset, .unset, .unset, .unset, .unset, .unset] [])) _
    refine XS.iloadN X0.here hx rfl (hb hby at_12) rfl ?_
    show Steps p.tables e below (s₁.setTop (mkF m 13 #[.val (.int p0), .val (.int p1), .val (.int p2), .val (.int (0 : Int32)), .unset, .unset, .unset, .unset, .unset, .unset, .unset, .unset, .unset, .unset] [(.int p2)])) _
    refine XS.iconst X0.here hx rfl (hb hby at_13) ?_
    show Steps p.tables e below (s₁.setTop (mkF m 14 #[.val (.int p0), .val (.int p1), .val (.int p2), .val (.int (0 : Int32)), .unset, .unset, .unset, .unset, .unset, .unset, .unset, .unset, .unset, .unset] [(.int (2 : Int32)), (.int p2)])) _
    refine XS.iand X0.here hx rfl (hb hby at_14) rfl ?_
    show Steps p.tables e below (s₁.setTop (mkF m 15 #[.val (.int p0), .val (.int p1), .val (.int p2), .val (.int (0 : Int32)), .unset, .unset, .unset, .unset, .unset, .unset, .unset, .unset, .unset, .unset] [(.int (p2 &&& (2 : Int32)))])) _
    refine XS.ifYes X0.here hx rfl (pc0 := 15) (pc' := 22) rfl (hb hby at_15) rfl ((if0 _ _).trans (teq (hB : (p2 &&& (2 : Int32)) = (0 : Int32))).1) (by decide) (by decide) ?_
    show Steps p.tables e below (s₁.setTop (mkF m 22 #[.val (.int p0), .val (.int p1), .val (.int p2), .val (.int (0 : Int32)), .unset, .unset, .unset, .unset, .unset, .unset, .unset, .unset, .unset, .unset] [])) _
    refine XS.iconst X0.here hx rfl (hb hby at_22) ?_
    show Steps p.tables e below (s₁.setTop (mkF m 23 #[.val (.int p0), .val (.int p1), .val (.int p2), .val (.int (0 : Int32)), .unset, .unset, .unset, .unset, .unset, .unset, .unset, .unset, .unset, .unset] [(.int (0 : Int32))])) _
    refine XS.istore X0.here hx rfl (hb hby at_23) rfl (l' := #[.val (.int p0), .val (.int p1), .val (.int p2), .val (.int (0 : Int32)), .val (.int (0 : Int32)), .unset, .unset, .unset, .unset, .unset, .unset, .unset, .unset, .unset]) rfl ?_
    show Steps p.tables e below (s₁.setTop (mkF m 25 #[.val (.int p0), .val (.int p1), .val (.int p2), .val (.int (0 : Int32)), .val (.int (0 : Int32)), .unset, .unset, .unset, .unset, .unset, .unset, .unset, .unset, .unset] [])) _
    refine XS.iloadN X0.here hx rfl (hb hby at_25) rfl ?_
    show Steps p.tables e below (s₁.setTop (mkF m 26 #[.val (.int p0), .val (.int p1), .val (.int p2), .val (.int (0 : Int32)), .val (.int (0 : Int32)), .unset, .unset, .unset, .unset, .unset, .unset, .unset, .unset, .unset] [(.int (0 : Int32))])) _
    refine XS.ifYes X0.here hx rfl (pc0 := 26) (pc' := 35) rfl (hb hby at_26) rfl ((if0 _ _).trans (teq ((by decide) : (0 : Int32) = (0 : Int32))).1) (by decide) (by decide) ?_
    show Steps p.tables e below (s₁.setTop (mkF m 35 #[.val (.int p0), .val (.int p1), .val (.int p2), .val (.int (0 : Int32)), .val (.int (0 : Int32)), .unset, .unset, .unset, .unset, .unset, .unset, .unset, .unset, .unset] [])) _
    refine XS.iloadN X0.here hx rfl (hb hby at_35) rfl ?_
    show Steps p.tables e below (s₁.setTop (mkF m 36 #[.val (.int p0), .val (.int p1), .val (.int p2), .val (.int (0 : Int32)), .val (.int (0 : Int32)), .unset, .unset, .unset, .unset, .unset, .unset, .unset, .unset, .unset] [(.int p0)])) _
    refine XS.i2l X0.here hx rfl (hb hby at_36) rfl ?_
    show Steps p.tables e below (s₁.setTop (mkF m 37 #[.val (.int p0), .val (.int p1), .val (.int p2), .val (.int (0 : Int32)), .val (.int (0 : Int32)), .unset, .unset, .unset, .unset, .unset, .unset, .unset, .unset, .unset] [(.long (p0.toInt64))])) _
    refine XS.lstore X0.here hx rfl (hb hby at_37) rfl (l' := #[.val (.int p0), .val (.int p1), .val (.int p2), .val (.int (0 : Int32)), .val (.int (0 : Int32)), .val (.long (p0.toInt64)), .second, .unset, .unset, .unset, .unset, .unset, .unset, .unset]) rfl ?_
    show Steps p.tables e below (s₁.setTop (mkF m 39 #[.val (.int p0), .val (.int p1), .val (.int p2), .val (.int (0 : Int32)), .val (.int (0 : Int32)), .val (.long (p0.toInt64)), .second, .unset, .unset, .unset, .unset, .unset, .unset, .unset] [])) _
    refine XS.iload X0.here hx rfl (hb hby at_39) rfl ?_
    show Steps p.tables e below (s₁.setTop (mkF m 41 #[.val (.int p0), .val (.int p1), .val (.int p2), .val (.int (0 : Int32)), .val (.int (0 : Int32)), .val (.long (p0.toInt64)), .second, .unset, .unset, .unset, .unset, .unset, .unset, .unset] [(.int (0 : Int32))])) _
    refine XS.ifYes X0.here hx rfl (pc0 := 41) (pc' := 50) rfl (hb hby at_41) rfl ((if0 _ _).trans (teq ((by decide) : (0 : Int32) = (0 : Int32))).1) (by decide) (by decide) ?_
    show Steps p.tables e below (s₁.setTop (mkF m 50 #[.val (.int p0), .val (.int p1), .val (.int p2), .val (.int (0 : Int32)), .val (.int (0 : Int32)), .val (.long (p0.toInt64)), .second, .unset, .unset, .unset, .unset, .unset, .unset, .unset] [])) _
    refine XS.iloadN X0.here hx rfl (hb hby at_50) rfl ?_
    show Steps p.tables e below (s₁.setTop (mkF m 51 #[.val (.int p0), .val (.int p1), .val (.int p2), .val (.int (0 : Int32)), .val (.int (0 : Int32)), .val (.long (p0.toInt64)), .second, .unset, .unset, .unset, .unset, .unset, .unset, .unset] [(.int p1)])) _
    refine XS.i2l X0.here hx rfl (hb hby at_51) rfl ?_
    show Steps p.tables e below (s₁.setTop (mkF m 52 #[.val (.int p0), .val (.int p1), .val (.int p2), .val (.int (0 : Int32)), .val (.int (0 : Int32)), .val (.long (p0.toInt64)), .second, .unset, .unset, .unset, .unset, .unset, .unset, .unset] [(.long (p1.toInt64))])) _
    refine XS.lstore X0.here hx rfl (hb hby at_52) rfl (l' := #[.val (.int p0), .val (.int p1), .val (.int p2), .val (.int (0 : Int32)), .val (.int (0 : Int32)), .val (.long (p0.toInt64)), .second, .val (.long (p1.toInt64)), .second, .unset, .unset, .unset, .unset, .unset]) rfl ?_
    show Steps p.tables e below (s₁.setTop (mkF m 54 #[.val (.int p0), .val (.int p1), .val (.int p2), .val (.int (0 : Int32)), .val (.int (0 : Int32)), .val (.long (p0.toInt64)), .second, .val (.long (p1.toInt64)), .second, .unset, .unset, .unset, .unset, .unset] [])) _
    refine XS.iloadN X0.here hx rfl (hb hby at_54) rfl ?_
    show Steps p.tables e below (s₁.setTop (mkF m 55 #[.val (.int p0), .val (.int p1), .val (.int p2), .val (.int (0 : Int32)), .val (.int (0 : Int32)), .val (.long (p0.toInt64)), .second, .val (.long (p1.toInt64)), .second, .unset, .unset, .unset, .unset, .unset] [(.int (0 : Int32))])) _
    refine XS.ifYes X0.here hx rfl (pc0 := 55) (pc' := 64) rfl (hb hby at_55) rfl ((if0 _ _).trans (teq ((by decide) : (0 : Int32) = (0 : Int32))).1) (by decide) (by decide) ?_
    show Steps p.tables e below (s₁.setTop (mkF m 64 #[.val (.int p0), .val (.int p1), .val (.int p2), .val (.int (0 : Int32)), .val (.int (0 : Int32)), .val (.long (p0.toInt64)), .second, .val (.long (p1.toInt64)), .second, .unset, .unset, .unset, .unset, .unset] [])) _
    refine XS.iloadN X0.here hx rfl (hb hby at_64) rfl ?_
    show Steps p.tables e below (s₁.setTop (mkF m 65 #[.val (.int p0), .val (.int p1), .val (.int p2), .val (.int (0 : Int32)), .val (.int (0 : Int32)), .val (.long (p0.toInt64)), .second, .val (.long (p1.toInt64)), .second, .unset, .unset, .unset, .unset, .unset] [(.int p0)])) _
    refine XS.i2dS X0.here hx rfl (hb hby at_65) rfl rfl ?_
    show Steps p.tables e below (s₁.setTop (mkF m 66 #[.val (.int p0), .val (.int p1), .val (.int p2), .val (.int (0 : Int32)), .val (.int (0 : Int32)), .val (.long (p0.toInt64)), .second, .val (.long (p1.toInt64)), .second, .unset, .unset, .unset, .unset, .unset] [(.double (FP.i2d p0))])) _
    refine XS.dstore X0.here hx rfl (hb hby at_66) rfl (l' := #[.val (.int p0), .val (.int p1), .val (.int p2), .val (.int (0 : Int32)), .val (.int (0 : Int32)), .val (.long (p0.toInt64)), .second, .val (.long (p1.toInt64)), .second, .val (.double (FP.i2d p0)), .second, .unset, .unset, .unset]) rfl ?_
    show Steps p.tables e below (s₁.setTop (mkF m 68 #[.val (.int p0), .val (.int p1), .val (.int p2), .val (.int (0 : Int32)), .val (.int (0 : Int32)), .val (.long (p0.toInt64)), .second, .val (.long (p1.toInt64)), .second, .val (.double (FP.i2d p0)), .second, .unset, .unset, .unset] [])) _
    refine XS.iload X0.here hx rfl (hb hby at_68) rfl ?_
    show Steps p.tables e below (s₁.setTop (mkF m 70 #[.val (.int p0), .val (.int p1), .val (.int p2), .val (.int (0 : Int32)), .val (.int (0 : Int32)), .val (.long (p0.toInt64)), .second, .val (.long (p1.toInt64)), .second, .val (.double (FP.i2d p0)), .second, .unset, .unset, .unset] [(.int (0 : Int32))])) _
    refine XS.ifYes X0.here hx rfl (pc0 := 70) (pc' := 79) rfl (hb hby at_70) rfl ((if0 _ _).trans (teq ((by decide) : (0 : Int32) = (0 : Int32))).1) (by decide) (by decide) ?_
    show Steps p.tables e below (s₁.setTop (mkF m 79 #[.val (.int p0), .val (.int p1), .val (.int p2), .val (.int (0 : Int32)), .val (.int (0 : Int32)), .val (.long (p0.toInt64)), .second, .val (.long (p1.toInt64)), .second, .val (.double (FP.i2d p0)), .second, .unset, .unset, .unset] [])) _
    refine XS.iloadN X0.here hx rfl (hb hby at_79) rfl ?_
    show Steps p.tables e below (s₁.setTop (mkF m 80 #[.val (.int p0), .val (.int p1), .val (.int p2), .val (.int (0 : Int32)), .val (.int (0 : Int32)), .val (.long (p0.toInt64)), .second, .val (.long (p1.toInt64)), .second, .val (.double (FP.i2d p0)), .second, .unset, .unset, .unset] [(.int p1)])) _
    refine XS.i2dS X0.here hx rfl (hb hby at_80) rfl rfl ?_
    show Steps p.tables e below (s₁.setTop (mkF m 81 #[.val (.int p0), .val (.int p1), .val (.int p2), .val (.int (0 : Int32)), .val (.int (0 : Int32)), .val (.long (p0.toInt64)), .second, .val (.long (p1.toInt64)), .second, .val (.double (FP.i2d p0)), .second, .unset, .unset, .unset] [(.double (FP.i2d p1))])) _
    refine XS.dstore X0.here hx rfl (hb hby at_81) rfl (l' := #[.val (.int p0), .val (.int p1), .val (.int p2), .val (.int (0 : Int32)), .val (.int (0 : Int32)), .val (.long (p0.toInt64)), .second, .val (.long (p1.toInt64)), .second, .val (.double (FP.i2d p0)), .second, .val (.double (FP.i2d p1)), .second, .unset]) rfl ?_
    show Steps p.tables e below (s₁.setTop (mkF m 83 #[.val (.int p0), .val (.int p1), .val (.int p2), .val (.int (0 : Int32)), .val (.int (0 : Int32)), .val (.long (p0.toInt64)), .second, .val (.long (p1.toInt64)), .second, .val (.double (FP.i2d p0)), .second, .val (.double (FP.i2d p1)), .second, .unset] [])) _
    refine XS.lload X0.here hx rfl (hb hby at_83) rfl ?_
    show Steps p.tables e below (s₁.setTop (mkF m 85 #[.val (.int p0), .val (.int p1), .val (.int p2), .val (.int (0 : Int32)), .val (.int (0 : Int32)), .val (.long (p0.toInt64)), .second, .val (.long (p1.toInt64)), .second, .val (.double (FP.i2d p0)), .second, .val (.double (FP.i2d p1)), .second, .unset] [(.long (p0.toInt64))])) _
    refine XS.lload X0.here hx rfl (hb hby at_85) rfl ?_
    show Steps p.tables e below (s₁.setTop (mkF m 87 #[.val (.int p0), .val (.int p1), .val (.int p2), .val (.int (0 : Int32)), .val (.int (0 : Int32)), .val (.long (p0.toInt64)), .second, .val (.long (p1.toInt64)), .second, .val (.double (FP.i2d p0)), .second, .val (.double (FP.i2d p1)), .second, .unset] [(.long (p1.toInt64)), (.long (p0.toInt64))])) _
    refine XS.lcmp X0.here hx rfl (hb hby at_87) rfl ?_
    show Steps p.tables e below (s₁.setTop (mkF m 88 #[.val (.int p0), .val (.int p1), .val (.int p2), .val (.int (0 : Int32)), .val (.int (0 : Int32)), .val (.long (p0.toInt64)), .second, .val (.long (p1.toInt64)), .second, .val (.double (FP.i2d p0)), .second, .val (.double (FP.i2d p1)), .second, .unset] [(.int (lcmpW (p0.toInt64) (p1.toInt64)))])) _
    rw [hL]
    show Steps p.tables e below (s₁.setTop (mkF m 88 #[.val (.int p0), .val (.int p1), .val (.int p2), .val (.int (0 : Int32)), .val (.int (0 : Int32)), .val (.long (p0.toInt64)), .second, .val (.long (p1.toInt64)), .second, .val (.double (FP.i2d p0)), .second, .val (.double (FP.i2d p1)), .second, .unset] [(.int (1 : Int32))])) _
    refine XS.ifYes X0.here hx rfl (pc0 := 88) (pc' := 99) rfl (hb hby at_88) rfl ((if0 _ _).trans (flt ((by decide) : ¬ ((1 : Int32) < (0 : Int32)))).2.1) (by decide) (by decide) ?_
    show Steps p.tables e below (s₁.setTop (mkF m 99 #[.val (.int p0), .val (.int p1), .val (.int p2), .val (.int (0 : Int32)), .val (.int (0 : Int32)), .val (.long (p0.toInt64)), .second, .val (.long (p1.toInt64)), .second, .val (.double (FP.i2d p0)), .second, .val (.double (FP.i2d p1)), .second, .unset] [])) _
    refine XS.lload X0.here hx rfl (hb hby at_99) rfl ?_
    show Steps p.tables e below (s₁.setTop (mkF m 101 #[.val (.int p0), .val (.int p1), .val (.int p2), .val (.int (0 : Int32)), .val (.int (0 : Int32)), .val (.long (p0.toInt64)), .second, .val (.long (p1.toInt64)), .second, .val (.double (FP.i2d p0)), .second, .val (.double (FP.i2d p1)), .second, .unset] [(.long (p0.toInt64))])) _
    refine XS.lload X0.here hx rfl (hb hby at_101) rfl ?_
    show Steps p.tables e below (s₁.setTop (mkF m 103 #[.val (.int p0), .val (.int p1), .val (.int p2), .val (.int (0 : Int32)), .val (.int (0 : Int32)), .val (.long (p0.toInt64)), .second, .val (.long (p1.toInt64)), .second, .val (.double (FP.i2d p0)), .second, .val (.double (FP.i2d p1)), .second, .unset] [(.long (p1.toInt64)), (.long (p0.toInt64))])) _
    refine XS.lcmp X0.here hx rfl (hb hby at_103) rfl ?_
    show Steps p.tables e below (s₁.setTop (mkF m 104 #[.val (.int p0), .val (.int p1), .val (.int p2), .val (.int (0 : Int32)), .val (.int (0 : Int32)), .val (.long (p0.toInt64)), .second, .val (.long (p1.toInt64)), .second, .val (.double (FP.i2d p0)), .second, .val (.double (FP.i2d p1)), .second, .unset] [(.int (lcmpW (p0.toInt64) (p1.toInt64)))])) _
    rw [hL]
    show Steps p.tables e below (s₁.setTop (mkF m 104 #[.val (.int p0), .val (.int p1), .val (.int p2), .val (.int (0 : Int32)), .val (.int (0 : Int32)), .val (.long (p0.toInt64)), .second, .val (.long (p1.toInt64)), .second, .val (.double (FP.i2d p0)), .second, .val (.double (FP.i2d p1)), .second, .unset] [(.int (1 : Int32))])) _
    refine XS.ifNo X0.here hx rfl (hb hby at_104) rfl ((if0 _ _).trans (tlt ((by decide) : (0 : Int32) < (1 : Int32))).2.2.2) ?_
    show Steps p.tables e below (s₁.setTop (mkF m 107 #[.val (.int p0), .val (.int p1), .val (.int p2), .val (.int (0 : Int32)), .val (.int (0 : Int32)), .val (.long (p0.toInt64)), .second, .val (.long (p1.toInt64)), .second, .val (.double (FP.i2d p0)), .second, .val (.double (FP.i2d p1)), .second, .unset] [])) _
    refine st1 _ ?_
    show Steps p.tables e below (T1.setTop (mkF m 110 #[.val (.int p0), .val (.int p1), .val (.int p2), .val (.int (0 : Int32)), .val (.int (0 : Int32)), .val (.long (p0.toInt64)), .second, .val (.long (p1.toInt64)), .second, .val (.double (FP.i2d p0)), .second, .val (.double (FP.i2d p1)), .second, .unset] [(.ref w0)])) _
    refine XS.astore X1.here hx rfl (hb hby at_110) rfl rfl (l' := #[.val (.int p0), .val (.int p1), .val (.int p2), .val (.int (0 : Int32)), .val (.int (0 : Int32)), .val (.long (p0.toInt64)), .second, .val (.long (p1.toInt64)), .second, .val (.double (FP.i2d p0)), .second, .val (.double (FP.i2d p1)), .second, .val (.ref w0)]) rfl ?_
    show Steps p.tables e below (T1.setTop (mkF m 112 #[.val (.int p0), .val (.int p1), .val (.int p2), .val (.int (0 : Int32)), .val (.int (0 : Int32)), .val (.long (p0.toInt64)), .second, .val (.long (p1.toInt64)), .second, .val (.double (FP.i2d p0)), .second, .val (.double (FP.i2d p1)), .second, .val (.ref w0)] [])) _
    refine XS.goto X1.here hx rfl (pc0 := 112) (pc' := 120) rfl (hb hby at_112) (by decide) (by decide) ?_
    show Steps p.tables e below (T1.setTop (mkF m 120 #[.val (.int p0), .val (.int p1), .val (.int p2), .val (.int (0 : Int32)), .val (.int (0 : Int32)), .val (.long (p0.toInt64)), .second, .val (.long (p1.toInt64)), .second, .val (.double (FP.i2d p0)), .second, .val (.double (FP.i2d p1)), .second, .val (.ref w0)] [])) _
    refine XS.dload X1.here hx rfl (hb hby at_120) rfl ?_
    show Steps p.tables e below (T1.setTop (mkF m 122 #[.val (.int p0), .val (.int p1), .val (.int p2), .val (.int (0 : Int32)), .val (.int (0 : Int32)), .val (.long (p0.toInt64)), .second, .val (.long (p1.toInt64)), .second, .val (.double (FP.i2d p0)), .second, .val (.double (FP.i2d p1)), .second, .val (.ref w0)] [(.double (FP.i2d p0))])) _
    refine XS.dload X1.here hx rfl (hb hby at_122) rfl ?_
    show Steps p.tables e below (T1.setTop (mkF m 124 #[.val (.int p0), .val (.int p1), .val (.int p2), .val (.int (0 : Int32)), .val (.int (0 : Int32)), .val (.long (p0.toInt64)), .second, .val (.long (p1.toInt64)), .second, .val (.double (FP.i2d p0)), .second, .val (.double (FP.i2d p1)), .second, .val (.ref w0)] [(.double (FP.i2d p1)), (.double (FP.i2d p0))])) _
    refine st2 _ ?_
    show Steps p.tables e below (T2.setTop (mkF m 127 #[.val (.int p0), .val (.int p1), .val (.int p2), .val (.int (0 : Int32)), .val (.int (0 : Int32)), .val (.long (p0.toInt64)), .second, .val (.long (p1.toInt64)), .second, .val (.double (FP.i2d p0)), .second, .val (.double (FP.i2d p1)), .second, .val (.ref w0)] [(.ref w0)])) _
    refine XS.aload X2.here hx rfl (hb hby at_127) rfl rfl ?_
    show Steps p.tables e below (T2.setTop (mkF m 129 #[.val (.int p0), .val (.int p1), .val (.int p2), .val (.int (0 : Int32)), .val (.int (0 : Int32)), .val (.long (p0.toInt64)), .second, .val (.long (p1.toInt64)), .second, .val (.double (FP.i2d p0)), .second, .val (.double (FP.i2d p1)), .second, .val (.ref w0)] [(.ref w0), (.ref w0)])) _
    refine Jvm.RoadKit.acmp (g := (mkF m 129 #[.val (.int p0), .val (.int p1), .val (.int p2), .val (.int (0 : Int32)), .val (.int (0 : Int32)), .val (.long (p0.toInt64)), .second, .val (.long (p1.toInt64)), .second, .val (.double (FP.i2d p0)), .second, .val (.double (FP.i2d p1)), .second, .val (.ref w0)] [(.ref w0), (.ref w0)])) X2 hx rfl rfl rfl (pc0 := 129) (pc' := 132) (same := true) rfl (hb hby at_129) rfl (decide_eq_true rfl) (by decide) (by decide) ?_
    show Steps p.tables e below (T2.setTop (mkF m 132 #[.val (.int p0), .val (.int p1), .val (.int p2), .val (.int (0 : Int32)), .val (.int (0 : Int32)), .val (.long (p0.toInt64)), .second, .val (.long (p1.toInt64)), .second, .val (.double (FP.i2d p0)), .second, .val (.double (FP.i2d p1)), .second, .val (.ref w0)] [])) _
    refine XS.iconst X2.here hx rfl (hb hby at_132) ?_
    show Steps p.tables e below (T2.setTop (mkF m 133 #[.val (.int p0), .val (.int p1), .val (.int p2), .val (.int (0 : Int32)), .val (.int (0 : Int32)), .val (.long (p0.toInt64)), .second, .val (.long (p1.toInt64)), .second, .val (.double (FP.i2d p0)), .second, .val (.double (FP.i2d p1)), .second, .val (.ref w0)] [(.int (1 : Int32))])) _
    refine XS.goto X2.here hx rfl (pc0 := 133) (pc' := 137) rfl (hb hby at_133) (by decide) (by decide) ?_
    show Steps p.tables e below (T2.setTop (mkF m 137 #[.val (.int p0), .val (.int p1), .val (.int p2), .val (.int (0 : Int32)), .val (.int (0 : Int32)), .val (.long (p0.toInt64)), .second, .val (.long (p1.toInt64)), .second, .val (.double (FP.i2d p0)), .second, .val (.double (FP.i2d p1)), .second, .val (.ref w0)] [(.int (1 : Int32))])) _
    exact retN X2 hx (t := .boolean) Bd.returns (by simp) (hb hby at_137) hr
  · exact ⟨rfl, N2, e2⟩
set_option maxRecDepth 65536 in
set_option maxHeartbeats 40000000 in
theorem rm_0_1_0 (l : Launch) (Z : State) (a0 : Array Value) (hw : ∀ d ∈ tables_1, d.before a0 Z = true) (ws : List Jvm.Cond) (x0 x1 : UInt64) (w0 : Addr) (w1 : Addr) (w2 : Addr) (h0 : Heap) (n0 : Nat) (O : Old Z n0 h0) (hG : GG Z w0 w1 w2) (hD : ∀ o, cmpValue (FP.dcmp x0 x1) o = (-1 : Int32)) :
    MetFree l (⟨"com/example/fieldward/fieldward/validation/OrderedKind$Order", "of", "(DD)Lcom/example/fieldward/fieldward/validation/OrderedKind$Order;"⟩ : MethodName) (head1 (Jvm.Cond.code (⟨"com/example/fieldward/fieldward/validation/OrderedKind$Order", "of", "(DD)Lcom/example/fieldward/fieldward/validation/OrderedKind$Order;"⟩ : MethodName) prog_15_method_5_code 5 (some (.object "com/example/fieldward/fieldward/validation/OrderedKind$Order")) :: ws) ({ frames := 0, cells := 0, slots := 0, locals := 0 } : Room)) (fun a U => a = #[(.double x0), (.double x1)] ∧ Z.Warmed39 U.vm ∧ U.heap = h0) (fun _ _ _ _ _ => True) (fun _ U o U' => ∃ v L, o = .returned v ∧ Qv (some (.ref w1)) h0 n0 v U'.heap L ∧ FrameEnd U o U' L ({ frames := 0, cells := 0, slots := 0, locals := 0 } : Room).cells ({ frames := 0, cells := 0, slots := 0, locals := 0 } : Room).slots) := by
  refine MetFree.of_bodySF (plainFor_of_name pn_com_example_fieldward_fieldward_validation_OrderedKind_Order) hisR ?_
  intro p e s m args below meth c s₁ Bd hml0 hP hK
  obtain ⟨rfl, hZ, hh⟩ := hP
  have hx := Bd.exec
  have hby := Bd.bytes
  have hml : c.maxLocals = 5 := hml0
  have hown : s.vm.findClass "com/example/fieldward/fieldward/validation/OrderedKind$Order" = some m.cls := findClass_of_methodNamed Bd.named
  have hnm := (name_of_methodNamed Bd.named Bd.method).1
  have X0 : Stand p l e ({ frames := 0, cells := 0, slots := 0, locals := 0 } : Room) s m #[(.double x0), (.double x1)] below meth c s₁ [] 0 0 := Stand.of_body Bd
  have e0 : s₁.heap = h0 := by rw [← hh, Bd.state]; rfl
  have N0 := Fr.nil n0
  have pre0 : ∀ t, Steps p.tables e below (s₁.setTop (mkF m 0 #[.val (.double x0), .second, .val (.double x1), .second, .unset] [])) t → Steps p.tables e below (s₁.setTop (entryFrame m #[(.double x0), (.double x1)] 5)) t := fun t k => castTop (ef_5_DD m x0 x1) k
  obtain ⟨Sw0, Sw1, Sw2, Ew0, Ew1, Ew2⟩ := id hG
  obtain ⟨T1, X1, e1, st1⟩ := getS2 X0 hx hZ hown (host := "") (Or.inl (hw _ (List.mem_of_getElem? (i := 9) rfl))) Via.refl e0 (Sw1.ext O.2) (g := (mkF m 6 #[.val (.double x0), .second, .val (.double x1), .second, .unset] [])) rfl (hb hby d1_6)
  obtain ⟨fs, hr, hrun, hended, hW, hsame⟩ := X1.leave (v := some (.ref w1)) (fun h => by rw [Bd.returns] at h; cases h)
  refine ⟨_, _, pre0 _ ?_, hrun, hended, _, _, rfl, ?_, ⟨_, rfl⟩, hW, hsame.mono (by decide) (by decide)⟩
  · show Steps p.tables e below (s₁.setTop (mkF m 0 #[.val (.double x0), .second, .val (.double x1), .second, .unset] [])) _
    refine XS.dloadN X0.here hx rfl (hb hby d1_0) rfl ?_
    show Steps p.tables e below (s₁.setTop (mkF m 1 #[.val (.double x0), .second, .val (.double x1), .second, .unset] [(.double x0)])) _
    refine XS.dloadN X0.here hx rfl (hb hby d1_1) rfl ?_
    show Steps p.tables e below (s₁.setTop (mkF m 2 #[.val (.double x0), .second, .val (.double x1), .second, .unset] [(.double x1), (.double x0)])) _
    refine XS.dcmpS X0.here hx rfl (hb hby d1_2) rfl rfl ?_
    show Steps p.tables e below (s₁.setTop (mkF m 3 #[.val (.double x0), .second, .val (.double x1), .second, .unset] [(.int (cmpValue (FP.dcmp x0 x1) .g))])) _
    rw [hD]
    show Steps p.tables e below (s₁.setTop (mkF m 3 #[.val (.double x0), .second, .val (.double x1), .second, .unset] [(.int (-1 : Int32))])) _
    refine XS.ifNo X0.here hx rfl (hb hby d1_3) rfl ((if0 _ _).trans (tlt ((by decide) : (-1 : Int32) < (0 : Int32))).2.1) ?_
    show Steps p.tables e below (s₁.setTop (mkF m 6 #[.val (.double x0), .second, .val (.double x1), .second, .unset] [])) _
    refine st1 _ ?_
    show Steps p.tables e below (T1.setTop (mkF m 9 #[.val (.double x0), .second, .val (.double x1), .second, .unset] [(.ref w1)])) _
    refine XS.astore X1.here hx rfl (hb hby d1_9) rfl rfl (l' := #[.val (.double x0), .second, .val (.double x1), .second, .val (.ref w1)]) rfl ?_
    show Steps p.tables e below (T1.setTop (mkF m 11 #[.val (.double x0), .second, .val (.double x1), .second, .val (.ref w1)] [])) _
    refine XS.goto X1.here hx rfl (pc0 := 11) (pc' := 47) rfl (hb hby d1_11) (by decide) (by decide) ?_
    show Steps p.tables e below (T1.setTop (mkF m 47 #[.val (.double x0), .second, .val (.double x1), .second, .val (.ref w1)] [])) _
    refine XS.aload X1.here hx rfl (hb hby d1_47) rfl rfl ?_
    show Steps p.tables e below (T1.setTop (mkF m 49 #[.val (.double x0), .second, .val (.double x1), .second, .val (.ref w1)] [(.ref w1)])) _
    exact retOut X1 hx Bd.returns rfl (Or.inr (Or.inr (Or.inr (Or.inr ⟨rfl, rfl, rfl⟩)))) (hb hby d1_49) hr
  · exact ⟨rfl, N0, e1⟩
set_option maxRecDepth 65536 in
set_option maxHeartbeats 40000000 in
theorem rl_0_1_0 (l : Launch) (Z : State) (a0 : Array Value) (hw : ∀ d ∈ tables_1, d.before a0 Z = true) (ws : List Jvm.Cond) (p0 p1 p2 : Int32) (w0 : Addr) (w1 : Addr) (w2 : Addr) (h0 : Heap) (n0 : Nat) (O : Old Z n0 h0) (hG : GG Z w0 w1 w2) (hA : p2 &&& (1 : Int32) = (0 : Int32)) (hB : ¬ (p2 &&& (2 : Int32) = (0 : Int32))) (hL : lcmpW (p0.toInt64) (-(p1.toInt64)) = (-1 : Int32)) (hD : ∀ o, cmpValue (FP.dcmp (FP.i2d p0) (FP.dneg (FP.i2d p1))) o = (-1 : Int32)) :
    MetFree l x (head1 (Jvm.Cond.code x code maxLocals ret :: ws) room_1) (fun a U => a = #[(.int p0), (.int p1), (.int p2)] ∧ Z.Warmed39 U.vm ∧ U.heap = h0) (fun _ _ _ _ _ => True) (fun _ U o U' => ∃ v L, o = .returned v ∧ Qv (some (.int (1 : Int32))) h0 n0 v U'.heap L ∧ FrameEnd U o U' L 0 0) := by
  refine MetFree.of_bodySF (plainFor_of_name pn_com_example_fieldward_fieldward_validation_OrderOfPinLaw) hisR ?_
  intro p e s m args below meth c s₁ Bd hml0 hP hK
  obtain ⟨rfl, hZ, hh⟩ := hP
  have hx := Bd.exec
  have hby := Bd.bytes
  have hml : c.maxLocals = 14 := hml0
  have hown : s.vm.findClass "com/example/fieldward/fieldward/validation/OrderOfPinLaw" = some m.cls := findClass_of_methodNamed Bd.named
  have hnm := (name_of_methodNamed Bd.named Bd.method).1
  have X0 : Stand p l e room_1 s m #[(.int p0), (.int p1), (.int p2)] below meth c s₁ [] 0 0 := Stand.of_body Bd
  have e0 : s₁.heap = h0 := by rw [← hh, Bd.state]; rfl
  have N0 := Fr.nil n0
  have pre0 : ∀ t, Steps p.tables e below (s₁.setTop (mkF m 0 #[.val (.int p0), .val (.int p1), .val (.int p2), .unset, .unset, .unset, .unset, .unset, .unset, .unset, .unset, .unset, .unset, .unset] [])) t → Steps p.tables e below (s₁.setTop (entryFrame m #[(.int p0), (.int p1), (.int p2)] maxLocals)) t := fun t k => castTop (ef_maxLocals_III m p0 p1 p2) k
  obtain ⟨Sw0, Sw1, Sw2, Ew0, Ew1, Ew2⟩ := id hG
  obtain ⟨T1, X1, e1, st1⟩ := getS2 X0 hx hZ hown (host := "") (Or.inl (hw _ (List.mem_of_getElem? (i := 7) rfl))) Via.refl e0 (Sw1.ext O.2) (g := (mkF m 91 #[.val (.int p0), .val (.int p1), .val (.int p2), .val (.int (0 : Int32)), .val (.int (1 : Int32)), .val (.long (p0.toInt64)), .second, .val (.long ((-(p1.toInt64)))), .second, .val (.double (FP.i2d p0)), .second, .val (.double (FP.dneg (FP.i2d p1))), .second, .unset] [])) rfl (hb hby at_91)
  obtain ⟨_, _, ⟨T2, L2, k2, n2⟩, -, X2, ⟨Lc2, hQ2, l2, y2, z2⟩, st2⟩ := Jvm.LawKit.callS X1 hx (y := (⟨"com/example/fieldward/fieldward/validation/OrderedKind$Order", "of", "(DD)Lcom/example/fieldward/fieldward/validation/OrderedKind$Order;"⟩ : MethodName)) hown (mvT hZ (hw _ (List.mem_of_getElem? (i := 3) rfl))) (mvT hZ (hw _ (List.mem_of_getElem? (i := 4) rfl))) (mvT hZ (hw _ (List.mem_of_getElem? (i := 1) rfl))) (mvT hZ (hw _ (List.mem_of_getElem? (i := 5) rfl))) (by decide) (backOf (W := 0) (rm_0_1_0 l Z a0 hw [] (FP.i2d p0) (FP.dneg (FP.i2d p1)) w0 w1 w2 h0 n0 O hG hD) hZ (hw _ (List.mem_of_getElem? (i := 5) rfl)) (hw _ (List.mem_of_getElem? (i := 1) rfl)) (by decide) (by decide)) (g := (mkF m 124 #[.val (.int p0), .val (.int p1), .val (.int p2), .val (.int (0 : Int32)), .val (.int (1 : Int32)), .val (.long (p0.toInt64)), .second, .val (.long ((-(p1.toInt64)))), .second, .val (.double (FP.i2d p0)), .second, .val (.double (FP.dneg (FP.i2d p1))), .second, .val (.ref w1)] [(.double (FP.dneg (FP.i2d p1))), (.double (FP.i2d p0))])) rfl (by rw [hml]; rfl) (argsL := [(.double (FP.i2d p0)), (.double (FP.dneg (FP.i2d p1)))]) (rest := []) (lenOf pd_28DD29Lcom2fexample2ffieldward2ffieldward2fvalidation2fOrderedKind24Order3b rfl) rfl (by show 2 * 0 + _ ≤ _; exact Nat.le_of_eq rfl) (hb hby at_124) (fun _ _ => ⟨rfl, e1, (by decide : 0 + 0 ≤ _), (by decide : 0 + 0 ≤ _)⟩)
  dsimp only [Pt.U, Pt.locs, Pt.cells, Pt.slots] at X2 l2 y2 z2 st2 hQ2
  subst l2 y2 z2
  obtain ⟨rfl, N2q, e2⟩ := hQ2
  have N2 := Fr.app N0 N2q
  obtain ⟨fs, hr, hrun, hended, hW, hsame⟩ := X2.leave (v := some (.int (1 : Int32))) (fun h => by rw [Bd.returns] at h; cases h)
  refine ⟨_, _, pre0 _ ?_, hrun, hended, _, _, rfl, ?_, ⟨_, rfl⟩, hW, hsame.mono (by decide) (by decide)⟩
  · show Steps p.tables e below (s₁.setTop (mkF m 0 #[.val (.int p0), .val (.int p1), .val (.int p2), .unset, .unset, .unset, .unset, .unset, .unset, .unset, .unset, .unset, .unset, .unset] [])) _
    refine XS.iloadN X0.here hx rfl (hb hby at_0) rfl ?_
    show Steps p.tables e below (s₁.setTop (mkF m 1 #[.val (.int p0), .val (.int p1), .val (.int p2), .unset, .unset, .unset, .unset, .unset, .unset, .unset, .unset, .unset, .unset, .unset] [(.int p2)])) _
    refine XS.iconst X0.here hx rfl (hb hby at_1) ?_
    show Steps p.tables e below (s₁.setTop (mkF m 2 #[.val (.int p0), .val (.int p1), .val (.int p2), .unset, .unset, .unset, .unset, .unset, .unset, .unset, .unset, .unset, .unset, .unset] [(.int (1 : Int32)), (.int p2)])) _
    refine XS.iand X0.here hx rfl (hb hby at_2) rfl ?_
    show Steps p.tables e below (s₁.setTop (mkF m 3 #[.val (.int p0), .val (.int p1), .val (.int p2), .unset, .unset, .unset, .unset, .unset, .unset, .unset, .unset, .unset, .unset, .unset] [(.int (p2 &&& (1 : Int32)))])) _
    rw [hA]
    show Steps p.tables e below (s₁.setTop (mkF m 3 #[.val (.int p0), .val (.int p1), .val (.int p2), .unset, .unset, .unset, .unset, .unset, .unset, .unset, .unset, .unset, .unset, .unset] [(.int (0 : Int32))])) _
    refine XS.ifYes X0.here hx rfl (pc0 := 3) (pc' := 10) rfl (hb hby at_3) rfl ((if0 _ _).trans (teq ((by decide) : (0 : Int32) = (0 : Int32))).1) (by decide) (by decide) ?_
    show Steps p.tables e below (s₁.setTop (mkF m 10 #[.val (.int p0), .val (.int p1), .val (.int p2), .unset, .unset, .unset, .unset, .unset, .unset, .unset, .unset, .unset, .unset, .unset] [])) _
    refine XS.iconst X0.here hx rfl (hb hby at_10) ?_
    show Steps p.tables e below (s₁.setTop (mkF m 11 #[.val (.int p0), .val (.int p1), .val (.int p2), .unset, .unset, .unset, .unset, .unset, .unset, .unset, .unset, .unset, .unset, .unset] [(.int (0 : Int32))])) _
    refine XS.istoreN X0.here hx rfl (hb hby at_11) rfl (l' := #[.val (.int p0), .val (.int p1), .val (.int p2), .val (.int (0 : Int32)), .unset, .unset, .unset, .unset, .unset, .unset, .unset, .unset, .unset, .unset]) rfl ?_
    show Steps p.tables e below (s₁.setTop (mkF m 12 #[.val (.int p0), .val (.int p1), .val (.int p2), .val (.int (0 : Int32)), .unset, .unset, .unset, .unset, .unset, .unset, .unset, .unset, .unset, .unset] [])) _
    refine XS.iloadN X0.here hx rfl (hb hby at_12) rfl ?_
    show Steps p.tables e below (s₁.setTop (mkF m 13 #[.val (.int p0), .val (.int p1), .val (.int p2), .val (.int (0 : Int32)), .unset, .unset, .unset, .unset, .unset, .unset, .unset, .unset, .unset, .unset] [(.int p2)])) _
    refine XS.iconst X0.here hx rfl (hb hby at_13) ?_
    show Steps p.tables e below (s₁.setTop (mkF m 14 #[.val (.int p0), .val (.int p1), .val (.int p2), .val (.int (0 : Int32)), .unset, .unset, .unset, .unset, .unset, .unset, .unset, .unset, .unset, .unset] [(.int (2 : Int32)), (.int p2)])) _
    refine XS.iand X0.here hx rfl (hb hby at_14) rfl ?_
    show Steps p.tables e below (s₁.setTop (mkF m 15 #[.val (.int p0), .val (.int p1), .val (.int p2), .val (.int (0 : Int32)), .unset, .unset, .unset, .unset, .unset, .unset, .unset, .unset, .unset, .unset] [(.int (p2 &&& (2 : Int32)))])) _
    refine XS.ifNo X0.here hx rfl (hb hby at_15) rfl ((if0 _ _).trans (feq (hB : ¬ ((p2 &&& (2 : Int32)) = (0 : Int32)))).1) ?_
    show Steps p.tables e below (s₁.setTop (mkF m 18 #[.val (.int p0), .val (.int p1), .val (.int p2), .val (.int (0 : Int32)), .unset, .unset, .unset, .unset, .unset, .unset, .unset, .unset, .unset, .unset] [])) _
    refine XS.iconst X0.here hx rfl (hb hby at_18) ?_
    show Steps p.tables e below (s₁.setTop (mkF m 19 #[.val (.int p0), .val (.int p1), .val (.int p2), .val (.int (0 : Int32)), .unset, .unset, .unset, .unset, .unset, .unset, .unset, .unset, .unset, .unset] [(.int (1 : Int32))])) _
    refine XS.goto X0.here hx rfl (pc0 := 19) (pc' := 23) rfl (hb hby at_19) (by decide) (by decide) ?_
    show Steps p.tables e below (s₁.setTop (mkF m 23 #[.val (.int p0), .val (.int p1), .val (.int p2), .val (.int (0 : Int32)), .unset, .unset, .unset, .unset, .unset, .unset, .unset, .unset, .unset, .unset] [(.int (1 : Int32))])) _
    refine XS.istore X0.here hx rfl (hb hby at_23) rfl (l' := #[.val (.int p0), .val (.int p1), .val (.int p2), .val (.int (0 : Int32)), .val (.int (1 : Int32)), .unset, .unset, .unset, .unset, .unset, .unset, .unset, .unset, .unset]) rfl ?_
    show Steps p.tables e below (s₁.setTop (mkF m 25 #[.val (.int p0), .val (.int p1), .val (.int p2), .val (.int (0 : Int32)), .val (.int (1 : Int32)), .unset, .unset, .unset, .unset, .unset, .unset, .unset, .unset, .unset] [])) _
    refine XS.iloadN X0.here hx rfl (hb hby at_25) rfl ?_
    show Steps p.tables e below (s₁.setTop (mkF m 26 #[.val (.int p0), .val (.int p1), .val (.int p2), .val (.int (0 : Int32)), .val (.int (1 : Int32)), .unset, .unset, .unset, .unset, .unset, .unset, .unset, .unset, .unset] [(.int (0 : Int32))])) _
    refine XS.ifYes X0.here hx rfl (pc0 := 26) (pc' := 35) rfl (hb hby at_26) rfl ((if0 _ _).trans (teq ((by decide) : (0 : Int32) = (0 : Int32))).1) (by decide) (by decide) ?_
    show Steps p.tables e below (s₁.setTop (mkF m 35 #[.val (.int p0), .val (.int p1), .val (.int p2), .val (.int (0 : Int32)), .val (.int (1 : Int32)), .unset, .unset, .unset, .unset, .unset, .unset, .unset, .unset, .unset] [])) _
    refine XS.iloadN X0.here hx rfl (hb hby at_35) rfl ?_
    show Steps p.tables e below (s₁.setTop (mkF m 36 #[.val (.int p0), .val (.int p1), .val (.int p2), .val (.int (0 : Int32)), .val (.int (1 : Int32)), .unset, .unset, .unset, .unset, .unset, .unset, .unset, .unset, .unset] [(.int p0)])) _
    refine XS.i2l X0.here hx rfl (hb hby at_36) rfl ?_
    show Steps p.tables e below (s₁.setTop (mkF m 37 #[.val (.int p0), .val (.int p1), .val (.int p2), .val (.int (0 : Int32)), .val (.int (1 : Int32)), .unset, .unset, .unset, .unset, .unset, .unset, .unset, .unset, .unset] [(.long (p0.toInt64))])) _
    refine XS.lstore X0.here hx rfl (hb hby at_37) rfl (l' := #[.val (.int p0), .val (.int p1), .val (.int p2), .val (.int (0 : Int32)), .val (.int (1 : Int32)), .val (.long (p0.toInt64)), .second, .unset, .unset, .unset, .unset, .unset, .unset, .unset]) rfl ?_
    show Steps p.tables e below (s₁.setTop (mkF m 39 #[.val (.int p0), .val (.int p1), .val (.int p2), .val (.int (0 : Int32)), .val (.int (1 : Int32)), .val (.long (p0.toInt64)), .second, .unset, .unset, .unset, .unset, .unset, .unset, .unset] [])) _
    refine XS.iload X0.here hx rfl (hb hby at_39) rfl ?_
    show Steps p.tables e below (s₁.setTop (mkF m 41 #[.val (.int p0), .val (.int p1), .val (.int p2), .val (.int (0 : Int32)), .val (.int (1 : Int32)), .val (.long (p0.toInt64)), .second, .unset, .unset, .unset, .unset, .unset, .unset, .unset] [(.int (1 : Int32))])) _
    refine XS.ifNo X0.here hx rfl (hb hby at_41) rfl ((if0 _ _).trans (feq ((by decide) : ¬ ((1 : Int32) = (0 : Int32)))).1) ?_
    show Steps p.tables e below (s₁.setTop (mkF m 44 #[.val (.int p0), .val (.int p1), .val (.int p2), .val (.int (0 : Int32)), .val (.int (1 : Int32)), .val (.long (p0.toInt64)), .second, .unset, .unset, .unset, .unset, .unset, .unset, .unset] [])) _
    refine XS.iloadN X0.here hx rfl (hb hby at_44) rfl ?_
    show Steps p.tables e below (s₁.setTop (mkF m 45 #[.val (.int p0), .val (.int p1), .val (.int p2), .val (.int (0 : Int32)), .val (.int (1 : Int32)), .val (.long (p0.toInt64)), .second, .unset, .unset, .unset, .unset, .unset, .unset, .unset] [(.int p1)])) _
    refine XS.i2l X0.here hx rfl (hb hby at_45) rfl ?_
    show Steps p.tables e below (s₁.setTop (mkF m 46 #[.val (.int p0), .val (.int p1), .val (.int p2), .val (.int (0 : Int32)), .val (.int (1 : Int32)), .val (.long (p0.toInt64)), .second, .unset, .unset, .unset, .unset, .unset, .unset, .unset] [(.long (p1.toInt64))])) _
    refine XS.lneg X0.here hx rfl (hb hby at_46) rfl ?_
    show Steps p.tables e below (s₁.setTop (mkF m 47 #[.val (.int p0), .val (.int p1), .val (.int p2), .val (.int (0 : Int32)), .val (.int (1 : Int32)), .val (.long (p0.toInt64)), .second, .unset, .unset, .unset, .unset, .unset, .unset, .unset] [(.long ((-(p1.toInt64))))])) _
    refine XS.goto X0.here hx rfl (pc0 := 47) (pc' := 52) rfl (hb hby at_47) (by decide) (by decide) ?_
    show Steps p.tables e below (s₁.setTop (mkF m 52 #[.val (.int p0), .val (.int p1), .val (.int p2), .val (.int (0 : Int32)), .val (.int (1 : Int32)), .val (.long (p0.toInt64)), .second, .unset, .unset, .unset, .unset, .unset, .unset, .unset] [(.long ((-(p1.toInt64))))])) _
    refine XS.lstore X0.here hx rfl (hb hby at_52) rfl (l' := #[.val (.int p0), .val (.int p1), .val (.int p2), .val (.int (0 : Int32)), .val (.int (1 : Int32)), .val (.long (p0.toInt64)), .second, .val (.long ((-(p1.toInt64)))), .second, .unset, .unset, .unset, .unset, .unset]) rfl ?_
    show Steps p.tables e below (s₁.setTop (mkF m 54 #[.val (.int p0), .val (.int p1), .val (.int p2), .val (.int (0 : Int32)), .val (.int (1 : Int32)), .val (.long (p0.toInt64)), .second, .val (.long ((-(p1.toInt64)))), .second, .unset, .unset, .unset, .unset, .unset] [])) _
    refine XS.iloadN X0.here hx rfl (hb hby at_54) rfl ?_
    show Steps p.tables e below (s₁.setTop (mkF m 55 #[.val (.int p0), .val (.int p1), .val (.int p2), .val (.int (0 : Int32)), .val (.int (1 : Int32)), .val (.long (p0.toInt64)), .second, .val (.long ((-(p1.toInt64)))), .second, .unset, .unset, .unset, .unset, .unset] [(.int (0 : Int32))])) _
    refine XS.ifYes X0.here hx rfl (pc0 := 55) (pc' := 64) rfl (hb hby at_55) rfl ((if0 _ _).trans (teq ((by decide) : (0 : Int32) = (0 : Int32))).1) (by decide) (by decide) ?_
    show Steps p.tables e below (s₁.setTop (mkF m 64 #[.val (.int p0), .val (.int p1), .val (.int p2), .val (.int (0 : Int32)), .val (.int (1 : Int32)), .val (.long (p0.toInt64)), .second, .val (.long ((-(p1.toInt64)))), .second, .unset, .unset, .unset, .unset, .unset] [])) _
    refine XS.iloadN X0.here hx rfl (hb hby at_64) rfl ?_
    show Steps p.tables e below (s₁.setTop (mkF m 65 #[.val (.int p0), .val (.int p1), .val (.int p2), .val (.int (0 : Int32)), .val (.int (1 : Int32)), .val (.long (p0.toInt64)), .second, .val (.long ((-(p1.toInt64)))), .second, .unset, .unset, .unset, .unset, .unset] [(.int p0)])) _
    refine XS.i2dS X0.here hx rfl (hb hby at_65) rfl rfl ?_
    show Steps p.tables e below (s₁.setTop (mkF m 66 #[.val (.int p0), .val (.int p1), .val (.int p2), .val (.int (0 : Int32)), .val (.int (1 : Int32)), .val (.long (p0.toInt64)), .second, .val (.long ((-(p1.toInt64)))), .second, .unset, .unset, .unset, .unset, .unset] [(.double (FP.i2d p0))])) _
    refine XS.dstore X0.here hx rfl (hb hby at_66) rfl (l' := #[.val (.int p0), .val (.int p1), .val (.int p2), .val (.int (0 : Int32)), .val (.int (1 : Int32)), .val (.long (p0.toInt64)), .second, .val (.long ((-(p1.toInt64)))), .second, .val (.double (FP.i2d p0)), .second, .unset, .unset, .unset]) rfl ?_
    show Steps p.tables e below (s₁.setTop (mkF m 68 #[.val (.int p0), .val (.int p1), .val (.int p2), .val (.int (0 : Int32)), .val (.int (1 : Int32)), .val (.long (p0.toInt64)), .second, .val (.long ((-(p1.toInt64)))), .second, .val (.double (FP.i2d p0)), .second, .unset, .unset, .unset] [])) _
    refine XS.iload X0.here hx rfl (hb hby at_68) rfl ?_
    show Steps p.tables e below (s₁.setTop (mkF m 70 #[.val (.int p0), .val (.int p1), .val (.int p2), .val (.int (0 : Int32)), .val (.int (1 : Int32)), .val (.long (p0.toInt64)), .second, .val (.long ((-(p1.toInt64)))), .second, .val (.double (FP.i2d p0)), .second, .unset, .unset, .unset] [(.int (1 : Int32))])) _
    refine XS.ifNo X0.here hx rfl (hb hby at_70) rfl ((if0 _ _).trans (feq ((by decide) : ¬ ((1 : Int32) = (0 : Int32)))).1) ?_
    show Steps p.tables e below (s₁.setTop (mkF m 73 #[.val (.int p0), .val (.int p1), .val (.int p2), .val (.int (0 : Int32)), .val (.int (1 : Int32)), .val (.long (p0.toInt64)), .second, .val (.long ((-(p1.toInt64)))), .second, .val (.double (FP.i2d p0)), .second, .unset, .unset, .unset] [])) _
    refine XS.iloadN X0.here hx rfl (hb hby at_73) rfl ?_
    show Steps p.tables e below (s₁.setTop (mkF m 74 #[.val (.int p0), .val (.int p1), .val (.int p2), .val (.int (0 : Int32)), .val (.int (1 : Int32)), .val (.long (p0.toInt64)), .second, .val (.long ((-(p1.toInt64)))), .second, .val (.double (FP.i2d p0)), .second, .unset, .unset, .unset] [(.int p1)])) _
    refine XS.i2dS X0.here hx rfl (hb hby at_74) rfl rfl ?_
    show Steps p.tables e below (s₁.setTop (mkF m 75 #[.val (.int p0), .val (.int p1), .val (.int p2), .val (.int (0 : Int32)), .val (.int (1 : Int32)), .val (.long (p0.toInt64)), .second, .val (.long ((-(p1.toInt64)))), .second, .val (.double (FP.i2d p0)), .second, .unset, .unset, .unset] [(.double (FP.i2d p1))])) _
    refine XS.dnegS X0.here hx rfl (hb hby at_75) rfl rfl ?_
    show Steps p.tables e below (s₁.setTop (mkF m 76 #[.val (.int p0), .val (.int p1), .val (.int p2), .val (.int (0 : Int32)), .val (.int (1 : Int32)), .val (.long (p0.toInt64)), .second, .val (.long ((-(p1.toInt64)))), .second, .val (.double (FP.i2d p0)), .second, .unset, .unset, .unset] [(.double (FP.dneg (FP.i2d p1)))])) _
    refine XS.goto X0.here hx rfl (pc0 := 76) (pc' := 81) rfl (hb hby at_76) (by decide) (by decide) ?_
    show Steps p.tables e below (s₁.setTop (mkF m 81 #[.val (.int p0), .val (.int p1), .val (.int p2), .val (.int (0 : Int32)), .val (.int (1 : Int32)), .val (.long (p0.toInt64)), .second, .val (.long ((-(p1.toInt64)))), .second, .val (.double (FP.i2d p0)), .second, .unset, .unset, .unset] [(.double (FP.dneg (FP.i2d p1)))])) _
    refine XS.dstore X0.here hx rfl (hb hby at_81) rfl (l' := #[.val (.int p0), .val (.int p1), .val (.int p2), .val (.int (0 : Int32)), .val (.int (1 : Int32)), .val (.long (p0.toInt64)), .second, .val (.long ((-(p1.toInt64)))), .second, .val (.double (FP.i2d p0)), .second, .val (.double (FP.dneg (FP.i2d p1))), .second, .unset]) rfl ?_
    show Steps p.tables e below (s₁.setTop (mkF m 83 #[.val (.int p0), .val (.int p1), .val (.int p2), .val (.int (0 : Int32)), .val (.int (1 : Int32)), .val (.long (p0.toInt64)), .second, .val (.long ((-(p1.toInt64)))), .second, .val (.double (FP.i2d p0)), .second, .val (.double (FP.dneg (FP.i2d p1))), .second, .unset] [])) _
    refine XS.lload X0.here hx rfl (hb hby at_83) rfl ?_
    show Steps p.tables e below (s₁.setTop (mkF m 85 #[.val (.int p0), .val (.int p1), .val (.int p2), .val (.int (0 : Int32)), .val (.int (1 : Int32)), .val (.long (p0.toInt64)), .second, .val (.long ((-(p1.toInt64)))), .second, .val (.double (FP.i2d p0)), .second, .val (.double (FP.dneg (FP.i2d p1))), .second, .unset] [(.long (p0.toInt64))])) _
    refine XS.lload X0.here hx rfl (hb hby at_85) rfl ?_
    show Steps p.tables e below (s₁.setTop (mkF m 87 #[.val (.int p0), .val (.int p1), .val (.int p2), .val (.int (0 : Int32)), .val (.int (1 : Int32)), .val (.long (p0.toInt64)), .second, .val (.long ((-(p1.toInt64)))), .second, .val (.double (FP.i2d p0)), .second, .val (.double (FP.dneg (FP.i2d p1))), .second, .unset] [(.long ((-(p1.toInt64)))), (.long (p0.toInt64))])) _
    refine XS.lcmp X0.here hx rfl (hb hby at_87) rfl ?_
    show Steps p.tables e below (s₁.setTop (mkF m 88 #[.val (.int p0), .val (.int p1), .val (.int p2), .val (.int (0 : Int32)), .val (.int (1 : Int32)), .val (.long (p0.toInt64)), .second, .val (.long ((-(p1.toInt64)))), .second, .val (.double (FP.i2d p0)), .second, .val (.double (FP.dneg (FP.i2d p1))), .second, .unset] [(.int (lcmpW (p0.toInt64) ((-(p1.toInt64)))))])) _
    rw [hL]
    show Steps p.tables e below (s₁.setTop (mkF m 88 #[.val (.int p0), .val (.int p1), .val (.int p2), .val (.int (0 : Int32)), .val (.int (1 : Int32)), .val (.long (p0.toInt64)), .second, .val (.long ((-(p1.toInt64)))), .second, .val (.double (FP.i2d p0)), .second, .val (.double (FP.dneg (FP.i2d p1))), .second, .unset] [(.int (-1 : Int32))])) _
    refine XS.ifNo X0.here hx rfl (hb hby at_88) rfl ((if0 _ _).trans (tlt ((by decide) : (-1 : Int32) < (0 : Int32))).2.1) ?_
    show Steps p.tables e below (s₁.setTop (mkF m 91 #[.val (.int p0), .val (.int p1), .val (.int p2), .val (.int (0 : Int32)), .val (.int (1 : Int32)), .val (.long (p0.toInt64)), .second, .val (.long ((-(p1.toInt64)))), .second, .val (.double (FP.i2d p0)), .second, .val (.double (FP.dneg (FP.i2d p1))), .second, .unset] [])) _
    refine st1 _ ?_
    show Steps p.tables e below (T1.setTop (mkF m 94 #[.val (.int p0), .val (.int p1), .val (.int p2), .val (.int (0 : Int32)), .val (.int (1 : Int32)), .val (.long (p0.toInt64)), .second, .val (.long ((-(p1.toInt64)))), .second, .val (.double (FP.i2d p0)), .second, .val (.double (FP.dneg (FP.i2d p1))), .second, .unset] [(.ref w1)])) _
    refine XS.astore X1.here hx rfl (hb hby at_94) rfl rfl (l' := #[.val (.int p0), .val (.int p1), .val (.int p2), .val (.int (0 : Int32)), .val (.int (1 : Int32)), .val (.long (p0.toInt64)), .second, .val (.long ((-(p1.toInt64)))), .second, .val (.double (FP.i2d p0)), .second, .val (.double (FP.dneg (FP.i2d p1))), .second, .val (.ref w1)]) rfl ?_
    show Steps p.tables e below (T1.setTop (mkF m 96 #[.val (.int p0), .val (.int p1), .val (.int p2), .val (.int (0 : Int32)), .val (.int (1 : Int32)), .val (.long (p0.toInt64)), .second, .val (.long ((-(p1.toInt64)))), .second, .val (.double (FP.i2d p0)), .second, .val (.double (FP.dneg (FP.i2d p1))), .second, .val (.ref w1)] [])) _
    refine XS.goto X1.here hx rfl (pc0 := 96) (pc' := 120) rfl (hb hby at_96) (by decide) (by decide) ?_
    show Steps p.tables e below (T1.setTop (mkF m 120 #[.val (.int p0), .val (.int p1), .val (.int p2), .val (.int (0 : Int32)), .val (.int (1 : Int32)), .val (.long (p0.toInt64)), .second, .val (.long ((-(p1.toInt64)))), .second, .val (.double (FP.i2d p0)), .second, .val (.double (FP.dneg (FP.i2d p1))), .second, .val (.ref w1)] [])) _
    refine XS.dload X1.here hx rfl (hb hby at_120) rfl ?_
    show Steps p.tables e below (T1.setTop (mkF m 122 #[.val (.int p0), .val (.int p1), .val (.int p2), .val (.int (0 : Int32)), .val (.int (1 : Int32)), .val (.long (p0.toInt64)), .second, .val (.long ((-(p1.toInt64)))), .second, .val (.double (FP.i2d p0)), .second, .val (.double (FP.dneg (FP.i2d p1))), .second, .val (.ref w1)] [(.double (FP.i2d p0))])) _
    refine XS.dload X1.here hx rfl (hb hby at_122) rfl ?_
    show Steps p.tables e below (T1.setTop (mkF m 124 #[.val (.int p0), .val (.int p1), .val (.int p2), .val (.int (0 : Int32)), .val (.int (1 : Int32)), .val (.long (p0.toInt64)), .second, .val (.long ((-(p1.toInt64)))), .second, .val (.double (FP.i2d p0)), .second, .val (.double (FP.dneg (FP.i2d p1))), .second, .val (.ref w1)] [(.double (FP.dneg (FP.i2d p1))), (.double (FP.i2d p0))])) _
    refine st2 _ ?_
    show Steps p.tables e below (T2.setTop (mkF m 127 #[.val (.int p0), .val (.int p1), .val (.int p2), .val (.int (0 : Int32)), .val (.int (1 : Int32)), .val (.long (p0.toInt64)), .second, .val (.long ((-(p1.toInt64)))), .second, .val (.double (FP.i2d p0)), .second, .val (.double (FP.dneg (FP.i2d p1))), .second, .val (.ref w1)] [(.ref w1)])) _
    refine XS.aload X2.here hx rfl (hb hby at_127) rfl rfl ?_
    show Steps p.tables e below (T2.setTop (mkF m 129 #[.val (.int p0), .val (.int p1), .val (.int p2), .val (.int (0 : Int32)), .val (.int (1 : Int32)), .val (.long (p0.toInt64)), .second, .val (.long ((-(p1.toInt64)))), .second, .val (.double (FP.i2d p0)), .second, .val (.double (FP.dneg (FP.i2d p1))), .second, .val (.ref w1)] [(.ref w1), (.ref w1)])) _
    refine Jvm.RoadKit.acmp (g := (mkF m 129 #[.val (.int p0), .val (.int p1), .val (.int p2), .val (.int (0 : Int32)), .val (.int (1 : Int32)), .val (.long (p0.toInt64)), .second, .val (.long ((-(p1.toInt64)))), .second, .val (.double (FP.i2d p0)), .second, .val (.double (FP.dneg (FP.i2d p1))), .second, .val (.ref w1)] [(.ref w1), (.ref w1)])) X2 hx rfl rfl rfl (pc0 := 129) (pc' := 132) (same := true) rfl (hb hby at_129) rfl (decide_eq_true rfl) (by decide) (by decide) ?_
    show Steps p.tables e below (T2.setTop (mkF m 132 #[.val (.int p0), .val (.int p1), .val (.int p2), .val (.int (0 : Int32)), .val (.int (1 : Int32)), .val (.long (p0.toInt64)), .second, .val (.long ((-(p1.toInt64)))), .second, .val (.double (FP.i2d p0)), .second, .val (.double (FP.dneg (FP.i2d p1))), .second, .val (.ref w1)] [])) _
    refine XS.iconst X2.here hx rfl (hb hby at_132) ?_
    show Steps p.tables e below (T2.setTop (mkF m 133 #[.val (.int p0), .val (.int p1), .val (.int p2), .val (.int (0 : Int32)), .val (.int (1 : Int32)), .val (.long (p0.toInt64)), .second, .val (.long ((-(p1.toInt64)))), .second, .val (.double (FP.i2d p0)), .second, .val (.double (FP.dneg (FP.i2d p1))), .second, .val (.ref w1)] [(.int (1 : Int32))])) _
    refine XS.goto X2.here hx rfl (pc0 := 133) (pc' := 137) rfl (hb hby at_133) (by decide) (by decide) ?_
    show Steps p.tables e below (T2.setTop (mkF m 137 #[.val (.int p0), .val (.int p1), .val (.int p2), .val (.int (0 : Int32)), .val (.int (1 : Int32)), .val (.long (p0.toInt64)), .second, .val (.long ((-(p1.toInt64)))), .second, .val (.double (FP.i2d p0)), .second, .val (.double (FP.dneg (FP.i2d p1))), .second, .val (.ref w1)] [(.int (1 : Int32))])) _
    exact retN X2 hx (t := .boolean) Bd.returns (by simp) (hb hby at_137) hr
  · exact ⟨rfl, N2, e2⟩
set_option maxRecDepth 65536 in
set_option maxHeartbeats 40000000 in
theorem rm_0_1_1 (l : Launch) (Z : State) (a0 : Array Value) (hw : ∀ d ∈ tables_1, d.before a0 Z = true) (ws : List Jvm.Cond) (x0 x1 : UInt64) (w0 : Addr) (w1 : Addr) (w2 : Addr) (h0 : Heap) (n0 : Nat) (O : Old Z n0 h0) (hG : GG Z w0 w1 w2) (hD : ∀ o, cmpValue (FP.dcmp x0 x1) o = (0 : Int32)) :
    MetFree l (⟨"com/example/fieldward/fieldward/validation/OrderedKind$Order", "of", "(DD)Lcom/example/fieldward/fieldward/validation/OrderedKind$Order;"⟩ : MethodName) (head1 (Jvm.Cond.code (⟨"com/example/fieldward/fieldward/validation/OrderedKind$Order", "of", "(DD)Lcom/example/fieldward/fieldward/validation/OrderedKind$Order;"⟩ : MethodName) prog_15_method_5_code 5 (some (.object "com/example/fieldward/fieldward/validation/OrderedKind$Order")) :: ws) ({ frames := 0, cells := 0, slots := 0, locals := 0 } : Room)) (fun a U => a = #[(.double x0), (.double x1)] ∧ Z.Warmed39 U.vm ∧ U.heap = h0) (fun _ _ _ _ _ => True) (fun _ U o U' => ∃ v L, o = .returned v ∧ Qv (some (.ref w2)) h0 n0 v U'.heap L ∧ FrameEnd U o U' L ({ frames := 0, cells := 0, slots := 0, locals := 0 } : Room).cells ({ frames := 0, cells := 0, slots := 0, locals := 0 } : Room).slots) := by
  refine MetFree.of_bodySF (plainFor_of_name pn_com_example_fieldward_fieldward_validation_OrderedKind_Order) hisR ?_
  intro p e s m args below meth c s₁ Bd hml0 hP hK
  obtain ⟨rfl, hZ, hh⟩ := hP
  have hx := Bd.exec
  have hby := Bd.bytes
  have hml : c.maxLocals = 5 := hml0
  have hown : s.vm.findClass "com/example/fieldward/fieldward/validation/OrderedKind$Order" = some m.cls := findClass_of_methodNamed Bd.named
  have hnm := (name_of_methodNamed Bd.named Bd.method).1
  have X0 : Stand p l e ({ frames := 0, cells := 0, slots := 0, locals := 0 } : Room) s m #[(.double x0), (.double x1)] below meth c s₁ [] 0 0 := Stand.of_body Bd
  have e0 : s₁.heap = h0 := by rw [← hh, Bd.state]; rfl
  have N0 := Fr.nil n0
  have pre0 : ∀ t, Steps p.tables e below (s₁.setTop (mkF m 0 #[.val (.double x0), .second, .val (.double x1), .second, .unset] [])) t → Steps p.tables e below (s₁.setTop (entryFrame m #[(.double x0), (.double x1)] 5)) t := fun t k => castTop (ef_5_DD m x0 x1) k
  obtain ⟨Sw0, Sw1, Sw2, Ew0, Ew1, Ew2⟩ := id hG
  obtain ⟨T1, X1, e1, st1⟩ := getS2 X0 hx hZ hown (host := "") (Or.inl (hw _ (List.mem_of_getElem? (i := 12) rfl))) Via.refl e0 (Sw2.ext O.2) (g := (mkF m 34 #[.val (.double x0), .second, .val (.double x1), .second, .unset] [])) rfl (hb hby d1_34)
  obtain ⟨fs, hr, hrun, hended, hW, hsame⟩ := X1.leave (v := some (.ref w2)) (fun h => by rw [Bd.returns] at h; cases h)
  refine ⟨_, _, pre0 _ ?_, hrun, hended, _, _, rfl, ?_, ⟨_, rfl⟩, hW, hsame.mono (by decide) (by decide)⟩
  · show Steps p.tables e below (s₁.setTop (mkF m 0 #[.val (.double x0), .second, .val (.double x1), .second, .unset] [])) _
    refine XS.dloadN X0.here hx rfl (hb hby d1_0) rfl ?_
    show Steps p.tables e below (s₁.setTop (mkF m 1 #[.val (.double x0), .second, .val (.double x1), .second, .unset] [(.double x0)])) _
    refine XS.dloadN X0.here hx rfl (hb hby d1_1) rfl ?_
    show Steps p.tables e below (s₁.setTop (mkF m 2 #[.val (.double x0), .second, .val (.double x1), .second, .unset] [(.double x1), (.double x0)])) _
    refine XS.dcmpS X0.here hx rfl (hb hby d1_2) rfl rfl ?_
    show Steps p.tables e below (s₁.setTop (mkF m 3 #[.val (.double x0), .second, .val (.double x1), .second, .unset] [(.int (cmpValue (FP.dcmp x0 x1) .g))])) _
    rw [hD]
    show Steps p.tables e below (s₁.setTop (mkF m 3 #[.val (.double x0), .second, .val (.double x1), .second, .unset] [(.int (0 : Int32))])) _
    refine XS.ifYes X0.here hx rfl (pc0 := 3) (pc' := 14) rfl (hb hby d1_3) rfl ((if0 _ _).trans (flt ((by decide) : ¬ ((0 : Int32) < (0 : Int32)))).2.1) (by decide) (by decide) ?_
    show Steps p.tables e below (s₁.setTop (mkF m 14 #[.val (.double x0), .second, .val (.double x1), .second, .unset] [])) _
    refine XS.dloadN X0.here hx rfl (hb hby d1_14) rfl ?_
    show Steps p.tables e below (s₁.setTop (mkF m 15 #[.val (.double x0), .second, .val (.double x1), .second, .unset] [(.double x0)])) _
    refine XS.dloadN X0.here hx rfl (hb hby d1_15) rfl ?_
    show Steps p.tables e below (s₁.setTop (mkF m 16 #[.val (.double x0), .second, .val (.double x1), .second, .unset] [(.double x1), (.double x0)])) _
    refine XS.dcmpS X0.here hx rfl (hb hby d1_16) rfl rfl ?_
    show Steps p.tables e below (s₁.setTop (mkF m 17 #[.val (.double x0), .second, .val (.double x1), .second, .unset] [(.int (cmpValue (FP.dcmp x0 x1) .l))])) _
    rw [hD]
    show Steps p.tables e below (s₁.setTop (mkF m 17 #[.val (.double x0), .second, .val (.double x1), .second, .unset] [(.int (0 : Int32))])) _
    refine XS.ifYes X0.here hx rfl (pc0 := 17) (pc' := 28) rfl (hb hby d1_17) rfl ((if0 _ _).trans (flt ((by decide) : ¬ ((0 : Int32) < (0 : Int32)))).2.2.2) (by decide) (by decide) ?_
    show Steps p.tables e below (s₁.setTop (mkF m 28 #[.val (.double x0), .second, .val (.double x1), .second, .unset] [])) _
    refine XS.dloadN X0.here hx rfl (hb hby d1_28) rfl ?_
    show Steps p.tables e below (s₁.setTop (mkF m 29 #[.val (.double x0), .second, .val (.double x1), .second, .unset] [(.double x0)])) _
    refine XS.dloadN X0.here hx rfl (hb hby d1_29) rfl ?_
    show Steps p.tables e below (s₁.setTop (mkF m 30 #[.val (.double x0), .second, .val (.double x1), .second, .unset] [(.double x1), (.double x0)])) _
    refine XS.dcmpS X0.here hx rfl (hb hby d1_30) rfl rfl ?_
    show Steps p.tables e below (s₁.setTop (mkF m 31 #[.val (.double x0), .second, .val (.double x1), .second, .unset] [(.int (cmpValue (FP.dcmp x0 x1) .l))])) _
    rw [hD]
    show Steps p.tables e below (s₁.setTop (mkF m 31 #[.val (.double x0), .second, .val (.double x1), .second, .unset] [(.int (0 : Int32))])) _
    refine XS.ifNo X0.here hx rfl (hb hby d1_31) rfl ((if0 _ _).trans (teq ((by decide) : (0 : Int32) = (0 : Int32))).2) ?_
    show Steps p.tables e below (s₁.setTop (mkF m 34 #[.val (.double x0), .second, .val (.double x1), .second, .unset] [])) _
    refine st1 _ ?_
    show Steps p.tables e below (T1.setTop (mkF m 37 #[.val (.double x0), .second, .val (.double x1), .second, .unset] [(.ref w2)])) _
    refine XS.astore X1.here hx rfl (hb hby d1_37) rfl rfl (l' := #[.val (.double x0), .second, .val (.double x1), .second, .val (.ref w2)]) rfl ?_
    show Steps p.tables e below (T1.setTop (mkF m 39 #[.val (.double x0), .second, .val (.double x1), .second, .val (.ref w2)] [])) _
    refine XS.goto X1.here hx rfl (pc0 := 39) (pc' := 47) rfl (hb hby d1_39) (by decide) (by decide) ?_
    show Steps p.tables e below (T1.setTop (mkF m 47 #[.val (.double x0), .second, .val (.double x1), .second, .val (.ref w2)] [])) _
    refine XS.aload X1.here hx rfl (hb hby d1_47) rfl rfl ?_
    show Steps p.tables e below (T1.setTop (mkF m 49 #[.val (.double x0), .second, .val (.double x1), .second, .val (.ref w2)] [(.ref w2)])) _
    exact retOut X1 hx Bd.returns rfl (Or.inr (Or.inr (Or.inr (Or.inr ⟨rfl, rfl, rfl⟩)))) (hb hby d1_49) hr
  · exact ⟨rfl, N0, e1⟩
set_option maxRecDepth 65536 in
set_option maxHeartbeats 40000000 in
theorem rl_0_1_1 (l : Launch) (Z : State) (a0 : Array Value) (hw : ∀ d ∈ tables_1, d.before a0 Z = true) (ws : List Jvm.Cond) (p0 p1 p2 : Int32) (w0 : Addr) (w1 : Addr) (w2 : Addr) (h0 : Heap) (n0 : Nat) (O : Old Z n0 h0) (hG : GG Z w0 w1 w2) (hA : p2 &&& (1 : Int32) = (0 : Int32)) (hB : ¬ (p2 &&& (2 : Int32) = (0 : Int32))) (hL : lcmpW (p0.toInt64) (-(p1.toInt64)) = (0 : Int32)) (hD : ∀ o, cmpValue (FP.dcmp (FP.i2d p0) (FP.dneg (FP.i2d p1))) o = (0 : Int32)) :
    MetFree l x (head1 (Jvm.Cond.code x code maxLocals ret :: ws) room_1) (fun a U => a = #[(.int p0), (.int p1), (.int p2)] ∧ Z.Warmed39 U.vm ∧ U.heap = h0) (fun _ _ _ _ _ => True) (fun _ U o U' => ∃ v L, o = .returned v ∧ Qv (some (.int (1 : Int32))) h0 n0 v U'.heap L ∧ FrameEnd U o U' L 0 0) := by
  refine MetFree.of_bodySF (plainFor_of_name pn_com_example_fieldward_fieldward_validation_OrderOfPinLaw) hisR ?_
  intro p e s m args below meth c s₁ Bd hml0 hP hK
  obtain ⟨rfl, hZ, hh⟩ := hP
  have hx := Bd.exec
  have hby := Bd.bytes
  have hml : c.maxLocals = 14 := hml0
  have hown : s.vm.findClass "com/example/fieldward/fieldward/validation/OrderOfPinLaw" = some m.cls := findClass_of_methodNamed Bd.named
  have hnm := (name_of_methodNamed Bd.named Bd.method).1
  have X0 : Stand p l e room_1 s m #[(.int p0), (.int p1), (.int p2)] below meth c s₁ [] 0 0 := Stand.of_body Bd
  have e0 : s₁.heap = h0 := by rw [← hh, Bd.state]; rfl
  have N0 := Fr.nil n0
  have pre0 : ∀ t, Steps p.tables e below (s₁.setTop (mkF m 0 #[.val (.int p0), .val (.int p1), .val (.int p2), .unset, .unset, .unset, .unset, .unset, .unset, .unset, .unset, .unset, .unset, .unset] [])) t → Steps p.tables e below (s₁.setTop (entryFrame m #[(.int p0), (.int p1), (.int p2)] maxLocals)) t := fun t k => castTop (ef_maxLocals_III m p0 p1 p2) k
  obtain ⟨Sw0, Sw1, Sw2, Ew0, Ew1, Ew2⟩ := id hG
  obtain ⟨T1, X1, e1, st1⟩ := getS2 X0 hx hZ hown (host := "") (Or.inl (hw _ (List.mem_of_getElem? (i := 10) rfl))) Via.refl e0 (Sw2.ext O.2) (g := (mkF m 115 #[.val (.int p0), .val (.int p1), .val (.int p2), .val (.int (0 : Int32)), .val (.int (1 : Int32)), .val (.long (p0.toInt64)), .second, .val (.long ((-(p1.toInt64)))), .second, .val (.double (FP.i2d p0)), .second, .val (.double (FP.dneg (FP.i2d p1))), .second, .unset] [])) rfl (hb hby at_115)
  obtain ⟨_, _, ⟨T2, L2, k2, n2⟩, -, X2, ⟨Lc2, hQ2, l2, y2, z2⟩, st2⟩ := Jvm.LawKit.callS X1 hx (y := (⟨"com/example/fieldward/fieldward/validation/OrderedKind$Order", "of", "(DD)Lcom/example/fieldward/fieldward/validation/OrderedKind$Order;"⟩ : MethodName)) hown (mvT hZ (hw _ (List.mem_of_getElem? (i := 3) rfl))) (mvT hZ (hw _ (List.mem_of_getElem? (i := 4) rfl))) (mvT hZ (hw _ (List.mem_of_getElem? (i := 1) rfl))) (mvT hZ (hw _ (List.mem_of_getElem? (i := 5) rfl))) (by decide) (backOf (W := 0) (rm_0_1_1 l Z a0 hw [] (FP.i2d p0) (FP.dneg (FP.i2d p1)) w0 w1 w2 h0 n0 O hG hD) hZ (hw _ (List.mem_of_getElem? (i := 5) rfl)) (hw _ (List.mem_of_getElem? (i := 1) rfl)) (by decide) (by decide)) (g := (mkF m 124 #[.val (.int p0), .val (.int p1), .val (.int p2), .val (.int (0 : Int32)), .val (.int (1 : Int32)), .val (.long (p0.toInt64)), .second, .val (.long ((-(p1.toInt64)))), .second, .val (.double (FP.i2d p0)), .second, .val (.double (FP.dneg (FP.i2d p1))), .second, .val (.ref w2)] [(.double (FP.dneg (FP.i2d p1))), (.double (FP.i2d p0))])) rfl (by rw [hml]; rfl) (argsL := [(.double (FP.i2d p0)), (.double (FP.dneg (FP.i2d p1)))]) (rest := []) (lenOf pd_28DD29Lcom2fexample2ffieldward2ffieldward2fvalidation2fOrderedKind24Order3b rfl) rfl (by show 2 * 0 + _ ≤ _; exact Nat.le_of_eq rfl) (hb hby at_124) (fun _ _ => ⟨rfl, e1, (by decide : 0 + 0 ≤ _), (by decide : 0 + 0 ≤ _)⟩)
  dsimp only [Pt.U, Pt.locs, Pt.cells, Pt.slots] at X2 l2 y2 z2 st2 hQ2
  subst l2 y2 z2
  obtain ⟨rfl, N2q, e2⟩ := hQ2
  have N2 := Fr.app N0 N2q
  obtain ⟨fs, hr, hrun, hended, hW, hsame⟩ := X2.leave (v := some (.int (1 : Int32))) (fun h => by rw [Bd.returns] at h; cases h)
  refine ⟨_, _, pre0 _ ?_, hrun, hended, _, _, rfl, ?_, ⟨_, rfl⟩, hW, hsame.mono (by decide) (by decide)⟩
  · show Steps p.tables e below (s₁.setTop (mkF m 0 #[.val (.int p0), .val (.int p1), .val (.int p2), .unset, .unset, .unset, .unset, .unset, .unset, .unset, .unset, .unset, .unset, .unset] [])) _
    refine XS.iloadN X0.here hx rfl (hb hby at_0) rfl ?_
    show Steps p.tables e below (s₁.setTop (mkF m 1 #[.val (.int p0), .val (.int p1), .val (.int p2), .unset, .unset, .unset, .unset, .unset, .unset, .unset, .unset, .unset, .unset, .unset] [(.int p2)])) _
    refine XS.iconst X0.here hx rfl (hb hby at_1) ?_
    show Steps p.tables e below (s₁.setTop (mkF m 2 #[.val (.int p0), .val (.int p1), .val (.int p2), .unset, .unset, .unset, .unset, .unset, .unset, .unset, .unset, .unset, .unset, .unset] [(.int (1 : Int32)), (.int p2)])) _
    refine XS.iand X0.here hx rfl (hb hby at_2) rfl ?_
    show Steps p.tables e below (s₁.setTop (mkF m 3 #[.val (.int p0), .val (.int p1), .val (.int p2), .unset, .unset, .unset, .unset, .unset, .unset, .unset, .unset, .unset, .unset, .unset] [(.int (p2 &&& (1 : Int32)))])) _
    rw [hA]
    show Steps p.tables e below (s₁.setTop (mkF m 3 #[.val (.int p0), .val (.int p1), .val (.int p2), .unset, .unset, .unset, .unset, .unset, .unset, .unset, .unset, .unset, .unset, .unset] [(.int (0 : Int32))])) _
    refine XS.ifYes X0.here hx rfl (pc0 := 3) (pc' := 10) rfl (hb hby at_3) rfl ((if0 _ _).trans (teq ((by decide) : (0 : Int32) = (0 : Int32))).1) (by decide) (by decide) ?_
    show Steps p.tables e below (s₁.setTop (mkF m 10 #[.val (.int p0), .val (.int p1), .val (.int p2), .unset, .unset, .unset, .unset, .unset, .unset, .unset, .unset, .unset, .unset, .unset] [])) _
    refine XS.iconst X0.here hx rfl (hb hby at_10) ?_
    show Steps p.tables e below (s₁.setTop (mkF m 11 #[.val (.int p0), .val (.int p1), .val (.int p2), .unset, .unset, .unset, .unset, .unset, .unset, .unset, .unset, .unset, .unset, .unset] [(.int (0 : Int32))])) _
    refine XS.istoreN X0.here hx rfl (hb hby at_11) rfl (l' := #[.val (.int p0), .val (.int p1), .val (.int p2), .val (.int (0 : Int32)), .unset, .unset, .unset, .unset, .unset, .unset, .unset, .unset, .unset, .unset]) rfl ?_
    show Steps p.tables e below (s₁.setTop (mkF m 12 #[.val (.int p0), .val (.int p1), .val (.int p2), .val (.int (0 : Int32)), .unset, .unset, .unset, .unset, .unset, .unset, .unset, .unset, .unset, .unset] [])) _
    refine XS.iloadN X0.here hx rfl (hb hby at_12) rfl ?_
    show Steps p.tables e below (s₁.setTop (mkF m 13 #[.val (.int p0), .val (.int p1), .val (.int p2), .val (.int (0 : Int32)), .unset, .unset, .unset, .unset, .unset, .unset, .unset, .unset, .unset, .unset] [(.int p2)])) _
    refine XS.iconst X0.here hx rfl (hb hby at_13) ?_
    show Steps p.tables e below (s₁.setTop (mkF m 14 #[.val (.int p0), .val (.int p1), .val (.int p2), .val (.int (0 : Int32)), .unset, .unset, .unset, .unset, .unset, .unset, .unset, .unset, .unset, .unset] [(.int (2 : Int32)), (.int p2)])) _
    refine XS.iand X0.here hx rfl (hb hby at_14) rfl ?_
    show Steps p.tables e below (s₁.setTop (mkF m 15 #[.val (.int p0), .val (.int p1), .val (.int p2), .val (.int (0 : Int32)), .unset, .unset, .unset, .unset, .unset, .unset, .unset, .unset, .unset, .unset] [(.int (p2 &&& (2 : Int32)))])) _
    refine XS.ifNo X0.here hx rfl (hb hby at_15) rfl ((if0 _ _).trans (feq (hB : ¬ ((p2 &&& (2 : Int32)) = (0 : Int32)))).1) ?_
    show Steps p.tables e below (s₁.setTop (mkF m 18 #[.val (.int p0), .val (.int p1), .val (.int p2), .val (.int (0 : Int32)), .unset, .unset, .unset, .unset, .unset, .unset, .unset, .unset, .unset, .unset] [])) _
    refine XS.iconst X0.here hx rfl (hb hby at_18) ?_
    show Steps p.tables e below (s₁.setTop (mkF m 19 #[.val (.int p0), .val (.int p1), .val (.int p2), .val (.int (0 : Int32)), .unset, .unset, .unset, .unset, .unset, .unset, .unset, .unset, .unset, .unset] [(.int (1 : Int32))])) _
    refine XS.goto X0.here hx rfl (pc0 := 19) (pc' := 23) rfl (hb hby at_19) (by decide) (by decide) ?_
    show Steps p.tables e below (s₁.setTop (mkF m 23 #[.val (.int p0), .val (.int p1), .val (.int p2), .val (.int (0 : Int32)), .unset, .unset, .unset, .unset, .unset, .unset, .unset, .unset, .unset, .unset] [(.int (1 : Int32))])) _
    refine XS.istore X0.here hx rfl (hb hby at_23) rfl (l' := #[.val (.int p0), .val (.int p1), .val (.int p2), .val (.int (0 : Int32)), .val (.int (1 : Int32)), .unset, .unset, .unset, .unset, .unset, .unset, .unset, .unset, .unset]) rfl ?_
    show Steps p.tables e below (s₁.setTop (mkF m 25 #[.val (.int p0), .val (.int p1), .val (.int p2), .val (.int (0 : Int32)), .val (.int (1 : Int32)), .unset, .unset, .unset, .unset, .unset, .unset, .unset, .unset, .unset] [])) _
    refine XS.iloadN X0.here hx rfl (hb hby at_25) rfl ?_
    show Steps p.tables e below (s₁.setTop (mkF m 26 #[.val (.int p0), .val (.int p1), .val (.int p2), .val (.int (0 : Int32)), .val (.int (1 : Int32)), .unset, .unset, .unset, .unset, .unset, .unset, .unset, .unset, .unset] [(.int (0 : Int32))])) _
    refine XS.ifYes X0.here hx rfl (pc0 := 26) (pc' := 35) rfl (hb hby at_26) rfl ((if0 _ _).trans (teq ((by decide) : (0 : Int32) = (0 : Int32))).1) (by decide) (by decide) ?_
    show Steps p.tables e below (s₁.setTop (mkF m 35 #[.val (.int p0), .val (.int p1), .val (.int p2), .val (.int (0 : Int32)), .val (.int (1 : Int32)), .unset, .unset, .unset, .unset, .unset, .unset, .unset, .unset, .unset] [])) _
    refine XS.iloadN X0.here hx rfl (hb hby at_35) rfl ?_
    show Steps p.tables e below (s₁.setTop (mkF m 36 #[.val (.int p0), .val (.int p1), .val (.int p2), .val (.int (0 : Int32)), .val (.int (1 : Int32)), .unset, .unset, .unset, .unset, .unset, .unset, .unset, .unset, .unset] [(.int p0)])) _
    refine XS.i2l X0.here hx rfl (hb hby at_36) rfl ?_
    show Steps p.tables e below (s₁.setTop (mkF m 37 #[.val (.int p0), .val (.int p1), .val (.int p2), .val (.int (0 : Int32)), .val (.int (1 : Int32)), .unset, .unset, .unset, .unset, .unset, .unset, .unset, .unset, .unset] [(.long (p0.toInt64))])) _
    refine XS.lstore X0.here hx rfl (hb hby at_37) rfl (l' := #[.val (.int p0), .val (.int p1), .val (.int p2), .val (.int (0 : Int32)), .val (.int (1 : Int32)), .val (.long (p0.toInt64)), .second, .unset, .unset, .unset, .unset, .unset, .unset, .unset]) rfl ?_
    show Steps p.tables e below (s₁.setTop (mkF m 39 #[.val (.int p0), .val (.int p1), .val (.int p2), .val (.int (0 : Int32)), .val (.int (1 : Int32)), .val (.long (p0.toInt64)), .second, .unset, .unset, .unset, .unset, .unset, .unset, .unset] [])) _
    refine XS.iload X0.here hx rfl (hb hby at_39) rfl ?_
    show Steps p.tables e below (s₁.setTop (mkF m 41 #[.val (.int p0), .val (.int p1), .val (.int p2), .val (.int (0 : Int32)), .val (.int (1 : Int32)), .val (.long (p0.toInt64)), .second, .unset, .unset, .unset, .unset, .unset, .unset, .unset] [(.int (1 : Int32))])) _
    refine XS.ifNo X0.here hx rfl (hb hby at_41) rfl ((if0 _ _).trans (feq ((by decide) : ¬ ((1 : Int32) = (0 : Int32)))).1) ?_
    show Steps p.tables e below (s₁.setTop (mkF m 44 #[.val (.int p0), .val (.int p1), .val (.int p2), .val (.int (0 : Int32)), .val (.int (1 : Int32)), .val (.long (p0.toInt64)), .second, .unset, .unset, .unset, .unset, .unset, .unset, .unset] [])) _
    refine XS.iloadN X0.here hx rfl (hb hby at_44) rfl ?_
    show Steps p.tables e below (s₁.setTop (mkF m 45 #[.val (.int p0), .val (.int p1), .val (.int p2), .val (.int (0 : Int32)), .val (.int (1 : Int32)), .val (.long (p0.toInt64)), .second, .unset, .unset, .unset, .unset, .unset, .unset, .unset] [(.int p1)])) _
    refine XS.i2l X0.here hx rfl (hb hby at_45) rfl ?_
    show Steps p.tables e below (s₁.setTop (mkF m 46 #[.val (.int p0), .val (.int p1), .val (.int p2), .val (.int (0 : Int32)), .val (.int (1 : Int32)), .val (.long (p0.toInt64)), .second, .unset, .unset, .unset, .unset, .unset, .unset, .unset] [(.long (p1.toInt64))])) _
    refine XS.lneg X0.here hx rfl (hb hby at_46) rfl ?_
    show Steps p.tables e below (s₁.setTop (mkF m 47 #[.val (.int p0), .val (.int p1), .val (.int p2), .val (.int (0 : Int32)), .val (.int (1 : Int32)), .val (.long (p0.toInt64)), .second, .unset, .unset, .unset, .unset, .unset, .unset, .unset] [(.long ((-(p1.toInt64))))])) _
    refine XS.goto X0.here hx rfl (pc0 := 47) (pc' := 52) rfl (hb hby at_47) (by decide) (by decide) ?_
    show Steps p.tables e below (s₁.setTop (mkF m 52 #[.val (.int p0), .val (.int p1), .val (.int p2), .val (.int (0 : Int32)), .val (.int (1 : Int32)), .val (.long (p0.toInt64)), .second, .unset, .unset, .unset, .unset, .unset, .unset, .unset] [(.long ((-(p1.toInt64))))])) _
    refine XS.lstore X0.here hx rfl (hb hby at_52) rfl (l' := #[.val (.int p0), .val (.int p1), .val (.int p2), .val (.int (0 : Int32)), .val (.int (1 : Int32)), .val (.long (p0.toInt64)), .second, .val (.long ((-(p1.toInt64)))), .second, .unset, .unset, .unset, .unset, .unset]) rfl ?_
    show Steps p.tables e below (s₁.setTop (mkF m 54 #[.val (.int p0), .val (.int p1), .val (.int p2), .val (.int (0 : Int32)), .val (.int (1 : Int32)), .val (.long (p0.toInt64)), .second, .val (.long ((-(p1.toInt64)))), .second, .unset, .unset, .unset, .unset, .unset] [])) _
    refine XS.iloadN X0.here hx rfl (hb hby at_54) rfl ?_
    show Steps p.tables e below (s₁.setTop (mkF m 55 #[.val (.int p0), .val (.int p1), .val (.int p2), .val (.int (0 : Int32)), .val (.int (1 : Int32)), .val (.long (p0.toInt64)), .second, .val (.long ((-(p1.toInt64)))), .second, .unset, .unset, .unset, .unset, .unset] [(.int (0 : Int32))])) _
    refine XS.ifYes X0.here hx rfl (pc0 := 55) (pc' := 64) rfl (hb hby at_55) rfl ((if0 _ _).trans (teq ((by decide) : (0 : Int32) = (0 : Int32))).1) (by decide) (by decide) ?_
    show Steps p.tables e below (s₁.setTop (mkF m 64 #[.val (.int p0), .val (.int p1), .val (.int p2), .val (.int (0 : Int32)), .val (.int (1 : Int32)), .val (.long (p0.toInt64)), .second, .val (.long ((-(p1.toInt64)))), .second, .unset, .unset, .unset, .unset, .unset] [])) _
    refine XS.iloadN X0.here hx rfl (hb hby at_64) rfl ?_
    show Steps p.tables e below (s₁.setTop (mkF m 65 #[.val (.int p0), .val (.int p1), .val (.int p2), .val (.int (0 : Int32)), .val (.int (1 : Int32)), .val (.long (p0.toInt64)), .second, .val (.long ((-(p1.toInt64)))), .second, .unset, .unset, .unset, .unset, .unset] [(.int p0)])) _
    refine XS.i2dS X0.here hx rfl (hb hby at_65) rfl rfl ?_
    show Steps p.tables e below (s₁.setTop (mkF m 66 #[.val (.int p0), .val (.int p1), .val (.int p2), .val (.int (0 : Int32)), .val (.int (1 : Int32)), .val (.long (p0.toInt64)), .second, .val (.long ((-(p1.toInt64)))), .second, .unset, .unset, .unset, .unset, .unset] [(.double (FP.i2d p0))])) _
    refine XS.dstore X0.here hx rfl (hb hby at_66) rfl (l' := #[.val (.int p0), .val (.int p1), .val (.int p2), .val (.int (0 : Int32)), .val (.int (1 : Int32)), .val (.long (p0.toInt64)), .second, .val (.long ((-(p1.toInt64)))), .second, .val (.double (FP.i2d p0)), .second, .unset, .unset, .unset]) rfl ?_
    show Steps p.tables e below (s₁.setTop (mkF m 68 #[.val (.int p0), .val (.int p1), .val (.int p2), .val (.int (0 : Int32)), .val (.int (1 : Int32)), .val (.long (p0.toInt64)), .second, .val (.long ((-(p1.toInt64)))), .second, .val (.double (FP.i2d p0)), .second, .unset, .unset, .unset] [])) _
    refine XS.iload X0.here hx rfl (hb hby at_68) rfl ?_
    show Steps p.tables e below (s₁.setTop (mkF m 70 #[.val (.int p0), .val (.int p1), .val (.int p2), .val (.int (0 : Int32)), .val (.int (1 : Int32)), .val (.long (p0.toInt64)), .second, .val (.long ((-(p1.toInt64)))), .second, .val (.double (FP.i2d p0)), .second, .unset, .unset, .unset] [(.int (1 : Int32))])) _
    refine XS.ifNo X0.here hx rfl (hb hby at_70) rfl ((if0 _ _).trans (feq ((by decide) : ¬ ((1 : Int32) = (0 : Int32)))).1) ?_
    show Steps p.tables e below (s₁.setTop (mkF m 73 #[.val (.int p0), .val (.int p1), .val (.int p2), .val (.int (0 : Int32)), .val (.int (1 : Int32)), .val (.long (p0.toInt64)), .second, .val (.long ((-(p1.toInt64)))), .second, .val (.double (FP.i2d p0)), .second, .unset, .unset, .unset] [])) _
    refine XS.iloadN X0.here hx rfl (hb hby at_73) rfl ?_
    show Steps p.tables e below (s₁.setTop (mkF m 74 #[.val (.int p0), .val (.int p1), .val (.int p2), .val (.int (0 : Int32)), .val (.int (1 : Int32)), .val (.long (p0.toInt64)), .second, .val (.long ((-(p1.toInt64)))), .second, .val (.double (FP.i2d p0)), .second, .unset, .unset, .unset] [(.int p1)])) _
    refine XS.i2dS X0.here hx rfl (hb hby at_74) rfl rfl ?_
    show Steps p.tables e below (s₁.setTop (mkF m 75 #[.val (.int p0), .val (.int p1), .val (.int p2), .val (.int (0 : Int32)), .val (.int (1 : Int32)), .val (.long (p0.toInt64)), .second, .val (.long ((-(p1.toInt64)))), .second, .val (.double (FP.i2d p0)), .second, .unset, .unset, .unset] [(.double (FP.i2d p1))])) _
    refine XS.dnegS X0.here hx rfl (hb hby at_75) rfl rfl ?_
    show Steps p.tables e below (s₁.setTop (mkF m 76 #[.val (.int p0), .val (.int p1), .val (.int p2), .val (.int (0 : Int32)), .val (.int (1 : Int32)), .val (.long (p0.toInt64)), .second, .val (.long ((-(p1.toInt64)))), .second, .val (.double (FP.i2d p0)), .second, .unset, .unset, .unset] [(.double (FP.dneg (FP.i2d p1)))])) _
    refine XS.goto X0.here hx rfl (pc0 := 76) (pc' := 81) rfl (hb hby at_76) (by decide) (by decide) ?_
    show Steps p.tables e below (s₁.setTop (mkF m 81 #[.val (.int p0), .val (.int p1), .val (.int p2), .val (.int (0 : Int32)), .val (.int (1 : Int32)), .val (.long (p0.toInt64)), .second, .val (.long ((-(p1.toInt64)))), .second, .val (.double (FP.i2d p0)), .second, .unset, .unset, .unset] [(.double (FP.dneg (FP.i2d p1)))])) _
    refine XS.dstore X0.here hx rfl (hb hby at_81) rfl (l' := #[.val (.int p0), .val (.int p1), .val (.int p2), .val (.int (0 : Int32)), .val (.int (1 : Int32)), .val (.long (p0.toInt64)), .second, .val (.long ((-(p1.toInt64)))), .second, .val (.double (FP.i2d p0)), .second, .val (.double (FP.dneg (FP.i2d p1))), .second, .unset]) rfl ?_
    show Steps p.tables e below (s₁.setTop (mkF m 83 #[.val (.int p0), .val (.int p1), .val (.int p2), .val (.int (0 : Int32)), .val (.int (1 : Int32)), .val (.long (p0.toInt64)), .second, .val (.long ((-(p1.toInt64)))), .second, .val (.double (FP.i2d p0)), .second, .val (.double (FP.dneg (FP.i2d p1))), .second, .unset] [])) _
    refine XS.lload X0.here hx rfl (hb hby at_83) rfl ?_
    show Steps p.tables e below (s₁.setTop (mkF m 85 #[.val (.int p0), .val (.int p1), .val (.int p2), .val (.int (0 : Int32)), .val (.int (1 : Int32)), .val (.long (p0.toInt64)), .second, .val (.long ((-(p1.toInt64)))), .second, .val (.double (FP.i2d p0)), .second, .val (.double (FP.dneg (FP.i2d p1))), .second, .unset] [(.long (p0.toInt64))])) _
    refine XS.lload X0.here hx rfl (hb hby at_85) rfl ?_
    show Steps p.tables e below (s₁.setTop (mkF m 87 #[.val (.int p0), .val (.int p1), .val (.int p2), .val (.int (0 : Int32)), .val (.int (1 : Int32)), .val (.long (p0.toInt64)), .second, .val (.long ((-(p1.toInt64)))), .second, .val (.double (FP.i2d p0)), .second, .val (.double (FP.dneg (FP.i2d p1))), .second, .unset] [(.long ((-(p1.toInt64)))), (.long (p0.toInt64))])) _
    refine XS.lcmp X0.here hx rfl (hb hby at_87) rfl ?_
    show Steps p.tables e below (s₁.setTop (mkF m 88 #[.val (.int p0), .val (.int p1), .val (.int p2), .val (.int (0 : Int32)), .val (.int (1 : Int32)), .val (.long (p0.toInt64)), .second, .val (.long ((-(p1.toInt64)))), .second, .val (.double (FP.i2d p0)), .second, .val (.double (FP.dneg (FP.i2d p1))), .second, .unset] [(.int (lcmpW (p0.toInt64) ((-(p1.toInt64)))))])) _
    rw [hL]
    show Steps p.tables e below (s₁.setTop (mkF m 88 #[.val (.int p0), .val (.int p1), .val (.int p2), .val (.int (0 : Int32)), .val (.int (1 : Int32)), .val (.long (p0.toInt64)), .second, .val (.long ((-(p1.toInt64)))), .second, .val (.double (FP.i2d p0)), .second, .val (.double (FP.dneg (FP.i2d p1))), .second, .unset] [(.int (0 : Int32))])) _
    refine XS.ifYes X0.here hx rfl (pc0 := 88) (pc' := 99) rfl (hb hby at_88) rfl ((if0 _ _).trans (flt ((by decide) : ¬ ((0 : Int32) < (0 : Int32)))).2.1) (by decide) (by decide) ?_
    show Steps p.tables e below (s₁.setTop (mkF m 99 #[.val (.int p0), .val (.int p1), .val (.int p2), .val (.int (0 : Int32)), .val (.int (1 : Int32)), .val (.long (p0.toInt64)), .second, .val (.long ((-(p1.toInt64)))), .second, .val (.double (FP.i2d p0)), .second, .val (.double (FP.dneg (FP.i2d p1))), .second, .unset] [])) _
    refine XS.lload X0.here hx rfl (hb hby at_99) rfl ?_
    show Steps p.tables e below (s₁.setTop (mkF m 101 #[.val (.int p0), .val (.int p1), .val (.int p2), .val (.int (0 : Int32)), .val (.int (1 : Int32)), .val (.long (p0.toInt64)), .second, .val (.long ((-(p1.toInt64)))), .second, .val (.double (FP.i2d p0)), .second, .val (.double (FP.dneg (FP.i2d p1))), .second, .unset] [(.long (p0.toInt64))])) _
    refine XS.lload X0.here hx rfl (hb hby at_101) rfl ?_
    show Steps p.tables e below (s₁.setTop (mkF m 103 #[.val (.int p0), .val (.int p1), .val (.int p2), .val (.int (0 : Int32)), .val (.int (1 : Int32)), .val (.long (p0.toInt64)), .second, .val (.long ((-(p1.toInt64)))), .second, .val (.double (FP.i2d p0)), .second, .val (.double (FP.dneg (FP.i2d p1))), .second, .unset] [(.long ((-(p1.toInt64)))), (.long (p0.toInt64))])) _
    refine XS.lcmp X0.here hx rfl (hb hby at_103) rfl ?_
    show Steps p.tables e below (s₁.setTop (mkF m 104 #[.val (.int p0), .val (.int p1), .val (.int p2), .val (.int (0 : Int32)), .val (.int (1 : Int32)), .val (.long (p0.toInt64)), .second, .val (.long ((-(p1.toInt64)))), .second, .val (.double (FP.i2d p0)), .second, .val (.double (FP.dneg (FP.i2d p1))), .second, .unset] [(.int (lcmpW (p0.toInt64) ((-(p1.toInt64)))))])) _
    rw [hL]
    show Steps p.tables e below (s₁.setTop (mkF m 104 #[.val (.int p0), .val (.int p1), .val (.int p2), .val (.int (0 : Int32)), .val (.int (1 : Int32)), .val (.long (p0.toInt64)), .second, .val (.long ((-(p1.toInt64)))), .second, .val (.double (FP.i2d p0)), .second, .val (.double (FP.dneg (FP.i2d p1))), .second, .unset] [(.int (0 : Int32))])) _
    refine XS.ifYes X0.here hx rfl (pc0 := 104) (pc' := 115) rfl (hb hby at_104) rfl ((if0 _ _).trans (flt ((by decide) : ¬ ((0 : Int32) < (0 : Int32)))).2.2.2) (by decide) (by decide) ?_
    show Steps p.tables e below (s₁.setTop (mkF m 115 #[.val (.int p0), .val (.int p1), .val (.int p2), .val (.int (0 : Int32)), .val (.int (1 : Int32)), .val (.long (p0.toInt64)), .second, .val (.long ((-(p1.toInt64)))), .second, .val (.double (FP.i2d p0)), .second, .val (.double (FP.dneg (FP.i2d p1))), .second, .unset] [])) _
    refine st1 _ ?_
    show Steps p.tables e below (T1.setTop (mkF m 118 #[.val (.int p0), .val (.int p1), .val (.int p2), .val (.int (0 : Int32)), .val (.int (1 : Int32)), .val (.long (p0.toInt64)), .second, .val (.long ((-(p1.toInt64)))), .second, .val (.double (FP.i2d p0)), .second, .val (.double (FP.dneg (FP.i2d p1))), .second, .unset] [(.ref w2)])) _
    refine XS.astore X1.here hx rfl (hb hby at_118) rfl rfl (l' := #[.val (.int p0), .val (.int p1), .val (.int p2), .val (.int (0 : Int32)), .val (.int (1 : Int32)), .val (.long (p0.toInt64)), .second, .val (.long ((-(p1.toInt64)))), .second, .val (.double (FP.i2d p0)), .second, .val (.double (FP.dneg (FP.i2d p1))), .second, .val (.ref w2)]) rfl ?_
    show Steps p.tables e below (T1.setTop (mkF m 120 #[.val (.int p0), .val (.int p1), .val (.int p2), .val (.int (0 : Int32)), .val (.int (1 : Int32)), .val (.long (p0.toInt64)), .second, .val (.long ((-(p1.toInt64)))), .second, .val (.double (FP.i2d p0)), .second, .val (.double (FP.dneg (FP.i2d p1))), .second, .val (.ref w2)] [])) _
    refine XS.dload X1.here hx rfl (hb hby at_120) rfl ?_
    show Steps p.tables e below (T1.setTop (mkF m 122 #[.val (.int p0), .val (.int p1), .val (.int p2), .val (.int (0 : Int32)), .val (.int (1 : Int32)), .val (.long (p0.toInt64)), .second, .val (.long ((-(p1.toInt64)))), .second, .val (.double (FP.i2d p0)), .second, .val (.double (FP.dneg (FP.i2d p1))), .second, .val (.ref w2)] [(.double (FP.i2d p0))])) _
    refine XS.dload X1.here hx rfl (hb hby at_122) rfl ?_
    show Steps p.tables e below (T1.setTop (mkF m 124 #[.val (.int p0), .val (.int p1), .val (.int p2), .val (.int (0 : Int32)), .val (.int (1 : Int32)), .val (.long (p0.toInt64)), .second, .val (.long ((-(p1.toInt64)))), .second, .val (.double (FP.i2d p0)), .second, .val (.double (FP.dneg (FP.i2d p1))), .second, .val (.ref w2)] [(.double (FP.dneg (FP.i2d p1))), (.double (FP.i2d p0))])) _
    refine st2 _ ?_
    show Steps p.tables e below (T2.setTop (mkF m 127 #[.val (.int p0), .val (.int p1), .val (.int p2), .val (.int (0 : Int32)), .val (.int (1 : Int32)), .val (.long (p0.toInt64)), .second, .val (.long ((-(p1.toInt64)))), .second, .val (.double (FP.i2d p0)), .second, .val (.double (FP.dneg (FP.i2d p1))), .second, .val (.ref w2)] [(.ref w2)])) _
    refine XS.aload X2.here hx rfl (hb hby at_127) rfl rfl ?_
    show Steps p.tables e below (T2.setTop (mkF m 129 #[.val (.int p0), .val (.int p1), .val (.int p2), .val (.int (0 : Int32)), .val (.int (1 : Int32)), .val (.long (p0.toInt64)), .second, .val (.long ((-(p1.toInt64)))), .second, .val (.double (FP.i2d p0)), .second, .val (.double (FP.dneg (FP.i2d p1))), .second, .val (.ref w2)] [(.ref w2), (.ref w2)])) _
    refine Jvm.RoadKit.acmp (g := (mkF m 129 #[.val (.int p0), .val (.int p1), .val (.int p2), .val (.int (0 : Int32)), .val (.int (1 : Int32)), .val (.long (p0.toInt64)), .second, .val (.long ((-(p1.toInt64)))), .second, .val (.double (FP.i2d p0)), .second, .val (.double (FP.dneg (FP.i2d p1))), .second, .val (.ref w2)] [(.ref w2), (.ref w2)])) X2 hx rfl rfl rfl (pc0 := 129) (pc' := 132) (same := true) rfl (hb hby at_129) rfl (decide_eq_true rfl) (by decide) (by decide) ?_
    show Steps p.tables e below (T2.setTop (mkF m 132 #[.val (.int p0), .val (.int p1), .val (.int p2), .val (.int (0 : Int32)), .val (.int (1 : Int32)), .val (.long (p0.toInt64)), .second, .val (.long ((-(p1.toInt64)))), .second, .val (.double (FP.i2d p0)), .second, .val (.double (FP.dneg (FP.i2d p1))), .second, .val (.ref w2)] [])) _
    refine XS.iconst X2.here hx rfl (hb hby at_132) ?_
    show Steps p.tables e below (T2.setTop (mkF m 133 #[.val (.int p0), .val (.int p1), .val (.int p2), .val (.int (0 : Int32)), .val (.int (1 : Int32)), .val (.long (p0.toInt64)), .second, .val (.long ((-(p1.toInt64)))), .second, .val (.double (FP.i2d p0)), .second, .val (.double (FP.dneg (FP.i2d p1))), .second, .val (.ref w2)] [(.int (1 : Int32))])) _
    refine XS.goto X2.here hx rfl (pc0 := 133) (pc' := 137) rfl (hb hby at_133) (by decide) (by decide) ?_
    show Steps p.tables e below (T2.setTop (mkF m 137 #[.val (.int p0), .val (.int p1), .val (.int p2), .val (.int (0 : Int32)), .val (.int (1 : Int32)), .val (.long (p0.toInt64)), .second, .val (.long ((-(p1.toInt64)))), .second, .val (.double (FP.i2d p0)), .second, .val (.double (FP.dneg (FP.i2d p1))), .second, .val (.ref w2)] [(.int (1 : Int32))])) _
    exact retN X2 hx (t := .boolean) Bd.returns (by simp) (hb hby at_137) hr
  · exact ⟨rfl, N2, e2⟩
set_option maxRecDepth 65536 in
set_option maxHeartbeats 40000000 in
theorem rm_0_1_2 (l : Launch) (Z : State) (a0 : Array Value) (hw : ∀ d ∈ tables_1, d.before a0 Z = true) (ws : List Jvm.Cond) (x0 x1 : UInt64) (w0 : Addr) (w1 : Addr) (w2 : Addr) (h0 : Heap) (n0 : Nat) (O : Old Z n0 h0) (hG : GG Z w0 w1 w2) (hD : ∀ o, cmpValue (FP.dcmp x0 x1) o = (1 : Int32)) :
    MetFree l (⟨"com/example/fieldward/fieldward/validation/OrderedKind$Order", "of", "(DD)Lcom/example/fieldward/fieldward/validation/OrderedKind$Order;"⟩ : MethodName) (head1 (Jvm.Cond.code (⟨"com/example/fieldward/fieldward/validation/OrderedKind$Order", "of", "(DD)Lcom/example/fieldward/fieldward/validation/OrderedKind$Order;"⟩ : MethodName) prog_15_method_5_code 5 (some (.object "com/example/fieldward/fieldward/validation/OrderedKind$Order")) :: ws) ({ frames := 0, cells := 0, slots := 0, locals := 0 } : Room)) (fun a U => a = #[(.double x0), (.double x1)] ∧ Z.Warmed39 U.vm ∧ U.heap = h0) (fun _ _ _ _ _ => True) (fun _ U o U' => ∃ v L, o = .returned v ∧ Qv (some (.ref w0)) h0 n0 v U'.heap L ∧ FrameEnd U o U' L ({ frames := 0, cells := 0, slots := 0, locals := 0 } : Room).cells ({ frames := 0, cells := 0, slots := 0, locals := 0 } : Room).slots) := by
  refine MetFree.of_bodySF (plainFor_of_name pn_com_example_fieldward_fieldward_validation_OrderedKind_Order) hisR ?_
  intro p e s m args below meth c s₁ Bd hml0 hP hK
  obtain ⟨rfl, hZ, hh⟩ := hP
  have hx := Bd.exec
  have hby := Bd.bytes
  have hml : c.maxLocals = 5 := hml0
  have hown : s.vm.findClass "com/example/fieldward/fieldward/validation/OrderedKind$Order" = some m.cls := findClass_of_methodNamed Bd.named
  have hnm := (name_of_methodNamed Bd.named Bd.method).1
  have X0 : Stand p l e ({ frames := 0, cells := 0, slots := 0, locals := 0 } : Room) s m #[(.double x0), (.double x1)] below meth c s₁ [] 0 0 := Stand.of_body Bd
  have e0 : s₁.heap = h0 := by rw [← hh, Bd.state]; rfl
  have N0 := Fr.nil n0
  have pre0 : ∀ t, Steps p.tables e below (s₁.setTop (mkF m 0 #[.val (.double x0), .second, .val (.double x1), .second, .unset] [])) t → Steps p.tables e below (s₁.setTop (entryFrame m #[(.double x0), (.double x1)] 5)) t := fun t k => castTop (ef_5_DD m x0 x1) k
  obtain ⟨Sw0, Sw1, Sw2, Ew0, Ew1, Ew2⟩ := id hG
  obtain ⟨T1, X1, e1, st1⟩ := getS2 X0 hx hZ hown (host := "") (Or.inl (hw _ (List.mem_of_getElem? (i := 6) rfl))) Via.refl e0 (Sw0.ext O.2) (g := (mkF m 20 #[.val (.double x0), .second, .val (.double x1), .second, .unset] [])) rfl (hb hby d1_20)
  obtain ⟨fs, hr, hrun, hended, hW, hsame⟩ := X1.leave (v := some (.ref w0)) (fun h => by rw [Bd.returns] at h; cases h)
  refine ⟨_, _, pre0 _ ?_, hrun, hended, _, _, rfl, ?_, ⟨_, rfl⟩, hW, hsame.mono (by decide) (by decide)⟩
  · show Steps p.tables e below (s₁.setTop (mkF m 0 #[.val (.double x0), .second, .val (.double x1), .second, .unset] [])) _
    refine XS.dloadN X0.here hx rfl (hb hby d1_0) rfl ?_
    show Steps p.tables e below (s₁.setTop (mkF m 1 #[.val (.double x0), .second, .val (.double x1), .second, .unset] [(.double x0)])) _
    refine XS.dloadN X0.here hx rfl (hb hby d1_1) rfl ?_
    show Steps p.tables e below (s₁.setTop (mkF m 2 #[.val (.double x0), .second, .val (.double x1), .second, .unset] [(.double x1), (.double x0)])) _
    refine XS.dcmpS X0.here hx rfl (hb hby d1_2) rfl rfl ?_
    show Steps p.tables e below (s₁.setTop (mkF m 3 #[.val (.double x0), .second, .val (.double x1), .second, .unset] [(.int (cmpValue (FP.dcmp x0 x1) .g))])) _
    rw [hD]
    show Steps p.tables e below (s₁.setTop (mkF m 3 #[.val (.double x0), .second, .val (.double x1), .second, .unset] [(.int (1 : Int32))])) _
    refine XS.ifYes X0.here hx rfl (pc0 := 3) (pc' := 14) rfl (hb hby d1_3) rfl ((if0 _ _).trans (flt ((by decide) : ¬ ((1 : Int32) < (0 : Int32)))).2.1) (by decide) (by decide) ?_
    show Steps p.tables e below (s₁.setTop (mkF m 14 #[.val (.double x0), .second, .val (.double x1), .second, .unset] [])) _
    refine XS.dloadN X0.here hx rfl (hb hby d1_14) rfl ?_
    show Steps p.tables e below (s₁.setTop (mkF m 15 #[.val (.double x0), .second, .val (.double x1), .second, .unset] [(.double x0)])) _
    refine XS.dloadN X0.here hx rfl (hb hby d1_15) rfl ?_
    show Steps p.tables e below (s₁.setTop (mkF m 16 #[.val (.double x0), .second, .val (.double x1), .second, .unset] [(.double x1), (.double x0)])) _
    refine XS.dcmpS X0.here hx rfl (hb hby d1_16) rfl rfl ?_
    show Steps p.tables e below (s₁.setTop (mkF m 17 #[.val (.double x0), .second, .val (.double x1), .second, .unset] [(.int (cmpValue (FP.dcmp x0 x1) .l))])) _
    rw [hD]
    show Steps p.tables e below (s₁.setTop (mkF m 17 #[.val (.double x0), .second, .val (.double x1), .second, .unset] [(.int (1 : Int32))])) _
    refine XS.ifNo X0.here hx rfl (hb hby d1_17) rfl ((if0 _ _).trans (tlt ((by decide) : (0 : Int32) < (1 : Int32))).2.2.2) ?_
    show Steps p.tables e below (s₁.setTop (mkF m 20 #[.val (.double x0), .second, .val (.double x1), .second, .unset] [])) _
    refine st1 _ ?_
    show Steps p.tables e below (T1.setTop (mkF m 23 #[.val (.double x0), .second, .val (.double x1), .second, .unset] [(.ref w0)])) _
    refine XS.astore X1.here hx rfl (hb hby d1_23) rfl rfl (l' := #[.val (.double x0), .second, .val (.double x1), .second, .val (.ref w0)]) rfl ?_
    show Steps p.tables e below (T1.setTop (mkF m 25 #[.val (.double x0), .second, .val (.double x1), .second, .val (.ref w0)] [])) _
    refine XS.goto X1.here hx rfl (pc0 := 25) (pc' := 47) rfl (hb hby d1_25) (by decide) (by decide) ?_
    show Steps p.tables e below (T1.setTop (mkF m 47 #[.val (.double x0), .second, .val (.double x1), .second, .val (.ref w0)] [])) _
    refine XS.aload X1.here hx rfl (hb hby d1_47) rfl rfl ?_
    show Steps p.tables e below (T1.setTop (mkF m 49 #[.val (.double x0), .second, .val (.double x1), .second, .val (.ref w0)] [(.ref w0)])) _
    exact retOut X1 hx Bd.returns rfl (Or.inr (Or.inr (Or.inr (Or.inr ⟨rfl, rfl, rfl⟩)))) (hb hby d1_49) hr
  · exact ⟨rfl, N0, e1⟩
set_option maxRecDepth 65536 in
set_option maxHeartbeats 40000000 in
theorem rl_0_1_2 (l : Launch) (Z : State) (a0 : Array Value) (hw : ∀ d ∈ tables_1, d.before a0 Z = true) (ws : List Jvm.Cond) (p0 p1 p2 : Int32) (w0 : Addr) (w1 : Addr) (w2 : Addr) (h0 : Heap) (n0 : Nat) (O : Old Z n0 h0) (hG : GG Z w0 w1 w2) (hA : p2 &&& (1 : Int32) = (0 : Int32)) (hB : ¬ (p2 &&& (2 : Int32) = (0 : Int32))) (hL : lcmpW (p0.toInt64) (-(p1.toInt64)) = (1 : Int32)) (hD : ∀ o, cmpValue (FP.dcmp (FP.i2d p0) (FP.dneg (FP.i2d p1))) o = (1 : Int32)) :
    MetFree l x (head1 (Jvm.Cond.code x code maxLocals ret :: ws) room_1) (fun a U => a = #[(.int p0), (.int p1), (.int p2)] ∧ Z.Warmed39 U.vm ∧ U.heap = h0) (fun _ _ _ _ _ => True) (fun _ U o U' => ∃ v L, o = .returned v ∧ Qv (some (.int (1 : Int32))) h0 n0 v U'.heap L ∧ FrameEnd U o U' L 0 0) := by
  refine MetFree.of_bodySF (plainFor_of_name pn_com_example_fieldward_fieldward_validation_OrderOfPinLaw) hisR ?_
  intro p e s m args below meth c s₁ Bd hml0 hP hK
  obtain ⟨rfl, hZ, hh⟩ := hP
  have hx := Bd.exec
  have hby := Bd.bytes
  have hml : c.maxLocals = 14 := hml0
  have hown : s.vm.findClass "com/example/fieldward/fieldward/validation/OrderOfPinLaw" = some m.cls := findClass_of_methodNamed Bd.named
  have hnm := (name_of_methodNamed Bd.named Bd.method).1
  have X0 : Stand p l e room_1 s m #[(.int p0), (.int p1), (.int p2)] below meth c s₁ [] 0 0 := Stand.of_body Bd
  have e0 : s₁.heap = h0 := by rw [← hh, Bd.state]; rfl
  have N0 := Fr.nil n0
  have pre0 : ∀ t, Steps p.tables e below (s₁.setTop (mkF m 0 #[.val (.int p0), .val (.int p1), .val (.int p2), .unset, .unset, .unset, .unset, .unset, .unset, .unset, .unset, .unset, .unset, .unset] [])) t → Steps p.tables e below (s₁.setTop (entryFrame m #[(.int p0), (.int p1), (.int p2)] maxLocals)) t := fun t k => castTop (ef_maxLocals_III m p0 p1 p2) k
  obtain ⟨Sw0, Sw1, Sw2, Ew0, Ew1, Ew2⟩ := id hG
  obtain ⟨T1, X1, e1, st1⟩ := getS2 X0 hx hZ hown (host := "") (Or.inl (hw _ (List.mem_of_getElem? (i := 0) rfl))) Via.refl e0 (Sw0.ext O.2) (g := (mkF m 107 #[.val (.int p0), .val (.int p1), .val (.int p2), .val (.int (0 : Int32)), .val (.int (1 : Int32)), .val (.long (p0.toInt64)), .second, .val (.long ((-(p1.toInt64)))), .second, .val (.double (FP.i2d p0)), .second, .val (.double (FP.dneg (FP.i2d p1))), .second, .unset] [])) rfl (hb hby at_107)
  obtain ⟨_, _, ⟨T2, L2, k2, n2⟩, -, X2, ⟨Lc2, hQ2, l2, y2, z2⟩, st2⟩ := Jvm.LawKit.callS X1 hx (y := (⟨"com/example/fieldward/fieldward/validation/OrderedKind$Order", "of", "(DD)Lcom/example/fieldward/fieldward/validation/OrderedKind$Order;"⟩ : MethodName)) hown (mvT hZ (hw _ (List.mem_of_getElem? (i := 3) rfl))) (mvT hZ (hw _ (List.mem_of_getElem? (i := 4) rfl))) (mvT hZ (hw _ (List.mem_of_getElem? (i := 1) rfl))) (mvT hZ (hw _ (List.mem_of_getElem? (i := 5) rfl))) (by decide) (backOf (W := 0) (rm_0_1_2 l Z a0 hw [] (FP.i2d p0) (FP.dneg (FP.i2d p1)) w0 w1 w2 h0 n0 O hG hD) hZ (hw _ (List.mem_of_getElem? (i := 5) rfl)) (hw _ (List.mem_of_getElem? (i := 1) rfl)) (by decide) (by decide)) (g := (mkF m 124 #[.val (.int p0), .val (.int p1), .val (.int p2), .val (.int (0 : Int32)), .val (.int (1 : Int32)), .val (.long (p0.toInt64)), .second, .val (.long ((-(p1.toInt64)))), .second, .val (.double (FP.i2d p0)), .second, .val (.double (FP.dneg (FP.i2d p1))), .second, .val (.ref w0)] [(.double (FP.dneg (FP.i2d p1))), (.double (FP.i2d p0))])) rfl (by rw [hml]; rfl) (argsL := [(.double (FP.i2d p0)), (.double (FP.dneg (FP.i2d p1)))]) (rest := []) (lenOf pd_28DD29Lcom2fexample2ffieldward2ffieldward2fvalidation2fOrderedKind24Order3b rfl) rfl (by show 2 * 0 + _ ≤ _; exact Nat.le_of_eq rfl) (hb hby at_124) (fun _ _ => ⟨rfl, e1, (by decide : 0 + 0 ≤ _), (by decide : 0 + 0 ≤ _)⟩)
  dsimp only [Pt.U, Pt.locs, Pt.cells, Pt.slots] at X2 l2 y2 z2 st2 hQ2
  subst l2 y2 z2
  obtain ⟨rfl, N2q, e2⟩ := hQ2
  have N2 := Fr.app N0 N2q
  obtain ⟨fs, hr, hrun, hended, hW, hsame⟩ := X2.leave (v := some (.int (1 : Int32))) (fun h => by rw [Bd.returns] at h; cases h)
  refine ⟨_, _, pre0 _ ?_, hrun, hended, _, _, rfl, ?_, ⟨_, rfl⟩, hW, hsame.mono (by decide) (by decide)⟩
  · show Steps p.tables e below (s₁.setTop (mkF m 0 #[.val (.int p0), .val (.int p1), .val (.int p2), .unset, .unset, .unset, .unset, .unset, .unset, .unset, .unset, .unset, .unset, .unset] [])) _
    refine XS.iloadN X0.here hx rfl (hb hby at_0) rfl ?_
    show Steps p.tables e below (s₁.setTop (mkF m 1 #[.val (.int p0), .val (.int p1), .val (.int p2), .unset, .unset, .unset, .unset, .unset, .unset, .unset, .unset, .unset, .unset, .unset] [(.int p2)])) _
    refine XS.iconst X0.here hx rfl (hb hby at_1) ?_
    show Steps p.tables e below (s₁.setTop (mkF m 2 #[.val (.int p0), .val (.int p1), .val (.int p2), .unset, .unset, .unset, .unset, .unset, .unset, .unset, .unset, .unset, .unset, .unset] [(.int (1 : Int32)), (.int p2)])) _
    refine XS.iand X0.here hx rfl (hb hby at_2) rfl ?_
    show Steps p.tables e below (s₁.setTop (mkF m 3 #[.val (.int p0), .val (.int p1), .val (.int p2), .unset, .unset, .unset, .unset, .unset, .unset, .unset, .unset, .unset, .unset, .unset] [(.int (p2 &&& (1 : Int32)))])) _
    rw [hA]
    show Steps p.tables e below (s₁.setTop (mkF m 3 #[.val (.int p0), .val (.int p1), .val (.int p2), .unset, .unset, .unset, .unset, .unset, .unset, .unset, .unset, .unset, .unset, .unset] [(.int (0 : Int32))])) _
    refine XS.ifYes X0.here hx rfl (pc0 := 3) (pc' := 10) rfl (hb hby at_3) rfl ((if0 _ _).trans (teq ((by decide) : (0 : Int32) = (0 : Int32))).1) (by decide) (by decide) ?_
    show Steps p.tables e below (s₁.setTop (mkF m 10 #[.val (.int p0), .val (.int p1), .val (.int p2), .unset, .unset, .unset, .unset, .unset, .unset, .unset, .unset, .unset, .unset, .unset] [])) _
    refine XS.iconst X0.here hx rfl (hb hby at_10) ?_
    show Steps p.tables e below (s₁.setTop (mkF m 11 #[.val (.int p0), .val (.int p1), .val (.int p2), .unset, .unset, .unset, .unset, .unset, .unset, .unset, .unset, .unset, .unset, .unset] [(.int (0 : Int32))])) _
    refine XS.istoreN X0.here hx rfl (hb hby at_11) rfl (l' := #[.val (.int p0), .val (.int p1), .val (.int p2), .val (.int (0 : Int32)), .unset, .unset, .unset, .unset, .unset, .unset, .unset, .unset, .unset, .unset]) rfl ?_
    show Steps p.tables e below (s₁.setTop (mkF m 12 #[.val (.int p0), .val (.int p1), .val (.int p2), .val (.int (0 : Int32)), .unset, .unset, .unset, .unset, .unset, .unset, .unset, .unset, .unset, .unset] [])) _
    refine XS.iloadN X0.here hx rfl (hb hby at_12) rfl ?_
    show Steps p.tables e below (s₁.setTop (mkF m 13 #[.val (.int p0), .val (.int p1), .val (.int p2), .val (.int (0 : Int32)), .unset, .unset, .unset, .unset, .unset, .unset, .unset, .unset, .unset, .unset] [(.int p2)])) _
    refine XS.iconst X0.here hx rfl (hb hby at_13) ?_
    show Steps p.tables e below (s₁.setTop (mkF m 14 #[.val (.int p0), .val (.int p1), .val (.int p2), .val (.int (0 : Int32)), .unset, .unset, .unset, .unset, .unset, .unset, .unset, .unset, .unset, .unset] [(.int (2 : Int32)), (.int p2)])) _
    refine XS.iand X0.here hx rfl (hb hby at_14) rfl ?_
    show Steps p.tables e below (s₁.setTop (mkF m 15 #[.val (.int p0), .val (.int p1), .val (.int p2), .val (.int (0 : Int32)), .unset, .unset, .unset, .unset, .unset, .unset, .unset, .unset, .unset, .unset] [(.int (p2 &&& (2 : Int32)))])) _
    refine XS.ifNo X0.here hx rfl (hb hby at_15) rfl ((if0 _ _).trans (feq (hB : ¬ ((p2 &&& (2 : Int32)) = (0 : Int32)))).1) ?_
    show Steps p.tables e below (s₁.setTop (mkF m 18 #[.val (.int p0), .val (.int p1), .val (.int p2), .val (.int (0 : Int32)), .unset, .unset, .unset, .unset, .unset, .unset, .unset, .unset, .unset, .unset] [])) _
    refine XS.iconst X0.here hx rfl (hb hby at_18) ?_
    show Steps p.tables e below (s₁.setTop (mkF m 19 #[.val (.int p0), .val (.int p1), .val (.int p2), .val (.int (0 : Int32)), .unset, .unset, .unset, .unset, .unset, .unset, .unset, .unset, .unset, .unset] [(.int (1 : Int32))])) _
    refine XS.goto X0.here hx rfl (pc0 := 19) (pc' := 23) rfl (hb hby at_19) (by decide) (by decide) ?_
    show Steps p.tables e below (s₁.setTop (mkF m 23 #[.val (.int p0), .val (.int p1), .val (.int p2), .val (.int (0 : Int32)), .unset, .unset, .unset, .unset, .unset, .unset, .unset, .unset, .unset, .unset] [(.int (1 : Int32))])) _
    refine XS.istore X0.here hx rfl (hb hby at_23) rfl (l' := #[.val (.int p0), .val (.int p1), .val (.int p2), .val (.int (0 : Int32)), .val (.int (1 : Int32)), .unset, .unset, .unset, .unset, .unset, .unset, .unset, .unset, .unset]) rfl ?_
    show Steps p.tables e below (s₁.setTop (mkF m 25 #[.val (.int p0), .val (.int p1), .val (.int p2), .val (.int (0 : Int32)), .val (.int (1 : Int32)), .unset, .unset, .unset, .unset, .unset, .unset, .unset, .unset, .unset] [])) _
    refine XS.iloadN X0.here hx rfl (hb hby at_25) rfl ?_
    show Steps p.tables e below (s₁.setTop (mkF m 26 #[.val (.int p0), .val (.int p1), .val (.int p2), .val (.int (0 : Int32)), .val (.int (1 : Int32)), .unset, .unset, .unset, .unset, .unset, .unset, .unset, .unset, .unset] [(.int (0 : Int32))])) _
    refine XS.ifYes X0.here hx rfl (pc0 := 26) (pc' := 35) rfl (hb hby at_26) rfl ((if0 _ _).trans (teq ((by decide) : (0 : Int32) = (0 : Int32))).1) (by decide) (by decide) ?_
    show Steps p.tables e below (s₁.setTop (mkF m 35 #[.val (.int p0), .val (.int p1), .val (.int p2), .val (.int (0 : Int32)), .val (.int (1 : Int32)), .unset, .unset, .unset, .unset, .unset, .unset, .unset, .unset, .unset] [])) _
    refine XS.iloadN X0.here hx rfl (hb hby at_35) rfl ?_
    show Steps p.tables e below (s₁.setTop (mkF m 36 #[.val (.int p0), .val (.int p1), .val (.int p2), .val (.int (0 : Int32)), .val (.int (1 : Int32)), .unset, .unset, .unset, .unset, .unset, .unset, .unset, .unset, .unset] [(.int p0)])) _
    refine XS.i2l X0.here hx rfl (hb hby at_36) rfl ?_
    show Steps p.tables e below (s₁.setTop (mkF m 37 #[.val (.int p0), .val (.int p1), .val (.int p2), .val (.int (0 : Int32)), .val (.int (1 : Int32)), .unset, .unset, .unset, .unset, .unset, .unset, .unset, .unset, .unset] [(.long (p0.toInt64))])) _
    refine XS.lstore X0.here hx rfl (hb hby at_37) rfl (l' := #[.val (.int p0), .val (.int p1), .val (.int p2), .val (.int (0 : Int32)), .val (.int (1 : Int32)), .val (.long (p0.toInt64)), .second, .unset, .unset, .unset, .unset, .unset, .unset, .unset]) rfl ?_
    show Steps p.tables e below (s₁.setTop (mkF m 39 #[.val (.int p0), .val (.int p1), .val (.int p2), .val (.int (0 : Int32)), .val (.int (1 : Int32)), .val (.long (p0.toInt64)), .second, .unset, .unset, .unset, .unset, .unset, .unset, .unset] [])) _
    refine XS.iload X0.here hx rfl (hb hby at_39) rfl ?_
    show Steps p.tables e below (s₁.setTop (mkF m 41 #[.val (.int p0), .val (.int p1), .val (.int p2), .val (.int (0 : Int32)), .val (.int (1 : Int32)), .val (.long (p0.toInt64)), .second, .unset, .unset, .unset, .unset, .unset, .unset, .unset] [(.int (1 : Int32))])) _
    refine XS.ifNo X0.here hx rfl (hb hby at_41) rfl ((if0 _ _).trans (feq ((by decide) : ¬ ((1 : Int32) = (0 : Int32)))).1) ?_
    show Steps p.tables e below (s₁.setTop (mkF m 44 #[.val (.int p0), .val (.int p1), .val (.int p2), .val (.int (0 : Int32)), .val (.int (1 : Int32)), .val (.long (p0.toInt64)), .second, .unset, .unset, .unset, .unset, .unset, .unset, .unset] [])) _
    refine XS.iloadN X0.here hx rfl (hb hby at_44) rfl ?_
    show Steps p.tables e below (s₁.setTop (mkF m 45 #[.val (.int p0), .val (.int p1), .val (.int p2), .val (.int (0 : Int32)), .val (.int (1 : Int32)), .val (.long (p0.toInt64)), .second, .unset, .unset, .unset, .unset, .unset, .unset, .unset] [(.int p1)])) _
    refine XS.i2l X0.here hx rfl (hb hby at_45) rfl ?_
    show Steps p.tables e below (s₁.setTop (mkF m 46 #[.val (.int p0), .val (.int p1), .val (.int p2), .val (.int (0 : Int32)), .val (.int (1 : Int32)), .val (.long (p0.toInt64)), .second, .unset, .unset, .unset, .unset, .unset, .unset, .unset] [(.long (p1.toInt64))])) _
    refine XS.lneg X0.here hx rfl (hb hby at_46) rfl ?_
    show Steps p.tables e below (s₁.setTop (mkF m 47 #[.val (.int p0), .val (.int p1), .val (.int p2), .val (.int (0 : Int32)), .val (.int (1 : Int32)), .val (.long (p0.toInt64)), .second, .unset, .unset, .unset, .unset, .unset, .unset, .unset] [(.long ((-(p1.toInt64))))])) _
    refine XS.goto X0.here hx rfl (pc0 := 47) (pc' := 52) rfl (hb hby at_47) (by decide) (by decide) ?_
    show Steps p.tables e below (s₁.setTop (mkF m 52 #[.val (.int p0), .val (.int p1), .val (.int p2), .val (.int (0 : Int32)), .val (.int (1 : Int32)), .val (.long (p0.toInt64)), .second, .unset, .unset, .unset, .unset, .unset, .unset, .unset] [(.long ((-(p1.toInt64))))])) _
    refine XS.lstore X0.here hx rfl (hb hby at_52) rfl (l' := #[.val (.int p0), .val (.int p1), .val (.int p2), .val (.int (0 : Int32)), .val (.int (1 : Int32)), .val (.long (p0.toInt64)), .second, .val (.long ((-(p1.toInt64)))), .second, .unset, .unset, .unset, .unset, .unset]) rfl ?_
    show Steps p.tables e below (s₁.setTop (mkF m 54 #[.val (.int p0), .val (.int p1), .val (.int p2), .val (.int (0 : Int32)), .val (.int (1 : Int32)), .val (.long (p0.toInt64)), .second, .val (.long ((-(p1.toInt64)))), .second, .unset, .unset, .unset, .unset, .unset] [])) _
    refine XS.iloadN X0.here hx rfl (hb hby at_54) rfl ?_
    show Steps p.tables e below (s₁.setTop (mkF m 55 #[.val (.int p0), .val (.int p1), .val (.int p2), .val (.int (0 : Int32)), .val (.int (1 : Int32)), .val (.long (p0.toInt64)), .second, .val (.long ((-(p1.toInt64)))), .second, .unset, .unset, .unset, .unset, .unset] [(.int (0 : Int32))])) _
    refine XS.ifYes X0.here hx rfl (pc0 := 55) (pc' := 64) rfl (hb hby at_55) rfl ((if0 _ _).trans (teq ((by decide) : (0 : Int32) = (0 : Int32))).1) (by decide) (by decide) ?_
    show Steps p.tables e below (s₁.setTop (mkF m 64 #[.val (.int p0), .val (.int p1), .val (.int p2), .val (.int (0 : Int32)), .val (.int (1 : Int32)), .val (.long (p0.toInt64)), .second, .val (.long ((-(p1.toInt64)))), .second, .unset, .unset, .unset, .unset, .unset] [])) _
    refine XS.iloadN X0.here hx rfl (hb hby at_64) rfl ?_
    show Steps p.tables e below (s₁.setTop (mkF m 65 #[.val (.int p0), .val (.int p1), .val (.int p2), .val (.int (0 : Int32)), .val (.int (1 : Int32)), .val (.long (p0.toInt64)), .second, .val (.long ((-(p1.toInt64)))), .second, .unset, .unset, .unset, .unset, .unset] [(.int p0)])) _
    refine XS.i2dS X0.here hx rfl (hb hby at_65) rfl rfl ?_
    show Steps p.tables e below (s₁.setTop (mkF m 66 #[.val (.int p0), .val (.int p1), .val (.int p2), .val (.int (0 : Int32)), .val (.int (1 : Int32)), .val (.long (p0.toInt64)), .second, .val (.long ((-(p1.toInt64)))), .second, .unset, .unset, .unset, .unset, .unset] [(.double (FP.i2d p0))])) _
    refine XS.dstore X0.here hx rfl (hb hby at_66) rfl (l' := #[.val (.int p0), .val (.int p1), .val (.int p2), .val (.int (0 : Int32)), .val (.int (1 : Int32)), .val (.long (p0.toInt64)), .second, .val (.long ((-(p1.toInt64)))), .second, .val (.double (FP.i2d p0)), .second, .unset, .unset, .unset]) rfl ?_
    show Steps p.tables e below (s₁.setTop (mkF m 68 #[.val (.int p0), .val (.int p1), .val (.int p2), .val (.int (0 : Int32)), .val (.int (1 : Int32)), .val (.long (p0.toInt64)), .second, .val (.long ((-(p1.toInt64)))), .second, .val (.double (FP.i2d p0)), .second, .unset, .unset, .unset] [])) _
    refine XS.iload X0.here hx rfl (hb hby at_68) rfl ?_
    show Steps p.tables e below (s₁.setTop (mkF m 70 #[.val (.int p0), .val (.int p1), .val (.int p2), .val (.int (0 : Int32)), .val (.int (1 : Int32)), .val (.long (p0.toInt64)), .second, .val (.long ((-(p1.toInt64)))), .second, .val (.double (FP.i2d p0)), .second, .unset, .unset, .unset] [(.int (1 : Int32))])) _
    refine XS.ifNo X0.here hx rfl (hb hby at_70) rfl ((if0 _ _).trans (feq ((by decide) : ¬ ((1 : Int32) = (0 : Int32)))).1) ?_
    show Steps p.tables e below (s₁.setTop (mkF m 73 #[.val (.int p0), .val (.int p1), .val (.int p2), .val (.int (0 : Int32)), .val (.int (1 : Int32)), .val (.long (p0.toInt64)), .second, .val (.long ((-(p1.toInt64)))), .second, .val (.double (FP.i2d p0)), .second, .unset, .unset, .unset] [])) _
    refine XS.iloadN X0.here hx rfl (hb hby at_73) rfl ?_
    show Steps p.tables e below (s₁.setTop (mkF m 74 #[.val (.int p0), .val (.int p1), .val (.int p2), .val (.int (0 : Int32)), .val (.int (1 : Int32)), .val (.long (p0.toInt64)), .second, .val (.long ((-(p1.toInt64)))), .second, .val (.double (FP.i2d p0)), .second, .unset, .unset, .unset] [(.int p1)])) _
    refine XS.i2dS X0.here hx rfl (hb hby at_74) rfl rfl ?_
    show Steps p.tables e below (s₁.setTop (mkF m 75 #[.val (.int p0), .val (.int p1), .val (.int p2), .val (.int (0 : Int32)), .val (.int (1 : Int32)), .val (.long (p0.toInt64)), .second, .val (.long ((-(p1.toInt64)))), .second, .val (.double (FP.i2d p0)), .second, .unset, .unset, .unset] [(.double (FP.i2d p1))])) _
    refine XS.dnegS X0.here hx rfl (hb hby at_75) rfl rfl ?_
    show Steps p.tables e below (s₁.setTop (mkF m 76 #[.val (.int p0), .val (.int p1), .val (.int p2), .val (.int (0 : Int32)), .val (.int (1 : Int32)), .val (.long (p0.toInt64)), .second, .val (.long ((-(p1.toInt64)))), .second, .val (.double (FP.i2d p0)), .second, .unset, .unset, .unset] [(.double (FP.dneg (FP.i2d p1)))])) _
    refine XS.goto X0.here hx rfl (pc0 := 76) (pc' := 81) rfl (hb hby at_76) (by decide) (by decide) ?_
    show Steps p.tables e below (s₁.setTop (mkF m 81 #[.val (.int p0), .val (.int p1), .val (.int p2), .val (.int (0 : Int32)), .val (.int (1 : Int32)), .val (.long (p0.toInt64)), .second, .val (.long ((-(p1.toInt64)))), .second, .val (.double (FP.i2d p0)), .second, .unset, .unset, .unset] [(.double (FP.dneg (FP.i2d p1)))])) _
    refine XS.dstore X0.here hx rfl (hb hby at_81) rfl (l' := #[.val (.int p0), .val (.int p1), .val (.int p2), .val (.int (0 : Int32)), .val (.int (1 : Int32)), .val (.long (p0.toInt64)), .second, .val (.long ((-(p1.toInt64)))), .second, .val (.double (FP.i2d p0)), .second, .val (.double (FP.dneg (FP.i2d p1))), .second, .unset]) rfl ?_
    show Steps p.tables e below (s₁.setTop (mkF m 83 #[.val (.int p0), .val (.int p1), .val (.int p2), .val (.int (0 : Int32)), .val (.int (1 : Int32)), .val (.long (p0.toInt64)), .second, .val (.long ((-(p1.toInt64)))), .second, .val (.double (FP.i2d p0)), .second, .val (.double (FP.dneg (FP.i2d p1))), .second, .unset] [])) _
    refine XS.lload X0.here hx rfl (hb hby at_83) rfl ?_
    show Steps p.tables e below (s₁.setTop (mkF m 85 #[.val (.int p0), .val (.int p1), .val (.int p2), .val (.int (0 : Int32)), .val (.int (1 : Int32)), .val (.long (p0.toInt64)), .second, .val (.long ((-(p1.toInt64)))), .second, .val (.double (FP.i2d p0)), .second, .val (.double (FP.dneg (FP.i2d p1))), .second, .unset] [(.long (p0.toInt64))])) _
    refine XS.lload X0.here hx rfl (hb hby at_85) rfl ?_
    show Steps p.tables e below (s₁.setTop (mkF m 87 #[.val (.int p0), .val (.int p1), .val (.int p2), .val (.int (0 : Int32)), .val (.int (1 : Int32)), .val (.long (p0.toInt64)), .second, .val (.long ((-(p1.toInt64)))), .second, .val (.double (FP.i2d p0)), .second, .val (.double (FP.dneg (FP.i2d p1))), .second, .unset] [(.long ((-(p1.toInt64)))), (.long (p0.toInt64))])) _
    refine XS.lcmp X0.here hx rfl (hb hby at_87) rfl ?_
    show Steps p.tables e below (s₁.setTop (mkF m 88 #[.val (.int p0), .val (.int p1), .val (.int p2), .val (.int (0 : Int32)), .val (.int (1 : Int32)), .val (.long (p0.toInt64)), .second, .val (.long ((-(p1.toInt64)))), .second, .val (.double (FP.i2d p0)), .second, .val (.double (FP.dneg (FP.i2d p1))), .second, .unset] [(.int (lcmpW (p0.toInt64) ((-(p1.toInt64)))))])) _
    rw [hL]
    show Steps p.tables e below (s₁.setTop (mkF m 88 #[.val (.int p0), .val (.int p1), .val (.int p2), .val (.int (0 : Int32)), .val (.int (1 : Int32)), .val (.long (p0.toInt64)), .second, .val (.long ((-(p1.toInt64)))), .second, .val (.double (FP.i2d p0)), .second, .val (.double (FP.dneg (FP.i2d p1))), .second, .unset] [(.int (1 : Int32))])) _
    refine XS.ifYes X0.here hx rfl (pc0 := 88) (pc' := 99) rfl (hb hby at_88) rfl ((if0 _ _).trans (flt ((by decide) : ¬ ((1 : Int32) < (0 : Int32)))).2.1) (by decide) (by decide) ?_
    show Steps p.tables e below (s₁.setTop (mkF m 99 #[.val (.int p0), .val (.int p1), .val (.int p2), .val (.int (0 : Int32)), .val (.int (1 : Int32)), .val (.long (p0.toInt64)), .second, .val (.long ((-(p1.toInt64)))), .second, .val (.double (FP.i2d p0)), .second, .val (.double (FP.dneg (FP.i2d p1))), .second, .unset] [])) _
    refine XS.lload X0.here hx rfl (hb hby at_99) rfl ?_
    show Steps p.tables e below (s₁.setTop (mkF m 101 #[.val (.int p0), .val (.int p1), .val (.int p2), .val (.int (0 : Int32)), .val (.int (1 : Int32)), .val (.long (p0.toInt64)), .second, .val (.long ((-(p1.toInt64)))), .second, .val (.double (FP.i2d p0)), .second, .val (.double (FP.dneg (FP.i2d p1))), .second, .unset] [(.long (p0.toInt64))])) _
    refine XS.lload X0.here hx rfl (hb hby at_101) rfl ?_
    show Steps p.tables e below (s₁.setTop (mkF m 103 #[.val (.int p0), .val (.int p1), .val (.int p2), .val (.int (0 : Int32)), .val (.int (1 : Int32)), .val (.long (p0.toInt64)), .second, .val (.long ((-(p1.toInt64)))), .second, .val (.double (FP.i2d p0)), .second, .val (.double (FP.dneg (FP.i2d p1))), .second, .unset] [(.long ((-(p1.toInt64)))), (.long (p0.toInt64))])) _
    refine XS.lcmp X0.here hx rfl (hb hby at_103) rfl ?_
    show Steps p.tables e below (s₁.setTop (mkF m 104 #[.val (.int p0), .val (.int p1), .val (.int p2), .val (.int (0 : Int32)), .val (.int (1 : Int32)), .val (.long (p0.toInt64)), .second, .val (.long ((-(p1.toInt64)))), .second, .val (.double (FP.i2d p0)), .second, .val (.double (FP.dneg (FP.i2d p1))), .second, .unset] [(.int (lcmpW (p0.toInt64) ((-(p1.toInt64)))))])) _
    rw [hL]
    show Steps p.tables e below (s₁.setTop (mkF m 104 #[.val (.int p0), .val (.int p1), .val (.int p2), .val (.int (0 : Int32)), .val (.int (1 : Int32)), .val (.long (p0.toInt64)), .second, .val (.long ((-(p1.toInt64)))), .second, .val (.double (FP.i2d p0)), .second, .val (.double (FP.dneg (FP.i2d p1))), .second, .unset] [(.int (1 : Int32))])) _
    refine XS.ifNo X0.here hx rfl (hb hby at_104) rfl ((if0 _ _).trans (tlt ((by decide) : (0 : Int32) < (1 : Int32))).2.2.2) ?_
    show Steps p.tables e below (s₁.setTop (mkF m 107 #[.val (.int p0), .val (.int p1), .val (.int p2), .val (.int (0 : Int32)), .val (.int (1 : Int32)), .val (.long (p0.toInt64)), .second, .val (.long ((-(p1.toInt64)))), .second, .val (.double (FP.i2d p0)), .second, .val (.double (FP.dneg (FP.i2d p1))), .second, .unset] [])) _
    refine st1 _ ?_
    show Steps p.tables e below (T1.setTop (mkF m 110 #[.val (.int p0), .val (.int p1), .val (.int p2), .val (.int (0 : Int32)), .val (.int (1 : Int32)), .val (.long (p0.toInt64)), .second, .val (.long ((-(p1.toInt64)))), .second, .val (.double (FP.i2d p0)), .second, .val (.double (FP.dneg (FP.i2d p1))), .second, .unset] [(.ref w0)])) _
    refine XS.astore X1.here hx rfl (hb hby at_110) rfl rfl (l' := #[.val (.int p0), .val (.int p1), .val (.int p2), .val (.int (0 : Int32)), .val (.int (1 : Int32)), .val (.long (p0.toInt64)), .second, .val (.long ((-(p1.toInt64)))), .second, .val (.double (FP.i2d p0)), .second, .val (.double (FP.dneg (FP.i2d p1))), .second, .val (.ref w0)]) rfl ?_
    show Steps p.tables e below (T1.setTop (mkF m 112 #[.val (.int p0), .val (.int p1), .val (.int p2), .val (.int (0 : Int32)), .val (.int (1 : Int32)), .val (.long (p0.toInt64)), .second, .val (.long ((-(p1.toInt64)))), .second, .val (.double (FP.i2d p0)), .second, .val (.double (FP.dneg (FP.i2d p1))), .second, .val (.ref w0)] [])) _
    refine XS.goto X1.here hx rfl (pc0 := 112) (pc' := 120) rfl (hb hby at_112) (by decide) (by decide) ?_
    show Steps p.tables e below (T1.setTop (mkF m 120 #[.val (.int p0), .val (.int p1), .val (.int p2), .val (.int (0 : Int32)), .val (.int (1 : Int32)), .val (.long (p0.toInt64)), .second, .val (.long ((-(p1.toInt64)))), .second, .val (.double (FP.i2d p0)), .second, .val (.double (FP.dneg (FP.i2d p1))), .second, .val (.ref w0)] [])) _
    refine XS.dload X1.here hx rfl (hb hby at_120) rfl ?_
    show Steps p.tables e below (T1.setTop (mkF m 122 #[.val (.int p0), .val (.int p1), .val (.int p2), .val (.int (0 : Int32)), .val (.int (1 : Int32)), .val (.long (p0.toInt64)), .second, .val (.long ((-(p1.toInt64)))), .second, .val (.double (FP.i2d p0)), .second, .val (.double (FP.dneg (FP.i2d p1))), .second, .val (.ref w0)] [(.double (FP.i2d p0))])) _
    refine XS.dload X1.here hx rfl (hb hby at_122) rfl ?_
    show Steps p.tables e below (T1.setTop (mkF m 124 #[.val (.int p0), .val (.int p1), .val (.int p2), .val (.int (0 : Int32)), .val (.int (1 : Int32)), .val (.long (p0.toInt64)), .second, .val (.long ((-(p1.toInt64)))), .second, .val (.double (FP.i2d p0)), .second, .val (.double (FP.dneg (FP.i2d p1))), .second, .val (.ref w0)] [(.double (FP.dneg (FP.i2d p1))), (.double (FP.i2d p0))])) _
    refine st2 _ ?_
    show Steps p.tables e below (T2.setTop (mkF m 127 #[.val (.int p0), .val (.int p1), .val (.int p2), .val (.int (0 : Int32)), .val (.int (1 : Int32)), .val (.long (p0.toInt64)), .second, .val (.long ((-(p1.toInt64)))), .second, .val (.double (FP.i2d p0)), .second, .val (.double (FP.dneg (FP.i2d p1))), .second, .val (.ref w0)] [(.ref w0)])) _
    refine XS.aload X2.here hx rfl (hb hby at_127) rfl rfl ?_
    show Steps p.tables e below (T2.setTop (mkF m 129 #[.val (.int p0), .val (.int p1), .val (.int p2), .val (.int (0 : Int32)), .val (.int (1 : Int32)), .val (.long (p0.toInt64)), .second, .val (.long ((-(p1.toInt64)))), .second, .val (.double (FP.i2d p0)), .second, .val (.double (FP.dneg (FP.i2d p1))), .second, .val (.ref w0)] [(.ref w0), (.ref w0)])) _
    refine Jvm.RoadKit.acmp (g := (mkF m 129 #[.val (.int p0), .val (.int p1), .val (.int p2), .val (.int (0 : Int32)), .val (.int (1 : Int32)), .val (.long (p0.toInt64)), .second, .val (.long ((-(p1.toInt64)))), .second, .val (.double (FP.i2d p0)), .second, .val (.double (FP.dneg (FP.i2d p1))), .second, .val (.ref w0)] [(.ref w0), (.ref w0)])) X2 hx rfl rfl rfl (pc0 := 129) (pc' := 132) (same := true) rfl (hb hby at_129) rfl (decide_eq_true rfl) (by decide) (by decide) ?_
    show Steps p.tables e below (T2.setTop (mkF m 132 #[.val (.int p0), .val (.int p1), .val (.int p2), .val (.int (0 : Int32)), .val (.int (1 : Int32)), .val (.long (p0.toInt64)), .second, .val (.long ((-(p1.toInt64)))), .second, .val (.double (FP.i2d p0)), .second, .val (.double (FP.dneg (FP.i2d p1))), .second, .val (.ref w0)] [])) _
    refine XS.iconst X2.here hx rfl (hb hby at_132) ?_
    show Steps p.tables e below (T2.setTop (mkF m 133 #[.val (.int p0), .val (.int p1), .val (.int p2), .val (.int (0 : Int32)), .val (.int (1 : Int32)), .val (.long (p0.toInt64)), .second, .val (.long ((-(p1.toInt64)))), .second, .val (.double (FP.i2d p0)), .second, .val (.double (FP.dneg (FP.i2d p1))), .second, .val (.ref w0)] [(.int (1 : Int32))])) _
    refine XS.goto X2.here hx rfl (pc0 := 133) (pc' := 137) rfl (hb hby at_133) (by decide) (by decide) ?_
    show Steps p.tables e below (T2.setTop (mkF m 137 #[.val (.int p0), .val (.int p1), .val (.int p2), .val (.int (0 : Int32)), .val (.int (1 : Int32)), .val (.long (p0.toInt64)), .second, .val (.long ((-(p1.toInt64)))), .second, .val (.double (FP.i2d p0)), .second, .val (.double (FP.dneg (FP.i2d p1))), .second, .val (.ref w0)] [(.int (1 : Int32))])) _
    exact retN X2 hx (t := .boolean) Bd.returns (by simp) (hb hby at_137) hr
  · exact ⟨rfl, N2, e2⟩
set_option maxRecDepth 65536 in
set_option maxHeartbeats 40000000 in
theorem rm_1_0_0 (l : Launch) (Z : State) (a0 : Array Value) (hw : ∀ d ∈ tables_1, d.before a0 Z = true) (ws : List Jvm.Cond) (x0 x1 : UInt64) (w0 : Addr) (w1 : Addr) (w2 : Addr) (h0 : Heap) (n0 : Nat) (O : Old Z n0 h0) (hG : GG Z w0 w1 w2) (hD : ∀ o, cmpValue (FP.dcmp x0 x1) o = (-1 : Int32)) :
    MetFree l (⟨"com/example/fieldward/fieldward/validation/OrderedKind$Order", "of", "(DD)Lcom/example/fieldward/fieldward/validation/OrderedKind$Order;"⟩ : MethodName) (head1 (Jvm.Cond.code (⟨"com/example/fieldward/fieldward/validation/OrderedKind$Order", "of", "(DD)Lcom/example/fieldward/fieldward/validation/OrderedKind$Order;"⟩ : MethodName) prog_15_method_5_code 5 (some (.object "com/example/fieldward/fieldward/validation/OrderedKind$Order")) :: ws) ({ frames := 0, cells := 0, slots := 0, locals := 0 } : Room)) (fun a U => a = #[(.double x0), (.double x1)] ∧ Z.Warmed39 U.vm ∧ U.heap = h0) (fun _ _ _ _ _ => True) (fun _ U o U' => ∃ v L, o = .returned v ∧ Qv (some (.ref w1)) h0 n0 v U'.heap L ∧ FrameEnd U o U' L ({ frames := 0, cells := 0, slots := 0, locals := 0 } : Room).cells ({ frames := 0, cells := 0, slots := 0, locals := 0 } : Room).slots) := by
  refine MetFree.of_bodySF (plainFor_of_name pn_com_example_fieldward_fieldward_validation_OrderedKind_Order) hisR ?_
  intro p e s m args below meth c s₁ Bd hml0 hP hK
  obtain ⟨rfl, hZ, hh⟩ := hP
  have hx := Bd.exec
  have hby := Bd.bytes
  have hml : c.maxLocals = 5 := hml0
  have hown : s.vm.findClass "com/example/fieldward/fieldward/validation/OrderedKind$Order" = some m.cls := findClass_of_methodNamed Bd.named
  have hnm := (name_of_methodNamed Bd.named Bd.method).1
  have X0 : Stand p l e ({ frames := 0, cells := 0, slots := 0, locals := 0 } : Room) s m #[(.double x0), (.double x1)] below meth c s₁ [] 0 0 := Stand.of_body Bd
  have e0 : s₁.heap = h0 := by rw [← hh, Bd.state]; rfl
  have N0 := Fr.nil n0
  have pre0 : ∀ t, Steps p.tables e below (s₁.setTop (mkF m 0 #[.val (.double x0), .second, .val (.double x1), .second, .unset] [])) t → Steps p.tables e below (s₁.setTop (entryFrame m #[(.double x0), (.double x1)] 5)) t := fun t k => castTop (ef_5_DD m x0 x1) k
  obtain ⟨Sw0, Sw1, Sw2, Ew0, Ew1, Ew2⟩ := id hG
  obtain ⟨T1, X1, e1, st1⟩ := getS2 X0 hx hZ hown (host := "") (Or.inl (hw _ (List.mem_of_getElem? (i := 9) rfl))) Via.refl e0 (Sw1.ext O.2) (g := (mkF m 6 #[.val (.double x0), .second, .val (.double x1), .second, .unset] [])) rfl (hb hby d1_6)
  obtain ⟨fs, hr, hrun, hended, hW, hsame⟩ := X1.leave (v := some (.ref w1)) (fun h => by rw [Bd.returns] at h; cases h)
  refine ⟨_, _, pre0 _ ?_, hrun, hended, _, _, rfl, ?_, ⟨_, rfl⟩, hW, hsame.mono (by decide) (by decide)⟩
  · show Steps p.tables e below (s₁.setTop (mkF m 0 #[.val (.double x0), .second, .val (.double x1), .second, .unset] [])) _
    refine XS.dloadN X0.here hx rfl (hb hby d1_0) rfl ?_
    show Steps p.tables e below (s₁.setTop (mkF m 1 #[.val (.double x0), .second, .val (.double x1), .second, .unset] [(.double x0)])) _
    refine XS.dloadN X0.here hx rfl (hb hby d1_1) rfl ?_
    show Steps p.tables e below (s₁.setTop (mkF m 2 #[.val (.double x0), .second, .val (.double x1), .second, .unset] [(.double x1), (.double x0)])) _
    refine XS.dcmpS X0.here hx rfl (hb hby d1_2) rfl rfl ?_
    show Steps p.tables e below (s₁.setTop (mkF m 3 #[.val (.double x0), .second, .val (.double x1), .second, .unset] [(.int (cmpValue (FP.dcmp x0 x1) .g))])) _
    rw [hD]
    show Steps p.tables e below (s₁.setTop (mkF m 3 #[.val (.double x0), .second, .val (.double x1), .second, .unset] [(.int (-1 : Int32))])) _
    refine XS.ifNo X0.here hx rfl (hb hby d1_3) rfl ((if0 _ _).trans (tlt ((by decide) : (-1 : Int32) < (0 : Int32))).2.1) ?_
    show Steps p.tables e below (s₁.setTop (mkF m 6 #[.val (.double x0), .second, .val (.double x1), .second, .unset] [])) _
    refine st1 _ ?_
    show Steps p.tables e below (T1.setTop (mkF m 9 #[.val (.double x0), .second, .val (.double x1), .second, .unset] [(.ref w1)])) _
    refine XS.astore X1.here hx rfl (hb hby d1_9) rfl rfl (l' := #[.val (.double x0), .second, .val (.double x1), .second, .val (.ref w1)]) rfl ?_
    show Steps p.tables e below (T1.setTop (mkF m 11 #[.val (.double x0), .second, .val (.double x1), .second, .val (.ref w1)] [])) _
    refine XS.goto X1.here hx rfl (pc0 := 11) (pc' := 47) rfl (hb hby d1_11) (by decide) (by decide) ?_
    show Steps p.tables e below (T1.setTop (mkF m 47 #[.val (.double x0), .second, .val (.double x1), .second, .val (.ref w1)] [])) _
    refine XS.aload X1.here hx rfl (hb hby d1_47) rfl rfl ?_
    show Steps p.tables e below (T1.setTop (mkF m 49 #[.val (.double x0), .second, .val (.double x1), .second, .val (.ref w1)] [(.ref w1)])) _
    exact retOut X1 hx Bd.returns rfl (Or.inr (Or.inr (Or.inr (Or.inr ⟨rfl, rfl, rfl⟩)))) (hb hby d1_49) hr
  · exact ⟨rfl, N0, e1⟩
set_option maxRecDepth 65536 in
set_option maxHeartbeats 40000000 in
theorem rl_1_0_0 (l : Launch) (Z : State) (a0 : Array Value) (hw : ∀ d ∈ tables_1, d.before a0 Z = true) (ws : List Jvm.Cond) (p0 p1 p2 : Int32) (w0 : Addr) (w1 : Addr) (w2 : Addr) (h0 : Heap) (n0 : Nat) (O : Old Z n0 h0) (hG : GG Z w0 w1 w2) (hA : p2 &&& (1 : Int32) = (1 : Int32)) (hB : p2 &&& (2 : Int32) = (0 : Int32)) (hL : lcmpW (-(p0.toInt64)) (p1.toInt64) = (-1 : Int32)) (hD : ∀ o, cmpValue (FP.dcmp (FP.dneg (FP.i2d p0)) (FP.i2d p1)) o = (-1 : Int32)) :
    MetFree l x (head1 (Jvm.Cond.code x code maxLocals ret :: ws) room_1) (fun a U => a = #[(.int p0), (.int p1), (.int p2)] ∧ Z.Warmed39 U.vm ∧ U.heap = h0) (fun _ _ _ _ _ => True) (fun _ U o U' => ∃ v L, o = .returned v ∧ Qv (some (.int (1 : Int32))) h0 n0 v U'.heap L ∧ FrameEnd U o U' L 0 0) := by
  refine MetFree.of_bodySF (plainFor_of_name pn_com_example_fieldward_fieldward_validation_OrderOfPinLaw) hisR ?_
  intro p e s m args below meth c s₁ Bd hml0 hP hK
  obtain ⟨rfl, hZ, hh⟩ := hP
  have hx := Bd.exec
  have hby := Bd.bytes
  have hml : c.maxLocals = 14 := hml0
  have hown : s.vm.findClass "com/example/fieldward/fieldward/validation/OrderOfPinLaw" = some m.cls := findClass_of_methodNamed Bd.named
  have hnm := (name_of_methodNamed Bd.named Bd.method).1
  have X0 : Stand p l e room_1 s m #[(.int p0), (.int p1), (.int p2)] below meth c s₁ [] 0 0 := Stand.of_body Bd
  have e0 : s₁.heap = h0 := by rw [← hh, Bd.state]; rfl
  have N0 := Fr.nil n0
  have pre0 : ∀ t, Steps p.tables e below (s₁.setTop (mkF m 0 #[.val (.int p0), .val (.int p1), .val (.int p2), .unset, .unset, .unset, .unset, .unset, .unset, .unset, .unset, .unset, .unset, .unset] [])) t → Steps p.tables e below (s₁.setTop (entryFrame m #[(.int p0), (.int p1), (.int p2)] maxLocals)) t := fun t k => castTop (ef_maxLocals_III m p0 p1 p2) k
  obtain ⟨Sw0, Sw1, Sw2, Ew0, Ew1, Ew2⟩ := id hG
  obtain ⟨T1, X1, e1, st1⟩ := getS2 X0 hx hZ hown (host := "") (Or.inl (hw _ (List.mem_of_getElem? (i := 7) rfl))) Via.refl e0 (Sw1.ext O.2) (g := (mkF m 91 #[.val (.int p0), .val (.int p1), .val (.int p2), .val (.int (1 : Int32)), .val (.int (0 : Int32)), .val (.long ((-(p0.toInt64)))), .second, .val (.long (p1.toInt64)), .second, .val (.double (FP.dneg (FP.i2d p0))), .second, .val (.double (FP.i2d p1)), .second, .unset] [])) rfl (hb hby at_91)
  obtain ⟨_, _, ⟨T2, L2, k2, n2⟩, -, X2, ⟨Lc2, hQ2, l2, y2, z2⟩, st2⟩ := Jvm.LawKit.callS X1 hx (y := (⟨"com/example/fieldward/fieldward/validation/OrderedKind$Order", "of", "(DD)Lcom/example/fieldward/fieldward/validation/OrderedKind$Order;"⟩ : MethodName)) hown (mvT hZ (hw _ (List.mem_of_getElem? (i := 3) rfl))) (mvT hZ (hw _ (List.mem_of_getElem? (i := 4) rfl))) (mvT hZ (hw _ (List.mem_of_getElem? (i := 1) rfl))) (mvT hZ (hw _ (List.mem_of_getElem? (i := 5) rfl))) (by decide) (backOf (W := 0) (rm_1_0_0 l Z a0 hw [] (FP.dneg (FP.i2d p0)) (FP.i2d p1) w0 w1 w2 h0 n0 O hG hD) hZ (hw _ (List.mem_of_getElem? (i := 5) rfl)) (hw _ (List.mem_of_getElem? (i := 1) rfl)) (by decide) (by decide)) (g := (mkF m 124 #[.val (.int p0), .val (.int p1), .val (.int p2), .val (.int (1 : Int32)), .val (.int (0 : Int32)), .val (.long ((-(p0.toInt64)))), .second, .val (.long (p1.toInt64)), .second, .val (.double (FP.dneg (FP.i2d p0))), .second, .val (.double (FP.i2d p1)), .second, .val (.ref w1)] [(.double (FP.i2d p1)), (.double (FP.dneg (FP.i2d p0)))])) rfl (by rw [hml]; rfl) (argsL := [(.double (FP.dneg (FP.i2d p0))), (.double (FP.i2d p1))]) (rest := []) (lenOf pd_28DD29Lcom2fexample2ffieldward2ffieldward2fvalidation2fOrderedKind24Order3b rfl) rfl (by show 2 * 0 + _ ≤ _; exact Nat.le_of_eq rfl) (hb hby at_124) (fun _ _ => ⟨rfl, e1, (by decide : 0 + 0 ≤ _), (by decide : 0 + 0 ≤ _)⟩)
  dsimp only [Pt.U, Pt.locs, Pt.cells, Pt.slots] at X2 l2 y2 z2 st2 hQ2
  subst l2 y2 z2
  obtain ⟨rfl, N2q, e2⟩ := hQ2
  have N2 := Fr.app N0 N2q
  obtain ⟨fs, hr, hrun, hended, hW, hsame⟩ := X2.leave (v := some (.int (1 : Int32))) (fun h => by rw [Bd.returns] at h; cases h)
  refine ⟨_, _, pre0 _ ?_, hrun, hended, _, _, rfl, ?_, ⟨_, rfl⟩, hW, hsame.mono (by decide) (by decide)⟩
  · show Steps p.tables e below (s₁.setTop (mkF m 0 #[.val (.int p0), .val (.int p1), .val (.int p2), .unset, .unset, .unset, .unset, .unset, .unset, .unset, .unset, .unset, .unset, .unset] [])) _
    refine XS.iloadN X0.here hx rfl (hb hby at_0) rfl ?_
    show Steps p.tables e below (s₁.setTop (mkF m 1 #[.val (.int p0), .val (.int p1), .val (.int p2), .unset, .unset, .unset, .unset, .unset, .unset, .unset, .unset, .unset, .unset, .unset] [(.int p2)])) _
    refine XS.iconst X0.here hx rfl (hb hby at_1) ?_
    show Steps p.tables e below (s₁.setTop (mkF m 2 #[.val (.int p0), .val (.int p1), .val (.int p2), .unset, .unset, .unset, .unset, .unset, .unset, .unset, .unset, .unset, .unset, .unset] [(.int (1 : Int32)), (.int p2)])) _
    refine XS.iand X0.here hx rfl (hb hby at_2) rfl ?_
    show Steps p.tables e below (s₁.setTop (mkF m 3 #[.val (.int p0), .val (.int p1), .val (.int p2), .unset, .unset, .unset, .unset, .unset, .unset, .unset, .unset, .unset, .unset, .unset] [(.int (p2 &&& (1 : Int32)))])) _
    rw [hA]
    show Steps p.tables e below (s₁.setTop (mkF m 3 #[.val (.int p0), .val (.int p1), .val (.int p2), .unset, .unset, .unset, .unset, .unset, .unset, .unset, .unset, .unset, .unset, .unset] [(.int (1 : Int32))])) _
    refine XS.ifNo X0.here hx rfl (hb hby at_3) rfl ((if0 _ _).trans (feq ((by decide) : ¬ ((1 : Int32) = (0 : Int32)))).1) ?_
    show Steps p.tables e below (s₁.setTop (mkF m 6 #[.val (.int p0), .val (.int p1), .val (.int p2), .unset, .unset, .unset, .unset, .unset, .unset, .unset, .unset, .unset, .unset, .unset] [])) _
    refine XS.iconst X0.here hx rfl (hb hby at_6) ?_
    show Steps p.tables e below (s₁.setTop (mkF m 7 #[.val (.int p0), .val (.int p1), .val (.int p2), .unset, .unset, .unset, .unset, .unset, .unset, .unset, .unset, .unset, .unset, .unset] [(.int (1 : Int32))])) _
    refine XS.goto X0.here hx rfl (pc0 := 7) (pc' := 11) rfl (hb hby at_7) (by decide) (by decide) ?_
    show Steps p.tables e below (s₁.setTop (mkF m 11 #[.val (.int p0), .val (.int p1), .val (.int p2), .unset, .unset, .unset, .unset, .unset, .unset, .unset, .unset, .unset, .unset, .unset] [(.int (1 : Int32))])) _
    refine XS.istoreN X0.here hx rfl (hb hby at_11) rfl (l' := #[.val (.int p0), .val (.int p1), .val (.int p2), .val (.int (1 : Int32)), .unset, .unset, .unset, .unset, .unset, .unset, .unset, .unset, .unset, .unset]) rfl ?_
    show Steps p.tables e below (s₁.setTop (mkF m 12 #[.val (.int p0), .val (.int p1), .val (.int p2), .val (.int (1 : Int32)), .unset, .unset, .unset, .unset, .unset, .unset, .unset, .unset, .unset, .unset] [])) _
    refine XS.iloadN X0.here hx rfl (hb hby at_12) rfl ?_
    show Steps p.tables e below (s₁.setTop (mkF m 13 #[.val (.int p0), .val (.int p1), .val (.int p2), .val (.int (1 : Int32)), .unset, .unset, .unset, .unset, .unset, .unset, .unset, .unset, .unset, .unset] [(.int p2)])) _
    refine XS.iconst X0.here hx rfl (hb hby at_13) ?_
    show Steps p.tables e below (s₁.setTop (mkF m 14 #[.val (.int p0), .val (.int p1), .val (.int p2), .val (.int (1 : Int32)), .unset, .unset, .unset, .unset, .unset, .unset, .unset, .unset, .unset, .unset] [(.int (2 : Int32)), (.int p2)])) _
    refine XS.iand X0.here hx rfl (hb hby at_14) rfl ?_
    show Steps p.tables e below (s₁.setTop (mkF m 15 #[.val (.int p0), .val (.int p1), .val (.int p2), .val (.int (1 : Int32)), .unset, .unset, .unset, .unset, .unset, .unset, .unset, .unset, .unset, .unset] [(.int (p2 &&& (2 : Int32)))])) _
    refine XS.ifYes X0.here hx rfl (pc0 := 15) (pc' := 22) rfl (hb hby at_15) rfl ((if0 _ _).trans (teq (hB : (p2 &&& (2 : Int32)) = (0 : Int32))).1) (by decide) (by decide) ?_
    show Steps p.tables e below (s₁.setTop (mkF m 22 #[.val (.int p0), .val (.int p1), .val (.int p2), .val (.int (1 : Int32)), .unset, .unset, .unset, .unset, .unset, .unset, .unset, .unset, .unset, .unset] [])) _
    refine XS.iconst X0.here hx rfl (hb hby at_22) ?_
    show Steps p.tables e below (s₁.setTop (mkF m 23 #[.val (.int p0), .val (.int p1), .val (.int p2), .val (.int (1 : Int32)), .unset, .unset, .unset, .unset, .unset, .unset, .unset, .unset, .unset, .unset] [(.int (0 : Int32))])) _
    refine XS.istore X0.here hx rfl (hb hby at_23) rfl (l' := #[.val (.int p0), .val (.int p1), .val (.int p2), .val (.int (1 : Int32)), .val (.int (0 : Int32)), .unset, .unset, .unset, .unset, .unset, .unset, .unset, .unset, .unset]) rfl ?_
    show Steps p.tables e below (s₁.setTop (mkF m 25 #[.val (.int p0), .val (.int p1), .val (.int p2), .val (.int (1 : Int32)), .val (.int (0 : Int32)), .unset, .unset, .unset, .unset, .unset, .unset, .unset, .unset, .unset] [])) _
    refine XS.iloadN X0.here hx rfl (hb hby at_25) rfl ?_
    show Steps p.tables e below (s₁.setTop (mkF m 26 #[.val (.int p0), .val (.int p1), .val (.int p2), .val (.int (1 : Int32)), .val (.int (0 : Int32)), .unset, .unset, .unset, .unset, .unset, .unset, .unset, .unset, .unset] [(.int (1 : Int32))])) _
    refine XS.ifNo X0.here hx rfl (hb hby at_26) rfl ((if0 _ _).trans (feq ((by decide) : ¬ ((1 : Int32) = (0 : Int32)))).1) ?_
    show Steps p.tables e below (s₁.setTop (mkF m 29 #[.val (.int p0), .val (.int p1), .val (.int p2), .val (.int (1 : Int32)), .val (.int (0 : Int32)), .unset, .unset, .unset, .unset, .unset, .unset, .unset, .unset, .unset] [])) _
    refine XS.iloadN X0.here hx rfl (hb hby at_29) rfl ?_
    show Steps p.tables e below (s₁.setTop (mkF m 30 #[.val (.int p0), .val (.int p1), .val (.int p2), .val (.int (1 : Int32)), .val (.int (0 : Int32)), .unset, .unset, .unset, .unset, .unset, .unset, .unset, .unset, .unset] [(.int p0)])) _
    refine XS.i2l X0.here hx rfl (hb hby at_30) rfl ?_
    show Steps p.tables e below (s₁.setTop (mkF m 31 #[.val (.int p0), .val (.int p1), .val (.int p2), .val (.int (1 : Int32)), .val (.int (0 : Int32)), .unset, .unset, .unset, .unset, .unset, .unset, .unset, .unset, .unset] [(.long (p0.toInt64))])) _
    refine XS.lneg X0.here hx rfl (hb hby at_31) rfl ?_
    show Steps p.tables e below (s₁.setTop (mkF m 32 #[.val (.int p0), .val (.int p1), .val (.int p2), .val (.int (1 : Int32)), .val (.int (0 : Int32)), .unset, .unset, .unset, .unset, .unset, .unset, .unset, .unset, .unset] [(.long ((-(p0.toInt64))))])) _
    refine XS.goto X0.here hx rfl (pc0 := 32) (pc' := 37) rfl (hb hby at_32) (by decide) (by decide) ?_
    show Steps p.tables e below (s₁.setTop (mkF m 37 #[.val (.int p0), .val (.int p1), .val (.int p2), .val (.int (1 : Int32)), .val (.int (0 : Int32)), .unset, .unset, .unset, .unset, .unset, .unset, .unset, .unset, .unset] [(.long ((-(p0.toInt64))))])) _
    refine XS.lstore X0.here hx rfl (hb hby at_37) rfl (l' := #[.val (.int p0), .val (.int p1), .val (.int p2), .val (.int (1 : Int32)), .val (.int (0 : Int32)), .val (.long ((-(p0.toInt64)))), .second, .unset, .unset, .unset, .unset, .unset, .unset, .unset]) rfl ?_
    show Steps p.tables e below (s₁.setTop (mkF m 39 #[.val (.int p0), .val (.int p1), .val (.int p2), .val (.int (1 : Int32)), .val (.int (0 : Int32)), .val (.long ((-(p0.toInt64)))), .second, .unset, .unset, .unset, .unset, .unset, .unset, .unset] [])) _
    refine XS.iload X0.here hx rfl (hb hby at_39) rfl ?_
    show Steps p.tables e below (s₁.setTop (mkF m 41 #[.val (.int p0), .val (.int p1), .val (.int p2), .val (.int (1 : Int32)), .val (.int (0 : Int32)), .val (.long ((-(p0.toInt64)))), .second, .unset, .unset, .unset, .unset, .unset, .unset, .unset] [(.int (0 : Int32))])) _
    refine XS.ifYes X0.here hx rfl (pc0 := 41) (pc' := 50) rfl (hb hby at_41) rfl ((if0 _ _).trans (teq ((by decide) : (0 : Int32) = (0 : Int32))).1) (by decide) (by decide) ?_
    show Steps p.tables e below (s₁.setTop (mkF m 50 #[.val (.int p0), .val (.int p1), .val (.int p2), .val (.int (1 : Int32)), .val (.int (0 : Int32)), .val (.long ((-(p0.toInt64)))), .second, .unset, .unset, .unset, .unset, .unset, .unset, .unset] [])) _
    refine XS.iloadN X0.here hx rfl (hb hby at_50) rfl ?_
    show Steps p.tables e below (s₁.setTop (mkF m 51 #[.val (.int p0), .val (.int p1), .val (.int p2), .val (.int (1 : Int32)), .val (.int (0 : Int32)), .val (.long ((-(p0.toInt64)))), .second, .unset, .unset, .unset, .unset, .unset, .unset, .unset] [(.int p1)])) _
    refine XS.i2l X0.here hx rfl (hb hby at_51) rfl ?_
    show Steps p.tables e below (s₁.setTop (mkF m 52 #[.val (.int p0), .val (.int p1), .val (.int p2), .val (.int (1 : Int32)), .val (.int (0 : Int32)), .val (.long ((-(p0.toInt64)))), .second, .unset, .unset, .unset, .unset, .unset, .unset, .unset] [(.long (p1.toInt64))])) _
    refine XS.lstore X0.here hx rfl (hb hby at_52) rfl (l' := #[.val (.int p0), .val (.int p1), .val (.int p2), .val (.int (1 : Int32)), .val (.int (0 : Int32)), .val (.long ((-(p0.toInt64)))), .second, .val (.long (p1.toInt64)), .second, .unset, .unset, .unset, .unset, .unset]) rfl ?_
    show Steps p.tables e below (s₁.setTop (mkF m 54 #[.val (.int p0), .val (.int p1), .val (.int p2), .val (.int (1 : Int32)), .val (.int (0 : Int32)), .val (.long ((-(p0.toInt64)))), .second, .val (.long (p1.toInt64)), .second, .unset, .unset, .unset, .unset, .unset] [])) _
    refine XS.iloadN X0.here hx rfl (hb hby at_54) rfl ?_
    show Steps p.tables e below (s₁.setTop (mkF m 55 #[.val (.int p0), .val (.int p1), .val (.int p2), .val (.int (1 : Int32)), .val (.int (0 : Int32)), .val (.long ((-(p0.toInt64)))), .second, .val (.long (p1.toInt64)), .second, .unset, .unset, .unset, .unset, .unset] [(.int (1 : Int32))])) _
    refine XS.ifNo X0.here hx rfl (hb hby at_55) rfl ((if0 _ _).trans (feq ((by decide) : ¬ ((1 : Int32) = (0 : Int32)))).1) ?_
    show Steps p.tables e below (s₁.setTop (mkF m 58 #[.val (.int p0), .val (.int p1), .val (.int p2), .val (.int (1 : Int32)), .val (.int (0 : Int32)), .val (.long ((-(p0.toInt64)))), .second, .val (.long (p1.toInt64)), .second, .unset, .unset, .unset, .unset, .unset] [])) _
    refine XS.iloadN X0.here hx rfl (hb hby at_58) rfl ?_
    show Steps p.tables e below (s₁.setTop (mkF m 59 #[.val (.int p0), .val (.int p1), .val (.int p2), .val (.int (1 : Int32)), .val (.int (0 : Int32)), .val (.long ((-(p0.toInt64)))), .second, .val (.long (p1.toInt64)), .second, .unset, .unset, .unset, .unset, .unset] [(.int p0)])) _
    refine XS.i2dS X0.here hx rfl (hb hby at_59) rfl rfl ?_
    show Steps p.tables e below (s₁.setTop (mkF m 60 #[.val (.int p0), .val (.int p1), .val (.int p2), .val (.int (1 : Int32)), .val (.int (0 : Int32)), .val (.long ((-(p0.toInt64)))), .second, .val (.long (p1.toInt64)), .second, .unset, .unset, .unset, .unset, .unset] [(.double (FP.i2d p0))])) _
    refine XS.dnegS X0.here hx rfl (hb hby at_60) rfl rfl ?_
    show Steps p.tables e below (s₁.setTop (mkF m 61 #[.val (.int p0), .val (.int p1), .val (.int p2), .val (.int (1 : Int32)), .val (.int (0 : Int32)), .val (.long ((-(p0.toInt64)))), .second, .val (.long (p1.toInt64)), .second, .unset, .unset, .unset, .unset, .unset] [(.double (FP.dneg (FP.i2d p0)))])) _
    refine XS.goto X0.here hx rfl (pc0 := 61) (pc' := 66) rfl (hb hby at_61) (by decide) (by decide) ?_
    show Steps p.tables e below (s₁.setTop (mkF m 66 #[.val (.int p0), .val (.int p1), .val (.int p2), .val (.int (1 : Int32)), .val (.int (0 : Int32)), .val (.long ((-(p0.toInt64)))), .second, .val (.long (p1.toInt64)), .second, .unset, .unset, .unset, .unset, .unset] [(.double (FP.dneg (FP.i2d p0)))])) _
    refine XS.dstore X0.here hx rfl (hb hby at_66) rfl (l' := #[.val (.int p0), .val (.int p1), .val (.int p2), .val (.int (1 : Int32)), .val (.int (0 : Int32)), .val (.long ((-(p0.toInt64)))), .second, .val (.long (p1.toInt64)), .second, .val (.double (FP.dneg (FP.i2d p0))), .second, .unset, .unset, .unset]) rfl ?_
    show Steps p.tables e below (s₁.setTop (mkF m 68 #[.val (.int p0), .val (.int p1), .val (.int p2), .val (.int (1 : Int32)), .val (.int (0 : Int32)), .val (.long ((-(p0.toInt64)))), .second, .val (.long (p1.toInt64)), .second, .val (.double (FP.dneg (FP.i2d p0))), .second, .unset, .unset, .unset] [])) _
    refine XS.iload X0.here hx rfl (hb hby at_68) rfl ?_
    show Steps p.tables e below (s₁.setTop (mkF m 70 #[.val (.int p0), .val (.int p1), .val (.int p2), .val (.int (1 : Int32)), .val (.int (0 : Int32)), .val (.long ((-(p0.toInt64)))), .second, .val (.long (p1.toInt64)), .second, .val (.double (FP.dneg (FP.i2d p0))), .second, .unset, .unset, .unset] [(.int (0 : Int32))])) _
    refine XS.ifYes X0.here hx rfl (pc0 := 70) (pc' := 79) rfl (hb hby at_70) rfl ((if0 _ _).trans (teq ((by decide) : (0 : Int32) = (0 : Int32))).1) (by decide) (by decide) ?_
    show Steps p.tables e below (s₁.setTop (mkF m 79 #[.val (.int p0), .val (.int p1), .val (.int p2), .val (.int (1 : Int32)), .val (.int (0 : Int32)), .val (.long ((-(p0.toInt64)))), .second, .val (.long (p1.toInt64)), .second, .val (.double (FP.dneg (FP.i2d p0))), .second, .unset, .unset, .unset] [])) _
    refine XS.iloadN X0.here hx rfl (hb hby at_79) rfl ?_
    show Steps p.tables e below (s₁.setTop (mkF m 80 #[.val (.int p0), .val (.int p1), .val (.int p2), .val (.int (1 : Int32)), .val (.int (0 : Int32)), .val (.long ((-(p0.toInt64)))), .second, .val (.long (p1.toInt64)), .second, .val (.double (FP.dneg (FP.i2d p0))), .second, .unset, .unset, .unset] [(.int p1)])) _
    refine XS.i2dS X0.here hx rfl (hb hby at_80) rfl rfl ?_
    show Steps p.tables e below (s₁.setTop (mkF m 81 #[.val (.int p0), .val (.int p1), .val (.int p2), .val (.int (1 : Int32)), .val (.int (0 : Int32)), .val (.long ((-(p0.toInt64)))), .second, .val (.long (p1.toInt64)), .second, .val (.double (FP.dneg (FP.i2d p0))), .second, .unset, .unset, .unset] [(.double (FP.i2d p1))])) _
    refine XS.dstore X0.here hx rfl (hb hby at_81) rfl (l' := #[.val (.int p0), .val (.int p1), .val (.int p2), .val (.int (1 : Int32)), .val (.int (0 : Int32)), .val (.long ((-(p0.toInt64)))), .second, .val (.long (p1.toInt64)), .second, .val (.double (FP.dneg (FP.i2d p0))), .second, .val (.double (FP.i2d p1)), .second, .unset]) rfl ?_
    show Steps p.tables e below (s₁.setTop (mkF m 83 #[.val (.int p0), .val (.int p1), .val (.int p2), .val (.int (1 : Int32)), .val (.int (0 : Int32)), .val (.long ((-(p0.toInt64)))), .second, .val (.long (p1.toInt64)), .second, .val (.double (FP.dneg (FP.i2d p0))), .second, .val (.double (FP.i2d p1)), .second, .unset] [])) _
    refine XS.lload X0.here hx rfl (hb hby at_83) rfl ?_
    show Steps p.tables e below (s₁.setTop (mkF m 85 #[.val (.int p0), .val (.int p1), .val (.int p2), .val (.int (1 : Int32)), .val (.int (0 : Int32)), .val (.long ((-(p0.toInt64)))), .second, .val (.long (p1.toInt64)), .second, .val (.double (FP.dneg (FP.i2d p0))), .second, .val (.double (FP.i2d p1)), .second, .unset] [(.long ((-(p0.toInt64))))])) _
    refine XS.lload X0.here hx rfl (hb hby at_85) rfl ?_
    show Steps p.tables e below (s₁.setTop (mkF m 87 #[.val (.int p0), .val (.int p1), .val (.int p2), .val (.int (1 : Int32)), .val (.int (0 : Int32)), .val (.long ((-(p0.toInt64)))), .second, .val (.long (p1.toInt64)), .second, .val (.double (FP.dneg (FP.i2d p0))), .second, .val (.double (FP.i2d p1)), .second, .unset] [(.long (p1.toInt64)), (.long ((-(p0.toInt64))))])) _
    refine XS.lcmp X0.here hx rfl (hb hby at_87) rfl ?_
    show Steps p.tables e below (s₁.setTop (mkF m 88 #[.val (.int p0), .val (.int p1), .val (.int p2), .val (.int (1 : Int32)), .val (.int (0 : Int32)), .val (.long ((-(p0.toInt64)))), .second, .val (.long (p1.toInt64)), .second, .val (.double (FP.dneg (FP.i2d p0))), .second, .val (.double (FP.i2d p1)), .second, .unset] [(.int (lcmpW ((-(p0.toInt64))) (p1.toInt64)))])) _
    rw [hL]
    show Steps p.tables e below (s₁.setTop (mkF m 88 #[.val (.int p0), .val (.int p1), .val (.int p2), .val (.int (1 : Int32)), .val (.int (0 : Int32)), .val (.long ((-(p0.toInt64)))), .second, .val (.long (p1.toInt64)), .second, .val (.double (FP.dneg (FP.i2d p0))), .second, .val (.double (FP.i2d p1)), .second, .unset] [(.int (-1 : Int32))])) _
    refine XS.ifNo X0.here hx rfl (hb hby at_88) rfl ((if0 _ _).trans (tlt ((by decide) : (-1 : Int32) < (0 : Int32))).2.1) ?_
    show Steps p.tables e below (s₁.setTop (mkF m 91 #[.val (.int p0), .val (.int p1), .val (.int p2), .val (.int (1 : Int32)), .val (.int (0 : Int32)), .val (.long ((-(p0.toInt64)))), .second, .val (.long (p1.toInt64)), .second, .val (.double (FP.dneg (FP.i2d p0))), .second, .val (.double (FP.i2d p1)), .second, .unset] [])) _
    refine st1 _ ?_
    show Steps p.tables e below (T1.setTop (mkF m 94 #[.val (.int p0), .val (.int p1), .val (.int p2), .val (.int (1 : Int32)), .val (.int (0 : Int32)), .val (.long ((-(p0.toInt64)))), .second, .val (.long (p1.toInt64)), .second, .val (.double (FP.dneg (FP.i2d p0))), .second, .val (.double (FP.i2d p1)), .second, .unset] [(.ref w1)])) _
    refine XS.astore X1.here hx rfl (hb hby at_94) rfl rfl (l' := #[.val (.int p0), .val (.int p1), .val (.int p2), .val (.int (1 : Int32)), .val (.int (0 : Int32)), .val (.long ((-(p0.toInt64)))), .second, .val (.long (p1.toInt64)), .second, .val (.double (FP.dneg (FP.i2d p0))), .second, .val (.double (FP.i2d p1)), .second, .val (.ref w1)]) rfl ?_
    show Steps p.tables e below (T1.setTop (mkF m 96 #[.val (.int p0), .val (.int p1), .val (.int p2), .val (.int (1 : Int32)), .val (.int (0 : Int32)), .val (.long ((-(p0.toInt64)))), .second, .val (.long (p1.toInt64)), .second, .val (.double (FP.dneg (FP.i2d p0))), .second, .val (.double (FP.i2d p1)), .second, .val (.ref w1)] [])) _
    refine XS.goto X1.here hx rfl (pc0 := 96) (pc' := 120) rfl (hb hby at_96) (by decide) (by decide) ?_
    show Steps p.tables e below (T1.setTop (mkF m 120 #[.val (.int p0), .val (.int p1), .val (.int p2), .val (.int (1 : Int32)), .val (.int (0 : Int32)), .val (.long ((-(p0.toInt64)))), .second, .val (.long (p1.toInt64)), .second, .val (.double (FP.dneg (FP.i2d p0))), .second, .val (.double (FP.i2d p1)), .second, .val (.ref w1)] [])) _
    refine XS.dload X1.here hx rfl (hb hby at_120) rfl ?_
    show Steps p.tables e below (T1.setTop (mkF m 122 #[.val (.int p0), .val (.int p1), .val (.int p2), .val (.int (1 : Int32)), .val (.int (0 : Int32)), .val (.long ((-(p0.toInt64)))), .second, .val (.long (p1.toInt64)), .second, .val (.double (FP.dneg (FP.i2d p0))), .second, .val (.double (FP.i2d p1)), .second, .val (.ref w1)] [(.double (FP.dneg (FP.i2d p0)))])) _
    refine XS.dload X1.here hx rfl (hb hby at_122) rfl ?_
    show Steps p.tables e below (T1.setTop (mkF m 124 #[.val (.int p0), .val (.int p1), .val (.int p2), .val (.int (1 : Int32)), .val (.int (0 : Int32)), .val (.long ((-(p0.toInt64)))), .second, .val (.long (p1.toInt64)), .second, .val (.double (FP.dneg (FP.i2d p0))), .second, .val (.double (FP.i2d p1)), .second, .val (.ref w1)] [(.double (FP.i2d p1)), (.double (FP.dneg (FP.i2d p0)))])) _
    refine st2 _ ?_
    show Steps p.tables e below (T2.setTop (mkF m 127 #[.val (.int p0), .val (.int p1), .val (.int p2), .val (.int (1 : Int32)), .val (.int (0 : Int32)), .val (.long ((-(p0.toInt64)))), .second, .val (.long (p1.toInt64)), .second, .val (.double (FP.dneg (FP.i2d p0))), .second, .val (.double (FP.i2d p1)), .second, .val (.ref w1)] [(.ref w1)])) _
    refine XS.aload X2.here hx rfl (hb hby at_127) rfl rfl ?_
    show Steps p.tables e below (T2.setTop (mkF m 129 #[.val (.int p0), .val (.int p1), .val (.int p2), .val (.int (1 : Int32)), .val (.int (0 : Int32)), .val (.long ((-(p0.toInt64)))), .second, .val (.long (p1.toInt64)), .second, .val (.double (FP.dneg (FP.i2d p0))), .second, .val (.double (FP.i2d p1)), .second, .val (.ref w1)] [(.ref w1), (.ref w1)])) _
    refine Jvm.RoadKit.acmp (g := (mkF m 129 #[.val (.int p0), .val (.int p1), .val (.int p2), .val (.int (1 : Int32)), .val (.int (0 : Int32)), .val (.long ((-(p0.toInt64)))), .second, .val (.long (p1.toInt64)), .second, .val (.double (FP.dneg (FP.i2d p0))), .second, .val (.double (FP.i2d p1)), .second, .val (.ref w1)] [(.ref w1), (.ref w1)])) X2 hx rfl rfl rfl (pc0 := 129) (pc' := 132) (same := true) rfl (hb hby at_129) rfl (decide_eq_true rfl) (by decide) (by decide) ?_
    show Steps p.tables e below (T2.setTop (mkF m 132 #[.val (.int p0), .val (.int p1), .val (.int p2), .val (.int (1 : Int32)), .val (.int (0 : Int32)), .val (.long ((-(p0.toInt64)))), .second, .val (.long (p1.toInt64)), .second, .val (.double (FP.dneg (FP.i2d p0))), .second, .val (.double (FP.i2d p1)), .second, .val (.ref w1)] [])) _
    refine XS.iconst X2.here hx rfl (hb hby at_132) ?_
    show Steps p.tables e below (T2.setTop (mkF m 133 #[.val (.int p0), .val (.int p1), .val (.int p2), .val (.int (1 : Int32)), .val (.int (0 : Int32)), .val (.long ((-(p0.toInt64)))), .second, .val (.long (p1.toInt64)), .second, .val (.double (FP.dneg (FP.i2d p0))), .second, .val (.double (FP.i2d p1)), .second, .val (.ref w1)] [(.int (1 : Int32))])) _
    refine XS.goto X2.here hx rfl (pc0 := 133) (pc' := 137) rfl (hb hby at_133) (by decide) (by decide) ?_
    show Steps p.tables e below (T2.setTop (mkF m 137 #[.val (.int p0), .val (.int p1), .val (.int p2), .val (.int (1 : Int32)), .val (.int (0 : Int32)), .val (.long ((-(p0.toInt64)))), .second, .val (.long (p1.toInt64)), .second, .val (.double (FP.dneg (FP.i2d p0))), .second, .val (.double (FP.i2d p1)), .second, .val (.ref w1)] [(.int (1 : Int32))])) _
    exact retN X2 hx (t := .boolean) Bd.returns (by simp) (hb hby at_137) hr
  · exact ⟨rfl, N2, e2⟩
set_option maxRecDepth 65536 in
set_option maxHeartbeats 40000000 in
theorem rm_1_0_1 (l : Launch) (Z : State) (a0 : Array Value) (hw : ∀ d ∈ tables_1, d.before a0 Z = true) (ws : List Jvm.Cond) (x0 x1 : UInt64) (w0 : Addr) (w1 : Addr) (w2 : Addr) (h0 : Heap) (n0 : Nat) (O : Old Z n0 h0) (hG : GG Z w0 w1 w2) (hD : ∀ o, cmpValue (FP.dcmp x0 x1) o = (0 : Int32)) :
    MetFree l (⟨"com/example/fieldward/fieldward/validation/OrderedKind$Order", "of", "(DD)Lcom/example/fieldward/fieldward/validation/OrderedKind$Order;"⟩ : MethodName) (head1 (Jvm.Cond.code (⟨"com/example/fieldward/fieldward/validation/OrderedKind$Order", "of", "(DD)Lcom/example/fieldward/fieldward/validation/OrderedKind$Order;"⟩ : MethodName) prog_15_method_5_code 5 (some (.object "com/example/fieldward/fieldward/validation/OrderedKind$Order")) :: ws) ({ frames := 0, cells := 0, slots := 0, locals := 0 } : Room)) (fun a U => a = #[(.double x0), (.double x1)] ∧ Z.Warmed39 U.vm ∧ U.heap = h0) (fun _ _ _ _ _ => True) (fun _ U o U' => ∃ v L, o = .returned v ∧ Qv (some (.ref w2)) h0 n0 v U'.heap L ∧ FrameEnd U o U' L ({ frames := 0, cells := 0, slots := 0, locals := 0 } : Room).cells ({ frames := 0, cells := 0, slots := 0, locals := 0 } : Room).slots) := by
  refine MetFree.of_bodySF (plainFor_of_name pn_com_example_fieldward_fieldward_validation_OrderedKind_Order) hisR ?_
  intro p e s m args below meth c s₁ Bd hml0 hP hK
  obtain ⟨rfl, hZ, hh⟩ := hP
  have hx := Bd.exec
  have hby := Bd.bytes
  have hml : c.maxLocals = 5 := hml0
  have hown : s.vm.findClass "com/example/fieldward/fieldward/validation/OrderedKind$Order" = some m.cls := findClass_of_methodNamed Bd.named
  have hnm := (name_of_methodNamed Bd.named Bd.method).1
  have X0 : Stand p l e ({ frames := 0, cells := 0, slots := 0, locals := 0 } : Room) s m #[(.double x0), (.double x1)] below meth c s₁ [] 0 0 := Stand.of_body Bd
  have e0 : s₁.heap = h0 := by rw [← hh, Bd.state]; rfl
  have N0 := Fr.nil n0
  have pre0 : ∀ t, Steps p.tables e below (s₁.setTop (mkF m 0 #[.val (.double x0), .second, .val (.double x1), .second, .unset] [])) t → Steps p.tables e below (s₁.setTop (entryFrame m #[(.double x0), (.double x1)] 5)) t := fun t k => castTop (ef_5_DD m x0 x1) k
  obtain ⟨Sw0, Sw1, Sw2, Ew0, Ew1, Ew2⟩ := id hG
  obtain ⟨T1, X1, e1, st1⟩ := getS2 X0 hx hZ hown (host := "") (Or.inl (hw _ (List.mem_of_getElem? (i := 12) rfl))) Via.refl e0 (Sw2.ext O.2) (g := (mkF m 34 #[.val (.double x0), .second, .val (.double x1), .second, .unset] [])) rfl (hb hby d1_34)
  obtain ⟨fs, hr, hrun, hended, hW, hsame⟩ := X1.leave (v := some (.ref w2)) (fun h => by rw [Bd.returns] at h; cases h)
  refine ⟨_, _, pre0 _ ?_, hrun, hended, _, _, rfl, ?_, ⟨_, rfl⟩, hW, hsame.mono (by decide) (by decide)⟩
  · show Steps p.tables e below (s₁.setTop (mkF m 0 #[.val (.double x0), .second, .val (.double x1), .second, .unset] [])) _
    refine XS.dloadN X0.here hx rfl (hb hby d1_0) rfl ?_
    show Steps p.tables e below (s₁.setTop (mkF m 1 #[.val (.double x0), .second, .val (.double x1), .second, .unset] [(.double x0)])) _
    refine XS.dloadN X0.here hx rfl (hb hby d1_1) rfl ?_
    show Steps p.tables e below (s₁.setTop (mkF m 2 #[.val (.double x0), .second, .val (.double x1), .second, .unset] [(.double x1), (.double x0)])) _
    refine XS.dcmpS X0.here hx rfl (hb hby d1_2) rfl rfl ?_
    show Steps p.tables e below (s₁.setTop (mkF m 3 #[.val (.double x0), .second, .val (.double x1), .second, .unset] [(.int (cmpValue (FP.dcmp x0 x1) .g))])) _
    rw [hD]
    show Steps p.tables e below (s₁.setTop (mkF m 3 #[.val (.double x0), .second, .val (.double x1), .second, .unset] [(.int (0 : Int32))])) _
    refine XS.ifYes X0.here hx rfl (pc0 := 3) (pc' := 14) rfl (hb hby d1_3) rfl ((if0 _ _).trans (flt ((by decide) : ¬ ((0 : Int32) < (0 : Int32)))).2.1) (by decide) (by decide) ?_
    show Steps p.tables e below (s₁.setTop (mkF m 14 #[.val (.double x0), .second, .val (.double x1), .second, .unset] [])) _
    refine XS.dloadN X0.here hx rfl (hb hby d1_14) rfl ?_
    show Steps p.tables e below (s₁.setTop (mkF m 15 #[.val (.double x0), .second, .val (.double x1), .second, .unset] [(.double x0)])) _
    refine XS.dloadN X0.here hx rfl (hb hby d1_15) rfl ?_
    show Steps p.tables e below (s₁.setTop (mkF m 16 #[.val (.double x0), .second, .val (.double x1), .second, .unset] [(.double x1), (.double x0)])) _
    refine XS.dcmpS X0.here hx rfl (hb hby d1_16) rfl rfl ?_
    show Steps p.tables e below (s₁.setTop (mkF m 17 #[.val (.double x0), .second, .val (.double x1), .second, .unset] [(.int (cmpValue (FP.dcmp x0 x1) .l))])) _
    rw [hD]
    show Steps p.tables e below (s₁.setTop (mkF m 17 #[.val (.double x0), .second, .val (.double x1), .second, .unset] [(.int (0 : Int32))])) _
    refine XS.ifYes X0.here hx rfl (pc0 := 17) (pc' := 28) rfl (hb hby d1_17) rfl ((if0 _ _).trans (flt ((by decide) : ¬ ((0 : Int32) < (0 : Int32)))).2.2.2) (by decide) (by decide) ?_
    show Steps p.tables e below (s₁.setTop (mkF m 28 #[.val (.double x0), .second, .val (.double x1), .second, .unset] [])) _
    refine XS.dloadN X0.here hx rfl (hb hby d1_28) rfl ?_
    show Steps p.tables e below (s₁.setTop (mkF m 29 #[.val (.double x0), .second, .val (.double x1), .second, .unset] [(.double x0)])) _
    refine XS.dloadN X0.here hx rfl (hb hby d1_29) rfl ?_
    show Steps p.tables e below (s₁.setTop (mkF m 30 #[.val (.double x0), .second, .val (.double x1), .second, .unset] [(.double x1), (.double x0)])) _
    refine XS.dcmpS X0.here hx rfl (hb hby d1_30) rfl rfl ?_
    show Steps p.tables e below (s₁.setTop (mkF m 31 #[.val (.double x0), .second, .val (.double x1), .second, .unset] [(.int (cmpValue (FP.dcmp x0 x1) .l))])) _
    rw [hD]
    show Steps p.tables e below (s₁.setTop (mkF m 31 #[.val (.double x0), .second, .val (.double x1), .second, .unset] [(.int (0 : Int32))])) _
    refine XS.ifNo X0.here hx rfl (hb hby d1_31) rfl ((if0 _ _).trans (teq ((by decide) : (0 : Int32) = (0 : Int32))).2) ?_
    show Steps p.tables e below (s₁.setTop (mkF m 34 #[.val (.double x0), .second, .val (.double x1), .second, .unset] [])) _
    refine st1 _ ?_
    show Steps p.tables e below (T1.setTop (mkF m 37 #[.val (.double x0), .second, .val (.double x1), .second, .unset] [(.ref w2)])) _
    refine XS.astore X1.here hx rfl (hb hby d1_37) rfl rfl (l' := #[.val (.double x0), .second, .val (.double x1), .second, .val (.ref w2)]) rfl ?_
    show Steps p.tables e below (T1.setTop (mkF m 39 #[.val (.double x0), .second, .val (.double x1), .second, .val (.ref w2)] [])) _
    refine XS.goto X1.here hx rfl (pc0 := 39) (pc' := 47) rfl (hb hby d1_39) (by decide) (by decide) ?_
    show Steps p.tables e below (T1.setTop (mkF m 47 #[.val (.double x0), .second, .val (.double x1), .second, .val (.ref w2)] [])) _
    refine XS.aload X1.here hx rfl (hb hby d1_47) rfl rfl ?_
    show Steps p.tables e below (T1.setTop (mkF m 49 #[.val (.double x0), .second, .val (.double x1), .second, .val (.ref w2)] [(.ref w2)])) _
    exact retOut X1 hx Bd.returns rfl (Or.inr (Or.inr (Or.inr (Or.inr ⟨rfl, rfl, rfl⟩)))) (hb hby d1_49) hr
  · exact ⟨rfl, N0, e1⟩
set_option maxRecDepth 65536 in
set_option maxHeartbeats 40000000 in
theorem rl_1_0_1 (l : Launch) (Z : State) (a0 : Array Value) (hw : ∀ d ∈ tables_1, d.before a0 Z = true) (ws : List Jvm.Cond) (p0 p1 p2 : Int32) (w0 : Addr) (w1 : Addr) (w2 : Addr) (h0 : Heap) (n0 : Nat) (O : Old Z n0 h0) (hG : GG Z w0 w1 w2) (hA : p2 &&& (1 : Int32) = (1 : Int32)) (hB : p2 &&& (2 : Int32) = (0 : Int32)) (hL : lcmpW (-(p0.toInt64)) (p1.toInt64) = (0 : Int32)) (hD : ∀ o, cmpValue (FP.dcmp (FP.dneg (FP.i2d p0)) (FP.i2d p1)) o = (0 : Int32)) :
    MetFree l x (head1 (Jvm.Cond.code x code maxLocals ret :: ws) room_1) (fun a U => a = #[(.int p0), (.int p1), (.int p2)] ∧ Z.Warmed39 U.vm ∧ U.heap = h0) (fun _ _ _ _ _ => True) (fun _ U o U' => ∃ v L, o = .returned v ∧ Qv (some (.int (1 : Int32))) h0 n0 v U'.heap L ∧ FrameEnd U o U' L 0 0) := by
  refine MetFree.of_bodySF (plainFor_of_name pn_com_example_fieldward_fieldward_validation_OrderOfPinLaw) hisR ?_
  intro p e s m args below meth c s₁ Bd hml0 hP hK
  obtain ⟨rfl, hZ, hh⟩ := hP
  have hx := Bd.exec
  have hby := Bd.bytes
  have hml : c.maxLocals = 14 := hml0
  have hown : s.vm.findClass "com/example/fieldward/fieldward/validation/OrderOfPinLaw" = some m.cls := findClass_of_methodNamed Bd.named
  have hnm := (name_of_methodNamed Bd.named Bd.method).1
  have X0 : Stand p l e room_1 s m #[(.int p0), (.int p1), (.int p2)] below meth c s₁ [] 0 0 := Stand.of_body Bd
  have e0 : s₁.heap = h0 := by rw [← hh, Bd.state]; rfl
  have N0 := Fr.nil n0
  have pre0 : ∀ t, Steps p.tables e below (s₁.setTop (mkF m 0 #[.val (.int p0), .val (.int p1), .val (.int p2), .unset, .unset, .unset, .unset, .unset, .unset, .unset, .unset, .unset, .unset, .unset] [])) t → Steps p.tables e below (s₁.setTop (entryFrame m #[(.int p0), (.int p1), (.int p2)] maxLocals)) t := fun t k => castTop (ef_maxLocals_III m p0 p1 p2) k
  obtain ⟨Sw0, Sw1, Sw2, Ew0, Ew1, Ew2⟩ := id hG
  obtain ⟨T1, X1, e1, st1⟩ := getS2 X0 hx hZ hown (host := "") (Or.inl (hw _ (List.mem_of_getElem? (i := 10) rfl))) Via.refl e0 (Sw2.ext O.2) (g := (mkF m 115 #[.val (.int p0), .val (.int p1), .val (.int p2), .val (.int (1 : Int32)), .val (.int (0 : Int32)), .val (.long ((-(p0.toInt64)))), .second, .val (.long (p1.toInt64)), .second, .val (.double (FP.dneg (FP.i2d p0))), .second, .val (.double (FP.i2d p1)), .second, .unset] [])) rfl (hb hby at_115)
  obtain ⟨_, _, ⟨T2, L2, k2, n2⟩, -, X2, ⟨Lc2, hQ2, l2, y2, z2⟩, st2⟩ := Jvm.LawKit.callS X1 hx (y := (⟨"com/example/fieldward/fieldward/validation/OrderedKind$Order", "of", "(DD)Lcom/example/fieldward/fieldward/validation/OrderedKind$Order;"⟩ : MethodName)) hown (mvT hZ (hw _ (List.mem_of_getElem? (i := 3) rfl))) (mvT hZ (hw _ (List.mem_of_getElem? (i := 4) rfl))) (mvT hZ (hw _ (List.mem_of_getElem? (i := 1) rfl))) (mvT hZ (hw _ (List.mem_of_getElem? (i := 5) rfl))) (by decide) (backOf (W := 0) (rm_1_0_1 l Z a0 hw [] (FP.dneg (FP.i2d p0)) (FP.i2d p1) w0 w1 w2 h0 n0 O hG hD) hZ (hw _ (List.mem_of_getElem? (i := 5) rfl)) (hw _ (List.mem_of_getElem? (i := 1) rfl)) (by decide) (by decide)) (g := (mkF m 124 #[.val (.int p0), .val (.int p1), .val (.int p2), .val (.int (1 : Int32)), .val (.int (0 : Int32)), .val (.long ((-(p0.toInt64)))), .second, .val (.long (p1.toInt64)), .second, .val (.double (FP.dneg (FP.i2d p0))), .second, .val (.double (FP.i2d p1)), .second, .val (.ref w2)] [(.double (FP.i2d p1)), (.double (FP.dneg (FP.i2d p0)))])) rfl (by rw [hml]; rfl) (argsL := [(.double (FP.dneg (FP.i2d p0))), (.double (FP.i2d p1))]) (rest := []) (lenOf pd_28DD29Lcom2fexample2ffieldward2ffieldward2fvalidation2fOrderedKind24Order3b rfl) rfl (by show 2 * 0 + _ ≤ _; exact Nat.le_of_eq rfl) (hb hby at_124) (fun _ _ => ⟨rfl, e1, (by decide : 0 + 0 ≤ _), (by decide : 0 + 0 ≤ _)⟩)
  dsimp only [Pt.U, Pt.locs, Pt.cells, Pt.slots] at X2 l2 y2 z2 st2 hQ2
  subst l2 y2 z2
  obtain ⟨rfl, N2q, e2⟩ := hQ2
  have N2 := Fr.app N0 N2q
  obtain ⟨fs, hr, hrun, hended, hW, hsame⟩ := X2.leave (v := some (.int (1 : Int32))) (fun h => by rw [Bd.returns] at h; cases h)
  refine ⟨_, _, pre0 _ ?_, hrun, hended, _, _, rfl, ?_, ⟨_, rfl⟩, hW, hsame.mono (by decide) (by decide)⟩
  · show Steps p.tables e below (s₁.setTop (mkF m 0 #[.val (.int p0), .val (.int p1), .val (.int p2), .unset, .unset, .unset, .unset, .unset, .unset, .unset, .unset, .unset, .unset, .unset] [])) _
    refine XS.iloadN X0.here hx rfl (hb hby at_0) rfl ?_
    show Steps p.tables e below (s₁.setTop (mkF m 1 #[.val (.int p0), .val (.int p1), .val (.int p2), .unset, .unset, .unset, .unset, .unset, .unset, .unset, .unset, .unset, .unset, .unset] [(.int p2)])) _
    refine XS.iconst X0.here hx rfl (hb hby at_1) ?_
    show Steps p.tables e below (s₁.setTop (mkF m 2 #[.val (.int p0), .val (.int p1), .val (.int p2), .unset, .unset, .unset, .unset, .unset, .unset, .unset, .unset, .unset, .unset, .unset] [(.int (1 : Int32)), (.int p2)])) _
    refine XS.iand X0.here hx rfl (hb hby at_2) rfl ?_
    show Steps p.tables e below (s₁.setTop (mkF m 3 #[.val (.int p0), .val (.int p1), .val (.int p2), .unset, .unset, .unset, .unset, .unset, .unset, .unset, .unset, .unset, .unset, .unset] [(.int (p2 &&& (1 : Int32)))])) _
    rw [hA]
    show Steps p.tables e below (s₁.setTop (mkF m 3 #[.val (.int p0), .val (.int p1), .val (.int p2), .unset, .unset, .unset, .unset, .unset, .unset, .unset, .unset, .unset, .unset, .unset] [(.int (1 : Int32))])) _
    refine XS.ifNo X0.here hx rfl (hb hby at_3) rfl ((if0 _ _).trans (feq ((by decide) : ¬ ((1 : Int32) = (0 : Int32)))).1) ?_
    show Steps p.tables e below (s₁.setTop (mkF m 6 #[.val (.int p0), .val (.int p1), .val (.int p2), .unset, .unset, .unset, .unset, .unset, .unset, .unset, .unset, .unset, .unset, .unset] [])) _
    refine XS.iconst X0.here hx rfl (hb hby at_6) ?_
    show Steps p.tables e below (s₁.setTop (mkF m 7 #[.val (.int p0), .val (.int p1), .val (.int p2), .unset, .unset, .unset, .unset, .unset, .unset, .unset, .unset, .unset, .unset, .unset] [(.int (1 : Int32))])) _
    refine XS.goto X0.here hx rfl (pc0 := 7) (pc' := 11) rfl (hb hby at_7) (by decide) (by decide) ?_
    show Steps p.tables e below (s₁.setTop (mkF m 11 #[.val (.int p0), .val (.int p1), .val (.int p2), .unset, .unset, .unset, .unset, .unset, .unset, .unset, .unset, .unset, .unset, .unset] [(.int (1 : Int32))])) _
    refine XS.istoreN X0.here hx rfl (hb hby at_11) rfl (l' := #[.val (.int p0), .val (.int p1), .val (.int p2), .val (.int (1 : Int32)), .unset, .unset, .unset, .unset, .unset, .unset, .unset, .unset, .unset, .unset]) rfl ?_
    show Steps p.tables e below (s₁.setTop (mkF m 12 #[.val (.int p0), .val (.int p1), .val (.int p2), .val (.int (1 : Int32)), .unset, .unset, .unset, .unset, .unset, .unset, .unset, .unset, .unset, .unset] [])) _
    refine XS.iloadN X0.here hx rfl (hb hby at_12) rfl ?_
    show Steps p.tables e below (s₁.setTop (mkF m 13 #[.val (.int p0), .val (.int p1), .val (.int p2), .val (.int (1 : Int32)), .unset, .unset, .unset, .unset, .unset, .unset, .unset, .unset, .unset, .unset] [(.int p2)])) _
    refine XS.iconst X0.here hx rfl (hb hby at_13) ?_
    show Steps p.tables e below (s₁.setTop (mkF m 14 #[.val (.int p0), .val (.int p1), .val (.int p2), .val (.int (1 : Int32)), .unset, .unset, .unset, .unset, .unset, .unset, .unset, .unset, .unset, .unset] [(.int (2 : Int32)), (.int p2)])) _
    refine XS.iand X0.here hx rfl (hb hby at_14) rfl ?_
    show Steps p.tables e below (s₁.setTop (mkF m 15 #[.val (.int p0), .val (.int p1), .val (.int p2), .val (.int (1 : Int32)), .unset, .unset, .unset, .unset, .unset, .unset, .unset, .unset, .unset, .unset] [(.int (p2 &&& (2 : Int32)))])) _
    refine XS.ifYes X0.here hx rfl (pc0 := 15) (pc' := 22) rfl (hb hby at_15) rfl ((if0 _ _).trans (teq (hB : (p2 &&& (2 : Int32)) = (0 : Int32))).1) (by decide) (by decide) ?_
    show Steps p.tables e below (s₁.setTop (mkF m 22 #[.val (.int p0), .val (.int p1), .val (.int p2), .val (.int (1 : Int32)), .unset, .unset, .unset, .unset, .unset, .unset, .unset, .unset, .unset, .unset] [])) _
    refine XS.iconst X0.here hx rfl (hb hby at_22) ?_
    show Steps p.tables e below (s₁.setTop (mkF m 23 #[.val (.int p0), .val (.int p1), .val (.int p2), .val (.int (1 : Int32)), .unset, .unset, .unset, .unset, .unset, .unset, .unset, .unset, .unset, .unset] [(.int (0 : Int32))])) _
    refine XS.istore X0.here hx rfl (hb hby at_23) rfl (l' := #[.val (.int p0), .val (.int p1), .val (.int p2), .val (.int (1 : Int32)), .val (.int (0 : Int32)), .unset, .unset, .unset, .unset, .unset, .unset, .unset, .unset, .unset]) rfl ?_
    show Steps p.tables e below (s₁.setTop (mkF m 25 #[.val (.int p0), .val (.int p1), .val (.int p2), .val (.int (1 : Int32)), .val (.int (0 : Int32)), .unset, .unset, .unset, .unset, .unset, .unset, .unset, .unset, .unset] [])) _
    refine XS.iloadN X0.here hx rfl (hb hby at_25) rfl ?_
    show Steps p.tables e below (s₁.setTop (mkF m 26 #[.val (.int p0), .val (.int p1), .val (.int p2), .val (.int (1 : Int32)), .val (.int (0 : Int32)), .unset, .unset, .unset, .unset, .unset, .unset, .unset, .unset, .unset] [(.int (1 : Int32))])) _
    refine XS.ifNo X0.here hx rfl (hb hby at_26) rfl ((if0 _ _).trans (feq ((by decide) : ¬ ((1 : Int32) = (0 : Int32)))).1) ?_
    show Steps p.tables e below (s₁.setTop (mkF m 29 #[.val (.int p0), .val (.int p1), .val (.int p2), .val (.int (1 : Int32)), .val (.int (0 : Int32)), .unset, .unset, .unset, .unset, .unset, .unset, .unset, .unset, .unset] [])) _
    refine XS.iloadN X0.here hx rfl (hb hby at_29) rfl ?_
    show Steps p.tables e below (s₁.setTop (mkF m 30 #[.val (.int p0), .val (.int p1), .val (.int p2), .val (.int (1 : Int32)), .val (.int (0 : Int32)), .unset, .unset, .unset, .unset, .unset, .unset, .unset, .unset, .unset] [(.int p0)])) _
    refine XS.i2l X0.here hx rfl (hb hby at_30) rfl ?_
    show Steps p.tables e below (s₁.setTop (mkF m 31 #[.val (.int p0), .val (.int p1), .val (.int p2), .val (.int (1 : Int32)), .val (.int (0 : Int32)), .unset, .unset, .unset, .unset, .unset, .unset, .unset, .unset, .unset] [(.long (p0.toInt64))])) _
    refine XS.lneg X0.here hx rfl (hb hby at_31) rfl ?_
    show Steps p.tables e below (s₁.setTop (mkF m 32 #[.val (.int p0), .val (.int p1), .val (.int p2), .val (.int (1 : Int32)), .val (.int (0 : Int32)), .unset, .unset, .unset, .unset, .unset, .unset, .unset, .unset, .unset] [(.long ((-(p0.toInt64))))])) _
    refine XS.goto X0.here hx rfl (pc0 := 32) (pc' := 37) rfl (hb hby at_32) (by decide) (by decide) ?_
    show Steps p.tables e below (s₁.setTop (mkF m 37 #[.val (.int p0), .val (.int p1), .val (.int p2), .val (.int (1 : Int32)), .val (.int (0 : Int32)), .unset, .unset, .unset, .unset, .unset, .unset, .unset, .unset, .unset] [(.long ((-(p0.toInt64))))])) _
    refine XS.lstore X0.here hx rfl (hb hby at_37) rfl (l' := #[.val (.int p0), .val (.int p1), .val (.int p2), .val (.int (1 : Int32)), .val (.int (0 : Int32)), .val (.long ((-(p0.toInt64)))), .second, .unset, .unset, .unset, .unset, .unset, .unset, .unset]) rfl ?_
    show Steps p.tables e below (s₁.setTop (mkF m 39 #[.val (.int p0), .val (.int p1), .val (.int p2), .val (.int (1 : Int32)), .val (.int (0 : Int32)), .val (.long ((-(p0.toInt64)))), .second, .unset, .unset, .unset, .unset, .unset, .unset, .unset] [])) _
    refine XS.iload X0.here hx rfl (hb hby at_39) rfl ?_
    show Steps p.tables e below (s₁.setTop (mkF m 41 #[.val (.int p0), .val (.int p1), .val (.int p2), .val (.int (1 : Int32)), .val (.int (0 : Int32)), .val (.long ((-(p0.toInt64)))), .second, .unset, .unset, .unset, .unset, .unset, .unset, .unset] [(.int (0 : Int32))])) _
    refine XS.ifYes X0.here hx rfl (pc0 := 41) (pc' := 50) rfl (hb hby at_41) rfl ((if0 _ _).trans (teq ((by decide) : (0 : Int32) = (0 : Int32))).1) (by decide) (by decide) ?_
    show Steps p.tables e below (s₁.setTop (mkF m 50 #[.val (.int p0), .val (.int p1), .val (.int p2), .val (.int (1 : Int32)), .val (.int (0 : Int32)), .val (.long ((-(p0.toInt64)))), .second, .unset, .unset, .unset, .unset, .unset, .unset, .unset] [])) _
    refine XS.iloadN X0.here hx rfl (hb hby at_50) rfl ?_
    show Steps p.tables e below (s₁.setTop (mkF m 51 #[.val (.int p0), .val (.int p1), .val (.int p2), .val (.int (1 : Int32)), .val (.int (0 : Int32)), .val (.long ((-(p0.toInt64)))), .second, .unset, .unset, .unset, .unset, .unset, .unset, .unset] [(.int p1)])) _
    refine XS.i2l X0.here hx rfl (hb hby at_51) rfl ?_
    show Steps p.tables e below (s₁.setTop (mkF m 52 #[.val (.int p0), .val (.int p1), .val (.int p2), .val (.int (1 : Int32)), .val (.int (0 : Int32)), .val (.long ((-(p0.toInt64)))), .second, .unset, .unset, .unset, .unset, .unset, .unset, .unset] [(.long (p1.toInt64))])) _
    refine XS.lstore X0.here hx rfl (hb hby at_52) rfl (l' := #[.val (.int p0), .val (.int p1), .val (.int p2), .val (.int (1 : Int32)), .val (.int (0 : Int32)), .val (.long ((-(p0.toInt64)))), .second, .val (.long (p1.toInt64)), .second, .unset, .unset, .unset, .unset, .unset]) rfl ?_
    show Steps p.tables e below (s₁.setTop (mkF m 54 #[.val (.int p0), .val (.int p1), .val (.int p2), .val (.int (1 : Int32)), .val (.int (0 : Int32)), .val (.long ((-(p0.toInt64)))), .second, .val (.long (p1.toInt64)), .second, .unset, .unset, .unset, .unset, .unset] [])) _
    refine XS.iloadN X0.here hx rfl (hb hby at_54) rfl ?_
    show Steps p.tables e below (s₁.setTop (mkF m 55 #[.val (.int p0), .val (.int p1), .val (.int p2), .val (.int (1 : Int32)), .val (.int (0 : Int32)), .val (.long ((-(p0.toInt64)))), .second, .val (.long (p1.toInt64)), .second, .unset, .unset, .unset, .unset, .unset] [(.int (1 : Int32))])) _
    refine XS.ifNo X0.here hx rfl (hb hby at_55) rfl ((if0 _ _).trans (feq ((by decide) : ¬ ((1 : Int32) = (0 : Int32)))).1) ?_
    show Steps p.tables e below (s₁.setTop (mkF m 58 #[.val (.int p0), .val (.int p1), .val (.int p2), .val (.int (1 : Int32)), .val (.int (0 : Int32)), .val (.long ((-(p0.toInt64)))), .second, .val (.long (p1.toInt64)), .second, .unset, .unset, .unset, .unset, .unset] [])) _
    refine XS.iloadN X0.here hx rfl (hb hby at_58) rfl ?_
    show Steps p.tables e below (s₁.setTop (mkF m 59 #[.val (.int p0), .val (.int p1), .val (.int p2), .val (.int (1 : Int32)), .val (.int (0 : Int32)), .val (.long ((-(p0.toInt64)))), .second, .val (.long (p1.toInt64)), .second, .unset, .unset, .unset, .unset, .unset] [(.int p0)])) _
    refine XS.i2dS X0.here hx rfl (hb hby at_59) rfl rfl ?_
    show Steps p.tables e below (s₁.setTop (mkF m 60 #[.val (.int p0), .val (.int p1), .val (.int p2), .val (.int (1 : Int32)), .val (.int (0 : Int32)), .val (.long ((-(p0.toInt64)))), .second, .val (.long (p1.toInt64)), .second, .unset, .unset, .unset, .unset, .unset] [(.double (FP.i2d p0))])) _
    refine XS.dnegS X0.here hx rfl (hb hby at_60) rfl rfl ?_
    show Steps p.tables e below (s₁.setTop (mkF m 61 #[.val (.int p0), .val (.int p1), .val (.int p2), .val (.int (1 : Int32)), .val (.int (0 : Int32)), .val (.long ((-(p0.toInt64)))), .second, .val (.long (p1.toInt64)), .second, .unset, .unset, .unset, .unset, .unset] [(.double (FP.dneg (FP.i2d p0)))])) _
    refine XS.goto X0.here hx rfl (pc0 := 61) (pc' := 66) rfl (hb hby at_61) (by decide) (by decide) ?_
    show Steps p.tables e below (s₁.setTop (mkF m 66 #[.val (.int p0), .val (.int p1), .val (.int p2), .val (.int (1 : Int32)), .val (.int (0 : Int32)), .val (.long ((-(p0.toInt64)))), .second, .val (.long (p1.toInt64)), .second, .unset, .unset, .unset, .unset, .unset] [(.double (FP.dneg (FP.i2d p0)))])) _
    refine XS.dstore X0.here hx rfl (hb hby at_66) rfl (l' := #[.val (.int p0), .val (.int p1), .val (.int p2), .val (.int (1 : Int32)), .val (.int (0 : Int32)), .val (.long ((-(p0.toInt64)))), .second, .val (.long (p1.toInt64)), .second, .val (.double (FP.dneg (FP.i2d p0))), .second, .unset, .unset, .unset]) rfl ?_
    show Steps p.tables e below (s₁.setTop (mkF m 68 #[.val (.int p0), .val (.int p1), .val (.int p2), .val (.int (1 : Int32)), .val (.int (0 : Int32)), .val (.long ((-(p0.toInt64)))), .second, .val (.long (p1.toInt64)), .second, .val (.double (FP.dneg (FP.i2d p0))), .second, .unset, .unset, .unset] [])) _
    refine XS.iload X0.here hx rfl (hb hby at_68) rfl ?_
    show Steps p.tables e below (s₁.setTop (mkF m 70 #[.val (.int p0), .val (.int p1), .val (.int p2), .val (.int (1 : Int32)), .val (.int (0 : Int32)), .val (.long ((-(p0.toInt64)))), .second, .val (.long (p1.toInt64)), .second, .val (.double (FP.dneg (FP.i2d p0))), .second, .unset, .unset, .unset] [(.int (0 : Int32))])) _
    refine XS.ifYes X0.here hx rfl (pc0 := 70) (pc' := 79) rfl (hb hby at_70) rfl ((if0 _ _).trans (teq ((by decide) : (0 : Int32) = (0 : Int32))).1) (by decide) (by decide) ?_
    show Steps p.tables e below (s₁.setTop (mkF m 79 #[.val (.int p0), .val (.int p1), .val (.int p2), .val (.int (1 : Int32)), .val (.int (0 : Int32)), .val (.long ((-(p0.toInt64)))), .second, .val (.long (p1.toInt64)), .second, .val (.double (FP.dneg (FP.i2d p0))), .second, .unset, .unset, .unset] [])) _
    refine XS.iloadN X0.here hx rfl (hb hby at_79) rfl ?_
    show Steps p.tables e below (s₁.setTop (mkF m 80 #[.val (.int p0), .val (.int p1), .val (.int p2), .val (.int (1 : Int32)), .val (.int (0 : Int32)), .val (.long ((-(p0.toInt64)))), .second, .val (.long (p1.toInt64)), .second, .val (.double (FP.dneg (FP.i2d p0))), .second, .unset, .unset, .unset] [(.int p1)])) _
    refine XS.i2dS X0.here hx rfl (hb hby at_80) rfl rfl ?_
    show Steps p.tables e below (s₁.setTop (mkF m 81 #[.val (.int p0), .val (.int p1), .val (.int p2), .val (.int (1 : Int32)), .val (.int (0 : Int32)), .val (.long ((-(p0.toInt64)))), .second, .val (.long (p1.toInt64)), .second, .val (.double (FP.dneg (FP.i2d p0))), .second, .unset, .unset, .unset] [(.double (FP.i2d p1))])) _
    refine XS.dstore X0.here hx rfl (hb hby at_81) rfl (l' := #[.val (.int p0), .val (.int p1), .val (.int p2), .val (.int (1 : Int32)), .val (.int (0 : Int32)), .val (.long ((-(p0.toInt64)))), .second, .val (.long (p1.toInt64)), .second, .val (.double (FP.dneg (FP.i2d p0))), .second, .val (.double (FP.i2d p1)), .second, .unset]) rfl ?_
    show Steps p.tables e below (s₁.setTop (mkF m 83 #[.val (.int p0), .val (.int p1), .val (.int p2), .val (.int (1 : Int32)), .val (.int (0 : Int32)), .val (.long ((-(p0.toInt64)))), .second, .val (.long (p1.toInt64)), .second, .val (.double (FP.dneg (FP.i2d p0))), .second, .val (.double (FP.i2d p1)), .second, .unset] [])) _
    refine XS.lload X0.here hx rfl (hb hby at_83) rfl ?_
    show Steps p.tables e below (s₁.setTop (mkF m 85 #[.val (.int p0), .val (.int p1), .val (.int p2), .val (.int (1 : Int32)), .val (.int (0 : Int32)), .val (.long ((-(p0.toInt64)))), .second, .val (.long (p1.toInt64)), .second, .val (.double (FP.dneg (FP.i2d p0))), .second, .val (.double (FP.i2d p1)), .second, .unset] [(.long ((-(p0.toInt64))))])) _
    refine XS.lload X0.here hx rfl (hb hby at_85) rfl ?_
    show Steps p.tables e below (s₁.setTop (mkF m 87 #[.val (.int p0), .val (.int p1), .val (.int p2), .val (.int (1 : Int32)), .val (.int (0 : Int32)), .val (.long ((-(p0.toInt64)))), .second, .val (.long (p1.toInt64)), .second, .val (.double (FP.dneg (FP.i2d p0))), .second, .val (.double (FP.i2d p1)), .second, .unset] [(.long (p1.toInt64)), (.long ((-(p0.toInt64))))])) _
    refine XS.lcmp X0.here hx rfl (hb hby at_87) rfl ?_
    show Steps p.tables e below (s₁.setTop (mkF m 88 #[.val (.int p0), .val (.int p1), .val (.int p2), .val (.int (1 : Int32)), .val (.int (0 : Int32)), .val (.long ((-(p0.toInt64)))), .second, .val (.long (p1.toInt64)), .second, .val (.double (FP.dneg (FP.i2d p0))), .second, .val (.double (FP.i2d p1)), .second, .unset] [(.int (lcmpW ((-(p0.toInt64))) (p1.toInt64)))])) _
    rw [hL]
    show Steps p.tables e below (s₁.setTop (mkF m 88 #[.val (.int p0), .val (.int p1), .val (.int p2), .val (.int (1 : Int32)), .val (.int (0 : Int32)), .val (.long ((-(p0.toInt64)))), .second, .val (.long (p1.toInt64)), .second, .val (.double (FP.dneg (FP.i2d p0))), .second, .val (.double (FP.i2d p1)), .second, .unset] [(.int (0 : Int32))])) _
    refine XS.ifYes X0.here hx rfl (pc0 := 88) (pc' := 99) rfl (hb hby at_88) rfl ((if0 _ _).trans (flt ((by decide) : ¬ ((0 : Int32) < (0 : Int32)))).2.1) (by decide) (by decide) ?_
    show Steps p.tables e below (s₁.setTop (mkF m 99 #[.val (.int p0), .val (.int p1), .val (.int p2), .val (.int (1 : Int32)), .val (.int (0 : Int32)), .val (.long ((-(p0.toInt64)))), .second, .val (.long (p1.toInt64)), .second, .val (.double (FP.dneg (FP.i2d p0))), .second, .val (.double (FP.i2d p1)), .second, .unset] [])) _
    refine XS.lload X0.here hx rfl (hb hby at_99) rfl ?_
    show Steps p.tables e below (s₁.setTop (mkF m 101 #[.val (.int p0), .val (.int p1), .val (.int p2), .val (.int (1 : Int32)), .val (.int (0 : Int32)), .val (.long ((-(p0.toInt64)))), .second, .val (.long (p1.toInt64)), .second, .val (.double (FP.dneg (FP.i2d p0))), .second, .val (.double (FP.i2d p1)), .second, .unset] [(.long ((-(p0.toInt64))))])) _
    refine XS.lload X0.here hx rfl (hb hby at_101) rfl ?_
    show Steps p.tables e below (s₁.setTop (mkF m 103 #[.val (.int p0), .val (.int p1), .val (.int p2), .val (.int (1 : Int32)), .val (.int (0 : Int32)), .val (.long ((-(p0.toInt64)))), .second, .val (.long (p1.toInt64)), .second, .val (.double (FP.dneg (FP.i2d p0))), .second, .val (.double (FP.i2d p1)), .second, .unset] [(.long (p1.toInt64)), (.long ((-(p0.toInt64))))])) _
    refine XS.lcmp X0.here hx rfl (hb hby at_103) rfl ?_
    show Steps p.tables e below (s₁.setTop (mkF m 104 #[.val (.int p0), .val (.int p1), .val (.int p2), .val (.int (1 : Int32)), .val (.int (0 : Int32)), .val (.long ((-(p0.toInt64)))), .second, .val (.long (p1.toInt64)), .second, .val (.double (FP.dneg (FP.i2d p0))), .second, .val (.double (FP.i2d p1)), .second, .unset] [(.int (lcmpW ((-(p0.toInt64))) (p1.toInt64)))])) _
    rw [hL]
    show Steps p.tables e below (s₁.setTop (mkF m 104 #[.val (.int p0), .val (.int p1), .val (.int p2), .val (.int (1 : Int32)), .val (.int (0 : Int32)), .val (.long ((-(p0.toInt64)))), .second, .val (.long (p1.toInt64)), .second, .val (.double (FP.dneg (FP.i2d p0))), .second, .val (.double (FP.i2d p1)), .second, .unset] [(.int (0 : Int32))])) _
    refine XS.ifYes X0.here hx rfl (pc0 := 104) (pc' := 115) rfl (hb hby at_104) rfl ((if0 _ _).trans (flt ((by decide) : ¬ ((0 : Int32) < (0 : Int32)))).2.2.2) (by decide) (by decide) ?_
    show Steps p.tables e below (s₁.setTop (mkF m 115 #[.val (.int p0), .val (.int p1), .val (.int p2), .val (.int (1 : Int32)), .val (.int (0 : Int32)), .val (.long ((-(p0.toInt64)))), .second, .val (.long (p1.toInt64)), .second, .val (.double (FP.dneg (FP.i2d p0))), .second, .val (.double (FP.i2d p1)), .second, .unset] [])) _
    refine st1 _ ?_
    show Steps p.tables e below (T1.setTop (mkF m 118 #[.val (.int p0), .val (.int p1), .val (.int p2), .val (.int (1 : Int32)), .val (.int (0 : Int32)), .val (.long ((-(p0.toInt64)))), .second, .val (.long (p1.toInt64)), .second, .val (.double (FP.dneg (FP.i2d p0))), .second, .val (.double (FP.i2d p1)), .second, .unset] [(.ref w2)])) _
    refine XS.astore X1.here hx rfl (hb hby at_118) rfl rfl (l' := #[.val (.int p0), .val (.int p1), .val (.int p2), .val (.int (1 : Int32)), .val (.int (0 : Int32)), .val (.long ((-(p0.toInt64)))), .second, .val (.long (p1.toInt64)), .second, .val (.double (FP.dneg (FP.i2d p0))), .second, .val (.double (FP.i2d p1)), .second, .val (.ref w2)]) rfl ?_
    show Steps p.tables e below (T1.setTop (mkF m 120 #[.val (.int p0), .val (.int p1), .val (.int p2), .val (.int (1 : Int32)), .val (.int (0 : Int32)), .val (.long ((-(p0.toInt64)))), .second, .val (.long (p1.toInt64)), .second, .val (.double (FP.dneg (FP.i2d p0))), .second, .val (.double (FP.i2d p1)), .second, .val (.ref w2)] [])) _
    refine XS.dload X1.here hx rfl (hb hby at_120) rfl ?_
    show Steps p.tables e below (T1.setTop (mkF m 122 #[.val (.int p0), .val (.int p1), .val (.int p2), .val (.int (1 : Int32)), .val (.int (0 : Int32)), .val (.long ((-(p0.toInt64)))), .second, .val (.long (p1.toInt64)), .second, .val (.double (FP.dneg (FP.i2d p0))), .second, .val (.double (FP.i2d p1)), .second, .val (.ref w2)] [(.double (FP.dneg (FP.i2d p0)))])) _
    refine XS.dload X1.here hx rfl (hb hby at_122) rfl ?_
    show Steps p.tables e below (T1.setTop (mkF m 124 #[.val (.int p0), .val (.int p1), .val (.int p2), .val (.int (1 : Int32)), .val (.int (0 : Int32)), .val (.long ((-(p0.toInt64)))), .second, .val (.long (p1.toInt64)), .second, .val (.double (FP.dneg (FP.i2d p0))), .second, .val (.double (FP.i2d p1)), .second, .val (.ref w2)] [(.double (FP.i2d p1)), (.double (FP.dneg (FP.i2d p0)))])) _
    refine st2 _ ?_
    show Steps p.tables e below (T2.setTop (mkF m 127 #[.val (.int p0), .val (.int p1), .val (.int p2), .val (.int (1 : Int32)), .val (.int (0 : Int32)), .val (.long ((-(p0.toInt64)))), .second, .val (.long (p1.toInt64)), .second, .val (.double (FP.dneg (FP.i2d p0))), .second, .val (.double (FP.i2d p1)), .second, .val (.ref w2)] [(.ref w2)])) _
    refine XS.aload X2.here hx rfl (hb hby at_127) rfl rfl ?_
    show Steps p.tables e below (T2.setTop (mkF m 129 #[.val (.int p0), .val (.int p1), .val (.int p2), .val (.int (1 : Int32)), .val (.int (0 : Int32)), .val (.long ((-(p0.toInt64)))), .second, .val (.long (p1.toInt64)), .second, .val (.double (FP.dneg (FP.i2d p0))), .second, .val (.double (FP.i2d p1)), .second, .val (.ref w2)] [(.ref w2), (.ref w2)])) _
    refine Jvm.RoadKit.acmp (g := (mkF m 129 #[.val (.int p0), .val (.int p1), .val (.int p2), .val (.int (1 : Int32)), .val (.int (0 : Int32)), .val (.long ((-(p0.toInt64)))), .second, .val (.long (p1.toInt64)), .second, .val (.double (FP.dneg (FP.i2d p0))), .second, .val (.double (FP.i2d p1)), .second, .val (.ref w2)] [(.ref w2), (.ref w2)])) X2 hx rfl rfl rfl (pc0 := 129) (pc' := 132) (same := true) rfl (hb hby at_129) rfl (decide_eq_true rfl) (by decide) (by decide) ?_
    show Steps p.tables e below (T2.setTop (mkF m 132 #[.val (.int p0), .val (.int p1), .val (.int p2), .val (.int (1 : Int32)), .val (.int (0 : Int32)), .val (.long ((-(p0.toInt64)))), .second, .val (.long (p1.toInt64)), .second, .val (.double (FP.dneg (FP.i2d p0))), .second, .val (.double (FP.i2d p1)), .second, .val (.ref w2)] [])) _
    refine XS.iconst X2.here hx rfl (hb hby at_132) ?_
    show Steps p.tables e below (T2.setTop (mkF m 133 #[.val (.int p0), .val (.int p1), .val (.int p2), .val (.int (1 : Int32)), .val (.int (0 : Int32)), .val (.long ((-(p0.toInt64)))), .second, .val (.long (p1.toInt64)), .second, .val (.double (FP.dneg (FP.i2d p0))), .second, .val (.double (FP.i2d p1)), .second, .val (.ref w2)] [(.int (1 : Int32))])) _
    refine XS.goto X2.here hx rfl (pc0 := 133) (pc' := 137) rfl (hb hby at_133) (by decide) (by decide) ?_
    show Steps p.tables e below (T2.setTop (mkF m 137 #[.val (.int p0), .val (.int p1), .val (.int p2), .val (.int (1 : Int32)), .val (.int (0 : Int32)), .val (.long ((-(p0.toInt64)))), .second, .val (.long (p1.toInt64)), .second, .val (.double (FP.dneg (FP.i2d p0))), .second, .val (.double (FP.i2d p1)), .second, .val (.ref w2)] [(.int (1 : Int32))])) _
    exact retN X2 hx (t := .boolean) Bd.returns (by simp) (hb hby at_137) hr
  · exact ⟨rfl, N2, e2⟩
set_option maxRecDepth 65536 in
set_option maxHeartbeats 40000000 in
theorem rm_1_0_2 (l : Launch) (Z : State) (a0 : Array Value) (hw : ∀ d ∈ tables_1, d.before a0 Z = true) (ws : List Jvm.Cond) (x0 x1 : UInt64) (w0 : Addr) (w1 : Addr) (w2 : Addr) (h0 : Heap) (n0 : Nat) (O : Old Z n0 h0) (hG : GG Z w0 w1 w2) (hD : ∀ o, cmpValue (FP.dcmp x0 x1) o = (1 : Int32)) :
    MetFree l (⟨"com/example/fieldward/fieldward/validation/OrderedKind$Order", "of", "(DD)Lcom/example/fieldward/fieldward/validation/OrderedKind$Order;"⟩ : MethodName) (head1 (Jvm.Cond.code (⟨"com/example/fieldward/fieldward/validation/OrderedKind$Order", "of", "(DD)Lcom/example/fieldward/fieldward/validation/OrderedKind$Order;"⟩ : MethodName) prog_15_method_5_code 5 (some (.object "com/example/fieldward/fieldward/validation/OrderedKind$Order")) :: ws) ({ frames := 0, cells := 0, slots := 0, locals := 0 } : Room)) (fun a U => a = #[(.double x0), (.double x1)] ∧ Z.Warmed39 U.vm ∧ U.heap = h0) (fun _ _ _ _ _ => True) (fun _ U o U' => ∃ v L, o = .returned v ∧ Qv (some (.ref w0)) h0 n0 v U'.heap L ∧ FrameEnd U o U' L ({ frames := 0, cells := 0, slots := 0, locals := 0 } : Room).cells ({ frames := 0, cells := 0, slots := 0, locals := 0 } : Room).slots) := by
  refine MetFree.of_bodySF (plainFor_of_name pn_com_example_fieldward_fieldward_validation_OrderedKind_Order) hisR ?_
  intro p e s m args below meth c s₁ Bd hml0 hP hK
  obtain ⟨rfl, hZ, hh⟩ := hP
  have hx := Bd.exec
  have hby := Bd.bytes
  have hml : c.maxLocals = 5 := hml0
  have hown : s.vm.findClass "com/example/fieldward/fieldward/validation/OrderedKind$Order" = some m.cls := findClass_of_methodNamed Bd.named
  have hnm := (name_of_methodNamed Bd.named Bd.method).1
  have X0 : Stand p l e ({ frames := 0, cells := 0, slots := 0, locals := 0 } : Room) s m #[(.double x0), (.double x1)] below meth c s₁ [] 0 0 := Stand.of_body Bd
  have e0 : s₁.heap = h0 := by rw [← hh, Bd.state]; rfl
  have N0 := Fr.nil n0
  have pre0 : ∀ t, Steps p.tables e below (s₁.setTop (mkF m 0 #[.val (.double x0), .second, .val (.double x1), .second, .unset] [])) t → Steps p.tables e below (s₁.setTop (entryFrame m #[(.double x0), (.double x1)] 5)) t := fun t k => castTop (ef_5_DD m x0 x1) k
  obtain ⟨Sw0, Sw1, Sw2, Ew0, Ew1, Ew2⟩ := id hG
  obtain ⟨T1, X1, e1, st1⟩ := getS2 X0 hx hZ hown (host := "") (Or.inl (hw _ (List.mem_of_getElem? (i := 6) rfl))) Via.refl e0 (Sw0.ext O.2) (g := (mkF m 20 #[.val (.double x0), .second, .val (.double x1), .second, .unset] [])) rfl (hb hby d1_20)
  obtain ⟨fs, hr, hrun, hended, hW, hsame⟩ := X1.leave (v := some (.ref w0)) (fun h => by rw [Bd.returns] at h; cases h)
  refine ⟨_, _, pre0 _ ?_, hrun, hended, _, _, rfl, ?_, ⟨_, rfl⟩, hW, hsame.mono (by decide) (by decide)⟩
  · show Steps p.tables e below (s₁.setTop (mkF m 0 #[.val (.double x0), .second, .val (.double x1), .second, .unset] [])) _
    refine XS.dloadN X0.here hx rfl (hb hby d1_0) rfl ?_
    show Steps p.tables e below (s₁.setTop (mkF m 1 #[.val (.double x0), .second, .val (.double x1), .second, .unset] [(.double x0)])) _
    refine XS.dloadN X0.here hx rfl (hb hby d1_1) rfl ?_
    show Steps p.tables e below (s₁.setTop (mkF m 2 #[.val (.double x0), .second, .val (.double x1), .second, .unset] [(.double x1), (.double x0)])) _
    refine XS.dcmpS X0.here hx rfl (hb hby d1_2) rfl rfl ?_
    show Steps p.tables e below (s₁.setTop (mkF m 3 #[.val (.double x0), .second, .val (.double x1), .second, .unset] [(.int (cmpValue (FP.dcmp x0 x1) .g))])) _
    rw [hD]
    show Steps p.tables e below (s₁.setTop (mkF m 3 #[.val (.double x0), .second, .val (.double x1), .second, .unset] [(.int (1 : Int32))])) _
    refine XS.ifYes X0.here hx rfl (pc0 := 3) (pc' := 14) rfl (hb hby d1_3) rfl ((if0 _ _).trans (flt ((by decide) : ¬ ((1 : Int32) < (0 : Int32)))).2.1) (by decide) (by decide) ?_
    show Steps p.tables e below (s₁.setTop (mkF m 14 #[.val (.double x0), .second, .val (.double x1), .second, .unset] [])) _
    refine XS.dloadN X0.here hx rfl (hb hby d1_14) rfl ?_
    show Steps p.tables e below (s₁.setTop (mkF m 15 #[.val (.double x0), .second, .val (.double x1), .second, .unset] [(.double x0)])) _
    refine XS.dloadN X0.here hx rfl (hb hby d1_15) rfl ?_
    show Steps p.tables e below (s₁.setTop (mkF m 16 #[.val (.double x0), .second, .val (.double x1), .second, .unset] [(.double x1), (.double x0)])) _
    refine XS.dcmpS X0.here hx rfl (hb hby d1_16) rfl rfl ?_
    show Steps p.tables e below (s₁.setTop (mkF m 17 #[.val (.double x0), .second, .val (.double x1), .second, .unset] [(.int (cmpValue (FP.dcmp x0 x1) .l))])) _
    rw [hD]
    show Steps p.tables e below (s₁.setTop (mkF m 17 #[.val (.double x0), .second, .val (.double x1), .second, .unset] [(.int (1 : Int32))])) _
    refine XS.ifNo X0.here hx rfl (hb hby d1_17) rfl ((if0 _ _).trans (tlt ((by decide) : (0 : Int32) < (1 : Int32))).2.2.2) ?_
    show Steps p.tables e below (s₁.setTop (mkF m 20 #[.val (.double x0), .second, .val (.double x1), .second, .unset] [])) _
    refine st1 _ ?_
    show Steps p.tables e below (T1.setTop (mkF m 23 #[.val (.double x0), .second, .val (.double x1), .second, .unset] [(.ref w0)])) _
    refine XS.astore X1.here hx rfl (hb hby d1_23) rfl rfl (l' := #[.val (.double x0), .second, .val (.double x1), .second, .val (.ref w0)]) rfl ?_
    show Steps p.tables e below (T1.setTop (mkF m 25 #[.val (.double x0), .second, .val (.double x1), .second, .val (.ref w0)] [])) _
    refine XS.goto X1.here hx rfl (pc0 := 25) (pc' := 47) rfl (hb hby d1_25) (by decide) (by decide) ?_
    show Steps p.tables e below (T1.setTop (mkF m 47 #[.val (.double x0), .second, .val (.double x1), .second, .val (.ref w0)] [])) _
    refine XS.aload X1.here hx rfl (hb hby d1_47) rfl rfl ?_
    show Steps p.tables e below (T1.setTop (mkF m 49 #[.val (.double x0), .second, .val (.double x1), .second, .val (.ref w0)] [(.ref w0)])) _
    exact retOut X1 hx Bd.returns rfl (Or.inr (Or.inr (Or.inr (Or.inr ⟨rfl, rfl, rfl⟩)))) (hb hby d1_49) hr
  · exact ⟨rfl, N0, e1⟩
set_option maxRecDepth 65536 in
set_option maxHeartbeats 40000000 in
theorem rl_1_0_2 (l : Launch) (Z : State) (a0 : Array Value) (hw : ∀ d ∈ tables_1, d.before a0 Z = true) (ws : List Jvm.Cond) (p0 p1 p2 : Int32) (w0 : Addr) (w1 : Addr) (w2 : Addr) (h0 : Heap) (n0 : Nat) (O : Old Z n0 h0) (hG : GG Z w0 w1 w2) (hA : p2 &&& (1 : Int32) = (1 : Int32)) (hB : p2 &&& (2 : Int32) = (0 : Int32)) (hL : lcmpW (-(p0.toInt64)) (p1.toInt64) = (1 : Int32)) (hD : ∀ o, cmpValue (FP.dcmp (FP.dneg (FP.i2d p0)) (FP.i2d p1)) o = (1 : Int32)) :
    MetFree l x (head1 (Jvm.Cond.code x code maxLocals ret :: ws) room_1) (fun a U => a = #[(.int p0), (.int p1), (.int p2)] ∧ Z.Warmed39 U.vm ∧ U.heap = h0) (fun _ _ _ _ _ => True) (fun _ U o U' => ∃ v L, o = .returned v ∧ Qv (some (.int (1 : Int32))) h0 n0 v U'.heap L ∧ FrameEnd U o U' L 0 0) := by
  refine MetFree.of_bodySF (plainFor_of_name pn_com_example_fieldward_fieldward_validation_OrderOfPinLaw) hisR ?_
  intro p e s m args below meth c s₁ Bd hml0 hP hK
  obtain ⟨rfl, hZ, hh⟩ := hP
  have hx := Bd.exec
  have hby := Bd.bytes
  have hml : c.maxLocals = 14 := hml0
  have hown : s.vm.findClass "com/example/fieldward/fieldward/validation/OrderOfPinLaw" = some m.cls := findClass_of_methodNamed Bd.named
  have hnm := (name_of_methodNamed Bd.named Bd.method).1
  have X0 : Stand p l e room_1 s m #[(.int p0), (.int p1), (.int p2)] below meth c s₁ [] 0 0 := Stand.of_body Bd
  have e0 : s₁.heap = h0 := by rw [← hh, Bd.state]; rfl
  have N0 := Fr.nil n0
  have pre0 : ∀ t, Steps p.tables e below (s₁.setTop (mkF m 0 #[.val (.int p0), .val (.int p1), .val (.int p2), .unset, .unset, .unset, .unset, .unset, .unset, .unset, .unset, .unset, .unset, .unset] [])) t → Steps p.tables e below (s₁.setTop (entryFrame m #[(.int p0), (.int p1), (.int p2)] maxLocals)) t := fun t k => castTop (ef_maxLocals_III m p0 p1 p2) k
  obtain ⟨Sw0, Sw1, Sw2, Ew0, Ew1, Ew2⟩ := id hG
  obtain ⟨T1, X1, e1, st1⟩ := getS2 X0 hx hZ hown (host := "") (Or.inl (hw _ (List.mem_of_getElem? (i := 0) rfl))) Via.refl e0 (Sw0.ext O.2) (g := (mkF m 107 #[.val (.int p0), .val (.int p1), .val (.int p2), .val (.int (1 : Int32)), .val (.int (0 : Int32)), .val (.long ((-(p0.toInt64)))), .second, .val (.long (p1.toInt64)), .second, .val (.double (FP.dneg (FP.i2d p0))), .second, .val (.double (FP.i2d p1)), .second, .unset] [])) rfl (hb hby at_107)
  obtain ⟨_, _, ⟨T2, L2, k2, n2⟩, -, X2, ⟨Lc2, hQ2, l2, y2, z2⟩, st2⟩ := Jvm.LawKit.callS X1 hx (y := (⟨"com/example/fieldward/fieldward/validation/OrderedKind$Order", "of", "(DD)Lcom/example/fieldward/fieldward/validation/OrderedKind$Order;"⟩ : MethodName)) hown (mvT hZ (hw _ (List.mem_of_getElem? (i := 3) rfl))) (mvT hZ (hw _ (List.mem_of_getElem? (i := 4) rfl))) (mvT hZ (hw _ (List.mem_of_getElem? (i := 1) rfl))) (mvT hZ (hw _ (List.mem_of_getElem? (i := 5) rfl))) (by decide) (backOf (W := 0) (rm_1_0_2 l Z a0 hw [] (FP.dneg (FP.i2d p0)) (FP.i2d p1) w0 w1 w2 h0 n0 O hG hD) hZ (hw _ (List.mem_of_getElem? (i := 5) rfl)) (hw _ (List.mem_of_getElem? (i := 1) rfl)) (by decide) (by decide)) (g := (mkF m 124 #[.val (.int p0), .val (.int p1), .val (.int p2), .val (.int (1 : Int32)), .val (.int (0 : Int32)), .val (.long ((-(p0.toInt64)))), .second, .val (.long (p1.toInt64)), .second, .val (.double (FP.dneg (FP.i2d p0))), .second, .val (.double (FP.i2d p1)), .second, .val (.ref w0)] [(.double (FP.i2d p1)), (.double (FP.dneg (FP.i2d p0)))])) rfl (by rw [hml]; rfl) (argsL := [(.double (FP.dneg (FP.i2d p0))), (.double (FP.i2d p1))]) (rest := []) (lenOf pd_28DD29Lcom2fexample2ffieldward2ffieldward2fvalidation2fOrderedKind24Order3b rfl) rfl (by show 2 * 0 + _ ≤ _; exact Nat.le_of_eq rfl) (hb hby at_124) (fun _ _ => ⟨rfl, e1, (by decide : 0 + 0 ≤ _), (by decide : 0 + 0 ≤ _)⟩)
  dsimp only [Pt.U, Pt.locs, Pt.cells, Pt.slots] at X2 l2 y2 z2 st2 hQ2
  subst l2 y2 z2
  obtain ⟨rfl, N2q, e2⟩ := hQ2
  have N2 := Fr.app N0 N2q
  obtain ⟨fs, hr, hrun, hended, hW, hsame⟩ := X2.leave (v := some (.int (1 : Int32))) (fun h => by rw [Bd.returns] at h; cases h)
  refine ⟨_, _, pre0 _ ?_, hrun, hended, _, _, rfl, ?_, ⟨_, rfl⟩, hW, hsame.mono (by decide) (by decide)⟩
  · show Steps p.tables e below (s₁.setTop (mkF m 0 #[.val (.int p0), .val (.int p1), .val (.int p2), .unset, .unset, .unset, .unset, .unset, .unset, .unset, .unset, .unset, .unset, .unset] [])) _
    refine XS.iloadN X0.here hx rfl (hb hby at_0) rfl ?_
    show Steps p.tables e below (s₁.setTop (mkF m 1 #[.val (.int p0), .val (.int p1), .val (.int p2), .unset, .unset, .unset, .unset, .unset, .unset, .unset, .unset, .unset, .unset, .unset] [(.int p2)])) _
    refine XS.iconst X0.here hx rfl (hb hby at_1) ?_
    show Steps p.tables e below (s₁.setTop (mkF m 2 #[.val (.int p0), .val (.int p1), .val (.int p2), .unset, .unset, .unset, .unset, .unset, .unset, .unset, .unset, .unset, .unset, .unset] [(.int (1 : Int32)), (.int p2)])) _
    refine XS.iand X0.here hx rfl (hb hby at_2) rfl ?_
    show Steps p.tables e below (s₁.setTop (mkF m 3 #[.val (.int p0), .val (.int p1), .val (.int p2), .unset, .unset, .unset, .unset, .unset, .unset, .unset, .unset, .unset, .unset, .unset] [(.int (p2 &&& (1 : Int32)))])) _
    rw [hA]
    show Steps p.tables e below (s₁.setTop (mkF m 3 #[.val (.int p0), .val (.int p1), .val (.int p2), .unset, .unset, .unset, .unset, .unset, .unset, .unset, .unset, .unset, .unset, .unset] [(.int (1 : Int32))])) _
    refine XS.ifNo X0.here hx rfl (hb hby at_3) rfl ((if0 _ _).trans (feq ((by decide) : ¬ ((1 : Int32) = (0 : Int32)))).1) ?_
    show Steps p.tables e below (s₁.setTop (mkF m 6 #[.val (.int p0), .val (.int p1), .val (.int p2), .unset, .unset, .unset, .unset, .unset, .unset, .unset, .unset, .unset, .unset, .unset] [])) _
    refine XS.iconst X0.here hx rfl (hb hby at_6) ?_
    show Steps p.tables e below (s₁.setTop (mkF m 7 #[.val (.int p0), .val (.int p1), .val (.int p2), .unset, .unset, .unset, .unset, .unset, .unset, .unset, .unset, .unset, .unset, .unset] [(.int (1 : Int32))])) _
    refine XS.goto X0.here hx rfl (pc0 := 7) (pc' := 11) rfl (hb hby at_7) (by decide) (by decide) ?_
    show Steps p.tables e below (s₁.setTop (mkF m 11 #[.val (.int p0), .val (.int p1), .val (.int p2), .unset, .unset, .unset, .unset, .unset, .unset, .unset, .unset, .unset, .unset, .unset] [(.int (1 : Int32))])) _
    refine XS.istoreN X0.here hx rfl (hb hby at_11) rfl (l' := #[.val (.int p0), .val (.int p1), .val (.int p2), .val (.int (1 : Int32)), .unset, .unset, .unset, .unset, .unset, .unset, .unset, .unset, .unset, .unset]) rfl ?_
    show Steps p.tables e below (s₁.setTop (mkF m 12 #[.val (.int p0), .val (.int p1), .val (.int p2), .val (.int (1 : Int32)), .unset, .unset, .unset, .unset, .unset, .unset, .unset, .unset, .unset, .unset] [])) _
    refine XS.iloadN X0.here hx rfl (hb hby at_12) rfl ?_
    show Steps p.tables e below (s₁.setTop (mkF m 13 #[.val (.int p0), .val (.int p1), .val (.int p2), .val (.int (1 : Int32)), .unset, .unset, .unset, .unset, .unset, .unset, .unset, .unset, .unset, .unset] [(.int p2)])) _
    refine XS.iconst X0.here hx rfl (hb hby at_13) ?_
    show Steps p.tables e below (s₁.setTop (mkF m 14 #[.val (.int p0), .val (.int p1), .val (.int p2), .val (.int (1 : Int32)), .unset, .unset, .unset, .unset, .unset, .unset, .unset, .unset, .unset, .unset] [(.int (2 : Int32)), (.int p2)])) _
    refine XS.iand X0.here hx rfl (hb hby at_14) rfl ?_
    show Steps p.tables e below (s₁.setTop (mkF m 15 #[.val (.int p0), .val (.int p1), .val (.int p2), .val (.int (1 : Int32)), .unset, .unset, .unset, .unset, .unset, .unset, .unset, .unset, .unset, .unset] [(.int (p2 &&& (2 : Int32)))])) _
    refine XS.ifYes X0.here hx rfl (pc0 := 15) (pc' := 22) rfl (hb hby at_15) rfl ((if0 _ _).trans (teq (hB : (p2 &&& (2 : Int32)) = (0 : Int32))).1) (by decide) (by decide) ?_
    show Steps p.tables e below (s₁.setTop (mkF m 22 #[.val (.int p0), .val (.int p1), .val (.int p2), .val (.int (1 : Int32)), .unset, .unset, .unset, .unset, .unset, .unset, .unset, .unset, .unset, .unset] [])) _
    refine XS.iconst X0.here hx rfl (hb hby at_22) ?_
    show Steps p.tables e below (s₁.setTop (mkF m 23 #[.val (.int p0), .val (.int p1), .val (.int p2), .val (.int (1 : Int32)), .unset, .unset, .unset, .unset, .unset, .unset, .unset, .unset, .unset, .unset] [(.int (0 : Int32))])) _
    refine XS.istore X0.here hx rfl (hb hby at_23) rfl (l' := #[.val (.int p0), .val (.int p1), .val (.int p2), .val (.int (1 : Int32)), .val (.int (0 : Int32)), .unset, .unset, .unset, .unset, .unset, .unset, .unset, .unset, .unset]) rfl ?_
    show Steps p.tables e below (s₁.setTop (mkF m 25 #[.val (.int p0), .val (.int p1), .val (.int p2), .val (.int (1 : Int32)), .val (.int (0 : Int32)), .unset, .unset, .unset, .unset, .unset, .unset, .unset, .unset, .unset] [])) _
    refine XS.iloadN X0.here hx rfl (hb hby at_25) rfl ?_
    show Steps p.tables e below (s₁.setTop (mkF m 26 #[.val (.int p0), .val (.int p1), .val (.int p2), .val (.int (1 : Int32)), .val (.int (0 : Int32)), .unset, .unset, .unset, .unset, .unset, .unset, .unset, .unset, .unset] [(.int (1 : Int32))])) _
    refine XS.ifNo X0.here hx rfl (hb hby at_26) rfl ((if0 _ _).trans (feq ((by decide) : ¬ ((1 : Int32) = (0 : Int32)))).1) ?_
    show Steps p.tables e below (s₁.setTop (mkF m 29 #[.val (.int p0), .val (.int p1), .val (.int p2), .val (.int (1 : Int32)), .val (.int (0 : Int32)), .unset, .unset, .unset, .unset, .unset, .unset, .unset, .unset, .unset] [])) _
    refine XS.iloadN X0.here hx rfl (hb hby at_29) rfl ?_
    show Steps p.tables e below (s₁.setTop (mkF m 30 #[.val (.int p0), .val (.int p1), .val (.int p2), .val (.int (1 : Int32)), .val (.int (0 : Int32)), .unset, .unset, .unset, .unset, .unset, .unset, .unset, .unset, .unset] [(.int p0)])) _
    refine XS.i2l X0.here hx rfl (hb hby at_30) rfl ?_
    show Steps p.tables e below (s₁.setTop (mkF m 31 #[.val (.int p0), .val (.int p1), .val (.int p2), .val (.int (1 : Int32)), .val (.int (0 : Int32)), .unset, .unset, .unset, .unset, .unset, .unset, .unset, .unset, .unset] [(.long (p0.toInt64))])) _
    refine XS.lneg X0.here hx rfl (hb hby at_31) rfl ?_
    show Steps p.tables e below (s₁.setTop (mkF m 32 #[.val (.int p0), .val (.int p1), .val (.int p2), .val (.int (1 : Int32)), .val (.int (0 : Int32)), .unset, .unset, .unset, .unset, .unset, .unset, .unset, .unset, .unset] [(.long ((-(p0.toInt64))))])) _
    refine XS.goto X0.here hx rfl (pc0 := 32) (pc' := 37) rfl (hb hby at_32) (by decide) (by decide) ?_
    show Steps p.tables e below (s₁.setTop (mkF m 37 #[.val (.int p0), .val (.int p1), .val (.int p2), .val (.int (1 : Int32)), .val (.int (0 : Int32)), .unset, .unset, .unset, .unset, .unset, .unset, .unset, .unset, .unset] [(.long ((-(p0.toInt64))))])) _
    refine XS.lstore X0.here hx rfl (hb hby at_37) rfl (l' := #[.val (.int p0), .val (.int p1), .val (.int p2), .val (.int (1 : Int32)), .val (.int (0 : Int32)), .val (.long ((-(p0.toInt64)))), .second, .unset, .unset, .unset, .unset, .unset, .unset, .unset]) rfl ?_
    show Steps p.tables e below (s₁.setTop (mkF m 39 #[.val (.int p0), .val (.int p1), .val (.int p2), .val (.int (1 : Int32)), .val (.int (0 : Int32)), .val (.long ((-(p0.toInt64)))), .second, .unset, .unset, .unset, .unset, .unset, .unset, .unset] [])) _
    refine XS.iload X0.here hx rfl (hb hby at_39) rfl ?_
    show Steps p.tables e below (s₁.setTop (mkF m 41 #[.val (.int p0), .val (.int p1), .val (.int p2), .val (.int (1 : Int32)), .val (.int (0 : Int32)), .val (.long ((-(p0.toInt64)))), .second, .unset, .unset, .unset, .unset, .unset, .unset, .unset] [(.int (0 : Int32))])) _
    refine XS.ifYes X0.here hx rfl (pc0 := 41) (pc' := 50) rfl (hb hby at_41) rfl ((if0 _ _).trans (teq ((by decide) : (0 : Int32) = (0 : Int32))).1) (by decide) (by decide) ?_
    show Steps p.tables e below (s₁.setTop (mkF m 50 #[.val (.int p0), .val (.int p1), .val (.int p2), .val (.int (1 : Int32)), .val (.int (0 : Int32)), .val (.long ((-(p0.toInt64)))), .second, .unset, .unset, .unset, .unset, .unset, .unset, .unset] [])) _
    refine XS.iloadN X0.here hx rfl (hb hby at_50) rfl ?_
    show Steps p.tables e below (s₁.setTop (mkF m 51 #[.val (.int p0), .val (.int p1), .val (.int p2), .val (.int (1 : Int32)), .val (.int (0 : Int32)), .val (.long ((-(p0.toInt64)))), .second, .unset, .unset, .unset, .unset, .unset, .unset, .unset] [(.int p1)])) _
    refine XS.i2l X0.here hx rfl (hb hby at_51) rfl ?_
    show Steps p.tables e below (s₁.setTop (mkF m 52 #[.val (.int p0), .val (.int p1), .val (.int p2), .val (.int (1 : Int32)), .val (.int (0 : Int32)), .val (.long ((-(p0.toInt64)))), .second, .unset, .unset, .unset, .unset, .unset, .unset, .unset] [(.long (p1.toInt64))])) _
    refine XS.lstore X0.here hx rfl (hb hby at_52) rfl (l' := #[.val (.int p0), .val (.int p1), .val (.int p2), .val (.int (1 : Int32)), .val (.int (0 : Int32)), .val (.long ((-(p0.toInt64)))), .second, .val (.long (p1.toInt64)), .second, .unset, .unset, .unset, .unset, .unset]) rfl ?_
    show Steps p.tables e below (s₁.setTop (mkF m 54 #[.val (.int p0), .val (.int p1), .val (.int p2), .val (.int (1 : Int32)), .val (.int (0 : Int32)), .val (.long ((-(p0.toInt64)))), .second, .val (.long (p1.toInt64)), .second, .unset, .unset, .unset, .unset, .unset] [])) _
    refine XS.iloadN X0.here hx rfl (hb hby at_54) rfl ?_
    show Steps p.tables e below (s₁.setTop (mkF m 55 #[.val (.int p0), .val (.int p1), .val (.int p2), .val (.int (1 : Int32)), .val (.int (0 : Int32)), .val (.long ((-(p0.toInt64)))), .second, .val (.long (p1.toInt64)), .second, .unset, .unset, .unset, .unset, .unset] [(.int (1 : Int32))])) _
    refine XS.ifNo X0.here hx rfl (hb hby at_55) rfl ((if0 _ _).trans (feq ((by decide) : ¬ ((1 : Int32) = (0 : Int32)))).1) ?_
    show Steps p.tables e below (s₁.setTop (mkF m 58 #[.val (.int p0), .val (.int p1), .val (.int p2), .val (.int (1 : Int32)), .val (.int (0 : Int32)), .val (.long ((-(p0.toInt64)))), .second, .val (.long (p1.toInt64)), .second, .unset, .unset, .unset, .unset, .unset] [])) _
    refine XS.iloadN X0.here hx rfl (hb hby at_58) rfl ?_
    show Steps p.tables e below (s₁.setTop (mkF m 59 #[.val (.int p0), .val (.int p1), .val (.int p2), .val (.int (1 : Int32)), .val (.int (0 : Int32)), .val (.long ((-(p0.toInt64)))), .second, .val (.long (p1.toInt64)), .second, .unset, .unset, .unset, .unset, .unset] [(.int p0)])) _
    refine XS.i2dS X0.here hx rfl (hb hby at_59) rfl rfl ?_
    show Steps p.tables e below (s₁.setTop (mkF m 60 #[.val (.int p0), .val (.int p1), .val (.int p2), .val (.int (1 : Int32)), .val (.int (0 : Int32)), .val (.long ((-(p0.toInt64)))), .second, .val (.long (p1.toInt64)), .second, .unset, .unset, .unset, .unset, .unset] [(.double (FP.i2d p0))])) _
    refine XS.dnegS X0.here hx rfl (hb hby at_60) rfl rfl ?_
    show Steps p.tables e below (s₁.setTop (mkF m 61 #[.val (.int p0), .val (.int p1), .val (.int p2), .val (.int (1 : Int32)), .val (.int (0 : Int32)), .val (.long ((-(p0.toInt64)))), .second, .val (.long (p1.toInt64)), .second, .unset, .unset, .unset, .unset, .unset] [(.double (FP.dneg (FP.i2d p0)))])) _
    refine XS.goto X0.here hx rfl (pc0 := 61) (pc' := 66) rfl (hb hby at_61) (by decide) (by decide) ?_
    show Steps p.tables e below (s₁.setTop (mkF m 66 #[.val (.int p0), .val (.int p1), .val (.int p2), .val (.int (1 : Int32)), .val (.int (0 : Int32)), .val (.long ((-(p0.toInt64)))), .second, .val (.long (p1.toInt64)), .second, .unset, .unset, .unset, .unset, .unset] [(.double (FP.dneg (FP.i2d p0)))])) _
    refine XS.dstore X0.here hx rfl (hb hby at_66) rfl (l' := #[.val (.int p0), .val (.int p1), .val (.int p2), .val (.int (1 : Int32)), .val (.int (0 : Int32)), .val (.long ((-(p0.toInt64)))), .second, .val (.long (p1.toInt64)), .second, .val (.double (FP.dneg (FP.i2d p0))), .second, .unset, .unset, .unset]) rfl ?_
    show Steps p.tables e below (s₁.setTop (mkF m 68 #[.val (.int p0), .val (.int p1), .val (.int p2), .val (.int (1 : Int32)), .val (.int (0 : Int32)), .val (.long ((-(p0.toInt64)))), .second, .val (.long (p1.toInt64)), .second, .val (.double (FP.dneg (FP.i2d p0))), .second, .unset, .unset, .unset] [])) _
    refine XS.iload X0.here hx rfl (hb hby at_68) rfl ?_
    show Steps p.tables e below (s₁.setTop (mkF m 70 #[.val (.int p0), .val (.int p1), .val (.int p2), .val (.int (1 : Int32)), .val (.int (0 : Int32)), .val (.long ((-(p0.toInt64)))), .second, .val (.long (p1.toInt64)), .second, .val (.double (FP.dneg (FP.i2d p0))), .second, .unset, .unset, .unset] [(.int (0 : Int32))])) _
    refine XS.ifYes X0.here hx rfl (pc0 := 70) (pc' := 79) rfl (hb hby at_70) rfl ((if0 _ _).trans (teq ((by decide) : (0 : Int32) = (0 : Int32))).1) (by decide) (by decide) ?_
    show Steps p.tables e below (s₁.setTop (mkF m 79 #[.val (.int p0), .val (.int p1), .val (.int p2), .val (.int (1 : Int32)), .val (.int (0 : Int32)), .val (.long ((-(p0.toInt64)))), .second, .val (.long (p1.toInt64)), .second, .val (.double (FP.dneg (FP.i2d p0))), .second, .unset, .unset, .unset] [])) _
    refine XS.iloadN X0.here hx rfl (hb hby at_79) rfl ?_
    show Steps p.tables e below (s₁.setTop (mkF m 80 #[.val (.int p0), .val (.int p1), .val (.int p2), .val (.int (1 : Int32)), .val (.int (0 : Int32)), .val (.long ((-(p0.toInt64)))), .second, .val (.long (p1.toInt64)), .second, .val (.double (FP.dneg (FP.i2d p0))), .second, .unset, .unset, .unset] [(.int p1)])) _
    refine XS.i2dS X0.here hx rfl (hb hby at_80) rfl rfl ?_
    show Steps p.tables e below (s₁.setTop (mkF m 81 #[.val (.int p0), .val (.int p1), .val (.int p2), .val (.int (1 : Int32)), .val (.int (0 : Int32)), .val (.long ((-(p0.toInt64)))), .second, .val (.long (p1.toInt64)), .second, .val (.double (FP.dneg (FP.i2d p0))), .second, .unset, .unset, .unset] [(.double (FP.i2d p1))])) _
    refine XS.dstore X0.here hx rfl (hb hby at_81) rfl (l' := #[.val (.int p0), .val (.int p1), .val (.int p2), .val (.int (1 : Int32)), .val (.int (0 : Int32)), .val (.long ((-(p0.toInt64)))), .second, .val (.long (p1.toInt64)), .second, .val (.double (FP.dneg (FP.i2d p0))), .second, .val (.double (FP.i2d p1)), .second, .unset]) rfl ?_
    show Steps p.tables e below (s₁.setTop (mkF m 83 #[.val (.int p0), .val (.int p1), .val (.int p2), .val (.int (1 : Int32)), .val (.int (0 : Int32)), .val (.long ((-(p0.toInt64)))), .second, .val (.long (p1.toInt64)), .second, .val (.double (FP.dneg (FP.i2d p0))), .second, .val (.double (FP.i2d p1)), .second, .unset] [])) _
    refine XS.lload X0.here hx rfl (hb hby at_83) rfl ?_
    show Steps p.tables e below (s₁.setTop (mkF m 85 #[.val (.int p0), .val (.int p1), .val (.int p2), .val (.int (1 : Int32)), .val (.int (0 : Int32)), .val (.long ((-(p0.toInt64)))), .second, .val (.long (p1.toInt64)), .second, .val (.double (FP.dneg (FP.i2d p0))), .second, .val (.double (FP.i2d p1)), .second, .unset] [(.long ((-(p0.toInt64))))])) _
    refine XS.lload X0.here hx rfl (hb hby at_85) rfl ?_
    show Steps p.tables e below (s₁.setTop (mkF m 87 #[.val (.int p0), .val (.int p1), .val (.int p2), .val (.int (1 : Int32)), .val (.int (0 : Int32)), .val (.long ((-(p0.toInt64)))), .second, .val (.long (p1.toInt64)), .second, .val (.double (FP.dneg (FP.i2d p0))), .second, .val (.double (FP.i2d p1)), .second, .unset] [(.long (p1.toInt64)), (.long ((-(p0.toInt64))))])) _
    refine XS.lcmp X0.here hx rfl (hb hby at_87) rfl ?_
    show Steps p.tables e below (s₁.setTop (mkF m 88 #[.val (.int p0), .val (.int p1), .val (.int p2), .val (.int (1 : Int32)), .val (.int (0 : Int32)), .val (.long ((-(p0.toInt64)))), .second, .val (.long (p1.toInt64)), .second, .val (.double (FP.dneg (FP.i2d p0))), .second, .val (.double (FP.i2d p1)), .second, .unset] [(.int (lcmpW ((-(p0.toInt64))) (p1.toInt64)))])) _
    rw [hL]
    show Steps p.tables e below (s₁.setTop (mkF m 88 #[.val (.int p0), .val (.int p1), .val (.int p2), .val (.int (1 : Int32)), .val (.int (0 : Int32)), .val (.long ((-(p0.toInt64)))), .second, .val (.long (p1.toInt64)), .second, .val (.double (FP.dneg (FP.i2d p0))), .second, .val (.double (FP.i2d p1)), .second, .unset] [(.int (1 : Int32))])) _
    refine XS.ifYes X0.here hx rfl (pc0 := 88) (pc' := 99) rfl (hb hby at_88) rfl ((if0 _ _).trans (flt ((by decide) : ¬ ((1 : Int32) < (0 : Int32)))).2.1) (by decide) (by decide) ?_
    show Steps p.tables e below (s₁.setTop (mkF m 99 #[.val (.int p0), .val (.int p1), .val (.int p2), .val (.int (1 : Int32)), .val (.int (0 : Int32)), .val (.long ((-(p0.toInt64)))), .second, .val (.long (p1.toInt64)), .second, .val (.double (FP.dneg (FP.i2d p0))), .second, .val (.double (FP.i2d p1)), .second, .unset] [])) _
    refine XS.lload X0.here hx rfl (hb hby at_99) rfl ?_
    show Steps p.tables e below (s₁.setTop (mkF m 101 #[.val (.int p0), .val (.int p1), .val (.int p2), .val (.int (1 : Int32)), .val (.int (0 : Int32)), .val (.long ((-(p0.toInt64)))), .second, .val (.long (p1.toInt64)), .second, .val (.double (FP.dneg (FP.i2d p0))), .second, .val (.double (FP.i2d p1)), .second, .unset] [(.long ((-(p0.toInt64))))])) _
    refine XS.lload X0.here hx rfl (hb hby at_101) rfl ?_
    show Steps p.tables e below (s₁.setTop (mkF m 103 #[.val (.int p0), .val (.int p1), .val (.int p2), .val (.int (1 : Int32)), .val (.int (0 : Int32)), .val (.long ((-(p0.toInt64)))), .second, .val (.long (p1.toInt64)), .second, .val (.double (FP.dneg (FP.i2d p0))), .second, .val (.double (FP.i2d p1)), .second, .unset] [(.long (p1.toInt64)), (.long ((-(p0.toInt64))))])) _
    refine XS.lcmp X0.here hx rfl (hb hby at_103) rfl ?_
    show Steps p.tables e below (s₁.setTop (mkF m 104 #[.val (.int p0), .val (.int p1), .val (.int p2), .val (.int (1 : Int32)), .val (.int (0 : Int32)), .val (.long ((-(p0.toInt64)))), .second, .val (.long (p1.toInt64)), .second, .val (.double (FP.dneg (FP.i2d p0))), .second, .val (.double (FP.i2d p1)), .second, .unset] [(.int (lcmpW ((-(p0.toInt64))) (p1.toInt64)))])) _
    rw [hL]
    show Steps p.tables e below (s₁.setTop (mkF m 104 #[.val (.int p0), .val (.int p1), .val (.int p2), .val (.int (1 : Int32)), .val (.int (0 : Int32)), .val (.long ((-(p0.toInt64)))), .second, .val (.long (p1.toInt64)), .second, .val (.double (FP.dneg (FP.i2d p0))), .second, .val (.double (FP.i2d p1)), .second, .unset] [(.int (1 : Int32))])) _
    refine XS.ifNo X0.here hx rfl (hb hby at_104) rfl ((if0 _ _).trans (tlt ((by decide) : (0 : Int32) < (1 : Int32))).2.2.2) ?_
    show Steps p.tables e below (s₁.setTop (mkF m 107 #[.val (.int p0), .val (.int p1), .val (.int p2), .val (.int (1 : Int32)), .val (.int (0 : Int32)), .val (.long ((-(p0.toInt64)))), .second, .val (.long (p1.toInt64)), .second, .val (.double (FP.dneg (FP.i2d p0))), .second, .val (.double (FP.i2d p1)), .second, .unset] [])) _
    refine st1 _ ?_
    show Steps p.tables e below (T1.setTop (mkF m 110 #[.val (.int p0), .val (.int p1), .val (.int p2), .val (.int (1 : Int32)), .val (.int (0 : Int32)), .val (.long ((-(p0.toInt64)))), .second, .val (.long (p1.toInt64)), .second, .val (.double (FP.dneg (FP.i2d p0))), .second, .val (.double (FP.i2d p1)), .second, .unset] [(.ref w0)])) _
    refine XS.astore X1.here hx rfl (hb hby at_110) rfl rfl (l' := #[.val (.int p0), .val (.int p1), .val (.int p2), .val (.int (1 : Int32)), .val (.int (0 : Int32)), .val (.long ((-(p0.toInt64)))), .second, .val (.long (p1.toInt64)), .second, .val (.double (FP.dneg (FP.i2d p0))), .second, .val (.double (FP.i2d p1)), .second, .val (.ref w0)]) rfl ?_
    show Steps p.tables e below (T1.setTop (mkF m 112 #[.val (.int p0), .val (.int p1), .val (.int p2), .val (.int (1 : Int32)), .val (.int (0 : Int32)), .val (.long ((-(p0.toInt64)))), .second, .val (.long (p1.toInt64)), .second, .val (.double (FP.dneg (FP.i2d p0))), .second, .val (.double (FP.i2d p1)), .second, .val (.ref w0)] [])) _
    refine XS.goto X1.here hx rfl (pc0 := 112) (pc' := 120) rfl (hb hby at_112) (by decide) (by decide) ?_
    show Steps p.tables e below (T1.setTop (mkF m 120 #[.val (.int p0), .val (.int p1), .val (.int p2), .val (.int (1 : Int32)), .val (.int (0 : Int32)), .val (.long ((-(p0.toInt64)))), .second, .val (.long (p1.toInt64)), .second, .val (.double (FP.dneg (FP.i2d p0))), .second, .val (.double (FP.i2d p1)), .second, .val (.ref w0)] [])) _
    refine XS.dload X1.here hx rfl (hb hby at_120) rfl ?_
    show Steps p.tables e below (T1.setTop (mkF m 122 #[.val (.int p0), .val (.int p1), .val (.int p2), .val (.int (1 : Int32)), .val (.int (0 : Int32)), .val (.long ((-(p0.toInt64)))), .second, .val (.long (p1.toInt64)), .second, .val (.double (FP.dneg (FP.i2d p0))), .second, .val (.double (FP.i2d p1)), .second, .val (.ref w0)] [(.double (FP.dneg (FP.i2d p0)))])) _
    refine XS.dload X1.here hx rfl (hb hby at_122) rfl ?_
    show Steps p.tables e below (T1.setTop (mkF m 124 #[.val (.int p0), .val (.int p1), .val (.int p2), .val (.int (1 : Int32)), .val (.int (0 : Int32)), .val (.long ((-(p0.toInt64)))), .second, .val (.long (p1.toInt64)), .second, .val (.double (FP.dneg (FP.i2d p0))), .second, .val (.double (FP.i2d p1)), .second, .val (.ref w0)] [(.double (FP.i2d p1)), (.double (FP.dneg (FP.i2d p0)))])) _
    refine st2 _ ?_
    show Steps p.tables e below (T2.setTop (mkF m 127 #[.val (.int p0), .val (.int p1), .val (.int p2), .val (.int (1 : Int32)), .val (.int (0 : Int32)), .val (.long ((-(p0.toInt64)))), .second, .val (.long (p1.toInt64)), .second, .val (.double (FP.dneg (FP.i2d p0))), .second, .val (.double (FP.i2d p1)), .second, .val (.ref w0)] [(.ref w0)])) _
    refine XS.aload X2.here hx rfl (hb hby at_127) rfl rfl ?_
    show Steps p.tables e below (T2.setTop (mkF m 129 #[.val (.int p0), .val (.int p1), .val (.int p2), .val (.int (1 : Int32)), .val (.int (0 : Int32)), .val (.long ((-(p0.toInt64)))), .second, .val (.long (p1.toInt64)), .second, .val (.double (FP.dneg (FP.i2d p0))), .second, .val (.double (FP.i2d p1)), .second, .val (.ref w0)] [(.ref w0), (.ref w0)])) _
    refine Jvm.RoadKit.acmp (g := (mkF m 129 #[.val (.int p0), .val (.int p1), .val (.int p2), .val (.int (1 : Int32)), .val (.int (0 : Int32)), .val (.long ((-(p0.toInt64)))), .second, .val (.long (p1.toInt64)), .second, .val (.double (FP.dneg (FP.i2d p0))), .second, .val (.double (FP.i2d p1)), .second, .val (.ref w0)] [(.ref w0), (.ref w0)])) X2 hx rfl rfl rfl (pc0 := 129) (pc' := 132) (same := true) rfl (hb hby at_129) rfl (decide_eq_true rfl) (by decide) (by decide) ?_
    show Steps p.tables e below (T2.setTop (mkF m 132 #[.val (.int p0), .val (.int p1), .val (.int p2), .val (.int (1 : Int32)), .val (.int (0 : Int32)), .val (.long ((-(p0.toInt64)))), .second, .val (.long (p1.toInt64)), .second, .val (.double (FP.dneg (FP.i2d p0))), .second, .val (.double (FP.i2d p1)), .second, .val (.ref w0)] [])) _
    refine XS.iconst X2.here hx rfl (hb hby at_132) ?_
    show Steps p.tables e below (T2.setTop (mkF m 133 #[.val (.int p0), .val (.int p1), .val (.int p2), .val (.int (1 : Int32)), .val (.int (0 : Int32)), .val (.long ((-(p0.toInt64)))), .second, .val (.long (p1.toInt64)), .second, .val (.double (FP.dneg (FP.i2d p0))), .second, .val (.double (FP.i2d p1)), .second, .val (.ref w0)] [(.int (1 : Int32))])) _
    refine XS.goto X2.here hx rfl (pc0 := 133) (pc' := 137) rfl (hb hby at_133) (by decide) (by decide) ?_
    show Steps p.tables e below (T2.setTop (mkF m 137 #[.val (.int p0), .val (.int p1), .val (.int p2), .val (.int (1 : Int32)), .val (.int (0 : Int32)), .val (.long ((-(p0.toInt64)))), .second, .val (.long (p1.toInt64)), .second, .val (.double (FP.dneg (FP.i2d p0))), .second, .val (.double (FP.i2d p1)), .second, .val (.ref w0)] [(.int (1 : Int32))])) _
    exact retN X2 hx (t := .boolean) Bd.returns (by simp) (hb hby at_137) hr
  · exact ⟨rfl, N2, e2⟩
set_option maxRecDepth 65536 in
set_option maxHeartbeats 40000000 in
theorem rm_1_1_0 (l : Launch) (Z : State) (a0 : Array Value) (hw : ∀ d ∈ tables_1, d.before a0 Z = true) (ws : List Jvm.Cond) (x0 x1 : UInt64) (w0 : Addr) (w1 : Addr) (w2 : Addr) (h0 : Heap) (n0 : Nat) (O : Old Z n0 h0) (hG : GG Z w0 w1 w2) (hD : ∀ o, cmpValue (FP.dcmp x0 x1) o = (-1 : Int32)) :
    MetFree l (⟨"com/example/fieldward/fieldward/validation/OrderedKind$Order", "of", "(DD)Lcom/example/fieldward/fieldward/validation/OrderedKind$Order;"⟩ : MethodName) (head1 (Jvm.Cond.code (⟨"com/example/fieldward/fieldward/validation/OrderedKind$Order", "of", "(DD)Lcom/example/fieldward/fieldward/validation/OrderedKind$Order;"⟩ : MethodName) prog_15_method_5_code 5 (some (.object "com/example/fieldward/fieldward/validation/OrderedKind$Order")) :: ws) ({ frames := 0, cells := 0, slots := 0, locals := 0 } : Room)) (fun a U => a = #[(.double x0), (.double x1)] ∧ Z.Warmed39 U.vm ∧ U.heap = h0) (fun _ _ _ _ _ => True) (fun _ U o U' => ∃ v L, o = .returned v ∧ Qv (some (.ref w1)) h0 n0 v U'.heap L ∧ FrameEnd U o U' L ({ frames := 0, cells := 0, slots := 0, locals := 0 } : Room).cells ({ frames := 0, cells := 0, slots := 0, locals := 0 } : Room).slots) := by
  refine MetFree.of_bodySF (plainFor_of_name pn_com_example_fieldward_fieldward_validation_OrderedKind_Order) hisR ?_
  intro p e s m args below meth c s₁ Bd hml0 hP hK
  obtain ⟨rfl, hZ, hh⟩ := hP
  have hx := Bd.exec
  have hby := Bd.bytes
  have hml : c.maxLocals = 5 := hml0
  have hown : s.vm.findClass "com/example/fieldward/fieldward/validation/OrderedKind$Order" = some m.cls := findClass_of_methodNamed Bd.named
  have hnm := (name_of_methodNamed Bd.named Bd.method).1
  have X0 : Stand p l e ({ frames := 0, cells := 0, slots := 0, locals := 0 } : Room) s m #[(.double x0), (.double x1)] below meth c s₁ [] 0 0 := Stand.of_body Bd
  have e0 : s₁.heap = h0 := by rw [← hh, Bd.state]; rfl
  have N0 := Fr.nil n0
  have pre0 : ∀ t, Steps p.tables e below (s₁.setTop (mkF m 0 #[.val (.double x0), .second, .val (.double x1), .second, .unset] [])) t → Steps p.tables e below (s₁.setTop (entryFrame m #[(.double x0), (.double x1)] 5)) t := fun t k => castTop (ef_5_DD m x0 x1) k
  obtain ⟨Sw0, Sw1, Sw2, Ew0, Ew1, Ew2⟩ := id hG
  obtain ⟨T1, X1, e1, st1⟩ := getS2 X0 hx hZ hown (host := "") (Or.inl (hw _ (List.mem_of_getElem? (i := 9) rfl))) Via.refl e0 (Sw1.ext O.2) (g := (mkF m 6 #[.val (.double x0), .second, .val (.double x1), .second, .unset] [])) rfl (hb hby d1_6)
  obtain ⟨fs, hr, hrun, hended, hW, hsame⟩ := X1.leave (v := some (.ref w1)) (fun h => by rw [Bd.returns] at h; cases h)
  refine ⟨_, _, pre0 _ ?_, hrun, hended, _, _, rfl, ?_, ⟨_, rfl⟩, hW, hsame.mono (by decide) (by decide)⟩
  · show Steps p.tables e below (s₁.setTop (mkF m 0 #[.val (.double x0), .second, .val (.double x1), .second, .unset] [])) _
    refine XS.dloadN X0.here hx rfl (hb hby d1_0) rfl ?_
    show Steps p.tables e below (s₁.setTop (mkF m 1 #[.val (.double x0), .second, .val (.double x1), .second, .unset] [(.double x0)])) _
    refine XS.dloadN X0.here hx rfl (hb hby d1_1) rfl ?_
    show Steps p.tables e below (s₁.setTop (mkF m 2 #[.val (.double x0), .second, .val (.double x1), .second, .unset] [(.double x1), (.double x0)])) _
    refine XS.dcmpS X0.here hx rfl (hb hby d1_2) rfl rfl ?_
    show Steps p.tables e below (s₁.setTop (mkF m 3 #[.val (.double x0), .second, .val (.double x1), .second, .unset] [(.int (cmpValue (FP.dcmp x0 x1) .g))])) _
    rw [hD]
    show Steps p.tables e below (s₁.setTop (mkF m 3 #[.val (.double x0), .second, .val (.double x1), .second, .unset] [(.int (-1 : Int32))])) _
    refine XS.ifNo X0.here hx rfl (hb hby d1_3) rfl ((if0 _ _).trans (tlt ((by decide) : (-1 : Int32) < (0 : Int32))).2.1) ?_
    show Steps p.tables e below (s₁.setTop (mkF m 6 #[.val (.double x0), .second, .val (.double x1), .second, .unset] [])) _
    refine st1 _ ?_
    show Steps p.tables e below (T1.setTop (mkF m 9 #[.val (.double x0), .second, .val (.double x1), .second, .unset] [(.ref w1)])) _
    refine XS.astore X1.here hx rfl (hb hby d1_9) rfl rfl (l' := #[.val (.double x0), .second, .val (.double x1), .second, .val (.ref w1)]) rfl ?_
    show Steps p.tables e below (T1.setTop (mkF m 11 #[.val (.double x0), .second, .val (.double x1), .second, .val (.ref w1)] [])) _
    refine XS.goto X1.here hx rfl (pc0 := 11) (pc' := 47) rfl (hb hby d1_11) (by decide) (by decide) ?_
    show Steps p.tables e below (T1.setTop (mkF m 47 #[.val (.double x0), .second, .val (.double x1), .second, .val (.ref w1)] [])) _
    refine XS.aload X1.here hx rfl (hb hby d1_47) rfl rfl ?_
    show Steps p.tables e below (T1.setTop (mkF m 49 #[.val (.double x0), .second, .val (.double x1), .second, .val (.ref w1)] [(.ref w1)])) _
    exact retOut X1 hx Bd.returns rfl (Or.inr (Or.inr (Or.inr (Or.inr ⟨rfl, rfl, rfl⟩)))) (hb hby d1_49) hr
  · exact ⟨rfl, N0, e1⟩
set_option maxRecDepth 65536 in
set_option maxHeartbeats 40000000 in
theorem rl_1_1_0 (l : Launch) (Z : State) (a0 : Array Value) (hw : ∀ d ∈ tables_1, d.before a0 Z = true) (ws : List Jvm.Cond) (p0 p1 p2 : Int32) (w0 : Addr) (w1 : Addr) (w2 : Addr) (h0 : Heap) (n0 : Nat) (O : Old Z n0 h0) (hG : GG Z w0 w1 w2) (hA : p2 &&& (1 : Int32) = (1 : Int32)) (hB : ¬ (p2 &&& (2 : Int32) = (0 : Int32))) (hL : lcmpW (-(p0.toInt64)) (-(p1.toInt64)) = (-1 : Int32)) (hD : ∀ o, cmpValue (FP.dcmp (FP.dneg (FP.i2d p0)) (FP.dneg (FP.i2d p1))) o = (-1 : Int32)) :
    MetFree l x (head1 (Jvm.Cond.code x code maxLocals ret :: ws) room_1) (fun a U => a = #[(.int p0), (.int p1), (.int p2)] ∧ Z.Warmed39 U.vm ∧ U.heap = h0) (fun _ _ _ _ _ => True) (fun _ U o U' => ∃ v L, o = .returned v ∧ Qv (some (.int (1 : Int32))) h0 n0 v U'.heap L ∧ FrameEnd U o U' L 0 0) := by
  refine MetFree.of_bodySF (plainFor_of_name pn_com_example_fieldward_fieldward_validation_OrderOfPinLaw) hisR ?_
  intro p e s m args below meth c s₁ Bd hml0 hP hK
  obtain ⟨rfl, hZ, hh⟩ := hP
  have hx := Bd.exec
  have hby := Bd.bytes
  have hml : c.maxLocals = 14 := hml0
  have hown : s.vm.findClass "com/example/fieldward/fieldward/validation/OrderOfPinLaw" = some m.cls := findClass_of_methodNamed Bd.named
  have hnm := (name_of_methodNamed Bd.named Bd.method).1
  have X0 : Stand p l e room_1 s m #[(.int p0), (.int p1), (.int p2)] below meth c s₁ [] 0 0 := Stand.of_body Bd
  have e0 : s₁.heap = h0 := by rw [← hh, Bd.state]; rfl
  have N0 := Fr.nil n0
  have pre0 : ∀ t, Steps p.tables e below (s₁.setTop (mkF m 0 #[.val (.int p0), .val (.int p1), .val (.int p2), .unset, .unset, .unset, .unset, .unset, .unset, .unset, .unset, .unset, .unset, .unset] [])) t → Steps p.tables e below (s₁.setTop (entryFrame m #[(.int p0), (.int p1), (.int p2)] maxLocals)) t := fun t k => castTop (ef_maxLocals_III m p0 p1 p2) k
  obtain ⟨Sw0, Sw1, Sw2, Ew0, Ew1, Ew2⟩ := id hG
  obtain ⟨T1, X1, e1, st1⟩ := getS2 X0 hx hZ hown (host := "") (Or.inl (hw _ (List.mem_of_getElem? (i := 7) rfl))) Via.refl e0 (Sw1.ext O.2) (g := (mkF m 91 #[.val (.int p0), .val (.int p1), .val (.int p2), .val (.int (1 : Int32)), .val (.int (1 : Int32)), .val (.long ((-(p0.toInt64)))), .second, .val (.long ((-(p1.toInt64)))), .second, .val (.double (FP.dneg (FP.i2d p0))), .second, .val (.double (FP.dneg (FP.i2d p1))), .second, .unset] [])) rfl (hb hby at_91)
  obtain ⟨_, _, ⟨T2, L2, k2, n2⟩, -, X2, ⟨Lc2, hQ2, l2, y2, z2⟩, st2⟩ := Jvm.LawKit.callS X1 hx (y := (⟨"com/example/fieldward/fieldward/validation/OrderedKind$Order", "of", "(DD)Lcom/example/fieldward/fieldward/validation/OrderedKind$Order;"⟩ : MethodName)) hown (mvT hZ (hw _ (List.mem_of_getElem? (i := 3) rfl))) (mvT hZ (hw _ (List.mem_of_getElem? (i := 4) rfl))) (mvT hZ (hw _ (List.mem_of_getElem? (i := 1) rfl))) (mvT hZ (hw _ (List.mem_of_getElem? (i := 5) rfl))) (by decide) (backOf (W := 0) (rm_1_1_0 l Z a0 hw [] (FP.dneg (FP.i2d p0)) (FP.dneg (FP.i2d p1)) w0 w1 w2 h0 n0 O hG hD) hZ (hw _ (List.mem_of_getElem? (i := 5) rfl)) (hw _ (List.mem_of_getElem? (i := 1) rfl)) (by decide) (by decide)) (g := (mkF m 124 #[.val (.int p0), .val (.int p1), .val (.int p2), .val (.int (1 : Int32)), .val (.int (1 : Int32)), .val (.long ((-(p0.toInt64)))), .second, .val (.long ((-(p1.toInt64)))), .second, .val (.double (FP.dneg (FP.i2d p0))), .second, .val (.double (FP.dneg (FP.i2d p1))), .second, .val (.ref w1)] [(.double (FP.dneg (FP.i2d p1))), (.double (FP.dneg (FP.i2d p0)))])) rfl (by rw [hml]; rfl) (argsL := [(.double (FP.dneg (FP.i2d p0))), (.double (FP.dneg (FP.i2d p1)))]) (rest := []) (lenOf pd_28DD29Lcom2fexample2ffieldward2ffieldward2fvalidation2fOrderedKind24Order3b rfl) rfl (by show 2 * 0 + _ ≤ _; exact Nat.le_of_eq rfl) (hb hby at_124) (fun _ _ => ⟨rfl, e1, (by decide : 0 + 0 ≤ _), (by decide : 0 + 0 ≤ _)⟩)
  dsimp only [Pt.U, Pt.locs, Pt.cells, Pt.slots] at X2 l2 y2 z2 st2 hQ2
  subst l2 y2 z2
  obtain ⟨rfl, N2q, e2⟩ := hQ2
  have N2 := Fr.app N0 N2q
  obtain ⟨fs, hr, hrun, hended, hW, hsame⟩ := X2.leave (v := some (.int (1 : Int32))) (fun h => by rw [Bd.returns] at h; cases h)
  refine ⟨_, _, pre0 _ ?_, hrun, hended, _, _, rfl, ?_, ⟨_, rfl⟩, hW, hsame.mono (by decide) (by decide)⟩
  · show Steps p.tables e below (s₁.setTop (mkF m 0 #[.val (.int p0), .val (.int p1), .val (.int p2), .unset, .unset, .unset, .unset, .unset, .unset, .unset, .unset, .unset, .unset, .unset] [])) _
    refine XS.iloadN X0.here hx rfl (hb hby at_0) rfl ?_
    show Steps p.tables e below (s₁.setTop (mkF m 1 #[.val (.int p0), .val (.int p1), .val (.int p2), .unset, .unset, .unset, .unset, .unset, .unset, .unset, .unset, .unset, .unset, .unset] [(.int p2)])) _
    refine XS.iconst X0.here hx rfl (hb hby at_1) ?_
    show Steps p.tables e below (s₁.setTop (mkF m 2 #[.val (.int p0), .val (.int p1), .val (.int p2), .unset, .unset, .unset, .unset, .unset, .unset, .unset, .unset, .unset, .unset, .unset] [(.int (1 : Int32)), (.int p2)])) _
    refine XS.iand X0.here hx rfl (hb hby at_2) rfl ?_
    show Steps p.tables e below (s₁.setTop (mkF m 3 #[.val (.int p0), .val (.int p1), .val (.int p2), .unset, .unset, .unset, .unset, .unset, .unset, .unset, .unset, .unset, .unset, .unset] [(.int (p2 &&& (1 : Int32)))])) _
    rw [hA]
    show Steps p.tables e below (s₁.setTop (mkF m 3 #[.val (.int p0), .val (.int p1), .val (.int p2), .unset, .unset, .unset, .unset, .unset, .unset, .unset, .unset, .unset, .unset, .unset] [(.int (1 : Int32))])) _
    refine XS.ifNo X0.here hx rfl (hb hby at_3) rfl ((if0 _ _).trans (feq ((by decide) : ¬ ((1 : Int32) = (0 : Int32)))).1) ?_
    show Steps p.tables e below (s₁.setTop (mkF m 6 #[.val (.int p0), .val (.int p1), .val (.int p2), .unset, .unset, .unset, .unset, .unset, .unset, .unset, .unset, .unset, .unset, .unset] [])) _
    refine XS.iconst X0.here hx rfl (hb hby at_6) ?_
    show Steps p.tables e below (s₁.setTop (mkF m 7 #[.val (.int p0), .val (.int p1), .val (.int p2), .unset, .unset, .unset, .unset, .unset, .unset, .unset, .unset, .unset, .unset, .unset] [(.int (1 : Int32))])) _
    refine XS.goto X0.here hx rfl (pc0 := 7) (pc' := 11) rfl (hb hby at_7) (by decide) (by decide) ?_
    show Steps p.tables e below (s₁.setTop (mkF m 11 #[.val (.int p0), .val (.int p1), .val (.int p2), .unset, .unset, .unset, .unset, .unset, .unset, .unset, .unset, .unset, .unset, .unset] [(.int (1 : Int32))])) _
    refine XS.istoreN X0.here hx rfl (hb hby at_11) rfl (l' := #[.val (.int p0), .val (.int p1), .val (.int p2), .val (.int (1 : Int32)), .unset, .unset, .unset, .unset, .unset, .unset, .unset, .unset, .unset, .unset]) rfl ?_
    show Steps p.tables e below (s₁.setTop (mkF m 12 #[.val (.int p0), .val (.int p1), .val (.int p2), .val (.int (1 : Int32)), .unset, .unset, .unset, .unset, .unset, .unset, .unset, .unset, .unset, .unset] [])) _
    refine XS.iloadN X0.here hx rfl (hb hby at_12) rfl ?_
    show Steps p.tables e below (s₁.setTop (mkF m 13 #[.val (.int p0), .val (.int p1), .val (.int p2), .val (.int (1 : Int32)), .unset, .unset, .unset, .unset, .unset, .unset, .unset, .unset, .unset, .unset] [(.int p2)])) _
    refine XS.iconst X0.here hx rfl (hb hby at_13) ?_
    show Steps p.tables e below (s₁.setTop (mkF m 14 #[.val (.int p0), .val (.int p1), .val (.int p2), .val (.int (1 : Int32)), .unset, .unset, .unset, .unset, .unset, .unset, .unset, .unset, .unset, .unset] [(.int (2 : Int32)), (.int p2)])) _
    refine XS.iand X0.here hx rfl (hb hby at_14) rfl ?_
    show Steps p.tables e below (s₁.setTop (mkF m 15 #[.val (.int p0), .val (.int p1), .val (.int p2), .val (.int (1 : Int32)), .unset, .unset, .unset, .unset, .unset, .unset, .unset, .unset, .unset, .unset] [(.int (p2 &&& (2 : Int32)))])) _
    refine XS.ifNo X0.here hx rfl (hb hby at_15) rfl ((if0 _ _).trans (feq (hB : ¬ ((p2 &&& (2 : Int32)) = (0 : Int32)))).1) ?_
    show Steps p.tables e below (s₁.setTop (mkF m 18 #[.val (.int p0), .val (.int p1), .val (.int p2), .val (.int (1 : Int32)), .unset, .unset, .unset, .unset, .unset, .unset, .unset, .unset, .unset, .unset] [])) _
    refine XS.iconst X0.here hx rfl (hb hby at_18) ?_
    show Steps p.tables e below (s₁.setTop (mkF m 19 #[.val (.int p0), .val (.int p1), .val (.int p2), .val (.int (1 : Int32)), .unset, .unset, .unset, .unset, .unset, .unset, .unset, .unset, .unset, .unset] [(.int (1 : Int32))])) _
    refine XS.goto X0.here hx rfl (pc0 := 19) (pc' := 23) rfl (hb hby at_19) (by decide) (by decide) ?_
    show Steps p.tables e below (s₁.setTop (mkF m 23 #[.val (.int p0), .val (.int p1), .val (.int p2), .val (.int (1 : Int32)), .unset, .unset, .unset, .unset, .unset, .unset, .unset, .unset, .unset, .unset] [(.int (1 : Int32))])) _
    refine XS.istore X0.here hx rfl (hb hby at_23) rfl (l' := #[.val (.int p0), .val (.int p1), .val (.int p2), .val (.int (1 : Int32)), .val (.int (1 : Int32)), .unset, .unset, .unset, .unset, .unset, .unset, .unset, .unset, .unset]) rfl ?_
    show Steps p.tables e below (s₁.setTop (mkF m 25 #[.val (.int p0), .val (.int p1), .val (.int p2), .val (.int (1 : Int32)), .val (.int (1 : Int32)), .unset, .unset, .unset, .unset, .unset, .unset, .unset, .unset, .unset] [])) _
    refine XS.iloadN X0.here hx rfl (hb hby at_25) rfl ?_
    show Steps p.tables e below (s₁.setTop (mkF m 26 #[.val (.int p0), .val (.int p1), .val (.int p2), .val (.int (1 : Int32)), .val (.int (1 : Int32)), .unset, .unset, .unset, .unset, .unset, .unset, .unset, .unset, .unset] [(.int (1 : Int32))])) _
    refine XS.ifNo X0.here hx rfl (hb hby at_26) rfl ((if0 _ _).trans (feq ((by decide) : ¬ ((1 : Int32) = (0 : Int32)))).1) ?_
    show Steps p.tables e below (s₁.setTop (mkF m 29 #[.val (.int p0), .val (.int p1), .val (.int p2), .val (.int (1 : Int32)), .val (.int (1 : Int32)), .unset, .unset, .unset, .unset, .unset, .unset, .unset, .unset, .unset] [])) _
    refine XS.iloadN X0.here hx rfl (hb hby at_29) rfl ?_
    show Steps p.tables e below (s₁.setTop (mkF m 30 #[.val (.int p0), .val (.int p1), .val (.int p2), .val (.int (1 : Int32)), .val (.int (1 : Int32)), .unset, .unset, .unset, .unset, .unset, .unset, .unset, .unset, .unset] [(.int p0)])) _
    refine XS.i2l X0.here hx rfl (hb hby at_30) rfl ?_
    show Steps p.tables e below (s₁.setTop (mkF m 31 #[.val (.int p0), .val (.int p1), .val (.int p2), .val (.int (1 : Int32)), .val (.int (1 : Int32)), .unset, .unset, .unset, .unset, .unset, .unset, .unset, .unset, .unset] [(.long (p0.toInt64))])) _
    refine XS.lneg X0.here hx rfl (hb hby at_31) rfl ?_
    show Steps p.tables e below (s₁.setTop (mkF m 32 #[.val (.int p0), .val (.int p1), .val (.int p2), .val (.int (1 : Int32)), .val (.int (1 : Int32)), .unset, .unset, .unset, .unset, .unset, .unset, .unset, .unset, .unset] [(.long ((-(p0.toInt64))))])) _
    refine XS.goto X0.here hx rfl (pc0 := 32) (pc' := 37) rfl (hb hby at_32) (by decide) (by decide) ?_
    show Steps p.tables e below (s₁.setTop (mkF m 37 #[.val (.int p0), .val (.int p1), .val (.int p2), .val (.int (1 : Int32)), .val (.int (1 : Int32)), .unset, .unset, .unset, .unset, .unset, .unset, .unset, .unset, .unset] [(.long ((-(p0.toInt64))))])) _
    refine XS.lstore X0.here hx rfl (hb hby at_37) rfl (l' := #[.val (.int p0), .val (.int p1), .val (.int p2), .val (.int (1 : Int32)), .val (.int (1 : Int32)), .val (.long ((-(p0.toInt64)))), .second, .unset, .unset, .unset, .unset, .unset, .unset, .unset]) rfl ?_
    show Steps p.tables e below (s₁.setTop (mkF m 39 #[.val (.int p0), .val (.int p1), .val (.int p2), .val (.int (1 : Int32)), .val (.int (1 : Int32)), .val (.long ((-(p0.toInt64)))), .second, .unset, .unset, .unset, .unset, .unset, .unset, .unset] [])) _
    refine XS.iload X0.here hx rfl (hb hby at_39) rfl ?_
    show Steps p.tables e below (s₁.setTop (mkF m 41 #[.val (.int p0), .val (.int p1), .val (.int p2), .val (.int (1 : Int32)), .val (.int (1 : Int32)), .val (.long ((-(p0.toInt64)))), .second, .unset, .unset, .unset, .unset, .unset, .unset, .unset] [(.int (1 : Int32))])) _
    refine XS.ifNo X0.here hx rfl (hb hby at_41) rfl ((if0 _ _).trans (feq ((by decide) : ¬ ((1 : Int32) = (0 : Int32)))).1) ?_
    show Steps p.tables e below (s₁.setTop (mkF m 44 #[.val (.int p0), .val (.int p1), .val (.int p2), .val (.int (1 : Int32)), .val (.int (1 : Int32)), .val (.long ((-(p0.toInt64)))), .second, .unset, .unset, .unset, .unset, .unset, .unset, .unset] [])) _
    refine XS.iloadN X0.here hx rfl (hb hby at_44) rfl ?_
    show Steps p.tables e below (s₁.setTop (mkF m 45 #[.val (.int p0), .val (.int p1), .val (.int p2), .val (.int (1 : Int32)), .val (.int (1 : Int32)), .val (.long ((-(p0.toInt64)))), .second, .unset, .unset, .unset, .unset, .unset, .unset, .unset] [(.int p1)])) _
    refine XS.i2l X0.here hx rfl (hb hby at_45) rfl ?_
    show Steps p.tables e below (s₁.setTop (mkF m 46 #[.val (.int p0), .val (.int p1), .val (.int p2), .val (.int (1 : Int32)), .val (.int (1 : Int32)), .val (.long ((-(p0.toInt64)))), .second, .unset, .unset, .unset, .unset, .unset, .unset, .unset] [(.long (p1.toInt64))])) _
    refine XS.lneg X0.here hx rfl (hb hby at_46) rfl ?_
    show Steps p.tables e below (s₁.setTop (mkF m 47 #[.val (.int p0), .val (.int p1), .val (.int p2), .val (.int (1 : Int32)), .val (.int (1 : Int32)), .val (.long ((-(p0.toInt64)))), .second, .unset, .unset, .unset, .unset, .unset, .unset, .unset] [(.long ((-(p1.toInt64))))])) _
    refine XS.goto X0.here hx rfl (pc0 := 47) (pc' := 52) rfl (hb hby at_47) (by decide) (by decide) ?_
    show Steps p.tables e below (s₁.setTop (mkF m 52 #[.val (.int p0), .val (.int p1), .val (.int p2), .val (.int (1 : Int32)), .val (.int (1 : Int32)), .val (.long ((-(p0.toInt64)))), .second, .unset, .unset, .unset, .unset, .unset, .unset, .unset] [(.long ((-(p1.toInt64))))])) _
    refine XS.lstore X0.here hx rfl (hb hby at_52) rfl (l' := #[.val (.int p0), .val (.int p1), .val (.int p2), .val (.int (1 : Int32)), .val (.int (1 : Int32)), .val (.long ((-(p0.toInt64)))), .second, .val (.long ((-(p1.toInt64)))), .second, .unset, .unset, .unset, .unset, .unset]) rfl ?_
    show Steps p.tables e below (s₁.setTop (mkF m 54 #[.val (.int p0), .val (.int p1), .val (.int p2), .val (.int (1 : Int32)), .val (.int (1 : Int32)), .val (.long ((-(p0.toInt64)))), .second, .val (.long ((-(p1.toInt64)))), .second, .unset, .unset, .unset, .unset, .unset] [])) _
    refine XS.iloadN X0.here hx rfl (hb hby at_54) rfl ?_
    show Steps p.tables e below (s₁.setTop (mkF m 55 #[.val (.int p0), .val (.int p1), .val (.int p2), .val (.int (1 : Int32)), .val (.int (1 : Int32)), .val (.long ((-(p0.toInt64)))), .second, .val (.long ((-(p1.toInt64)))), .second, .unset, .unset, .unset, .unset, .unset] [(.int (1 : Int32))])) _
    refine XS.ifNo X0.here hx rfl (hb hby at_55) rfl ((if0 _ _).trans (feq ((by decide) : ¬ ((1 : Int32) = (0 : Int32)))).1) ?_
    show Steps p.tables e below (s₁.setTop (mkF m 58 #[.val (.int p0), .val (.int p1), .val (.int p2), .val (.int (1 : Int32)), .val (.int (1 : Int32)), .val (.long ((-(p0.toInt64)))), .second, .val (.long ((-(p1.toInt64)))), .second, .unset, .unset, .unset, .unset, .unset] [])) _
    refine XS.iloadN X0.here hx rfl (hb hby at_58) rfl ?_
    show Steps p.tables e below (s₁.setTop (mkF m 59 #[.val (.int p0), .val (.int p1), .val (.int p2), .val (.int (1 : Int32)), .val (.int (1 : Int32)), .val (.long ((-(p0.toInt64)))), .second, .val (.long ((-(p1.toInt64)))), .second, .unset, .unset, .unset, .unset, .unset] [(.int p0)])) _
    refine XS.i2dS X0.here hx rfl (hb hby at_59) rfl rfl ?_
    show Steps p.tables e below (s₁.setTop (mkF m 60 #[.val (.int p0), .val (.int p1), .val (.int p2), .val (.int (1 : Int32)), .val (.int (1 : Int32)), .val (.long ((-(p0.toInt64)))), .second, .val (.long ((-(p1.toInt64)))), .second, .unset, .unset, .unset, .unset, .unset] [(.double (FP.i2d p0))])) _
    refine XS.dnegS X0.here hx rfl (hb hby at_60) rfl rfl ?_
    show Steps p.tables e below (s₁.setTop (mkF m 61 #[.val (.int p0), .val (.int p1), .val (.int p2), .val (.int (1 : Int32)), .val (.int (1 : Int32)), .val (.long ((-(p0.toInt64)))), .second, .val (.long ((-(p1.toInt64)))), .second, .unset, .unset, .unset, .unset, .unset] [(.double (FP.dneg (FP.i2d p0)))])) _
    refine XS.goto X0.here hx rfl (pc0 := 61) (pc' := 66) rfl (hb hby at_61) (by decide) (by decide) ?_
    show Steps p.tables e below (s₁.setTop (mkF m 66 #[.val (.int p0), .val (.int p1), .val (.int p2), .val (.int (1 : Int32)), .val (.int (1 : Int32)), .val (.long ((-(p0.toInt64)))), .second, .val (.long ((-(p1.toInt64)))), .second, .unset, .unset, .unset, .unset, .unset] [(.double (FP.dneg (FP.i2d p0)))])) _
    refine XS.dstore X0.here hx rfl (hb hby at_66) rfl (l' := #[.val (.int p0), .val (.int p1), .val (.int p2), .val (.int (1 : Int32)), .val (.int (1 : Int32)), .val (.long ((-(p0.toInt64)))), .second, .val (.long ((-(p1.toInt64)))), .second, .val (.double (FP.dneg (FP.i2d p0))), .second, .unset, .unset, .unset]) rfl ?_
    show Steps p.tables e below (s₁.setTop (mkF m 68 #[.val (.int p0), .val (.int p1), .val (.int p2), .val (.int (1 : Int32)), .val (.int (1 : Int32)), .val (.long ((-(p0.toInt64)))), .second, .val (.long ((-(p1.toInt64)))), .second, .val (.double (FP.dneg (FP.i2d p0))), .second, .unset, .unset, .unset] [])) _
    refine XS.iload X0.here hx rfl (hb hby at_68) rfl ?_
    show Steps p.tables e below (s₁.setTop (mkF m 70 #[.val (.int p0), .val (.int p1), .val (.int p2), .val (.int (1 : Int32)), .val (.int (1 : Int32)), .val (.long ((-(p0.toInt64)))), .second, .val (.long ((-(p1.toInt64)))), .second, .val (.double (FP.dneg (FP.i2d p0))), .second, .unset, .unset, .unset] [(.int (1 : Int32))])) _
    refine XS.ifNo X0.here hx rfl (hb hby at_70) rfl ((if0 _ _).trans (feq ((by decide) : ¬ ((1 : Int32) = (0 : Int32)))).1) ?_
    show Steps p.tables e below (s₁.setTop (mkF m 73 #[.val (.int p0), .val (.int p1), .val (.int p2), .val (.int (1 : Int32)), .val (.int (1 : Int32)), .val (.long ((-(p0.toInt64)))), .second, .val (.long ((-(p1.toInt64)))), .second, .val (.double (FP.dneg (FP.i2d p0))), .second, .unset, .unset, .unset] [])) _
    refine XS.iloadN X0.here hx rfl (hb hby at_73) rfl ?_
    show Steps p.tables e below (s₁.setTop (mkF m 74 #[.val (.int p0), .val (.int p1), .val (.int p2), .val (.int (1 : Int32)), .val (.int (1 : Int32)), .val (.long ((-(p0.toInt64)))), .second, .val (.long ((-(p1.toInt64)))), .second, .val (.double (FP.dneg (FP.i2d p0))), .second, .unset, .unset, .unset] [(.int p1)])) _
    refine XS.i2dS X0.here hx rfl (hb hby at_74) rfl rfl ?_
    show Steps p.tables e below (s₁.setTop (mkF m 75 #[.val (.int p0), .val (.int p1), .val (.int p2), .val (.int (1 : Int32)), .val (.int (1 : Int32)), .val (.long ((-(p0.toInt64)))), .second, .val (.long ((-(p1.toInt64)))), .second, .val (.double (FP.dneg (FP.i2d p0))), .second, .unset, .unset, .unset] [(.double (FP.i2d p1))])) _
    refine XS.dnegS X0.here hx rfl (hb hby at_75) rfl rfl ?_
    show Steps p.tables e below (s₁.setTop (mkF m 76 #[.val (.int p0), .val (.int p1), .val (.int p2), .val (.int (1 : Int32)), .val (.int (1 : Int32)), .val (.long ((-(p0.toInt64)))), .second, .val (.long ((-(p1.toInt64)))), .second, .val (.double (FP.dneg (FP.i2d p0))), .second, .unset, .unset, .unset] [(.double (FP.dneg (FP.i2d p1)))])) _
    refine XS.goto X0.here hx rfl (pc0 := 76) (pc' := 81) rfl (hb hby at_76) (by decide) (by decide) ?_
    show Steps p.tables e below (s₁.setTop (mkF m 81 #[.val (.int p0), .val (.int p1), .val (.int p2), .val (.int (1 : Int32)), .val (.int (1 : Int32)), .val (.long ((-(p0.toInt64)))), .second, .val (.long ((-(p1.toInt64)))), .second, .val (.double (FP.dneg (FP.i2d p0))), .second, .unset, .unset, .unset] [(.double (FP.dneg (FP.i2d p1)))])) _
    refine XS.dstore X0.here hx rfl (hb hby at_81) rfl (l' := #[.val (.int p0), .val (.int p1), .val (.int p2), .val (.int (1 : Int32)), .val (.int (1 : Int32)), .val (.long ((-(p0.toInt64)))), .second, .val (.long ((-(p1.toInt64)))), .second, .val (.double (FP.dneg (FP.i2d p0))), .second, .val (.double (FP.dneg (FP.i2d p1))), .second, .unset]) rfl ?_
    show Steps p.tables e below (s₁.setTop (mkF m 83 #[.val (.int p0), .val (.int p1), .val (.int p2), .val (.int (1 : Int32)), .val (.int (1 : Int32)), .val (.long ((-(p0.toInt64)))), .second, .val (.long ((-(p1.toInt64)))), .second, .val (.double (FP.dneg (FP.i2d p0))), .second, .val (.double (FP.dneg (FP.i2d p1))), .second, .unset] [])) _
    refine XS.lload X0.here hx rfl (hb hby at_83) rfl ?_
    show Steps p.tables e below (s₁.setTop (mkF m 85 #[.val (.int p0), .val (.int p1), .val (.int p2), .val (.int (1 : Int32)), .val (.int (1 : Int32)), .val (.long ((-(p0.toInt64)))), .second, .val (.long ((-(p1.toInt64)))), .second, .val (.double (FP.dneg (FP.i2d p0))), .second, .val (.double (FP.dneg (FP.i2d p1))), .second, .unset] [(.long ((-(p0.toInt64))))])) _
    refine XS.lload X0.here hx rfl (hb hby at_85) rfl ?_
    show Steps p.tables e below (s₁.setTop (mkF m 87 #[.val (.int p0), .val (.int p1), .val (.int p2), .val (.int (1 : Int32)), .val (.int (1 : Int32)), .val (.long ((-(p0.toInt64)))), .second, .val (.long ((-(p1.toInt64)))), .second, .val (.double (FP.dneg (FP.i2d p0))), .second, .val (.double (FP.dneg (FP.i2d p1))), .second, .unset] [(.long ((-(p1.toInt64)))), (.long ((-(p0.toInt64))))])) _
    refine XS.lcmp X0.here hx rfl (hb hby at_87) rfl ?_
    show Steps p.tables e below (s₁.setTop (mkF m 88 #[.val (.int p0), .val (.int p1), .val (.int p2), .val (.int (1 : Int32)), .val (.int (1 : Int32)), .val (.long ((-(p0.toInt64)))), .second, .val (.long ((-(p1.toInt64)))), .second, .val (.double (FP.dneg (FP.i2d p0))), .second, .val (.double (FP.dneg (FP.i2d p1))), .second, .unset] [(.int (lcmpW ((-(p0.toInt64))) ((-(p1.toInt64)))))])) _
    rw [hL]
    show Steps p.tables e below (s₁.setTop (mkF m 88 #[.val (.int p0), .val (.int p1), .val (.int p2), .val (.int (1 : Int32)), .val (.int (1 : Int32)), .val (.long ((-(p0.toInt64)))), .second, .val (.long ((-(p1.toInt64)))), .second, .val (.double (FP.dneg (FP.i2d p0))), .second, .val (.double (FP.dneg (FP.i2d p1))), .second, .unset] [(.int (-1 : Int32))])) _
    refine XS.ifNo X0.here hx rfl (hb hby at_88) rfl ((if0 _ _).trans (tlt ((by decide) : (-1 : Int32) < (0 : Int32))).2.1) ?_
    show Steps p.tables e below (s₁.setTop (mkF m 91 #[.val (.int p0), .val (.int p1), .val (.int p2), .val (.int (1 : Int32)), .val (.int (1 : Int32)), .val (.long ((-(p0.toInt64)))), .second, .val (.long ((-(p1.toInt64)))), .second, .val (.double (FP.dneg (FP.i2d p0))), .second, .val (.double (FP.dneg (FP.i2d p1))), .second, .unset] [])) _
    refine st1 _ ?_
    show Steps p.tables e below (T1.setTop (mkF m 94 #[.val (.int p0), .val (.int p1), .val (.int p2), .val (.int (1 : Int32)), .val (.int (1 : Int32)), .val (.long ((-(p0.toInt64)))), .second, .val (.long ((-(p1.toInt64)))), .second, .val (.double (FP.dneg (FP.i2d p0))), .second, .val (.double (FP.dneg (FP.i2d p1))), .second, .unset] [(.ref w1)])) _
    refine XS.astore X1.here hx rfl (hb hby at_94) rfl rfl (l' := #[.val (.int p0), .val (.int p1), .val (.int p2), .val (.int (1 : Int32)), .val (.int (1 : Int32)), .val (.long ((-(p0.toInt64)))), .second, .val (.long ((-(p1.toInt64)))), .second, .val (.double (FP.dneg (FP.i2d p0))), .second, .val (.double (FP.dneg (FP.i2d p1))), .second, .val (.ref w1)]) rfl ?_
    show Steps p.tables e below (T1.setTop (mkF m 96 #[.val (.int p0), .val (.int p1), .val (.int p2), .val (.int (1 : Int32)), .val (.int (1 : Int32)), .val (.long ((-(p0.toInt64)))), .second, .val (.long ((-(p1.toInt64)))), .second, .val (.double (FP.dneg (FP.i2d p0))), .second, .val (.double (FP.dneg (FP.i2d p1))), .second, .val (.ref w1)] [])) _
    refine XS.goto X1.here hx rfl (pc0 := 96) (pc' := 120) rfl (hb hby at_96) (by decide) (by decide) ?_
    show Steps p.tables e below (T1.setTop (mkF m 120 #[.val (.int p0), .val (.int p1), .val (.int p2), .val (.int (1 : Int32)), .val (.int (1 : Int32)), .val (.long ((-(p0.toInt64)))), .second, .val (.long ((-(p1.toInt64)))), .second, .val (.double (FP.dneg (FP.i2d p0))), .second, .val (.double (FP.dneg (FP.i2d p1))), .second, .val (.ref w1)] [])) _
    refine XS.dload X1.here hx rfl (hb hby at_120) rfl ?_
    show Steps p.tables e below (T1.setTop (mkF m 122 #[.val (.int p0), .val (.int p1), .val (.int p2), .val (.int (1 : Int32)), .val (.int (1 : Int32)), .val (.long ((-(p0.toInt64)))), .second, .val (.long ((-(p1.toInt64)))), .second, .val (.double (FP.dneg (FP.i2d p0))), .second, .val (.double (FP.dneg (FP.i2d p1))), .second, .val (.ref w1)] [(.double (FP.dneg (FP.i2d p0)))])) _
    refine XS.dload X1.here hx rfl (hb hby at_122) rfl ?_
    show Steps p.tables e below (T1.setTop (mkF m 124 #[.val (.int p0), .val (.int p1), .val (.int p2), .val (.int (1 : Int32)), .val (.int (1 : Int32)), .val (.long ((-(p0.toInt64)))), .second, .val (.long ((-(p1.toInt64)))), .second, .val (.double (FP.dneg (FP.i2d p0))), .second, .val (.double (FP.dneg (FP.i2d p1))), .second, .val (.ref w1)] [(.double (FP.dneg (FP.i2d p1))), (.double (FP.dneg (FP.i2d p0)))])) _
    refine st2 _ ?_
    show Steps p.tables e below (T2.setTop (mkF m 127 #[.val (.int p0), .val (.int p1), .val (.int p2), .val (.int (1 : Int32)), .val (.int (1 : Int32)), .val (.long ((-(p0.toInt64)))), .second, .val (.long ((-(p1.toInt64)))), .second, .val (.double (FP.dneg (FP.i2d p0))), .second, .val (.double (FP.dneg (FP.i2d p1))), .second, .val (.ref w1)] [(.ref w1)])) _
    refine XS.aload X2.here hx rfl (hb hby at_127) rfl rfl ?_
    show Steps p.tables e below (T2.setTop (mkF m 129 #[.val (.int p0), .val (.int p1), .val (.int p2), .val (.int (1 : Int32)), .val (.int (1 : Int32)), .val (.long ((-(p0.toInt64)))), .second, .val (.long ((-(p1.toInt64)))), .second, .val (.double (FP.dneg (FP.i2d p0))), .second, .val (.double (FP.dneg (FP.i2d p1))), .second, .val (.ref w1)] [(.ref w1), (.ref w1)])) _
    refine Jvm.RoadKit.acmp (g := (mkF m 129 #[.val (.int p0), .val (.int p1), .val (.int p2), .val (.int (1 : Int32)), .val (.int (1 : Int32)), .val (.long ((-(p0.toInt64)))), .second, .val (.long ((-(p1.toInt64)))), .second, .val (.double (FP.dneg (FP.i2d p0))), .second, .val (.double (FP.dneg (FP.i2d p1))), .second, .val (.ref w1)] [(.ref w1), (.ref w1)])) X2 hx rfl rfl rfl (pc0 := 129) (pc' := 132) (same := true) rfl (hb hby at_129) rfl (decide_eq_true rfl) (by decide) (by decide) ?_
    show Steps p.tables e below (T2.setTop (mkF m 132 #[.val (.int p0), .val (.int p1), .val (.int p2), .val (.int (1 : Int32)), .val (.int (1 : Int32)), .val (.long ((-(p0.toInt64)))), .second, .val (.long ((-(p1.toInt64)))), .second, .val (.double (FP.dneg (FP.i2d p0))), .second, .val (.double (FP.dneg (FP.i2d p1))), .second, .val (.ref w1)] [])) _
    refine XS.iconst X2.here hx rfl (hb hby at_132) ?_
    show Steps p.tables e below (T2.setTop (mkF m 133 #[.val (.int p0), .val (.int p1), .val (.int p2), .val (.int (1 : Int32)), .val (.int (1 : Int32)), .val (.long ((-(p0.toInt64)))), .second, .val (.long ((-(p1.toInt64)))), .second, .val (.double (FP.dneg (FP.i2d p0))), .second, .val (.double (FP.dneg (FP.i2d p1))), .second, .val (.ref w1)] [(.int (1 : Int32))])) _
    refine XS.goto X2.here hx rfl (pc0 := 133) (pc' := 137) rfl (hb hby at_133) (by decide) (by decide) ?_
    show Steps p.tables e below (T2.setTop (mkF m 137 #[.val (.int p0), .val (.int p1), .val (.int p2), .val (.int (1 : Int32)), .val (.int (1 : Int32)), .val (.long ((-(p0.toInt64)))), .second, .val (.long ((-(p1.toInt64)))), .second, .val (.double (FP.dneg (FP.i2d p0))), .second, .val (.double (FP.dneg (FP.i2d p1))), .second, .val (.ref w1)] [(.int (1 : Int32))])) _
    exact retN X2 hx (t := .boolean) Bd.returns (by simp) (hb hby at_137) hr
  · exact ⟨rfl, N2, e2⟩
set_option maxRecDepth 65536 in
set_option maxHeartbeats 40000000 in
theorem rm_1_1_1 (l : Launch) (Z : State) (a0 : Array Value) (hw : ∀ d ∈ tables_1, d.before a0 Z = true) (ws : List Jvm.Cond) (x0 x1 : UInt64) (w0 : Addr) (w1 : Addr) (w2 : Addr) (h0 : Heap) (n0 : Nat) (O : Old Z n0 h0) (hG : GG Z w0 w1 w2) (hD : ∀ o, cmpValue (FP.dcmp x0 x1) o = (0 : Int32)) :
    MetFree l (⟨"com/example/fieldward/fieldward/validation/OrderedKind$Order", "of", "(DD)Lcom/example/fieldward/fieldward/validation/OrderedKind$Order;"⟩ : MethodName) (head1 (Jvm.Cond.code (⟨"com/example/fieldward/fieldward/validation/OrderedKind$Order", "of", "(DD)Lcom/example/fieldward/fieldward/validation/OrderedKind$Order;"⟩ : MethodName) prog_15_method_5_code 5 (some (.object "com/example/fieldward/fieldward/validation/OrderedKind$Order")) :: ws) ({ frames := 0, cells := 0, slots := 0, locals := 0 } : Room)) (fun a U => a = #[(.double x0), (.double x1)] ∧ Z.Warmed39 U.vm ∧ U.heap = h0) (fun _ _ _ _ _ => True) (fun _ U o U' => ∃ v L, o = .returned v ∧ Qv (some (.ref w2)) h0 n0 v U'.heap L ∧ FrameEnd U o U' L ({ frames := 0, cells := 0, slots := 0, locals := 0 } : Room).cells ({ frames := 0, cells := 0, slots := 0, locals := 0 } : Room).slots) := by
  refine MetFree.of_bodySF (plainFor_of_name pn_com_example_fieldward_fieldward_validation_OrderedKind_Order) hisR ?_
  intro p e s m args below meth c s₁ Bd hml0 hP hK
  obtain ⟨rfl, hZ, hh⟩ := hP
  have hx := Bd.exec
  have hby := Bd.bytes
  have hml : c.maxLocals = 5 := hml0
  have hown : s.vm.findClass "com/example/fieldward/fieldward/validation/OrderedKind$Order" = some m.cls := findClass_of_methodNamed Bd.named
  have hnm := (name_of_methodNamed Bd.named Bd.method).1
  have X0 : Stand p l e ({ frames := 0, cells := 0, slots := 0, locals := 0 } : Room) s m #[(.double x0), (.double x1)] below meth c s₁ [] 0 0 := Stand.of_body Bd
  have e0 : s₁.heap = h0 := by rw [← hh, Bd.state]; rfl
  have N0 := Fr.nil n0
  have pre0 : ∀ t, Steps p.tables e below (s₁.setTop (mkF m 0 #[.val (.double x0), .second, .val (.double x1), .second, .unset] [])) t → Steps p.tables e below (s₁.setTop (entryFrame m #[(.double x0), (.double x1)] 5)) t := fun t k => castTop (ef_5_DD m x0 x1) k
  obtain ⟨Sw0, Sw1, Sw2, Ew0, Ew1, Ew2⟩ := id hG
  obtain ⟨T1, X1, e1, st1⟩ := getS2 X0 hx hZ hown (host := "") (Or.inl (hw _ (List.mem_of_getElem? (i := 12) rfl))) Via.refl e0 (Sw2.ext O.2) (g := (mkF m 34 #[.val (.double x0), .second, .val (.double x1), .second, .unset] [])) rfl (hb hby d1_34)
  obtain ⟨fs, hr, hrun, hended, hW, hsame⟩ := X1.leave (v := some (.ref w2)) (fun h => by rw [Bd.returns] at h; cases h)
  refine ⟨_, _, pre0 _ ?_, hrun, hended, _, _, rfl, ?_, ⟨_, rfl⟩, hW, hsame.mono (by decide) (by decide)⟩
  · show Steps p.tables e below (s₁.setTop (mkF m 0 #[.val (.double x0), .second, .val (.double x1), .second, .unset] [])) _
    refine XS.dloadN X0.here hx rfl (hb hby d1_0) rfl ?_
    show Steps p.tables e below (s₁.setTop (mkF m 1 #[.val (.double x0), .second, .val (.double x1), .second, .unset] [(.double x0)])) _
    refine XS.dloadN X0.here hx rfl (hb hby d1_1) rfl ?_
    show Steps p.tables e below (s₁.setTop (mkF m 2 #[.val (.double x0), .second, .val (.double x1), .second, .unset] [(.double x1), (.double x0)])) _
    refine XS.dcmpS X0.here hx rfl (hb hby d1_2) rfl rfl ?_
    show Steps p.tables e below (s₁.setTop (mkF m 3 #[.val (.double x0), .second, .val (.double x1), .second, .unset] [(.int (cmpValue (FP.dcmp x0 x1) .g))])) _
    rw [hD]
    show Steps p.tables e below (s₁.setTop (mkF m 3 #[.val (.double x0), .second, .val (.double x1), .second, .unset] [(.int (0 : Int32))])) _
    refine XS.ifYes X0.here hx rfl (pc0 := 3) (pc' := 14) rfl (hb hby d1_3) rfl ((if0 _ _).trans (flt ((by decide) : ¬ ((0 : Int32) < (0 : Int32)))).2.1) (by decide) (by decide) ?_
    show Steps p.tables e below (s₁.setTop (mkF m 14 #[.val (.double x0), .second, .val (.double x1), .second, .unset] [])) _
    refine XS.dloadN X0.here hx rfl (hb hby d1_14) rfl ?_
    show Steps p.tables e below (s₁.setTop (mkF m 15 #[.val (.double x0), .second, .val (.double x1), .second, .unset] [(.double x0)])) _
    refine XS.dloadN X0.here hx rfl (hb hby d1_15) rfl ?_
    show Steps p.tables e below (s₁.setTop (mkF m 16 #[.val (.double x0), .second, .val (.double x1), .second, .unset] [(.double x1), (.double x0)])) _
    refine XS.dcmpS X0.here hx rfl (hb hby d1_16) rfl rfl ?_
    show Steps p.tables e below (s₁.setTop (mkF m 17 #[.val (.double x0), .second, .val (.double x1), .second, .unset] [(.int (cmpValue (FP.dcmp x0 x1) .l))])) _
    rw [hD]
    show Steps p.tables e below (s₁.setTop (mkF m 17 #[.val (.double x0), .second, .val (.double x1), .second, .unset] [(.int (0 : Int32))])) _
    refine XS.ifYes X0.here hx rfl (pc0 := 17) (pc' := 28) rfl (hb hby d1_17) rfl ((if0 _ _).trans (flt ((by decide) : ¬ ((0 : Int32) < (0 : Int32)))).2.2.2) (by decide) (by decide) ?_
    show Steps p.tables e below (s₁.setTop (mkF m 28 #[.val (.double x0), .second, .val (.double x1), .second, .unset] [])) _
    refine XS.dloadN X0.here hx rfl (hb hby d1_28) rfl ?_
    show Steps p.tables e below (s₁.setTop (mkF m 29 #[.val (.double x0), .second, .val (.double x1), .second, .unset] [(.double x0)])) _
    refine XS.dloadN X0.here hx rfl (hb hby d1_29) rfl ?_
    show Steps p.tables e below (s₁.setTop (mkF m 30 #[.val (.double x0), .second, .val (.double x1), .second, .unset] [(.double x1), (.double x0)])) _
    refine XS.dcmpS X0.here hx rfl (hb hby d1_30) rfl rfl ?_
    show Steps p.tables e below (s₁.setTop (mkF m 31 #[.val (.double x0), .second, .val (.double x1), .second, .unset] [(.int (cmpValue (FP.dcmp x0 x1) .l))])) _
    rw [hD]
    show Steps p.tables e below (s₁.setTop (mkF m 31 #[.val (.double x0), .second, .val (.double x1), .second, .unset] [(.int (0 : Int32))])) _
    refine XS.ifNo X0.here hx rfl (hb hby d1_31) rfl ((if0 _ _).trans (teq ((by decide) : (0 : Int32) = (0 : Int32))).2) ?_
    show Steps p.tables e below (s₁.setTop (mkF m 34 #[.val (.double x0), .second, .val (.double x1), .second, .unset] [])) _
    refine st1 _ ?_
    show Steps p.tables e below (T1.setTop (mkF m 37 #[.val (.double x0), .second, .val (.double x1), .second, .unset] [(.ref w2)])) _
    refine XS.astore X1.here hx rfl (hb hby d1_37) rfl rfl (l' := #[.val (.double x0), .second, .val (.double x1), .second, .val (.ref w2)]) rfl ?_
    show Steps p.tables e below (T1.setTop (mkF m 39 #[.val (.double x0), .second, .val (.double x1), .second, .val (.ref w2)] [])) _
    refine XS.goto X1.here hx rfl (pc0 := 39) (pc' := 47) rfl (hb hby d1_39) (by decide) (by decide) ?_
    show Steps p.tables e below (T1.setTop (mkF m 47 #[.val (.double x0), .second, .val (.double x1), .second, .val (.ref w2)] [])) _
    refine XS.aload X1.here hx rfl (hb hby d1_47) rfl rfl ?_
    show Steps p.tables e below (T1.setTop (mkF m 49 #[.val (.double x0), .second, .val (.double x1), .second, .val (.ref w2)] [(.ref w2)])) _
    exact retOut X1 hx Bd.returns rfl (Or.inr (Or.inr (Or.inr (Or.inr ⟨rfl, rfl, rfl⟩)))) (hb hby d1_49) hr
  · exact ⟨rfl, N0, e1⟩
set_option maxRecDepth 65536 in
set_option maxHeartbeats 40000000 in
theorem rl_1_1_1 (l : Launch) (Z : State) (a0 : Array Value) (hw : ∀ d ∈ tables_1, d.before a0 Z = true) (ws : List Jvm.Cond) (p0 p1 p2 : Int32) (w0 : Addr) (w1 : Addr) (w2 : Addr) (h0 : Heap) (n0 : Nat) (O : Old Z n0 h0) (hG : GG Z w0 w1 w2) (hA : p2 &&& (1 : Int32) = (1 : Int32)) (hB : ¬ (p2 &&& (2 : Int32) = (0 : Int32))) (hL : lcmpW (-(p0.toInt64)) (-(p1.toInt64)) = (0 : Int32)) (hD : ∀ o, cmpValue (FP.dcmp (FP.dneg (FP.i2d p0)) (FP.dneg (FP.i2d p1))) o = (0 : Int32)) :
    MetFree l x (head1 (Jvm.Cond.code x code maxLocals ret :: ws) room_1) (fun a U => a = #[(.int p0), (.int p1), (.int p2)] ∧ Z.Warmed39 U.vm ∧ U.heap = h0) (fun _ _ _ _ _ => True) (fun _ U o U' => ∃ v L, o = .returned v ∧ Qv (some (.int (1 : Int32))) h0 n0 v U'.heap L ∧ FrameEnd U o U' L 0 0) := by
  refine MetFree.of_bodySF (plainFor_of_name pn_com_example_fieldward_fieldward_validation_OrderOfPinLaw) hisR ?_
  intro p e s m args below meth c s₁ Bd hml0 hP hK
  obtain ⟨rfl, hZ, hh⟩ := hP
  have hx := Bd.exec
  have hby := Bd.bytes
  have hml : c.maxLocals = 14 := hml0
  have hown : s.vm.findClass "com/example/fieldward/fieldward/validation/OrderOfPinLaw" = some m.cls := findClass_of_methodNamed Bd.named
  have hnm := (name_of_methodNamed Bd.named Bd.method).1
  have X0 : Stand p l e room_1 s m #[(.int p0), (.int p1), (.int p2)] below meth c s₁ [] 0 0 := Stand.of_body Bd
  have e0 : s₁.heap = h0 := by rw [← hh, Bd.state]; rfl
  have N0 := Fr.nil n0
  have pre0 : ∀ t, Steps p.tables e below (s₁.setTop (mkF m 0 #[.val (.int p0), .val (.int p1), .val (.int p2), .unset, .unset, .unset, .unset, .unset, .unset, .unset, .unset, .unset, .unset, .unset] [])) t → Steps p.tables e below (s₁.setTop (entryFrame m #[(.int p0), (.int p1), (.int p2)] maxLocals)) t := fun t k => castTop (ef_maxLocals_III m p0 p1 p2) k
  obtain ⟨Sw0, Sw1, Sw2, Ew0, Ew1, Ew2⟩ := id hG
  obtain ⟨T1, X1, e1, st1⟩ := getS2 X0 hx hZ hown (host := "") (Or.inl (hw _ (List.mem_of_getElem? (i := 10) rfl))) Via.refl e0 (Sw2.ext O.2) (g := (mkF m 115 #[.val (.int p0), .val (.int p1), .val (.int p2), .val (.int (1 : Int32)), .val (.int (1 : Int32)), .val (.long ((-(p0.toInt64)))), .second, .val (.long ((-(p1.toInt64)))), .second, .val (.double (FP.dneg (FP.i2d p0))), .second, .val (.double (FP.dneg (FP.i2d p1))), .second, .unset] [])) rfl (hb hby at_115)
  obtain ⟨_, _, ⟨T2, L2, k2, n2⟩, -, X2, ⟨Lc2, hQ2, l2, y2, z2⟩, st2⟩ := Jvm.LawKit.callS X1 hx (y := (⟨"com/example/fieldward/fieldward/validation/OrderedKind$Order", "of", "(DD)Lcom/example/fieldward/fieldward/validation/OrderedKind$Order;"⟩ : MethodName)) hown (mvT hZ (hw _ (List.mem_of_getElem? (i := 3) rfl))) (mvT hZ (hw _ (List.mem_of_getElem? (i := 4) rfl))) (mvT hZ (hw _ (List.mem_of_getElem? (i := 1) rfl))) (mvT hZ (hw _ (List.mem_of_getElem? (i := 5) rfl))) (by decide) (backOf (W := 0) (rm_1_1_1 l Z a0 hw [] (FP.dneg (FP.i2d p0)) (FP.dneg (FP.i2d p1)) w0 w1 w2 h0 n0 O hG hD) hZ (hw _ (List.mem_of_getElem? (i := 5) rfl)) (hw _ (List.mem_of_getElem? (i := 1) rfl)) (by decide) (by decide)) (g := (mkF m 124 #[.val (.int p0), .val (.int p1), .val (.int p2), .val (.int (1 : Int32)), .val (.int (1 : Int32)), .val (.long ((-(p0.toInt64)))), .second, .val (.long ((-(p1.toInt64)))), .second, .val (.double (FP.dneg (FP.i2d p0))), .second, .val (.double (FP.dneg (FP.i2d p1))), .second, .val (.ref w2)] [(.double (FP.dneg (FP.i2d p1))), (.double (FP.dneg (FP.i2d p0)))])) rfl (by rw [hml]; rfl) (argsL := [(.double (FP.dneg (FP.i2d p0))), (.double (FP.dneg (FP.i2d p1)))]) (rest := []) (lenOf pd_28DD29Lcom2fexample2ffieldward2ffieldward2fvalidation2fOrderedKind24Order3b rfl) rfl (by show 2 * 0 + _ ≤ _; exact Nat.le_of_eq rfl) (hb hby at_124) (fun _ _ => ⟨rfl, e1, (by decide : 0 + 0 ≤ _), (by decide : 0 + 0 ≤ _)⟩)
  dsimp only [Pt.U, Pt.locs, Pt.cells, Pt.slots] at X2 l2 y2 z2 st2 hQ2
  subst l2 y2 z2
  obtain ⟨rfl, N2q, e2⟩ := hQ2
  have N2 := Fr.app N0 N2q
  obtain ⟨fs, hr, hrun, hended, hW, hsame⟩ := X2.leave (v := some (.int (1 : Int32))) (fun h => by rw [Bd.returns] at h; cases h)
  refine ⟨_, _, pre0 _ ?_, hrun, hended, _, _, rfl, ?_, ⟨_, rfl⟩, hW, hsame.mono (by decide) (by decide)⟩
  · show Steps p.tables e below (s₁.setTop (mkF m 0 #[.val (.int p0), .val (.int p1), .val (.int p2), .unset, .unset, .unset, .unset, .unset, .unset, .unset, .unset, .unset, .unset, .unset] [])) _
    refine XS.iloadN X0.here hx rfl (hb hby at_0) rfl ?_
    show Steps p.tables e below (s₁.setTop (mkF m 1 #[.val (.int p0), .val (.int p1), .val (.int p2), .unset, .unset, .unset, .unset, .unset, .unset, .unset, .unset, .unset, .unset, .unset] [(.int p2)])) _
    refine XS.iconst X0.here hx rfl (hb hby at_1) ?_
    show Steps p.tables e below (s₁.setTop (mkF m 2 #[.val (.int p0), .val (.int p1), .val (.int p2), .unset, .unset, .unset, .unset, .unset, .unset, .unset, .unset, .unset, .unset, .unset] [(.int (1 : Int32)), (.int p2)])) _
    refine XS.iand X0.here hx rfl (hb hby at_2) rfl ?_
    show Steps p.tables e below (s₁.setTop (mkF m 3 #[.val (.int p0), .val (.int p1), .val (.int p2), .unset, .unset, .unset, .unset, .unset, .unset, .unset, .unset, .unset, .unset, .unset] [(.int (p2 &&& (1 : Int32)))])) _
    rw [hA]
    show Steps p.tables e below (s₁.setTop (mkF m 3 #[.val (.int p0), .val (.int p1), .val (.int p2), .unset, .unset, .unset, .unset, .unset, .unset, .unset, .unset, .unset, .unset, .unset] [(.int (1 : Int32))])) _
    refine XS.ifNo X0.here hx rfl (hb hby at_3) rfl ((if0 _ _).trans (feq ((by decide) : ¬ ((1 : Int32) = (0 : Int32)))).1) ?_
    show Steps p.tables e below (s₁.setTop (mkF m 6 #[.val (.int p0), .val (.int p1), .val (.int p2), .unset, .unset, .unset, .unset, .unset, .unset, .unset, .unset, .unset, .unset, .unset] [])) _
    refine XS.iconst X0.here hx rfl (hb hby at_6) ?_
    show Steps p.tables e below (s₁.setTop (mkF m 7 #[.val (.int p0), .val (.int p1), .val (.int p2), .unset, .unset, .unset, .unset, .unset, .unset, .unset, .unset, .unset, .unset, .unset] [(.int (1 : Int32))])) _
    refine XS.goto X0.here hx rfl (pc0 := 7) (pc' := 11) rfl (hb hby at_7) (by decide) (by decide) ?_
    show Steps p.tables e below (s₁.setTop (mkF m 11 #[.val (.int p0), .val (.int p1), .val (.int p2), .unset, .unset, .unset, .unset, .unset, .unset, .unset, .unset, .unset, .unset, .unset] [(.int (1 : Int32))])) _
    refine XS.istoreN X0.here hx rfl (hb hby at_11) rfl (l' := #[.val (.int p0), .val (.int p1), .val (.int p2), .val (.int (1 : Int32)), .unset, .unset, .unset, .unset, .unset, .unset, .unset, .unset, .unset, .unset]) rfl ?_
    show Steps p.tables e below (s₁.setTop (mkF m 12 #[.val (.int p0), .val (.int p1), .val (.int p2), .val (.int (1 : Int32)), .unset, .unset, .unset, .unset, .unset, .unset, .unset, .unset, .unset, .unset] [])) _
    refine XS.iloadN X0.here hx rfl (hb hby at_12) rfl ?_
    show Steps p.tables e below (s₁.setTop (mkF m 13 #[.val (.int p0), .val (.int p1), .val (.int p2), .val (.int (1 : Int32)), .unset, .unset, .unset, .unset, .unset, .unset, .unset, .unset, .unset, .unset] [(.int p2)])) _
    refine XS.iconst X0.here hx rfl (hb hby at_13) ?_
    show Steps p.tables e below (s₁.setTop (mkF m 14 #[.val (.int p0), .val (.int p1), .val (.int p2), .val (.int (1 : Int32)), .unset, .unset, .unset, .unset, .unset, .unset, .unset, .unset, .unset, .unset] [(.int (2 : Int32)), (.int p2)])) _
    refine XS.iand X0.here hx rfl (hb hby at_14) rfl ?_
    show Steps p.tables e below (s₁.setTop (mkF m 15 #[.val (.int p0), .val (.int p1), .val (.int p2), .val (.int (1 : Int32)), .unset, .unset, .unset, .unset, .unset, .unset, .unset, .unset, .unset, .unset] [(.int (p2 &&& (2 : Int32)))])) _
    refine XS.ifNo X0.here hx rfl (hb hby at_15) rfl ((if0 _ _).trans (feq (hB : ¬ ((p2 &&& (2 : Int32)) = (0 : Int32)))).1) ?_
    show Steps p.tables e below (s₁.setTop (mkF m 18 #[.val (.int p0), .val (.int p1), .val (.int p2), .val (.int (1 : Int32)), .unset, .unset, .unset, .unset, .unset, .unset, .unset, .unset, .unset, .unset] [])) _
    refine XS.iconst X0.here hx rfl (hb hby at_18) ?_
    show Steps p.tables e below (s₁.setTop (mkF m 19 #[.val (.int p0), .val (.int p1), .val (.int p2), .val (.int (1 : Int32)), .unset, .unset, .unset, .unset, .unset, .unset, .unset, .unset, .unset, .unset] [(.int (1 : Int32))])) _
    refine XS.goto X0.here hx rfl (pc0 := 19) (pc' := 23) rfl (hb hby at_19) (by decide) (by decide) ?_
    show Steps p.tables e below (s₁.setTop (mkF m 23 #[.val (.int p0), .val (.int p1), .val (.int p2), .val (.int (1 : Int32)), .unset, .unset, .unset, .unset, .unset, .unset, .unset, .unset, .unset, .unset] [(.int (1 : Int32))])) _
    refine XS.istore X0.here hx rfl (hb hby at_23) rfl (l' := #[.val (.int p0), .val (.int p1), .val (.int p2), .val (.int (1 : Int32)), .val (.int (1 : Int32)), .unset, .unset, .unset, .unset, .unset, .unset, .unset, .unset, .unset]) rfl ?_
    show Steps p.tables e below (s₁.setTop (mkF m 25 #[.val (.int p0), .val (.int p1), .val (.int p2), .val (.int (1 : Int32)), .val (.int (1 : Int32)), .unset, .unset, .unset, .unset, .unset, .unset, .unset, .unset, .unset] [])) _
    refine XS.iloadN X0.here hx rfl (hb hby at_25) rfl ?_
    show Steps p.tables e below (s₁.setTop (mkF m 26 #[.val (.int p0), .val (.int p1), .val (.int p2), .val (.int (1 : Int32)), .val (.int (1 : Int32)), .unset, .unset, .unset, .unset, .unset, .unset, .unset, .unset, .unset] [(.int (1 : Int32))])) _
    refine XS.ifNo X0.here hx rfl (hb hby at_26) rfl ((if0 _ _).trans (feq ((by decide) : ¬ ((1 : Int32) = (0 : Int32)))).1) ?_
    show Steps p.tables e below (s₁.setTop (mkF m 29 #[.val (.int p0), .val (.int p1), .val (.int p2), .val (.int (1 : Int32)), .val (.int (1 : Int32)), .unset, .unset, .unset, .unset, .unset, .unset, .unset, .unset, .unset] [])) _
    refine XS.iloadN X0.here hx rfl (hb hby at_29) rfl ?_
    show Steps p.tables e below (s₁.setTop (mkF m 30 #[.val (.int p0), .val (.int p1), .val (.int p2), .val (.int (1 : Int32)), .val (.int (1 : Int32)), .unset, .unset, .unset, .unset, .unset, .unset, .unset, .unset, .unset] [(.int p0)])) _
    refine XS.i2l X0.here hx rfl (hb hby at_30) rfl ?_
    show Steps p.tables e below (s₁.setTop (mkF m 31 #[.val (.int p0), .val (.int p1), .val (.int p2), .val (.int (1 : Int32)), .val (.int (1 : Int32)), .unset, .unset, .unset, .unset, .unset, .unset, .unset, .unset, .unset] [(.long (p0.toInt64))])) _
    refine XS.lneg X0.here hx rfl (hb hby at_31) rfl ?_
    show Steps p.tables e below (s₁.setTop (mkF m 32 #[.val (.int p0), .val (.int p1), .val (.int p2), .val (.int (1 : Int32)), .val (.int (1 : Int32)), .unset, .unset, .unset, .unset, .unset, .unset, .unset, .unset, .unset] [(.long ((-(p0.toInt64))))])) _
    refine XS.goto X0.here hx rfl (pc0 := 32) (pc' := 37) rfl (hb hby at_32) (by decide) (by decide) ?_
    show Steps p.tables e below (s₁.setTop (mkF m 37 #[.val (.int p0), .val (.int p1), .val (.int p2), .val (.int (1 : Int32)), .val (.int (1 : Int32)), .unset, .unset, .unset, .unset, .unset, .unset, .unset, .unset, .unset] [(.long ((-(p0.toInt64))))])) _
    refine XS.lstore X0.here hx rfl (hb hby at_37) rfl (l' := #[.val (.int p0), .val (.int p1), .val (.int p2), .val (.int (1 : Int32)), .val (.int (1 : Int32)), .val (.long ((-(p0.toInt64)))), .second, .unset, .unset, .unset, .unset, .unset, .unset, .unset]) rfl ?_
    show Steps p.tables e below (s₁.setTop (mkF m 39 #[.val (.int p0), .val (.int p1), .val (.int p2), .val (.int (1 : Int32)), .val (.int (1 : Int32)), .val (.long ((-(p0.toInt64)))), .second, .unset, .unset, .unset, .unset, .unset, .unset, .unset] [])) _
    refine XS.iload X0.here hx rfl (hb hby at_39) rfl ?_
    show Steps p.tables e below (s₁.setTop (mkF m 41 #[.val (.int p0), .val (.int p1), .val (.int p2), .val (.int (1 : Int32)), .val (.int (1 : Int32)), .val (.long ((-(p0.toInt64)))), .second, .unset, .unset, .unset, .unset, .unset, .unset, .unset] [(.int (1 : Int32))])) _
    refine XS.ifNo X0.here hx rfl (hb hby at_41) rfl ((if0 _ _).trans (feq ((by decide) : ¬ ((1 : Int32) = (0 : Int32)))).1) ?_
    show Steps p.tables e below (s₁.setTop (mkF m 44 #[.val (.int p0), .val (.int p1), .val (.int p2), .val (.int (1 : Int32)), .val (.int (1 : Int32)), .val (.long ((-(p0.toInt64)))), .second, .unset, .unset, .unset, .unset, .unset, .unset, .unset] [])) _
    refine XS.iloadN X0.here hx rfl (hb hby at_44) rfl ?_
    show Steps p.tables e below (s₁.setTop (mkF m 45 #[.val (.int p0), .val (.int p1), .val (.int p2), .val (.int (1 : Int32)), .val (.int (1 : Int32)), .val (.long ((-(p0.toInt64)))), .second, .unset, .unset, .unset, .unset, .unset, .unset, .unset] [(.int p1)])) _
    refine XS.i2l X0.here hx rfl (hb hby at_45) rfl ?_
    show Steps p.tables e below (s₁.setTop (mkF m 46 #[.val (.int p0), .val (.int p1), .val (.int p2), .val (.int (1 : Int32)), .val (.int (1 : Int32)), .val (.long ((-(p0.toInt64)))), .second, .unset, .unset, .unset, .unset, .unset, .unset, .unset] [(.long (p1.toInt64))])) _
    refine XS.lneg X0.here hx rfl (hb hby at_46) rfl ?_
    show Steps p.tables e below (s₁.setTop (mkF m 47 #[.val (.int p0), .val (.int p1), .val (.int p2), .val (.int (1 : Int32)), .val (.int (1 : Int32)), .val (.long ((-(p0.toInt64)))), .second, .unset, .unset, .unset, .unset, .unset, .unset, .unset] [(.long ((-(p1.toInt64))))])) _
    refine XS.goto X0.here hx rfl (pc0 := 47) (pc' := 52) rfl (hb hby at_47) (by decide) (by decide) ?_
    show Steps p.tables e below (s₁.setTop (mkF m 52 #[.val (.int p0), .val (.int p1), .val (.int p2), .val (.int (1 : Int32)), .val (.int (1 : Int32)), .val (.long ((-(p0.toInt64)))), .second, .unset, .unset, .unset, .unset, .unset, .unset, .unset] [(.long ((-(p1.toInt64))))])) _
    refine XS.lstore X0.here hx rfl (hb hby at_52) rfl (l' := #[.val (.int p0), .val (.int p1), .val (.int p2), .val (.int (1 : Int32)), .val (.int (1 : Int32)), .val (.long ((-(p0.toInt64)))), .second, .val (.long ((-(p1.toInt64)))), .second, .unset, .unset, .unset, .unset, .unset]) rfl ?_
    show Steps p.tables e below (s₁.setTop (mkF m 54 #[.val (.int p0), .val (.int p1), .val (.int p2), .val (.int (1 : Int32)), .val (.int (1 : Int32)), .val (.long ((-(p0.toInt64)))), .second, .val (.long ((-(p1.toInt64)))), .second, .unset, .unset, .unset, .unset, .unset] [])) _
    refine XS.iloadN X0.here hx rfl (hb hby at_54) rfl ?_
    show Steps p.tables e below (s₁.setTop (mkF m 55 #[.val (.int p0), .val (.int p1), .val (.int p2), .val (.int (1 : Int32)), .val (.int (1 : Int32)), .val (.long ((-(p0.toInt64)))), .second, .val (.long ((-(p1.toInt64)))), .second, .unset, .unset, .unset, .unset, .unset] [(.int (1 : Int32))])) _
    refine XS.ifNo X0.here hx rfl (hb hby at_55) rfl ((if0 _ _).trans (feq ((by decide) : ¬ ((1 : Int32) = (0 : Int32)))).1) ?_
    show Steps p.tables e below (s₁.setTop (mkF m 58 #[.val (.int p0), .val (.int p1), .val (.int p2), .val (.int (1 : Int32)), .val (.int (1 : Int32)), .val (.long ((-(p0.toInt64)))), .second, .val (.long ((-(p1.toInt64)))), .second, .unset, .unset, .unset, .unset, .unset] [])) _
    refine XS.iloadN X0.here hx rfl (hb hby at_58) rfl ?_
    show Steps p.tables e below (s₁.setTop (mkF m 59 #[.val (.int p0), .val (.int p1), .val (.int p2), .val (.int (1 : Int32)), .val (.int (1 : Int32)), .val (.long ((-(p0.toInt64)))), .second, .val (.long ((-(p1.toInt64)))), .second, .unset, .unset, .unset, .unset, .unset] [(.int p0)])) _
    refine XS.i2dS X0.here hx rfl (hb hby at_59) rfl rfl ?_
    show Steps p.tables e below (s₁.setTop (mkF m 60 #[.val (.int p0), .val (.int p1), .val (.int p2), .val (.int (1 : Int32)), .val (.int (1 : Int32)), .val (.long ((-(p0.toInt64)))), .second, .val (.long ((-(p1.toInt64)))), .second, .unset, .unset, .unset, .unset, .unset] [(.double (FP.i2d p0))])) _
    refine XS.dnegS X0.here hx rfl (hb hby at_60) rfl rfl ?_
    show Steps p.tables e below (s₁.setTop (mkF m 61 #[.val (.int p0), .val (.int p1), .val (.int p2), .val (.int (1 : Int32)), .val (.int (1 : Int32)), .val (.long ((-(p0.toInt64)))), .second, .val (.long ((-(p1.toInt64)))), .second, .unset, .unset, .unset, .unset, .unset] [(.double (FP.dneg (FP.i2d p0)))])) _
    refine XS.goto X0.here hx rfl (pc0 := 61) (pc' := 66) rfl (hb hby at_61) (by decide) (by decide) ?_
    show Steps p.tables e below (s₁.setTop (mkF m 66 #[.val (.int p0), .val (.int p1), .val (.int p2), .val (.int (1 : Int32)), .val (.int (1 : Int32)), .val (.long ((-(p0.toInt64)))), .second, .val (.long ((-(p1.toInt64)))), .second, .unset, .unset, .unset, .unset, .unset] [(.double (FP.dneg (FP.i2d p0)))])) _
    refine XS.dstore X0.here hx rfl (hb hby at_66) rfl (l' := #[.val (.int p0), .val (.int p1), .val (.int p2), .val (.int (1 : Int32)), .val (.int (1 : Int32)), .val (.long ((-(p0.toInt64)))), .second, .val (.long ((-(p1.toInt64)))), .second, .val (.double (FP.dneg (FP.i2d p0))), .second, .unset, .unset, .unset]) rfl ?_
    show Steps p.tables e below (s₁.setTop (mkF m 68 #[.val (.int p0), .val (.int p1), .val (.int p2), .val (.int (1 : Int32)), .val (.int (1 : Int32)), .val (.long ((-(p0.toInt64)))), .second, .val (.long ((-(p1.toInt64)))), .second, .val (.double (FP.dneg (FP.i2d p0))), .second, .unset, .unset, .unset] [])) _
    refine XS.iload X0.here hx rfl (hb hby at_68) rfl ?_
    show Steps p.tables e below (s₁.setTop (mkF m 70 #[.val (.int p0), .val (.int p1), .val (.int p2), .val (.int (1 : Int32)), .val (.int (1 : Int32)), .val (.long ((-(p0.toInt64)))), .second, .val (.long ((-(p1.toInt64)))), .second, .val (.double (FP.dneg (FP.i2d p0))), .second, .unset, .unset, .unset] [(.int (1 : Int32))])) _
    refine XS.ifNo X0.here hx rfl (hb hby at_70) rfl ((if0 _ _).trans (feq ((by decide) : ¬ ((1 : Int32) = (0 : Int32)))).1) ?_
    show Steps p.tables e below (s₁.setTop (mkF m 73 #[.val (.int p0), .val (.int p1), .val (.int p2), .val (.int (1 : Int32)), .val (.int (1 : Int32)), .val (.long ((-(p0.toInt64)))), .second, .val (.long ((-(p1.toInt64)))), .second, .val (.double (FP.dneg (FP.i2d p0))), .second, .unset, .unset, .unset] [])) _
    refine XS.iloadN X0.here hx rfl (hb hby at_73) rfl ?_
    show Steps p.tables e below (s₁.setTop (mkF m 74 #[.val (.int p0), .val (.int p1), .val (.int p2), .val (.int (1 : Int32)), .val (.int (1 : Int32)), .val (.long ((-(p0.toInt64)))), .second, .val (.long ((-(p1.toInt64)))), .second, .val (.double (FP.dneg (FP.i2d p0))), .second, .unset, .unset, .unset] [(.int p1)])) _
    refine XS.i2dS X0.here hx rfl (hb hby at_74) rfl rfl ?_
    show Steps p.tables e below (s₁.setTop (mkF m 75 #[.val (.int p0), .val (.int p1), .val (.int p2), .val (.int (1 : Int32)), .val (.int (1 : Int32)), .val (.long ((-(p0.toInt64)))), .second, .val (.long ((-(p1.toInt64)))), .second, .val (.double (FP.dneg (FP.i2d p0))), .second, .unset, .unset, .unset] [(.double (FP.i2d p1))])) _
    refine XS.dnegS X0.here hx rfl (hb hby at_75) rfl rfl ?_
    show Steps p.tables e below (s₁.setTop (mkF m 76 #[.val (.int p0), .val (.int p1), .val (.int p2), .val (.int (1 : Int32)), .val (.int (1 : Int32)), .val (.long ((-(p0.toInt64)))), .second, .val (.long ((-(p1.toInt64)))), .second, .val (.double (FP.dneg (FP.i2d p0))), .second, .unset, .unset, .unset] [(.double (FP.dneg (FP.i2d p1)))])) _
    refine XS.goto X0.here hx rfl (pc0 := 76) (pc' := 81) rfl (hb hby at_76) (by decide) (by decide) ?_
    show Steps p.tables e below (s₁.setTop (mkF m 81 #[.val (.int p0), .val (.int p1), .val (.int p2), .val (.int (1 : Int32)), .val (.int (1 : Int32)), .val (.long ((-(p0.toInt64)))), .second, .val (.long ((-(p1.toInt64)))), .second, .val (.double (FP.dneg (FP.i2d p0))), .second, .unset, .unset, .unset] [(.double (FP.dneg (FP.i2d p1)))])) _
    refine XS.dstore X0.here hx rfl (hb hby at_81) rfl (l' := #[.val (.int p0), .val (.int p1), .val (.int p2), .val (.int (1 : Int32)), .val (.int (1 : Int32)), .val (.long ((-(p0.toInt64)))), .second, .val (.long ((-(p1.toInt64)))), .second, .val (.double (FP.dneg (FP.i2d p0))), .second, .val (.double (FP.dneg (FP.i2d p1))), .second, .unset]) rfl ?_
    show Steps p.tables e below (s₁.setTop (mkF m 83 #[.val (.int p0), .val (.int p1), .val (.int p2), .val (.int (1 : Int32)), .val (.int (1 : Int32)), .val (.long ((-(p0.toInt64)))), .second, .val (.long ((-(p1.toInt64)))), .second, .val (.double (FP.dneg (FP.i2d p0))), .second, .val (.double (FP.dneg (FP.i2d p1))), .second, .unset] [])) _
    refine XS.lload X0.here hx rfl (hb hby at_83) rfl ?_
    show Steps p.tables e below (s₁.setTop (mkF m 85 #[.val (.int p0), .val (.int p1), .val (.int p2), .val (.int (1 : Int32)), .val (.int (1 : Int32)), .val (.long ((-(p0.toInt64)))), .second, .val (.long ((-(p1.toInt64)))), .second, .val (.double (FP.dneg (FP.i2d p0))), .second, .val (.double (FP.dneg (FP.i2d p1))), .second, .unset] [(.long ((-(p0.toInt64))))])) _
    refine XS.lload X0.here hx rfl (hb hby at_85) rfl ?_
    show Steps p.tables e below (s₁.setTop (mkF m 87 #[.val (.int p0), .val (.int p1), .val (.int p2), .val (.int (1 : Int32)), .val (.int (1 : Int32)), .val (.long ((-(p0.toInt64)))), .second, .val (.long ((-(p1.toInt64)))), .second, .val (.double (FP.dneg (FP.i2d p0))), .second, .val (.double (FP.dneg (FP.i2d p1))), .second, .unset] [(.long ((-(p1.toInt64)))), (.long ((-(p0.toInt64))))])) _
    refine XS.lcmp X0.here hx rfl (hb hby at_87) rfl ?_
    show Steps p.tables e below (s₁.setTop (mkF m 88 #[.val (.int p0), .val (.int p1), .val (.int p2), .val (.int (1 : Int32)), .val (.int (1 : Int32)), .val (.long ((-(p0.toInt64)))), .second, .val (.long ((-(p1.toInt64)))), .second, .val (.double (FP.dneg (FP.i2d p0))), .second, .val (.double (FP.dneg (FP.i2d p1))), .second, .unset] [(.int (lcmpW ((-(p0.toInt64))) ((-(p1.toInt64)))))])) _
    rw [hL]
    show Steps p.tables e below (s₁.setTop (mkF m 88 #[.val (.int p0), .val (.int p1), .val (.int p2), .val (.int (1 : Int32)), .val (.int (1 : Int32)), .val (.long ((-(p0.toInt64)))), .second, .val (.long ((-(p1.toInt64)))), .second, .val (.double (FP.dneg (FP.i2d p0))), .second, .val (.double (FP.dneg (FP.i2d p1))), .second, .unset] [(.int (0 : Int32))])) _
    refine XS.ifYes X0.here hx rfl (pc0 := 88) (pc' := 99) rfl (hb hby at_88) rfl ((if0 _ _).trans (flt ((by decide) : ¬ ((0 : Int32) < (0 : Int32)))).2.1) (by decide) (by decide) ?_
    show Steps p.tables e below (s₁.setTop (mkF m 99 #[.val (.int p0), .val (.int p1), .val (.int p2), .val (.int (1 : Int32)), .val (.int (1 : Int32)), .val (.long ((-(p0.toInt64)))), .second, .val (.long ((-(p1.toInt64)))), .second, .val (.double (FP.dneg (FP.i2d p0))), .second, .val (.double (FP.dneg (FP.i2d p1))), .second, .unset] [])) _
    refine XS.lload X0.here hx rfl (hb hby at_99) rfl ?_
    show Steps p.tables e below (s₁.setTop (mkF m 101 #[.val (.int p0), .val (.int p1), .val (.int p2), .val (.int (1 : Int32)), .val (.int (1 : Int32)), .val (.long ((-(p0.toInt64)))), .second, .val (.long ((-(p1.toInt64)))), .second, .val (.double (FP.dneg (FP.i2d p0))), .second, .val (.double (FP.dneg (FP.i2d p1))), .second, .unset] [(.long ((-(p0.toInt64))))])) _
    refine XS.lload X0.here hx rfl (hb hby at_101) rfl ?_
    show Steps p.tables e below (s₁.setTop (mkF m 103 #[.val (.int p0), .val (.int p1), .val (.int p2), .val (.int (1 : Int32)), .val (.int (1 : Int32)), .val (.long ((-(p0.toInt64)))), .second, .val (.long ((-(p1.toInt64)))), .second, .val (.double (FP.dneg (FP.i2d p0))), .second, .val (.double (FP.dneg (FP.i2d p1))), .second, .unset] [(.long ((-(p1.toInt64)))), (.long ((-(p0.toInt64))))])) _
    refine XS.lcmp X0.here hx rfl (hb hby at_103) rfl ?_
    show Steps p.tables e below (s₁.setTop (mkF m 104 #[.val (.int p0), .val (.int p1), .val (.int p2), .val (.int (1 : Int32)), .val (.int (1 : Int32)), .val (.long ((-(p0.toInt64)))), .second, .val (.long ((-(p1.toInt64)))), .second, .val (.double (FP.dneg (FP.i2d p0))), .second, .val (.double (FP.dneg (FP.i2d p1))), .second, .unset] [(.int (lcmpW ((-(p0.toInt64))) ((-(p1.toInt64)))))])) _
    rw [hL]
    show Steps p.tables e below (s₁.setTop (mkF m 104 #[.val (.int p0), .val (.int p1), .val (.int p2), .val (.int (1 : Int32)), .val (.int (1 : Int32)), .val (.long ((-(p0.toInt64)))), .second, .val (.long ((-(p1.toInt64)))), .second, .val (.double (FP.dneg (FP.i2d p0))), .second, .val (.double (FP.dneg (FP.i2d p1))), .second, .unset] [(.int (0 : Int32))])) _
    refine XS.ifYes X0.here hx rfl (pc0 := 104) (pc' := 115) rfl (hb hby at_104) rfl ((if0 _ _).trans (flt ((by decide) : ¬ ((0 : Int32) < (0 : Int32)))).2.2.2) (by decide) (by decide) ?_
    show Steps p.tables e below (s₁.setTop (mkF m 115 #[.val (.int p0), .val (.int p1), .val (.int p2), .val (.int (1 : Int32)), .val (.int (1 : Int32)), .val (.long ((-(p0.toInt64)))), .second, .val (.long ((-(p1.toInt64)))), .second, .val (.double (FP.dneg (FP.i2d p0))), .second, .val (.double (FP.dneg (FP.i2d p1))), .second, .unset] [])) _
    refine st1 _ ?_
    show Steps p.tables e below (T1.setTop (mkF m 118 #[.val (.int p0), .val (.int p1), .val (.int p2), .val (.int (1 : Int32)), .val (.int (1 : Int32)), .val (.long ((-(p0.toInt64)))), .second, .val (.long ((-(p1.toInt64)))), .second, .val (.double (FP.dneg (FP.i2d p0))), .second, .val (.double (FP.dneg (FP.i2d p1))), .second, .unset] [(.ref w2)])) _
    refine XS.astore X1.here hx rfl (hb hby at_118) rfl rfl (l' := #[.val (.int p0), .val (.int p1), .val (.int p2), .val (.int (1 : Int32)), .val (.int (1 : Int32)), .val (.long ((-(p0.toInt64)))), .second, .val (.long ((-(p1.toInt64)))), .second, .val (.double (FP.dneg (FP.i2d p0))), .second, .val (.double (FP.dneg (FP.i2d p1))), .second, .val (.ref w2)]) rfl ?_
    show Steps p.tables e below (T1.setTop (mkF m 120 #[.val (.int p0), .val (.int p1), .val (.int p2), .val (.int (1 : Int32)), .val (.int (1 : Int32)), .val (.long ((-(p0.toInt64)))), .second, .val (.long ((-(p1.toInt64)))), .second, .val (.double (FP.dneg (FP.i2d p0))), .second, .val (.double (FP.dneg (FP.i2d p1))), .second, .val (.ref w2)] [])) _
    refine XS.dload X1.here hx rfl (hb hby at_120) rfl ?_
    show Steps p.tables e below (T1.setTop (mkF m 122 #[.val (.int p0), .val (.int p1), .val (.int p2), .val (.int (1 : Int32)), .val (.int (1 : Int32)), .val (.long ((-(p0.toInt64)))), .second, .val (.long ((-(p1.toInt64)))), .second, .val (.double (FP.dneg (FP.i2d p0))), .second, .val (.double (FP.dneg (FP.i2d p1))), .second, .val (.ref w2)] [(.double (FP.dneg (FP.i2d p0)))])) _
    refine XS.dload X1.here hx rfl (hb hby at_122) rfl ?_
    show Steps p.tables e below (T1.setTop (mkF m 124 #[.val (.int p0), .val (.int p1), .val (.int p2), .val (.int (1 : Int32)), .val (.int (1 : Int32)), .val (.long ((-(p0.toInt64)))), .second, .val (.long ((-(p1.toInt64)))), .second, .val (.double (FP.dneg (FP.i2d p0))), .second, .val (.double (FP.dneg (FP.i2d p1))), .second, .val (.ref w2)] [(.double (FP.dneg (FP.i2d p1))), (.double (FP.dneg (FP.i2d p0)))])) _
    refine st2 _ ?_
    show Steps p.tables e below (T2.setTop (mkF m 127 #[.val (.int p0), .val (.int p1), .val (.int p2), .val (.int (1 : Int32)), .val (.int (1 : Int32)), .val (.long ((-(p0.toInt64)))), .second, .val (.long ((-(p1.toInt64)))), .second, .val (.double (FP.dneg (FP.i2d p0))), .second, .val (.double (FP.dneg (FP.i2d p1))), .second, .val (.ref w2)] [(.ref w2)])) _
    refine XS.aload X2.here hx rfl (hb hby at_127) rfl rfl ?_
    show Steps p.tables e below (T2.setTop (mkF m 129 #[.val (.int p0), .val (.int p1), .val (.int p2), .val (.int (1 : Int32)), .val (.int (1 : Int32)), .val (.long ((-(p0.toInt64)))), .second, .val (.long ((-(p1.toInt64)))), .second, .val (.double (FP.dneg (FP.i2d p0))), .second, .val (.double (FP.dneg (FP.i2d p1))), .second, .val (.ref w2)] [(.ref w2), (.ref w2)])) _
    refine Jvm.RoadKit.acmp (g := (mkF m 129 #[.val (.int p0), .val (.int p1), .val (.int p2), .val (.int (1 : Int32)), .val (.int (1 : Int32)), .val (.long ((-(p0.toInt64)))), .second, .val (.long ((-(p1.toInt64)))), .second, .val (.double (FP.dneg (FP.i2d p0))), .second, .val (.double (FP.dneg (FP.i2d p1))), .second, .val (.ref w2)] [(.ref w2), (.ref w2)])) X2 hx rfl rfl rfl (pc0 := 129) (pc' := 132) (same := true) rfl (hb hby at_129) rfl (decide_eq_true rfl) (by decide) (by decide) ?_
    show Steps p.tables e below (T2.setTop (mkF m 132 #[.val (.int p0), .val (.int p1), .val (.int p2), .val (.int (1 : Int32)), .val (.int (1 : Int32)), .val (.long ((-(p0.toInt64)))), .second, .val (.long ((-(p1.toInt64)))), .second, .val (.double (FP.dneg (FP.i2d p0))), .second, .val (.double (FP.dneg (FP.i2d p1))), .second, .val (.ref w2)] [])) _
    refine XS.iconst X2.here hx rfl (hb hby at_132) ?_
    show Steps p.tables e below (T2.setTop (mkF m 133 #[.val (.int p0), .val (.int p1), .val (.int p2), .val (.int (1 : Int32)), .val (.int (1 : Int32)), .val (.long ((-(p0.toInt64)))), .second, .val (.long ((-(p1.toInt64)))), .second, .val (.double (FP.dneg (FP.i2d p0))), .second, .val (.double (FP.dneg (FP.i2d p1))), .second, .val (.ref w2)] [(.int (1 : Int32))])) _
    refine XS.goto X2.here hx rfl (pc0 := 133) (pc' := 137) rfl (hb hby at_133) (by decide) (by decide) ?_
    show Steps p.tables e below (T2.setTop (mkF m 137 #[.val (.int p0), .val (.int p1), .val (.int p2), .val (.int (1 : Int32)), .val (.int (1 : Int32)), .val (.long ((-(p0.toInt64)))), .second, .val (.long ((-(p1.toInt64)))), .second, .val (.double (FP.dneg (FP.i2d p0))), .second, .val (.double (FP.dneg (FP.i2d p1))), .second, .val (.ref w2)] [(.int (1 : Int32))])) _
    exact retN X2 hx (t := .boolean) Bd.returns (by simp) (hb hby at_137) hr
  · exact ⟨rfl, N2, e2⟩
set_option maxRecDepth 65536 in
set_option maxHeartbeats 40000000 in
theorem rm_1_1_2 (l : Launch) (Z : State) (a0 : Array Value) (hw : ∀ d ∈ tables_1, d.before a0 Z = true) (ws : List Jvm.Cond) (x0 x1 : UInt64) (w0 : Addr) (w1 : Addr) (w2 : Addr) (h0 : Heap) (n0 : Nat) (O : Old Z n0 h0) (hG : GG Z w0 w1 w2) (hD : ∀ o, cmpValue (FP.dcmp x0 x1) o = (1 : Int32)) :
    MetFree l (⟨"com/example/fieldward/fieldward/validation/OrderedKind$Order", "of", "(DD)Lcom/example/fieldward/fieldward/validation/OrderedKind$Order;"⟩ : MethodName) (head1 (Jvm.Cond.code (⟨"com/example/fieldward/fieldward/validation/OrderedKind$Order", "of", "(DD)Lcom/example/fieldward/fieldward/validation/OrderedKind$Order;"⟩ : MethodName) prog_15_method_5_code 5 (some (.object "com/example/fieldward/fieldward/validation/OrderedKind$Order")) :: ws) ({ frames := 0, cells := 0, slots := 0, locals := 0 } : Room)) (fun a U => a = #[(.double x0), (.double x1)] ∧ Z.Warmed39 U.vm ∧ U.heap = h0) (fun _ _ _ _ _ => True) (fun _ U o U' => ∃ v L, o = .returned v ∧ Qv (some (.ref w0)) h0 n0 v U'.heap L ∧ FrameEnd U o U' L ({ frames := 0, cells := 0, slots := 0, locals := 0 } : Room).cells ({ frames := 0, cells := 0, slots := 0, locals := 0 } : Room).slots) := by
  refine MetFree.of_bodySF (plainFor_of_name pn_com_example_fieldward_fieldward_validation_OrderedKind_Order) hisR ?_
  intro p e s m args below meth c s₁ Bd hml0 hP hK
  obtain ⟨rfl, hZ, hh⟩ := hP
  have hx := Bd.exec
  have hby := Bd.bytes
  have hml : c.maxLocals = 5 := hml0
  have hown : s.vm.findClass "com/example/fieldward/fieldward/validation/OrderedKind$Order" = some m.cls := findClass_of_methodNamed Bd.named
  have hnm := (name_of_methodNamed Bd.named Bd.method).1
  have X0 : Stand p l e ({ frames := 0, cells := 0, slots := 0, locals := 0 } : Room) s m #[(.double x0), (.double x1)] below meth c s₁ [] 0 0 := Stand.of_body Bd
  have e0 : s₁.heap = h0 := by rw [← hh, Bd.state]; rfl
  have N0 := Fr.nil n0
  have pre0 : ∀ t, Steps p.tables e below (s₁.setTop (mkF m 0 #[.val (.double x0), .second, .val (.double x1), .second, .unset] [])) t → Steps p.tables e below (s₁.setTop (entryFrame m #[(.double x0), (.double x1)] 5)) t := fun t k => castTop (ef_5_DD m x0 x1) k
  obtain ⟨Sw0, Sw1, Sw2, Ew0, Ew1, Ew2⟩ := id hG
  obtain ⟨T1, X1, e1, st1⟩ := getS2 X0 hx hZ hown (host := "") (Or.inl (hw _ (List.mem_of_getElem? (i := 6) rfl))) Via.refl e0 (Sw0.ext O.2) (g := (mkF m 20 #[.val (.double x0), .second, .val (.double x1), .second, .unset] [])) rfl (hb hby d1_20)
  obtain ⟨fs, hr, hrun, hended, hW, hsame⟩ := X1.leave (v := some (.ref w0)) (fun h => by rw [Bd.returns] at h; cases h)
  refine ⟨_, _, pre0 _ ?_, hrun, hended, _, _, rfl, ?_, ⟨_, rfl⟩, hW, hsame.mono (by decide) (by decide)⟩
  · show Steps p.tables e below (s₁.setTop (mkF m 0 #[.val (.double x0), .second, .val (.double x1), .second, .unset] [])) _
    refine XS.dloadN X0.here hx rfl (hb hby d1_0) rfl ?_
    show Steps p.tables e below (s₁.setTop (mkF m 1 #[.val (.double x0), .second, .val (.double x1), .second, .unset] [(.double x0)])) _
    refine XS.dloadN X0.here hx rfl (hb hby d1_1) rfl ?_
    show Steps p.tables e below (s₁.setTop (mkF m 2 #[.val (.double x0), .second, .val (.double x1), .second, .unset] [(.double x1), (.double x0)])) _
    refine XS.dcmpS X0.here hx rfl (hb hby d1_2) rfl rfl ?_
    show Steps p.tables e below (s₁.setTop (mkF m 3 #[.val (.double x0), .second, .val (.double x1), .second, .unset] [(.int (cmpValue (FP.dcmp x0 x1) .g))])) _
    rw [hD]
    show Steps p.tables e below (s₁.setTop (mkF m 3 #[.val (.double x0), .second, .val (.double x1), .second, .unset] [(.int (1 : Int32))])) _
    refine XS.ifYes X0.here hx rfl (pc0 := 3) (pc' := 14) rfl (hb hby d1_3) rfl ((if0 _ _).trans (flt ((by decide) : ¬ ((1 : Int32) < (0 : Int32)))).2.1) (by decide) (by decide) ?_
    show Steps p.tables e below (s₁.setTop (mkF m 14 #[.val (.double x0), .second, .val (.double x1), .second, .unset] [])) _
    refine XS.dloadN X0.here hx rfl (hb hby d1_14) rfl ?_
    show Steps p.tables e below (s₁.setTop (mkF m 15 #[.val (.double x0), .second, .val (.double x1), .second, .unset] [(.double x0)])) _
    refine XS.dloadN X0.here hx rfl (hb hby d1_15) rfl ?_
    show Steps p.tables e below (s₁.setTop (mkF m 16 #[.val (.double x0), .second, .val (.double x1), .second, .unset] [(.double x1), (.double x0)])) _
    refine XS.dcmpS X0.here hx rfl (hb hby d1_16) rfl rfl ?_
    show Steps p.tables e below (s₁.setTop (mkF m 17 #[.val (.double x0), .second, .val (.double x1), .second, .unset] [(.int (cmpValue (FP.dcmp x0 x1) .l))])) _
    rw [hD]
    show Steps p.tables e below (s₁.setTop (mkF m 17 #[.val (.double x0), .second, .val (.double x1), .second, .unset] [(.int (1 : Int32))])) _
    refine XS.ifNo X0.here hx rfl (hb hby d1_17) rfl ((if0 _ _).trans (tlt ((by decide) : (0 : Int32) < (1 : Int32))).2.2.2) ?_
    show Steps p.tables e below (s₁.setTop (mkF m 20 #[.val (.double x0), .second, .val (.double x1), .second, .unset] [])) _
    refine st1 _ ?_
    show Steps p.tables e below (T1.setTop (mkF m 23 #[.val (.double x0), .second, .val (.double x1), .second, .unset] [(.ref w0)])) _
    refine XS.astore X1.here hx rfl (hb hby d1_23) rfl rfl (l' := #[.val (.double x0), .second, .val (.double x1), .second, .val (.ref w0)]) rfl ?_
    show Steps p.tables e below (T1.setTop (mkF m 25 #[.val (.double x0), .second, .val (.double x1), .second, .val (.ref w0)] [])) _
    refine XS.goto X1.here hx rfl (pc0 := 25) (pc' := 47) rfl (hb hby d1_25) (by decide) (by decide) ?_
    show Steps p.tables e below (T1.setTop (mkF m 47 #[.val (.double x0), .second, .val (.double x1), .second, .val (.ref w0)] [])) _
    refine XS.aload X1.here hx rfl (hb hby d1_47) rfl rfl ?_
    show Steps p.tables e below (T1.setTop (mkF m 49 #[.val (.double x0), .second, .val (.double x1), .second, .val (.ref w0)] [(.ref w0)])) _
    exact retOut X1 hx Bd.returns rfl (Or.inr (Or.inr (Or.inr (Or.inr ⟨rfl, rfl, rfl⟩)))) (hb hby d1_49) hr
  · exact ⟨rfl, N0, e1⟩
set_option maxRecDepth 65536 in
set_option maxHeartbeats 40000000 in
theorem rl_1_1_2 (l : Launch) (Z : State) (a0 : Array Value) (hw : ∀ d ∈ tables_1, d.before a0 Z = true) (ws : List Jvm.Cond) (p0 p1 p2 : Int32) (w0 : Addr) (w1 : Addr) (w2 : Addr) (h0 : Heap) (n0 : Nat) (O : Old Z n0 h0) (hG : GG Z w0 w1 w2) (hA : p2 &&& (1 : Int32) = (1 : Int32)) (hB : ¬ (p2 &&& (2 : Int32) = (0 : Int32))) (hL : lcmpW (-(p0.toInt64)) (-(p1.toInt64)) = (1 : Int32)) (hD : ∀ o, cmpValue (FP.dcmp (FP.dneg (FP.i2d p0)) (FP.dneg (FP.i2d p1))) o = (1 : Int32)) :
    MetFree l x (head1 (Jvm.Cond.code x code maxLocals ret :: ws) room_1) (fun a U => a = #[(.int p0), (.int p1), (.int p2)] ∧ Z.Warmed39 U.vm ∧ U.heap = h0) (fun _ _ _ _ _ => True) (fun _ U o U' => ∃ v L, o = .returned v ∧ Qv (some (.int (1 : Int32))) h0 n0 v U'.heap L ∧ FrameEnd U o U' L 0 0) := by
  refine MetFree.of_bodySF (plainFor_of_name pn_com_example_fieldward_fieldward_validation_OrderOfPinLaw) hisR ?_
  intro p e s m args below meth c s₁ Bd hml0 hP hK
  obtain ⟨rfl, hZ, hh⟩ := hP
  have hx := Bd.exec
  have hby := Bd.bytes
  have hml : c.maxLocals = 14 := hml0
  have hown : s.vm.findClass "com/example/fieldward/fieldward/validation/OrderOfPinLaw" = some m.cls := findClass_of_methodNamed Bd.named
  have hnm := (name_of_methodNamed Bd.named Bd.method).1
  have X0 : Stand p l e room_1 s m #[(.int p0), (.int p1), (.int p2)] below meth c s₁ [] 0 0 := Stand.of_body Bd
  have e0 : s₁.heap = h0 := by rw [← hh, Bd.state]; rfl
  have N0 := Fr.nil n0
  have pre0 : ∀ t, Steps p.tables e below (s₁.setTop (mkF m 0 #[.val (.int p0), .val (.int p1), .val (.int p2), .unset, .unset, .unset, .unset, .unset, .unset, .unset, .unset, .unset, .unset, .unset] [])) t → Steps p.tables e below (s₁.setTop (entryFrame m #[(.int p0), (.int p1), (.int p2)] maxLocals)) t := fun t k => castTop (ef_maxLocals_III m p0 p1 p2) k
  obtain ⟨Sw0, Sw1, Sw2, Ew0, Ew1, Ew2⟩ := id hG
  obtain ⟨T1, X1, e1, st1⟩ := getS2 X0 hx hZ hown (host := "") (Or.inl (hw _ (List.mem_of_getElem? (i := 0) rfl))) Via.refl e0 (Sw0.ext O.2) (g := (mkF m 107 #[.val (.int p0), .val (.int p1), .val (.int p2), .val (.int (1 : Int32)), .val (.int (1 : Int32)), .val (.long ((-(p0.toInt64)))), .second, .val (.long ((-(p1.toInt64)))), .second, .val (.double (FP.dneg (FP.i2d p0))), .second, .val (.double (FP.dneg (FP.i2d p1))), .second, .unset] [])) rfl (hb hby at_107)
  obtain ⟨_, _, ⟨T2, L2, k2, n2⟩, -, X2, ⟨Lc2, hQ2, l2, y2, z2⟩, st2⟩ := Jvm.LawKit.callS X1 hx (y := (⟨"com/example/fieldward/fieldward/validation/OrderedKind$Order", "of", "(DD)Lcom/example/fieldward/fieldward/validation/OrderedKind$Order;"⟩ : MethodName)) hown (mvT hZ (hw _ (List.mem_of_getElem? (i := 3) rfl))) (mvT hZ (hw _ (List.mem_of_getElem? (i := 4) rfl))) (mvT hZ (hw _ (List.mem_of_getElem? (i := 1) rfl))) (mvT hZ (hw _ (List.mem_of_getElem? (i := 5) rfl))) (by decide) (backOf (W := 0) (rm_1_1_2 l Z a0 hw [] (FP.dneg (FP.i2d p0)) (FP.dneg (FP.i2d p1)) w0 w1 w2 h0 n0 O hG hD) hZ (hw _ (List.mem_of_getElem? (i := 5) rfl)) (hw _ (List.mem_of_getElem? (i := 1) rfl)) (by decide) (by decide)) (g := (mkF m 124 #[.val (.int p0), .val (.int p1), .val (.int p2), .val (.int (1 : Int32)), .val (.int (1 : Int32)), .val (.long ((-(p0.toInt64)))), .second, .val (.long ((-(p1.toInt64)))), .second, .val (.double (FP.dneg (FP.i2d p0))), .second, .val (.double (FP.dneg (FP.i2d p1))), .second, .val (.ref w0)] [(.double (FP.dneg (FP.i2d p1))), (.double (FP.dneg (FP.i2d p0)))])) rfl (by rw [hml]; rfl) (argsL := [(.double (FP.dneg (FP.i2d p0))), (.double (FP.dneg (FP.i2d p1)))]) (rest := []) (lenOf pd_28DD29Lcom2fexample2ffieldward2ffieldward2fvalidation2fOrderedKind24Order3b rfl) rfl (by show 2 * 0 + _ ≤ _; exact Nat.le_of_eq rfl) (hb hby at_124) (fun _ _ => ⟨rfl, e1, (by decide : 0 + 0 ≤ _), (by decide : 0 + 0 ≤ _)⟩)
  dsimp only [Pt.U, Pt.locs, Pt.cells, Pt.slots] at X2 l2 y2 z2 st2 hQ2
  subst l2 y2 z2
  obtain ⟨rfl, N2q, e2⟩ := hQ2
  have N2 := Fr.app N0 N2q
  obtain ⟨fs, hr, hrun, hended, hW, hsame⟩ := X2.leave (v := some (.int (1 : Int32))) (fun h => by rw [Bd.returns] at h; cases h)
  refine ⟨_, _, pre0 _ ?_, hrun, hended, _, _, rfl, ?_, ⟨_, rfl⟩, hW, hsame.mono (by decide) (by decide)⟩
  · show Steps p.tables e below (s₁.setTop (mkF m 0 #[.val (.int p0), .val (.int p1), .val (.int p2), .unset, .unset, .unset, .unset, .unset, .unset, .unset, .unset, .unset, .unset, .unset] [])) _
    refine XS.iloadN X0.here hx rfl (hb hby at_0) rfl ?_
    show Steps p.tables e below (s₁.setTop (mkF m 1 #[.val (.int p0), .val (.int p1), .val (.int p2), .unset, .unset, .unset, .unset, .unset, .unset, .unset, .unset, .unset, .unset, .unset] [(.int p2)])) _
    refine XS.iconst X0.here hx rfl (hb hby at_1) ?_
    show Steps p.tables e below (s₁.setTop (mkF m 2 #[.val (.int p0), .val (.int p1), .val (.int p2), .unset, .unset, .unset, .unset, .unset, .unset, .unset, .unset, .unset, .unset, .unset] [(.int (1 : Int32)), (.int p2)])) _
    refine XS.iand X0.here hx rfl (hb hby at_2) rfl ?_
    show Steps p.tables e below (s₁.setTop (mkF m 3 #[.val (.int p0), .val (.int p1), .val (.int p2), .unset, .unset, .unset, .unset, .unset, .unset, .unset, .unset, .unset, .unset, .unset] [(.int (p2 &&& (1 : Int32)))])) _
    rw [hA]
    show Steps p.tables e below (s₁.setTop (mkF m 3 #[.val (.int p0), .val (.int p1), .val (.int p2), .unset, .unset, .unset, .unset, .unset, .unset, .unset, .unset, .unset, .unset, .unset] [(.int (1 : Int32))])) _
    refine XS.ifNo X0.here hx rfl (hb hby at_3) rfl ((if0 _ _).trans (feq ((by decide) : ¬ ((1 : Int32) = (0 : Int32)))).1) ?_
    show Steps p.tables e below (s₁.setTop (mkF m 6 #[.val (.int p0), .val (.int p1), .val (.int p2), .unset, .unset, .unset, .unset, .unset, .unset, .unset, .unset, .unset, .unset, .unset] [])) _
    refine XS.iconst X0.here hx rfl (hb hby at_6) ?_
    show Steps p.tables e below (s₁.setTop (mkF m 7 #[.val (.int p0), .val (.int p1), .val (.int p2), .unset, .unset, .unset, .unset, .unset, .unset, .unset, .unset, .unset, .unset, .unset] [(.int (1 : Int32))])) _
    refine XS.goto X0.here hx rfl (pc0 := 7) (pc' := 11) rfl (hb hby at_7) (by decide) (by decide) ?_
    show Steps p.tables e below (s₁.setTop (mkF m 11 #[.val (.int p0), .val (.int p1), .val (.int p2), .unset, .unset, .unset, .unset, .unset, .unset, .unset, .unset, .unset, .unset, .unset] [(.int (1 : Int32))])) _
    refine XS.istoreN X0.here hx rfl (hb hby at_11) rfl (l' := #[.val (.int p0), .val (.int p1), .val (.int p2), .val (.int (1 : Int32)), .unset, .unset, .unset, .unset, .unset, .unset, .unset, .unset, .unset, .unset]) rfl ?_
    show Steps p.tables e below (s₁.setTop (mkF m 12 #[.val (.int p0), .val (.int p1), .val (.int p2), .val (.int (1 : Int32)), .unset, .unset, .unset, .unset, .unset, .unset, .unset, .unset, .unset, .unset] [])) _
    refine XS.iloadN X0.here hx rfl (hb hby at_12) rfl ?_
    show Steps p.tables e below (s₁.setTop (mkF m 13 #[.val (.int p0), .val (.int p1), .val (.int p2), .val (.int (1 : Int32)), .unset, .unset, .unset, .unset, .unset, .unset, .unset, .unset, .unset, .unset] [(.int p2)])) _
    refine XS.iconst X0.here hx rfl (hb hby at_13) ?_
    show Steps p.tables e below (s₁.setTop (mkF m 14 #[.val (.int p0), .val (.int p1), .val (.int p2), .val (.int (1 : Int32)), .unset, .unset, .unset, .unset, .unset, .unset, .unset, .unset, .unset, .unset] [(.int (2 : Int32)), (.int p2)])) _
    refine XS.iand X0.here hx rfl (hb hby at_14) rfl ?_
    show Steps p.tables e below (s₁.setTop (mkF m 15 #[.val (.int p0), .val (.int p1), .val (.int p2), .val (.int (1 : Int32)), .unset, .unset, .unset, .unset, .unset, .unset, .unset, .unset, .unset, .unset] [(.int (p2 &&& (2 : Int32)))])) _
    refine XS.ifNo X0.here hx rfl (hb hby at_15) rfl ((if0 _ _).trans (feq (hB : ¬ ((p2 &&& (2 : Int32)) = (0 : Int32)))).1) ?_
    show Steps p.tables e below (s₁.setTop (mkF m 18 #[.val (.int p0), .val (.int p1), .val (.int p2), .val (.int (1 : Int32)), .unset, .unset, .unset, .unset, .unset, .unset, .unset, .unset, .unset, .unset] [])) _
    refine XS.iconst X0.here hx rfl (hb hby at_18) ?_
    show Steps p.tables e below (s₁.setTop (mkF m 19 #[.val (.int p0), .val (.int p1), .val (.int p2), .val (.int (1 : Int32)), .unset, .unset, .unset, .unset, .unset, .unset, .unset, .unset, .unset, .unset] [(.int (1 : Int32))])) _
    refine XS.goto X0.here hx rfl (pc0 := 19) (pc' := 23) rfl (hb hby at_19) (by decide) (by decide) ?_
    show Steps p.tables e below (s₁.setTop (mkF m 23 #[.val (.int p0), .val (.int p1), .val (.int p2), .val (.int (1 : Int32)), .unset, .unset, .unset, .unset, .unset, .unset, .unset, .unset, .unset, .unset] [(.int (1 : Int32))])) _
    refine XS.istore X0.here hx rfl (hb hby at_23) rfl (l' := #[.val (.int p0), .val (.int p1), .val (.int p2), .val (.int (1 : Int32)), .val (.int (1 : Int32)), .unset, .unset, .unset, .unset, .unset, .unset, .unset, .unset, .unset]) rfl ?_
    show Steps p.tables e below (s₁.setTop (mkF m 25 #[.val (.int p0), .val (.int p1), .val (.int p2), .val (.int (1 : Int32)), .val (.int (1 : Int32)), .unset, .unset, .unset, .unset, .unset, .unset, .unset, .unset, .unset] [])) _
    refine XS.iloadN X0.here hx rfl (hb hby at_25) rfl ?_
    show Steps p.tables e below (s₁.setTop (mkF m 26 #[.val (.int p0), .val (.int p1), .val (.int p2), .val (.int (1 : Int32)), .val (.int (1 : Int32)), .unset, .unset, .unset, .unset, .unset, .unset, .unset, .unset, .unset] [(.int (1 : Int32))])) _
    refine XS.ifNo X0.here hx rfl (hb hby at_26) rfl ((if0 _ _).trans (feq ((by decide) : ¬ ((1 : Int32) = (0 : Int32)))).1) ?_
    show Steps p.tables e below (s₁.setTop (mkF m 29 #[.val (.int p0), .val (.int p1), .val (.int p2), .val (.int (1 : Int32)), .val (.int (1 : Int32)), .unset, .unset, .unset, .unset, .unset, .unset, .unset, .unset, .unset] [])) _
    refine XS.iloadN X0.here hx rfl (hb hby at_29) rfl ?_
    show Steps p.tables e below (s₁.setTop (mkF m 30 #[.val (.int p0), .val (.int p1), .val (.int p2), .val (.int (1 : Int32)), .val (.int (1 : Int32)), .unset, .unset, .unset, .unset, .unset, .unset, .unset, .unset, .unset] [(.int p0)])) _
    refine XS.i2l X0.here hx rfl (hb hby at_30) rfl ?_
    show Steps p.tables e below (s₁.setTop (mkF m 31 #[.val (.int p0), .val (.int p1), .val (.int p2), .val (.int (1 : Int32)), .val (.int (1 : Int32)), .unset, .unset, .unset, .unset, .unset, .unset, .unset, .unset, .unset] [(.long (p0.toInt64))])) _
    refine XS.lneg X0.here hx rfl (hb hby at_31) rfl ?_
    show Steps p.tables e below (s₁.setTop (mkF m 32 #[.val (.int p0), .val (.int p1), .val (.int p2), .val (.int (1 : Int32)), .val (.int (1 : Int32)), .unset, .unset, .unset, .unset, .unset, .unset, .unset, .unset, .unset] [(.long ((-(p0.toInt64))))])) _
    refine XS.goto X0.here hx rfl (pc0 := 32) (pc' := 37) rfl (hb hby at_32) (by decide) (by decide) ?_
    show Steps p.tables e below (s₁.setTop (mkF m 37 #[.val (.int p0), .val (.int p1), .val (.int p2), .val (.int (1 : Int32)), .val (.int (1 : Int32)), .unset, .unset, .unset, .unset, .unset, .unset, .unset, .unset, .unset] [(.long ((-(p0.toInt64))))])) _
    refine XS.lstore X0.here hx rfl (hb hby at_37) rfl (l' := #[.val (.int p0), .val (.int p1), .val (.int p2), .val (.int (1 : Int32)), .val (.int (1 : Int32)), .val (.long ((-(p0.toInt64)))), .second, .unset, .unset, .unset, .unset, .unset, .unset, .unset]) rfl ?_
    show Steps p.tables e below (s₁.setTop (mkF m 39 #[.val (.int p0), .val (.int p1), .val (.int p2), .val (.int (1 : Int32)), .val (.int (1 : Int32)), .val (.long ((-(p0.toInt64)))), .second, .unset, .unset, .unset, .unset, .unset, .unset, .unset] [])) _
    refine XS.iload X0.here hx rfl (hb hby at_39) rfl ?_
    show Steps p.tables e below (s₁.setTop (mkF m 41 #[.val (.int p0), .val (.int p1), .val (.int p2), .val (.int (1 : Int32)), .val (.int (1 : Int32)), .val (.long ((-(p0.toInt64)))), .second, .unset, .unset, .unset, .unset, .unset, .unset, .unset] [(.int (1 : Int32))])) _
    refine XS.ifNo X0.here hx rfl (hb hby at_41) rfl ((if0 _ _).trans (feq ((by decide) : ¬ ((1 : Int32) = (0 : Int32)))).1) ?_
    show Steps p.tables e below (s₁.setTop (mkF m 44 #[.val (.int p0), .val (.int p1), .val (.int p2), .val (.int (1 : Int32)), .val (.int (1 : Int32)), .val (.long ((-(p0.toInt64)))), .second, .unset, .unset, .unset, .unset, .unset, .unset, .unset] [])) _
    refine XS.iloadN X0.here hx rfl (hb hby at_44) rfl ?_
    show Steps p.tables e below (s₁.setTop (mkF m 45 #[.val (.int p0), .val (.int p1), .val (.int p2), .val (.int (1 : Int32)), .val (.int (1 : Int32)), .val (.long ((-(p0.toInt64)))), .second, .unset, .unset, .unset, .unset, .unset, .unset, .unset] [(.int p1)])) _
    refine XS.i2l X0.here hx rfl (hb hby at_45) rfl ?_
    show Steps p.tables e below (s₁.setTop (mkF m 46 #[.val (.int p0), .val (.int p1), .val (.int p2), .val (.int (1 : Int32)), .val (.int (1 : Int32)), .val (.long ((-(p0.toInt64)))), .second, .unset, .unset, .unset, .unset, .unset, .unset, .unset] [(.long (p1.toInt64))])) _
    refine XS.lneg X0.here hx rfl (hb hby at_46) rfl ?_
    show Steps p.tables e below (s₁.setTop (mkF m 47 #[.val (.int p0), .val (.int p1), .val (.int p2), .val (.int (1 : Int32)), .val (.int (1 : Int32)), .val (.long ((-(p0.toInt64)))), .second, .unset, .unset, .unset, .unset, .unset, .unset, .unset] [(.long ((-(p1.toInt64))))])) _
    refine XS.goto X0.here hx rfl (pc0 := 47) (pc' := 52) rfl (hb hby at_47) (by decide) (by decide) ?_
    show Steps p.tables e below (s₁.setTop (mkF m 52 #[.val (.int p0), .val (.int p1), .val (.int p2), .val (.int (1 : Int32)), .val (.int (1 : Int32)), .val (.long ((-(p0.toInt64)))), .second, .unset, .unset, .unset, .unset, .unset, .unset, .unset] [(.long ((-(p1.toInt64))))])) _
    refine XS.lstore X0.here hx rfl (hb hby at_52) rfl (l' := #[.val (.int p0), .val (.int p1), .val (.int p2), .val (.int (1 : Int32)), .val (.int (1 : Int32)), .val (.long ((-(p0.toInt64)))), .second, .val (.long ((-(p1.toInt64)))), .second, .unset, .unset, .unset, .unset, .unset]) rfl ?_
    show Steps p.tables e below (s₁.setTop (mkF m 54 #[.val (.int p0), .val (.int p1), .val (.int p2), .val (.int (1 : Int32)), .val (.int (1 : Int32)), .val (.long ((-(p0.toInt64)))), .second, .val (.long ((-(p1.toInt64)))), .second, .unset, .unset, .unset, .unset, .unset] [])) _
    refine XS.iloadN X0.here hx rfl (hb hby at_54) rfl ?_
    show Steps p.tables e below (s₁.setTop (mkF m 55 #[.val (.int p0), .val (.int p1), .val (.int p2), .val (.int (1 : Int32)), .val (.int (1 : Int32)), .val (.long ((-(p0.toInt64)))), .second, .val (.long ((-(p1.toInt64)))), .second, .unset, .unset, .unset, .unset, .unset] [(.int (1 : Int32))])) _
    refine XS.ifNo X0.here hx rfl (hb hby at_55) rfl ((if0 _ _).trans (feq ((by decide) : ¬ ((1 : Int32) = (0 : Int32)))).1) ?_
    show Steps p.tables e below (s₁.setTop (mkF m 58 #[.val (.int p0), .val (.int p1), .val (.int p2), .val (.int (1 : Int32)), .val (.int (1 : Int32)), .val (.long ((-(p0.toInt64)))), .second, .val (.long ((-(p1.toInt64)))), .second, .unset, .unset, .unset, .unset, .unset] [])) _
    refine XS.iloadN X0.here hx rfl (hb hby at_58) rfl ?_
    show Steps p.tables e below (s₁.setTop (mkF m 59 #[.val (.int p0), .val (.int p1), .val (.int p2), .val (.int (1 : Int32)), .val (.int (1 : Int32)), .val (.long ((-(p0.toInt64)))), .second, .val (.long ((-(p1.toInt64)))), .second, .unset, .unset, .unset, .unset, .unset] [(.int p0)])) _
    refine XS.i2dS X0.here hx rfl (hb hby at_59) rfl rfl ?_
    show Steps p.tables e below (s₁.setTop (mkF m 60 #[.val (.int p0), .val (.int p1), .val (.int p2), .val (.int (1 : Int32)), .val (.int (1 : Int32)), .val (.long ((-(p0.toInt64)))), .second, .val (.long ((-(p1.toInt64)))), .second, .unset, .unset, .unset, .unset, .unset] [(.double (FP.i2d p0))])) _
    refine XS.dnegS X0.here hx rfl (hb hby at_60) rfl rfl ?_
    show Steps p.tables e below (s₁.setTop (mkF m 61 #[.val (.int p0), .val (.int p1), .val (.int p2), .val (.int (1 : Int32)), .val (.int (1 : Int32)), .val (.long ((-(p0.toInt64)))), .second, .val (.long ((-(p1.toInt64)))), .second, .unset, .unset, .unset, .unset, .unset] [(.double (FP.dneg (FP.i2d p0)))])) _
    refine XS.goto X0.here hx rfl (pc0 := 61) (pc' := 66) rfl (hb hby at_61) (by decide) (by decide) ?_
    show Steps p.tables e below (s₁.setTop (mkF m 66 #[.val (.int p0), .val (.int p1), .val (.int p2), .val (.int (1 : Int32)), .val (.int (1 : Int32)), .val (.long ((-(p0.toInt64)))), .second, .val (.long ((-(p1.toInt64)))), .second, .unset, .unset, .unset, .unset, .unset] [(.double (FP.dneg (FP.i2d p0)))])) _
    refine XS.dstore X0.here hx rfl (hb hby at_66) rfl (l' := #[.val (.int p0), .val (.int p1), .val (.int p2), .val (.int (1 : Int32)), .val (.int (1 : Int32)), .val (.long ((-(p0.toInt64)))), .second, .val (.long ((-(p1.toInt64)))), .second, .val (.double (FP.dneg (FP.i2d p0))), .second, .unset, .unset, .unset]) rfl ?_
    show Steps p.tables e below (s₁.setTop (mkF m 68 #[.val (.int p0), .val (.int p1), .val (.int p2), .val (.int (1 : Int32)), .val (.int (1 : Int32)), .val (.long ((-(p0.toInt64)))), .second, .val (.long ((-(p1.toInt64)))), .second, .val (.double (FP.dneg (FP.i2d p0))), .second, .unset, .unset, .unset] [])) _
    refine XS.iload X0.here hx rfl (hb hby at_68) rfl ?_
    show Steps p.tables e below (s₁.setTop (mkF m 70 #[.val (.int p0), .val (.int p1), .val (.int p2), .val (.int (1 : Int32)), .val (.int (1 : Int32)), .val (.long ((-(p0.toInt64)))), .second, .val (.long ((-(p1.toInt64)))), .second, .val (.double (FP.dneg (FP.i2d p0))), .second, .unset, .unset, .unset] [(.int (1 : Int32))])) _
    refine XS.ifNo X0.here hx rfl (hb hby at_70) rfl ((if0 _ _).trans (feq ((by decide) : ¬ ((1 : Int32) = (0 : Int32)))).1) ?_
    show Steps p.tables e below (s₁.setTop (mkF m 73 #[.val (.int p0), .val (.int p1), .val (.int p2), .val (.int (1 : Int32)), .val (.int (1 : Int32)), .val (.long ((-(p0.toInt64)))), .second, .val (.long ((-(p1.toInt64)))), .second, .val (.double (FP.dneg (FP.i2d p0))), .second, .unset, .unset, .unset] [])) _
    refine XS.iloadN X0.here hx rfl (hb hby at_73) rfl ?_
    show Steps p.tables e below (s₁.setTop (mkF m 74 #[.val (.int p0), .val (.int p1), .val (.int p2), .val (.int (1 : Int32)), .val (.int (1 : Int32)), .val (.long ((-(p0.toInt64)))), .second, .val (.long ((-(p1.toInt64)))), .second, .val (.double (FP.dneg (FP.i2d p0))), .second, .unset, .unset, .unset] [(.int p1)])) _
    refine XS.i2dS X0.here hx rfl (hb hby at_74) rfl rfl ?_
    show Steps p.tables e below (s₁.setTop (mkF m 75 #[.val (.int p0), .val (.int p1), .val (.int p2), .val (.int (1 : Int32)), .val (.int (1 : Int32)), .val (.long ((-(p0.toInt64)))), .second, .val (.long ((-(p1.toInt64)))), .second, .val (.double (FP.dneg (FP.i2d p0))), .second, .unset, .unset, .unset] [(.double (FP.i2d p1))])) _
    refine XS.dnegS X0.here hx rfl (hb hby at_75) rfl rfl ?_
    show Steps p.tables e below (s₁.setTop (mkF m 76 #[.val (.int p0), .val (.int p1), .val (.int p2), .val (.int (1 : Int32)), .val (.int (1 : Int32)), .val (.long ((-(p0.toInt64)))), .second, .val (.long ((-(p1.toInt64)))), .second, .val (.double (FP.dneg (FP.i2d p0))), .second, .unset, .unset, .unset] [(.double (FP.dneg (FP.i2d p1)))])) _
    refine XS.goto X0.here hx rfl (pc0 := 76) (pc' := 81) rfl (hb hby at_76) (by decide) (by decide) ?_
    show Steps p.tables e below (s₁.setTop (mkF m 81 #[.val (.int p0), .val (.int p1), .val (.int p2), .val (.int (1 : Int32)), .val (.int (1 : Int32)), .val (.long ((-(p0.toInt64)))), .second, .val (.long ((-(p1.toInt64)))), .second, .val (.double (FP.dneg (FP.i2d p0))), .second, .unset, .unset, .unset] [(.double (FP.dneg (FP.i2d p1)))])) _
    refine XS.dstore X0.here hx rfl (hb hby at_81) rfl (l' := #[.val (.int p0), .val (.int p1), .val (.int p2), .val (.int (1 : Int32)), .val (.int (1 : Int32)), .val (.long ((-(p0.toInt64)))), .second, .val (.long ((-(p1.toInt64)))), .second, .val (.double (FP.dneg (FP.i2d p0))), .second, .val (.double (FP.dneg (FP.i2d p1))), .second, .unset]) rfl ?_
    show Steps p.tables e below (s₁.setTop (mkF m 83 #[.val (.int p0), .val (.int p1), .val (.int p2), .val (.int (1 : Int32)), .val (.int (1 : Int32)), .val (.long ((-(p0.toInt64)))), .second, .val (.long ((-(p1.toInt64)))), .second, .val (.double (FP.dneg (FP.i2d p0))), .second, .val (.double (FP.dneg (FP.i2d p1))), .second, .unset] [])) _
    refine XS.lload X0.here hx rfl (hb hby at_83) rfl ?_
    show Steps p.tables e below (s₁.setTop (mkF m 85 #[.val (.int p0), .val (.int p1), .val (.int p2), .val (.int (1 : Int32)), .val (.int (1 : Int32)), .val (.long ((-(p0.toInt64)))), .second, .val (.long ((-(p1.toInt64)))), .second, .val (.double (FP.dneg (FP.i2d p0))), .second, .val (.double (FP.dneg (FP.i2d p1))), .second, .unset] [(.long ((-(p0.toInt64))))])) _
    refine XS.lload X0.here hx rfl (hb hby at_85) rfl ?_
    show Steps p.tables e below (s₁.setTop (mkF m 87 #[.val (.int p0), .val (.int p1), .val (.int p2), .val (.int (1 : Int32)), .val (.int (1 : Int32)), .val (.long ((-(p0.toInt64)))), .second, .val (.long ((-(p1.toInt64)))), .second, .val (.double (FP.dneg (FP.i2d p0))), .second, .val (.double (FP.dneg (FP.i2d p1))), .second, .unset] [(.long ((-(p1.toInt64)))), (.long ((-(p0.toInt64))))])) _
    refine XS.lcmp X0.here hx rfl (hb hby at_87) rfl ?_
    show Steps p.tables e below (s₁.setTop (mkF m 88 #[.val (.int p0), .val (.int p1), .val (.int p2), .val (.int (1 : Int32)), .val (.int (1 : Int32)), .val (.long ((-(p0.toInt64)))), .second, .val (.long ((-(p1.toInt64)))), .second, .val (.double (FP.dneg (FP.i2d p0))), .second, .val (.double (FP.dneg (FP.i2d p1))), .second, .unset] [(.int (lcmpW ((-(p0.toInt64))) ((-(p1.toInt64)))))])) _
    rw [hL]
    show Steps p.tables e below (s₁.setTop (mkF m 88 #[.val (.int p0), .val (.int p1), .val (.int p2), .val (.int (1 : Int32)), .val (.int (1 : Int32)), .val (.long ((-(p0.toInt64)))), .second, .val (.long ((-(p1.toInt64)))), .second, .val (.double (FP.dneg (FP.i2d p0))), .second, .val (.double (FP.dneg (FP.i2d p1))), .second, .unset] [(.int (1 : Int32))])) _
    refine XS.ifYes X0.here hx rfl (pc0 := 88) (pc' := 99) rfl (hb hby at_88) rfl ((if0 _ _).trans (flt ((by decide) : ¬ ((1 : Int32) < (0 : Int32)))).2.1) (by decide) (by decide) ?_
    show Steps p.tables e below (s₁.setTop (mkF m 99 #[.val (.int p0), .val (.int p1), .val (.int p2), .val (.int (1 : Int32)), .val (.int (1 : Int32)), .val (.long ((-(p0.toInt64)))), .second, .val (.long ((-(p1.toInt64)))), .second, .val (.double (FP.dneg (FP.i2d p0))), .second, .val (.double (FP.dneg (FP.i2d p1))), .second, .unset] [])) _
    refine XS.lload X0.here hx rfl (hb hby at_99) rfl ?_
    show Steps p.tables e below (s₁.setTop (mkF m 101 #[.val (.int p0), .val (.int p1), .val (.int p2), .val (.int (1 : Int32)), .val (.int (1 : Int32)), .val (.long ((-(p0.toInt64)))), .second, .val (.long ((-(p1.toInt64)))), .second, .val (.double (FP.dneg (FP.i2d p0))), .second, .val (.double (FP.dneg (FP.i2d p1))), .second, .unset] [(.long ((-(p0.toInt64))))])) _
    refine XS.lload X0.here hx rfl (hb hby at_101) rfl ?_
    show Steps p.tables e below (s₁.setTop (mkF m 103 #[.val (.int p0), .val (.int p1), .val (.int p2), .val (.int (1 : Int32)), .val (.int (1 : Int32)), .val (.long ((-(p0.toInt64)))), .second, .val (.long ((-(p1.toInt64)))), .second, .val (.double (FP.dneg (FP.i2d p0))), .second, .val (.double (FP.dneg (FP.i2d p1))), .second, .unset] [(.long ((-(p1.toInt64)))), (.long ((-(p0.toInt64))))])) _
    refine XS.lcmp X0.here hx rfl (hb hby at_103) rfl ?_
    show Steps p.tables e below (s₁.setTop (mkF m 104 #[.val (.int p0), .val (.int p1), .val (.int p2), .val (.int (1 : Int32)), .val (.int (1 : Int32)), .val (.long ((-(p0.toInt64)))), .second, .val (.long ((-(p1.toInt64)))), .second, .val (.double (FP.dneg (FP.i2d p0))), .second, .val (.double (FP.dneg (FP.i2d p1))), .second, .unset] [(.int (lcmpW ((-(p0.toInt64))) ((-(p1.toInt64)))))])) _
    rw [hL]
    show Steps p.tables e below (s₁.setTop (mkF m 104 #[.val (.int p0), .val (.int p1), .val (.int p2), .val (.int (1 : Int32)), .val (.int (1 : Int32)), .val (.long ((-(p0.toInt64)))), .second, .val (.long ((-(p1.toInt64)))), .second, .val (.double (FP.dneg (FP.i2d p0))), .second, .val (.double (FP.dneg (FP.i2d p1))), .second, .unset] [(.int (1 : Int32))])) _
    refine XS.ifNo X0.here hx rfl (hb hby at_104) rfl ((if0 _ _).trans (tlt ((by decide) : (0 : Int32) < (1 : Int32))).2.2.2) ?_
    show Steps p.tables e below (s₁.setTop (mkF m 107 #[.val (.int p0), .val (.int p1), .val (.int p2), .val (.int (1 : Int32)), .val (.int (1 : Int32)), .val (.long ((-(p0.toInt64)))), .second, .val (.long ((-(p1.toInt64)))), .second, .val (.double (FP.dneg (FP.i2d p0))), .second, .val (.double (FP.dneg (FP.i2d p1))), .second, .unset] [])) _
    refine st1 _ ?_
    show Steps p.tables e below (T1.setTop (mkF m 110 #[.val (.int p0), .val (.int p1), .val (.int p2), .val (.int (1 : Int32)), .val (.int (1 : Int32)), .val (.long ((-(p0.toInt64)))), .second, .val (.long ((-(p1.toInt64)))), .second, .val (.double (FP.dneg (FP.i2d p0))), .second, .val (.double (FP.dneg (FP.i2d p1))), .second, .unset] [(.ref w0)])) _
    refine XS.astore X1.here hx rfl (hb hby at_110) rfl rfl (l' := #[.val (.int p0), .val (.int p1), .val (.int p2), .val (.int (1 : Int32)), .val (.int (1 : Int32)), .val (.long ((-(p0.toInt64)))), .second, .val (.long ((-(p1.toInt64)))), .second, .val (.double (FP.dneg (FP.i2d p0))), .second, .val (.double (FP.dneg (FP.i2d p1))), .second, .val (.ref w0)]) rfl ?_
    show Steps p.tables e below (T1.setTop (mkF m 112 #[.val (.int p0), .val (.int p1), .val (.int p2), .val (.int (1 : Int32)), .val (.int (1 : Int32)), .val (.long ((-(p0.toInt64)))), .second, .val (.long ((-(p1.toInt64)))), .second, .val (.double (FP.dneg (FP.i2d p0))), .second, .val (.double (FP.dneg (FP.i2d p1))), .second, .val (.ref w0)] [])) _
    refine XS.goto X1.here hx rfl (pc0 := 112) (pc' := 120) rfl (hb hby at_112) (by decide) (by decide) ?_
    show Steps p.tables e below (T1.setTop (mkF m 120 #[.val (.int p0), .val (.int p1), .val (.int p2), .val (.int (1 : Int32)), .val (.int (1 : Int32)), .val (.long ((-(p0.toInt64)))), .second, .val (.long ((-(p1.toInt64)))), .second, .val (.double (FP.dneg (FP.i2d p0))), .second, .val (.double (FP.dneg (FP.i2d p1))), .second, .val (.ref w0)] [])) _
    refine XS.dload X1.here hx rfl (hb hby at_120) rfl ?_
    show Steps p.tables e below (T1.setTop (mkF m 122 #[.val (.int p0), .val (.int p1), .val (.int p2), .val (.int (1 : Int32)), .val (.int (1 : Int32)), .val (.long ((-(p0.toInt64)))), .second, .val (.long ((-(p1.toInt64)))), .second, .val (.double (FP.dneg (FP.i2d p0))), .second, .val (.double (FP.dneg (FP.i2d p1))), .second, .val (.ref w0)] [(.double (FP.dneg (FP.i2d p0)))])) _
    refine XS.dload X1.here hx rfl (hb hby at_122) rfl ?_
    show Steps p.tables e below (T1.setTop (mkF m 124 #[.val (.int p0), .val (.int p1), .val (.int p2), .val (.int (1 : Int32)), .val (.int (1 : Int32)), .val (.long ((-(p0.toInt64)))), .second, .val (.long ((-(p1.toInt64)))), .second, .val (.double (FP.dneg (FP.i2d p0))), .second, .val (.double (FP.dneg (FP.i2d p1))), .second, .val (.ref w0)] [(.double (FP.dneg (FP.i2d p1))), (.double (FP.dneg (FP.i2d p0)))])) _
    refine st2 _ ?_
    show Steps p.tables e below (T2.setTop (mkF m 127 #[.val (.int p0), .val (.int p1), .val (.int p2), .val (.int (1 : Int32)), .val (.int (1 : Int32)), .val (.long ((-(p0.toInt64)))), .second, .val (.long ((-(p1.toInt64)))), .second, .val (.double (FP.dneg (FP.i2d p0))), .second, .val (.double (FP.dneg (FP.i2d p1))), .second, .val (.ref w0)] [(.ref w0)])) _
    refine XS.aload X2.here hx rfl (hb hby at_127) rfl rfl ?_
    show Steps p.tables e below (T2.setTop (mkF m 129 #[.val (.int p0), .val (.int p1), .val (.int p2), .val (.int (1 : Int32)), .val (.int (1 : Int32)), .val (.long ((-(p0.toInt64)))), .second, .val (.long ((-(p1.toInt64)))), .second, .val (.double (FP.dneg (FP.i2d p0))), .second, .val (.double (FP.dneg (FP.i2d p1))), .second, .val (.ref w0)] [(.ref w0), (.ref w0)])) _
    refine Jvm.RoadKit.acmp (g := (mkF m 129 #[.val (.int p0), .val (.int p1), .val (.int p2), .val (.int (1 : Int32)), .val (.int (1 : Int32)), .val (.long ((-(p0.toInt64)))), .second, .val (.long ((-(p1.toInt64)))), .second, .val (.double (FP.dneg (FP.i2d p0))), .second, .val (.double (FP.dneg (FP.i2d p1))), .second, .val (.ref w0)] [(.ref w0), (.ref w0)])) X2 hx rfl rfl rfl (pc0 := 129) (pc' := 132) (same := true) rfl (hb hby at_129) rfl (decide_eq_true rfl) (by decide) (by decide) ?_
    show Steps p.tables e below (T2.setTop (mkF m 132 #[.val (.int p0), .val (.int p1), .val (.int p2), .val (.int (1 : Int32)), .val (.int (1 : Int32)), .val (.long ((-(p0.toInt64)))), .second, .val (.long ((-(p1.toInt64)))), .second, .val (.double (FP.dneg (FP.i2d p0))), .second, .val (.double (FP.dneg (FP.i2d p1))), .second, .val (.ref w0)] [])) _
    refine XS.iconst X2.here hx rfl (hb hby at_132) ?_
    show Steps p.tables e below (T2.setTop (mkF m 133 #[.val (.int p0), .val (.int p1), .val (.int p2), .val (.int (1 : Int32)), .val (.int (1 : Int32)), .val (.long ((-(p0.toInt64)))), .second, .val (.long ((-(p1.toInt64)))), .second, .val (.double (FP.dneg (FP.i2d p0))), .second, .val (.double (FP.dneg (FP.i2d p1))), .second, .val (.ref w0)] [(.int (1 : Int32))])) _
    refine XS.goto X2.here hx rfl (pc0 := 133) (pc' := 137) rfl (hb hby at_133) (by decide) (by decide) ?_
    show Steps p.tables e below (T2.setTop (mkF m 137 #[.val (.int p0), .val (.int p1), .val (.int p2), .val (.int (1 : Int32)), .val (.int (1 : Int32)), .val (.long ((-(p0.toInt64)))), .second, .val (.long ((-(p1.toInt64)))), .second, .val (.double (FP.dneg (FP.i2d p0))), .second, .val (.double (FP.dneg (FP.i2d p1))), .second, .val (.ref w0)] [(.int (1 : Int32))])) _
    exact retN X2 hx (t := .boolean) Bd.returns (by simp) (hb hby at_137) hr
  · exact ⟨rfl, N2, e2⟩
theorem rl (l : Launch) (Z : State) (a0 : Array Value) (hw : ∀ d ∈ tables_1, d.before a0 Z = true) (ws : List Jvm.Cond) (p0 p1 p2 : Int32) (w0 w1 w2 : Addr) (h0 : Heap) (n0 : Nat) (O : Old Z n0 h0) (hG : GG Z w0 w1 w2) :
    MetFree l x (head1 (Jvm.Cond.code x code maxLocals ret :: ws) room_1) (fun a U => a = #[(.int p0), (.int p1), (.int p2)] ∧ Z.Warmed39 U.vm ∧ U.heap = h0) (fun _ _ _ _ _ => True) (fun _ U o U' => ∃ v L, o = .returned v ∧ Qv (some (.int (1 : Int32))) h0 n0 v U'.heap L ∧ FrameEnd U o U' L 0 0) := by
  have r0 := rng32 p0
  have r1 := rng32 p1
  have D0 := FP.Core.i2d_int p0
  have D1 := FP.Core.i2d_int p1
  have c0 := c_i2l p0
  have c1 := c_i2l p1
  have m0 := c_lneg p0.toInt64
  have m1 := c_lneg p1.toInt64
  have q0 := rng64 (-p0.toInt64)
  have q1 := rng64 (-p1.toInt64)
  rcases own_one p2 with hA | hA <;> rcases own_two p2 with hB | hB
  · have hc := fun o => own_cmp D0 D1 o
    have hl := c_lcmp (p0.toInt64) (p1.toInt64)
    have ea : ((p0.toInt64)).toInt = p0.toInt := by omega
    have eb : ((p1.toInt64)).toInt = p1.toInt := by omega
    rw [ea, eb] at hl
    rcases Int.lt_trichotomy p0.toInt p1.toInt with h | h | h
    · exact rl_0_0_0 l Z a0 hw ws p0 p1 p2 w0 w1 w2 h0 n0 O hG hA hB (Int32.toInt_inj.mp (hl.1 h)) (fun o => (hc o).1 h)
    · exact rl_0_0_1 l Z a0 hw ws p0 p1 p2 w0 w1 w2 h0 n0 O hG hA hB (Int32.toInt_inj.mp (hl.2.1 h)) (fun o => (hc o).2.1 h)
    · exact rl_0_0_2 l Z a0 hw ws p0 p1 p2 w0 w1 w2 h0 n0 O hG hA hB (Int32.toInt_inj.mp (hl.2.2 h)) (fun o => (hc o).2.2 h)
  · have hc := fun o => own_cmp D0 (own_dneg D1) o
    have hl := c_lcmp (p0.toInt64) (-(p1.toInt64))
    have ea : ((p0.toInt64)).toInt = p0.toInt := by omega
    have eb : ((-(p1.toInt64))).toInt = (-p1.toInt) := by omega
    rw [ea, eb] at hl
    rcases Int.lt_trichotomy p0.toInt (-p1.toInt) with h | h | h
    · exact rl_0_1_0 l Z a0 hw ws p0 p1 p2 w0 w1 w2 h0 n0 O hG hA hB (Int32.toInt_inj.mp (hl.1 h)) (fun o => (hc o).1 h)
    · exact rl_0_1_1 l Z a0 hw ws p0 p1 p2 w0 w1 w2 h0 n0 O hG hA hB (Int32.toInt_inj.mp (hl.2.1 h)) (fun o => (hc o).2.1 h)
    · exact rl_0_1_2 l Z a0 hw ws p0 p1 p2 w0 w1 w2 h0 n0 O hG hA hB (Int32.toInt_inj.mp (hl.2.2 h)) (fun o => (hc o).2.2 h)
  · have hc := fun o => own_cmp (own_dneg D0) D1 o
    have hl := c_lcmp (-(p0.toInt64)) (p1.toInt64)
    have ea : ((-(p0.toInt64))).toInt = (-p0.toInt) := by omega
    have eb : ((p1.toInt64)).toInt = p1.toInt := by omega
    rw [ea, eb] at hl
    rcases Int.lt_trichotomy (-p0.toInt) p1.toInt with h | h | h
    · exact rl_1_0_0 l Z a0 hw ws p0 p1 p2 w0 w1 w2 h0 n0 O hG hA hB (Int32.toInt_inj.mp (hl.1 h)) (fun o => (hc o).1 h)
    · exact rl_1_0_1 l Z a0 hw ws p0 p1 p2 w0 w1 w2 h0 n0 O hG hA hB (Int32.toInt_inj.mp (hl.2.1 h)) (fun o => (hc o).2.1 h)
    · exact rl_1_0_2 l Z a0 hw ws p0 p1 p2 w0 w1 w2 h0 n0 O hG hA hB (Int32.toInt_inj.mp (hl.2.2 h)) (fun o => (hc o).2.2 h)
  · have hc := fun o => own_cmp (own_dneg D0) (own_dneg D1) o
    have hl := c_lcmp (-(p0.toInt64)) (-(p1.toInt64))
    have ea : ((-(p0.toInt64))).toInt = (-p0.toInt) := by omega
    have eb : ((-(p1.toInt64))).toInt = (-p1.toInt) := by omega
    rw [ea, eb] at hl
    rcases Int.lt_trichotomy (-p0.toInt) (-p1.toInt) with h | h | h
    · exact rl_1_1_0 l Z a0 hw ws p0 p1 p2 w0 w1 w2 h0 n0 O hG hA hB (Int32.toInt_inj.mp (hl.1 h)) (fun o => (hc o).1 h)
    · exact rl_1_1_1 l Z a0 hw ws p0 p1 p2 w0 w1 w2 h0 n0 O hG hA hB (Int32.toInt_inj.mp (hl.2.1 h)) (fun o => (hc o).2.1 h)
    · exact rl_1_1_2 l Z a0 hw ws p0 p1 p2 w0 w1 w2 h0 n0 O hG hA hB (Int32.toInt_inj.mp (hl.2.2 h)) (fun o => (hc o).2.2 h)
set_option maxRecDepth 65536 in
set_option maxHeartbeats 40000000 in
theorem comes_1 {Post : Tables → Env → Array Value → State → Outcome → State → Prop} (hpost : ∀ tb e args s v u, (limb_1_1.after args s (.returned v) u = true ∧ limb_1_2.after args s (.returned v) u = true ∧ True) → FrameEnd s (.returned v) u (Jvm.fieldLocs frame_1_writes args s ++ Jvm.arrayLocs frame_1_arrays args s ++ Jvm.staticLocs frame_1_statics s) 0 0 → Post tb e args s (.returned v) u) :
    ArmFor flags0 classFile x code maxLocals ret World_1 tables_1 room_1 Calls_1 rest_1 Pre_1 Post := by
  intro l hfl _ _ p e ha hc hk s m args below hf hA hF happ hP
  obtain ⟨hcalls, hrest, hpre⟩ := hP
  obtain ⟨-, -, -, hnamed, -, -, -, hat⟩ := (Spec.applies_iff hf).mp happ
  obtain ⟨hg, hn⟩ := and_e (Cond.before_iff.mp (show (Jvm.Cond.and given_1 narrow_1).before args s = true from hpre))
  obtain ⟨h1, g0⟩ := and_e hg
  obtain ⟨g0, g1⟩ := and_e g0
  obtain ⟨g1, g2⟩ := and_e g1
  obtain ⟨w0, w1, w2, rfl⟩ : ∃ w0 w1 w2 : Value, args = #[w0, w1, w2] := by
    have hs : args.size = 3 := by simpa [Cond.value, given_1] using h1
    obtain ⟨L⟩ := args
    match L, hs with
    | [w0, w1, w2], _ => exact ⟨w0, w1, w2, rfl⟩
  have hw := fun d (hd : d ∈ tables_1) => atoms_spec (ws := Jvm.Cond.code x code maxLocals ret :: tables_1) hat d (List.mem_cons_of_mem _ hd)
  have hfit : Fit s := fun {y c} hc i hi => by
    obtain ⟨ha, rfl⟩ := Array.getElem?_eq_some_iff.mp hc
    have q := List.all_eq_true.mp ((Array.all_eq_true_iff_forall_mem.mp hF) _ (Array.getElem_mem ha)) i (List.mem_range.mpr hi)
    simpa [Array.getElem?_eq_getElem hi] using q
  obtain ⟨i0, e0⟩ := is_v g0
  obtain rfl : w0 = (.int i0) := Option.some.inj e0
  obtain ⟨i1, e1⟩ := is_v g1
  obtain rfl : w1 = (.int i1) := Option.some.inj e1
  obtain ⟨i2, e2⟩ := is_v g2
  obtain rfl : w2 = (.int i2) := Option.some.inj e2
  obtain ⟨q0, hn⟩ := and_e hn
  obtain ⟨q1, hn⟩ := and_e hn
  have q2 := hn
  obtain ⟨w0, vw0⟩ := exa_v q0
  have Sw0 := Sta.start vw0 (Or.inr ⟨(hw _ (List.mem_of_getElem? (i := 1) rfl)), (hw _ (List.mem_of_getElem? (i := 2) rfl))⟩)
  have Ew0 := Exa.start vw0 q0
  obtain ⟨w1, vw1⟩ := exa_v q1
  have Sw1 := Sta.start vw1 (Or.inr ⟨(hw _ (List.mem_of_getElem? (i := 1) rfl)), (hw _ (List.mem_of_getElem? (i := 8) rfl))⟩)
  have Ew1 := Exa.start vw1 q1
  obtain ⟨w2, vw2⟩ := exa_v q2
  have Sw2 := Sta.start vw2 (Or.inr ⟨(hw _ (List.mem_of_getElem? (i := 1) rfl)), (hw _ (List.mem_of_getElem? (i := 11) rfl))⟩)
  have Ew2 := Exa.start vw2 q2
  have hG : GG s w0 w1 w2 := ⟨Sw0, Sw1, Sw2, Ew0, Ew1, Ew2⟩
  obtain ⟨n, o, h1, h2, h3, _, L, rfl, ⟨rfl, N, -⟩, hq⟩ := rl l s _ hw tables_1 i0 i1 i2 w0 w1 w2 s.heap s.heap.size (Old.start s) hG p e ha hc hk s m _ below hf ((Spec.applies_iff_loose hf).mp happ).1 ⟨rfl, State.Warmed39.refl s, rfl⟩ trivial
  exact ⟨n, _, h1, h2, h3, hpost _ _ _ _ _ _ ⟨Cond.after_iff.mpr rfl, Cond.after_iff.mpr (eq_i res_at (Term.int_eval (1)) rfl), trivial⟩ ⟨hq.1, hq.2.1, (hq.2.2.sift fun y hy => Or.inr (N y hy)).mono (by decide) (by decide)⟩⟩
theorem main_1_1 : Claimed_1_1 := comes_1 fun _ _ _ _ _ _ h hF => ⟨h.1, hF⟩
theorem main_1_2 : Claimed_1_2 := comes_1 fun _ _ _ _ _ _ h hF => ⟨h.2.1, hF⟩
end Jvm.Pilot.@@N@@
namespace Jvm.Pilot.@@N@@
open Jvm Jvm.ClassFile Sem Op Lib Jvm.Free Jvm.Stand Jvm.Pilot.@@N@@.Jvm.D
/-! MADE BY PROGRAM (witnessworld.py) out of the Statement's table words and the real class files: 10 classes; the members and pool entries that the words name. The judged class is class 1, her method 1. -/
namespace start1
open Jvm.ClassFile
def u (s : String) : CpInfo := .utf8 (stringToUtf16 s)
/-- a pool by its gaps: so many unusable entries, then the entry; so many at the end -/
def gap : Nat → List CpInfo → List CpInfo
  | 0, r => r
  | n + 1, r => .unusable :: gap n r
def poolList (es : List (Nat × CpInfo)) (last : Nat) : List CpInfo := es.foldr (fun e r => gap e.1 (e.2 :: r)) (gap last [])
def pool (es : List (Nat × CpInfo)) (last : Nat) : Array CpInfo := ⟨poolList es last⟩
def fileOf (pool : Array CpInfo) (this : Nat) (attrs : Array Attribute := #[]) (ms : Array MethodInfo := #[]) (fl : Nat := 33) (sup : Nat := 0) (ifs : Array Nat := #[]) (fds : Array FieldInfo := #[]) : ClassFile where
  minorVersion := 0
  majorVersion := 65
  constantPool := pool
  accessFlags := fl
  thisClass := this
  superClass := sup
  interfaces := ifs
  fields := fds
  methods := ms
  attributes := attrs
def plain (name : String) (sup : Option ClassId) : Class where
  name := name
  kind := .ordinary
  loader := none
  accessFlags := 33
  super := sup
  interfaces := #[]
  cf := none
  fields := #[]
  methods := #[]
  instanceTypes := #[]
  staticTypes := #[]
  resolved := #[]
  callSites := []
  init := .initialized
  statics := none
  mirror := none

def pool0 : Array CpInfo := pool [(5, u "<init>"), (0, u "()V"), (1, .class_ 10), (1, u "java/lang/Object")] 113

def k0m0 : Method := { name := "<init>", desc := "()V", sig := { parameters := [], returnType := none }, accessFlags := 1, code := none }
/-- java/lang/Object -/
def k0 : Class := { plain "java/lang/Object" none with
  accessFlags := 33
  interfaces := #[]
  cf := some (fileOf pool0 8 #[] #[{ accessFlags := 1, nameIndex := 5, descriptorIndex := 6, attributes := #[] }] 33 0 #[] #[])
  fields := #[]
  methods := #[k0m0]
  instanceTypes := #[]
  staticTypes := #[]
  resolved := Array.replicate 124 none
  statics := none }

def pool1 : Array CpInfo := pool [(2, .class_ 4), (1, u "java/lang/Object"), (0, u "<init>"), (0, u "()V"), (0, .fieldref 8 9), (0, .class_ 10), (0, .nameAndType 11 12), (0, u "com/example/fieldward/fieldward/validation/OrderedKind$Order"), (0, u "LESS"), (0, u "Lcom/example/fieldward/fieldward/validation/OrderedKind$Order;"), (0, .fieldref 8 14), (0, .nameAndType 15 12), (0, u "GREATER"), (0, .fieldref 8 17), (0, .nameAndType 18 12), (0, u "EQUAL"), (0, .methodref 8 20), (0, .nameAndType 21 22), (0, u "of"), (0, u "(DD)Lcom/example/fieldward/fieldward/validation/OrderedKind$Order;"), (0, .class_ 24), (0, u "com/example/fieldward/fieldward/validation/OrderOfPinLaw"), (2, u "law"), (0, u "(III)Z")] 7

def k1m0 : Method := { name := "<init>", desc := "()V", sig := { parameters := [], returnType := none }, accessFlags := 1, code := none }
def k1c1 : Code := { maxStack := 4, maxLocals := 14, code := code, exceptionTable := #[], attributes := #[] }
def k1m1 : Method := { name := "law", desc := "(III)Z", sig := { parameters := [.int, .int, .int], returnType := some .boolean }, accessFlags := 9, code := some k1c1 }
/-- com/example/fieldward/fieldward/validation/OrderOfPinLaw -/
def k1 : Class := { plain "com/example/fieldward/fieldward/validation/OrderOfPinLaw" (some 0) with
  accessFlags := 49
  interfaces := #[]
  cf := some (fileOf pool1 23 #[] #[{ accessFlags := 1, nameIndex := 5, descriptorIndex := 6, attributes := #[] }, { accessFlags := 9, nameIndex := 27, descriptorIndex := 28, attributes := #[] }] 49 2 #[] #[])
  fields := #[]
  methods := #[k1m0, k1m1]
  instanceTypes := #[]
  staticTypes := #[]
  resolved := Array.replicate 36 none
  statics := none }

def pool2 : Array CpInfo := pool [(1, .class_ 2), (0, u "java/lang/constant/Constable"), (0, .class_ 4), (0, u "java/lang/Object")] 6

/-- java/lang/constant/Constable -/
def k2 : Class := { plain "java/lang/constant/Constable" (some 0) with
  accessFlags := 1537
  interfaces := #[]
  cf := some (fileOf pool2 1 #[] #[] 1537 3 #[] #[])
  fields := #[]
  methods := #[]
  instanceTypes := #[]
  staticTypes := #[]
  resolved := Array.replicate 11 none
  statics := none }

def pool3 : Array CpInfo := pool [(1, .class_ 2), (0, u "java/lang/Comparable"), (0, .class_ 4), (0, u "java/lang/Object")] 7

/-- java/lang/Comparable -/
def k3 : Class := { plain "java/lang/Comparable" (some 0) with
  accessFlags := 1537
  interfaces := #[]
  cf := some (fileOf pool3 1 #[] #[] 1537 3 #[] #[])
  fields := #[]
  methods := #[]
  instanceTypes := #[]
  staticTypes := #[]
  resolved := Array.replicate 12 none
  statics := none }

def pool4 : Array CpInfo := pool [(1, .class_ 2), (0, u "java/io/Serializable"), (0, .class_ 4), (0, u "java/lang/Object")] 2

/-- java/io/Serializable -/
def k4 : Class := { plain "java/io/Serializable" (some 0) with
  accessFlags := 1537
  interfaces := #[]
  cf := some (fileOf pool4 1 #[] #[] 1537 3 #[] #[])
  fields := #[]
  methods := #[]
  instanceTypes := #[]
  staticTypes := #[]
  resolved := Array.replicate 7 none
  statics := none }

def pool5 : Array CpInfo := pool [(2, .class_ 4), (1, u "java/lang/Enum"), (0, u "name"), (0, u "Ljava/lang/String;"), (2, u "ordinal"), (0, u "I"), (1, .class_ 14), (1, u "java/lang/Object"), (4, u "hash"), (86, .class_ 108), (1, u "java/lang/Enum$EnumDesc"), (2, .class_ 112), (0, u "java/lang/constant/Constable"), (0, .class_ 114), (0, u "java/lang/Comparable"), (0, .class_ 116), (0, u "java/io/Serializable")] 87

/-- java/lang/Enum -/
def k5 : Class := { plain "java/lang/Enum" (some 0) with
  accessFlags := 1057
  interfaces := #[2, 3, 4]
  cf := some (fileOf pool5 2 #[.nestMembers #[106]] #[] 1057 12 #[111, 113, 115] #[{ accessFlags := 18, nameIndex := 5, descriptorIndex := 6, attributes := #[] }, { accessFlags := 18, nameIndex := 9, descriptorIndex := 10, attributes := #[] }, { accessFlags := 2, nameIndex := 19, descriptorIndex := 10, attributes := #[] }])
  fields := #[{ name := "name", type := (.object "java/lang/String"), accessFlags := 18, slot := 0, constantValue := 0 }, { name := "ordinal", type := .int, accessFlags := 18, slot := 1, constantValue := 0 }, { name := "hash", type := .int, accessFlags := 2, slot := 2, constantValue := 0 }]
  methods := #[]
  instanceTypes := #[(.object "java/lang/String"), .int, .int]
  staticTypes := #[]
  resolved := Array.replicate 204 none
  statics := none }

def pool6 : Array CpInfo := pool [(1, .class_ 2), (0, u "com/example/fieldward/fieldward/validation/OrderedKind$Order"), (0, .fieldref 1 4), (0, .nameAndType 5 6), (0, u "LESS"), (0, u "Lcom/example/fieldward/fieldward/validation/OrderedKind$Order;"), (0, .fieldref 1 8), (0, .nameAndType 9 6), (0, u "EQUAL"), (0, .fieldref 1 11), (0, .nameAndType 12 6), (0, u "GREATER"), (2, u "UNORDERED"), (2, u "$VALUES"), (0, u "[Lcom/example/fieldward/fieldward/validation/OrderedKind$Order;"), (6, .class_ 28), (1, u "java/lang/Enum"), (22, u "of"), (2, u "(DD)Lcom/example/fieldward/fieldward/validation/OrderedKind$Order;"), (5, .class_ 61), (0, u "com/example/fieldward/fieldward/validation/OrderedKind")] 2

def k6c0 : Code := { maxStack := 4, maxLocals := 5, code := prog_15_method_5_code, exceptionTable := #[], attributes := #[] }
def k6m0 : Method := { name := "of", desc := "(DD)Lcom/example/fieldward/fieldward/validation/OrderedKind$Order;", sig := { parameters := [.double, .double], returnType := some (.object "com/example/fieldward/fieldward/validation/OrderedKind$Order") }, accessFlags := 8, code := some k6c0 }
/-- com/example/fieldward/fieldward/validation/OrderedKind$Order -/
def k6 : Class := { plain "com/example/fieldward/fieldward/validation/OrderedKind$Order" (some 5) with
  accessFlags := 16433
  interfaces := #[]
  cf := some (fileOf pool6 1 #[.nestHost 60] #[{ accessFlags := 8, nameIndex := 51, descriptorIndex := 54, attributes := #[] }] 16433 26 #[] #[{ accessFlags := 16409, nameIndex := 5, descriptorIndex := 6, attributes := #[] }, { accessFlags := 16409, nameIndex := 9, descriptorIndex := 6, attributes := #[] }, { accessFlags := 16409, nameIndex := 12, descriptorIndex := 6, attributes := #[] }, { accessFlags := 16409, nameIndex := 15, descriptorIndex := 6, attributes := #[] }, { accessFlags := 4122, nameIndex := 18, descriptorIndex := 19, attributes := #[] }])
  fields := #[{ name := "LESS", type := (.object "com/example/fieldward/fieldward/validation/OrderedKind$Order"), accessFlags := 16409, slot := 0, constantValue := 0 }, { name := "EQUAL", type := (.object "com/example/fieldward/fieldward/validation/OrderedKind$Order"), accessFlags := 16409, slot := 1, constantValue := 0 }, { name := "GREATER", type := (.object "com/example/fieldward/fieldward/validation/OrderedKind$Order"), accessFlags := 16409, slot := 2, constantValue := 0 }, { name := "UNORDERED", type := (.object "com/example/fieldward/fieldward/validation/OrderedKind$Order"), accessFlags := 16409, slot := 3, constantValue := 0 }, { name := "$VALUES", type := (.array (.object "com/example/fieldward/fieldward/validation/OrderedKind$Order")), accessFlags := 4122, slot := 4, constantValue := 0 }]
  methods := #[k6m0]
  instanceTypes := #[(.object "java/lang/String"), .int, .int]
  staticTypes := #[(.object "com/example/fieldward/fieldward/validation/OrderedKind$Order"), (.object "com/example/fieldward/fieldward/validation/OrderedKind$Order"), (.object "com/example/fieldward/fieldward/validation/OrderedKind$Order"), (.object "com/example/fieldward/fieldward/validation/OrderedKind$Order"), (.array (.object "com/example/fieldward/fieldward/validation/OrderedKind$Order"))]
  resolved := Array.replicate 64 none
  statics := some 0 }

def pool7 : Array CpInfo := pool [(1, u "java/lang/Cloneable"), (0, .class_ 1), (0, u "java/lang/Object"), (0, .class_ 3)] 3

/-- java/lang/Cloneable -/
def k7 : Class := { plain "java/lang/Cloneable" (some 0) with
  accessFlags := 1537
  interfaces := #[]
  cf := some (fileOf pool7 2 #[] #[] 1537 4 #[] #[])
  fields := #[]
  methods := #[]
  instanceTypes := #[]
  staticTypes := #[]
  resolved := Array.replicate 8 none
  statics := none }

/-- the primitive byte -/
def k8 : Class := { plain "byte" none with kind := .primitive 'B', accessFlags := 0x411 }
/-- [B -/
def k9 : Class := { plain "[B" (some 0) with kind := .array 8 .byte, interfaces := #[7, 4], accessFlags := 1041 }

def heap : Heap := #[{ cls := 6, slots := #[.ref 2, .ref 3, .ref 1, .null, .null], vm := .statics 6 },
  { cls := 6, slots := #[.null, .int 0, .int 0], vm := .none },
  { cls := 6, slots := #[.null, .int 0, .int 0], vm := .none },
  { cls := 6, slots := #[.null, .int 0, .int 0], vm := .none }]
def classes : Array Class := #[k0, k1, k2, k3, k4, k5, k6, k7, k8, k9]
def interned : List (Array UInt16 × Addr) := []
def slotsUsed : Nat := 14
def theMethod : MethodId := ⟨1, 1⟩
def args0 : Array Value := #[.int 5, .int 6, .int 1]
def aboutOver (below : List Frame) : State where
  vm := { classes := classes, interned := interned.toArray }
  heap := heap
  slotsUsed := slotsUsed
  threads := #[{ frames := .invoking theMethod args0 :: below }]
def below0 : List Frame := [.native { method := ⟨0, 0⟩, args := #[] }]
def about1 : State := aboutOver below0
def p0 : Program := .bare "" "" ""
def e0 : Env := launch0.env 0 0 0
theorem w_frames : about1.frames = Frame.invoking theMethod args0 :: below0 := rfl
set_option maxRecDepth 65536 in
theorem w_args : argsFit about1.vm theMethod args0 = true := by decide +kernel
set_option maxRecDepth 65536 in
theorem w_heap : heapFits about1 = true := by decide +kernel
set_option maxRecDepth 65536 in
theorem w_runnable : about1.curStatus? = some .runnable := by decide +kernel
set_option maxRecDepth 65536 in
theorem w_alone : about1.alone = true := by decide +kernel
set_option maxRecDepth 65536 in
theorem w_named : about1.methodNamed? x = some theMethod := by decide +kernel
set_option maxRecDepth 65536 in
theorem w_hears : about1.hears theMethod below0 = true := by decide +kernel
set_option maxRecDepth 65536 in
theorem w_ripe : about1.ripe theMethod args0 below0 = true := by decide +kernel
theorem w_running : about1.status = .running := rfl
set_option maxRecDepth 65536 in
theorem w_room : about1.hasRoom e0.platform room_1 = true :=
  launch0.hasRoom_least _ room_1 (by decide +kernel) (by decide +kernel) (by decide +kernel) (by decide +kernel) (by decide +kernel) (by decide +kernel)
theorem allAtoms_all (ts : List Jvm.Cond) (a : Array Jvm.Value) (st : Jvm.State) : (allAtoms ts).before a st = ts.all (fun c => c.before a st) := by
  induction ts with
  | nil => rfl
  | cons c t ih =>
    show (Jvm.Cond.and c (allAtoms t)).before a st = _
    rw [Jvm.Cond.before_and, ih, List.all_cons]
def words1 : List Jvm.Cond := Jvm.Cond.code x code maxLocals ret :: tables_1
/-- a 'code' word, met by the world's own term for the bytes: nothing is compared byte by byte -/
theorem code_word {y : MethodName} {bytes : ByteArray} {mx : Nat} {rt : Option FieldType} {a : Array Value} {s : State} {m : MethodId} {meth : Method} {c : Code} (h1 : s.methodNamed? y = some m) (h2 : s.vm.method? m = some meth) (h3 : meth.code = some c) (h4 : c.code = bytes)
    (h5 : (c.maxLocals == mx && c.exceptionTable.isEmpty && decide (c.maxStack ≤ mostOperands) && decide (meth.sig.returnType = rt) && !meth.locks && decide (parseMethodDescriptor y.desc = some meth.sig)) = true) : (Jvm.Cond.code y bytes mx rt).before a s = true := by
  simp only [Bool.and_eq_true, beq_iff_eq, Bool.not_eq_true', decide_eq_true_eq] at h5
  obtain ⟨⟨⟨⟨⟨g1, g2⟩, g3⟩, g4⟩, g5⟩, g6⟩ := h5
  simp [Cond.before, Cond.holds, Cond.value, h1, h2, h3, h4, g1, g2, g3, g4, g5, g6]
def isCode : Jvm.Cond → Bool
  | .code _ _ _ _ => true
  | _ => false
theorem all_split {L : List Jvm.Cond} {P : Jvm.Cond → Bool} (h1 : L.all (fun c => isCode c || P c) = true) (h2 : ∀ c ∈ L.filter isCode, P c = true) : L.all P = true := by
  refine List.all_eq_true.mpr fun c hc => ?_
  have h := List.all_eq_true.mp h1 c hc
  rcases Bool.eq_false_or_eq_true (isCode c) with hi | hi
  · exact h2 c (List.mem_filter.mpr ⟨hc, hi⟩)
  · simpa [hi] using h
set_option maxRecDepth 65536 in
theorem w_c0 : (Jvm.Cond.code x code maxLocals ret).before args0 about1 = true := code_word (m := ⟨1, 1⟩) (meth := k1m1) (c := k1c1) (by decide +kernel) rfl rfl rfl (by decide +kernel)
set_option maxRecDepth 65536 in
theorem w_c1 : (Jvm.Cond.code ({ cls := "com/example/fieldward/fieldward/validation/OrderedKind$Order", name := "of", desc := "(DD)Lcom/example/fieldward/fieldward/validation/OrderedKind$Order;" } : Jvm.MethodName) prog_15_method_5_code (5 : Nat) (Option.some (Jvm.ClassFile.FieldType.object "com/example/fieldward/fieldward/validation/OrderedKind$Order"))).before args0 about1 = true := code_word (m := ⟨6, 0⟩) (meth := k6m0) (c := k6c0) (by decide +kernel) rfl rfl rfl (by decide +kernel)
def codes1 : List Jvm.Cond := [Jvm.Cond.code x code maxLocals ret, Jvm.Cond.code ({ cls := "com/example/fieldward/fieldward/validation/OrderedKind$Order", name := "of", desc := "(DD)Lcom/example/fieldward/fieldward/validation/OrderedKind$Order;" } : Jvm.MethodName) prog_15_method_5_code (5 : Nat) (Option.some (Jvm.ClassFile.FieldType.object "com/example/fieldward/fieldward/validation/OrderedKind$Order"))]
set_option maxRecDepth 65536 in
theorem codes_eq : words1.filter isCode = codes1 := rfl
theorem w_codes : ∀ c ∈ words1.filter isCode, c.before args0 about1 = true := by
  rw [codes_eq]
  intro c hc
  simp only [codes1, List.mem_cons, List.not_mem_nil, or_false] at hc
  rcases hc with rfl | rfl
  · exact w_c0
  · exact w_c1
set_option maxRecDepth 65536 in
theorem w_t1 : words1.all (fun c => isCode c || c.before args0 about1) = true := by decide +kernel
theorem w_tables : (allAtoms (Jvm.Cond.code x code maxLocals ret :: tables_1)).before args0 about1 = true := by
  rw [allAtoms_all]
  show words1.all (fun c => c.before args0 about1) = true
  refine all_split ?_ w_codes
  rw [w_t1]
set_option maxRecDepth 65536 in
theorem w_case : (Jvm.Cond.and given_1 narrow_1).before args0 about1 = true := by decide +kernel
theorem w_applies : (headSpec (Jvm.Cond.code x code maxLocals ret :: tables_1) room_1).applies x e0.platform about1 = true :=
  (Spec.applies_iff w_frames).mpr ⟨w_running, w_runnable, w_alone, w_named, w_hears, w_ripe, w_room, w_tables⟩
theorem atStart : AtStart classFile x code maxLocals ret World_1 tables_1 room_1 Calls_1 rest_1 Pre_1 launch0 p0 e0 about1 theMethod args0 below0 :=
  ⟨lists_1, trivial, launch0.admits_env _ _ _, launch0.least_env, fairChoices_fair.cas, fairChoices_fair.clock, w_frames, w_args, w_heap, w_applies, trivial, trivial, w_case⟩
end start1
theorem witness_1 : WitnessClaimed_1 := ⟨start1.p0, start1.e0, start1.about1, start1.theMethod, start1.args0, start1.below0, start1.atStart⟩
end Jvm.Pilot.@@N@@
