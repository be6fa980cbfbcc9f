import JvmDerived
import JvmDerived.Pilot.@@N@@Statement
import JvmDerived.Pilot.@@N@@Code
set_option linter.unusedVariables false
set_option linter.unusedSimpArgs false
namespace Jvm.RoadKit
open Sem ClassFile Op Lib Jvm.Stand Jvm.Free Jvm.LawKit
section New
variable {p : Program} {l : Launch} {e : Env} {R : Room} {s : State} {m : MethodId} {args : Array Value} {below : List Frame} {meth : Method} {c : Code} {T : State} {locs : List Loc} {cells slots : Nat}
theorem retI (X : Stand p l e R s m args below meth c T locs cells slots) (hx : p.tables.exec = Jvm.exec) {pc : Nat} {Ls : Array Slot} {z : Int32} {rest : List Value} (hret : meth.sig.returnType = some .int) (hd : decode c.code pc = .ok (.ireturn, 1)) {fs : List Frame}
    (hl : ∀ (f : JFrame) (acts : List Action), f.method = m → f.locked = none → f.entered = [] → (doReturn e (T.setTop f) acts (some (.int z))).1 = T.setFrames fs) : Steps p.tables e below (T.setTop (mkF m pc Ls (.int z :: rest))) (T.setFrames fs) := by
  have hm' : T.vm.method? m = some meth := X.method'
  have hn : narrow .int (.int z) = .int z := rfl
  show Steps p.tables e below (T.setTop { method := m, pc := pc, locals := Ls, stack := _ :: rest, locked := none }) _
  jvm_step X.here [X.here.top, hx, hd, hm', hret, hn]
  first | (intro acts; rw [hl _ acts rfl rfl rfl]) | rw [hl _ _ rfl rfl rfl]
  exact Steps.refl _
end New
end Jvm.RoadKit
namespace Jvm.Pilot.@@N@@
open Jvm Jvm.ClassFile Sem Op Lib Jvm.Free Jvm.Stand Jvm.LawKit Jvm.RoadKit Bundle Jvm.Pilot.@@N@@.Jvm.D
def Qv (r : Option Value) (h0 : Heap) (n0 : Nat) (v : Option Value) (h : Heap) (L : List Loc) : Prop := v = r ∧ Fr n0 L ∧ h = h0
def Ql (r : Option Value) (n0 : Nat) (v : Option Value) (h : Heap) (L : List Loc) : Prop := v = r ∧ Fr n0 L ∧ True
theorem own_ord {args : Array Value} {s : State} {t : Term} {C n d : String} {k : Int32} {x : Addr} (h : (Jvm.Cond.eq (.field t C n d) (.int k)).value args s none s [] = some true) (ht : t.eval args s none [] s = some (.ref x)) : s.fieldOf? x C n d = some (.int k) := by
  simp only [Cond.value, Term.eval, ht] at h
  cases hf : s.fieldOf? x C n d with
  | none => simp [hf] at h
  | some v => cases v <;> simp [hf] at h ⊢; exact h
theorem own_ne {s : State} {C n d : String} {k k' : Int32} {x y : Addr} (h : s.fieldOf? x C n d = some (.int k)) (h' : s.fieldOf? y C n d = some (.int k')) (hk : k ≠ k') : ¬ (x = y) := fun e => by
  subst e; exact hk (Value.int.inj (Option.some.inj (h.symm.trans h')))
theorem own_nf {s : State} {args : Array Value} {C : String} {y w : MethodName} (hs : (Jvm.Cond.selects C w w).before args s = true) (hc : w.cls = y.cls) : NotFace s y := fun r0 h0 => by
  obtain ⟨c2, r2, m2, q1, q2, q3, q4, kP, hkP, hkPi⟩ := Cond.selects_spec hs
  have e1 := findClass_of_methodNamed h0
  have e2 := findClass_of_methodNamed q3
  rw [hc] at e2
  have e := Option.some.inj (e1.symm.trans e2)
  exact ⟨kP, by rw [e]; exact hkP, hkPi⟩
theorem own_same {Z : State} {a0 : Array Value} {C : String} {y w : MethodName} (hs : (Jvm.Cond.selects C w w).before a0 Z = true) (hc : w.cls = y.cls) (hd : (Jvm.Cond.declares y).before a0 Z = true) (hy : y.cls ≠ "java/lang/invoke/MethodHandle" ∧ y.cls ≠ "java/lang/invoke/VarHandle") : (Jvm.Cond.sameMethod y.cls y.cls y.name y.desc).before a0 Z = true := by
  obtain ⟨r0, r, hn, -⟩ := Cond.declares_spec hd
  obtain ⟨k, hk, hi⟩ := own_nf hs hc r0 hn
  have hf := State.methodFound?_of_named hn hy
  have hcl := findClass_of_methodNamed hn
  have hn' : Z.methodNamed? ⟨y.cls, y.name, y.desc⟩ = some r0 := hn
  simp [Cond.before, Cond.holds, Cond.value, hcl, hf, hn', hk, hi]
theorem own_decl {Z : State} {a0 : Array Value} {y : MethodName} {bytes : ByteArray} {maxL : Nat} {ret : Option FieldType} (h1 : (Jvm.Cond.instanceMethod y).before a0 Z = true) (h2 : (Jvm.Cond.code y bytes maxL ret).before a0 Z = true) : (Jvm.Cond.declares y).before a0 Z = true := by
  obtain ⟨m, meth, hn, hm, hs, -⟩ := Cond.instanceMethod_spec h1
  obtain ⟨meth', c, q1, -, -, -, -, -, -, q8⟩ := Cond.code_spec hn h2
  cases hm.symm.trans q1
  simp [Cond.before, Cond.holds, Cond.value, hn, hm, hs, q8]
def EnvS (Z : State) (zc : Int32) : Prop := Sta Z Z.heap "java/lang/String" "COMPACT_STRINGS" "Z" (.int zc) ∧ ¬ (zc = (0 : Int32))
abbrev by8 (cs : List Int32) : List Value := cs.map fun c => Value.int c.toInt8.toInt32
def Bld (Z : State) (h : Heap) (b da : Addr) (k : ClassId) (N : Nat) (bs : List Int32) : Prop := Exa Z h b "java/lang/StringBuilder" ∧ Fld Z h b "java/lang/AbstractStringBuilder" "value" "[B" (.ref da) ∧ Fld Z h b "java/lang/AbstractStringBuilder" "coder" "B" (.int (0 : Int32)) ∧ Fld Z h b "java/lang/AbstractStringBuilder" "count" "I" (.int (Int32.ofNat bs.length)) ∧ Arv Z h da k .byte (Int32.ofNat N) (by8 bs) (.int (0 : Int32))
def Str (Z : State) (h : Heap) (a t : Addr) (k : ClassId) (cs : List Int32) : Prop := Exa Z h a "java/lang/String" ∧ Fld Z h a "java/lang/String" "value" "[B" (.ref t) ∧ Fld Z h a "java/lang/String" "coder" "B" (.int (0 : Int32)) ∧ Arv Z h t k .byte (Int32.ofNat cs.length) (by8 cs) (.int (0 : Int32))
theorem Str.ext {Z : State} {h h' : Heap} {a t : Addr} {k : ClassId} {cs : List Int32} (S : Str Z h a t k cs) (E : Ext h h') : Str Z h' a t k cs := ⟨S.1.ext E, S.2.1.ext E, S.2.2.1.ext E, S.2.2.2.ext E⟩
theorem Str.keep {Z : State} {h h' : Heap} {a t : Addr} {k : ClassId} {cs : List Int32} {ws : List Addr} (S : Str Z h a t k cs) (K : Keep h h' ws) (q : a ∉ ws) (r : t ∉ ws) : Str Z h' a t k cs := ⟨S.1.keep K, S.2.1.keep K q, S.2.2.1.keep K q, S.2.2.2.keep K r⟩
theorem own_shr0 (x : Int32) : x >>> ((0 : Int32) &&& 31) = x := Int32.toBitVec_inj.mp (by simp)
theorem own_shl0 (x : Int32) : x <<< ((0 : Int32) &&& 31) = x := Int32.toBitVec_inj.mp (by simp)
theorem own_ti {n : Nat} (h : n ≤ 1000) : (Int32.ofNat n).toInt = n := Int32.toInt_ofNat_small (by omega)
theorem own_nn {n : Nat} (h : n ≤ 1000) : ¬ (Int32.ofNat n < (0 : Int32)) := by rw [Int32.lt_iff_toInt_lt, own_ti h]; simp
theorem own_cl {n : Nat} (h : n ≤ 1000) : (Int32.ofNat n).toNatClampNeg = n := by show (Int32.ofNat n).toInt.toNat = n; rw [own_ti h]; rfl
theorem own_lt {n m : Nat} (h : n ≤ 1000) (h' : m ≤ 1000) : Int32.ofNat n < Int32.ofNat m ↔ n < m := by rw [Int32.lt_iff_toInt_lt, own_ti h, own_ti h']; omega
theorem own_sub {n m : Nat} (h : m ≤ n) : Int32.ofNat n - Int32.ofNat m = Int32.ofNat (n - m) := (Int32.ofNat_sub _ _ h).symm
theorem own_sub0 (x : Int32) : x - (0 : Int32) = x := Int32.sub_zero x
theorem own_fits {n N : Nat} (h : n ≤ N) (hN : N ≤ 1000) : ¬ ((0 : Int32) < Int32.ofNat n - Int32.ofNat N) := by
  have h1 := c_isub (Int32.ofNat n) (Int32.ofNat N)
  have h2 := rng32 (Int32.ofNat n - Int32.ofNat N)
  rw [own_ti hN, own_ti (Nat.le_trans h hN)] at h1
  rw [Int32.lt_iff_toInt_lt, show (0 : Int32).toInt = 0 from rfl]; omega
theorem own_addlen (bs cs : List Int32) : Int32.ofNat bs.length + Int32.ofNat cs.length = Int32.ofNat (bs ++ cs).length := by rw [List.length_append, Int32.ofNat_add]
theorem own_us (cs : List Int32) (d : Value) {m : Nat} (hm : m ≤ cs.length) : (List.range m).map (fun i => (by8 cs).getD (0 + i) d) = by8 (cs.take m) := by
  refine List.ext_getElem (by simp; omega) fun i h1 h2 => ?_
  simp at h1
  have h3 : i < cs.length := by omega
  simp [h3, List.getD_eq_getElem?_getD]
theorem own_cat (bs cs : List Int32) (d : Value) {n m : Nat} (hn : n = bs.length) (hm : m = cs.length) : (by8 bs ++ List.replicate m d).take n ++ (List.range m).map (fun i => (by8 cs).getD (0 + i) d) ++ (by8 bs ++ List.replicate m d).drop (n + m) = by8 (bs ++ cs) := by
  rw [own_us cs d (Nat.le_of_eq hm)]
  subst hn hm
  have h1 : (by8 bs ++ List.replicate cs.length d).take bs.length = by8 bs := by rw [List.take_append_of_le_length (by simp)]; exact List.take_of_length_le (by simp)
  have h2 : (by8 bs ++ List.replicate cs.length d).drop (bs.length + cs.length) = [] := List.drop_eq_nil_of_le (by simp)
  rw [h1, h2, List.take_of_length_le (Nat.le_refl _)]; simp [by8]
def Qh (r : Option Value) (h0 : Heap) (n0 : Nat) (ws : List Addr) (P : Heap → Prop) (v : Option Value) (h : Heap) (L : List Loc) : Prop := v = r ∧ Fr n0 L ∧ Keep h0 h ws ∧ P h
def Qx (h0 : Heap) (n0 : Nat) (ws : List Addr) (P : Addr → Heap → Prop) (v : Option Value) (h : Heap) (L : List Loc) : Prop := ∃ x, v = some (.ref x) ∧ Fr n0 L ∧ Keep h0 h ws ∧ P x h
def decI (x : Int32) : List Int32 := (if x < 0 then [(45 : Int32)] else []) ++ (List.range (SBG.digits x.toInt.natAbs)).map fun t => Int32.ofNat (48 + x.toInt.natAbs / 10 ^ (SBG.digits x.toInt.natAbs - 1 - t) % 10)
theorem decI_length (x : Int32) : (decI x).length = SBG.digits x.toInt.natAbs + SBG.GetChars.sgn x := by
  unfold decI SBG.GetChars.sgn; split <;> simp <;> omega
theorem decI_le (x : Int32) : (decI x).length ≤ 11 := by
  rw [decI_length]; have := (SBG.digits_pos x.toInt.natAbs).2; unfold SBG.GetChars.sgn; split <;> omega
theorem own_abs (x : Int32) : x.toInt.natAbs ≤ 2 ^ 31 ∧ (if x < 0 then x else -x) = SBG.negI x.toInt.natAbs := by
  have h := rng32 x
  have h1 : x.toInt.natAbs ≤ 2 ^ 31 := by omega
  refine ⟨h1, Int32.toInt_inj.mp ?_⟩
  rw [SBG.negI_toInt h1]
  split
  · rename_i hx; rw [Int32.lt_iff_toInt_lt] at hx; have : (0 : Int32).toInt = 0 := rfl; omega
  · rename_i hx; rw [Int32.lt_iff_toInt_lt] at hx; have : (0 : Int32).toInt = 0 := rfl
    have h2 := c_ineg x; have h3 := rng32 (-x); omega
theorem own_size (x : Int32) : SBG.strSizeOf x = Int32.ofNat (decI x).length := by
  obtain ⟨h1, h2⟩ := own_abs x
  have e := SBG.sizeLoop_digits h1
  rw [← h2] at e
  rw [decI_length, Int32.ofNat_add]
  unfold SBG.strSizeOf SBG.GetChars.sgn
  by_cases hx : x < 0
  · rw [if_pos hx] at e ⊢; rw [if_pos hx, e]; rfl
  · rw [if_neg hx] at e ⊢; rw [if_neg hx, e]; rfl
theorem own_getmap (d : Nat) (f : Nat → Int32) (i : Nat) (hi : i < d) (hf : (f i).toInt8.toInt32 = f i) (z : Value) : (by8 ((List.range d).map f)).getD i z = .int (f i) := by
  rw [List.getD_eq_getElem?_getD]; simp [hi, hf]
theorem own_getcons (a : Int32) (L : List Int32) (i : Nat) (z : Value) : (by8 (a :: L)).getD (i + 1) z = (by8 L).getD i z := by simp [by8]
def EnvD (Z : State) (ist d1 d2 : Addr) : Prop := ∃ D1 D2 : Cell, SBG.Tbl Z "DigitOnes" ist d1 D1 ∧ SBG.Tbl Z "DigitTens" ist d2 D2 ∧ SBG.Ones D1 ∧ SBG.Tens D2 ∧ ist < Z.heap.size ∧ d1 < Z.heap.size ∧ d2 < Z.heap.size
theorem own_Tbl {Z U : State} {h : Heap} {n0 : Nat} {nme : String} {ist d : Addr} {D : Cell} (O : Old Z n0 h) (hal : Z.vm.Alike U.vm) (hh : U.heap = h) (T : SBG.Tbl Z nme ist d D) : SBG.Tbl U nme ist d D := by
  have hd := T.choose_spec.choose_spec.choose_spec.choose_spec.choose_spec.2.2.2.2.2.2.2.1
  exact T.move hal (fun c q => by rw [hh]; exact O.2.2 _ _ q) (by rw [hh]; exact O.2.2 _ _ hd)
theorem own_copy (bs : List Int32) (d : Value) : (([] : List Value) ++ List.replicate bs.length d).take 0 ++ (List.range bs.length).map (fun i => (by8 bs).getD (0 + i) d) ++ (([] : List Value) ++ List.replicate bs.length d).drop (0 + bs.length) = by8 bs := by
  rw [own_us bs d (Nat.le_refl _), List.take_of_length_le (Nat.le_refl _), List.drop_eq_nil_of_le (by simp)]; simp
theorem sb_sizeB {p : Program} {l : Launch} {e : Env} {R : Room} {s : State} {args : Array Value} {below : List Frame} {W : Nat} {Z : State} {a0 : Array Value} {h : Heap} {n0 : Nat} (hZ : Z.Warmed39 s.vm) (wc : (Jvm.Cond.code (⟨"java/lang/Integer", "stringSize", "(I)I"⟩ : MethodName) jdk_33_method_13_code 4 (some .int)).before a0 Z = true) (wz : (Jvm.Cond.initialized "java/lang/Integer").before a0 Z = true) (x : Int32) (hfr : 2 ≤ R.frames) (hlo : W + 55 ≤ R.locals) :
    Back l R p e below s args (⟨"java/lang/Integer", "stringSize", "(I)I"⟩ : MethodName) 3 W (fun P a => a = #[.int x] ∧ P.U.heap = h ∧ P.cells + 0 ≤ R.cells ∧ P.slots + 0 ≤ R.slots)
      (fun P _ v B => ∃ L, Qv (some (.int (Int32.ofNat (decI x).length))) h n0 v B.U.heap L ∧ B.locs = P.locs ++ L ∧ B.cells = P.cells + 0 ∧ B.slots = P.slots + 0) := by
  intro m meth c P g ig mk a X hg hsize hdg hW hn hp'
  obtain ⟨rfl, rfl, r1, r2⟩ := hp'
  have wc' : SBG.StrSize.tab.before args s = true := mvT hZ wc
  obtain ⟨v, B, X', ⟨⟨q1, q2, q3, q4⟩, hv⟩, st⟩ := SBG.StrSize.pays (args := args) hfr hlo wc' (mvT hZ wz) m meth c P g ig mk _ X hg hsize hdg hW hn ⟨r1, r2, x, rfl⟩
  exact ⟨v, B, X', ⟨[], ⟨by rw [← own_size]; exact hv x rfl, Fr.nil n0, by first | exact q1 | exact q4⟩, by first | simpa using q1 | simpa using q2, by first | exact q2 | exact q3, by first | exact q3 | exact q4⟩, st⟩
theorem own_decAt (x : Int32) (bs : List Int32) (g : SBG.GetChars.G) (h1 : SBG.Ones g.D1) (h2 : SBG.Tens g.D2) (hx : g.x = x) (hn : g.n = x.toInt.natAbs) (hk : g.idx = bs.length + (decI x).length) (hidx : g.idx ≤ g.A.slots.size) (H : Has g.A (by8 bs) (.int (0 : Int32))) : Has (SBG.GetChars.outCell g) (by8 (bs ++ decI x)) (.int (0 : Int32)) := by
  intro j hj
  rw [SBG.outCell_size] at hj
  obtain ⟨ha, hb⟩ := own_abs x
  rw [decI_length, ← hn, ← hx] at hk
  obtain ⟨F1, F2, F3⟩ := SBG.outCell_fwd g h1 h2 (by rw [hn]; exact ha) hk hidx
  obtain ⟨-, -, A3⟩ := SBG.outCell_at g h1 h2 (by rw [hn]; exact ha) (by omega) hidx
  have hl : (decI x).length = SBG.digits g.n + SBG.GetChars.sgn g.x := by rw [decI_length, hn, hx]
  have small : ∀ k, k < 128 → (Int32.ofNat k).toInt8.toInt32 = Int32.ofNat k := SBG.dgNarrow
  by_cases c1 : j < bs.length
  · rw [F3 j c1, H j hj]
    simp [List.getD_eq_getElem?_getD, c1, List.getElem?_append_left]
  · by_cases c2 : g.idx ≤ j
    · rw [A3 j (Or.inr c2), H j hj]
      have e1 : (by8 bs).getD j (.int (0 : Int32)) = .int 0 := by simp [List.getD_eq_getElem?_getD, show bs.length ≤ j by omega]
      have e2 : (by8 (bs ++ decI x)).getD j (.int (0 : Int32)) = .int 0 := by
        rw [List.getD_eq_getElem?_getD, List.getElem?_eq_none (by simp; omega)]; rfl
      rw [e1, e2]
    · have e : (by8 (bs ++ decI x)).getD j (.int (0 : Int32)) = (by8 (decI x)).getD (j - bs.length) (.int 0) := by
        simp only [by8, List.map_append, List.getD_eq_getElem?_getD]
        rw [List.getElem?_append_right (by simp; omega)]; simp
      rw [e]
      by_cases hxn : x < 0
      · have hs : SBG.GetChars.sgn g.x = 1 := by rw [hx]; simp [SBG.GetChars.sgn, hxn]
        rw [hs] at F2 hk
        have ed : decI x = (45 : Int32) :: (List.range (SBG.digits x.toInt.natAbs)).map (fun t => Int32.ofNat (48 + x.toInt.natAbs / 10 ^ (SBG.digits x.toInt.natAbs - 1 - t) % 10)) := by unfold decI; rw [if_pos hxn]; rfl
        by_cases c3 : j = bs.length
        · subst c3
          rw [F1 (by rw [hx]; exact hxn), ed]; simp
        · have q := F2 (j - bs.length - 1) (by omega)
          rw [show bs.length + 1 + (j - bs.length - 1) = j by omega] at q
          have hb' : j - bs.length - 1 < SBG.digits x.toInt.natAbs := by rw [← hn]; omega
          have e3 : (by8 (decI x)).getD (j - bs.length) (.int 0) = .int (Int32.ofNat (48 + x.toInt.natAbs / 10 ^ (SBG.digits x.toInt.natAbs - 1 - (j - bs.length - 1)) % 10)) := by
            rw [ed, show j - bs.length = (j - bs.length - 1) + 1 by omega, own_getcons]
            exact own_getmap _ (fun t => Int32.ofNat (48 + x.toInt.natAbs / 10 ^ (SBG.digits x.toInt.natAbs - 1 - t) % 10)) _ (by omega) (small _ (by omega)) _
          rw [q, e3, hn]
      · have hs : SBG.GetChars.sgn g.x = 0 := by rw [hx]; simp [SBG.GetChars.sgn, hxn]
        rw [hs] at F2 hk
        have ed : decI x = (List.range (SBG.digits x.toInt.natAbs)).map (fun t => Int32.ofNat (48 + x.toInt.natAbs / 10 ^ (SBG.digits x.toInt.natAbs - 1 - t) % 10)) := by unfold decI; rw [if_neg hxn]; rfl
        have q := F2 (j - bs.length) (by omega)
        rw [show bs.length + 0 + (j - bs.length) = j by omega] at q
        have hb' : j - bs.length < SBG.digits x.toInt.natAbs := by rw [← hn]; omega
        have e3 : (by8 (decI x)).getD (j - bs.length) (.int 0) = .int (Int32.ofNat (48 + x.toInt.natAbs / 10 ^ (SBG.digits x.toInt.natAbs - 1 - (j - bs.length)) % 10)) := by
          rw [ed]
          exact own_getmap _ (fun t => Int32.ofNat (48 + x.toInt.natAbs / 10 ^ (SBG.digits x.toInt.natAbs - 1 - t) % 10)) _ hb' (small _ (by omega)) _
        rw [q, e3, hn]
theorem own_decFits (bs : List Int32) : ∀ i, fits .byte ((by8 bs).getD i (.int (0 : Int32))) = true := fun i => by
  rw [List.getD_eq_getElem?_getD]
  cases q : (by8 bs)[i]? with
  | none => rfl
  | some v =>
    obtain ⟨hi, hv⟩ := List.getElem?_eq_some_iff.mp q
    rw [List.getElem_map] at hv
    rw [Option.getD_some, ← hv]; exact fits_nar_byte _
theorem sb_charsB {p : Program} {l : Launch} {e : Env} {R : Room} {s : State} {args : Array Value} {below : List Frame} {W : Nat} {Z : State} {a0 : Array Value} {h : Heap} {n0 : Nat} (hZ : Z.Warmed39 s.vm) (wc : (Jvm.Cond.code (⟨"java/lang/Integer", "getChars", "(II[B)I"⟩ : MethodName) jdk_33_method_12_code 7 (some .int)).before a0 Z = true) (w1 : (Jvm.Cond.fieldLink "java/lang/Integer" 83 "java/lang/Integer" "DigitOnes" "[B").before a0 Z = true) (w2 : (Jvm.Cond.fieldLink "java/lang/Integer" 87 "java/lang/Integer" "DigitTens" "[B").before a0 Z = true) (wz : (Jvm.Cond.initialized "java/lang/Integer").before a0 Z = true)
    {ist d1 d2 da : Addr} {kd : ClassId} {N : Nat} {bs : List Int32} {x : Int32} (hD : EnvD Z ist d1 d2) (O : Old Z n0 h) (A : Arv Z h da kd .byte (Int32.ofNat N) (by8 bs) (.int (0 : Int32))) (hle : bs.length + (decI x).length ≤ N) (hN : N ≤ 1000) (gd : n0 ≤ da) (hfr : 2 ≤ R.frames) (hlo : W + 78 ≤ R.locals) :
    Back l R p e below s args (⟨"java/lang/Integer", "getChars", "(II[B)I"⟩ : MethodName) 3 W (fun P a => a = #[.int x, .int (Int32.ofNat (bs ++ decI x).length), .ref da] ∧ P.U.heap = h ∧ P.cells + 0 ≤ R.cells ∧ P.slots + 0 ≤ R.slots)
      (fun P _ v B => ∃ L, (∃ z, v = some (.int z) ∧ Fr n0 L ∧ Keep h B.U.heap [da] ∧ Arv Z B.U.heap da kd .byte (Int32.ofNat N) (by8 (bs ++ decI x)) (.int (0 : Int32))) ∧ B.locs = P.locs ++ L ∧ B.cells = P.cells + 0 ∧ B.slots = P.slots + 0) := by
  intro m meth c P g ig mk a X hg hsize hdg hW hn hp'
  obtain ⟨rfl, rfl, r1, r2⟩ := hp'
  obtain ⟨D1, D2, t1, t2, o1, o2, l1, l2, l3⟩ := hD
  obtain ⟨cA, A1, A2, A3, A4, A5, A6⟩ := A
  have hal : Z.vm.Alike P.U.vm := hZ.alike.trans X.warmed.alike
  have wc' : SBG.GetChars.tab.before args s = true := by
    have q1 := mvT (args := args) hZ wc
    have q2 := mvT (args := args) hZ w1
    have q3 := mvT (args := args) hZ w2
    show (Jvm.Cond.and _ (.and _ _)).before args s = true
    rw [Cond.before_and, Cond.before_and]
    exact (Bool.and_eq_true _ _).mpr ⟨q1, (Bool.and_eq_true _ _).mpr ⟨q2, q3⟩⟩
  obtain ⟨ha, hb⟩ := own_abs x
  have hsz : cA.slots.size = N := by rw [A3, own_cl hN]
  have hlen := decI_length x
  have nx : (bs ++ decI x).length = bs.length + (decI x).length := List.length_append
  have gd' : Z.heap.size ≤ da := by rw [O.1]; exact gd
  obtain ⟨v, B, X', ⟨hv, hc, b1, b2, b3, b4, L, b5, b6⟩, st⟩ := SBG.GetChars.pays (sargs := args) (⟨x, x.toInt.natAbs, (bs ++ decI x).length, da, cA, ist, d1, D1, d2, D2⟩ : SBG.GetChars.G) W wc' (mvT hZ wz) hfr hlo m meth c P g ig mk _ X hg hsize hdg hW hn
    ⟨rfl, r1, r2, rfl, A1.1, State.isArrayOf_alike hal A1.2.1, A1.2.2, by rw [hsz]; omega, by show (bs ++ decI x).length ≤ _; rw [hsz]; omega, by show SBG.digits x.toInt.natAbs + SBG.GetChars.sgn x ≤ (bs ++ decI x).length; omega, ha, hb, own_Tbl O hal rfl t1, own_Tbl O hal rfl t2, Nat.ne_of_gt (Nat.lt_of_lt_of_le l1 gd'), Nat.ne_of_gt (Nat.lt_of_lt_of_le l2 gd'), Nat.ne_of_gt (Nat.lt_of_lt_of_le l3 gd')⟩
  have hH := own_decAt x bs (⟨x, x.toInt.natAbs, (bs ++ decI x).length, da, cA, ist, d1, D1, d2, D2⟩ : SBG.GetChars.G) o1 o2 rfl rfl nx (by show (bs ++ decI x).length ≤ _; rw [hsz]; omega) A5
  obtain ⟨f1, f2, f3, -⟩ := SBG.GetChars.outCell_facts (⟨x, x.toInt.natAbs, (bs ++ decI x).length, da, cA, ist, d1, D1, d2, D2⟩ : SBG.GetChars.G) ha (by show SBG.digits x.toInt.natAbs + SBG.GetChars.sgn x ≤ (bs ++ decI x).length; omega) (fun i hi => by
    have q := A5 i hi
    rw [SBG.getD_of q]; exact A6 i hi)
  refine ⟨v, B, X', ⟨L, ⟨_, hv, fun y hy => by rw [b6 y hy]; exact gd, ⟨Nat.le_of_eq b3.symm, fun y cy q r => b4 y cy (fun z => r (by rw [z]; exact List.mem_singleton.mpr rfl)) q, fun y cy q => ?_⟩, ?_⟩, b5, b1, b2⟩, st⟩
  · by_cases hy : y = da
    · subst hy
      cases A1.1.symm.trans q
      exact ⟨_, hc, f1, f2, f3⟩
    · exact ⟨cy, b4 y cy hy q, rfl, rfl, rfl⟩
  · exact ⟨_, ⟨hc, ⟨fun q => by rw [f2]; exact A1.2.1.1 q, by rw [f1]; exact A1.2.1.2⟩, by rw [f2]; exact A1.2.2⟩, f1.trans A2, by rw [f3]; exact A3, A4, hH, fun i hi => own_decFits _ i⟩
def grow (N mn : Nat) : Nat := if mn ≤ N then N else N + max (mn - N) (N + 2)
theorem own_grow0 {N mn : Nat} (h : mn ≤ N) : grow N mn = N := if_pos h
theorem own_growE {N mn : Nat} (h : N < mn) : N + max (mn - N) (N + 2) = grow N mn := (if_neg (Nat.not_le.mpr h)).symm
theorem own_leG (N mn : Nat) : mn ≤ grow N mn := by unfold grow; split <;> omega
theorem own_geG (N mn : Nat) : N ≤ grow N mn := by unfold grow; split <;> omega
theorem own_inv {N : Nat} {bs : List Int32} (cs : List Int32) (h : N ≤ 2 * bs.length + 16 ∧ bs.length ≤ N) : grow N (bs ++ cs).length ≤ 2 * (bs ++ cs).length + 16 ∧ (bs ++ cs).length ≤ grow N (bs ++ cs).length := by
  refine ⟨?_, own_leG _ _⟩
  rw [List.length_append]; unfold grow; split <;> omega
theorem own_cap {N n : Nat} (h : N ≤ 2 * n + 16 ∧ n ≤ N) (hn : n ≤ 92) : N ≤ 200 := by omega
theorem own_pos {n : Nat} (h0 : 0 < n) (h : n ≤ 1000) : (0 : Int32) < Int32.ofNat n := (own_lt (n := 0) (by omega) h).mpr h0
theorem own_big {n : Nat} (h : n ≤ 1000) : ¬ ((2147483639 : Int32) < Int32.ofNat n) := by
  rw [Int32.lt_iff_toInt_lt, own_ti h]; have : (2147483639 : Int32).toInt = 2147483639 := rfl; omega
theorem own_nmax {n : Nat} (h : n ≤ 1000) : ¬ (Int32.ofNat n = (2147483647 : Int32)) := fun q => by
  have := congrArg Int32.toInt q; rw [own_ti h] at this; have h2 : (2147483647 : Int32).toInt = 2147483647 := rfl; omega
theorem own_neN {n m : Nat} (h : n ≤ 1000) (h' : m ≤ 1000) (hne : n ≠ m) : ¬ (Int32.ofNat n = Int32.ofNat m) := fun q => by
  have := congrArg Int32.toInt q; rw [own_ti h, own_ti h'] at this; omega
theorem own_nfits {n N : Nat} (h : N < n) (hN : n ≤ 1000) : (0 : Int32) < Int32.ofNat n - Int32.ofNat N := by
  rw [own_sub (by omega)]; exact own_pos (by omega) (by omega)
theorem own_add (a b : Nat) : Int32.ofNat a + Int32.ofNat b = Int32.ofNat (a + b) := (Int32.ofNat_add a b).symm
theorem own_add2 (a : Nat) : Int32.ofNat a + (2 : Int32) = Int32.ofNat (a + 2) := (Int32.ofNat_add a 2).symm
theorem own_padg (bs : List Int32) (d : Value) {N : Nat} (h : bs.length ≤ N) : ∀ i, (by8 bs).getD i d = ((([] : List Value) ++ List.replicate N d).take 0 ++ (List.range N).map (fun i => (by8 bs).getD (0 + i) d) ++ (([] : List Value) ++ List.replicate N d).drop (0 + N)).getD i d := fun i => by
  have e : (([] : List Value) ++ List.replicate N d).drop (0 + N) = [] := List.drop_eq_nil_of_le (by simp)
  rw [e, List.take_zero, List.append_nil, List.nil_append]
  simp only [List.getD_eq_getElem?_getD]
  by_cases q : i < N
  · have e2 : ((List.range N).map (fun i => (by8 bs)[0 + i]?.getD d))[i]? = some ((by8 bs)[0 + i]?.getD d) := by rw [List.getElem?_map, List.getElem?_range q]; rfl
    rw [e2, Nat.zero_add]; rfl
  · have q1 : (by8 bs)[i]? = none := List.getElem?_eq_none (by simp; omega)
    have q2 : ((List.range N).map (fun i => (by8 bs)[0 + i]?.getD d))[i]? = none := List.getElem?_eq_none (by simp; omega)
    rw [q1, q2]
theorem own_orne {a da da' n : Addr} (h : da' = da ∨ n ≤ da') (h1 : a ≠ da) (h2 : a < n) : a ≠ da' := by
  rcases h with q | q
  · rw [q]; exact h1
  · exact Nat.ne_of_lt (Nat.lt_of_lt_of_le h2 q)
theorem d9_0 : decode jdk_42_method_152_code 0 = .ok (.getstatic 38, 3) := by decide +kernel
theorem d9_3 : decode jdk_42_method_152_code 3 = .ok (.ifCond .eq 10, 3) := by decide +kernel
theorem d9_6 : decode jdk_42_method_152_code 6 = .ok (.aload_n 0, 1) := by decide +kernel
theorem d9_7 : decode jdk_42_method_152_code 7 = .ok (.getfield 15, 3) := by decide +kernel
theorem d9_10 : decode jdk_42_method_152_code 10 = .ok (.goto 4, 3) := by decide +kernel
theorem d9_14 : decode jdk_42_method_152_code 14 = .ok (.ireturn, 1) := by decide +kernel
theorem ef_1_R (m : MethodId) (x0 : Addr) : entryFrame m #[(.ref x0)] 1 = mkF m 0 #[.val (.ref x0)] [] := by first | (simp [entryFrame, mkF, argsToLocals, Value.category]; done) | rfl
theorem pn_java_lang_String : plainName "java/lang/String" = true := by first | (simp [plainName, overriddenIn]; done) | decide +kernel
set_option maxRecDepth 65536 in
set_option maxHeartbeats 40000000 in
theorem sb_coder (l : Launch) (Z : State) (a0 : Array Value) (hw : ∀ d ∈ tables_1, d.before a0 Z = true) (ws : List Jvm.Cond) (zc : Int32) (sa : Addr) (h0 : Heap) (n0 : Nat) (O : Old Z n0 h0) (hE : EnvS Z zc) (C : Fld Z h0 sa "java/lang/String" "coder" "B" (.int (0 : Int32))) :
    MetFree l (⟨"java/lang/String", "coder", "()B"⟩ : MethodName) (head1 (Jvm.Cond.code (⟨"java/lang/String", "coder", "()B"⟩ : MethodName) jdk_42_method_152_code 1 (some .byte) :: ws) ({ frames := 0, cells := 0, slots := 0, locals := 0 } : Room)) (fun a U => a = #[(.ref sa)] ∧ Z.Warmed39 U.vm ∧ U.heap = h0) (fun _ _ _ _ _ => True) (fun _ U o U' => ∃ v L, o = .returned v ∧ Qv (some (.int (0 : Int32))) h0 n0 v U'.heap L ∧ FrameEnd U o U' L ({ frames := 0, cells := 0, slots := 0, locals := 0 } : Room).cells ({ frames := 0, cells := 0, slots := 0, locals := 0 } : Room).slots) := by
  refine MetFree.of_bodySF (plainFor_of_name pn_java_lang_String) hisR ?_
  intro p e s m args below meth c s₁ Bd hml0 hP hK
  obtain ⟨rfl, hZ, hh⟩ := hP
  have hx := Bd.exec
  have hby := Bd.bytes
  have hml : c.maxLocals = 1 := hml0
  have hown : s.vm.findClass "java/lang/String" = some m.cls := findClass_of_methodNamed Bd.named
  have hnm := (name_of_methodNamed Bd.named Bd.method).1
  have X0 : Stand p l e ({ frames := 0, cells := 0, slots := 0, locals := 0 } : Room) s m #[(.ref sa)] below meth c s₁ [] 0 0 := Stand.of_body Bd
  have e0 : s₁.heap = h0 := by rw [← hh, Bd.state]; rfl
  have N0 := Fr.nil n0
  have pre0 : ∀ t, Steps p.tables e below (s₁.setTop (mkF m 0 #[.val (.ref sa)] [])) t → Steps p.tables e below (s₁.setTop (entryFrame m #[(.ref sa)] 1)) t := fun t k => castTop (ef_1_R m sa) k
  obtain ⟨Scmp, hzc⟩ := id hE
  obtain ⟨T1, X1, e1, st1⟩ := getS2 X0 hx hZ hown (host := "") (Or.inl (hw _ (List.mem_of_getElem? (i := 100) rfl))) Via.refl e0 (Scmp.ext O.2) (g := (mkF m 0 #[.val (.ref sa)] [])) rfl (hb hby d9_0)
  obtain ⟨T2, X2, e2, st2⟩ := getF X1 hx hZ hown (host := "") (Or.inl (hw _ (List.mem_of_getElem? (i := 101) rfl))) Via.refl e1 C (g := (mkF m 7 #[.val (.ref sa)] [(.ref sa)])) rfl rfl (hb hby d9_7)
  obtain ⟨fs, hr, hrun, hended, hW, hsame⟩ := X2.leave (v := some (.int (0 : Int32))) (fun h => by rw [Bd.returns] at h; cases h)
  refine ⟨_, _, pre0 _ ?_, hrun, hended, _, _, rfl, ?_, ⟨_, rfl⟩, hW, hsame.mono (by decide) (by decide)⟩
  · show Steps p.tables e below (s₁.setTop (mkF m 0 #[.val (.ref sa)] [])) _
    refine st1 _ ?_
    show Steps p.tables e below (T1.setTop (mkF m 3 #[.val (.ref sa)] [(.int zc)])) _
    refine XS.ifNo X1.here hx rfl (hb hby d9_3) rfl ((if0 _ _).trans (feq (hzc : ¬ (zc = (0 : Int32)))).1) ?_
    show Steps p.tables e below (T1.setTop (mkF m 6 #[.val (.ref sa)] [])) _
    refine XS.aloadN X1.here hx rfl (hb hby d9_6) rfl rfl ?_
    show Steps p.tables e below (T1.setTop (mkF m 7 #[.val (.ref sa)] [(.ref sa)])) _
    refine st2 _ ?_
    show Steps p.tables e below (T2.setTop (mkF m 10 #[.val (.ref sa)] [(.int (0 : Int32))])) _
    refine XS.goto X2.here hx rfl (pc0 := 10) (pc' := 14) rfl (hb hby d9_10) (by decide) (by decide) ?_
    show Steps p.tables e below (T2.setTop (mkF m 14 #[.val (.ref sa)] [(.int (0 : Int32))])) _
    exact retN X2 hx (t := .byte) Bd.returns (by simp) (hb hby d9_14) hr
  · exact ⟨rfl, N0, e2⟩
theorem d8_0 : decode jdk_42_method_54_code 0 = .ok (.aload_n 0, 1) := by decide +kernel
theorem d8_1 : decode jdk_42_method_54_code 1 = .ok (.getfield 9, 3) := by decide +kernel
theorem d8_4 : decode jdk_42_method_54_code 4 = .ok (.arraylength, 1) := by decide +kernel
theorem d8_5 : decode jdk_42_method_54_code 5 = .ok (.aload_n 0, 1) := by decide +kernel
theorem pd_2829B : parseMethodDescriptor "()B" = some ⟨[], some .byte⟩ := by decide +kernel
theorem d8_6 : decode jdk_42_method_54_code 6 = .ok (.invokevirtual 335, 3) := by decide +kernel
theorem d8_9 : decode jdk_42_method_54_code 9 = .ok (.ishr, 1) := by decide +kernel
theorem d8_10 : decode jdk_42_method_54_code 10 = .ok (.ireturn, 1) := by decide +kernel
set_option maxRecDepth 65536 in
set_option maxHeartbeats 40000000 in
theorem sb_length (l : Launch) (Z : State) (a0 : Array Value) (hw : ∀ d ∈ tables_1, d.before a0 Z = true) (ws : List Jvm.Cond) (zc : Int32) (sa sd : Addr) (ks : ClassId) (cs : List Int32) (h0 : Heap) (n0 : Nat) (O : Old Z n0 h0) (hE : EnvS Z zc) (hS : Str Z h0 sa sd ks cs) :
    MetFree l (⟨"java/lang/String", "length", "()I"⟩ : MethodName) (head1 (Jvm.Cond.code (⟨"java/lang/String", "length", "()I"⟩ : MethodName) jdk_42_method_54_code 1 (some .int) :: ws) ({ frames := 1, cells := 0, slots := 0, locals := 13 } : Room)) (fun a U => a = #[(.ref sa)] ∧ Z.Warmed39 U.vm ∧ U.heap = h0) (fun _ _ _ _ _ => True) (fun _ U o U' => ∃ v L, o = .returned v ∧ Qv (some (.int (Int32.ofNat cs.length))) h0 n0 v U'.heap L ∧ FrameEnd U o U' L ({ frames := 1, cells := 0, slots := 0, locals := 13 } : Room).cells ({ frames := 1, cells := 0, slots := 0, locals := 13 } : Room).slots) := by
  refine MetFree.of_bodySF (plainFor_of_name pn_java_lang_String) hisR ?_
  intro p e s m args below meth c s₁ Bd hml0 hP hK
  obtain ⟨rfl, hZ, hh⟩ := hP
  have hx := Bd.exec
  have hby := Bd.bytes
  have hml : c.maxLocals = 1 := hml0
  have hown : s.vm.findClass "java/lang/String" = some m.cls := findClass_of_methodNamed Bd.named
  have hnm := (name_of_methodNamed Bd.named Bd.method).1
  have X0 : Stand p l e ({ frames := 1, cells := 0, slots := 0, locals := 13 } : Room) s m #[(.ref sa)] below meth c s₁ [] 0 0 := Stand.of_body Bd
  have e0 : s₁.heap = h0 := by rw [← hh, Bd.state]; rfl
  have N0 := Fr.nil n0
  have pre0 : ∀ t, Steps p.tables e below (s₁.setTop (mkF m 0 #[.val (.ref sa)] [])) t → Steps p.tables e below (s₁.setTop (entryFrame m #[(.ref sa)] 1)) t := fun t k => castTop (ef_1_R m sa) k
  obtain ⟨Scmp, hzc⟩ := id hE
  obtain ⟨Es, Vs, Cs, As⟩ := id hS
  obtain ⟨T1, X1, e1, st1⟩ := getF X0 hx hZ hown (host := "") (Or.inl (hw _ (List.mem_of_getElem? (i := 94) rfl))) Via.refl e0 Vs (g := (mkF m 1 #[.val (.ref sa)] [(.ref sa)])) rfl rfl (hb hby d8_1)
  obtain ⟨cw2, A2, q2, s2, n2, H2, G2⟩ := id As
  obtain ⟨cq3, kq3, q3a, q3b, q3c⟩ := isOf hZ e1 Es
  obtain ⟨_, _, ⟨T3, L3, k3, n3⟩, -, X3, ⟨Lc3, hQ3, l3, y3, z3⟩, st3⟩ := X1.virtualBack hx (y := (⟨"java/lang/String", "coder", "()B"⟩ : MethodName)) (z := (⟨"java/lang/String", "coder", "()B"⟩ : MethodName)) hown (mvT hZ (hw _ (List.mem_of_getElem? (i := 95) rfl))) (mvT hZ (hw _ (List.mem_of_getElem? (i := 96) rfl))) (notFace_of_selects (args := #[]) (mvT hZ (hw _ (List.mem_of_getElem? (i := 98) rfl)))) (mvT hZ (hw _ (List.mem_of_getElem? (i := 98) rfl))) (mvT hZ (hw _ (List.mem_of_getElem? (i := 97) rfl))) (by decide) (backOf (W := 1) (sb_coder l Z a0 hw [] zc sa h0 n0 O hE Cs) hZ (hw _ (List.mem_of_getElem? (i := 99) rfl)) (hw _ (List.mem_of_getElem? (i := 3) rfl)) (by decide) (by decide)) q3a q3c (g := (mkF m 6 #[.val (.ref sa)] [(.ref sa), (.int (Int32.ofNat cs.length))])) rfl (by rw [hml]; rfl) (Steps.refl _) (argsL := []) (rest := [(.int (Int32.ofNat cs.length))]) (lenOf pd_2829B rfl) rfl (by show 2 * 0 + _ ≤ _; exact Nat.le_of_eq rfl) (hb hby d8_6) (fun _ _ => ⟨rfl, e1, (by decide : 0 + 0 ≤ _), (by decide : 0 + 0 ≤ _)⟩)
  dsimp only [Pt.U, Pt.locs, Pt.cells, Pt.slots] at X3 l3 y3 z3 st3 hQ3
  rw [l3, y3, z3] at X3
  obtain ⟨rfl, N3q, e3⟩ := hQ3
  have N3 := Fr.app N0 N3q
  obtain ⟨fs, hr, hrun, hended, hW, hsame⟩ := X3.leave (v := some (.int (Int32.ofNat cs.length))) (fun h => by rw [Bd.returns] at h; cases h)
  refine ⟨_, _, pre0 _ ?_, hrun, hended, _, _, rfl, ?_, ⟨_, rfl⟩, hW, hsame.mono (by decide) (by decide)⟩
  · show Steps p.tables e below (s₁.setTop (mkF m 0 #[.val (.ref sa)] [])) _
    refine XS.aloadN X0.here hx rfl (hb hby d8_0) rfl rfl ?_
    show Steps p.tables e below (s₁.setTop (mkF m 1 #[.val (.ref sa)] [(.ref sa)])) _
    refine st1 _ ?_
    show Steps p.tables e below (T1.setTop (mkF m 4 #[.val (.ref sa)] [(.ref sd)])) _
    refine X1.arraylength hx (by rw [e1]; exact A2.1) (State.isArrayOf_alike hZ.alike A2.2.1) (g := (mkF m 4 #[.val (.ref sa)] [(.ref sd)])) rfl rfl (hb hby d8_4) _ ?_
    rw [len_of s2 n2]
    show Steps p.tables e below (T1.setTop (mkF m 5 #[.val (.ref sa)] [(.int (Int32.ofNat cs.length))])) _
    refine XS.aloadN X1.here hx rfl (hb hby d8_5) rfl rfl ?_
    show Steps p.tables e below (T1.setTop (mkF m 6 #[.val (.ref sa)] [(.ref sa), (.int (Int32.ofNat cs.length))])) _
    refine st3.trans ?_
    show Steps p.tables e below (T3.setTop (mkF m 9 #[.val (.ref sa)] [(.int (0 : Int32)), (.int (Int32.ofNat cs.length))])) _
    refine XS.ishr X3.here hx rfl (hb hby d8_9) rfl ?_
    show Steps p.tables e below (T3.setTop (mkF m 10 #[.val (.ref sa)] [(.int ((Int32.ofNat cs.length) >>> ((0 : Int32) &&& 31)))])) _
    rw [own_shr0]
    show Steps p.tables e below (T3.setTop (mkF m 10 #[.val (.ref sa)] [(.int (Int32.ofNat cs.length))])) _
    exact retI X3 hx Bd.returns (hb hby d8_10) hr
  · exact ⟨rfl, N3, e3⟩
theorem d12_0 : decode jdk_68_method_71_code 0 = .ok (.getstatic 18, 3) := by decide +kernel
theorem d12_3 : decode jdk_68_method_71_code 3 = .ok (.ifCond .eq 18, 3) := by decide +kernel
theorem d12_6 : decode jdk_68_method_71_code 6 = .ok (.aload_n 0, 1) := by decide +kernel
theorem d12_7 : decode jdk_68_method_71_code 7 = .ok (.getfield 22, 3) := by decide +kernel
theorem d12_10 : decode jdk_68_method_71_code 10 = .ok (.aload_n 1, 1) := by decide +kernel
theorem d12_11 : decode jdk_68_method_71_code 11 = .ok (.invokevirtual 40, 3) := by decide +kernel
theorem d12_14 : decode jdk_68_method_71_code 14 = .ok (.if_icmp .eq 7, 3) := by decide +kernel
theorem d12_21 : decode jdk_68_method_71_code 21 = .ok (.return_, 1) := by decide +kernel
theorem ef_2_RR (m : MethodId) (x0 : Addr) (x1 : Addr) : entryFrame m #[(.ref x0), (.ref x1)] 2 = mkF m 0 #[.val (.ref x0), .val (.ref x1)] [] := by first | (simp [entryFrame, mkF, argsToLocals, Value.category]; done) | rfl
theorem pn_java_lang_AbstractStringBuilder : plainName "java/lang/AbstractStringBuilder" = true := by first | (simp [plainName, overriddenIn]; done) | decide +kernel
set_option maxRecDepth 65536 in
set_option maxHeartbeats 40000000 in
theorem sb_inflate (l : Launch) (Z : State) (a0 : Array Value) (hw : ∀ d ∈ tables_1, d.before a0 Z = true) (ws : List Jvm.Cond) (zc : Int32) (bb : Addr) (sa sd : Addr) (ks : ClassId) (cs : List Int32) (h0 : Heap) (n0 : Nat) (O : Old Z n0 h0) (hE : EnvS Z zc) (hS : Str Z h0 sa sd ks cs) (C : Fld Z h0 bb "java/lang/AbstractStringBuilder" "coder" "B" (.int (0 : Int32))) :
    MetFree l (⟨"java/lang/AbstractStringBuilder", "inflateIfNeededFor", "(Ljava/lang/String;)V"⟩ : MethodName) (head1 (Jvm.Cond.code (⟨"java/lang/AbstractStringBuilder", "inflateIfNeededFor", "(Ljava/lang/String;)V"⟩ : MethodName) jdk_68_method_71_code 2 none :: ws) ({ frames := 1, cells := 0, slots := 0, locals := 13 } : Room)) (fun a U => a = #[(.ref bb), (.ref sa)] ∧ Z.Warmed39 U.vm ∧ U.heap = h0) (fun _ _ _ _ _ => True) (fun _ U o U' => ∃ v L, o = .returned v ∧ Qv none h0 n0 v U'.heap L ∧ FrameEnd U o U' L ({ frames := 1, cells := 0, slots := 0, locals := 13 } : Room).cells ({ frames := 1, cells := 0, slots := 0, locals := 13 } : Room).slots) := by
  refine MetFree.of_bodySF (plainFor_of_name pn_java_lang_AbstractStringBuilder) hisR ?_
  intro p e s m args below meth c s₁ Bd hml0 hP hK
  obtain ⟨rfl, hZ, hh⟩ := hP
  have hx := Bd.exec
  have hby := Bd.bytes
  have hml : c.maxLocals = 2 := hml0
  have hown : s.vm.findClass "java/lang/AbstractStringBuilder" = some m.cls := findClass_of_methodNamed Bd.named
  have hnm := (name_of_methodNamed Bd.named Bd.method).1
  have X0 : Stand p l e ({ frames := 1, cells := 0, slots := 0, locals := 13 } : Room) s m #[(.ref bb), (.ref sa)] below meth c s₁ [] 0 0 := Stand.of_body Bd
  have e0 : s₁.heap = h0 := by rw [← hh, Bd.state]; rfl
  have N0 := Fr.nil n0
  have pre0 : ∀ t, Steps p.tables e below (s₁.setTop (mkF m 0 #[.val (.ref bb), .val (.ref sa)] [])) t → Steps p.tables e below (s₁.setTop (entryFrame m #[(.ref bb), (.ref sa)] 2)) t := fun t k => castTop (ef_2_RR m bb sa) k
  obtain ⟨Scmp, hzc⟩ := id hE
  obtain ⟨Es, Vs, Cs, As⟩ := id hS
  obtain ⟨T1, X1, e1, st1⟩ := getS2 X0 hx hZ hown (host := "") (Or.inl (hw _ (List.mem_of_getElem? (i := 73) rfl))) Via.refl e0 (Scmp.ext O.2) (g := (mkF m 0 #[.val (.ref bb), .val (.ref sa)] [])) rfl (hb hby d12_0)
  obtain ⟨T2, X2, e2, st2⟩ := getF X1 hx hZ hown (host := "") (Or.inl (hw _ (List.mem_of_getElem? (i := 76) rfl))) Via.refl e1 C (g := (mkF m 7 #[.val (.ref bb), .val (.ref sa)] [(.ref bb)])) rfl rfl (hb hby d12_7)
  obtain ⟨cq3, kq3, q3a, q3b, q3c⟩ := isOf hZ e2 Es
  obtain ⟨_, _, ⟨T3, L3, k3, n3⟩, -, X3, ⟨Lc3, hQ3, l3, y3, z3⟩, st3⟩ := X2.virtualBack hx (y := (⟨"java/lang/String", "coder", "()B"⟩ : MethodName)) (z := (⟨"java/lang/String", "coder", "()B"⟩ : MethodName)) hown (mvT hZ (hw _ (List.mem_of_getElem? (i := 119) rfl))) (mvT hZ (hw _ (List.mem_of_getElem? (i := 96) rfl))) (notFace_of_selects (args := #[]) (mvT hZ (hw _ (List.mem_of_getElem? (i := 98) rfl)))) (mvT hZ (hw _ (List.mem_of_getElem? (i := 98) rfl))) (mvT hZ (hw _ (List.mem_of_getElem? (i := 97) rfl))) (by decide) (backOf (W := 1) (sb_coder l Z a0 hw [] zc sa h0 n0 O hE Cs) hZ (hw _ (List.mem_of_getElem? (i := 99) rfl)) (hw _ (List.mem_of_getElem? (i := 3) rfl)) (by decide) (by decide)) q3a q3c (g := (mkF m 11 #[.val (.ref bb), .val (.ref sa)] [(.ref sa), (.int (0 : Int32))])) rfl (by rw [hml]; rfl) (Steps.refl _) (argsL := []) (rest := [(.int (0 : Int32))]) (lenOf pd_2829B rfl) rfl (by show 2 * 0 + _ ≤ _; exact Nat.le_of_eq rfl) (hb hby d12_11) (fun _ _ => ⟨rfl, e2, (by decide : 0 + 0 ≤ _), (by decide : 0 + 0 ≤ _)⟩)
  dsimp only [Pt.U, Pt.locs, Pt.cells, Pt.slots] at X3 l3 y3 z3 st3 hQ3
  rw [l3, y3, z3] at X3
  obtain ⟨rfl, N3q, e3⟩ := hQ3
  have N3 := Fr.app N0 N3q
  obtain ⟨fs, hr, hrun, hended, hW, hsame⟩ := X3.leave (v := none) (fun h => rfl)
  refine ⟨_, _, pre0 _ ?_, hrun, hended, _, _, rfl, ?_, ⟨_, rfl⟩, hW, hsame.mono (by decide) (by decide)⟩
  · show Steps p.tables e below (s₁.setTop (mkF m 0 #[.val (.ref bb), .val (.ref sa)] [])) _
    refine st1 _ ?_
    show Steps p.tables e below (T1.setTop (mkF m 3 #[.val (.ref bb), .val (.ref sa)] [(.int zc)])) _
    refine XS.ifNo X1.here hx rfl (hb hby d12_3) rfl ((if0 _ _).trans (feq (hzc : ¬ (zc = (0 : Int32)))).1) ?_
    show Steps p.tables e below (T1.setTop (mkF m 6 #[.val (.ref bb), .val (.ref sa)] [])) _
    refine XS.aloadN X1.here hx rfl (hb hby d12_6) rfl rfl ?_
    show Steps p.tables e below (T1.setTop (mkF m 7 #[.val (.ref bb), .val (.ref sa)] [(.ref bb)])) _
    refine st2 _ ?_
    show Steps p.tables e below (T2.setTop (mkF m 10 #[.val (.ref bb), .val (.ref sa)] [(.int (0 : Int32))])) _
    refine XS.aloadN X2.here hx rfl (hb hby d12_10) rfl rfl ?_
    show Steps p.tables e below (T2.setTop (mkF m 11 #[.val (.ref bb), .val (.ref sa)] [(.ref sa), (.int (0 : Int32))])) _
    refine st3.trans ?_
    show Steps p.tables e below (T3.setTop (mkF m 14 #[.val (.ref bb), .val (.ref sa)] [(.int (0 : Int32)), (.int (0 : Int32))])) _
    refine XS.icmpYes X3.here hx rfl (pc0 := 14) (pc' := 21) rfl (hb hby d12_14) rfl (teq ((by decide) : (0 : Int32) = (0 : Int32))).1 (by decide) (by decide) ?_
    show Steps p.tables e below (T3.setTop (mkF m 21 #[.val (.ref bb), .val (.ref sa)] [])) _
    exact X3.returnOut hx Bd.returns (hb hby d12_21) hr
  · exact ⟨rfl, N3, e3⟩
theorem d13_0 : decode jdk_42_method_147_code 0 = .ok (.aload_n 0, 1) := by decide +kernel
theorem d13_1 : decode jdk_42_method_147_code 1 = .ok (.invokevirtual 335, 3) := by decide +kernel
theorem d13_4 : decode jdk_42_method_147_code 4 = .ok (.iload_n 3, 1) := by decide +kernel
theorem d13_5 : decode jdk_42_method_147_code 5 = .ok (.if_icmp .ne 23, 3) := by decide +kernel
theorem d13_8 : decode jdk_42_method_147_code 8 = .ok (.aload_n 0, 1) := by decide +kernel
theorem d13_9 : decode jdk_42_method_147_code 9 = .ok (.getfield 9, 3) := by decide +kernel
theorem d13_12 : decode jdk_42_method_147_code 12 = .ok (.iconst 0, 1) := by decide +kernel
theorem d13_13 : decode jdk_42_method_147_code 13 = .ok (.aload_n 1, 1) := by decide +kernel
theorem d13_14 : decode jdk_42_method_147_code 14 = .ok (.iload_n 2, 1) := by decide +kernel
theorem d13_15 : decode jdk_42_method_147_code 15 = .ok (.iload_n 3, 1) := by decide +kernel
theorem d13_16 : decode jdk_42_method_147_code 16 = .ok (.ishl, 1) := by decide +kernel
theorem d13_17 : decode jdk_42_method_147_code 17 = .ok (.aload_n 0, 1) := by decide +kernel
theorem d13_18 : decode jdk_42_method_147_code 18 = .ok (.getfield 9, 3) := by decide +kernel
theorem d13_21 : decode jdk_42_method_147_code 21 = .ok (.arraylength, 1) := by decide +kernel
theorem d13_22 : decode jdk_42_method_147_code 22 = .ok (.invokestatic 212, 3) := by decide +kernel
theorem d13_25 : decode jdk_42_method_147_code 25 = .ok (.goto 18, 3) := by decide +kernel
theorem d13_43 : decode jdk_42_method_147_code 43 = .ok (.return_, 1) := by decide +kernel
theorem ef_4_RRII (m : MethodId) (x0 : Addr) (x1 : Addr) (x2 : Int32) (x3 : Int32) : entryFrame m #[(.ref x0), (.ref x1), (.int x2), (.int x3)] 4 = mkF m 0 #[.val (.ref x0), .val (.ref x1), .val (.int x2), .val (.int x3)] [] := by first | (simp [entryFrame, mkF, argsToLocals, Value.category]; done) | rfl
set_option maxRecDepth 65536 in
set_option maxHeartbeats 40000000 in
theorem sb_getBytes (l : Launch) (Z : State) (a0 : Array Value) (hw : ∀ d ∈ tables_1, d.before a0 Z = true) (ws : List Jvm.Cond) (zc : Int32) (sa sd : Addr) (ks : ClassId) (cs : List Int32) (da : Addr) (kd : ClassId) (N : Nat) (bs : List Int32) (h0 : Heap) (n0 : Nat) (O : Old Z n0 h0) (hE : EnvS Z zc) (hS : Str Z h0 sa sd ks cs) (A : Arv Z h0 da kd .byte (Int32.ofNat N) (by8 bs) (.int (0 : Int32))) (hle : bs.length + cs.length ≤ N) (hN : N ≤ 1000) (hne : sd ≠ da) (gd : n0 ≤ da) :
    MetFree l (⟨"java/lang/String", "getBytes", "([BIB)V"⟩ : MethodName) (head1 (Jvm.Cond.code (⟨"java/lang/String", "getBytes", "([BIB)V"⟩ : MethodName) jdk_42_method_147_code 4 none :: ws) ({ frames := 1, cells := 0, slots := 0, locals := 18 } : Room)) (fun a U => a = #[(.ref sa), (.ref da), (.int (Int32.ofNat bs.length)), (.int (0 : Int32))] ∧ Z.Warmed39 U.vm ∧ U.heap = h0) (fun _ _ _ _ _ => True) (fun _ U o U' => ∃ v L, o = .returned v ∧ Qh none h0 n0 [da] (fun h => Arv Z h da kd .byte (Int32.ofNat N) (by8 (bs ++ cs)) (.int (0 : Int32))) v U'.heap L ∧ FrameEnd U o U' L ({ frames := 1, cells := 0, slots := 0, locals := 18 } : Room).cells ({ frames := 1, cells := 0, slots := 0, locals := 18 } : Room).slots) := by
  refine MetFree.of_bodySF (plainFor_of_name pn_java_lang_String) hisR ?_
  intro p e s m args below meth c s₁ Bd hml0 hP hK
  obtain ⟨rfl, hZ, hh⟩ := hP
  have hx := Bd.exec
  have hby := Bd.bytes
  have hml : c.maxLocals = 4 := hml0
  have hown : s.vm.findClass "java/lang/String" = some m.cls := findClass_of_methodNamed Bd.named
  have hnm := (name_of_methodNamed Bd.named Bd.method).1
  have X0 : Stand p l e ({ frames := 1, cells := 0, slots := 0, locals := 18 } : Room) s m #[(.ref sa), (.ref da), (.int (Int32.ofNat bs.length)), (.int (0 : Int32))] below meth c s₁ [] 0 0 := Stand.of_body Bd
  have e0 : s₁.heap = h0 := by rw [← hh, Bd.state]; rfl
  have N0 := Fr.nil n0
  have pre0 : ∀ t, Steps p.tables e below (s₁.setTop (mkF m 0 #[.val (.ref sa), .val (.ref da), .val (.int (Int32.ofNat bs.length)), .val (.int (0 : Int32))] [])) t → Steps p.tables e below (s₁.setTop (entryFrame m #[(.ref sa), (.ref da), (.int (Int32.ofNat bs.length)), (.int (0 : Int32))] 4)) t := fun t k => castTop (ef_4_RRII m sa da (Int32.ofNat bs.length) (0 : Int32)) k
  obtain ⟨Scmp, hzc⟩ := id hE
  obtain ⟨Es, Vs, Cs, As⟩ := id hS
  obtain ⟨cq1, kq1, q1a, q1b, q1c⟩ := isOf hZ e0 Es
  obtain ⟨_, _, ⟨T1, L1, k1, n1⟩, -, X1, ⟨Lc1, hQ1, l1, y1, z1⟩, st1⟩ := X0.virtualBack hx (y := (⟨"java/lang/String", "coder", "()B"⟩ : MethodName)) (z := (⟨"java/lang/String", "coder", "()B"⟩ : MethodName)) hown (mvT hZ (hw _ (List.mem_of_getElem? (i := 95) rfl))) (mvT hZ (hw _ (List.mem_of_getElem? (i := 96) rfl))) (notFace_of_selects (args := #[]) (mvT hZ (hw _ (List.mem_of_getElem? (i := 98) rfl)))) (mvT hZ (hw _ (List.mem_of_getElem? (i := 98) rfl))) (mvT hZ (hw _ (List.mem_of_getElem? (i := 97) rfl))) (by decide) (backOf (W := 0) (sb_coder l Z a0 hw [] zc sa h0 n0 O hE Cs) hZ (hw _ (List.mem_of_getElem? (i := 99) rfl)) (hw _ (List.mem_of_getElem? (i := 3) rfl)) (by decide) (by decide)) q1a q1c (g := (mkF m 1 #[.val (.ref sa), .val (.ref da), .val (.int (Int32.ofNat bs.length)), .val (.int (0 : Int32))] [(.ref sa)])) rfl (by rw [hml]; rfl) (Steps.refl _) (argsL := []) (rest := []) (lenOf pd_2829B rfl) rfl (by show 2 * 0 + _ ≤ _; exact Nat.le_of_eq rfl) (hb hby d13_1) (fun _ _ => ⟨rfl, e0, (by decide : 0 + 0 ≤ _), (by decide : 0 + 0 ≤ _)⟩)
  dsimp only [Pt.U, Pt.locs, Pt.cells, Pt.slots] at X1 l1 y1 z1 st1 hQ1
  rw [l1, y1, z1] at X1
  obtain ⟨rfl, N1q, e1⟩ := hQ1
  have N1 := Fr.app N0 N1q
  obtain ⟨T2, X2, e2, st2⟩ := getF X1 hx hZ hown (host := "") (Or.inl (hw _ (List.mem_of_getElem? (i := 94) rfl))) Via.refl e1 Vs (g := (mkF m 9 #[.val (.ref sa), .val (.ref da), .val (.int (Int32.ofNat bs.length)), .val (.int (0 : Int32))] [(.ref sa)])) rfl rfl (hb hby d13_9)
  obtain ⟨T3, X3, e3, st3⟩ := getF X2 hx hZ hown (host := "") (Or.inl (hw _ (List.mem_of_getElem? (i := 94) rfl))) Via.refl e2 Vs (g := (mkF m 18 #[.val (.ref sa), .val (.ref da), .val (.int (Int32.ofNat bs.length)), .val (.int (0 : Int32))] [(.ref sa), (.int (Int32.ofNat bs.length)), (.ref da), (.int (0 : Int32)), (.ref sd)])) rfl rfl (hb hby d13_18)
  obtain ⟨cw4, A4, q4, s4, n4, H4, G4⟩ := id As
  have Bp : Arv Z h0 da kd .byte (Int32.ofNat N) (by8 bs ++ List.replicate cs.length (.int (0 : Int32))) (.int (0 : Int32)) := A.pad (pad_rep (by8 bs) (.int (0 : Int32)) cs.length)
  obtain ⟨T5, h5, L5, X5, e5, N5, K5, V5, st5⟩ := cpA X3 hx hZ hown (hw _ (List.mem_of_getElem? (i := 125) rfl)) (hw _ (List.mem_of_getElem? (i := 128) rfl)) (hw _ (List.mem_of_getElem? (i := 126) rfl)) (hw _ (List.mem_of_getElem? (i := 127) rfl)) e3 As Bp (Or.inl ⟨rfl, rfl⟩) (by decide) (own_nn (by omega)) (own_nn (by omega)) (by rw [own_cl (by omega)]; show 0 + cs.length ≤ cs.length; omega) (by rw [own_cl (by omega), own_cl (by omega), own_cl (by omega)]; exact hle) rfl (by rw [own_cl (by omega), own_cl (by omega)]; simp) N1 gd (g := (mkF m 22 #[.val (.ref sa), .val (.ref da), .val (.int (Int32.ofNat bs.length)), .val (.int (0 : Int32))] [(.int (Int32.ofNat cs.length)), (.int (Int32.ofNat bs.length)), (.ref da), (.int (0 : Int32)), (.ref sd)])) rfl (by rw [hml]; rfl) rfl (hb hby d13_22) (by decide) (W := 0) (by show 2 * 0 + _ ≤ _; exact Nat.le_of_eq rfl) (by decide)
  have O5 : Old Z n0 h5 := O.keep K5 (allS (P := (n0 ≤ ·)) gd all0)
  have Kp5 : Keep h0 h5 [da] := (Keep.refl h0 [da]).trans K5 (allS (P := (fun x => x ∈ [da] ∨ h0.size ≤ x)) (Or.inl (by simp)) all0)
  have Vc : Arv Z h5 da kd .byte (Int32.ofNat N) (by8 (bs ++ cs)) (.int (0 : Int32)) := by rw [own_cl (by omega), own_cl (by omega), show (0 : Int32).toNatClampNeg = 0 from rfl, own_cat bs cs (.int (0 : Int32)) rfl rfl] at V5; exact V5
  obtain ⟨fs, hr, hrun, hended, hW, hsame⟩ := X5.leave (v := none) (fun h => rfl)
  refine ⟨_, _, pre0 _ ?_, hrun, hended, _, _, rfl, ?_, ⟨_, rfl⟩, hW, hsame.mono (by decide) (by decide)⟩
  · show Steps p.tables e below (s₁.setTop (mkF m 0 #[.val (.ref sa), .val (.ref da), .val (.int (Int32.ofNat bs.length)), .val (.int (0 : Int32))] [])) _
    refine XS.aloadN X0.here hx rfl (hb hby d13_0) rfl rfl ?_
    show Steps p.tables e below (s₁.setTop (mkF m 1 #[.val (.ref sa), .val (.ref da), .val (.int (Int32.ofNat bs.length)), .val (.int (0 : Int32))] [(.ref sa)])) _
    refine st1.trans ?_
    show Steps p.tables e below (T1.setTop (mkF m 4 #[.val (.ref sa), .val (.ref da), .val (.int (Int32.ofNat bs.length)), .val (.int (0 : Int32))] [(.int (0 : Int32))])) _
    refine XS.iloadN X1.here hx rfl (hb hby d13_4) rfl ?_
    show Steps p.tables e below (T1.setTop (mkF m 5 #[.val (.ref sa), .val (.ref da), .val (.int (Int32.ofNat bs.length)), .val (.int (0 : Int32))] [(.int (0 : Int32)), (.int (0 : Int32))])) _
    refine XS.icmpNo X1.here hx rfl (hb hby d13_5) rfl (teq ((by decide) : (0 : Int32) = (0 : Int32))).2 ?_
    show Steps p.tables e below (T1.setTop (mkF m 8 #[.val (.ref sa), .val (.ref da), .val (.int (Int32.ofNat bs.length)), .val (.int (0 : Int32))] [])) _
    refine XS.aloadN X1.here hx rfl (hb hby d13_8) rfl rfl ?_
    show Steps p.tables e below (T1.setTop (mkF m 9 #[.val (.ref sa), .val (.ref da), .val (.int (Int32.ofNat bs.length)), .val (.int (0 : Int32))] [(.ref sa)])) _
    refine st2 _ ?_
    show Steps p.tables e below (T2.setTop (mkF m 12 #[.val (.ref sa), .val (.ref da), .val (.int (Int32.ofNat bs.length)), .val (.int (0 : Int32))] [(.ref sd)])) _
    refine XS.iconst X2.here hx rfl (hb hby d13_12) ?_
    show Steps p.tables e below (T2.setTop (mkF m 13 #[.val (.ref sa), .val (.ref da), .val (.int (Int32.ofNat bs.length)), .val (.int (0 : Int32))] [(.int (0 : Int32)), (.ref sd)])) _
    refine XS.aloadN X2.here hx rfl (hb hby d13_13) rfl rfl ?_
    show Steps p.tables e below (T2.setTop (mkF m 14 #[.val (.ref sa), .val (.ref da), .val (.int (Int32.ofNat bs.length)), .val (.int (0 : Int32))] [(.ref da), (.int (0 : Int32)), (.ref sd)])) _
    refine XS.iloadN X2.here hx rfl (hb hby d13_14) rfl ?_
    show Steps p.tables e below (T2.setTop (mkF m 15 #[.val (.ref sa), .val (.ref da), .val (.int (Int32.ofNat bs.length)), .val (.int (0 : Int32))] [(.int (Int32.ofNat bs.length)), (.ref da), (.int (0 : Int32)), (.ref sd)])) _
    refine XS.iloadN X2.here hx rfl (hb hby d13_15) rfl ?_
    show Steps p.tables e below (T2.setTop (mkF m 16 #[.val (.ref sa), .val (.ref da), .val (.int (Int32.ofNat bs.length)), .val (.int (0 : Int32))] [(.int (0 : Int32)), (.int (Int32.ofNat bs.length)), (.ref da), (.int (0 : Int32)), (.ref sd)])) _
    refine XS.ishl X2.here hx rfl (hb hby d13_16) rfl ?_
    show Steps p.tables e below (T2.setTop (mkF m 17 #[.val (.ref sa), .val (.ref da), .val (.int (Int32.ofNat bs.length)), .val (.int (0 : Int32))] [(.int ((Int32.ofNat bs.length) <<< ((0 : Int32) &&& 31))), (.ref da), (.int (0 : Int32)), (.ref sd)])) _
    rw [own_shl0]
    show Steps p.tables e below (T2.setTop (mkF m 17 #[.val (.ref sa), .val (.ref da), .val (.int (Int32.ofNat bs.length)), .val (.int (0 : Int32))] [(.int (Int32.ofNat bs.length)), (.ref da), (.int (0 : Int32)), (.ref sd)])) _
    refine XS.aloadN X2.here hx rfl (hb hby d13_17) rfl rfl ?_
    show Steps p.tables e below (T2.setTop (mkF m 18 #[.val (.ref sa), .val (.ref da), .val (.int (Int32.ofNat bs.length)), .val (.int (0 : Int32))] [(.ref sa), (.int (Int32.ofNat bs.length)), (.ref da), (.int (0 : Int32)), (.ref sd)])) _
    refine st3 _ ?_
    show Steps p.tables e below (T3.setTop (mkF m 21 #[.val (.ref sa), .val (.ref da), .val (.int (Int32.ofNat bs.length)), .val (.int (0 : Int32))] [(.ref sd), (.int (Int32.ofNat bs.length)), (.ref da), (.int (0 : Int32)), (.ref sd)])) _
    refine X3.arraylength hx (by rw [e3]; exact A4.1) (State.isArrayOf_alike hZ.alike A4.2.1) (g := (mkF m 21 #[.val (.ref sa), .val (.ref da), .val (.int (Int32.ofNat bs.length)), .val (.int (0 : Int32))] [(.ref sd), (.int (Int32.ofNat bs.length)), (.ref da), (.int (0 : Int32)), (.ref sd)])) rfl rfl (hb hby d13_21) _ ?_
    rw [len_of s4 n4]
    show Steps p.tables e below (T3.setTop (mkF m 22 #[.val (.ref sa), .val (.ref da), .val (.int (Int32.ofNat bs.length)), .val (.int (0 : Int32))] [(.int (Int32.ofNat cs.length)), (.int (Int32.ofNat bs.length)), (.ref da), (.int (0 : Int32)), (.ref sd)])) _
    refine st5 _ ?_
    show Steps p.tables e below (T5.setTop (mkF m 25 #[.val (.ref sa), .val (.ref da), .val (.int (Int32.ofNat bs.length)), .val (.int (0 : Int32))] [])) _
    refine XS.goto X5.here hx rfl (pc0 := 25) (pc' := 43) rfl (hb hby d13_25) (by decide) (by decide) ?_
    show Steps p.tables e below (T5.setTop (mkF m 43 #[.val (.ref sa), .val (.ref da), .val (.int (Int32.ofNat bs.length)), .val (.int (0 : Int32))] [])) _
    exact X5.returnOut hx Bd.returns (hb hby d13_43) hr
  · exact by show Qh _ h0 n0 _ _ none T5.heap _; rw [e5]; exact ⟨rfl, N5, Kp5, Vc⟩
theorem d11_0 : decode jdk_68_method_73_code 0 = .ok (.aload_n 0, 1) := by decide +kernel
theorem d11_1 : decode jdk_68_method_73_code 1 = .ok (.aload_n 2, 1) := by decide +kernel
theorem pd_28Ljava2flang2fString3b29V : parseMethodDescriptor "(Ljava/lang/String;)V" = some ⟨[(.object "java/lang/String")], none⟩ := by decide +kernel
theorem d11_2 : decode jdk_68_method_73_code 2 = .ok (.invokevirtual 397, 3) := by decide +kernel
theorem d11_5 : decode jdk_68_method_73_code 5 = .ok (.aload_n 2, 1) := by decide +kernel
theorem d11_6 : decode jdk_68_method_73_code 6 = .ok (.aload_n 0, 1) := by decide +kernel
theorem d11_7 : decode jdk_68_method_73_code 7 = .ok (.getfield 15, 3) := by decide +kernel
theorem d11_10 : decode jdk_68_method_73_code 10 = .ok (.iload_n 1, 1) := by decide +kernel
theorem d11_11 : decode jdk_68_method_73_code 11 = .ok (.aload_n 0, 1) := by decide +kernel
theorem d11_12 : decode jdk_68_method_73_code 12 = .ok (.getfield 22, 3) := by decide +kernel
theorem pd_285bBIB29V : parseMethodDescriptor "([BIB)V" = some ⟨[(.array .byte), .int, .byte], none⟩ := by decide +kernel
theorem d11_15 : decode jdk_68_method_73_code 15 = .ok (.invokevirtual 399, 3) := by decide +kernel
theorem d11_18 : decode jdk_68_method_73_code 18 = .ok (.return_, 1) := by decide +kernel
theorem ef_3_RIR (m : MethodId) (x0 : Addr) (x1 : Int32) (x2 : Addr) : entryFrame m #[(.ref x0), (.int x1), (.ref x2)] 3 = mkF m 0 #[.val (.ref x0), .val (.int x1), .val (.ref x2)] [] := by first | (simp [entryFrame, mkF, argsToLocals, Value.category]; done) | rfl
set_option maxRecDepth 65536 in
set_option maxHeartbeats 40000000 in
theorem sb_putStr (l : Launch) (Z : State) (a0 : Array Value) (hw : ∀ d ∈ tables_1, d.before a0 Z = true) (ws : List Jvm.Cond) (zc : Int32) (bb da : Addr) (kd : ClassId) (N : Nat) (bs : List Int32) (sa sd : Addr) (ks : ClassId) (cs : List Int32) (h0 : Heap) (n0 : Nat) (O : Old Z n0 h0) (hE : EnvS Z zc) (hB : Bld Z h0 bb da kd N bs) (hS : Str Z h0 sa sd ks cs) (hle : bs.length + cs.length ≤ N) (hN : N ≤ 1000) (hne : sd ≠ da) (gd : n0 ≤ da) :
    MetFree l (⟨"java/lang/AbstractStringBuilder", "putStringAt", "(ILjava/lang/String;)V"⟩ : MethodName) (head1 (Jvm.Cond.code (⟨"java/lang/AbstractStringBuilder", "putStringAt", "(ILjava/lang/String;)V"⟩ : MethodName) jdk_68_method_73_code 3 none :: ws) ({ frames := 2, cells := 0, slots := 0, locals := 33 } : Room)) (fun a U => a = #[(.ref bb), (.int (Int32.ofNat bs.length)), (.ref sa)] ∧ Z.Warmed39 U.vm ∧ U.heap = h0) (fun _ _ _ _ _ => True) (fun _ U o U' => ∃ v L, o = .returned v ∧ Qh none h0 n0 [da] (fun h => Arv Z h da kd .byte (Int32.ofNat N) (by8 (bs ++ cs)) (.int (0 : Int32))) v U'.heap L ∧ FrameEnd U o U' L ({ frames := 2, cells := 0, slots := 0, locals := 33 } : Room).cells ({ frames := 2, cells := 0, slots := 0, locals := 33 } : Room).slots) := by
  refine MetFree.of_bodySF (plainFor_of_name pn_java_lang_AbstractStringBuilder) hisR ?_
  intro p e s m args below meth c s₁ Bd hml0 hP hK
  obtain ⟨rfl, hZ, hh⟩ := hP
  have hx := Bd.exec
  have hby := Bd.bytes
  have hml : c.maxLocals = 3 := hml0
  have hown : s.vm.findClass "java/lang/AbstractStringBuilder" = some m.cls := findClass_of_methodNamed Bd.named
  have hnm := (name_of_methodNamed Bd.named Bd.method).1
  have X0 : Stand p l e ({ frames := 2, cells := 0, slots := 0, locals := 33 } : Room) s m #[(.ref bb), (.int (Int32.ofNat bs.length)), (.ref sa)] below meth c s₁ [] 0 0 := Stand.of_body Bd
  have e0 : s₁.heap = h0 := by rw [← hh, Bd.state]; rfl
  have N0 := Fr.nil n0
  have pre0 : ∀ t, Steps p.tables e below (s₁.setTop (mkF m 0 #[.val (.ref bb), .val (.int (Int32.ofNat bs.length)), .val (.ref sa)] [])) t → Steps p.tables e below (s₁.setTop (entryFrame m #[(.ref bb), (.int (Int32.ofNat bs.length)), (.ref sa)] 3)) t := fun t k => castTop (ef_3_RIR m bb (Int32.ofNat bs.length) sa) k
  obtain ⟨Scmp, hzc⟩ := id hE
  obtain ⟨Eb, Vb, Cb, Nb, Ab⟩ := id hB
  obtain ⟨Es, Vs, Cs, As⟩ := id hS
  obtain ⟨cq1, kq1, q1a, q1b, q1c⟩ := isOf hZ e0 Eb
  obtain ⟨_, _, ⟨T1, L1, k1, n1⟩, -, X1, ⟨Lc1, hQ1, l1, y1, z1⟩, st1⟩ := X0.virtualBack hx (y := (⟨"java/lang/AbstractStringBuilder", "inflateIfNeededFor", "(Ljava/lang/String;)V"⟩ : MethodName)) (z := (⟨"java/lang/AbstractStringBuilder", "inflateIfNeededFor", "(Ljava/lang/String;)V"⟩ : MethodName)) hown (mvT hZ (hw _ (List.mem_of_getElem? (i := 114) rfl))) (mvT hZ (own_decl (hw _ (List.mem_of_getElem? (i := 115) rfl)) (hw _ (List.mem_of_getElem? (i := 118) rfl)))) (notFace_of_selects (args := #[]) (mvT hZ (hw _ (List.mem_of_getElem? (i := 117) rfl)))) (mvT hZ (hw _ (List.mem_of_getElem? (i := 117) rfl))) (mvT hZ (hw _ (List.mem_of_getElem? (i := 115) rfl))) (by decide) (backOf (W := 0) (sb_inflate l Z a0 hw [] zc bb sa sd ks cs h0 n0 O hE ⟨Es, Vs, Cs, As⟩ Cb) hZ (hw _ (List.mem_of_getElem? (i := 118) rfl)) (hw _ (List.mem_of_getElem? (i := 70) rfl)) (by decide) (by decide)) q1a q1c (g := (mkF m 2 #[.val (.ref bb), .val (.int (Int32.ofNat bs.length)), .val (.ref sa)] [(.ref sa), (.ref bb)])) rfl (by rw [hml]; rfl) (Steps.refl _) (argsL := [(.ref sa)]) (rest := []) (lenOf pd_28Ljava2flang2fString3b29V rfl) rfl (by show 2 * 0 + _ ≤ _; exact Nat.le_of_eq rfl) (hb hby d11_2) (fun _ _ => ⟨rfl, e0, (by decide : 0 + 0 ≤ _), (by decide : 0 + 0 ≤ _)⟩)
  dsimp only [Pt.U, Pt.locs, Pt.cells, Pt.slots] at X1 l1 y1 z1 st1 hQ1
  rw [l1, y1, z1] at X1
  obtain ⟨rfl, N1q, e1⟩ := hQ1
  have N1 := Fr.app N0 N1q
  obtain ⟨T2, X2, e2, st2⟩ := getF X1 hx hZ hown (host := "") (Or.inl (hw _ (List.mem_of_getElem? (i := 74) rfl))) Via.refl e1 Vb (g := (mkF m 7 #[.val (.ref bb), .val (.int (Int32.ofNat bs.length)), .val (.ref sa)] [(.ref bb), (.ref sa)])) rfl rfl (hb hby d11_7)
  obtain ⟨T3, X3, e3, st3⟩ := getF X2 hx hZ hown (host := "") (Or.inl (hw _ (List.mem_of_getElem? (i := 76) rfl))) Via.refl e2 Cb (g := (mkF m 12 #[.val (.ref bb), .val (.int (Int32.ofNat bs.length)), .val (.ref sa)] [(.ref bb), (.int (Int32.ofNat bs.length)), (.ref da), (.ref sa)])) rfl rfl (hb hby d11_12)
  obtain ⟨cq4, kq4, q4a, q4b, q4c⟩ := isOf hZ e3 Es
  obtain ⟨_, _, ⟨T4, L4, k4, n4⟩, -, X4, ⟨Lc4, hQ4, l4, y4, z4⟩, st4⟩ := X3.virtualBack hx (y := (⟨"java/lang/String", "getBytes", "([BIB)V"⟩ : MethodName)) (z := (⟨"java/lang/String", "getBytes", "([BIB)V"⟩ : MethodName)) hown (mvT hZ (hw _ (List.mem_of_getElem? (i := 120) rfl))) (mvT hZ (hw _ (List.mem_of_getElem? (i := 121) rfl))) (notFace_of_selects (args := #[]) (mvT hZ (hw _ (List.mem_of_getElem? (i := 123) rfl)))) (mvT hZ (hw _ (List.mem_of_getElem? (i := 123) rfl))) (mvT hZ (hw _ (List.mem_of_getElem? (i := 122) rfl))) (by decide) (backOf (W := 0) (sb_getBytes l Z a0 hw [] zc sa sd ks cs da kd N bs h0 n0 O hE ⟨Es, Vs, Cs, As⟩ Ab hle hN hne gd) hZ (hw _ (List.mem_of_getElem? (i := 124) rfl)) (hw _ (List.mem_of_getElem? (i := 3) rfl)) (by decide) (by decide)) q4a q4c (g := (mkF m 15 #[.val (.ref bb), .val (.int (Int32.ofNat bs.length)), .val (.ref sa)] [(.int (0 : Int32)), (.int (Int32.ofNat bs.length)), (.ref da), (.ref sa)])) rfl (by rw [hml]; rfl) (Steps.refl _) (argsL := [(.ref da), (.int (Int32.ofNat bs.length)), (.int (0 : Int32))]) (rest := []) (lenOf pd_285bBIB29V rfl) rfl (by show 2 * 0 + _ ≤ _; exact Nat.le_of_eq rfl) (hb hby d11_15) (fun _ _ => ⟨rfl, e3, (by decide : 0 + 0 ≤ _), (by decide : 0 + 0 ≤ _)⟩)
  dsimp only [Pt.U, Pt.locs, Pt.cells, Pt.slots] at X4 l4 y4 z4 st4 hQ4
  rw [l4, y4, z4] at X4
  obtain ⟨rfl, N4q, K4, V4⟩ := hQ4
  have N4 := Fr.app N1 N4q
  have O4 : Old Z n0 T4.heap := O.keep K4 (allS (P := (n0 ≤ ·)) gd all0)
  have Kp4 : Keep h0 T4.heap [da] := (Keep.refl h0 [da]).trans K4 (allS (P := (fun x => x ∈ [da] ∨ h0.size ≤ x)) (Or.inl (by simp)) all0)
  obtain ⟨fs, hr, hrun, hended, hW, hsame⟩ := X4.leave (v := none) (fun h => rfl)
  refine ⟨_, _, pre0 _ ?_, hrun, hended, _, _, rfl, ?_, ⟨_, rfl⟩, hW, hsame.mono (by decide) (by decide)⟩
  · show Steps p.tables e below (s₁.setTop (mkF m 0 #[.val (.ref bb), .val (.int (Int32.ofNat bs.length)), .val (.ref sa)] [])) _
    refine XS.aloadN X0.here hx rfl (hb hby d11_0) rfl rfl ?_
    show Steps p.tables e below (s₁.setTop (mkF m 1 #[.val (.ref bb), .val (.int (Int32.ofNat bs.length)), .val (.ref sa)] [(.ref bb)])) _
    refine XS.aloadN X0.here hx rfl (hb hby d11_1) rfl rfl ?_
    show Steps p.tables e below (s₁.setTop (mkF m 2 #[.val (.ref bb), .val (.int (Int32.ofNat bs.length)), .val (.ref sa)] [(.ref sa), (.ref bb)])) _
    refine st1.trans ?_
    show Steps p.tables e below (T1.setTop (mkF m 5 #[.val (.ref bb), .val (.int (Int32.ofNat bs.length)), .val (.ref sa)] [])) _
    refine XS.aloadN X1.here hx rfl (hb hby d11_5) rfl rfl ?_
    show Steps p.tables e below (T1.setTop (mkF m 6 #[.val (.ref bb), .val (.int (Int32.ofNat bs.length)), .val (.ref sa)] [(.ref sa)])) _
    refine XS.aloadN X1.here hx rfl (hb hby d11_6) rfl rfl ?_
    show Steps p.tables e below (T1.setTop (mkF m 7 #[.val (.ref bb), .val (.int (Int32.ofNat bs.length)), .val (.ref sa)] [(.ref bb), (.ref sa)])) _
    refine st2 _ ?_
    show Steps p.tables e below (T2.setTop (mkF m 10 #[.val (.ref bb), .val (.int (Int32.ofNat bs.length)), .val (.ref sa)] [(.ref da), (.ref sa)])) _
    refine XS.iloadN X2.here hx rfl (hb hby d11_10) rfl ?_
    show Steps p.tables e below (T2.setTop (mkF m 11 #[.val (.ref bb), .val (.int (Int32.ofNat bs.length)), .val (.ref sa)] [(.int (Int32.ofNat bs.length)), (.ref da), (.ref sa)])) _
    refine XS.aloadN X2.here hx rfl (hb hby d11_11) rfl rfl ?_
    show Steps p.tables e below (T2.setTop (mkF m 12 #[.val (.ref bb), .val (.int (Int32.ofNat bs.length)), .val (.ref sa)] [(.ref bb), (.int (Int32.ofNat bs.length)), (.ref da), (.ref sa)])) _
    refine st3 _ ?_
    show Steps p.tables e below (T3.setTop (mkF m 15 #[.val (.ref bb), .val (.int (Int32.ofNat bs.length)), .val (.ref sa)] [(.int (0 : Int32)), (.int (Int32.ofNat bs.length)), (.ref da), (.ref sa)])) _
    refine st4.trans ?_
    show Steps p.tables e below (T4.setTop (mkF m 18 #[.val (.ref bb), .val (.int (Int32.ofNat bs.length)), .val (.ref sa)] [])) _
    exact X4.returnOut hx Bd.returns (hb hby d11_18) hr
  · exact by show Qh _ h0 n0 _ _ none T4.heap _; exact ⟨rfl, N4, Kp4, V4⟩
theorem d27_0 : decode jdk_68_method_64_code 0 = .ok (.aload_n 0, 1) := by decide +kernel
theorem d27_1 : decode jdk_68_method_64_code 1 = .ok (.getfield 15, 3) := by decide +kernel
theorem d27_4 : decode jdk_68_method_64_code 4 = .ok (.areturn, 1) := by decide +kernel
set_option maxRecDepth 65536 in
set_option maxHeartbeats 40000000 in
theorem sb_getValue (l : Launch) (Z : State) (a0 : Array Value) (hw : ∀ d ∈ tables_1, d.before a0 Z = true) (ws : List Jvm.Cond) (bb da : Addr) (kd : ClassId) (N : Nat) (bs : List Int32) (h0 : Heap) (n0 : Nat) (O : Old Z n0 h0) (hB : Bld Z h0 bb da kd N bs) :
    MetFree l (⟨"java/lang/AbstractStringBuilder", "getValue", "()[B"⟩ : MethodName) (head1 (Jvm.Cond.code (⟨"java/lang/AbstractStringBuilder", "getValue", "()[B"⟩ : MethodName) jdk_68_method_64_code 1 (some (.array .byte)) :: ws) ({ frames := 0, cells := 0, slots := 0, locals := 0 } : Room)) (fun a U => a = #[(.ref bb)] ∧ Z.Warmed39 U.vm ∧ U.heap = h0) (fun _ _ _ _ _ => True) (fun _ U o U' => ∃ v L, o = .returned v ∧ Qv (some (.ref da)) h0 n0 v U'.heap L ∧ FrameEnd U o U' L ({ frames := 0, cells := 0, slots := 0, locals := 0 } : Room).cells ({ frames := 0, cells := 0, slots := 0, locals := 0 } : Room).slots) := by
  refine MetFree.of_bodySF (plainFor_of_name pn_java_lang_AbstractStringBuilder) hisR ?_
  intro p e s m args below meth c s₁ Bd hml0 hP hK
  obtain ⟨rfl, hZ, hh⟩ := hP
  have hx := Bd.exec
  have hby := Bd.bytes
  have hml : c.maxLocals = 1 := hml0
  have hown : s.vm.findClass "java/lang/AbstractStringBuilder" = some m.cls := findClass_of_methodNamed Bd.named
  have hnm := (name_of_methodNamed Bd.named Bd.method).1
  have X0 : Stand p l e ({ frames := 0, cells := 0, slots := 0, locals := 0 } : Room) s m #[(.ref bb)] below meth c s₁ [] 0 0 := Stand.of_body Bd
  have e0 : s₁.heap = h0 := by rw [← hh, Bd.state]; rfl
  have N0 := Fr.nil n0
  have pre0 : ∀ t, Steps p.tables e below (s₁.setTop (mkF m 0 #[.val (.ref bb)] [])) t → Steps p.tables e below (s₁.setTop (entryFrame m #[(.ref bb)] 1)) t := fun t k => castTop (ef_1_R m bb) k
  obtain ⟨Eb, Vb, Cb, Nb, Ab⟩ := id hB
  obtain ⟨T1, X1, e1, st1⟩ := getF X0 hx hZ hown (host := "") (Or.inl (hw _ (List.mem_of_getElem? (i := 74) rfl))) Via.refl e0 Vb (g := (mkF m 1 #[.val (.ref bb)] [(.ref bb)])) rfl rfl (hb hby d27_1)
  obtain ⟨fs, hr, hrun, hended, hW, hsame⟩ := X1.leave (v := some (.ref da)) (fun h => by rw [Bd.returns] at h; cases h)
  refine ⟨_, _, pre0 _ ?_, hrun, hended, _, _, rfl, ?_, ⟨_, rfl⟩, hW, hsame.mono (by decide) (by decide)⟩
  · show Steps p.tables e below (s₁.setTop (mkF m 0 #[.val (.ref bb)] [])) _
    refine XS.aloadN X0.here hx rfl (hb hby d27_0) rfl rfl ?_
    show Steps p.tables e below (s₁.setTop (mkF m 1 #[.val (.ref bb)] [(.ref bb)])) _
    refine st1 _ ?_
    show Steps p.tables e below (T1.setTop (mkF m 4 #[.val (.ref bb)] [(.ref da)])) _
    exact retOut X1 hx Bd.returns rfl (Or.inr (Or.inr (Or.inr (Or.inr ⟨rfl, rfl, rfl⟩)))) (hb hby d27_4) hr
  · exact ⟨rfl, N0, e1⟩
theorem d29_0 : decode jdk_68_method_6_code 0 = .ok (.aload_n 0, 1) := by decide +kernel
theorem d29_1 : decode jdk_68_method_6_code 1 = .ok (.getfield 79, 3) := by decide +kernel
theorem d29_4 : decode jdk_68_method_6_code 4 = .ok (.ireturn, 1) := by decide +kernel
set_option maxRecDepth 65536 in
set_option maxHeartbeats 40000000 in
theorem sb_asbLen (l : Launch) (Z : State) (a0 : Array Value) (hw : ∀ d ∈ tables_1, d.before a0 Z = true) (ws : List Jvm.Cond) (bb da : Addr) (kd : ClassId) (N : Nat) (bs : List Int32) (h0 : Heap) (n0 : Nat) (O : Old Z n0 h0) (hB : Bld Z h0 bb da kd N bs) :
    MetFree l (⟨"java/lang/AbstractStringBuilder", "length", "()I"⟩ : MethodName) (head1 (Jvm.Cond.code (⟨"java/lang/AbstractStringBuilder", "length", "()I"⟩ : MethodName) jdk_68_method_6_code 1 (some .int) :: ws) ({ frames := 0, cells := 0, slots := 0, locals := 0 } : Room)) (fun a U => a = #[(.ref bb)] ∧ Z.Warmed39 U.vm ∧ U.heap = h0) (fun _ _ _ _ _ => True) (fun _ U o U' => ∃ v L, o = .returned v ∧ Qv (some (.int (Int32.ofNat bs.length))) h0 n0 v U'.heap L ∧ FrameEnd U o U' L ({ frames := 0, cells := 0, slots := 0, locals := 0 } : Room).cells ({ frames := 0, cells := 0, slots := 0, locals := 0 } : Room).slots) := by
  refine MetFree.of_bodySF (plainFor_of_name pn_java_lang_AbstractStringBuilder) hisR ?_
  intro p e s m args below meth c s₁ Bd hml0 hP hK
  obtain ⟨rfl, hZ, hh⟩ := hP
  have hx := Bd.exec
  have hby := Bd.bytes
  have hml : c.maxLocals = 1 := hml0
  have hown : s.vm.findClass "java/lang/AbstractStringBuilder" = some m.cls := findClass_of_methodNamed Bd.named
  have hnm := (name_of_methodNamed Bd.named Bd.method).1
  have X0 : Stand p l e ({ frames := 0, cells := 0, slots := 0, locals := 0 } : Room) s m #[(.ref bb)] below meth c s₁ [] 0 0 := Stand.of_body Bd
  have e0 : s₁.heap = h0 := by rw [← hh, Bd.state]; rfl
  have N0 := Fr.nil n0
  have pre0 : ∀ t, Steps p.tables e below (s₁.setTop (mkF m 0 #[.val (.ref bb)] [])) t → Steps p.tables e below (s₁.setTop (entryFrame m #[(.ref bb)] 1)) t := fun t k => castTop (ef_1_R m bb) k
  obtain ⟨Eb, Vb, Cb, Nb, Ab⟩ := id hB
  obtain ⟨T1, X1, e1, st1⟩ := getF X0 hx hZ hown (host := "") (Or.inl (hw _ (List.mem_of_getElem? (i := 102) rfl))) Via.refl e0 Nb (g := (mkF m 1 #[.val (.ref bb)] [(.ref bb)])) rfl rfl (hb hby d29_1)
  obtain ⟨fs, hr, hrun, hended, hW, hsame⟩ := X1.leave (v := some (.int (Int32.ofNat bs.length))) (fun h => by rw [Bd.returns] at h; cases h)
  refine ⟨_, _, pre0 _ ?_, hrun, hended, _, _, rfl, ?_, ⟨_, rfl⟩, hW, hsame.mono (by decide) (by decide)⟩
  · show Steps p.tables e below (s₁.setTop (mkF m 0 #[.val (.ref bb)] [])) _
    refine XS.aloadN X0.here hx rfl (hb hby d29_0) rfl rfl ?_
    show Steps p.tables e below (s₁.setTop (mkF m 1 #[.val (.ref bb)] [(.ref bb)])) _
    refine st1 _ ?_
    show Steps p.tables e below (T1.setTop (mkF m 4 #[.val (.ref bb)] [(.int (Int32.ofNat bs.length))])) _
    exact retI X1 hx Bd.returns (hb hby d29_4) hr
  · exact ⟨rfl, N0, e1⟩
theorem d28_0 : decode jdk_67_method_93_code 0 = .ok (.aload_n 0, 1) := by decide +kernel
theorem pd_2829I : parseMethodDescriptor "()I" = some ⟨[], some .int⟩ := by decide +kernel
theorem d28_1 : decode jdk_67_method_93_code 1 = .ok (.invokespecial 343, 3) := by decide +kernel
theorem d28_4 : decode jdk_67_method_93_code 4 = .ok (.ireturn, 1) := by decide +kernel
theorem pn_java_lang_StringBuilder : plainName "java/lang/StringBuilder" = true := by first | (simp [plainName, overriddenIn]; done) | decide +kernel
set_option maxRecDepth 65536 in
set_option maxHeartbeats 40000000 in
theorem sb_sbLen (l : Launch) (Z : State) (a0 : Array Value) (hw : ∀ d ∈ tables_1, d.before a0 Z = true) (ws : List Jvm.Cond) (bb da : Addr) (kd : ClassId) (N : Nat) (bs : List Int32) (h0 : Heap) (n0 : Nat) (O : Old Z n0 h0) (hB : Bld Z h0 bb da kd N bs) :
    MetFree l (⟨"java/lang/StringBuilder", "length", "()I"⟩ : MethodName) (head1 (Jvm.Cond.code (⟨"java/lang/StringBuilder", "length", "()I"⟩ : MethodName) jdk_67_method_93_code 1 (some .int) :: ws) ({ frames := 1, cells := 0, slots := 0, locals := 12 } : Room)) (fun a U => a = #[(.ref bb)] ∧ Z.Warmed39 U.vm ∧ U.heap = h0) (fun _ _ _ _ _ => True) (fun _ U o U' => ∃ v L, o = .returned v ∧ Qv (some (.int (Int32.ofNat bs.length))) h0 n0 v U'.heap L ∧ FrameEnd U o U' L ({ frames := 1, cells := 0, slots := 0, locals := 12 } : Room).cells ({ frames := 1, cells := 0, slots := 0, locals := 12 } : Room).slots) := by
  refine MetFree.of_bodySF (plainFor_of_name pn_java_lang_StringBuilder) hisR ?_
  intro p e s m args below meth c s₁ Bd hml0 hP hK
  obtain ⟨rfl, hZ, hh⟩ := hP
  have hx := Bd.exec
  have hby := Bd.bytes
  have hml : c.maxLocals = 1 := hml0
  have hown : s.vm.findClass "java/lang/StringBuilder" = some m.cls := findClass_of_methodNamed Bd.named
  have hnm := (name_of_methodNamed Bd.named Bd.method).1
  have X0 : Stand p l e ({ frames := 1, cells := 0, slots := 0, locals := 12 } : Room) s m #[(.ref bb)] below meth c s₁ [] 0 0 := Stand.of_body Bd
  have e0 : s₁.heap = h0 := by rw [← hh, Bd.state]; rfl
  have N0 := Fr.nil n0
  have pre0 : ∀ t, Steps p.tables e below (s₁.setTop (mkF m 0 #[.val (.ref bb)] [])) t → Steps p.tables e below (s₁.setTop (entryFrame m #[(.ref bb)] 1)) t := fun t k => castTop (ef_1_R m bb) k
  obtain ⟨Eb, Vb, Cb, Nb, Ab⟩ := id hB
  obtain ⟨_, _, ⟨T1, L1, k1, n1⟩, -, X1, ⟨Lc1, hQ1, l1, y1, z1⟩, st1⟩ := superBack X0 hx hZ (y := (⟨"java/lang/AbstractStringBuilder", "length", "()I"⟩ : MethodName)) hown (hw _ (List.mem_of_getElem? (i := 200) rfl)) (own_same (hw _ (List.mem_of_getElem? (i := 107) rfl)) rfl (hw _ (List.mem_of_getElem? (i := 195) rfl)) (by decide)) (hw _ (List.mem_of_getElem? (i := 196) rfl)) (hw _ (List.mem_of_getElem? (i := 86) rfl)) (by decide) (backOf (W := 0) (sb_asbLen l Z a0 hw [] bb da kd N bs h0 n0 O hB) hZ (hw _ (List.mem_of_getElem? (i := 201) rfl)) (hw _ (List.mem_of_getElem? (i := 70) rfl)) (by decide) (by decide)) e0 (Ins.self Eb) (g := (mkF m 1 #[.val (.ref bb)] [(.ref bb)])) rfl (by rw [hml]; rfl) (hw _ (List.mem_of_getElem? (i := 201) rfl)) (argsL := []) (rest := []) (lenOf pd_2829I rfl) rfl (by show 2 * 0 + _ ≤ _; exact Nat.le_of_eq rfl) (hb hby d28_1) (fun _ _ => ⟨rfl, e0, (by decide : 0 + 0 ≤ _), (by decide : 0 + 0 ≤ _)⟩)
  dsimp only [Pt.U, Pt.locs, Pt.cells, Pt.slots] at X1 l1 y1 z1 st1 hQ1
  rw [l1, y1, z1] at X1
  obtain ⟨rfl, N1q, e1⟩ := hQ1
  have N1 := Fr.app N0 N1q
  obtain ⟨fs, hr, hrun, hended, hW, hsame⟩ := X1.leave (v := some (.int (Int32.ofNat bs.length))) (fun h => by rw [Bd.returns] at h; cases h)
  refine ⟨_, _, pre0 _ ?_, hrun, hended, _, _, rfl, ?_, ⟨_, rfl⟩, hW, hsame.mono (by decide) (by decide)⟩
  · show Steps p.tables e below (s₁.setTop (mkF m 0 #[.val (.ref bb)] [])) _
    refine XS.aloadN X0.here hx rfl (hb hby d28_0) rfl rfl ?_
    show Steps p.tables e below (s₁.setTop (mkF m 1 #[.val (.ref bb)] [(.ref bb)])) _
    refine st1.trans ?_
    show Steps p.tables e below (T1.setTop (mkF m 4 #[.val (.ref bb)] [(.int (Int32.ofNat bs.length))])) _
    exact retI X1 hx Bd.returns (hb hby d28_4) hr
  · exact ⟨rfl, N1, e1⟩
theorem d32_0 : decode jdk_65_method_131_code 0 = .ok (.iload_n 1, 1) := by decide +kernel
theorem d32_1 : decode jdk_65_method_131_code 1 = .ok (.iload_n 0, 1) := by decide +kernel
theorem d32_2 : decode jdk_65_method_131_code 2 = .ok (.if_icmp .ge 35, 3) := by decide +kernel
theorem d32_37 : decode jdk_65_method_131_code 37 = .ok (.return_, 1) := by decide +kernel
theorem ef_2_II (m : MethodId) (x0 : Int32) (x1 : Int32) : entryFrame m #[(.int x0), (.int x1)] 2 = mkF m 0 #[.val (.int x0), .val (.int x1)] [] := by first | (simp [entryFrame, mkF, argsToLocals, Value.category]; done) | rfl
theorem pn_java_util_Arrays : plainName "java/util/Arrays" = true := by first | (simp [plainName, overriddenIn]; done) | decide +kernel
set_option maxRecDepth 65536 in
set_option maxHeartbeats 40000000 in
theorem sb_check (l : Launch) (Z : State) (a0 : Array Value) (hw : ∀ d ∈ tables_1, d.before a0 Z = true) (ws : List Jvm.Cond) (n : Nat) (h0 : Heap) (n0 : Nat) (O : Old Z n0 h0) (hn : n ≤ 1000) :
    MetFree l (⟨"java/util/Arrays", "checkLength", "(II)V"⟩ : MethodName) (head1 (Jvm.Cond.code (⟨"java/util/Arrays", "checkLength", "(II)V"⟩ : MethodName) jdk_65_method_131_code 2 none :: ws) ({ frames := 0, cells := 0, slots := 0, locals := 0 } : Room)) (fun a U => a = #[(.int (0 : Int32)), (.int (Int32.ofNat n))] ∧ Z.Warmed39 U.vm ∧ U.heap = h0) (fun _ _ _ _ _ => True) (fun _ U o U' => ∃ v L, o = .returned v ∧ Qv none h0 n0 v U'.heap L ∧ FrameEnd U o U' L ({ frames := 0, cells := 0, slots := 0, locals := 0 } : Room).cells ({ frames := 0, cells := 0, slots := 0, locals := 0 } : Room).slots) := by
  refine MetFree.of_bodySF (plainFor_of_name pn_java_util_Arrays) hisR ?_
  intro p e s m args below meth c s₁ Bd hml0 hP hK
  obtain ⟨rfl, hZ, hh⟩ := hP
  have hx := Bd.exec
  have hby := Bd.bytes
  have hml : c.maxLocals = 2 := hml0
  have hown : s.vm.findClass "java/util/Arrays" = some m.cls := findClass_of_methodNamed Bd.named
  have hnm := (name_of_methodNamed Bd.named Bd.method).1
  have X0 : Stand p l e ({ frames := 0, cells := 0, slots := 0, locals := 0 } : Room) s m #[(.int (0 : Int32)), (.int (Int32.ofNat n))] below meth c s₁ [] 0 0 := Stand.of_body Bd
  have e0 : s₁.heap = h0 := by rw [← hh, Bd.state]; rfl
  have N0 := Fr.nil n0
  have pre0 : ∀ t, Steps p.tables e below (s₁.setTop (mkF m 0 #[.val (.int (0 : Int32)), .val (.int (Int32.ofNat n))] [])) t → Steps p.tables e below (s₁.setTop (entryFrame m #[(.int (0 : Int32)), (.int (Int32.ofNat n))] 2)) t := fun t k => castTop (ef_2_II m (0 : Int32) (Int32.ofNat n)) k
  obtain ⟨fs, hr, hrun, hended, hW, hsame⟩ := X0.leave (v := none) (fun h => rfl)
  refine ⟨_, _, pre0 _ ?_, hrun, hended, _, _, rfl, ?_, ⟨_, rfl⟩, hW, hsame.mono (by decide) (by decide)⟩
  · show Steps p.tables e below (s₁.setTop (mkF m 0 #[.val (.int (0 : Int32)), .val (.int (Int32.ofNat n))] [])) _
    refine XS.iloadN X0.here hx rfl (hb hby d32_0) rfl ?_
    show Steps p.tables e below (s₁.setTop (mkF m 1 #[.val (.int (0 : Int32)), .val (.int (Int32.ofNat n))] [(.int (Int32.ofNat n))])) _
    refine XS.iloadN X0.here hx rfl (hb hby d32_1) rfl ?_
    show Steps p.tables e below (s₁.setTop (mkF m 2 #[.val (.int (0 : Int32)), .val (.int (Int32.ofNat n))] [(.int (0 : Int32)), (.int (Int32.ofNat n))])) _
    refine XS.icmpYes X0.here hx rfl (pc0 := 2) (pc' := 37) rfl (hb hby d32_2) rfl (flt (own_nn hn : ¬ ((Int32.ofNat n) < (0 : Int32)))).2.1 (by decide) (by decide) ?_
    show Steps p.tables e below (s₁.setTop (mkF m 37 #[.val (.int (0 : Int32)), .val (.int (Int32.ofNat n))] [])) _
    exact X0.returnOut hx Bd.returns (hb hby d32_37) hr
  · exact ⟨rfl, N0, e0⟩
theorem d23_0 : decode jdk_29_method_69_code 0 = .ok (.iload_n 0, 1) := by decide +kernel
theorem d23_1 : decode jdk_29_method_69_code 1 = .ok (.iload_n 1, 1) := by decide +kernel
theorem d23_2 : decode jdk_29_method_69_code 2 = .ok (.if_icmp .gt 7, 3) := by decide +kernel
theorem d23_9 : decode jdk_29_method_69_code 9 = .ok (.iload_n 1, 1) := by decide +kernel
theorem d23_10 : decode jdk_29_method_69_code 10 = .ok (.ireturn, 1) := by decide +kernel
theorem pf_23 : plainFor (⟨"java/lang/Math", "min", "(II)I"⟩ : MethodName) = true := by decide +kernel
set_option maxRecDepth 65536 in
set_option maxHeartbeats 40000000 in
theorem sb_min2 (l : Launch) (Z : State) (a0 : Array Value) (hw : ∀ d ∈ tables_1, d.before a0 Z = true) (ws : List Jvm.Cond) (n kk : Nat) (h0 : Heap) (n0 : Nat) (O : Old Z n0 h0) (hn : n ≤ 1000) (hlt : kk < n) :
    MetFree l (⟨"java/lang/Math", "min", "(II)I"⟩ : MethodName) (head1 (Jvm.Cond.code (⟨"java/lang/Math", "min", "(II)I"⟩ : MethodName) jdk_29_method_69_code 2 (some .int) :: ws) ({ frames := 0, cells := 0, slots := 0, locals := 0 } : Room)) (fun a U => a = #[(.int (Int32.ofNat n)), (.int (Int32.ofNat kk))] ∧ Z.Warmed39 U.vm ∧ U.heap = h0) (fun _ _ _ _ _ => True) (fun _ U o U' => ∃ v L, o = .returned v ∧ Qv (some (.int (Int32.ofNat kk))) h0 n0 v U'.heap L ∧ FrameEnd U o U' L ({ frames := 0, cells := 0, slots := 0, locals := 0 } : Room).cells ({ frames := 0, cells := 0, slots := 0, locals := 0 } : Room).slots) := by
  refine MetFree.of_bodySF pf_23 hisR ?_
  intro p e s m args below meth c s₁ Bd hml0 hP hK
  obtain ⟨rfl, hZ, hh⟩ := hP
  have hx := Bd.exec
  have hby := Bd.bytes
  have hml : c.maxLocals = 2 := hml0
  have hown : s.vm.findClass "java/lang/Math" = some m.cls := findClass_of_methodNamed Bd.named
  have hnm := (name_of_methodNamed Bd.named Bd.method).1
  have X0 : Stand p l e ({ frames := 0, cells := 0, slots := 0, locals := 0 } : Room) s m #[(.int (Int32.ofNat n)), (.int (Int32.ofNat kk))] below meth c s₁ [] 0 0 := Stand.of_body Bd
  have e0 : s₁.heap = h0 := by rw [← hh, Bd.state]; rfl
  have N0 := Fr.nil n0
  have pre0 : ∀ t, Steps p.tables e below (s₁.setTop (mkF m 0 #[.val (.int (Int32.ofNat n)), .val (.int (Int32.ofNat kk))] [])) t → Steps p.tables e below (s₁.setTop (entryFrame m #[(.int (Int32.ofNat n)), (.int (Int32.ofNat kk))] 2)) t := fun t k => castTop (ef_2_II m (Int32.ofNat n) (Int32.ofNat kk)) k
  obtain ⟨fs, hr, hrun, hended, hW, hsame⟩ := X0.leave (v := some (.int (Int32.ofNat kk))) (fun h => by rw [Bd.returns] at h; cases h)
  refine ⟨_, _, pre0 _ ?_, hrun, hended, _, _, rfl, ?_, ⟨_, rfl⟩, hW, hsame.mono (by decide) (by decide)⟩
  · show Steps p.tables e below (s₁.setTop (mkF m 0 #[.val (.int (Int32.ofNat n)), .val (.int (Int32.ofNat kk))] [])) _
    refine XS.iloadN X0.here hx rfl (hb hby d23_0) rfl ?_
    show Steps p.tables e below (s₁.setTop (mkF m 1 #[.val (.int (Int32.ofNat n)), .val (.int (Int32.ofNat kk))] [(.int (Int32.ofNat n))])) _
    refine XS.iloadN X0.here hx rfl (hb hby d23_1) rfl ?_
    show Steps p.tables e below (s₁.setTop (mkF m 2 #[.val (.int (Int32.ofNat n)), .val (.int (Int32.ofNat kk))] [(.int (Int32.ofNat kk)), (.int (Int32.ofNat n))])) _
    refine XS.icmpYes X0.here hx rfl (pc0 := 2) (pc' := 9) rfl (hb hby d23_2) rfl (tlt ((own_lt (by omega) hn).mpr hlt : (Int32.ofNat kk) < (Int32.ofNat n))).2.2.1 (by decide) (by decide) ?_
    show Steps p.tables e below (s₁.setTop (mkF m 9 #[.val (.int (Int32.ofNat n)), .val (.int (Int32.ofNat kk))] [])) _
    refine XS.iloadN X0.here hx rfl (hb hby d23_9) rfl ?_
    show Steps p.tables e below (s₁.setTop (mkF m 10 #[.val (.int (Int32.ofNat n)), .val (.int (Int32.ofNat kk))] [(.int (Int32.ofNat kk))])) _
    exact retI X0 hx Bd.returns (hb hby d23_10) hr
  · exact ⟨rfl, N0, e0⟩
theorem d21_0 : decode jdk_29_method_65_code 0 = .ok (.iload_n 0, 1) := by decide +kernel
theorem d21_1 : decode jdk_29_method_65_code 1 = .ok (.iload_n 1, 1) := by decide +kernel
theorem d21_2 : decode jdk_29_method_65_code 2 = .ok (.if_icmp .lt 7, 3) := by decide +kernel
theorem d21_5 : decode jdk_29_method_65_code 5 = .ok (.iload_n 0, 1) := by decide +kernel
theorem d21_6 : decode jdk_29_method_65_code 6 = .ok (.goto 4, 3) := by decide +kernel
theorem d21_10 : decode jdk_29_method_65_code 10 = .ok (.ireturn, 1) := by decide +kernel
theorem pf_21 : plainFor (⟨"java/lang/Math", "max", "(II)I"⟩ : MethodName) = true := by decide +kernel
set_option maxRecDepth 65536 in
set_option maxHeartbeats 40000000 in
theorem sb_max0 (l : Launch) (Z : State) (a0 : Array Value) (hw : ∀ d ∈ tables_1, d.before a0 Z = true) (ws : List Jvm.Cond) (n kk : Nat) (h0 : Heap) (n0 : Nat) (O : Old Z n0 h0) (hn : n ≤ 1000) (hkk : kk ≤ 1000) (hlt : kk ≤ n) :
    MetFree l (⟨"java/lang/Math", "max", "(II)I"⟩ : MethodName) (head1 (Jvm.Cond.code (⟨"java/lang/Math", "max", "(II)I"⟩ : MethodName) jdk_29_method_65_code 2 (some .int) :: ws) ({ frames := 0, cells := 0, slots := 0, locals := 0 } : Room)) (fun a U => a = #[(.int (Int32.ofNat n)), (.int (Int32.ofNat kk))] ∧ Z.Warmed39 U.vm ∧ U.heap = h0) (fun _ _ _ _ _ => True) (fun _ U o U' => ∃ v L, o = .returned v ∧ Qv (some (.int (Int32.ofNat n))) h0 n0 v U'.heap L ∧ FrameEnd U o U' L ({ frames := 0, cells := 0, slots := 0, locals := 0 } : Room).cells ({ frames := 0, cells := 0, slots := 0, locals := 0 } : Room).slots) := by
  refine MetFree.of_bodySF pf_21 hisR ?_
  intro p e s m args below meth c s₁ Bd hml0 hP hK
  obtain ⟨rfl, hZ, hh⟩ := hP
  have hx := Bd.exec
  have hby := Bd.bytes
  have hml : c.maxLocals = 2 := hml0
  have hown : s.vm.findClass "java/lang/Math" = some m.cls := findClass_of_methodNamed Bd.named
  have hnm := (name_of_methodNamed Bd.named Bd.method).1
  have X0 : Stand p l e ({ frames := 0, cells := 0, slots := 0, locals := 0 } : Room) s m #[(.int (Int32.ofNat n)), (.int (Int32.ofNat kk))] below meth c s₁ [] 0 0 := Stand.of_body Bd
  have e0 : s₁.heap = h0 := by rw [← hh, Bd.state]; rfl
  have N0 := Fr.nil n0
  have pre0 : ∀ t, Steps p.tables e below (s₁.setTop (mkF m 0 #[.val (.int (Int32.ofNat n)), .val (.int (Int32.ofNat kk))] [])) t → Steps p.tables e below (s₁.setTop (entryFrame m #[(.int (Int32.ofNat n)), (.int (Int32.ofNat kk))] 2)) t := fun t k => castTop (ef_2_II m (Int32.ofNat n) (Int32.ofNat kk)) k
  obtain ⟨fs, hr, hrun, hended, hW, hsame⟩ := X0.leave (v := some (.int (Int32.ofNat n))) (fun h => by rw [Bd.returns] at h; cases h)
  refine ⟨_, _, pre0 _ ?_, hrun, hended, _, _, rfl, ?_, ⟨_, rfl⟩, hW, hsame.mono (by decide) (by decide)⟩
  · show Steps p.tables e below (s₁.setTop (mkF m 0 #[.val (.int (Int32.ofNat n)), .val (.int (Int32.ofNat kk))] [])) _
    refine XS.iloadN X0.here hx rfl (hb hby d21_0) rfl ?_
    show Steps p.tables e below (s₁.setTop (mkF m 1 #[.val (.int (Int32.ofNat n)), .val (.int (Int32.ofNat kk))] [(.int (Int32.ofNat n))])) _
    refine XS.iloadN X0.here hx rfl (hb hby d21_1) rfl ?_
    show Steps p.tables e below (s₁.setTop (mkF m 2 #[.val (.int (Int32.ofNat n)), .val (.int (Int32.ofNat kk))] [(.int (Int32.ofNat kk)), (.int (Int32.ofNat n))])) _
    refine XS.icmpNo X0.here hx rfl (hb hby d21_2) rfl (flt ((fun q => by have := (own_lt hn hkk).mp q; omega) : ¬ ((Int32.ofNat n) < (Int32.ofNat kk)))).1 ?_
    show Steps p.tables e below (s₁.setTop (mkF m 5 #[.val (.int (Int32.ofNat n)), .val (.int (Int32.ofNat kk))] [])) _
    refine XS.iloadN X0.here hx rfl (hb hby d21_5) rfl ?_
    show Steps p.tables e below (s₁.setTop (mkF m 6 #[.val (.int (Int32.ofNat n)), .val (.int (Int32.ofNat kk))] [(.int (Int32.ofNat n))])) _
    refine XS.goto X0.here hx rfl (pc0 := 6) (pc' := 10) rfl (hb hby d21_6) (by decide) (by decide) ?_
    show Steps p.tables e below (s₁.setTop (mkF m 10 #[.val (.int (Int32.ofNat n)), .val (.int (Int32.ofNat kk))] [(.int (Int32.ofNat n))])) _
    exact retI X0 hx Bd.returns (hb hby d21_10) hr
  · exact ⟨rfl, N0, e0⟩
theorem d21_9 : decode jdk_29_method_65_code 9 = .ok (.iload_n 1, 1) := by decide +kernel
set_option maxRecDepth 65536 in
set_option maxHeartbeats 40000000 in
theorem sb_max1 (l : Launch) (Z : State) (a0 : Array Value) (hw : ∀ d ∈ tables_1, d.before a0 Z = true) (ws : List Jvm.Cond) (n kk : Nat) (h0 : Heap) (n0 : Nat) (O : Old Z n0 h0) (hn : n ≤ 1000) (hkk : kk ≤ 1000) (hlt : n < kk) :
    MetFree l (⟨"java/lang/Math", "max", "(II)I"⟩ : MethodName) (head1 (Jvm.Cond.code (⟨"java/lang/Math", "max", "(II)I"⟩ : MethodName) jdk_29_method_65_code 2 (some .int) :: ws) ({ frames := 0, cells := 0, slots := 0, locals := 0 } : Room)) (fun a U => a = #[(.int (Int32.ofNat n)), (.int (Int32.ofNat kk))] ∧ Z.Warmed39 U.vm ∧ U.heap = h0) (fun _ _ _ _ _ => True) (fun _ U o U' => ∃ v L, o = .returned v ∧ Qv (some (.int (Int32.ofNat kk))) h0 n0 v U'.heap L ∧ FrameEnd U o U' L ({ frames := 0, cells := 0, slots := 0, locals := 0 } : Room).cells ({ frames := 0, cells := 0, slots := 0, locals := 0 } : Room).slots) := by
  refine MetFree.of_bodySF pf_21 hisR ?_
  intro p e s m args below meth c s₁ Bd hml0 hP hK
  obtain ⟨rfl, hZ, hh⟩ := hP
  have hx := Bd.exec
  have hby := Bd.bytes
  have hml : c.maxLocals = 2 := hml0
  have hown : s.vm.findClass "java/lang/Math" = some m.cls := findClass_of_methodNamed Bd.named
  have hnm := (name_of_methodNamed Bd.named Bd.method).1
  have X0 : Stand p l e ({ frames := 0, cells := 0, slots := 0, locals := 0 } : Room) s m #[(.int (Int32.ofNat n)), (.int (Int32.ofNat kk))] below meth c s₁ [] 0 0 := Stand.of_body Bd
  have e0 : s₁.heap = h0 := by rw [← hh, Bd.state]; rfl
  have N0 := Fr.nil n0
  have pre0 : ∀ t, Steps p.tables e below (s₁.setTop (mkF m 0 #[.val (.int (Int32.ofNat n)), .val (.int (Int32.ofNat kk))] [])) t → Steps p.tables e below (s₁.setTop (entryFrame m #[(.int (Int32.ofNat n)), (.int (Int32.ofNat kk))] 2)) t := fun t k => castTop (ef_2_II m (Int32.ofNat n) (Int32.ofNat kk)) k
  obtain ⟨fs, hr, hrun, hended, hW, hsame⟩ := X0.leave (v := some (.int (Int32.ofNat kk))) (fun h => by rw [Bd.returns] at h; cases h)
  refine ⟨_, _, pre0 _ ?_, hrun, hended, _, _, rfl, ?_, ⟨_, rfl⟩, hW, hsame.mono (by decide) (by decide)⟩
  · show Steps p.tables e below (s₁.setTop (mkF m 0 #[.val (.int (Int32.ofNat n)), .val (.int (Int32.ofNat kk))] [])) _
    refine XS.iloadN X0.here hx rfl (hb hby d21_0) rfl ?_
    show Steps p.tables e below (s₁.setTop (mkF m 1 #[.val (.int (Int32.ofNat n)), .val (.int (Int32.ofNat kk))] [(.int (Int32.ofNat n))])) _
    refine XS.iloadN X0.here hx rfl (hb hby d21_1) rfl ?_
    show Steps p.tables e below (s₁.setTop (mkF m 2 #[.val (.int (Int32.ofNat n)), .val (.int (Int32.ofNat kk))] [(.int (Int32.ofNat kk)), (.int (Int32.ofNat n))])) _
    refine XS.icmpYes X0.here hx rfl (pc0 := 2) (pc' := 9) rfl (hb hby d21_2) rfl (tlt ((own_lt hn hkk).mpr hlt : (Int32.ofNat n) < (Int32.ofNat kk))).1 (by decide) (by decide) ?_
    show Steps p.tables e below (s₁.setTop (mkF m 9 #[.val (.int (Int32.ofNat n)), .val (.int (Int32.ofNat kk))] [])) _
    refine XS.iloadN X0.here hx rfl (hb hby d21_9) rfl ?_
    show Steps p.tables e below (s₁.setTop (mkF m 10 #[.val (.int (Int32.ofNat n)), .val (.int (Int32.ofNat kk))] [(.int (Int32.ofNat kk))])) _
    exact retI X0 hx Bd.returns (hb hby d21_10) hr
  · exact ⟨rfl, N0, e0⟩
set_option maxRecDepth 65536 in
set_option maxHeartbeats 40000000 in
theorem sb_max (l : Launch) (Z : State) (a0 : Array Value) (hw : ∀ d ∈ tables_1, d.before a0 Z = true) (ws : List Jvm.Cond) (n kk : Nat) (h0 : Heap) (n0 : Nat) (O : Old Z n0 h0) (hn : n ≤ 1000) (hkk : kk ≤ 1000) :
    MetFree l (⟨"java/lang/Math", "max", "(II)I"⟩ : MethodName) (head1 (Jvm.Cond.code (⟨"java/lang/Math", "max", "(II)I"⟩ : MethodName) jdk_29_method_65_code 2 (some .int) :: ws) ({ frames := 0, cells := 0, slots := 0, locals := 0 } : Room)) (fun a U => a = #[(.int (Int32.ofNat n)), (.int (Int32.ofNat kk))] ∧ Z.Warmed39 U.vm ∧ U.heap = h0) (fun _ _ _ _ _ => True) (fun _ U o U' => ∃ v L, o = .returned v ∧ Qv (some (.int (Int32.ofNat (max n kk)))) h0 n0 v U'.heap L ∧ FrameEnd U o U' L ({ frames := 0, cells := 0, slots := 0, locals := 0 } : Room).cells ({ frames := 0, cells := 0, slots := 0, locals := 0 } : Room).slots) := by
  rcases Nat.lt_or_ge n kk with h | h
  · rw [Nat.max_eq_right (Nat.le_of_lt h)]; exact sb_max1 l Z a0 hw ws n kk h0 n0 O hn hkk h
  · rw [Nat.max_eq_left h]; exact sb_max0 l Z a0 hw ws n kk h0 n0 O hn hkk h
theorem d23_5 : decode jdk_29_method_69_code 5 = .ok (.iload_n 0, 1) := by decide +kernel
theorem d23_6 : decode jdk_29_method_69_code 6 = .ok (.goto 4, 3) := by decide +kernel
set_option maxRecDepth 65536 in
set_option maxHeartbeats 40000000 in
theorem sb_min1 (l : Launch) (Z : State) (a0 : Array Value) (hw : ∀ d ∈ tables_1, d.before a0 Z = true) (ws : List Jvm.Cond) (n kk : Nat) (h0 : Heap) (n0 : Nat) (O : Old Z n0 h0) (hn : n ≤ 1000) (hkk : kk ≤ 1000) (hlt : n ≤ kk) :
    MetFree l (⟨"java/lang/Math", "min", "(II)I"⟩ : MethodName) (head1 (Jvm.Cond.code (⟨"java/lang/Math", "min", "(II)I"⟩ : MethodName) jdk_29_method_69_code 2 (some .int) :: ws) ({ frames := 0, cells := 0, slots := 0, locals := 0 } : Room)) (fun a U => a = #[(.int (Int32.ofNat n)), (.int (Int32.ofNat kk))] ∧ Z.Warmed39 U.vm ∧ U.heap = h0) (fun _ _ _ _ _ => True) (fun _ U o U' => ∃ v L, o = .returned v ∧ Qv (some (.int (Int32.ofNat n))) h0 n0 v U'.heap L ∧ FrameEnd U o U' L ({ frames := 0, cells := 0, slots := 0, locals := 0 } : Room).cells ({ frames := 0, cells := 0, slots := 0, locals := 0 } : Room).slots) := by
  refine MetFree.of_bodySF pf_23 hisR ?_
  intro p e s m args below meth c s₁ Bd hml0 hP hK
  obtain ⟨rfl, hZ, hh⟩ := hP
  have hx := Bd.exec
  have hby := Bd.bytes
  have hml : c.maxLocals = 2 := hml0
  have hown : s.vm.findClass "java/lang/Math" = some m.cls := findClass_of_methodNamed Bd.named
  have hnm := (name_of_methodNamed Bd.named Bd.method).1
  have X0 : Stand p l e ({ frames := 0, cells := 0, slots := 0, locals := 0 } : Room) s m #[(.int (Int32.ofNat n)), (.int (Int32.ofNat kk))] below meth c s₁ [] 0 0 := Stand.of_body Bd
  have e0 : s₁.heap = h0 := by rw [← hh, Bd.state]; rfl
  have N0 := Fr.nil n0
  have pre0 : ∀ t, Steps p.tables e below (s₁.setTop (mkF m 0 #[.val (.int (Int32.ofNat n)), .val (.int (Int32.ofNat kk))] [])) t → Steps p.tables e below (s₁.setTop (entryFrame m #[(.int (Int32.ofNat n)), (.int (Int32.ofNat kk))] 2)) t := fun t k => castTop (ef_2_II m (Int32.ofNat n) (Int32.ofNat kk)) k
  obtain ⟨fs, hr, hrun, hended, hW, hsame⟩ := X0.leave (v := some (.int (Int32.ofNat n))) (fun h => by rw [Bd.returns] at h; cases h)
  refine ⟨_, _, pre0 _ ?_, hrun, hended, _, _, rfl, ?_, ⟨_, rfl⟩, hW, hsame.mono (by decide) (by decide)⟩
  · show Steps p.tables e below (s₁.setTop (mkF m 0 #[.val (.int (Int32.ofNat n)), .val (.int (Int32.ofNat kk))] [])) _
    refine XS.iloadN X0.here hx rfl (hb hby d23_0) rfl ?_
    show Steps p.tables e below (s₁.setTop (mkF m 1 #[.val (.int (Int32.ofNat n)), .val (.int (Int32.ofNat kk))] [(.int (Int32.ofNat n))])) _
    refine XS.iloadN X0.here hx rfl (hb hby d23_1) rfl ?_
    show Steps p.tables e below (s₁.setTop (mkF m 2 #[.val (.int (Int32.ofNat n)), .val (.int (Int32.ofNat kk))] [(.int (Int32.ofNat kk)), (.int (Int32.ofNat n))])) _
    refine XS.icmpNo X0.here hx rfl (hb hby d23_2) rfl (flt ((fun q => by have := (own_lt hkk hn).mp q; omega) : ¬ ((Int32.ofNat kk) < (Int32.ofNat n)))).2.2.1 ?_
    show Steps p.tables e below (s₁.setTop (mkF m 5 #[.val (.int (Int32.ofNat n)), .val (.int (Int32.ofNat kk))] [])) _
    refine XS.iloadN X0.here hx rfl (hb hby d23_5) rfl ?_
    show Steps p.tables e below (s₁.setTop (mkF m 6 #[.val (.int (Int32.ofNat n)), .val (.int (Int32.ofNat kk))] [(.int (Int32.ofNat n))])) _
    refine XS.goto X0.here hx rfl (pc0 := 6) (pc' := 10) rfl (hb hby d23_6) (by decide) (by decide) ?_
    show Steps p.tables e below (s₁.setTop (mkF m 10 #[.val (.int (Int32.ofNat n)), .val (.int (Int32.ofNat kk))] [(.int (Int32.ofNat n))])) _
    exact retI X0 hx Bd.returns (hb hby d23_10) hr
  · exact ⟨rfl, N0, e0⟩
theorem d20_0 : decode jdk_48_method_27_code 0 = .ok (.iload_n 0, 1) := by decide +kernel
theorem d20_1 : decode jdk_48_method_27_code 1 = .ok (.iload_n 1, 1) := by decide +kernel
theorem d20_2 : decode jdk_48_method_27_code 2 = .ok (.iload_n 2, 1) := by decide +kernel
theorem pd_28II29I : parseMethodDescriptor "(II)I" = some ⟨[.int, .int], some .int⟩ := by decide +kernel
theorem d20_3 : decode jdk_48_method_27_code 3 = .ok (.invokestatic 194, 3) := by decide +kernel
theorem d20_6 : decode jdk_48_method_27_code 6 = .ok (.iadd, 1) := by decide +kernel
theorem d20_7 : decode jdk_48_method_27_code 7 = .ok (.istore_n 3, 1) := by decide +kernel
theorem d20_8 : decode jdk_48_method_27_code 8 = .ok (.iconst 0, 1) := by decide +kernel
theorem d20_9 : decode jdk_48_method_27_code 9 = .ok (.iload_n 3, 1) := by decide +kernel
theorem d20_10 : decode jdk_48_method_27_code 10 = .ok (.if_icmp .ge 11, 3) := by decide +kernel
theorem d20_13 : decode jdk_48_method_27_code 13 = .ok (.iload_n 3, 1) := by decide +kernel
theorem d20_14 : decode jdk_48_method_27_code 14 = .ok (.ldc 200, 2) := by decide +kernel
theorem d20_16 : decode jdk_48_method_27_code 16 = .ok (.if_icmp .gt 5, 3) := by decide +kernel
theorem d20_19 : decode jdk_48_method_27_code 19 = .ok (.iload_n 3, 1) := by decide +kernel
theorem d20_20 : decode jdk_48_method_27_code 20 = .ok (.ireturn, 1) := by decide +kernel
theorem ef_4_III (m : MethodId) (x0 : Int32) (x1 : Int32) (x2 : Int32) : entryFrame m #[(.int x0), (.int x1), (.int x2)] 4 = mkF m 0 #[.val (.int x0), .val (.int x1), .val (.int x2), .unset] [] := by first | (simp [entryFrame, mkF, argsToLocals, Value.category]; done) | rfl
theorem pn_jdk_internal_util_ArraysSupport : plainName "jdk/internal/util/ArraysSupport" = true := by first | (simp [plainName, overriddenIn]; done) | decide +kernel
set_option maxRecDepth 65536 in
set_option maxHeartbeats 40000000 in
theorem sb_newLen (l : Launch) (Z : State) (a0 : Array Value) (hw : ∀ d ∈ tables_1, d.before a0 Z = true) (ws : List Jvm.Cond) (N gg pp : Nat) (h0 : Heap) (n0 : Nat) (O : Old Z n0 h0) (hbn : N + max gg pp ≤ 1000) (hp : 0 < N + max gg pp) :
    MetFree l (⟨"jdk/internal/util/ArraysSupport", "newLength", "(III)I"⟩ : MethodName) (head1 (Jvm.Cond.code (⟨"jdk/internal/util/ArraysSupport", "newLength", "(III)I"⟩ : MethodName) jdk_48_method_27_code 4 (some .int) :: ws) ({ frames := 1, cells := 0, slots := 0, locals := 14 } : Room)) (fun a U => a = #[(.int (Int32.ofNat N)), (.int (Int32.ofNat gg)), (.int (Int32.ofNat pp))] ∧ Z.Warmed39 U.vm ∧ U.heap = h0) (fun _ _ _ _ _ => True) (fun _ U o U' => ∃ v L, o = .returned v ∧ Qv (some (.int (Int32.ofNat (N + max gg pp)))) h0 n0 v U'.heap L ∧ FrameEnd U o U' L ({ frames := 1, cells := 0, slots := 0, locals := 14 } : Room).cells ({ frames := 1, cells := 0, slots := 0, locals := 14 } : Room).slots) := by
  refine MetFree.of_bodySF (plainFor_of_name pn_jdk_internal_util_ArraysSupport) hisR ?_
  intro p e s m args below meth c s₁ Bd hml0 hP hK
  obtain ⟨rfl, hZ, hh⟩ := hP
  have hx := Bd.exec
  have hby := Bd.bytes
  have hml : c.maxLocals = 4 := hml0
  have hown : s.vm.findClass "jdk/internal/util/ArraysSupport" = some m.cls := findClass_of_methodNamed Bd.named
  have hnm := (name_of_methodNamed Bd.named Bd.method).1
  have X0 : Stand p l e ({ frames := 1, cells := 0, slots := 0, locals := 14 } : Room) s m #[(.int (Int32.ofNat N)), (.int (Int32.ofNat gg)), (.int (Int32.ofNat pp))] below meth c s₁ [] 0 0 := Stand.of_body Bd
  have e0 : s₁.heap = h0 := by rw [← hh, Bd.state]; rfl
  have N0 := Fr.nil n0
  have pre0 : ∀ t, Steps p.tables e below (s₁.setTop (mkF m 0 #[.val (.int (Int32.ofNat N)), .val (.int (Int32.ofNat gg)), .val (.int (Int32.ofNat pp)), .unset] [])) t → Steps p.tables e below (s₁.setTop (entryFrame m #[(.int (Int32.ofNat N)), (.int (Int32.ofNat gg)), (.int (Int32.ofNat pp))] 4)) t := fun t k => castTop (ef_4_III m (Int32.ofNat N) (Int32.ofNat gg) (Int32.ofNat pp)) k
  obtain ⟨_, _, ⟨T1, L1, k1, n1⟩, -, X1, ⟨Lc1, hQ1, l1, y1, z1⟩, st1⟩ := Jvm.LawKit.callS X0 hx (y := (⟨"java/lang/Math", "max", "(II)I"⟩ : MethodName)) hown (mvT hZ (hw _ (List.mem_of_getElem? (i := 161) rfl))) (mvT hZ (hw _ (List.mem_of_getElem? (i := 162) rfl))) (mvT hZ (hw _ (List.mem_of_getElem? (i := 163) rfl))) (mvT hZ (hw _ (List.mem_of_getElem? (i := 164) rfl))) (by decide) (backOf (W := 1) (sb_max l Z a0 hw [] gg pp h0 n0 O (by omega) (by omega)) hZ (hw _ (List.mem_of_getElem? (i := 164) rfl)) (hw _ (List.mem_of_getElem? (i := 163) rfl)) (by decide) (by decide)) (g := (mkF m 3 #[.val (.int (Int32.ofNat N)), .val (.int (Int32.ofNat gg)), .val (.int (Int32.ofNat pp)), .unset] [(.int (Int32.ofNat pp)), (.int (Int32.ofNat gg)), (.int (Int32.ofNat N))])) rfl (by rw [hml]; rfl) (argsL := [(.int (Int32.ofNat gg)), (.int (Int32.ofNat pp))]) (rest := [(.int (Int32.ofNat N))]) (lenOf pd_28II29I rfl) rfl (by show 2 * 0 + _ ≤ _; exact Nat.le_of_eq rfl) (hb hby d20_3) (fun _ _ => ⟨rfl, e0, (by decide : 0 + 0 ≤ _), (by decide : 0 + 0 ≤ _)⟩)
  dsimp only [Pt.U, Pt.locs, Pt.cells, Pt.slots] at X1 l1 y1 z1 st1 hQ1
  rw [l1, y1, z1] at X1
  obtain ⟨rfl, N1q, e1⟩ := hQ1
  have N1 := Fr.app N0 N1q
  obtain ⟨fs, hr, hrun, hended, hW, hsame⟩ := X1.leave (v := some (.int (Int32.ofNat (N + max gg pp)))) (fun h => by rw [Bd.returns] at h; cases h)
  refine ⟨_, _, pre0 _ ?_, hrun, hended, _, _, rfl, ?_, ⟨_, rfl⟩, hW, hsame.mono (by decide) (by decide)⟩
  · show Steps p.tables e below (s₁.setTop (mkF m 0 #[.val (.int (Int32.ofNat N)), .val (.int (Int32.ofNat gg)), .val (.int (Int32.ofNat pp)), .unset] [])) _
    refine XS.iloadN X0.here hx rfl (hb hby d20_0) rfl ?_
    show Steps p.tables e below (s₁.setTop (mkF m 1 #[.val (.int (Int32.ofNat N)), .val (.int (Int32.ofNat gg)), .val (.int (Int32.ofNat pp)), .unset] [(.int (Int32.ofNat N))])) _
    refine XS.iloadN X0.here hx rfl (hb hby d20_1) rfl ?_
    show Steps p.tables e below (s₁.setTop (mkF m 2 #[.val (.int (Int32.ofNat N)), .val (.int (Int32.ofNat gg)), .val (.int (Int32.ofNat pp)), .unset] [(.int (Int32.ofNat gg)), (.int (Int32.ofNat N))])) _
    refine XS.iloadN X0.here hx rfl (hb hby d20_2) rfl ?_
    show Steps p.tables e below (s₁.setTop (mkF m 3 #[.val (.int (Int32.ofNat N)), .val (.int (Int32.ofNat gg)), .val (.int (Int32.ofNat pp)), .unset] [(.int (Int32.ofNat pp)), (.int (Int32.ofNat gg)), (.int (Int32.ofNat N))])) _
    refine st1 _ ?_
    show Steps p.tables e below (T1.setTop (mkF m 6 #[.val (.int (Int32.ofNat N)), .val (.int (Int32.ofNat gg)), .val (.int (Int32.ofNat pp)), .unset] [(.int (Int32.ofNat (max gg pp))), (.int (Int32.ofNat N))])) _
    refine XS.iadd X1.here hx rfl (hb hby d20_6) rfl ?_
    show Steps p.tables e below (T1.setTop (mkF m 7 #[.val (.int (Int32.ofNat N)), .val (.int (Int32.ofNat gg)), .val (.int (Int32.ofNat pp)), .unset] [(.int ((Int32.ofNat N) + (Int32.ofNat (max gg pp))))])) _
    rw [own_add]
    show Steps p.tables e below (T1.setTop (mkF m 7 #[.val (.int (Int32.ofNat N)), .val (.int (Int32.ofNat gg)), .val (.int (Int32.ofNat pp)), .unset] [(.int (Int32.ofNat (N + max gg pp)))])) _
    refine XS.istoreN X1.here hx rfl (hb hby d20_7) rfl (l' := #[.val (.int (Int32.ofNat N)), .val (.int (Int32.ofNat gg)), .val (.int (Int32.ofNat pp)), .val (.int (Int32.ofNat (N + max gg pp)))]) rfl ?_
    show Steps p.tables e below (T1.setTop (mkF m 8 #[.val (.int (Int32.ofNat N)), .val (.int (Int32.ofNat gg)), .val (.int (Int32.ofNat pp)), .val (.int (Int32.ofNat (N + max gg pp)))] [])) _
    refine XS.iconst X1.here hx rfl (hb hby d20_8) ?_
    show Steps p.tables e below (T1.setTop (mkF m 9 #[.val (.int (Int32.ofNat N)), .val (.int (Int32.ofNat gg)), .val (.int (Int32.ofNat pp)), .val (.int (Int32.ofNat (N + max gg pp)))] [(.int (0 : Int32))])) _
    refine XS.iloadN X1.here hx rfl (hb hby d20_9) rfl ?_
    show Steps p.tables e below (T1.setTop (mkF m 10 #[.val (.int (Int32.ofNat N)), .val (.int (Int32.ofNat gg)), .val (.int (Int32.ofNat pp)), .val (.int (Int32.ofNat (N + max gg pp)))] [(.int (Int32.ofNat (N + max gg pp))), (.int (0 : Int32))])) _
    refine XS.icmpNo X1.here hx rfl (hb hby d20_10) rfl (tlt ((own_pos hp hbn) : (0 : Int32) < (Int32.ofNat (N + max gg pp)))).2.1 ?_
    show Steps p.tables e below (T1.setTop (mkF m 13 #[.val (.int (Int32.ofNat N)), .val (.int (Int32.ofNat gg)), .val (.int (Int32.ofNat pp)), .val (.int (Int32.ofNat (N + max gg pp)))] [])) _
    refine XS.iloadN X1.here hx rfl (hb hby d20_13) rfl ?_
    show Steps p.tables e below (T1.setTop (mkF m 14 #[.val (.int (Int32.ofNat N)), .val (.int (Int32.ofNat gg)), .val (.int (Int32.ofNat pp)), .val (.int (Int32.ofNat (N + max gg pp)))] [(.int (Int32.ofNat (N + max gg pp)))])) _
    refine X1.ldcInt hx hown (mvT hZ (hw _ (List.mem_of_getElem? (i := 165) rfl))) (g := (mkF m 14 #[.val (.int (Int32.ofNat N)), .val (.int (Int32.ofNat gg)), .val (.int (Int32.ofNat pp)), .val (.int (Int32.ofNat (N + max gg pp)))] [(.int (Int32.ofNat (N + max gg pp)))])) rfl (hb hby d20_14) _ ?_
    show Steps p.tables e below (T1.setTop (mkF m 16 #[.val (.int (Int32.ofNat N)), .val (.int (Int32.ofNat gg)), .val (.int (Int32.ofNat pp)), .val (.int (Int32.ofNat (N + max gg pp)))] [(.int (2147483639 : Int32)), (.int (Int32.ofNat (N + max gg pp)))])) _
    refine XS.icmpNo X1.here hx rfl (hb hby d20_16) rfl (flt ((own_big hbn) : ¬ ((2147483639 : Int32) < (Int32.ofNat (N + max gg pp))))).2.2.1 ?_
    show Steps p.tables e below (T1.setTop (mkF m 19 #[.val (.int (Int32.ofNat N)), .val (.int (Int32.ofNat gg)), .val (.int (Int32.ofNat pp)), .val (.int (Int32.ofNat (N + max gg pp)))] [])) _
    refine XS.iloadN X1.here hx rfl (hb hby d20_19) rfl ?_
    show Steps p.tables e below (T1.setTop (mkF m 20 #[.val (.int (Int32.ofNat N)), .val (.int (Int32.ofNat gg)), .val (.int (Int32.ofNat pp)), .val (.int (Int32.ofNat (N + max gg pp)))] [(.int (Int32.ofNat (N + max gg pp)))])) _
    exact retI X1 hx Bd.returns (hb hby d20_20) hr
  · exact ⟨rfl, N1, e1⟩
theorem d19_0 : decode jdk_68_method_10_code 0 = .ok (.aload_n 0, 1) := by decide +kernel
theorem d19_1 : decode jdk_68_method_10_code 1 = .ok (.getfield 15, 3) := by decide +kernel
theorem d19_4 : decode jdk_68_method_10_code 4 = .ok (.arraylength, 1) := by decide +kernel
theorem d19_5 : decode jdk_68_method_10_code 5 = .ok (.istore_n 2, 1) := by decide +kernel
theorem d19_6 : decode jdk_68_method_10_code 6 = .ok (.iload_n 1, 1) := by decide +kernel
theorem d19_7 : decode jdk_68_method_10_code 7 = .ok (.aload_n 0, 1) := by decide +kernel
theorem d19_8 : decode jdk_68_method_10_code 8 = .ok (.getfield 22, 3) := by decide +kernel
theorem d19_11 : decode jdk_68_method_10_code 11 = .ok (.ishl, 1) := by decide +kernel
theorem d19_12 : decode jdk_68_method_10_code 12 = .ok (.istore_n 3, 1) := by decide +kernel
theorem d19_13 : decode jdk_68_method_10_code 13 = .ok (.iload_n 3, 1) := by decide +kernel
theorem d19_14 : decode jdk_68_method_10_code 14 = .ok (.iload_n 2, 1) := by decide +kernel
theorem d19_15 : decode jdk_68_method_10_code 15 = .ok (.isub, 1) := by decide +kernel
theorem d19_16 : decode jdk_68_method_10_code 16 = .ok (.istore 4, 2) := by decide +kernel
theorem d19_18 : decode jdk_68_method_10_code 18 = .ok (.iload_n 2, 1) := by decide +kernel
theorem d19_19 : decode jdk_68_method_10_code 19 = .ok (.iload 4, 2) := by decide +kernel
theorem d19_21 : decode jdk_68_method_10_code 21 = .ok (.iload_n 2, 1) := by decide +kernel
theorem d19_22 : decode jdk_68_method_10_code 22 = .ok (.iconst 2, 1) := by decide +kernel
theorem d19_23 : decode jdk_68_method_10_code 23 = .ok (.aload_n 0, 1) := by decide +kernel
theorem d19_24 : decode jdk_68_method_10_code 24 = .ok (.getfield 22, 3) := by decide +kernel
theorem d19_27 : decode jdk_68_method_10_code 27 = .ok (.ishl, 1) := by decide +kernel
theorem d19_28 : decode jdk_68_method_10_code 28 = .ok (.iadd, 1) := by decide +kernel
theorem pd_28III29I : parseMethodDescriptor "(III)I" = some ⟨[.int, .int, .int], some .int⟩ := by decide +kernel
theorem d19_29 : decode jdk_68_method_10_code 29 = .ok (.invokestatic 114, 3) := by decide +kernel
theorem d19_32 : decode jdk_68_method_10_code 32 = .ok (.istore 5, 2) := by decide +kernel
theorem d19_34 : decode jdk_68_method_10_code 34 = .ok (.iload 5, 2) := by decide +kernel
theorem d19_36 : decode jdk_68_method_10_code 36 = .ok (.ldc 39, 2) := by decide +kernel
theorem d19_38 : decode jdk_68_method_10_code 38 = .ok (.if_icmp .ne 13, 3) := by decide +kernel
theorem d19_51 : decode jdk_68_method_10_code 51 = .ok (.iload 5, 2) := by decide +kernel
theorem d19_53 : decode jdk_68_method_10_code 53 = .ok (.aload_n 0, 1) := by decide +kernel
theorem d19_54 : decode jdk_68_method_10_code 54 = .ok (.getfield 22, 3) := by decide +kernel
theorem d19_57 : decode jdk_68_method_10_code 57 = .ok (.ishr, 1) := by decide +kernel
theorem d19_58 : decode jdk_68_method_10_code 58 = .ok (.ireturn, 1) := by decide +kernel
theorem ef_6_RI (m : MethodId) (x0 : Addr) (x1 : Int32) : entryFrame m #[(.ref x0), (.int x1)] 6 = mkF m 0 #[.val (.ref x0), .val (.int x1), .unset, .unset, .unset, .unset] [] := by first | (simp [entryFrame, mkF, argsToLocals, Value.category]; done) | rfl
set_option maxRecDepth 65536 in
set_option maxHeartbeats 40000000 in
theorem sb_newCap (l : Launch) (Z : State) (a0 : Array Value) (hw : ∀ d ∈ tables_1, d.before a0 Z = true) (ws : List Jvm.Cond) (bb da : Addr) (kd : ClassId) (N : Nat) (bs : List Int32) (mn : Nat) (h0 : Heap) (n0 : Nat) (O : Old Z n0 h0) (hB : Bld Z h0 bb da kd N bs) (hgt : N < mn) (hcap : grow N mn ≤ 200) :
    MetFree l (⟨"java/lang/AbstractStringBuilder", "newCapacity", "(I)I"⟩ : MethodName) (head1 (Jvm.Cond.code (⟨"java/lang/AbstractStringBuilder", "newCapacity", "(I)I"⟩ : MethodName) jdk_68_method_10_code 6 (some .int) :: ws) ({ frames := 2, cells := 0, slots := 0, locals := 29 } : Room)) (fun a U => a = #[(.ref bb), (.int (Int32.ofNat mn))] ∧ Z.Warmed39 U.vm ∧ U.heap = h0) (fun _ _ _ _ _ => True) (fun _ U o U' => ∃ v L, o = .returned v ∧ Qv (some (.int (Int32.ofNat (grow N mn)))) h0 n0 v U'.heap L ∧ FrameEnd U o U' L ({ frames := 2, cells := 0, slots := 0, locals := 29 } : Room).cells ({ frames := 2, cells := 0, slots := 0, locals := 29 } : Room).slots) := by
  refine MetFree.of_bodySF (plainFor_of_name pn_java_lang_AbstractStringBuilder) hisR ?_
  intro p e s m args below meth c s₁ Bd hml0 hP hK
  obtain ⟨rfl, hZ, hh⟩ := hP
  have hx := Bd.exec
  have hby := Bd.bytes
  have hml : c.maxLocals = 6 := hml0
  have hown : s.vm.findClass "java/lang/AbstractStringBuilder" = some m.cls := findClass_of_methodNamed Bd.named
  have hnm := (name_of_methodNamed Bd.named Bd.method).1
  have X0 : Stand p l e ({ frames := 2, cells := 0, slots := 0, locals := 29 } : Room) s m #[(.ref bb), (.int (Int32.ofNat mn))] below meth c s₁ [] 0 0 := Stand.of_body Bd
  have e0 : s₁.heap = h0 := by rw [← hh, Bd.state]; rfl
  have N0 := Fr.nil n0
  have pre0 : ∀ t, Steps p.tables e below (s₁.setTop (mkF m 0 #[.val (.ref bb), .val (.int (Int32.ofNat mn)), .unset, .unset, .unset, .unset] [])) t → Steps p.tables e below (s₁.setTop (entryFrame m #[(.ref bb), (.int (Int32.ofNat mn))] 6)) t := fun t k => castTop (ef_6_RI m bb (Int32.ofNat mn)) k
  have hc' : N + max (mn - N) (N + 2) ≤ 200 := by rw [own_growE hgt]; exact hcap
  obtain ⟨Eb, Vb, Cb, Nb, Ab⟩ := id hB
  obtain ⟨T1, X1, e1, st1⟩ := getF X0 hx hZ hown (host := "") (Or.inl (hw _ (List.mem_of_getElem? (i := 74) rfl))) Via.refl e0 Vb (g := (mkF m 1 #[.val (.ref bb), .val (.int (Int32.ofNat mn)), .unset, .unset, .unset, .unset] [(.ref bb)])) rfl rfl (hb hby d19_1)
  obtain ⟨cw2, A2, q2, s2, n2, H2, G2⟩ := id Ab
  obtain ⟨T3, X3, e3, st3⟩ := getF X1 hx hZ hown (host := "") (Or.inl (hw _ (List.mem_of_getElem? (i := 76) rfl))) Via.refl e1 Cb (g := (mkF m 8 #[.val (.ref bb), .val (.int (Int32.ofNat mn)), .val (.int (Int32.ofNat N)), .unset, .unset, .unset] [(.ref bb), (.int (Int32.ofNat mn))])) rfl rfl (hb hby d19_8)
  obtain ⟨T4, X4, e4, st4⟩ := getF X3 hx hZ hown (host := "") (Or.inl (hw _ (List.mem_of_getElem? (i := 76) rfl))) Via.refl e3 Cb (g := (mkF m 24 #[.val (.ref bb), .val (.int (Int32.ofNat mn)), .val (.int (Int32.ofNat N)), .val (.int (Int32.ofNat mn)), .val (.int (Int32.ofNat (mn - N))), .unset] [(.ref bb), (.int (2 : Int32)), (.int (Int32.ofNat N)), (.int (Int32.ofNat (mn - N))), (.int (Int32.ofNat N))])) rfl rfl (hb hby d19_24)
  obtain ⟨_, _, ⟨T5, L5, k5, n5⟩, -, X5, ⟨Lc5, hQ5, l5, y5, z5⟩, st5⟩ := Jvm.LawKit.callS X4 hx (y := (⟨"jdk/internal/util/ArraysSupport", "newLength", "(III)I"⟩ : MethodName)) hown (mvT hZ (hw _ (List.mem_of_getElem? (i := 157) rfl))) (mvT hZ (hw _ (List.mem_of_getElem? (i := 158) rfl))) (mvT hZ (hw _ (List.mem_of_getElem? (i := 159) rfl))) (mvT hZ (hw _ (List.mem_of_getElem? (i := 160) rfl))) (by decide) (backOf (W := 0) (sb_newLen l Z a0 hw [] N (mn - N) (N + 2) h0 n0 O (by omega) (by omega)) hZ (hw _ (List.mem_of_getElem? (i := 160) rfl)) (hw _ (List.mem_of_getElem? (i := 159) rfl)) (by decide) (by decide)) (g := (mkF m 29 #[.val (.ref bb), .val (.int (Int32.ofNat mn)), .val (.int (Int32.ofNat N)), .val (.int (Int32.ofNat mn)), .val (.int (Int32.ofNat (mn - N))), .unset] [(.int (Int32.ofNat (N + 2))), (.int (Int32.ofNat (mn - N))), (.int (Int32.ofNat N))])) rfl (by rw [hml]; rfl) (argsL := [(.int (Int32.ofNat N)), (.int (Int32.ofNat (mn - N))), (.int (Int32.ofNat (N + 2)))]) (rest := []) (lenOf pd_28III29I rfl) rfl (by show 2 * 0 + _ ≤ _; exact Nat.le_of_eq rfl) (hb hby d19_29) (fun _ _ => ⟨rfl, e4, (by decide : 0 + 0 ≤ _), (by decide : 0 + 0 ≤ _)⟩)
  dsimp only [Pt.U, Pt.locs, Pt.cells, Pt.slots] at X5 l5 y5 z5 st5 hQ5
  rw [l5, y5, z5] at X5
  obtain ⟨rfl, N5q, e5⟩ := hQ5
  have N5 := Fr.app N0 N5q
  obtain ⟨T6, X6, e6, st6⟩ := getF X5 hx hZ hown (host := "") (Or.inl (hw _ (List.mem_of_getElem? (i := 76) rfl))) Via.refl e5 Cb (g := (mkF m 54 #[.val (.ref bb), .val (.int (Int32.ofNat mn)), .val (.int (Int32.ofNat N)), .val (.int (Int32.ofNat mn)), .val (.int (Int32.ofNat (mn - N))), .val (.int (Int32.ofNat (grow N mn)))] [(.ref bb), (.int (Int32.ofNat (grow N mn)))])) rfl rfl (hb hby d19_54)
  obtain ⟨fs, hr, hrun, hended, hW, hsame⟩ := X6.leave (v := some (.int (Int32.ofNat (grow N mn)))) (fun h => by rw [Bd.returns] at h; cases h)
  refine ⟨_, _, pre0 _ ?_, hrun, hended, _, _, rfl, ?_, ⟨_, rfl⟩, hW, hsame.mono (by decide) (by decide)⟩
  · show Steps p.tables e below (s₁.setTop (mkF m 0 #[.val (.ref bb), .val (.int (Int32.ofNat mn)), .unset, .unset, .unset, .unset] [])) _
    refine XS.aloadN X0.here hx rfl (hb hby d19_0) rfl rfl ?_
    show Steps p.tables e below (s₁.setTop (mkF m 1 #[.val (.ref bb), .val (.int (Int32.ofNat mn)), .unset, .unset, .unset, .unset] [(.ref bb)])) _
    refine st1 _ ?_
    show Steps p.tables e below (T1.setTop (mkF m 4 #[.val (.ref bb), .val (.int (Int32.ofNat mn)), .unset, .unset, .unset, .unset] [(.ref da)])) _
    refine X1.arraylength hx (by rw [e1]; exact A2.1) (State.isArrayOf_alike hZ.alike A2.2.1) (g := (mkF m 4 #[.val (.ref bb), .val (.int (Int32.ofNat mn)), .unset, .unset, .unset, .unset] [(.ref da)])) rfl rfl (hb hby d19_4) _ ?_
    rw [len_of s2 n2]
    show Steps p.tables e below (T1.setTop (mkF m 5 #[.val (.ref bb), .val (.int (Int32.ofNat mn)), .unset, .unset, .unset, .unset] [(.int (Int32.ofNat N))])) _
    refine XS.istoreN X1.here hx rfl (hb hby d19_5) rfl (l' := #[.val (.ref bb), .val (.int (Int32.ofNat mn)), .val (.int (Int32.ofNat N)), .unset, .unset, .unset]) rfl ?_
    show Steps p.tables e below (T1.setTop (mkF m 6 #[.val (.ref bb), .val (.int (Int32.ofNat mn)), .val (.int (Int32.ofNat N)), .unset, .unset, .unset] [])) _
    refine XS.iloadN X1.here hx rfl (hb hby d19_6) rfl ?_
    show Steps p.tables e below (T1.setTop (mkF m 7 #[.val (.ref bb), .val (.int (Int32.ofNat mn)), .val (.int (Int32.ofNat N)), .unset, .unset, .unset] [(.int (Int32.ofNat mn))])) _
    refine XS.aloadN X1.here hx rfl (hb hby d19_7) rfl rfl ?_
    show Steps p.tables e below (T1.setTop (mkF m 8 #[.val (.ref bb), .val (.int (Int32.ofNat mn)), .val (.int (Int32.ofNat N)), .unset, .unset, .unset] [(.ref bb), (.int (Int32.ofNat mn))])) _
    refine st3 _ ?_
    show Steps p.tables e below (T3.setTop (mkF m 11 #[.val (.ref bb), .val (.int (Int32.ofNat mn)), .val (.int (Int32.ofNat N)), .unset, .unset, .unset] [(.int (0 : Int32)), (.int (Int32.ofNat mn))])) _
    refine XS.ishl X3.here hx rfl (hb hby d19_11) rfl ?_
    show Steps p.tables e below (T3.setTop (mkF m 12 #[.val (.ref bb), .val (.int (Int32.ofNat mn)), .val (.int (Int32.ofNat N)), .unset, .unset, .unset] [(.int ((Int32.ofNat mn) <<< ((0 : Int32) &&& 31)))])) _
    rw [own_shl0]
    show Steps p.tables e below (T3.setTop (mkF m 12 #[.val (.ref bb), .val (.int (Int32.ofNat mn)), .val (.int (Int32.ofNat N)), .unset, .unset, .unset] [(.int (Int32.ofNat mn))])) _
    refine XS.istoreN X3.here hx rfl (hb hby d19_12) rfl (l' := #[.val (.ref bb), .val (.int (Int32.ofNat mn)), .val (.int (Int32.ofNat N)), .val (.int (Int32.ofNat mn)), .unset, .unset]) rfl ?_
    show Steps p.tables e below (T3.setTop (mkF m 13 #[.val (.ref bb), .val (.int (Int32.ofNat mn)), .val (.int (Int32.ofNat N)), .val (.int (Int32.ofNat mn)), .unset, .unset] [])) _
    refine XS.iloadN X3.here hx rfl (hb hby d19_13) rfl ?_
    show Steps p.tables e below (T3.setTop (mkF m 14 #[.val (.ref bb), .val (.int (Int32.ofNat mn)), .val (.int (Int32.ofNat N)), .val (.int (Int32.ofNat mn)), .unset, .unset] [(.int (Int32.ofNat mn))])) _
    refine XS.iloadN X3.here hx rfl (hb hby d19_14) rfl ?_
    show Steps p.tables e below (T3.setTop (mkF m 15 #[.val (.ref bb), .val (.int (Int32.ofNat mn)), .val (.int (Int32.ofNat N)), .val (.int (Int32.ofNat mn)), .unset, .unset] [(.int (Int32.ofNat N)), (.int (Int32.ofNat mn))])) _
    refine XS.isub X3.here hx rfl (hb hby d19_15) rfl ?_
    show Steps p.tables e below (T3.setTop (mkF m 16 #[.val (.ref bb), .val (.int (Int32.ofNat mn)), .val (.int (Int32.ofNat N)), .val (.int (Int32.ofNat mn)), .unset, .unset] [(.int ((Int32.ofNat mn) - (Int32.ofNat N)))])) _
    rw [own_sub (by omega)]
    show Steps p.tables e below (T3.setTop (mkF m 16 #[.val (.ref bb), .val (.int (Int32.ofNat mn)), .val (.int (Int32.ofNat N)), .val (.int (Int32.ofNat mn)), .unset, .unset] [(.int (Int32.ofNat (mn - N)))])) _
    refine XS.istore X3.here hx rfl (hb hby d19_16) rfl (l' := #[.val (.ref bb), .val (.int (Int32.ofNat mn)), .val (.int (Int32.ofNat N)), .val (.int (Int32.ofNat mn)), .val (.int (Int32.ofNat (mn - N))), .unset]) rfl ?_
    show Steps p.tables e below (T3.setTop (mkF m 18 #[.val (.ref bb), .val (.int (Int32.ofNat mn)), .val (.int (Int32.ofNat N)), .val (.int (Int32.ofNat mn)), .val (.int (Int32.ofNat (mn - N))), .unset] [])) _
    refine XS.iloadN X3.here hx rfl (hb hby d19_18) rfl ?_
    show Steps p.tables e below (T3.setTop (mkF m 19 #[.val (.ref bb), .val (.int (Int32.ofNat mn)), .val (.int (Int32.ofNat N)), .val (.int (Int32.ofNat mn)), .val (.int (Int32.ofNat (mn - N))), .unset] [(.int (Int32.ofNat N))])) _
    refine XS.iload X3.here hx rfl (hb hby d19_19) rfl ?_
    show Steps p.tables e below (T3.setTop (mkF m 21 #[.val (.ref bb), .val (.int (Int32.ofNat mn)), .val (.int (Int32.ofNat N)), .val (.int (Int32.ofNat mn)), .val (.int (Int32.ofNat (mn - N))), .unset] [(.int (Int32.ofNat (mn - N))), (.int (Int32.ofNat N))])) _
    refine XS.iloadN X3.here hx rfl (hb hby d19_21) rfl ?_
    show Steps p.tables e below (T3.setTop (mkF m 22 #[.val (.ref bb), .val (.int (Int32.ofNat mn)), .val (.int (Int32.ofNat N)), .val (.int (Int32.ofNat mn)), .val (.int (Int32.ofNat (mn - N))), .unset] [(.int (Int32.ofNat N)), (.int (Int32.ofNat (mn - N))), (.int (Int32.ofNat N))])) _
    refine XS.iconst X3.here hx rfl (hb hby d19_22) ?_
    show Steps p.tables e below (T3.setTop (mkF m 23 #[.val (.ref bb), .val (.int (Int32.ofNat mn)), .val (.int (Int32.ofNat N)), .val (.int (Int32.ofNat mn)), .val (.int (Int32.ofNat (mn - N))), .unset] [(.int (2 : Int32)), (.int (Int32.ofNat N)), (.int (Int32.ofNat (mn - N))), (.int (Int32.ofNat N))])) _
    refine XS.aloadN X3.here hx rfl (hb hby d19_23) rfl rfl ?_
    show Steps p.tables e below (T3.setTop (mkF m 24 #[.val (.ref bb), .val (.int (Int32.ofNat mn)), .val (.int (Int32.ofNat N)), .val (.int (Int32.ofNat mn)), .val (.int (Int32.ofNat (mn - N))), .unset] [(.ref bb), (.int (2 : Int32)), (.int (Int32.ofNat N)), (.int (Int32.ofNat (mn - N))), (.int (Int32.ofNat N))])) _
    refine st4 _ ?_
    show Steps p.tables e below (T4.setTop (mkF m 27 #[.val (.ref bb), .val (.int (Int32.ofNat mn)), .val (.int (Int32.ofNat N)), .val (.int (Int32.ofNat mn)), .val (.int (Int32.ofNat (mn - N))), .unset] [(.int (0 : Int32)), (.int (2 : Int32)), (.int (Int32.ofNat N)), (.int (Int32.ofNat (mn - N))), (.int (Int32.ofNat N))])) _
    refine XS.ishl X4.here hx rfl (hb hby d19_27) rfl ?_
    show Steps p.tables e below (T4.setTop (mkF m 28 #[.val (.ref bb), .val (.int (Int32.ofNat mn)), .val (.int (Int32.ofNat N)), .val (.int (Int32.ofNat mn)), .val (.int (Int32.ofNat (mn - N))), .unset] [(.int ((2 : Int32) <<< ((0 : Int32) &&& 31))), (.int (Int32.ofNat N)), (.int (Int32.ofNat (mn - N))), (.int (Int32.ofNat N))])) _
    rw [own_shl0]
    show Steps p.tables e below (T4.setTop (mkF m 28 #[.val (.ref bb), .val (.int (Int32.ofNat mn)), .val (.int (Int32.ofNat N)), .val (.int (Int32.ofNat mn)), .val (.int (Int32.ofNat (mn - N))), .unset] [(.int (2 : Int32)), (.int (Int32.ofNat N)), (.int (Int32.ofNat (mn - N))), (.int (Int32.ofNat N))])) _
    refine XS.iadd X4.here hx rfl (hb hby d19_28) rfl ?_
    show Steps p.tables e below (T4.setTop (mkF m 29 #[.val (.ref bb), .val (.int (Int32.ofNat mn)), .val (.int (Int32.ofNat N)), .val (.int (Int32.ofNat mn)), .val (.int (Int32.ofNat (mn - N))), .unset] [(.int ((Int32.ofNat N) + (2 : Int32))), (.int (Int32.ofNat (mn - N))), (.int (Int32.ofNat N))])) _
    rw [own_add2]
    show Steps p.tables e below (T4.setTop (mkF m 29 #[.val (.ref bb), .val (.int (Int32.ofNat mn)), .val (.int (Int32.ofNat N)), .val (.int (Int32.ofNat mn)), .val (.int (Int32.ofNat (mn - N))), .unset] [(.int (Int32.ofNat (N + 2))), (.int (Int32.ofNat (mn - N))), (.int (Int32.ofNat N))])) _
    refine st5 _ ?_
    show Steps p.tables e below (T5.setTop (mkF m 32 #[.val (.ref bb), .val (.int (Int32.ofNat mn)), .val (.int (Int32.ofNat N)), .val (.int (Int32.ofNat mn)), .val (.int (Int32.ofNat (mn - N))), .unset] [(.int (Int32.ofNat (N + max (mn - N) (N + 2))))])) _
    rw [own_growE hgt]
    show Steps p.tables e below (T5.setTop (mkF m 32 #[.val (.ref bb), .val (.int (Int32.ofNat mn)), .val (.int (Int32.ofNat N)), .val (.int (Int32.ofNat mn)), .val (.int (Int32.ofNat (mn - N))), .unset] [(.int (Int32.ofNat (grow N mn)))])) _
    refine XS.istore X5.here hx rfl (hb hby d19_32) rfl (l' := #[.val (.ref bb), .val (.int (Int32.ofNat mn)), .val (.int (Int32.ofNat N)), .val (.int (Int32.ofNat mn)), .val (.int (Int32.ofNat (mn - N))), .val (.int (Int32.ofNat (grow N mn)))]) rfl ?_
    show Steps p.tables e below (T5.setTop (mkF m 34 #[.val (.ref bb), .val (.int (Int32.ofNat mn)), .val (.int (Int32.ofNat N)), .val (.int (Int32.ofNat mn)), .val (.int (Int32.ofNat (mn - N))), .val (.int (Int32.ofNat (grow N mn)))] [])) _
    refine XS.iload X5.here hx rfl (hb hby d19_34) rfl ?_
    show Steps p.tables e below (T5.setTop (mkF m 36 #[.val (.ref bb), .val (.int (Int32.ofNat mn)), .val (.int (Int32.ofNat N)), .val (.int (Int32.ofNat mn)), .val (.int (Int32.ofNat (mn - N))), .val (.int (Int32.ofNat (grow N mn)))] [(.int (Int32.ofNat (grow N mn)))])) _
    refine X5.ldcInt hx hown (mvT hZ (hw _ (List.mem_of_getElem? (i := 166) rfl))) (g := (mkF m 36 #[.val (.ref bb), .val (.int (Int32.ofNat mn)), .val (.int (Int32.ofNat N)), .val (.int (Int32.ofNat mn)), .val (.int (Int32.ofNat (mn - N))), .val (.int (Int32.ofNat (grow N mn)))] [(.int (Int32.ofNat (grow N mn)))])) rfl (hb hby d19_36) _ ?_
    show Steps p.tables e below (T5.setTop (mkF m 38 #[.val (.ref bb), .val (.int (Int32.ofNat mn)), .val (.int (Int32.ofNat N)), .val (.int (Int32.ofNat mn)), .val (.int (Int32.ofNat (mn - N))), .val (.int (Int32.ofNat (grow N mn)))] [(.int (2147483647 : Int32)), (.int (Int32.ofNat (grow N mn)))])) _
    refine XS.icmpYes X5.here hx rfl (pc0 := 38) (pc' := 51) rfl (hb hby d19_38) rfl (feq ((own_nmax (by omega)) : ¬ ((Int32.ofNat (grow N mn)) = (2147483647 : Int32)))).2 (by decide) (by decide) ?_
    show Steps p.tables e below (T5.setTop (mkF m 51 #[.val (.ref bb), .val (.int (Int32.ofNat mn)), .val (.int (Int32.ofNat N)), .val (.int (Int32.ofNat mn)), .val (.int (Int32.ofNat (mn - N))), .val (.int (Int32.ofNat (grow N mn)))] [])) _
    refine XS.iload X5.here hx rfl (hb hby d19_51) rfl ?_
    show Steps p.tables e below (T5.setTop (mkF m 53 #[.val (.ref bb), .val (.int (Int32.ofNat mn)), .val (.int (Int32.ofNat N)), .val (.int (Int32.ofNat mn)), .val (.int (Int32.ofNat (mn - N))), .val (.int (Int32.ofNat (grow N mn)))] [(.int (Int32.ofNat (grow N mn)))])) _
    refine XS.aloadN X5.here hx rfl (hb hby d19_53) rfl rfl ?_
    show Steps p.tables e below (T5.setTop (mkF m 54 #[.val (.ref bb), .val (.int (Int32.ofNat mn)), .val (.int (Int32.ofNat N)), .val (.int (Int32.ofNat mn)), .val (.int (Int32.ofNat (mn - N))), .val (.int (Int32.ofNat (grow N mn)))] [(.ref bb), (.int (Int32.ofNat (grow N mn)))])) _
    refine st6 _ ?_
    show Steps p.tables e below (T6.setTop (mkF m 57 #[.val (.ref bb), .val (.int (Int32.ofNat mn)), .val (.int (Int32.ofNat N)), .val (.int (Int32.ofNat mn)), .val (.int (Int32.ofNat (mn - N))), .val (.int (Int32.ofNat (grow N mn)))] [(.int (0 : Int32)), (.int (Int32.ofNat (grow N mn)))])) _
    refine XS.ishr X6.here hx rfl (hb hby d19_57) rfl ?_
    show Steps p.tables e below (T6.setTop (mkF m 58 #[.val (.ref bb), .val (.int (Int32.ofNat mn)), .val (.int (Int32.ofNat N)), .val (.int (Int32.ofNat mn)), .val (.int (Int32.ofNat (mn - N))), .val (.int (Int32.ofNat (grow N mn)))] [(.int ((Int32.ofNat (grow N mn)) >>> ((0 : Int32) &&& 31)))])) _
    rw [own_shr0]
    show Steps p.tables e below (T6.setTop (mkF m 58 #[.val (.ref bb), .val (.int (Int32.ofNat mn)), .val (.int (Int32.ofNat N)), .val (.int (Int32.ofNat mn)), .val (.int (Int32.ofNat (mn - N))), .val (.int (Int32.ofNat (grow N mn)))] [(.int (Int32.ofNat (grow N mn)))])) _
    exact retI X6 hx Bd.returns (hb hby d19_58) hr
  · exact ⟨rfl, N5, e6⟩
theorem d22_0 : decode jdk_65_method_121_code 0 = .ok (.iload_n 1, 1) := by decide +kernel
theorem d22_1 : decode jdk_65_method_121_code 1 = .ok (.aload_n 0, 1) := by decide +kernel
theorem d22_2 : decode jdk_65_method_121_code 2 = .ok (.arraylength, 1) := by decide +kernel
theorem d22_3 : decode jdk_65_method_121_code 3 = .ok (.if_icmp .ne 11, 3) := by decide +kernel
theorem d22_14 : decode jdk_65_method_121_code 14 = .ok (.iload_n 1, 1) := by decide +kernel
theorem d22_15 : decode jdk_65_method_121_code 15 = .ok (.newarray .byte, 2) := by decide +kernel
theorem d22_17 : decode jdk_65_method_121_code 17 = .ok (.astore_n 2, 1) := by decide +kernel
theorem d22_18 : decode jdk_65_method_121_code 18 = .ok (.aload_n 0, 1) := by decide +kernel
theorem d22_19 : decode jdk_65_method_121_code 19 = .ok (.iconst 0, 1) := by decide +kernel
theorem d22_20 : decode jdk_65_method_121_code 20 = .ok (.aload_n 2, 1) := by decide +kernel
theorem d22_21 : decode jdk_65_method_121_code 21 = .ok (.iconst 0, 1) := by decide +kernel
theorem d22_22 : decode jdk_65_method_121_code 22 = .ok (.aload_n 0, 1) := by decide +kernel
theorem d22_23 : decode jdk_65_method_121_code 23 = .ok (.arraylength, 1) := by decide +kernel
theorem d22_24 : decode jdk_65_method_121_code 24 = .ok (.iload_n 1, 1) := by decide +kernel
theorem d22_25 : decode jdk_65_method_121_code 25 = .ok (.invokestatic 304, 3) := by decide +kernel
theorem d22_28 : decode jdk_65_method_121_code 28 = .ok (.invokestatic 150, 3) := by decide +kernel
theorem d22_31 : decode jdk_65_method_121_code 31 = .ok (.aload_n 2, 1) := by decide +kernel
theorem d22_32 : decode jdk_65_method_121_code 32 = .ok (.areturn, 1) := by decide +kernel
theorem ef_3_RI (m : MethodId) (x0 : Addr) (x1 : Int32) : entryFrame m #[(.ref x0), (.int x1)] 3 = mkF m 0 #[.val (.ref x0), .val (.int x1), .unset] [] := by first | (simp [entryFrame, mkF, argsToLocals, Value.category]; done) | rfl
set_option maxRecDepth 65536 in
set_option maxHeartbeats 40000000 in
theorem sb_copyOf (l : Launch) (Z : State) (a0 : Array Value) (hw : ∀ d ∈ tables_1, d.before a0 Z = true) (ws : List Jvm.Cond) (da : Addr) (kd : ClassId) (N : Nat) (bs : List Int32) (M : Nat) (h0 : Heap) (n0 : Nat) (O : Old Z n0 h0) (A : Arv Z h0 da kd .byte (Int32.ofNat N) (by8 bs) (.int (0 : Int32))) (hlen : bs.length ≤ N) (hlt : N < M) (hM : M ≤ 200) :
    MetFree l (⟨"java/util/Arrays", "copyOf", "([BI)[B"⟩ : MethodName) (head1 (Jvm.Cond.code (⟨"java/util/Arrays", "copyOf", "([BI)[B"⟩ : MethodName) jdk_65_method_121_code 3 (some (.array .byte)) :: ws) ({ frames := 1, cells := 1, slots := 200, locals := 18 } : Room)) (fun a U => a = #[(.ref da), (.int (Int32.ofNat M))] ∧ Z.Warmed39 U.vm ∧ U.heap = h0) (fun _ _ _ _ _ => True) (fun _ U o U' => ∃ v L, o = .returned v ∧ Qx h0 n0 [] (fun x h => (∃ k, Arv Z h x k .byte (Int32.ofNat M) (by8 bs) (.int (0 : Int32))) ∧ h0.size ≤ x) v U'.heap L ∧ FrameEnd U o U' L ({ frames := 1, cells := 1, slots := 200, locals := 18 } : Room).cells ({ frames := 1, cells := 1, slots := 200, locals := 18 } : Room).slots) := by
  refine MetFree.of_bodySF (plainFor_of_name pn_java_util_Arrays) hisR ?_
  intro p e s m args below meth c s₁ Bd hml0 hP hK
  obtain ⟨rfl, hZ, hh⟩ := hP
  have hx := Bd.exec
  have hby := Bd.bytes
  have hml : c.maxLocals = 3 := hml0
  have hown : s.vm.findClass "java/util/Arrays" = some m.cls := findClass_of_methodNamed Bd.named
  have hnm := (name_of_methodNamed Bd.named Bd.method).1
  have X0 : Stand p l e ({ frames := 1, cells := 1, slots := 200, locals := 18 } : Room) s m #[(.ref da), (.int (Int32.ofNat M))] below meth c s₁ [] 0 0 := Stand.of_body Bd
  have e0 : s₁.heap = h0 := by rw [← hh, Bd.state]; rfl
  have N0 := Fr.nil n0
  have pre0 : ∀ t, Steps p.tables e below (s₁.setTop (mkF m 0 #[.val (.ref da), .val (.int (Int32.ofNat M)), .unset] [])) t → Steps p.tables e below (s₁.setTop (entryFrame m #[(.ref da), (.int (Int32.ofNat M))] 3)) t := fun t k => castTop (ef_3_RI m da (Int32.ofNat M)) k
  obtain ⟨cw1, A1, q1, s1, n1, H1, G1⟩ := id A
  obtain ⟨T2, h2, k2, X2, e2, E2, A2, st2⟩ := newP X0 hx hZ (hw _ (List.mem_of_getElem? (i := 5) rfl)) e0 (g := (mkF m 15 #[.val (.ref da), .val (.int (Int32.ofNat M)), .unset] [(.int (Int32.ofNat M))])) rfl (hb hby d22_15) rfl (own_nn (by omega)) (cap := 200) (by rw [own_cl (by omega)]; omega) (by decide) (by decide) (by decide)
  obtain ⟨b2, g2⟩ : ∃ z, z = h0.size := ⟨_, rfl⟩
  rw [← g2] at A2 st2
  have gb2 : n0 ≤ b2 := by have q1 := O.1; have q2 := O.2.1; omega
  have gs2 : h0.size ≤ b2 := by have q := ((Keep.refl h0 [])).1; omega
  have V2 : Arv Z h2 b2 k2 .byte (Int32.ofNat M) [] (.int (0 : Int32)) := Arv.new A2 (own_nn (by omega))
  have O2 : Old Z n0 h2 := O.ext E2
  have Kp2 : Keep h0 h2 [] := (Keep.refl h0 []).ext E2
  have f3 : Arv Z h2 da kd .byte (Int32.ofNat N) (by8 bs) (.int (0 : Int32)) := (A.ext E2)
  obtain ⟨cw4, A4, q4, s4, n4, H4, G4⟩ := id f3
  obtain ⟨_, _, ⟨T5, L5, k5, n5⟩, -, X5, ⟨Lc5, hQ5, l5, y5, z5⟩, st5⟩ := Jvm.LawKit.callS X2 hx (y := (⟨"java/lang/Math", "min", "(II)I"⟩ : MethodName)) hown (mvT hZ (hw _ (List.mem_of_getElem? (i := 171) rfl))) (mvT hZ (hw _ (List.mem_of_getElem? (i := 172) rfl))) (mvT hZ (hw _ (List.mem_of_getElem? (i := 163) rfl))) (mvT hZ (hw _ (List.mem_of_getElem? (i := 173) rfl))) (by decide) (backOf (W := 4) (sb_min1 l Z a0 hw [] N M h2 n0 O2 (by omega) (by omega) (Nat.le_of_lt hlt)) hZ (hw _ (List.mem_of_getElem? (i := 173) rfl)) (hw _ (List.mem_of_getElem? (i := 163) rfl)) (by decide) (by decide)) (g := (mkF m 25 #[.val (.ref da), .val (.int (Int32.ofNat M)), .val (.ref b2)] [(.int (Int32.ofNat M)), (.int (Int32.ofNat N)), (.int (0 : Int32)), (.ref b2), (.int (0 : Int32)), (.ref da)])) rfl (by rw [hml]; rfl) (argsL := [(.int (Int32.ofNat N)), (.int (Int32.ofNat M))]) (rest := [(.int (0 : Int32)), (.ref b2), (.int (0 : Int32)), (.ref da)]) (lenOf pd_28II29I rfl) rfl (by show 2 * 0 + _ ≤ _; exact Nat.le_of_eq rfl) (hb hby d22_25) (fun _ _ => ⟨rfl, e2, (by decide : 1 + 0 ≤ _), (by decide : 200 + 0 ≤ _)⟩)
  dsimp only [Pt.U, Pt.locs, Pt.cells, Pt.slots] at X5 l5 y5 z5 st5 hQ5
  rw [l5, y5, z5] at X5
  obtain ⟨rfl, N5q, e5⟩ := hQ5
  have N5 := Fr.app N0 N5q
  have Bp : Arv Z h2 b2 k2 .byte (Int32.ofNat M) ([] ++ List.replicate N (.int (0 : Int32))) (.int (0 : Int32)) := V2.pad (pad_rep [] (.int (0 : Int32)) N)
  obtain ⟨T6, h6, L6, X6, e6, N6, K6, V6, st6⟩ := cpA X5 hx hZ hown (hw _ (List.mem_of_getElem? (i := 174) rfl)) (hw _ (List.mem_of_getElem? (i := 128) rfl)) (hw _ (List.mem_of_getElem? (i := 126) rfl)) (hw _ (List.mem_of_getElem? (i := 127) rfl)) e5 f3 Bp (Or.inl ⟨rfl, rfl⟩) (by decide) (by decide) (own_nn (by omega)) (by rw [own_cl (by omega)]; show 0 + N ≤ N; omega) (by rw [own_cl (by omega), own_cl (by omega)]; show 0 + N ≤ M; omega) rfl (by rw [own_cl (by omega)]; simp) N5 gb2 (g := (mkF m 28 #[.val (.ref da), .val (.int (Int32.ofNat M)), .val (.ref b2)] [(.int (Int32.ofNat N)), (.int (0 : Int32)), (.ref b2), (.int (0 : Int32)), (.ref da)])) rfl (by rw [hml]; rfl) rfl (hb hby d22_28) (by decide) (W := 0) (by show 2 * 0 + _ ≤ _; exact Nat.le_of_eq rfl) (by decide)
  have O6 : Old Z n0 h6 := O2.keep K6 (allS (P := (n0 ≤ ·)) gb2 all0)
  have Kp6 : Keep h0 h6 [] := Kp2.trans K6 (allS (P := (fun x => x ∈ [] ∨ h0.size ≤ x)) (Or.inr gs2) all0)
  have Vc : Arv Z h6 b2 k2 .byte (Int32.ofNat M) (by8 bs) (.int (0 : Int32)) := by rw [own_cl (by omega), show (0 : Int32).toNatClampNeg = 0 from rfl] at V6; exact V6.pad (own_padg bs (.int (0 : Int32)) hlen)
  obtain ⟨fs, hr, hrun, hended, hW, hsame⟩ := X6.leave (v := some (.ref b2)) (fun h => by rw [Bd.returns] at h; cases h)
  refine ⟨_, _, pre0 _ ?_, hrun, hended, _, _, rfl, ?_, ⟨_, rfl⟩, hW, hsame.mono (by decide) (by decide)⟩
  · show Steps p.tables e below (s₁.setTop (mkF m 0 #[.val (.ref da), .val (.int (Int32.ofNat M)), .unset] [])) _
    refine XS.iloadN X0.here hx rfl (hb hby d22_0) rfl ?_
    show Steps p.tables e below (s₁.setTop (mkF m 1 #[.val (.ref da), .val (.int (Int32.ofNat M)), .unset] [(.int (Int32.ofNat M))])) _
    refine XS.aloadN X0.here hx rfl (hb hby d22_1) rfl rfl ?_
    show Steps p.tables e below (s₁.setTop (mkF m 2 #[.val (.ref da), .val (.int (Int32.ofNat M)), .unset] [(.ref da), (.int (Int32.ofNat M))])) _
    refine X0.arraylength hx (by rw [e0]; exact A1.1) (State.isArrayOf_alike hZ.alike A1.2.1) (g := (mkF m 2 #[.val (.ref da), .val (.int (Int32.ofNat M)), .unset] [(.ref da), (.int (Int32.ofNat M))])) rfl rfl (hb hby d22_2) _ ?_
    rw [len_of s1 n1]
    show Steps p.tables e below (s₁.setTop (mkF m 3 #[.val (.ref da), .val (.int (Int32.ofNat M)), .unset] [(.int (Int32.ofNat N)), (.int (Int32.ofNat M))])) _
    refine XS.icmpYes X0.here hx rfl (pc0 := 3) (pc' := 14) rfl (hb hby d22_3) rfl (feq ((own_neN (by omega) (by omega) (by omega)) : ¬ ((Int32.ofNat M) = (Int32.ofNat N)))).2 (by decide) (by decide) ?_
    show Steps p.tables e below (s₁.setTop (mkF m 14 #[.val (.ref da), .val (.int (Int32.ofNat M)), .unset] [])) _
    refine XS.iloadN X0.here hx rfl (hb hby d22_14) rfl ?_
    show Steps p.tables e below (s₁.setTop (mkF m 15 #[.val (.ref da), .val (.int (Int32.ofNat M)), .unset] [(.int (Int32.ofNat M))])) _
    refine st2 _ ?_
    show Steps p.tables e below (T2.setTop (mkF m 17 #[.val (.ref da), .val (.int (Int32.ofNat M)), .unset] [(.ref b2)])) _
    refine XS.astoreN X2.here hx rfl (hb hby d22_17) rfl rfl (l' := #[.val (.ref da), .val (.int (Int32.ofNat M)), .val (.ref b2)]) rfl ?_
    show Steps p.tables e below (T2.setTop (mkF m 18 #[.val (.ref da), .val (.int (Int32.ofNat M)), .val (.ref b2)] [])) _
    refine XS.aloadN X2.here hx rfl (hb hby d22_18) rfl rfl ?_
    show Steps p.tables e below (T2.setTop (mkF m 19 #[.val (.ref da), .val (.int (Int32.ofNat M)), .val (.ref b2)] [(.ref da)])) _
    refine XS.iconst X2.here hx rfl (hb hby d22_19) ?_
    show Steps p.tables e below (T2.setTop (mkF m 20 #[.val (.ref da), .val (.int (Int32.ofNat M)), .val (.ref b2)] [(.int (0 : Int32)), (.ref da)])) _
    refine XS.aloadN X2.here hx rfl (hb hby d22_20) rfl rfl ?_
    show Steps p.tables e below (T2.setTop (mkF m 21 #[.val (.ref da), .val (.int (Int32.ofNat M)), .val (.ref b2)] [(.ref b2), (.int (0 : Int32)), (.ref da)])) _
    refine XS.iconst X2.here hx rfl (hb hby d22_21) ?_
    show Steps p.tables e below (T2.setTop (mkF m 22 #[.val (.ref da), .val (.int (Int32.ofNat M)), .val (.ref b2)] [(.int (0 : Int32)), (.ref b2), (.int (0 : Int32)), (.ref da)])) _
    refine XS.aloadN X2.here hx rfl (hb hby d22_22) rfl rfl ?_
    show Steps p.tables e below (T2.setTop (mkF m 23 #[.val (.ref da), .val (.int (Int32.ofNat M)), .val (.ref b2)] [(.ref da), (.int (0 : Int32)), (.ref b2), (.int (0 : Int32)), (.ref da)])) _
    refine X2.arraylength hx (by rw [e2]; exact A4.1) (State.isArrayOf_alike hZ.alike A4.2.1) (g := (mkF m 23 #[.val (.ref da), .val (.int (Int32.ofNat M)), .val (.ref b2)] [(.ref da), (.int (0 : Int32)), (.ref b2), (.int (0 : Int32)), (.ref da)])) rfl rfl (hb hby d22_23) _ ?_
    rw [len_of s4 n4]
    show Steps p.tables e below (T2.setTop (mkF m 24 #[.val (.ref da), .val (.int (Int32.ofNat M)), .val (.ref b2)] [(.int (Int32.ofNat N)), (.int (0 : Int32)), (.ref b2), (.int (0 : Int32)), (.ref da)])) _
    refine XS.iloadN X2.here hx rfl (hb hby d22_24) rfl ?_
    show Steps p.tables e below (T2.setTop (mkF m 25 #[.val (.ref da), .val (.int (Int32.ofNat M)), .val (.ref b2)] [(.int (Int32.ofNat M)), (.int (Int32.ofNat N)), (.int (0 : Int32)), (.ref b2), (.int (0 : Int32)), (.ref da)])) _
    refine st5 _ ?_
    show Steps p.tables e below (T5.setTop (mkF m 28 #[.val (.ref da), .val (.int (Int32.ofNat M)), .val (.ref b2)] [(.int (Int32.ofNat N)), (.int (0 : Int32)), (.ref b2), (.int (0 : Int32)), (.ref da)])) _
    refine st6 _ ?_
    show Steps p.tables e below (T6.setTop (mkF m 31 #[.val (.ref da), .val (.int (Int32.ofNat M)), .val (.ref b2)] [])) _
    refine XS.aloadN X6.here hx rfl (hb hby d22_31) rfl rfl ?_
    show Steps p.tables e below (T6.setTop (mkF m 32 #[.val (.ref da), .val (.int (Int32.ofNat M)), .val (.ref b2)] [(.ref b2)])) _
    exact retOut X6 hx Bd.returns rfl (Or.inr (Or.inr (Or.inr (Or.inr ⟨rfl, rfl, rfl⟩)))) (hb hby d22_32) hr
  · exact by show Qx h0 n0 _ _ (some (.ref b2)) T6.heap _; rw [e6]; exact ⟨_, rfl, N6, Kp6, ⟨_, Vc⟩, gs2⟩
theorem d10_0 : decode jdk_68_method_9_code 0 = .ok (.aload_n 0, 1) := by decide +kernel
theorem d10_1 : decode jdk_68_method_9_code 1 = .ok (.getfield 15, 3) := by decide +kernel
theorem d10_4 : decode jdk_68_method_9_code 4 = .ok (.arraylength, 1) := by decide +kernel
theorem d10_5 : decode jdk_68_method_9_code 5 = .ok (.aload_n 0, 1) := by decide +kernel
theorem d10_6 : decode jdk_68_method_9_code 6 = .ok (.getfield 22, 3) := by decide +kernel
theorem d10_9 : decode jdk_68_method_9_code 9 = .ok (.ishr, 1) := by decide +kernel
theorem d10_10 : decode jdk_68_method_9_code 10 = .ok (.istore_n 2, 1) := by decide +kernel
theorem d10_11 : decode jdk_68_method_9_code 11 = .ok (.iload_n 1, 1) := by decide +kernel
theorem d10_12 : decode jdk_68_method_9_code 12 = .ok (.iload_n 2, 1) := by decide +kernel
theorem d10_13 : decode jdk_68_method_9_code 13 = .ok (.isub, 1) := by decide +kernel
theorem d10_14 : decode jdk_68_method_9_code 14 = .ok (.ifCond .le 24, 3) := by decide +kernel
theorem d10_17 : decode jdk_68_method_9_code 17 = .ok (.aload_n 0, 1) := by decide +kernel
theorem d10_18 : decode jdk_68_method_9_code 18 = .ok (.aload_n 0, 1) := by decide +kernel
theorem d10_19 : decode jdk_68_method_9_code 19 = .ok (.getfield 15, 3) := by decide +kernel
theorem d10_22 : decode jdk_68_method_9_code 22 = .ok (.aload_n 0, 1) := by decide +kernel
theorem d10_23 : decode jdk_68_method_9_code 23 = .ok (.iload_n 1, 1) := by decide +kernel
theorem pd_28I29I : parseMethodDescriptor "(I)I" = some ⟨[.int], some .int⟩ := by decide +kernel
theorem d10_24 : decode jdk_68_method_9_code 24 = .ok (.invokevirtual 104, 3) := by decide +kernel
theorem d10_27 : decode jdk_68_method_9_code 27 = .ok (.aload_n 0, 1) := by decide +kernel
theorem d10_28 : decode jdk_68_method_9_code 28 = .ok (.getfield 22, 3) := by decide +kernel
theorem d10_31 : decode jdk_68_method_9_code 31 = .ok (.ishl, 1) := by decide +kernel
theorem pd_285bBI295bB : parseMethodDescriptor "([BI)[B" = some ⟨[(.array .byte), .int], some (.array .byte)⟩ := by decide +kernel
theorem d10_32 : decode jdk_68_method_9_code 32 = .ok (.invokestatic 108, 3) := by decide +kernel
theorem d10_35 : decode jdk_68_method_9_code 35 = .ok (.putfield 15, 3) := by decide +kernel
theorem d10_38 : decode jdk_68_method_9_code 38 = .ok (.return_, 1) := by decide +kernel
set_option maxRecDepth 65536 in
set_option maxHeartbeats 40000000 in
theorem sb_ensure1 (l : Launch) (Z : State) (a0 : Array Value) (hw : ∀ d ∈ tables_1, d.before a0 Z = true) (ws : List Jvm.Cond) (bb da : Addr) (kd : ClassId) (N : Nat) (bs : List Int32) (mn : Nat) (h0 : Heap) (n0 : Nat) (O : Old Z n0 h0) (hB : Bld Z h0 bb da kd N bs) (hlen : bs.length ≤ N) (hN : N ≤ 1000) (hcap : grow N mn ≤ 200) (gb : n0 ≤ bb) (hgt : N < mn) :
    MetFree l (⟨"java/lang/AbstractStringBuilder", "ensureCapacityInternal", "(I)V"⟩ : MethodName) (head1 (Jvm.Cond.code (⟨"java/lang/AbstractStringBuilder", "ensureCapacityInternal", "(I)V"⟩ : MethodName) jdk_68_method_9_code 3 none :: ws) ({ frames := 3, cells := 1, slots := 200, locals := 48 } : Room)) (fun a U => a = #[(.ref bb), (.int (Int32.ofNat mn))] ∧ Z.Warmed39 U.vm ∧ U.heap = h0) (fun _ _ _ _ _ => True) (fun _ U o U' => ∃ v L, o = .returned v ∧ Qh none h0 n0 [bb] (fun h => ∃ da' kd', Bld Z h bb da' kd' (grow N mn) bs ∧ (da' = da ∨ h0.size ≤ da')) v U'.heap L ∧ FrameEnd U o U' L ({ frames := 3, cells := 1, slots := 200, locals := 48 } : Room).cells ({ frames := 3, cells := 1, slots := 200, locals := 48 } : Room).slots) := by
  refine MetFree.of_bodySF (plainFor_of_name pn_java_lang_AbstractStringBuilder) hisR ?_
  intro p e s m args below meth c s₁ Bd hml0 hP hK
  obtain ⟨rfl, hZ, hh⟩ := hP
  have hx := Bd.exec
  have hby := Bd.bytes
  have hml : c.maxLocals = 3 := hml0
  have hown : s.vm.findClass "java/lang/AbstractStringBuilder" = some m.cls := findClass_of_methodNamed Bd.named
  have hnm := (name_of_methodNamed Bd.named Bd.method).1
  have X0 : Stand p l e ({ frames := 3, cells := 1, slots := 200, locals := 48 } : Room) s m #[(.ref bb), (.int (Int32.ofNat mn))] below meth c s₁ [] 0 0 := Stand.of_body Bd
  have e0 : s₁.heap = h0 := by rw [← hh, Bd.state]; rfl
  have N0 := Fr.nil n0
  have pre0 : ∀ t, Steps p.tables e below (s₁.setTop (mkF m 0 #[.val (.ref bb), .val (.int (Int32.ofNat mn)), .unset] [])) t → Steps p.tables e below (s₁.setTop (entryFrame m #[(.ref bb), (.int (Int32.ofNat mn))] 3)) t := fun t k => castTop (ef_3_RI m bb (Int32.ofNat mn)) k
  have hlt : N < grow N mn := Nat.lt_of_lt_of_le hgt (own_leG _ _)
  obtain ⟨Eb, Vb, Cb, Nb, Ab⟩ := id hB
  obtain ⟨T1, X1, e1, st1⟩ := getF X0 hx hZ hown (host := "") (Or.inl (hw _ (List.mem_of_getElem? (i := 74) rfl))) Via.refl e0 Vb (g := (mkF m 1 #[.val (.ref bb), .val (.int (Int32.ofNat mn)), .unset] [(.ref bb)])) rfl rfl (hb hby d10_1)
  obtain ⟨cw2, A2, q2, s2, n2, H2, G2⟩ := id Ab
  obtain ⟨T3, X3, e3, st3⟩ := getF X1 hx hZ hown (host := "") (Or.inl (hw _ (List.mem_of_getElem? (i := 76) rfl))) Via.refl e1 Cb (g := (mkF m 6 #[.val (.ref bb), .val (.int (Int32.ofNat mn)), .unset] [(.ref bb), (.int (Int32.ofNat N))])) rfl rfl (hb hby d10_6)
  obtain ⟨T4, X4, e4, st4⟩ := getF X3 hx hZ hown (host := "") (Or.inl (hw _ (List.mem_of_getElem? (i := 74) rfl))) Via.refl e3 Vb (g := (mkF m 19 #[.val (.ref bb), .val (.int (Int32.ofNat mn)), .val (.int (Int32.ofNat N))] [(.ref bb), (.ref bb)])) rfl rfl (hb hby d10_19)
  obtain ⟨cq5, kq5, q5a, q5b, q5c⟩ := isOf hZ e4 Eb
  obtain ⟨_, _, ⟨T5, L5, k5, n5⟩, -, X5, ⟨Lc5, hQ5, l5, y5, z5⟩, st5⟩ := X4.virtualBack hx (y := (⟨"java/lang/AbstractStringBuilder", "newCapacity", "(I)I"⟩ : MethodName)) (z := (⟨"java/lang/AbstractStringBuilder", "newCapacity", "(I)I"⟩ : MethodName)) hown (mvT hZ (hw _ (List.mem_of_getElem? (i := 152) rfl))) (mvT hZ (own_decl (hw _ (List.mem_of_getElem? (i := 153) rfl)) (hw _ (List.mem_of_getElem? (i := 156) rfl)))) (notFace_of_selects (args := #[]) (mvT hZ (hw _ (List.mem_of_getElem? (i := 155) rfl)))) (mvT hZ (hw _ (List.mem_of_getElem? (i := 155) rfl))) (mvT hZ (hw _ (List.mem_of_getElem? (i := 153) rfl))) (by decide) (backOf (W := 2) (sb_newCap l Z a0 hw [] bb da kd N bs mn h0 n0 O ⟨Eb, Vb, Cb, Nb, Ab⟩ hgt hcap) hZ (hw _ (List.mem_of_getElem? (i := 156) rfl)) (hw _ (List.mem_of_getElem? (i := 70) rfl)) (by decide) (by decide)) q5a q5c (g := (mkF m 24 #[.val (.ref bb), .val (.int (Int32.ofNat mn)), .val (.int (Int32.ofNat N))] [(.int (Int32.ofNat mn)), (.ref bb), (.ref da), (.ref bb)])) rfl (by rw [hml]; rfl) (Steps.refl _) (argsL := [(.int (Int32.ofNat mn))]) (rest := [(.ref da), (.ref bb)]) (lenOf pd_28I29I rfl) rfl (by show 2 * 0 + _ ≤ _; exact Nat.le_of_eq rfl) (hb hby d10_24) (fun _ _ => ⟨rfl, e4, (by decide : 0 + 0 ≤ _), (by decide : 0 + 0 ≤ _)⟩)
  dsimp only [Pt.U, Pt.locs, Pt.cells, Pt.slots] at X5 l5 y5 z5 st5 hQ5
  rw [l5, y5, z5] at X5
  obtain ⟨rfl, N5q, e5⟩ := hQ5
  have N5 := Fr.app N0 N5q
  obtain ⟨T6, X6, e6, st6⟩ := getF X5 hx hZ hown (host := "") (Or.inl (hw _ (List.mem_of_getElem? (i := 76) rfl))) Via.refl e5 Cb (g := (mkF m 28 #[.val (.ref bb), .val (.int (Int32.ofNat mn)), .val (.int (Int32.ofNat N))] [(.ref bb), (.int (Int32.ofNat (grow N mn))), (.ref da), (.ref bb)])) rfl rfl (hb hby d10_28)
  obtain ⟨_, _, ⟨T7, L7, k7, n7⟩, -, X7, ⟨Lc7, hQ7, l7, y7, z7⟩, st7⟩ := Jvm.LawKit.callS X6 hx (y := (⟨"java/util/Arrays", "copyOf", "([BI)[B"⟩ : MethodName)) hown (mvT hZ (hw _ (List.mem_of_getElem? (i := 167) rfl))) (mvT hZ (hw _ (List.mem_of_getElem? (i := 168) rfl))) (mvT hZ (hw _ (List.mem_of_getElem? (i := 169) rfl))) (mvT hZ (hw _ (List.mem_of_getElem? (i := 170) rfl))) (by decide) (backOf (W := 1) (sb_copyOf l Z a0 hw [] da kd N bs (grow N mn) h0 n0 O Ab hlen hlt hcap) hZ (hw _ (List.mem_of_getElem? (i := 170) rfl)) (hw _ (List.mem_of_getElem? (i := 169) rfl)) (by decide) (by decide)) (g := (mkF m 32 #[.val (.ref bb), .val (.int (Int32.ofNat mn)), .val (.int (Int32.ofNat N))] [(.int (Int32.ofNat (grow N mn))), (.ref da), (.ref bb)])) rfl (by rw [hml]; rfl) (argsL := [(.ref da), (.int (Int32.ofNat (grow N mn)))]) (rest := [(.ref bb)]) (lenOf pd_285bBI295bB rfl) rfl (by show 2 * 0 + _ ≤ _; exact Nat.le_of_eq rfl) (hb hby d10_32) (fun _ _ => ⟨rfl, e6, (by decide : 0 + 1 ≤ _), (by decide : 0 + 200 ≤ _)⟩)
  dsimp only [Pt.U, Pt.locs, Pt.cells, Pt.slots] at X7 l7 y7 z7 st7 hQ7
  rw [l7, y7, z7] at X7
  obtain ⟨xa, rfl, N7q, K7, ⟨k7x, V7⟩, gs7⟩ := hQ7
  have N7 := Fr.app N5 N7q
  have gb7 : n0 ≤ xa := by have q1 := O.1; have q2 := O.2.1; omega
  have gz7 : h0.size ≤ xa := by have q := ((Keep.refl h0 [bb])).1; omega
  have O7 : Old Z n0 T7.heap := O.keep K7 all0
  have Kp7 : Keep h0 T7.heap [bb] := (Keep.refl h0 [bb]).trans K7 all0
  have f8 : Exa Z T7.heap bb "java/lang/StringBuilder" := (Eb.keep K7)
  have f9 : Fld Z T7.heap bb "java/lang/AbstractStringBuilder" "value" "[B" (.ref da) := (Vb.keep K7 nin0)
  obtain ⟨T10, h10, X10, e10, W10, st10⟩ := putF X7 hx hZ hown (host := "") (Or.inl (hw _ (List.mem_of_getElem? (i := 74) rfl))) Via.refl rfl f9 f8 (Or.inl (hw _ (List.mem_of_getElem? (i := 75) rfl))) (hw _ (List.mem_of_getElem? (i := 61) rfl)) (ty := (.array .byte)) (by decide) rfl rfl (g := (mkF m 35 #[.val (.ref bb), .val (.int (Int32.ofNat mn)), .val (.int (Int32.ofNat N))] [(.ref xa), (.ref bb)])) rfl rfl (hb hby d10_35)
  have N10 := Fr.snoc X10 N7 gb
  have O10 : Old Z n0 h10 := O7.wr W10 gb
  have Kp10 : Keep h0 h10 [bb] := Kp7.wr W10 (Or.inl (by simp))
  have Fw10 : Fld Z h10 bb "java/lang/AbstractStringBuilder" "value" "[B" (.ref xa) := f9.same W10
  have f11 : Exa Z h10 bb "java/lang/StringBuilder" := (f8.wr W10)
  have f12 : Fld Z h10 bb "java/lang/AbstractStringBuilder" "coder" "B" (.int (0 : Int32)) := ((Cb.keep K7 nin0).other W10 (Or.inr (slot_ne (Or.inl (hw _ (List.mem_of_getElem? (i := 77) rfl))) (Or.inl (hw _ (List.mem_of_getElem? (i := 75) rfl))) (by decide) (t := .byte) (t' := (.array .byte)) (by decide) (by decide))))
  have f13 : Fld Z h10 bb "java/lang/AbstractStringBuilder" "count" "I" (.int (Int32.ofNat bs.length)) := ((Nb.keep K7 nin0).other W10 (Or.inr (slot_ne (Or.inl (hw _ (List.mem_of_getElem? (i := 103) rfl))) (Or.inl (hw _ (List.mem_of_getElem? (i := 75) rfl))) (by decide) (t := .int) (t' := (.array .byte)) (by decide) (by decide))))
  have f14 : Arv Z h10 xa k7x .byte (Int32.ofNat (grow N mn)) (by8 bs) (.int (0 : Int32)) := (V7.other W10 (Ne.symm (Nat.ne_of_lt (Nat.lt_of_lt_of_le Nb.lt gs7))))
  obtain ⟨fs, hr, hrun, hended, hW, hsame⟩ := X10.leave (v := none) (fun h => rfl)
  refine ⟨_, _, pre0 _ ?_, hrun, hended, _, _, rfl, ?_, ⟨_, rfl⟩, hW, hsame.mono (by decide) (by decide)⟩
  · show Steps p.tables e below (s₁.setTop (mkF m 0 #[.val (.ref bb), .val (.int (Int32.ofNat mn)), .unset] [])) _
    refine XS.aloadN X0.here hx rfl (hb hby d10_0) rfl rfl ?_
    show Steps p.tables e below (s₁.setTop (mkF m 1 #[.val (.ref bb), .val (.int (Int32.ofNat mn)), .unset] [(.ref bb)])) _
    refine st1 _ ?_
    show Steps p.tables e below (T1.setTop (mkF m 4 #[.val (.ref bb), .val (.int (Int32.ofNat mn)), .unset] [(.ref da)])) _
    refine X1.arraylength hx (by rw [e1]; exact A2.1) (State.isArrayOf_alike hZ.alike A2.2.1) (g := (mkF m 4 #[.val (.ref bb), .val (.int (Int32.ofNat mn)), .unset] [(.ref da)])) rfl rfl (hb hby d10_4) _ ?_
    rw [len_of s2 n2]
    show Steps p.tables e below (T1.setTop (mkF m 5 #[.val (.ref bb), .val (.int (Int32.ofNat mn)), .unset] [(.int (Int32.ofNat N))])) _
    refine XS.aloadN X1.here hx rfl (hb hby d10_5) rfl rfl ?_
    show Steps p.tables e below (T1.setTop (mkF m 6 #[.val (.ref bb), .val (.int (Int32.ofNat mn)), .unset] [(.ref bb), (.int (Int32.ofNat N))])) _
    refine st3 _ ?_
    show Steps p.tables e below (T3.setTop (mkF m 9 #[.val (.ref bb), .val (.int (Int32.ofNat mn)), .unset] [(.int (0 : Int32)), (.int (Int32.ofNat N))])) _
    refine XS.ishr X3.here hx rfl (hb hby d10_9) rfl ?_
    show Steps p.tables e below (T3.setTop (mkF m 10 #[.val (.ref bb), .val (.int (Int32.ofNat mn)), .unset] [(.int ((Int32.ofNat N) >>> ((0 : Int32) &&& 31)))])) _
    rw [own_shr0]
    show Steps p.tables e below (T3.setTop (mkF m 10 #[.val (.ref bb), .val (.int (Int32.ofNat mn)), .unset] [(.int (Int32.ofNat N))])) _
    refine XS.istoreN X3.here hx rfl (hb hby d10_10) rfl (l' := #[.val (.ref bb), .val (.int (Int32.ofNat mn)), .val (.int (Int32.ofNat N))]) rfl ?_
    show Steps p.tables e below (T3.setTop (mkF m 11 #[.val (.ref bb), .val (.int (Int32.ofNat mn)), .val (.int (Int32.ofNat N))] [])) _
    refine XS.iloadN X3.here hx rfl (hb hby d10_11) rfl ?_
    show Steps p.tables e below (T3.setTop (mkF m 12 #[.val (.ref bb), .val (.int (Int32.ofNat mn)), .val (.int (Int32.ofNat N))] [(.int (Int32.ofNat mn))])) _
    refine XS.iloadN X3.here hx rfl (hb hby d10_12) rfl ?_
    show Steps p.tables e below (T3.setTop (mkF m 13 #[.val (.ref bb), .val (.int (Int32.ofNat mn)), .val (.int (Int32.ofNat N))] [(.int (Int32.ofNat N)), (.int (Int32.ofNat mn))])) _
    refine XS.isub X3.here hx rfl (hb hby d10_13) rfl ?_
    show Steps p.tables e below (T3.setTop (mkF m 14 #[.val (.ref bb), .val (.int (Int32.ofNat mn)), .val (.int (Int32.ofNat N))] [(.int ((Int32.ofNat mn) - (Int32.ofNat N)))])) _
    refine XS.ifNo X3.here hx rfl (hb hby d10_14) rfl ((if0 _ _).trans (tlt ((own_nfits hgt (by have := own_leG N mn; omega)) : (0 : Int32) < ((Int32.ofNat mn) - (Int32.ofNat N)))).2.2.2) ?_
    show Steps p.tables e below (T3.setTop (mkF m 17 #[.val (.ref bb), .val (.int (Int32.ofNat mn)), .val (.int (Int32.ofNat N))] [])) _
    refine XS.aloadN X3.here hx rfl (hb hby d10_17) rfl rfl ?_
    show Steps p.tables e below (T3.setTop (mkF m 18 #[.val (.ref bb), .val (.int (Int32.ofNat mn)), .val (.int (Int32.ofNat N))] [(.ref bb)])) _
    refine XS.aloadN X3.here hx rfl (hb hby d10_18) rfl rfl ?_
    show Steps p.tables e below (T3.setTop (mkF m 19 #[.val (.ref bb), .val (.int (Int32.ofNat mn)), .val (.int (Int32.ofNat N))] [(.ref bb), (.ref bb)])) _
    refine st4 _ ?_
    show Steps p.tables e below (T4.setTop (mkF m 22 #[.val (.ref bb), .val (.int (Int32.ofNat mn)), .val (.int (Int32.ofNat N))] [(.ref da), (.ref bb)])) _
    refine XS.aloadN X4.here hx rfl (hb hby d10_22) rfl rfl ?_
    show Steps p.tables e below (T4.setTop (mkF m 23 #[.val (.ref bb), .val (.int (Int32.ofNat mn)), .val (.int (Int32.ofNat N))] [(.ref bb), (.ref da), (.ref bb)])) _
    refine XS.iloadN X4.here hx rfl (hb hby d10_23) rfl ?_
    show Steps p.tables e below (T4.setTop (mkF m 24 #[.val (.ref bb), .val (.int (Int32.ofNat mn)), .val (.int (Int32.ofNat N))] [(.int (Int32.ofNat mn)), (.ref bb), (.ref da), (.ref bb)])) _
    refine st5.trans ?_
    show Steps p.tables e below (T5.setTop (mkF m 27 #[.val (.ref bb), .val (.int (Int32.ofNat mn)), .val (.int (Int32.ofNat N))] [(.int (Int32.ofNat (grow N mn))), (.ref da), (.ref bb)])) _
    refine XS.aloadN X5.here hx rfl (hb hby d10_27) rfl rfl ?_
    show Steps p.tables e below (T5.setTop (mkF m 28 #[.val (.ref bb), .val (.int (Int32.ofNat mn)), .val (.int (Int32.ofNat N))] [(.ref bb), (.int (Int32.ofNat (grow N mn))), (.ref da), (.ref bb)])) _
    refine st6 _ ?_
    show Steps p.tables e below (T6.setTop (mkF m 31 #[.val (.ref bb), .val (.int (Int32.ofNat mn)), .val (.int (Int32.ofNat N))] [(.int (0 : Int32)), (.int (Int32.ofNat (grow N mn))), (.ref da), (.ref bb)])) _
    refine XS.ishl X6.here hx rfl (hb hby d10_31) rfl ?_
    show Steps p.tables e below (T6.setTop (mkF m 32 #[.val (.ref bb), .val (.int (Int32.ofNat mn)), .val (.int (Int32.ofNat N))] [(.int ((Int32.ofNat (grow N mn)) <<< ((0 : Int32) &&& 31))), (.ref da), (.ref bb)])) _
    rw [own_shl0]
    show Steps p.tables e below (T6.setTop (mkF m 32 #[.val (.ref bb), .val (.int (Int32.ofNat mn)), .val (.int (Int32.ofNat N))] [(.int (Int32.ofNat (grow N mn))), (.ref da), (.ref bb)])) _
    refine st7 _ ?_
    show Steps p.tables e below (T7.setTop (mkF m 35 #[.val (.ref bb), .val (.int (Int32.ofNat mn)), .val (.int (Int32.ofNat N))] [(.ref xa), (.ref bb)])) _
    refine st10 _ ?_
    show Steps p.tables e below (T10.setTop (mkF m 38 #[.val (.ref bb), .val (.int (Int32.ofNat mn)), .val (.int (Int32.ofNat N))] [])) _
    exact X10.returnOut hx Bd.returns (hb hby d10_38) hr
  · exact by show Qh _ h0 n0 _ _ none T10.heap _; rw [e10]; exact ⟨rfl, N10, Kp10, _, _, ⟨f11, Fw10, f12, f13, f14⟩, Or.inr gz7⟩
set_option maxRecDepth 65536 in
set_option maxHeartbeats 40000000 in
theorem sb_ensure0 (l : Launch) (Z : State) (a0 : Array Value) (hw : ∀ d ∈ tables_1, d.before a0 Z = true) (ws : List Jvm.Cond) (bb da : Addr) (kd : ClassId) (N : Nat) (bs : List Int32) (mn : Nat) (h0 : Heap) (n0 : Nat) (O : Old Z n0 h0) (hB : Bld Z h0 bb da kd N bs) (hlen : bs.length ≤ N) (hN : N ≤ 1000) (hcap : grow N mn ≤ 200) (gb : n0 ≤ bb) (hgt : mn ≤ N) :
    MetFree l (⟨"java/lang/AbstractStringBuilder", "ensureCapacityInternal", "(I)V"⟩ : MethodName) (head1 (Jvm.Cond.code (⟨"java/lang/AbstractStringBuilder", "ensureCapacityInternal", "(I)V"⟩ : MethodName) jdk_68_method_9_code 3 none :: ws) ({ frames := 3, cells := 1, slots := 200, locals := 48 } : Room)) (fun a U => a = #[(.ref bb), (.int (Int32.ofNat mn))] ∧ Z.Warmed39 U.vm ∧ U.heap = h0) (fun _ _ _ _ _ => True) (fun _ U o U' => ∃ v L, o = .returned v ∧ Qh none h0 n0 [bb] (fun h => ∃ da' kd', Bld Z h bb da' kd' (grow N mn) bs ∧ (da' = da ∨ h0.size ≤ da')) v U'.heap L ∧ FrameEnd U o U' L ({ frames := 3, cells := 1, slots := 200, locals := 48 } : Room).cells ({ frames := 3, cells := 1, slots := 200, locals := 48 } : Room).slots) := by
  refine MetFree.of_bodySF (plainFor_of_name pn_java_lang_AbstractStringBuilder) hisR ?_
  intro p e s m args below meth c s₁ Bd hml0 hP hK
  obtain ⟨rfl, hZ, hh⟩ := hP
  have hx := Bd.exec
  have hby := Bd.bytes
  have hml : c.maxLocals = 3 := hml0
  have hown : s.vm.findClass "java/lang/AbstractStringBuilder" = some m.cls := findClass_of_methodNamed Bd.named
  have hnm := (name_of_methodNamed Bd.named Bd.method).1
  have X0 : Stand p l e ({ frames := 3, cells := 1, slots := 200, locals := 48 } : Room) s m #[(.ref bb), (.int (Int32.ofNat mn))] below meth c s₁ [] 0 0 := Stand.of_body Bd
  have e0 : s₁.heap = h0 := by rw [← hh, Bd.state]; rfl
  have N0 := Fr.nil n0
  have pre0 : ∀ t, Steps p.tables e below (s₁.setTop (mkF m 0 #[.val (.ref bb), .val (.int (Int32.ofNat mn)), .unset] [])) t → Steps p.tables e below (s₁.setTop (entryFrame m #[(.ref bb), (.int (Int32.ofNat mn))] 3)) t := fun t k => castTop (ef_3_RI m bb (Int32.ofNat mn)) k
  obtain ⟨Eb, Vb, Cb, Nb, Ab⟩ := id hB
  obtain ⟨T1, X1, e1, st1⟩ := getF X0 hx hZ hown (host := "") (Or.inl (hw _ (List.mem_of_getElem? (i := 74) rfl))) Via.refl e0 Vb (g := (mkF m 1 #[.val (.ref bb), .val (.int (Int32.ofNat mn)), .unset] [(.ref bb)])) rfl rfl (hb hby d10_1)
  obtain ⟨cw2, A2, q2, s2, n2, H2, G2⟩ := id Ab
  obtain ⟨T3, X3, e3, st3⟩ := getF X1 hx hZ hown (host := "") (Or.inl (hw _ (List.mem_of_getElem? (i := 76) rfl))) Via.refl e1 Cb (g := (mkF m 6 #[.val (.ref bb), .val (.int (Int32.ofNat mn)), .unset] [(.ref bb), (.int (Int32.ofNat N))])) rfl rfl (hb hby d10_6)
  obtain ⟨fs, hr, hrun, hended, hW, hsame⟩ := X3.leave (v := none) (fun h => rfl)
  refine ⟨_, _, pre0 _ ?_, hrun, hended, _, _, rfl, ?_, ⟨_, rfl⟩, hW, hsame.mono (by decide) (by decide)⟩
  · show Steps p.tables e below (s₁.setTop (mkF m 0 #[.val (.ref bb), .val (.int (Int32.ofNat mn)), .unset] [])) _
    refine XS.aloadN X0.here hx rfl (hb hby d10_0) rfl rfl ?_
    show Steps p.tables e below (s₁.setTop (mkF m 1 #[.val (.ref bb), .val (.int (Int32.ofNat mn)), .unset] [(.ref bb)])) _
    refine st1 _ ?_
    show Steps p.tables e below (T1.setTop (mkF m 4 #[.val (.ref bb), .val (.int (Int32.ofNat mn)), .unset] [(.ref da)])) _
    refine X1.arraylength hx (by rw [e1]; exact A2.1) (State.isArrayOf_alike hZ.alike A2.2.1) (g := (mkF m 4 #[.val (.ref bb), .val (.int (Int32.ofNat mn)), .unset] [(.ref da)])) rfl rfl (hb hby d10_4) _ ?_
    rw [len_of s2 n2]
    show Steps p.tables e below (T1.setTop (mkF m 5 #[.val (.ref bb), .val (.int (Int32.ofNat mn)), .unset] [(.int (Int32.ofNat N))])) _
    refine XS.aloadN X1.here hx rfl (hb hby d10_5) rfl rfl ?_
    show Steps p.tables e below (T1.setTop (mkF m 6 #[.val (.ref bb), .val (.int (Int32.ofNat mn)), .unset] [(.ref bb), (.int (Int32.ofNat N))])) _
    refine st3 _ ?_
    show Steps p.tables e below (T3.setTop (mkF m 9 #[.val (.ref bb), .val (.int (Int32.ofNat mn)), .unset] [(.int (0 : Int32)), (.int (Int32.ofNat N))])) _
    refine XS.ishr X3.here hx rfl (hb hby d10_9) rfl ?_
    show Steps p.tables e below (T3.setTop (mkF m 10 #[.val (.ref bb), .val (.int (Int32.ofNat mn)), .unset] [(.int ((Int32.ofNat N) >>> ((0 : Int32) &&& 31)))])) _
    rw [own_shr0]
    show Steps p.tables e below (T3.setTop (mkF m 10 #[.val (.ref bb), .val (.int (Int32.ofNat mn)), .unset] [(.int (Int32.ofNat N))])) _
    refine XS.istoreN X3.here hx rfl (hb hby d10_10) rfl (l' := #[.val (.ref bb), .val (.int (Int32.ofNat mn)), .val (.int (Int32.ofNat N))]) rfl ?_
    show Steps p.tables e below (T3.setTop (mkF m 11 #[.val (.ref bb), .val (.int (Int32.ofNat mn)), .val (.int (Int32.ofNat N))] [])) _
    refine XS.iloadN X3.here hx rfl (hb hby d10_11) rfl ?_
    show Steps p.tables e below (T3.setTop (mkF m 12 #[.val (.ref bb), .val (.int (Int32.ofNat mn)), .val (.int (Int32.ofNat N))] [(.int (Int32.ofNat mn))])) _
    refine XS.iloadN X3.here hx rfl (hb hby d10_12) rfl ?_
    show Steps p.tables e below (T3.setTop (mkF m 13 #[.val (.ref bb), .val (.int (Int32.ofNat mn)), .val (.int (Int32.ofNat N))] [(.int (Int32.ofNat N)), (.int (Int32.ofNat mn))])) _
    refine XS.isub X3.here hx rfl (hb hby d10_13) rfl ?_
    show Steps p.tables e below (T3.setTop (mkF m 14 #[.val (.ref bb), .val (.int (Int32.ofNat mn)), .val (.int (Int32.ofNat N))] [(.int ((Int32.ofNat mn) - (Int32.ofNat N)))])) _
    refine XS.ifYes X3.here hx rfl (pc0 := 14) (pc' := 38) rfl (hb hby d10_14) rfl ((if0 _ _).trans (flt (own_fits hgt hN : ¬ ((0 : Int32) < ((Int32.ofNat mn) - (Int32.ofNat N))))).2.2.2) (by decide) (by decide) ?_
    show Steps p.tables e below (T3.setTop (mkF m 38 #[.val (.ref bb), .val (.int (Int32.ofNat mn)), .val (.int (Int32.ofNat N))] [])) _
    exact X3.returnOut hx Bd.returns (hb hby d10_38) hr
  · exact by show Qh _ h0 n0 _ _ none T3.heap _; rw [e3]; exact ⟨rfl, N0, Keep.refl h0 _, da, kd, by rw [own_grow0 hgt]; exact hB, Or.inl rfl⟩
set_option maxRecDepth 65536 in
set_option maxHeartbeats 40000000 in
theorem sb_ensure (l : Launch) (Z : State) (a0 : Array Value) (hw : ∀ d ∈ tables_1, d.before a0 Z = true) (ws : List Jvm.Cond) (bb da : Addr) (kd : ClassId) (N : Nat) (bs : List Int32) (mn : Nat) (h0 : Heap) (n0 : Nat) (O : Old Z n0 h0) (hB : Bld Z h0 bb da kd N bs) (hlen : bs.length ≤ N) (hN : N ≤ 1000) (hcap : grow N mn ≤ 200) (gb : n0 ≤ bb) :
    MetFree l (⟨"java/lang/AbstractStringBuilder", "ensureCapacityInternal", "(I)V"⟩ : MethodName) (head1 (Jvm.Cond.code (⟨"java/lang/AbstractStringBuilder", "ensureCapacityInternal", "(I)V"⟩ : MethodName) jdk_68_method_9_code 3 none :: ws) ({ frames := 3, cells := 1, slots := 200, locals := 48 } : Room)) (fun a U => a = #[(.ref bb), (.int (Int32.ofNat mn))] ∧ Z.Warmed39 U.vm ∧ U.heap = h0) (fun _ _ _ _ _ => True) (fun _ U o U' => ∃ v L, o = .returned v ∧ Qh none h0 n0 [bb] (fun h => ∃ da' kd', Bld Z h bb da' kd' (grow N mn) bs ∧ (da' = da ∨ h0.size ≤ da')) v U'.heap L ∧ FrameEnd U o U' L ({ frames := 3, cells := 1, slots := 200, locals := 48 } : Room).cells ({ frames := 3, cells := 1, slots := 200, locals := 48 } : Room).slots) := by
  rcases Nat.lt_or_ge N mn with h | h
  · exact sb_ensure1 l Z a0 hw ws bb da kd N bs mn h0 n0 O hB hlen hN hcap gb h
  · exact sb_ensure0 l Z a0 hw ws bb da kd N bs mn h0 n0 O hB hlen hN hcap gb h
theorem d7_0 : decode jdk_68_method_22_code 0 = .ok (.aload_n 1, 1) := by decide +kernel
theorem d7_1 : decode jdk_68_method_22_code 1 = .ok (.ifnonnull 8, 3) := by decide +kernel
theorem d7_9 : decode jdk_68_method_22_code 9 = .ok (.aload_n 1, 1) := by decide +kernel
theorem d7_10 : decode jdk_68_method_22_code 10 = .ok (.invokevirtual 32, 3) := by decide +kernel
theorem d7_13 : decode jdk_68_method_22_code 13 = .ok (.istore_n 2, 1) := by decide +kernel
theorem d7_14 : decode jdk_68_method_22_code 14 = .ok (.aload_n 0, 1) := by decide +kernel
theorem d7_15 : decode jdk_68_method_22_code 15 = .ok (.aload_n 0, 1) := by decide +kernel
theorem d7_16 : decode jdk_68_method_22_code 16 = .ok (.getfield 79, 3) := by decide +kernel
theorem d7_19 : decode jdk_68_method_22_code 19 = .ok (.iload_n 2, 1) := by decide +kernel
theorem d7_20 : decode jdk_68_method_22_code 20 = .ok (.iadd, 1) := by decide +kernel
theorem pd_28I29V : parseMethodDescriptor "(I)V" = some ⟨[.int], none⟩ := by decide +kernel
theorem d7_21 : decode jdk_68_method_22_code 21 = .ok (.invokevirtual 100, 3) := by decide +kernel
theorem d7_24 : decode jdk_68_method_22_code 24 = .ok (.aload_n 0, 1) := by decide +kernel
theorem d7_25 : decode jdk_68_method_22_code 25 = .ok (.aload_n 0, 1) := by decide +kernel
theorem d7_26 : decode jdk_68_method_22_code 26 = .ok (.getfield 79, 3) := by decide +kernel
theorem d7_29 : decode jdk_68_method_22_code 29 = .ok (.aload_n 1, 1) := by decide +kernel
theorem pd_28ILjava2flang2fString3b29V : parseMethodDescriptor "(ILjava/lang/String;)V" = some ⟨[.int, (.object "java/lang/String")], none⟩ := by decide +kernel
theorem d7_30 : decode jdk_68_method_22_code 30 = .ok (.invokevirtual 208, 3) := by decide +kernel
theorem d7_33 : decode jdk_68_method_22_code 33 = .ok (.aload_n 0, 1) := by decide +kernel
theorem d7_34 : decode jdk_68_method_22_code 34 = .ok (.dup, 1) := by decide +kernel
theorem d7_35 : decode jdk_68_method_22_code 35 = .ok (.getfield 79, 3) := by decide +kernel
theorem d7_38 : decode jdk_68_method_22_code 38 = .ok (.iload_n 2, 1) := by decide +kernel
theorem d7_39 : decode jdk_68_method_22_code 39 = .ok (.iadd, 1) := by decide +kernel
theorem d7_40 : decode jdk_68_method_22_code 40 = .ok (.putfield 79, 3) := by decide +kernel
theorem d7_43 : decode jdk_68_method_22_code 43 = .ok (.aload_n 0, 1) := by decide +kernel
theorem d7_44 : decode jdk_68_method_22_code 44 = .ok (.areturn, 1) := by decide +kernel
theorem ef_3_RR (m : MethodId) (x0 : Addr) (x1 : Addr) : entryFrame m #[(.ref x0), (.ref x1)] 3 = mkF m 0 #[.val (.ref x0), .val (.ref x1), .unset] [] := by first | (simp [entryFrame, mkF, argsToLocals, Value.category]; done) | rfl
set_option maxRecDepth 65536 in
set_option maxHeartbeats 40000000 in
theorem sb_asbS (l : Launch) (Z : State) (a0 : Array Value) (hw : ∀ d ∈ tables_1, d.before a0 Z = true) (ws : List Jvm.Cond) (zc : Int32) (bb da : Addr) (kd : ClassId) (N : Nat) (bs : List Int32) (sa sd : Addr) (ks : ClassId) (cs : List Int32) (h0 : Heap) (n0 : Nat) (O : Old Z n0 h0) (hE : EnvS Z zc) (hB : Bld Z h0 bb da kd N bs) (hS : Str Z h0 sa sd ks cs) (hlen : bs.length ≤ N) (hN : N ≤ 1000) (hcap : grow N (bs ++ cs).length ≤ 200) (hne : sd ≠ da) (gb : n0 ≤ bb) (gd : n0 ≤ da) (hbd : bb ≠ da) :
    MetFree l (⟨"java/lang/AbstractStringBuilder", "append", "(Ljava/lang/String;)Ljava/lang/AbstractStringBuilder;"⟩ : MethodName) (head1 (Jvm.Cond.code (⟨"java/lang/AbstractStringBuilder", "append", "(Ljava/lang/String;)Ljava/lang/AbstractStringBuilder;"⟩ : MethodName) jdk_68_method_22_code 3 (some (.object "java/lang/AbstractStringBuilder")) :: ws) ({ frames := 4, cells := 1, slots := 200, locals := 62 } : Room)) (fun a U => a = #[(.ref bb), (.ref sa)] ∧ Z.Warmed39 U.vm ∧ U.heap = h0) (fun _ _ _ _ _ => True) (fun _ U o U' => ∃ v L, o = .returned v ∧ Qh (some (.ref bb)) h0 n0 [bb, da] (fun h => ∃ da' kd', Bld Z h bb da' kd' (grow N (bs ++ cs).length) (bs ++ cs) ∧ (da' = da ∨ h0.size ≤ da')) v U'.heap L ∧ FrameEnd U o U' L ({ frames := 4, cells := 1, slots := 200, locals := 62 } : Room).cells ({ frames := 4, cells := 1, slots := 200, locals := 62 } : Room).slots) := by
  refine MetFree.of_bodySF (plainFor_of_name pn_java_lang_AbstractStringBuilder) hisR ?_
  intro p e s m args below meth c s₁ Bd hml0 hP hK
  obtain ⟨rfl, hZ, hh⟩ := hP
  have hx := Bd.exec
  have hby := Bd.bytes
  have hml : c.maxLocals = 3 := hml0
  have hown : s.vm.findClass "java/lang/AbstractStringBuilder" = some m.cls := findClass_of_methodNamed Bd.named
  have hnm := (name_of_methodNamed Bd.named Bd.method).1
  have X0 : Stand p l e ({ frames := 4, cells := 1, slots := 200, locals := 62 } : Room) s m #[(.ref bb), (.ref sa)] below meth c s₁ [] 0 0 := Stand.of_body Bd
  have e0 : s₁.heap = h0 := by rw [← hh, Bd.state]; rfl
  have N0 := Fr.nil n0
  have pre0 : ∀ t, Steps p.tables e below (s₁.setTop (mkF m 0 #[.val (.ref bb), .val (.ref sa), .unset] [])) t → Steps p.tables e below (s₁.setTop (entryFrame m #[(.ref bb), (.ref sa)] 3)) t := fun t k => castTop (ef_3_RR m bb sa) k
  obtain ⟨Scmp, hzc⟩ := id hE
  obtain ⟨Eb, Vb, Cb, Nb, Ab⟩ := id hB
  obtain ⟨Es, Vs, Cs, As⟩ := id hS
  obtain ⟨cq1, kq1, q1a, q1b, q1c⟩ := isOf hZ e0 Es
  obtain ⟨_, _, ⟨T1, L1, k1, n1⟩, -, X1, ⟨Lc1, hQ1, l1, y1, z1⟩, st1⟩ := X0.virtualBack hx (y := (⟨"java/lang/String", "length", "()I"⟩ : MethodName)) (z := (⟨"java/lang/String", "length", "()I"⟩ : MethodName)) hown (mvT hZ (hw _ (List.mem_of_getElem? (i := 89) rfl))) (mvT hZ (hw _ (List.mem_of_getElem? (i := 90) rfl))) (notFace_of_selects (args := #[]) (mvT hZ (hw _ (List.mem_of_getElem? (i := 92) rfl)))) (mvT hZ (hw _ (List.mem_of_getElem? (i := 92) rfl))) (mvT hZ (hw _ (List.mem_of_getElem? (i := 91) rfl))) (by decide) (backOf (W := 0) (sb_length l Z a0 hw [] zc sa sd ks cs h0 n0 O hE ⟨Es, Vs, Cs, As⟩) hZ (hw _ (List.mem_of_getElem? (i := 93) rfl)) (hw _ (List.mem_of_getElem? (i := 3) rfl)) (by decide) (by decide)) q1a q1c (g := (mkF m 10 #[.val (.ref bb), .val (.ref sa), .unset] [(.ref sa)])) rfl (by rw [hml]; rfl) (Steps.refl _) (argsL := []) (rest := []) (lenOf pd_2829I rfl) rfl (by show 2 * 0 + _ ≤ _; exact Nat.le_of_eq rfl) (hb hby d7_10) (fun _ _ => ⟨rfl, e0, (by decide : 0 + 0 ≤ _), (by decide : 0 + 0 ≤ _)⟩)
  dsimp only [Pt.U, Pt.locs, Pt.cells, Pt.slots] at X1 l1 y1 z1 st1 hQ1
  rw [l1, y1, z1] at X1
  obtain ⟨rfl, N1q, e1⟩ := hQ1
  have N1 := Fr.app N0 N1q
  obtain ⟨T2, X2, e2, st2⟩ := getF X1 hx hZ hown (host := "") (Or.inl (hw _ (List.mem_of_getElem? (i := 102) rfl))) Via.refl e1 Nb (g := (mkF m 16 #[.val (.ref bb), .val (.ref sa), .val (.int (Int32.ofNat cs.length))] [(.ref bb), (.ref bb)])) rfl rfl (hb hby d7_16)
  obtain ⟨cq3, kq3, q3a, q3b, q3c⟩ := isOf hZ e2 Eb
  obtain ⟨_, _, ⟨T3, L3, k3, n3⟩, -, X3, ⟨Lc3, hQ3, l3, y3, z3⟩, st3⟩ := X2.virtualBack hx (y := (⟨"java/lang/AbstractStringBuilder", "ensureCapacityInternal", "(I)V"⟩ : MethodName)) (z := (⟨"java/lang/AbstractStringBuilder", "ensureCapacityInternal", "(I)V"⟩ : MethodName)) hown (mvT hZ (hw _ (List.mem_of_getElem? (i := 104) rfl))) (mvT hZ (own_decl (hw _ (List.mem_of_getElem? (i := 105) rfl)) (hw _ (List.mem_of_getElem? (i := 108) rfl)))) (notFace_of_selects (args := #[]) (mvT hZ (hw _ (List.mem_of_getElem? (i := 107) rfl)))) (mvT hZ (hw _ (List.mem_of_getElem? (i := 107) rfl))) (mvT hZ (hw _ (List.mem_of_getElem? (i := 105) rfl))) (by decide) (backOf (W := 0) (sb_ensure l Z a0 hw [] bb da kd N bs (bs ++ cs).length h0 n0 O ⟨Eb, Vb, Cb, Nb, Ab⟩ hlen hN hcap gb) hZ (hw _ (List.mem_of_getElem? (i := 108) rfl)) (hw _ (List.mem_of_getElem? (i := 70) rfl)) (by decide) (by decide)) q3a q3c (g := (mkF m 21 #[.val (.ref bb), .val (.ref sa), .val (.int (Int32.ofNat cs.length))] [(.int (Int32.ofNat (bs ++ cs).length)), (.ref bb)])) rfl (by rw [hml]; rfl) (Steps.refl _) (argsL := [(.int (Int32.ofNat (bs ++ cs).length))]) (rest := []) (lenOf pd_28I29V rfl) rfl (by show 2 * 0 + _ ≤ _; exact Nat.le_of_eq rfl) (hb hby d7_21) (fun _ _ => ⟨rfl, e2, (by decide : 0 + 1 ≤ _), (by decide : 0 + 200 ≤ _)⟩)
  dsimp only [Pt.U, Pt.locs, Pt.cells, Pt.slots] at X3 l3 y3 z3 st3 hQ3
  rw [l3, y3, z3] at X3
  obtain ⟨rfl, N3q, K3, dg, kg, Pg3, hdg⟩ := hQ3
  have N3 := Fr.app N1 N3q
  have gdg : n0 ≤ dg := by
    rcases hdg with q | q
    · rw [q]; exact gd
    · have q1 := O.1; have q2 := O.2.1; omega
  have O3 : Old Z n0 T3.heap := O.keep K3 (allS (P := (n0 ≤ ·)) gb all0)
  have Kp3 : Keep h0 T3.heap [bb, da] := (Keep.refl h0 [bb, da]).trans K3 (allS (P := (fun x => x ∈ [bb, da] ∨ h0.size ≤ x)) (Or.inl (by simp)) all0)
  obtain ⟨Eb3, Vb3, Cb3, Nb3, Ab3⟩ := id Pg3
  obtain ⟨T4, X4, e4, st4⟩ := getF X3 hx hZ hown (host := "") (Or.inl (hw _ (List.mem_of_getElem? (i := 102) rfl))) Via.refl rfl Nb3 (g := (mkF m 26 #[.val (.ref bb), .val (.ref sa), .val (.int (Int32.ofNat cs.length))] [(.ref bb), (.ref bb)])) rfl rfl (hb hby d7_26)
  have f5 : Exa Z T3.heap sa "java/lang/String" := (Es.keep K3)
  have f6 : Fld Z T3.heap sa "java/lang/String" "value" "[B" (.ref sd) := (Vs.keep K3 (ninS (Exa.ne Es Eb (by decide)) nin0))
  have f7 : Fld Z T3.heap sa "java/lang/String" "coder" "B" (.int (0 : Int32)) := (Cs.keep K3 (ninS (Exa.ne Es Eb (by decide)) nin0))
  have f8 : Arv Z T3.heap sd ks .byte (Int32.ofNat cs.length) (by8 cs) (.int (0 : Int32)) := (As.keep K3 (ninS (Ne.symm (Exa.neArv Eb As (hw _ (List.mem_of_getElem? (i := 61) rfl)))) nin0))
  obtain ⟨cq9, kq9, q9a, q9b, q9c⟩ := isOf hZ e4 Eb3
  obtain ⟨_, _, ⟨T9, L9, k9, n9⟩, -, X9, ⟨Lc9, hQ9, l9, y9, z9⟩, st9⟩ := X4.virtualBack hx (y := (⟨"java/lang/AbstractStringBuilder", "putStringAt", "(ILjava/lang/String;)V"⟩ : MethodName)) (z := (⟨"java/lang/AbstractStringBuilder", "putStringAt", "(ILjava/lang/String;)V"⟩ : MethodName)) hown (mvT hZ (hw _ (List.mem_of_getElem? (i := 109) rfl))) (mvT hZ (own_decl (hw _ (List.mem_of_getElem? (i := 110) rfl)) (hw _ (List.mem_of_getElem? (i := 113) rfl)))) (notFace_of_selects (args := #[]) (mvT hZ (hw _ (List.mem_of_getElem? (i := 112) rfl)))) (mvT hZ (hw _ (List.mem_of_getElem? (i := 112) rfl))) (mvT hZ (hw _ (List.mem_of_getElem? (i := 110) rfl))) (by decide) (backOf (W := 0) (sb_putStr l Z a0 hw [] zc bb dg kg (grow N (bs ++ cs).length) bs sa sd ks cs T3.heap n0 O3 hE ⟨Eb3, Vb3, Cb3, Nb3, Ab3⟩ ⟨f5, f6, f7, f8⟩ (by rw [← List.length_append]; exact own_leG _ _) (by omega) (own_orne hdg hne As.lt) gdg) hZ (hw _ (List.mem_of_getElem? (i := 113) rfl)) (hw _ (List.mem_of_getElem? (i := 70) rfl)) (by decide) (by decide)) q9a q9c (g := (mkF m 30 #[.val (.ref bb), .val (.ref sa), .val (.int (Int32.ofNat cs.length))] [(.ref sa), (.int (Int32.ofNat bs.length)), (.ref bb)])) rfl (by rw [hml]; rfl) (Steps.refl _) (argsL := [(.int (Int32.ofNat bs.length)), (.ref sa)]) (rest := []) (lenOf pd_28ILjava2flang2fString3b29V rfl) rfl (by show 2 * 0 + _ ≤ _; exact Nat.le_of_eq rfl) (hb hby d7_30) (fun _ _ => ⟨rfl, e4, (by decide : 1 + 0 ≤ _), (by decide : 200 + 0 ≤ _)⟩)
  dsimp only [Pt.U, Pt.locs, Pt.cells, Pt.slots] at X9 l9 y9 z9 st9 hQ9
  rw [l9, y9, z9] at X9
  obtain ⟨rfl, N9q, K9, V9⟩ := hQ9
  have N9 := Fr.app N3 N9q
  have O9 : Old Z n0 T9.heap := O3.keep K9 (allS (P := (n0 ≤ ·)) gdg all0)
  have Kp9 : Keep h0 T9.heap [bb, da] := Kp3.trans K9 (allS (P := (fun x => x ∈ [bb, da] ∨ h0.size ≤ x)) (hdg.elim (fun q => Or.inl (by rw [q]; simp)) Or.inr) all0)
  have f10 : Fld Z T9.heap bb "java/lang/AbstractStringBuilder" "count" "I" (.int (Int32.ofNat bs.length)) := (Nb3.keep K9 (ninS (own_orne hdg hbd Nb.lt) nin0))
  obtain ⟨T11, X11, e11, st11⟩ := getF X9 hx hZ hown (host := "") (Or.inl (hw _ (List.mem_of_getElem? (i := 102) rfl))) Via.refl rfl f10 (g := (mkF m 35 #[.val (.ref bb), .val (.ref sa), .val (.int (Int32.ofNat cs.length))] [(.ref bb), (.ref bb)])) rfl rfl (hb hby d7_35)
  have f12 : Exa Z T9.heap bb "java/lang/StringBuilder" := (Eb3.keep K9)
  obtain ⟨T13, h13, X13, e13, W13, st13⟩ := putF X11 hx hZ hown (host := "") (Or.inl (hw _ (List.mem_of_getElem? (i := 102) rfl))) Via.refl e11 f10 f12 (Or.inl (hw _ (List.mem_of_getElem? (i := 103) rfl))) (hw _ (List.mem_of_getElem? (i := 61) rfl)) (ty := .int) (by decide) rfl rfl (g := (mkF m 40 #[.val (.ref bb), .val (.ref sa), .val (.int (Int32.ofNat cs.length))] [(.int (Int32.ofNat (bs ++ cs).length)), (.ref bb)])) rfl rfl (hb hby d7_40)
  have N13 := Fr.snoc X13 N9 gb
  have O13 : Old Z n0 h13 := O9.wr W13 gb
  have Kp13 : Keep h0 h13 [bb, da] := Kp9.wr W13 (Or.inl (by simp))
  have Fw13 : Fld Z h13 bb "java/lang/AbstractStringBuilder" "count" "I" (.int (Int32.ofNat (bs ++ cs).length)) := f10.same W13
  have f14 : Exa Z h13 bb "java/lang/StringBuilder" := (f12.wr W13)
  have f15 : Fld Z h13 bb "java/lang/AbstractStringBuilder" "value" "[B" (.ref dg) := ((Vb3.keep K9 (ninS (own_orne hdg hbd Nb.lt) nin0)).other W13 (Or.inr (slot_ne (Or.inl (hw _ (List.mem_of_getElem? (i := 75) rfl))) (Or.inl (hw _ (List.mem_of_getElem? (i := 103) rfl))) (by decide) (t := (.array .byte)) (t' := .int) (by decide) (by decide))))
  have f16 : Fld Z h13 bb "java/lang/AbstractStringBuilder" "coder" "B" (.int (0 : Int32)) := ((Cb3.keep K9 (ninS (own_orne hdg hbd Nb.lt) nin0)).other W13 (Or.inr (slot_ne (Or.inl (hw _ (List.mem_of_getElem? (i := 77) rfl))) (Or.inl (hw _ (List.mem_of_getElem? (i := 103) rfl))) (by decide) (t := .byte) (t' := .int) (by decide) (by decide))))
  have f17 : Arv Z h13 dg kg .byte (Int32.ofNat (grow N (bs ++ cs).length)) (by8 (bs ++ cs)) (.int (0 : Int32)) := (V9.other W13 (Ne.symm (own_orne hdg hbd Nb.lt)))
  obtain ⟨fs, hr, hrun, hended, hW, hsame⟩ := X13.leave (v := some (.ref bb)) (fun h => by rw [Bd.returns] at h; cases h)
  refine ⟨_, _, pre0 _ ?_, hrun, hended, _, _, rfl, ?_, ⟨_, rfl⟩, hW, hsame.mono (by decide) (by decide)⟩
  · show Steps p.tables e below (s₁.setTop (mkF m 0 #[.val (.ref bb), .val (.ref sa), .unset] [])) _
    refine XS.aloadN X0.here hx rfl (hb hby d7_0) rfl rfl ?_
    show Steps p.tables e below (s₁.setTop (mkF m 1 #[.val (.ref bb), .val (.ref sa), .unset] [(.ref sa)])) _
    refine XS.ifnonnullYes X0.here hx rfl (pc0 := 1) (pc' := 9) rfl (hb hby d7_1) rfl (by decide) (by decide) ?_
    show Steps p.tables e below (s₁.setTop (mkF m 9 #[.val (.ref bb), .val (.ref sa), .unset] [])) _
    refine XS.aloadN X0.here hx rfl (hb hby d7_9) rfl rfl ?_
    show Steps p.tables e below (s₁.setTop (mkF m 10 #[.val (.ref bb), .val (.ref sa), .unset] [(.ref sa)])) _
    refine st1.trans ?_
    show Steps p.tables e below (T1.setTop (mkF m 13 #[.val (.ref bb), .val (.ref sa), .unset] [(.int (Int32.ofNat cs.length))])) _
    refine XS.istoreN X1.here hx rfl (hb hby d7_13) rfl (l' := #[.val (.ref bb), .val (.ref sa), .val (.int (Int32.ofNat cs.length))]) rfl ?_
    show Steps p.tables e below (T1.setTop (mkF m 14 #[.val (.ref bb), .val (.ref sa), .val (.int (Int32.ofNat cs.length))] [])) _
    refine XS.aloadN X1.here hx rfl (hb hby d7_14) rfl rfl ?_
    show Steps p.tables e below (T1.setTop (mkF m 15 #[.val (.ref bb), .val (.ref sa), .val (.int (Int32.ofNat cs.length))] [(.ref bb)])) _
    refine XS.aloadN X1.here hx rfl (hb hby d7_15) rfl rfl ?_
    show Steps p.tables e below (T1.setTop (mkF m 16 #[.val (.ref bb), .val (.ref sa), .val (.int (Int32.ofNat cs.length))] [(.ref bb), (.ref bb)])) _
    refine st2 _ ?_
    show Steps p.tables e below (T2.setTop (mkF m 19 #[.val (.ref bb), .val (.ref sa), .val (.int (Int32.ofNat cs.length))] [(.int (Int32.ofNat bs.length)), (.ref bb)])) _
    refine XS.iloadN X2.here hx rfl (hb hby d7_19) rfl ?_
    show Steps p.tables e below (T2.setTop (mkF m 20 #[.val (.ref bb), .val (.ref sa), .val (.int (Int32.ofNat cs.length))] [(.int (Int32.ofNat cs.length)), (.int (Int32.ofNat bs.length)), (.ref bb)])) _
    refine XS.iadd X2.here hx rfl (hb hby d7_20) rfl ?_
    show Steps p.tables e below (T2.setTop (mkF m 21 #[.val (.ref bb), .val (.ref sa), .val (.int (Int32.ofNat cs.length))] [(.int ((Int32.ofNat bs.length) + (Int32.ofNat cs.length))), (.ref bb)])) _
    rw [own_addlen]
    show Steps p.tables e below (T2.setTop (mkF m 21 #[.val (.ref bb), .val (.ref sa), .val (.int (Int32.ofNat cs.length))] [(.int (Int32.ofNat (bs ++ cs).length)), (.ref bb)])) _
    refine st3.trans ?_
    show Steps p.tables e below (T3.setTop (mkF m 24 #[.val (.ref bb), .val (.ref sa), .val (.int (Int32.ofNat cs.length))] [])) _
    refine XS.aloadN X3.here hx rfl (hb hby d7_24) rfl rfl ?_
    show Steps p.tables e below (T3.setTop (mkF m 25 #[.val (.ref bb), .val (.ref sa), .val (.int (Int32.ofNat cs.length))] [(.ref bb)])) _
    refine XS.aloadN X3.here hx rfl (hb hby d7_25) rfl rfl ?_
    show Steps p.tables e below (T3.setTop (mkF m 26 #[.val (.ref bb), .val (.ref sa), .val (.int (Int32.ofNat cs.length))] [(.ref bb), (.ref bb)])) _
    refine st4 _ ?_
    show Steps p.tables e below (T4.setTop (mkF m 29 #[.val (.ref bb), .val (.ref sa), .val (.int (Int32.ofNat cs.length))] [(.int (Int32.ofNat bs.length)), (.ref bb)])) _
    refine XS.aloadN X4.here hx rfl (hb hby d7_29) rfl rfl ?_
    show Steps p.tables e below (T4.setTop (mkF m 30 #[.val (.ref bb), .val (.ref sa), .val (.int (Int32.ofNat cs.length))] [(.ref sa), (.int (Int32.ofNat bs.length)), (.ref bb)])) _
    refine st9.trans ?_
    show Steps p.tables e below (T9.setTop (mkF m 33 #[.val (.ref bb), .val (.ref sa), .val (.int (Int32.ofNat cs.length))] [])) _
    refine XS.aloadN X9.here hx rfl (hb hby d7_33) rfl rfl ?_
    show Steps p.tables e below (T9.setTop (mkF m 34 #[.val (.ref bb), .val (.ref sa), .val (.int (Int32.ofNat cs.length))] [(.ref bb)])) _
    refine XS.dup X9.here hx rfl (hb hby d7_34) rfl rfl ?_
    show Steps p.tables e below (T9.setTop (mkF m 35 #[.val (.ref bb), .val (.ref sa), .val (.int (Int32.ofNat cs.length))] [(.ref bb), (.ref bb)])) _
    refine st11 _ ?_
    show Steps p.tables e below (T11.setTop (mkF m 38 #[.val (.ref bb), .val (.ref sa), .val (.int (Int32.ofNat cs.length))] [(.int (Int32.ofNat bs.length)), (.ref bb)])) _
    refine XS.iloadN X11.here hx rfl (hb hby d7_38) rfl ?_
    show Steps p.tables e below (T11.setTop (mkF m 39 #[.val (.ref bb), .val (.ref sa), .val (.int (Int32.ofNat cs.length))] [(.int (Int32.ofNat cs.length)), (.int (Int32.ofNat bs.length)), (.ref bb)])) _
    refine XS.iadd X11.here hx rfl (hb hby d7_39) rfl ?_
    show Steps p.tables e below (T11.setTop (mkF m 40 #[.val (.ref bb), .val (.ref sa), .val (.int (Int32.ofNat cs.length))] [(.int ((Int32.ofNat bs.length) + (Int32.ofNat cs.length))), (.ref bb)])) _
    rw [own_addlen]
    show Steps p.tables e below (T11.setTop (mkF m 40 #[.val (.ref bb), .val (.ref sa), .val (.int (Int32.ofNat cs.length))] [(.int (Int32.ofNat (bs ++ cs).length)), (.ref bb)])) _
    refine st13 _ ?_
    show Steps p.tables e below (T13.setTop (mkF m 43 #[.val (.ref bb), .val (.ref sa), .val (.int (Int32.ofNat cs.length))] [])) _
    refine XS.aloadN X13.here hx rfl (hb hby d7_43) rfl rfl ?_
    show Steps p.tables e below (T13.setTop (mkF m 44 #[.val (.ref bb), .val (.ref sa), .val (.int (Int32.ofNat cs.length))] [(.ref bb)])) _
    exact retOut X13 hx Bd.returns rfl (Or.inr (Or.inr (Or.inr (Or.inr ⟨rfl, rfl, rfl⟩)))) (hb hby d7_44) hr
  · exact by show Qh _ h0 n0 _ _ (some (.ref bb)) T13.heap _; rw [e13]; exact ⟨rfl, N13, Kp13, _, _, ⟨f14, f15, f16, Fw13, f17⟩, hdg⟩
theorem d6_0 : decode jdk_67_method_7_code 0 = .ok (.aload_n 0, 1) := by decide +kernel
theorem d6_1 : decode jdk_67_method_7_code 1 = .ok (.aload_n 1, 1) := by decide +kernel
theorem pd_28Ljava2flang2fString3b29Ljava2flang2fAbstractStringBuilder3b : parseMethodDescriptor "(Ljava/lang/String;)Ljava/lang/AbstractStringBuilder;" = some ⟨[(.object "java/lang/String")], some (.object "java/lang/AbstractStringBuilder")⟩ := by decide +kernel
theorem d6_2 : decode jdk_67_method_7_code 2 = .ok (.invokespecial 29, 3) := by decide +kernel
theorem d6_5 : decode jdk_67_method_7_code 5 = .ok (.pop, 1) := by decide +kernel
theorem d6_6 : decode jdk_67_method_7_code 6 = .ok (.aload_n 0, 1) := by decide +kernel
theorem d6_7 : decode jdk_67_method_7_code 7 = .ok (.areturn, 1) := by decide +kernel
set_option maxRecDepth 65536 in
set_option maxHeartbeats 40000000 in
theorem sb_sbS (l : Launch) (Z : State) (a0 : Array Value) (hw : ∀ d ∈ tables_1, d.before a0 Z = true) (ws : List Jvm.Cond) (zc : Int32) (bb da : Addr) (kd : ClassId) (N : Nat) (bs : List Int32) (sa sd : Addr) (ks : ClassId) (cs : List Int32) (h0 : Heap) (n0 : Nat) (O : Old Z n0 h0) (hE : EnvS Z zc) (hB : Bld Z h0 bb da kd N bs) (hS : Str Z h0 sa sd ks cs) (hlen : bs.length ≤ N) (hN : N ≤ 1000) (hcap : grow N (bs ++ cs).length ≤ 200) (hne : sd ≠ da) (gb : n0 ≤ bb) (gd : n0 ≤ da) (hbd : bb ≠ da) :
    MetFree l (⟨"java/lang/StringBuilder", "append", "(Ljava/lang/String;)Ljava/lang/StringBuilder;"⟩ : MethodName) (head1 (Jvm.Cond.code (⟨"java/lang/StringBuilder", "append", "(Ljava/lang/String;)Ljava/lang/StringBuilder;"⟩ : MethodName) jdk_67_method_7_code 2 (some (.object "java/lang/StringBuilder")) :: ws) ({ frames := 5, cells := 1, slots := 200, locals := 76 } : Room)) (fun a U => a = #[(.ref bb), (.ref sa)] ∧ Z.Warmed39 U.vm ∧ U.heap = h0) (fun _ _ _ _ _ => True) (fun _ U o U' => ∃ v L, o = .returned v ∧ Qh (some (.ref bb)) h0 n0 [bb, da] (fun h => ∃ da' kd', Bld Z h bb da' kd' (grow N (bs ++ cs).length) (bs ++ cs) ∧ (da' = da ∨ h0.size ≤ da')) v U'.heap L ∧ FrameEnd U o U' L ({ frames := 5, cells := 1, slots := 200, locals := 76 } : Room).cells ({ frames := 5, cells := 1, slots := 200, locals := 76 } : Room).slots) := by
  refine MetFree.of_bodySF (plainFor_of_name pn_java_lang_StringBuilder) hisR ?_
  intro p e s m args below meth c s₁ Bd hml0 hP hK
  obtain ⟨rfl, hZ, hh⟩ := hP
  have hx := Bd.exec
  have hby := Bd.bytes
  have hml : c.maxLocals = 2 := hml0
  have hown : s.vm.findClass "java/lang/StringBuilder" = some m.cls := findClass_of_methodNamed Bd.named
  have hnm := (name_of_methodNamed Bd.named Bd.method).1
  have X0 : Stand p l e ({ frames := 5, cells := 1, slots := 200, locals := 76 } : Room) s m #[(.ref bb), (.ref sa)] below meth c s₁ [] 0 0 := Stand.of_body Bd
  have e0 : s₁.heap = h0 := by rw [← hh, Bd.state]; rfl
  have N0 := Fr.nil n0
  have pre0 : ∀ t, Steps p.tables e below (s₁.setTop (mkF m 0 #[.val (.ref bb), .val (.ref sa)] [])) t → Steps p.tables e below (s₁.setTop (entryFrame m #[(.ref bb), (.ref sa)] 2)) t := fun t k => castTop (ef_2_RR m bb sa) k
  obtain ⟨Scmp, hzc⟩ := id hE
  obtain ⟨Eb, Vb, Cb, Nb, Ab⟩ := id hB
  obtain ⟨_, _, ⟨T1, L1, k1, n1⟩, -, X1, ⟨Lc1, hQ1, l1, y1, z1⟩, st1⟩ := superBack X0 hx hZ (y := (⟨"java/lang/AbstractStringBuilder", "append", "(Ljava/lang/String;)Ljava/lang/AbstractStringBuilder;"⟩ : MethodName)) hown (hw _ (List.mem_of_getElem? (i := 84) rfl)) (own_same (hw _ (List.mem_of_getElem? (i := 107) rfl)) rfl (hw _ (List.mem_of_getElem? (i := 87) rfl)) (by decide)) (hw _ (List.mem_of_getElem? (i := 85) rfl)) (hw _ (List.mem_of_getElem? (i := 86) rfl)) (by decide) (backOf (W := 0) (sb_asbS l Z a0 hw [] zc bb da kd N bs sa sd ks cs h0 n0 O hE hB hS hlen hN hcap hne gb gd hbd) hZ (hw _ (List.mem_of_getElem? (i := 88) rfl)) (hw _ (List.mem_of_getElem? (i := 70) rfl)) (by decide) (by decide)) e0 (Ins.self Eb) (g := (mkF m 2 #[.val (.ref bb), .val (.ref sa)] [(.ref sa), (.ref bb)])) rfl (by rw [hml]; rfl) (hw _ (List.mem_of_getElem? (i := 88) rfl)) (argsL := [(.ref sa)]) (rest := []) (lenOf pd_28Ljava2flang2fString3b29Ljava2flang2fAbstractStringBuilder3b rfl) rfl (by show 2 * 0 + _ ≤ _; exact Nat.le_of_eq rfl) (hb hby d6_2) (fun _ _ => ⟨rfl, e0, (by decide : 0 + 1 ≤ _), (by decide : 0 + 200 ≤ _)⟩)
  dsimp only [Pt.U, Pt.locs, Pt.cells, Pt.slots] at X1 l1 y1 z1 st1 hQ1
  rw [l1, y1, z1] at X1
  obtain ⟨rfl, N1q, K1, P1⟩ := hQ1
  have N1 := Fr.app N0 N1q
  have O1 : Old Z n0 T1.heap := O.keep K1 (allS (P := (n0 ≤ ·)) gb (allS (P := (n0 ≤ ·)) gd all0))
  have Kp1 : Keep h0 T1.heap [bb, da] := (Keep.refl h0 [bb, da]).trans K1 (allS (P := (fun x => x ∈ [bb, da] ∨ h0.size ≤ x)) (Or.inl (by simp)) (allS (P := (fun x => x ∈ [bb, da] ∨ h0.size ≤ x)) (Or.inl (by simp)) all0))
  have Pf := P1
  obtain ⟨fs, hr, hrun, hended, hW, hsame⟩ := X1.leave (v := some (.ref bb)) (fun h => by rw [Bd.returns] at h; cases h)
  refine ⟨_, _, pre0 _ ?_, hrun, hended, _, _, rfl, ?_, ⟨_, rfl⟩, hW, hsame.mono (by decide) (by decide)⟩
  · show Steps p.tables e below (s₁.setTop (mkF m 0 #[.val (.ref bb), .val (.ref sa)] [])) _
    refine XS.aloadN X0.here hx rfl (hb hby d6_0) rfl rfl ?_
    show Steps p.tables e below (s₁.setTop (mkF m 1 #[.val (.ref bb), .val (.ref sa)] [(.ref bb)])) _
    refine XS.aloadN X0.here hx rfl (hb hby d6_1) rfl rfl ?_
    show Steps p.tables e below (s₁.setTop (mkF m 2 #[.val (.ref bb), .val (.ref sa)] [(.ref sa), (.ref bb)])) _
    refine st1.trans ?_
    show Steps p.tables e below (T1.setTop (mkF m 5 #[.val (.ref bb), .val (.ref sa)] [(.ref bb)])) _
    refine XS.pop X1.here hx rfl (hb hby d6_5) rfl rfl ?_
    show Steps p.tables e below (T1.setTop (mkF m 6 #[.val (.ref bb), .val (.ref sa)] [])) _
    refine XS.aloadN X1.here hx rfl (hb hby d6_6) rfl rfl ?_
    show Steps p.tables e below (T1.setTop (mkF m 7 #[.val (.ref bb), .val (.ref sa)] [(.ref bb)])) _
    exact retOut X1 hx Bd.returns rfl (Or.inr (Or.inr (Or.inr (Or.inr ⟨rfl, rfl, rfl⟩)))) (hb hby d6_7) hr
  · exact by show Qh _ h0 n0 _ _ (some (.ref bb)) T1.heap _; exact ⟨rfl, N1, Kp1, Pf⟩
theorem d17_0 : decode jdk_68_method_68_code 0 = .ok (.getstatic 18, 3) := by decide +kernel
theorem d17_3 : decode jdk_68_method_68_code 3 = .ok (.ifCond .eq 14, 3) := by decide +kernel
theorem d17_6 : decode jdk_68_method_68_code 6 = .ok (.aload_n 0, 1) := by decide +kernel
theorem d17_7 : decode jdk_68_method_68_code 7 = .ok (.getfield 22, 3) := by decide +kernel
theorem d17_10 : decode jdk_68_method_68_code 10 = .ok (.ifCond .ne 7, 3) := by decide +kernel
theorem d17_13 : decode jdk_68_method_68_code 13 = .ok (.iconst 1, 1) := by decide +kernel
theorem d17_14 : decode jdk_68_method_68_code 14 = .ok (.goto 4, 3) := by decide +kernel
theorem d17_18 : decode jdk_68_method_68_code 18 = .ok (.ireturn, 1) := by decide +kernel
set_option maxRecDepth 65536 in
set_option maxHeartbeats 40000000 in
theorem sb_isLatin1 (l : Launch) (Z : State) (a0 : Array Value) (hw : ∀ d ∈ tables_1, d.before a0 Z = true) (ws : List Jvm.Cond) (zc : Int32) (bb : Addr) (h0 : Heap) (n0 : Nat) (O : Old Z n0 h0) (hE : EnvS Z zc) (C : Fld Z h0 bb "java/lang/AbstractStringBuilder" "coder" "B" (.int (0 : Int32))) :
    MetFree l (⟨"java/lang/AbstractStringBuilder", "isLatin1", "()Z"⟩ : MethodName) (head1 (Jvm.Cond.code (⟨"java/lang/AbstractStringBuilder", "isLatin1", "()Z"⟩ : MethodName) jdk_68_method_68_code 1 (some .boolean) :: ws) ({ frames := 0, cells := 0, slots := 0, locals := 0 } : Room)) (fun a U => a = #[(.ref bb)] ∧ Z.Warmed39 U.vm ∧ U.heap = h0) (fun _ _ _ _ _ => True) (fun _ U o U' => ∃ v L, o = .returned v ∧ Qv (some (.int (1 : Int32))) h0 n0 v U'.heap L ∧ FrameEnd U o U' L ({ frames := 0, cells := 0, slots := 0, locals := 0 } : Room).cells ({ frames := 0, cells := 0, slots := 0, locals := 0 } : Room).slots) := by
  refine MetFree.of_bodySF (plainFor_of_name pn_java_lang_AbstractStringBuilder) hisR ?_
  intro p e s m args below meth c s₁ Bd hml0 hP hK
  obtain ⟨rfl, hZ, hh⟩ := hP
  have hx := Bd.exec
  have hby := Bd.bytes
  have hml : c.maxLocals = 1 := hml0
  have hown : s.vm.findClass "java/lang/AbstractStringBuilder" = some m.cls := findClass_of_methodNamed Bd.named
  have hnm := (name_of_methodNamed Bd.named Bd.method).1
  have X0 : Stand p l e ({ frames := 0, cells := 0, slots := 0, locals := 0 } : Room) s m #[(.ref bb)] below meth c s₁ [] 0 0 := Stand.of_body Bd
  have e0 : s₁.heap = h0 := by rw [← hh, Bd.state]; rfl
  have N0 := Fr.nil n0
  have pre0 : ∀ t, Steps p.tables e below (s₁.setTop (mkF m 0 #[.val (.ref bb)] [])) t → Steps p.tables e below (s₁.setTop (entryFrame m #[(.ref bb)] 1)) t := fun t k => castTop (ef_1_R m bb) k
  obtain ⟨Scmp, hzc⟩ := id hE
  obtain ⟨T1, X1, e1, st1⟩ := getS2 X0 hx hZ hown (host := "") (Or.inl (hw _ (List.mem_of_getElem? (i := 73) rfl))) Via.refl e0 (Scmp.ext O.2) (g := (mkF m 0 #[.val (.ref bb)] [])) rfl (hb hby d17_0)
  obtain ⟨T2, X2, e2, st2⟩ := getF X1 hx hZ hown (host := "") (Or.inl (hw _ (List.mem_of_getElem? (i := 76) rfl))) Via.refl e1 C (g := (mkF m 7 #[.val (.ref bb)] [(.ref bb)])) rfl rfl (hb hby d17_7)
  obtain ⟨fs, hr, hrun, hended, hW, hsame⟩ := X2.leave (v := some (.int (1 : Int32))) (fun h => by rw [Bd.returns] at h; cases h)
  refine ⟨_, _, pre0 _ ?_, hrun, hended, _, _, rfl, ?_, ⟨_, rfl⟩, hW, hsame.mono (by decide) (by decide)⟩
  · show Steps p.tables e below (s₁.setTop (mkF m 0 #[.val (.ref bb)] [])) _
    refine st1 _ ?_
    show Steps p.tables e below (T1.setTop (mkF m 3 #[.val (.ref bb)] [(.int zc)])) _
    refine XS.ifNo X1.here hx rfl (hb hby d17_3) rfl ((if0 _ _).trans (feq (hzc : ¬ (zc = (0 : Int32)))).1) ?_
    show Steps p.tables e below (T1.setTop (mkF m 6 #[.val (.ref bb)] [])) _
    refine XS.aloadN X1.here hx rfl (hb hby d17_6) rfl rfl ?_
    show Steps p.tables e below (T1.setTop (mkF m 7 #[.val (.ref bb)] [(.ref bb)])) _
    refine st2 _ ?_
    show Steps p.tables e below (T2.setTop (mkF m 10 #[.val (.ref bb)] [(.int (0 : Int32))])) _
    refine XS.ifNo X2.here hx rfl (hb hby d17_10) rfl ((if0 _ _).trans (teq ((by decide) : (0 : Int32) = (0 : Int32))).2) ?_
    show Steps p.tables e below (T2.setTop (mkF m 13 #[.val (.ref bb)] [])) _
    refine XS.iconst X2.here hx rfl (hb hby d17_13) ?_
    show Steps p.tables e below (T2.setTop (mkF m 14 #[.val (.ref bb)] [(.int (1 : Int32))])) _
    refine XS.goto X2.here hx rfl (pc0 := 14) (pc' := 18) rfl (hb hby d17_14) (by decide) (by decide) ?_
    show Steps p.tables e below (T2.setTop (mkF m 18 #[.val (.ref bb)] [(.int (1 : Int32))])) _
    exact retN X2 hx (t := .boolean) Bd.returns (by simp) (hb hby d17_18) hr
  · exact ⟨rfl, N0, e2⟩
theorem d15_0 : decode jdk_68_method_32_code 0 = .ok (.aload_n 0, 1) := by decide +kernel
theorem d15_1 : decode jdk_68_method_32_code 1 = .ok (.getfield 79, 3) := by decide +kernel
theorem d15_4 : decode jdk_68_method_32_code 4 = .ok (.istore_n 2, 1) := by decide +kernel
theorem d15_5 : decode jdk_68_method_32_code 5 = .ok (.iload_n 2, 1) := by decide +kernel
theorem d15_6 : decode jdk_68_method_32_code 6 = .ok (.iload_n 1, 1) := by decide +kernel
theorem d15_7 : decode jdk_68_method_32_code 7 = .ok (.invokestatic 245, 3) := by decide +kernel
theorem d15_10 : decode jdk_68_method_32_code 10 = .ok (.iadd, 1) := by decide +kernel
theorem d15_11 : decode jdk_68_method_32_code 11 = .ok (.istore_n 3, 1) := by decide +kernel
theorem d15_12 : decode jdk_68_method_32_code 12 = .ok (.aload_n 0, 1) := by decide +kernel
theorem d15_13 : decode jdk_68_method_32_code 13 = .ok (.iload_n 3, 1) := by decide +kernel
theorem d15_14 : decode jdk_68_method_32_code 14 = .ok (.invokevirtual 100, 3) := by decide +kernel
theorem d15_17 : decode jdk_68_method_32_code 17 = .ok (.aload_n 0, 1) := by decide +kernel
theorem pd_2829Z : parseMethodDescriptor "()Z" = some ⟨[], some .boolean⟩ := by decide +kernel
theorem d15_18 : decode jdk_68_method_32_code 18 = .ok (.invokevirtual 83, 3) := by decide +kernel
theorem d15_21 : decode jdk_68_method_32_code 21 = .ok (.ifCond .eq 16, 3) := by decide +kernel
theorem d15_24 : decode jdk_68_method_32_code 24 = .ok (.iload_n 1, 1) := by decide +kernel
theorem d15_25 : decode jdk_68_method_32_code 25 = .ok (.iload_n 3, 1) := by decide +kernel
theorem d15_26 : decode jdk_68_method_32_code 26 = .ok (.aload_n 0, 1) := by decide +kernel
theorem d15_27 : decode jdk_68_method_32_code 27 = .ok (.getfield 15, 3) := by decide +kernel
theorem pd_28II5bB29I : parseMethodDescriptor "(II[B)I" = some ⟨[.int, .int, (.array .byte)], some .int⟩ := by decide +kernel
theorem d15_30 : decode jdk_68_method_32_code 30 = .ok (.invokestatic 248, 3) := by decide +kernel
theorem d15_33 : decode jdk_68_method_32_code 33 = .ok (.pop, 1) := by decide +kernel
theorem d15_34 : decode jdk_68_method_32_code 34 = .ok (.goto 14, 3) := by decide +kernel
theorem d15_48 : decode jdk_68_method_32_code 48 = .ok (.aload_n 0, 1) := by decide +kernel
theorem d15_49 : decode jdk_68_method_32_code 49 = .ok (.iload_n 3, 1) := by decide +kernel
theorem d15_50 : decode jdk_68_method_32_code 50 = .ok (.putfield 79, 3) := by decide +kernel
theorem d15_53 : decode jdk_68_method_32_code 53 = .ok (.aload_n 0, 1) := by decide +kernel
theorem d15_54 : decode jdk_68_method_32_code 54 = .ok (.areturn, 1) := by decide +kernel
theorem ef_4_RI (m : MethodId) (x0 : Addr) (x1 : Int32) : entryFrame m #[(.ref x0), (.int x1)] 4 = mkF m 0 #[.val (.ref x0), .val (.int x1), .unset, .unset] [] := by first | (simp [entryFrame, mkF, argsToLocals, Value.category]; done) | rfl
set_option maxRecDepth 65536 in
set_option maxHeartbeats 40000000 in
theorem sb_asbI (l : Launch) (Z : State) (a0 : Array Value) (hw : ∀ d ∈ tables_1, d.before a0 Z = true) (ws : List Jvm.Cond) (zc : Int32) (bb da : Addr) (kd : ClassId) (N : Nat) (bs : List Int32) (x : Int32) (ist d1 d2 : Addr) (h0 : Heap) (n0 : Nat) (O : Old Z n0 h0) (hE : EnvS Z zc) (hB : Bld Z h0 bb da kd N bs) (hD : EnvD Z ist d1 d2) (hlen : bs.length ≤ N) (hN : N ≤ 1000) (hcap : (grow N (bs ++ decI x).length) ≤ 200) (gb : n0 ≤ bb) (gd : n0 ≤ da) (hbd : bb ≠ da) :
    MetFree l (⟨"java/lang/AbstractStringBuilder", "append", "(I)Ljava/lang/AbstractStringBuilder;"⟩ : MethodName) (head1 (Jvm.Cond.code (⟨"java/lang/AbstractStringBuilder", "append", "(I)Ljava/lang/AbstractStringBuilder;"⟩ : MethodName) jdk_68_method_32_code 4 (some (.object "java/lang/AbstractStringBuilder")) :: ws) ({ frames := 4, cells := 1, slots := 200, locals := 78 } : Room)) (fun a U => a = #[(.ref bb), (.int x)] ∧ Z.Warmed39 U.vm ∧ U.heap = h0) (fun _ _ _ _ _ => True) (fun _ U o U' => ∃ v L, o = .returned v ∧ Qh (some (.ref bb)) h0 n0 [bb, da] (fun h => ∃ da' kd', Bld Z h bb da' kd' (grow N (bs ++ decI x).length) (bs ++ decI x) ∧ (da' = da ∨ h0.size ≤ da')) v U'.heap L ∧ FrameEnd U o U' L ({ frames := 4, cells := 1, slots := 200, locals := 78 } : Room).cells ({ frames := 4, cells := 1, slots := 200, locals := 78 } : Room).slots) := by
  refine MetFree.of_bodySF (plainFor_of_name pn_java_lang_AbstractStringBuilder) hisR ?_
  intro p e s m args below meth c s₁ Bd hml0 hP hK
  obtain ⟨rfl, hZ, hh⟩ := hP
  have hx := Bd.exec
  have hby := Bd.bytes
  have hml : c.maxLocals = 4 := hml0
  have hown : s.vm.findClass "java/lang/AbstractStringBuilder" = some m.cls := findClass_of_methodNamed Bd.named
  have hnm := (name_of_methodNamed Bd.named Bd.method).1
  have X0 : Stand p l e ({ frames := 4, cells := 1, slots := 200, locals := 78 } : Room) s m #[(.ref bb), (.int x)] below meth c s₁ [] 0 0 := Stand.of_body Bd
  have e0 : s₁.heap = h0 := by rw [← hh, Bd.state]; rfl
  have N0 := Fr.nil n0
  have pre0 : ∀ t, Steps p.tables e below (s₁.setTop (mkF m 0 #[.val (.ref bb), .val (.int x), .unset, .unset] [])) t → Steps p.tables e below (s₁.setTop (entryFrame m #[(.ref bb), (.int x)] 4)) t := fun t k => castTop (ef_4_RI m bb x) k
  obtain ⟨Scmp, hzc⟩ := id hE
  obtain ⟨Eb, Vb, Cb, Nb, Ab⟩ := id hB
  obtain ⟨T1, X1, e1, st1⟩ := getF X0 hx hZ hown (host := "") (Or.inl (hw _ (List.mem_of_getElem? (i := 102) rfl))) Via.refl e0 Nb (g := (mkF m 1 #[.val (.ref bb), .val (.int x), .unset, .unset] [(.ref bb)])) rfl rfl (hb hby d15_1)
  obtain ⟨_, _, ⟨T2, L2, k2, n2⟩, -, X2, ⟨Lc2, hQ2, l2, y2, z2⟩, st2⟩ := Jvm.LawKit.callS X1 hx (y := (⟨"java/lang/Integer", "stringSize", "(I)I"⟩ : MethodName)) hown (mvT hZ (hw _ (List.mem_of_getElem? (i := 138) rfl))) (mvT hZ (hw _ (List.mem_of_getElem? (i := 139) rfl))) (mvT hZ (hw _ (List.mem_of_getElem? (i := 140) rfl))) (mvT hZ (hw _ (List.mem_of_getElem? (i := 141) rfl))) (by decide) (sb_sizeB (W := 1) (n0 := n0) hZ (hw _ (List.mem_of_getElem? (i := 141) rfl)) (hw _ (List.mem_of_getElem? (i := 140) rfl)) x (by decide) (by decide)) (g := (mkF m 7 #[.val (.ref bb), .val (.int x), .val (.int (Int32.ofNat bs.length)), .unset] [(.int x), (.int (Int32.ofNat bs.length))])) rfl (by rw [hml]; rfl) (argsL := [(.int x)]) (rest := [(.int (Int32.ofNat bs.length))]) (lenOf pd_28I29I rfl) rfl (by show 2 * 0 + _ ≤ _; exact Nat.le_of_eq rfl) (hb hby d15_7) (fun _ _ => ⟨rfl, e1, (by decide : 0 + 0 ≤ _), (by decide : 0 + 0 ≤ _)⟩)
  dsimp only [Pt.U, Pt.locs, Pt.cells, Pt.slots] at X2 l2 y2 z2 st2 hQ2
  rw [l2, y2, z2] at X2
  obtain ⟨rfl, N2q, e2⟩ := hQ2
  have N2 := Fr.app N0 N2q
  obtain ⟨cq3, kq3, q3a, q3b, q3c⟩ := isOf hZ e2 Eb
  obtain ⟨_, _, ⟨T3, L3, k3, n3⟩, -, X3, ⟨Lc3, hQ3, l3, y3, z3⟩, st3⟩ := X2.virtualBack hx (y := (⟨"java/lang/AbstractStringBuilder", "ensureCapacityInternal", "(I)V"⟩ : MethodName)) (z := (⟨"java/lang/AbstractStringBuilder", "ensureCapacityInternal", "(I)V"⟩ : MethodName)) hown (mvT hZ (hw _ (List.mem_of_getElem? (i := 104) rfl))) (mvT hZ (own_decl (hw _ (List.mem_of_getElem? (i := 105) rfl)) (hw _ (List.mem_of_getElem? (i := 108) rfl)))) (notFace_of_selects (args := #[]) (mvT hZ (hw _ (List.mem_of_getElem? (i := 107) rfl)))) (mvT hZ (hw _ (List.mem_of_getElem? (i := 107) rfl))) (mvT hZ (hw _ (List.mem_of_getElem? (i := 105) rfl))) (by decide) (backOf (W := 0) (sb_ensure l Z a0 hw [] bb da kd N bs (bs ++ decI x).length h0 n0 O ⟨Eb, Vb, Cb, Nb, Ab⟩ hlen hN hcap gb) hZ (hw _ (List.mem_of_getElem? (i := 108) rfl)) (hw _ (List.mem_of_getElem? (i := 70) rfl)) (by decide) (by decide)) q3a q3c (g := (mkF m 14 #[.val (.ref bb), .val (.int x), .val (.int (Int32.ofNat bs.length)), .val (.int (Int32.ofNat (bs ++ decI x).length))] [(.int (Int32.ofNat (bs ++ decI x).length)), (.ref bb)])) rfl (by rw [hml]; rfl) (Steps.refl _) (argsL := [(.int (Int32.ofNat (bs ++ decI x).length))]) (rest := []) (lenOf pd_28I29V rfl) rfl (by show 2 * 0 + _ ≤ _; exact Nat.le_of_eq rfl) (hb hby d15_14) (fun _ _ => ⟨rfl, e2, (by decide : 0 + 1 ≤ _), (by decide : 0 + 200 ≤ _)⟩)
  dsimp only [Pt.U, Pt.locs, Pt.cells, Pt.slots] at X3 l3 y3 z3 st3 hQ3
  rw [l3, y3, z3] at X3
  obtain ⟨rfl, N3q, K3, dg, kg, Pg3, hdg⟩ := hQ3
  have N3 := Fr.app N2 N3q
  have gdg : n0 ≤ dg := by
    rcases hdg with q | q
    · rw [q]; exact gd
    · have q1 := O.1; have q2 := O.2.1; omega
  have O3 : Old Z n0 T3.heap := O.keep K3 (allS (P := (n0 ≤ ·)) gb all0)
  have Kp3 : Keep h0 T3.heap [bb, da] := (Keep.refl h0 [bb, da]).trans K3 (allS (P := (fun x => x ∈ [bb, da] ∨ h0.size ≤ x)) (Or.inl (by simp)) all0)
  obtain ⟨Eb3, Vb3, Cb3, Nb3, Ab3⟩ := id Pg3
  obtain ⟨cq4, kq4, q4a, q4b, q4c⟩ := isOf hZ rfl Eb3
  obtain ⟨_, _, ⟨T4, L4, k4, n4⟩, -, X4, ⟨Lc4, hQ4, l4, y4, z4⟩, st4⟩ := X3.virtualBack hx (y := (⟨"java/lang/AbstractStringBuilder", "isLatin1", "()Z"⟩ : MethodName)) (z := (⟨"java/lang/AbstractStringBuilder", "isLatin1", "()Z"⟩ : MethodName)) hown (mvT hZ (hw _ (List.mem_of_getElem? (i := 142) rfl))) (mvT hZ (hw _ (List.mem_of_getElem? (i := 143) rfl))) (notFace_of_selects (args := #[]) (mvT hZ (hw _ (List.mem_of_getElem? (i := 145) rfl)))) (mvT hZ (hw _ (List.mem_of_getElem? (i := 145) rfl))) (mvT hZ (hw _ (List.mem_of_getElem? (i := 144) rfl))) (by decide) (backOf (W := 0) (sb_isLatin1 l Z a0 hw [] zc bb T3.heap n0 O3 hE Cb3) hZ (hw _ (List.mem_of_getElem? (i := 146) rfl)) (hw _ (List.mem_of_getElem? (i := 70) rfl)) (by decide) (by decide)) q4a q4c (g := (mkF m 18 #[.val (.ref bb), .val (.int x), .val (.int (Int32.ofNat bs.length)), .val (.int (Int32.ofNat (bs ++ decI x).length))] [(.ref bb)])) rfl (by rw [hml]; rfl) (Steps.refl _) (argsL := []) (rest := []) (lenOf pd_2829Z rfl) rfl (by show 2 * 0 + _ ≤ _; exact Nat.le_of_eq rfl) (hb hby d15_18) (fun _ _ => ⟨rfl, rfl, (by decide : 1 + 0 ≤ _), (by decide : 200 + 0 ≤ _)⟩)
  dsimp only [Pt.U, Pt.locs, Pt.cells, Pt.slots] at X4 l4 y4 z4 st4 hQ4
  rw [l4, y4, z4] at X4
  obtain ⟨rfl, N4q, e4⟩ := hQ4
  have N4 := Fr.app N3 N4q
  obtain ⟨T5, X5, e5, st5⟩ := getF X4 hx hZ hown (host := "") (Or.inl (hw _ (List.mem_of_getElem? (i := 74) rfl))) Via.refl e4 Vb3 (g := (mkF m 27 #[.val (.ref bb), .val (.int x), .val (.int (Int32.ofNat bs.length)), .val (.int (Int32.ofNat (bs ++ decI x).length))] [(.ref bb), (.int (Int32.ofNat (bs ++ decI x).length)), (.int x)])) rfl rfl (hb hby d15_27)
  obtain ⟨_, _, ⟨T6, L6, k6, n6⟩, -, X6, ⟨Lc6, hQ6, l6, y6, z6⟩, st6⟩ := Jvm.LawKit.callS X5 hx (y := (⟨"java/lang/Integer", "getChars", "(II[B)I"⟩ : MethodName)) hown (mvT hZ (hw _ (List.mem_of_getElem? (i := 147) rfl))) (mvT hZ (hw _ (List.mem_of_getElem? (i := 148) rfl))) (mvT hZ (hw _ (List.mem_of_getElem? (i := 140) rfl))) (mvT hZ (hw _ (List.mem_of_getElem? (i := 149) rfl))) (by decide) (sb_charsB (W := 0) (n0 := n0) hZ (hw _ (List.mem_of_getElem? (i := 149) rfl)) (hw _ (List.mem_of_getElem? (i := 150) rfl)) (hw _ (List.mem_of_getElem? (i := 222) rfl)) (hw _ (List.mem_of_getElem? (i := 140) rfl)) hD O3 Ab3 (by rw [← List.length_append]; exact own_leG _ _) (by omega) gdg (by decide) (by decide)) (g := (mkF m 30 #[.val (.ref bb), .val (.int x), .val (.int (Int32.ofNat bs.length)), .val (.int (Int32.ofNat (bs ++ decI x).length))] [(.ref dg), (.int (Int32.ofNat (bs ++ decI x).length)), (.int x)])) rfl (by rw [hml]; rfl) (argsL := [(.int x), (.int (Int32.ofNat (bs ++ decI x).length)), (.ref dg)]) (rest := []) (lenOf pd_28II5bB29I rfl) rfl (by show 2 * 0 + _ ≤ _; exact Nat.le_of_eq rfl) (hb hby d15_30) (fun _ _ => ⟨rfl, e5, (by decide : 1 + 0 ≤ _), (by decide : 200 + 0 ≤ _)⟩)
  dsimp only [Pt.U, Pt.locs, Pt.cells, Pt.slots] at X6 l6 y6 z6 st6 hQ6
  rw [l6, y6, z6] at X6
  obtain ⟨zz, rfl, N6q, K6, V6⟩ := hQ6
  have N6 := Fr.app N4 N6q
  have O6 : Old Z n0 T6.heap := O3.keep K6 (allS (P := (n0 ≤ ·)) gdg all0)
  have Kp6 : Keep h0 T6.heap [bb, da] := Kp3.trans K6 (allS (P := (fun x => x ∈ [bb, da] ∨ h0.size ≤ x)) (hdg.elim (fun q => Or.inl (by rw [q]; simp)) Or.inr) all0)
  have f7 : Exa Z T6.heap bb "java/lang/StringBuilder" := (Eb3.keep K6)
  have f8 : Fld Z T6.heap bb "java/lang/AbstractStringBuilder" "count" "I" (.int (Int32.ofNat bs.length)) := (Nb3.keep K6 (ninS (own_orne hdg hbd Nb.lt) nin0))
  obtain ⟨T9, h9, X9, e9, W9, st9⟩ := putF X6 hx hZ hown (host := "") (Or.inl (hw _ (List.mem_of_getElem? (i := 102) rfl))) Via.refl rfl f8 f7 (Or.inl (hw _ (List.mem_of_getElem? (i := 103) rfl))) (hw _ (List.mem_of_getElem? (i := 61) rfl)) (ty := .int) (by decide) rfl rfl (g := (mkF m 50 #[.val (.ref bb), .val (.int x), .val (.int (Int32.ofNat bs.length)), .val (.int (Int32.ofNat (bs ++ decI x).length))] [(.int (Int32.ofNat (bs ++ decI x).length)), (.ref bb)])) rfl rfl (hb hby d15_50)
  have N9 := Fr.snoc X9 N6 gb
  have O9 : Old Z n0 h9 := O6.wr W9 gb
  have Kp9 : Keep h0 h9 [bb, da] := Kp6.wr W9 (Or.inl (by simp))
  have Fw9 : Fld Z h9 bb "java/lang/AbstractStringBuilder" "count" "I" (.int (Int32.ofNat (bs ++ decI x).length)) := f8.same W9
  have f10 : Exa Z h9 bb "java/lang/StringBuilder" := (f7.wr W9)
  have f11 : Fld Z h9 bb "java/lang/AbstractStringBuilder" "value" "[B" (.ref dg) := ((Vb3.keep K6 (ninS (own_orne hdg hbd Nb.lt) nin0)).other W9 (Or.inr (slot_ne (Or.inl (hw _ (List.mem_of_getElem? (i := 75) rfl))) (Or.inl (hw _ (List.mem_of_getElem? (i := 103) rfl))) (by decide) (t := (.array .byte)) (t' := .int) (by decide) (by decide))))
  have f12 : Fld Z h9 bb "java/lang/AbstractStringBuilder" "coder" "B" (.int (0 : Int32)) := ((Cb3.keep K6 (ninS (own_orne hdg hbd Nb.lt) nin0)).other W9 (Or.inr (slot_ne (Or.inl (hw _ (List.mem_of_getElem? (i := 77) rfl))) (Or.inl (hw _ (List.mem_of_getElem? (i := 103) rfl))) (by decide) (t := .byte) (t' := .int) (by decide) (by decide))))
  have f13 : Arv Z h9 dg kg .byte (Int32.ofNat (grow N (bs ++ decI x).length)) (by8 (bs ++ decI x)) (.int (0 : Int32)) := (V6.other W9 (Ne.symm (own_orne hdg hbd Nb.lt)))
  obtain ⟨fs, hr, hrun, hended, hW, hsame⟩ := X9.leave (v := some (.ref bb)) (fun h => by rw [Bd.returns] at h; cases h)
  refine ⟨_, _, pre0 _ ?_, hrun, hended, _, _, rfl, ?_, ⟨_, rfl⟩, hW, hsame.mono (by decide) (by decide)⟩
  · show Steps p.tables e below (s₁.setTop (mkF m 0 #[.val (.ref bb), .val (.int x), .unset, .unset] [])) _
    refine XS.aloadN X0.here hx rfl (hb hby d15_0) rfl rfl ?_
    show Steps p.tables e below (s₁.setTop (mkF m 1 #[.val (.ref bb), .val (.int x), .unset, .unset] [(.ref bb)])) _
    refine st1 _ ?_
    show Steps p.tables e below (T1.setTop (mkF m 4 #[.val (.ref bb), .val (.int x), .unset, .unset] [(.int (Int32.ofNat bs.length))])) _
    refine XS.istoreN X1.here hx rfl (hb hby d15_4) rfl (l' := #[.val (.ref bb), .val (.int x), .val (.int (Int32.ofNat bs.length)), .unset]) rfl ?_
    show Steps p.tables e below (T1.setTop (mkF m 5 #[.val (.ref bb), .val (.int x), .val (.int (Int32.ofNat bs.length)), .unset] [])) _
    refine XS.iloadN X1.here hx rfl (hb hby d15_5) rfl ?_
    show Steps p.tables e below (T1.setTop (mkF m 6 #[.val (.ref bb), .val (.int x), .val (.int (Int32.ofNat bs.length)), .unset] [(.int (Int32.ofNat bs.length))])) _
    refine XS.iloadN X1.here hx rfl (hb hby d15_6) rfl ?_
    show Steps p.tables e below (T1.setTop (mkF m 7 #[.val (.ref bb), .val (.int x), .val (.int (Int32.ofNat bs.length)), .unset] [(.int x), (.int (Int32.ofNat bs.length))])) _
    refine st2 _ ?_
    show Steps p.tables e below (T2.setTop (mkF m 10 #[.val (.ref bb), .val (.int x), .val (.int (Int32.ofNat bs.length)), .unset] [(.int (Int32.ofNat (decI x).length)), (.int (Int32.ofNat bs.length))])) _
    refine XS.iadd X2.here hx rfl (hb hby d15_10) rfl ?_
    show Steps p.tables e below (T2.setTop (mkF m 11 #[.val (.ref bb), .val (.int x), .val (.int (Int32.ofNat bs.length)), .unset] [(.int ((Int32.ofNat bs.length) + (Int32.ofNat (decI x).length)))])) _
    rw [own_addlen]
    show Steps p.tables e below (T2.setTop (mkF m 11 #[.val (.ref bb), .val (.int x), .val (.int (Int32.ofNat bs.length)), .unset] [(.int (Int32.ofNat (bs ++ decI x).length))])) _
    refine XS.istoreN X2.here hx rfl (hb hby d15_11) rfl (l' := #[.val (.ref bb), .val (.int x), .val (.int (Int32.ofNat bs.length)), .val (.int (Int32.ofNat (bs ++ decI x).length))]) rfl ?_
    show Steps p.tables e below (T2.setTop (mkF m 12 #[.val (.ref bb), .val (.int x), .val (.int (Int32.ofNat bs.length)), .val (.int (Int32.ofNat (bs ++ decI x).length))] [])) _
    refine XS.aloadN X2.here hx rfl (hb hby d15_12) rfl rfl ?_
    show Steps p.tables e below (T2.setTop (mkF m 13 #[.val (.ref bb), .val (.int x), .val (.int (Int32.ofNat bs.length)), .val (.int (Int32.ofNat (bs ++ decI x).length))] [(.ref bb)])) _
    refine XS.iloadN X2.here hx rfl (hb hby d15_13) rfl ?_
    show Steps p.tables e below (T2.setTop (mkF m 14 #[.val (.ref bb), .val (.int x), .val (.int (Int32.ofNat bs.length)), .val (.int (Int32.ofNat (bs ++ decI x).length))] [(.int (Int32.ofNat (bs ++ decI x).length)), (.ref bb)])) _
    refine st3.trans ?_
    show Steps p.tables e below (T3.setTop (mkF m 17 #[.val (.ref bb), .val (.int x), .val (.int (Int32.ofNat bs.length)), .val (.int (Int32.ofNat (bs ++ decI x).length))] [])) _
    refine XS.aloadN X3.here hx rfl (hb hby d15_17) rfl rfl ?_
    show Steps p.tables e below (T3.setTop (mkF m 18 #[.val (.ref bb), .val (.int x), .val (.int (Int32.ofNat bs.length)), .val (.int (Int32.ofNat (bs ++ decI x).length))] [(.ref bb)])) _
    refine st4.trans ?_
    show Steps p.tables e below (T4.setTop (mkF m 21 #[.val (.ref bb), .val (.int x), .val (.int (Int32.ofNat bs.length)), .val (.int (Int32.ofNat (bs ++ decI x).length))] [(.int (1 : Int32))])) _
    refine XS.ifNo X4.here hx rfl (hb hby d15_21) rfl ((if0 _ _).trans (feq ((by decide) : ¬ ((1 : Int32) = (0 : Int32)))).1) ?_
    show Steps p.tables e below (T4.setTop (mkF m 24 #[.val (.ref bb), .val (.int x), .val (.int (Int32.ofNat bs.length)), .val (.int (Int32.ofNat (bs ++ decI x).length))] [])) _
    refine XS.iloadN X4.here hx rfl (hb hby d15_24) rfl ?_
    show Steps p.tables e below (T4.setTop (mkF m 25 #[.val (.ref bb), .val (.int x), .val (.int (Int32.ofNat bs.length)), .val (.int (Int32.ofNat (bs ++ decI x).length))] [(.int x)])) _
    refine XS.iloadN X4.here hx rfl (hb hby d15_25) rfl ?_
    show Steps p.tables e below (T4.setTop (mkF m 26 #[.val (.ref bb), .val (.int x), .val (.int (Int32.ofNat bs.length)), .val (.int (Int32.ofNat (bs ++ decI x).length))] [(.int (Int32.ofNat (bs ++ decI x).length)), (.int x)])) _
    refine XS.aloadN X4.here hx rfl (hb hby d15_26) rfl rfl ?_
    show Steps p.tables e below (T4.setTop (mkF m 27 #[.val (.ref bb), .val (.int x), .val (.int (Int32.ofNat bs.length)), .val (.int (Int32.ofNat (bs ++ decI x).length))] [(.ref bb), (.int (Int32.ofNat (bs ++ decI x).length)), (.int x)])) _
    refine st5 _ ?_
    show Steps p.tables e below (T5.setTop (mkF m 30 #[.val (.ref bb), .val (.int x), .val (.int (Int32.ofNat bs.length)), .val (.int (Int32.ofNat (bs ++ decI x).length))] [(.ref dg), (.int (Int32.ofNat (bs ++ decI x).length)), (.int x)])) _
    refine st6 _ ?_
    show Steps p.tables e below (T6.setTop (mkF m 33 #[.val (.ref bb), .val (.int x), .val (.int (Int32.ofNat bs.length)), .val (.int (Int32.ofNat (bs ++ decI x).length))] [(.int zz)])) _
    refine XS.pop X6.here hx rfl (hb hby d15_33) rfl rfl ?_
    show Steps p.tables e below (T6.setTop (mkF m 34 #[.val (.ref bb), .val (.int x), .val (.int (Int32.ofNat bs.length)), .val (.int (Int32.ofNat (bs ++ decI x).length))] [])) _
    refine XS.goto X6.here hx rfl (pc0 := 34) (pc' := 48) rfl (hb hby d15_34) (by decide) (by decide) ?_
    show Steps p.tables e below (T6.setTop (mkF m 48 #[.val (.ref bb), .val (.int x), .val (.int (Int32.ofNat bs.length)), .val (.int (Int32.ofNat (bs ++ decI x).length))] [])) _
    refine XS.aloadN X6.here hx rfl (hb hby d15_48) rfl rfl ?_
    show Steps p.tables e below (T6.setTop (mkF m 49 #[.val (.ref bb), .val (.int x), .val (.int (Int32.ofNat bs.length)), .val (.int (Int32.ofNat (bs ++ decI x).length))] [(.ref bb)])) _
    refine XS.iloadN X6.here hx rfl (hb hby d15_49) rfl ?_
    show Steps p.tables e below (T6.setTop (mkF m 50 #[.val (.ref bb), .val (.int x), .val (.int (Int32.ofNat bs.length)), .val (.int (Int32.ofNat (bs ++ decI x).length))] [(.int (Int32.ofNat (bs ++ decI x).length)), (.ref bb)])) _
    refine st9 _ ?_
    show Steps p.tables e below (T9.setTop (mkF m 53 #[.val (.ref bb), .val (.int x), .val (.int (Int32.ofNat bs.length)), .val (.int (Int32.ofNat (bs ++ decI x).length))] [])) _
    refine XS.aloadN X9.here hx rfl (hb hby d15_53) rfl rfl ?_
    show Steps p.tables e below (T9.setTop (mkF m 54 #[.val (.ref bb), .val (.int x), .val (.int (Int32.ofNat bs.length)), .val (.int (Int32.ofNat (bs ++ decI x).length))] [(.ref bb)])) _
    exact retOut X9 hx Bd.returns rfl (Or.inr (Or.inr (Or.inr (Or.inr ⟨rfl, rfl, rfl⟩)))) (hb hby d15_54) hr
  · exact by show Qh _ h0 n0 _ _ (some (.ref bb)) T9.heap _; rw [e9]; exact ⟨rfl, N9, Kp9, _, _, ⟨f10, f11, f12, Fw9, f13⟩, hdg⟩
theorem d14_0 : decode jdk_67_method_15_code 0 = .ok (.aload_n 0, 1) := by decide +kernel
theorem d14_1 : decode jdk_67_method_15_code 1 = .ok (.iload_n 1, 1) := by decide +kernel
theorem pd_28I29Ljava2flang2fAbstractStringBuilder3b : parseMethodDescriptor "(I)Ljava/lang/AbstractStringBuilder;" = some ⟨[.int], some (.object "java/lang/AbstractStringBuilder")⟩ := by decide +kernel
theorem d14_2 : decode jdk_67_method_15_code 2 = .ok (.invokespecial 53, 3) := by decide +kernel
theorem d14_5 : decode jdk_67_method_15_code 5 = .ok (.pop, 1) := by decide +kernel
theorem d14_6 : decode jdk_67_method_15_code 6 = .ok (.aload_n 0, 1) := by decide +kernel
theorem d14_7 : decode jdk_67_method_15_code 7 = .ok (.areturn, 1) := by decide +kernel
theorem ef_2_RI (m : MethodId) (x0 : Addr) (x1 : Int32) : entryFrame m #[(.ref x0), (.int x1)] 2 = mkF m 0 #[.val (.ref x0), .val (.int x1)] [] := by first | (simp [entryFrame, mkF, argsToLocals, Value.category]; done) | rfl
set_option maxRecDepth 65536 in
set_option maxHeartbeats 40000000 in
theorem sb_sbI (l : Launch) (Z : State) (a0 : Array Value) (hw : ∀ d ∈ tables_1, d.before a0 Z = true) (ws : List Jvm.Cond) (zc : Int32) (bb da : Addr) (kd : ClassId) (N : Nat) (bs : List Int32) (x : Int32) (ist d1 d2 : Addr) (h0 : Heap) (n0 : Nat) (O : Old Z n0 h0) (hE : EnvS Z zc) (hB : Bld Z h0 bb da kd N bs) (hD : EnvD Z ist d1 d2) (hlen : bs.length ≤ N) (hN : N ≤ 1000) (hcap : (grow N (bs ++ decI x).length) ≤ 200) (gb : n0 ≤ bb) (gd : n0 ≤ da) (hbd : bb ≠ da) :
    MetFree l (⟨"java/lang/StringBuilder", "append", "(I)Ljava/lang/StringBuilder;"⟩ : MethodName) (head1 (Jvm.Cond.code (⟨"java/lang/StringBuilder", "append", "(I)Ljava/lang/StringBuilder;"⟩ : MethodName) jdk_67_method_15_code 2 (some (.object "java/lang/StringBuilder")) :: ws) ({ frames := 5, cells := 1, slots := 200, locals := 93 } : Room)) (fun a U => a = #[(.ref bb), (.int x)] ∧ Z.Warmed39 U.vm ∧ U.heap = h0) (fun _ _ _ _ _ => True) (fun _ U o U' => ∃ v L, o = .returned v ∧ Qh (some (.ref bb)) h0 n0 [bb, da] (fun h => ∃ da' kd', Bld Z h bb da' kd' (grow N (bs ++ decI x).length) (bs ++ decI x) ∧ (da' = da ∨ h0.size ≤ da')) v U'.heap L ∧ FrameEnd U o U' L ({ frames := 5, cells := 1, slots := 200, locals := 93 } : Room).cells ({ frames := 5, cells := 1, slots := 200, locals := 93 } : Room).slots) := by
  refine MetFree.of_bodySF (plainFor_of_name pn_java_lang_StringBuilder) hisR ?_
  intro p e s m args below meth c s₁ Bd hml0 hP hK
  obtain ⟨rfl, hZ, hh⟩ := hP
  have hx := Bd.exec
  have hby := Bd.bytes
  have hml : c.maxLocals = 2 := hml0
  have hown : s.vm.findClass "java/lang/StringBuilder" = some m.cls := findClass_of_methodNamed Bd.named
  have hnm := (name_of_methodNamed Bd.named Bd.method).1
  have X0 : Stand p l e ({ frames := 5, cells := 1, slots := 200, locals := 93 } : Room) s m #[(.ref bb), (.int x)] below meth c s₁ [] 0 0 := Stand.of_body Bd
  have e0 : s₁.heap = h0 := by rw [← hh, Bd.state]; rfl
  have N0 := Fr.nil n0
  have pre0 : ∀ t, Steps p.tables e below (s₁.setTop (mkF m 0 #[.val (.ref bb), .val (.int x)] [])) t → Steps p.tables e below (s₁.setTop (entryFrame m #[(.ref bb), (.int x)] 2)) t := fun t k => castTop (ef_2_RI m bb x) k
  obtain ⟨Scmp, hzc⟩ := id hE
  obtain ⟨Eb, Vb, Cb, Nb, Ab⟩ := id hB
  obtain ⟨_, _, ⟨T1, L1, k1, n1⟩, -, X1, ⟨Lc1, hQ1, l1, y1, z1⟩, st1⟩ := superBack X0 hx hZ (y := (⟨"java/lang/AbstractStringBuilder", "append", "(I)Ljava/lang/AbstractStringBuilder;"⟩ : MethodName)) hown (hw _ (List.mem_of_getElem? (i := 134) rfl)) (own_same (hw _ (List.mem_of_getElem? (i := 107) rfl)) rfl (hw _ (List.mem_of_getElem? (i := 136) rfl)) (by decide)) (hw _ (List.mem_of_getElem? (i := 135) rfl)) (hw _ (List.mem_of_getElem? (i := 86) rfl)) (by decide) (backOf (W := 0) (sb_asbI l Z a0 hw [] zc bb da kd N bs x ist d1 d2 h0 n0 O hE hB hD hlen hN hcap gb gd hbd) hZ (hw _ (List.mem_of_getElem? (i := 137) rfl)) (hw _ (List.mem_of_getElem? (i := 70) rfl)) (by decide) (by decide)) e0 (Ins.self Eb) (g := (mkF m 2 #[.val (.ref bb), .val (.int x)] [(.int x), (.ref bb)])) rfl (by rw [hml]; rfl) (hw _ (List.mem_of_getElem? (i := 137) rfl)) (argsL := [(.int x)]) (rest := []) (lenOf pd_28I29Ljava2flang2fAbstractStringBuilder3b rfl) rfl (by show 2 * 0 + _ ≤ _; exact Nat.le_of_eq rfl) (hb hby d14_2) (fun _ _ => ⟨rfl, e0, (by decide : 0 + 1 ≤ _), (by decide : 0 + 200 ≤ _)⟩)
  dsimp only [Pt.U, Pt.locs, Pt.cells, Pt.slots] at X1 l1 y1 z1 st1 hQ1
  rw [l1, y1, z1] at X1
  obtain ⟨rfl, N1q, K1, P1⟩ := hQ1
  have N1 := Fr.app N0 N1q
  have O1 : Old Z n0 T1.heap := O.keep K1 (allS (P := (n0 ≤ ·)) gb (allS (P := (n0 ≤ ·)) gd all0))
  have Kp1 : Keep h0 T1.heap [bb, da] := (Keep.refl h0 [bb, da]).trans K1 (allS (P := (fun x => x ∈ [bb, da] ∨ h0.size ≤ x)) (Or.inl (by simp)) (allS (P := (fun x => x ∈ [bb, da] ∨ h0.size ≤ x)) (Or.inl (by simp)) all0))
  have Pf := P1
  obtain ⟨fs, hr, hrun, hended, hW, hsame⟩ := X1.leave (v := some (.ref bb)) (fun h => by rw [Bd.returns] at h; cases h)
  refine ⟨_, _, pre0 _ ?_, hrun, hended, _, _, rfl, ?_, ⟨_, rfl⟩, hW, hsame.mono (by decide) (by decide)⟩
  · show Steps p.tables e below (s₁.setTop (mkF m 0 #[.val (.ref bb), .val (.int x)] [])) _
    refine XS.aloadN X0.here hx rfl (hb hby d14_0) rfl rfl ?_
    show Steps p.tables e below (s₁.setTop (mkF m 1 #[.val (.ref bb), .val (.int x)] [(.ref bb)])) _
    refine XS.iloadN X0.here hx rfl (hb hby d14_1) rfl ?_
    show Steps p.tables e below (s₁.setTop (mkF m 2 #[.val (.ref bb), .val (.int x)] [(.int x), (.ref bb)])) _
    refine st1.trans ?_
    show Steps p.tables e below (T1.setTop (mkF m 5 #[.val (.ref bb), .val (.int x)] [(.ref bb)])) _
    refine XS.pop X1.here hx rfl (hb hby d14_5) rfl rfl ?_
    show Steps p.tables e below (T1.setTop (mkF m 6 #[.val (.ref bb), .val (.int x)] [])) _
    refine XS.aloadN X1.here hx rfl (hb hby d14_6) rfl rfl ?_
    show Steps p.tables e below (T1.setTop (mkF m 7 #[.val (.ref bb), .val (.int x)] [(.ref bb)])) _
    exact retOut X1 hx Bd.returns rfl (Or.inr (Or.inr (Or.inr (Or.inr ⟨rfl, rfl, rfl⟩)))) (hb hby d14_7) hr
  · exact by show Qh _ h0 n0 _ _ (some (.ref bb)) T1.heap _; exact ⟨rfl, N1, Kp1, Pf⟩
theorem d31_0 : decode jdk_65_method_133_code 0 = .ok (.iload_n 1, 1) := by decide +kernel
theorem d31_1 : decode jdk_65_method_133_code 1 = .ok (.iload_n 2, 1) := by decide +kernel
theorem pd_28II29V : parseMethodDescriptor "(II)V" = some ⟨[.int, .int], none⟩ := by decide +kernel
theorem d31_2 : decode jdk_65_method_133_code 2 = .ok (.invokestatic 343, 3) := by decide +kernel
theorem d31_5 : decode jdk_65_method_133_code 5 = .ok (.iload_n 2, 1) := by decide +kernel
theorem d31_6 : decode jdk_65_method_133_code 6 = .ok (.iload_n 1, 1) := by decide +kernel
theorem d31_7 : decode jdk_65_method_133_code 7 = .ok (.isub, 1) := by decide +kernel
theorem d31_8 : decode jdk_65_method_133_code 8 = .ok (.istore_n 3, 1) := by decide +kernel
theorem d31_9 : decode jdk_65_method_133_code 9 = .ok (.iload_n 3, 1) := by decide +kernel
theorem d31_10 : decode jdk_65_method_133_code 10 = .ok (.newarray .byte, 2) := by decide +kernel
theorem d31_12 : decode jdk_65_method_133_code 12 = .ok (.astore 4, 2) := by decide +kernel
theorem d31_14 : decode jdk_65_method_133_code 14 = .ok (.aload_n 0, 1) := by decide +kernel
theorem d31_15 : decode jdk_65_method_133_code 15 = .ok (.iload_n 1, 1) := by decide +kernel
theorem d31_16 : decode jdk_65_method_133_code 16 = .ok (.aload 4, 2) := by decide +kernel
theorem d31_18 : decode jdk_65_method_133_code 18 = .ok (.iconst 0, 1) := by decide +kernel
theorem d31_19 : decode jdk_65_method_133_code 19 = .ok (.aload_n 0, 1) := by decide +kernel
theorem d31_20 : decode jdk_65_method_133_code 20 = .ok (.arraylength, 1) := by decide +kernel
theorem d31_21 : decode jdk_65_method_133_code 21 = .ok (.iload_n 1, 1) := by decide +kernel
theorem d31_22 : decode jdk_65_method_133_code 22 = .ok (.isub, 1) := by decide +kernel
theorem d31_23 : decode jdk_65_method_133_code 23 = .ok (.iload_n 3, 1) := by decide +kernel
theorem d31_24 : decode jdk_65_method_133_code 24 = .ok (.invokestatic 304, 3) := by decide +kernel
theorem d31_27 : decode jdk_65_method_133_code 27 = .ok (.invokestatic 150, 3) := by decide +kernel
theorem d31_30 : decode jdk_65_method_133_code 30 = .ok (.aload 4, 2) := by decide +kernel
theorem d31_32 : decode jdk_65_method_133_code 32 = .ok (.areturn, 1) := by decide +kernel
theorem ef_5_RII (m : MethodId) (x0 : Addr) (x1 : Int32) (x2 : Int32) : entryFrame m #[(.ref x0), (.int x1), (.int x2)] 5 = mkF m 0 #[.val (.ref x0), .val (.int x1), .val (.int x2), .unset, .unset] [] := by first | (simp [entryFrame, mkF, argsToLocals, Value.category]; done) | rfl
set_option maxRecDepth 65536 in
set_option maxHeartbeats 40000000 in
theorem sb_corb (l : Launch) (Z : State) (a0 : Array Value) (hw : ∀ d ∈ tables_1, d.before a0 Z = true) (ws : List Jvm.Cond) (da : Addr) (kd : ClassId) (N : Nat) (bs : List Int32) (h0 : Heap) (n0 : Nat) (O : Old Z n0 h0) (A : Arv Z h0 da kd .byte (Int32.ofNat N) (by8 bs) (.int (0 : Int32))) (hlt : bs.length < N) (hN : N ≤ 200) :
    MetFree l (⟨"java/util/Arrays", "copyOfRangeByte", "([BII)[B"⟩ : MethodName) (head1 (Jvm.Cond.code (⟨"java/util/Arrays", "copyOfRangeByte", "([BII)[B"⟩ : MethodName) jdk_65_method_133_code 5 (some (.array .byte)) :: ws) ({ frames := 1, cells := 1, slots := 200, locals := 18 } : Room)) (fun a U => a = #[(.ref da), (.int (0 : Int32)), (.int (Int32.ofNat bs.length))] ∧ Z.Warmed39 U.vm ∧ U.heap = h0) (fun _ _ _ _ _ => True) (fun _ U o U' => ∃ v L, o = .returned v ∧ Qx h0 n0 [] (fun x h => (∃ k, Arv Z h x k .byte (Int32.ofNat bs.length) (by8 bs) (.int (0 : Int32))) ∧ h0.size ≤ x) v U'.heap L ∧ FrameEnd U o U' L ({ frames := 1, cells := 1, slots := 200, locals := 18 } : Room).cells ({ frames := 1, cells := 1, slots := 200, locals := 18 } : Room).slots) := by
  refine MetFree.of_bodySF (plainFor_of_name pn_java_util_Arrays) hisR ?_
  intro p e s m args below meth c s₁ Bd hml0 hP hK
  obtain ⟨rfl, hZ, hh⟩ := hP
  have hx := Bd.exec
  have hby := Bd.bytes
  have hml : c.maxLocals = 5 := hml0
  have hown : s.vm.findClass "java/util/Arrays" = some m.cls := findClass_of_methodNamed Bd.named
  have hnm := (name_of_methodNamed Bd.named Bd.method).1
  have X0 : Stand p l e ({ frames := 1, cells := 1, slots := 200, locals := 18 } : Room) s m #[(.ref da), (.int (0 : Int32)), (.int (Int32.ofNat bs.length))] below meth c s₁ [] 0 0 := Stand.of_body Bd
  have e0 : s₁.heap = h0 := by rw [← hh, Bd.state]; rfl
  have N0 := Fr.nil n0
  have pre0 : ∀ t, Steps p.tables e below (s₁.setTop (mkF m 0 #[.val (.ref da), .val (.int (0 : Int32)), .val (.int (Int32.ofNat bs.length)), .unset, .unset] [])) t → Steps p.tables e below (s₁.setTop (entryFrame m #[(.ref da), (.int (0 : Int32)), (.int (Int32.ofNat bs.length))] 5)) t := fun t k => castTop (ef_5_RII m da (0 : Int32) (Int32.ofNat bs.length)) k
  have hN : N ≤ 1000 := by omega
  obtain ⟨_, _, ⟨T1, L1, k1, n1⟩, -, X1, ⟨Lc1, hQ1, l1, y1, z1⟩, st1⟩ := Jvm.LawKit.callS X0 hx (y := (⟨"java/util/Arrays", "checkLength", "(II)V"⟩ : MethodName)) hown (mvT hZ (hw _ (List.mem_of_getElem? (i := 209) rfl))) (mvT hZ (hw _ (List.mem_of_getElem? (i := 210) rfl))) (mvT hZ (hw _ (List.mem_of_getElem? (i := 169) rfl))) (mvT hZ (hw _ (List.mem_of_getElem? (i := 211) rfl))) (by decide) (backOf (W := 0) (sb_check l Z a0 hw [] bs.length h0 n0 O (by omega)) hZ (hw _ (List.mem_of_getElem? (i := 211) rfl)) (hw _ (List.mem_of_getElem? (i := 169) rfl)) (by decide) (by decide)) (g := (mkF m 2 #[.val (.ref da), .val (.int (0 : Int32)), .val (.int (Int32.ofNat bs.length)), .unset, .unset] [(.int (Int32.ofNat bs.length)), (.int (0 : Int32))])) rfl (by rw [hml]; rfl) (argsL := [(.int (0 : Int32)), (.int (Int32.ofNat bs.length))]) (rest := []) (lenOf pd_28II29V rfl) rfl (by show 2 * 0 + _ ≤ _; exact Nat.le_of_eq rfl) (hb hby d31_2) (fun _ _ => ⟨rfl, e0, (by decide : 0 + 0 ≤ _), (by decide : 0 + 0 ≤ _)⟩)
  dsimp only [Pt.U, Pt.locs, Pt.cells, Pt.slots] at X1 l1 y1 z1 st1 hQ1
  rw [l1, y1, z1] at X1
  obtain ⟨rfl, N1q, e1⟩ := hQ1
  have N1 := Fr.app N0 N1q
  obtain ⟨T2, h2, k2, X2, e2, E2, A2, st2⟩ := newP X1 hx hZ (hw _ (List.mem_of_getElem? (i := 5) rfl)) e1 (g := (mkF m 10 #[.val (.ref da), .val (.int (0 : Int32)), .val (.int (Int32.ofNat bs.length)), .val (.int (Int32.ofNat bs.length)), .unset] [(.int (Int32.ofNat bs.length))])) rfl (hb hby d31_10) rfl (own_nn (by omega)) (cap := 200) (by rw [own_cl (by omega)]; omega) (by decide) (by decide) (by decide)
  obtain ⟨b2, g2⟩ : ∃ z, z = h0.size := ⟨_, rfl⟩
  rw [← g2] at A2 st2
  have gb2 : n0 ≤ b2 := by have q1 := O.1; have q2 := O.2.1; omega
  have gs2 : h0.size ≤ b2 := by have q := ((Keep.refl h0 [])).1; omega
  have V2 : Arv Z h2 b2 k2 .byte (Int32.ofNat bs.length) [] (.int (0 : Int32)) := Arv.new A2 (own_nn (by omega))
  have O2 : Old Z n0 h2 := O.ext E2
  have Kp2 : Keep h0 h2 [] := (Keep.refl h0 []).ext E2
  have f3 : Arv Z h2 da kd .byte (Int32.ofNat N) (by8 bs) (.int (0 : Int32)) := (A.ext E2)
  obtain ⟨cw4, A4, q4, s4, n4, H4, G4⟩ := id f3
  obtain ⟨_, _, ⟨T5, L5, k5, n5⟩, -, X5, ⟨Lc5, hQ5, l5, y5, z5⟩, st5⟩ := Jvm.LawKit.callS X2 hx (y := (⟨"java/lang/Math", "min", "(II)I"⟩ : MethodName)) hown (mvT hZ (hw _ (List.mem_of_getElem? (i := 171) rfl))) (mvT hZ (hw _ (List.mem_of_getElem? (i := 172) rfl))) (mvT hZ (hw _ (List.mem_of_getElem? (i := 163) rfl))) (mvT hZ (hw _ (List.mem_of_getElem? (i := 173) rfl))) (by decide) (backOf (W := 4) (sb_min2 l Z a0 hw [] N bs.length h2 n0 O2 hN hlt) hZ (hw _ (List.mem_of_getElem? (i := 173) rfl)) (hw _ (List.mem_of_getElem? (i := 163) rfl)) (by decide) (by decide)) (g := (mkF m 24 #[.val (.ref da), .val (.int (0 : Int32)), .val (.int (Int32.ofNat bs.length)), .val (.int (Int32.ofNat bs.length)), .val (.ref b2)] [(.int (Int32.ofNat bs.length)), (.int (Int32.ofNat N)), (.int (0 : Int32)), (.ref b2), (.int (0 : Int32)), (.ref da)])) rfl (by rw [hml]; rfl) (argsL := [(.int (Int32.ofNat N)), (.int (Int32.ofNat bs.length))]) (rest := [(.int (0 : Int32)), (.ref b2), (.int (0 : Int32)), (.ref da)]) (lenOf pd_28II29I rfl) rfl (by show 2 * 0 + _ ≤ _; exact Nat.le_of_eq rfl) (hb hby d31_24) (fun _ _ => ⟨rfl, e2, (by decide : 1 + 0 ≤ _), (by decide : 200 + 0 ≤ _)⟩)
  dsimp only [Pt.U, Pt.locs, Pt.cells, Pt.slots] at X5 l5 y5 z5 st5 hQ5
  rw [l5, y5, z5] at X5
  obtain ⟨rfl, N5q, e5⟩ := hQ5
  have N5 := Fr.app N1 N5q
  have Bp : Arv Z h2 b2 k2 .byte (Int32.ofNat bs.length) ([] ++ List.replicate bs.length (.int (0 : Int32))) (.int (0 : Int32)) := V2.pad (pad_rep [] (.int (0 : Int32)) bs.length)
  obtain ⟨T6, h6, L6, X6, e6, N6, K6, V6, st6⟩ := cpA X5 hx hZ hown (hw _ (List.mem_of_getElem? (i := 174) rfl)) (hw _ (List.mem_of_getElem? (i := 128) rfl)) (hw _ (List.mem_of_getElem? (i := 126) rfl)) (hw _ (List.mem_of_getElem? (i := 127) rfl)) e5 f3 Bp (Or.inl ⟨rfl, rfl⟩) (by decide) (by decide) (own_nn (by omega)) (by rw [own_cl (by omega), own_cl hN]; show 0 + bs.length ≤ N; omega) (by rw [own_cl (by omega)]; show 0 + bs.length ≤ bs.length; omega) rfl (by rw [own_cl (by omega)]; simp) N5 gb2 (g := (mkF m 27 #[.val (.ref da), .val (.int (0 : Int32)), .val (.int (Int32.ofNat bs.length)), .val (.int (Int32.ofNat bs.length)), .val (.ref b2)] [(.int (Int32.ofNat bs.length)), (.int (0 : Int32)), (.ref b2), (.int (0 : Int32)), (.ref da)])) rfl (by rw [hml]; rfl) rfl (hb hby d31_27) (by decide) (W := 0) (by show 2 * 0 + _ ≤ _; exact Nat.le_of_eq rfl) (by decide)
  have O6 : Old Z n0 h6 := O2.keep K6 (allS (P := (n0 ≤ ·)) gb2 all0)
  have Kp6 : Keep h0 h6 [] := Kp2.trans K6 (allS (P := (fun x => x ∈ [] ∨ h0.size ≤ x)) (Or.inr gs2) all0)
  have Vc : Arv Z h6 b2 k2 .byte (Int32.ofNat bs.length) (by8 bs) (.int (0 : Int32)) := by rw [own_cl (by omega), show (0 : Int32).toNatClampNeg = 0 from rfl, own_copy bs (.int (0 : Int32))] at V6; exact V6
  obtain ⟨fs, hr, hrun, hended, hW, hsame⟩ := X6.leave (v := some (.ref b2)) (fun h => by rw [Bd.returns] at h; cases h)
  refine ⟨_, _, pre0 _ ?_, hrun, hended, _, _, rfl, ?_, ⟨_, rfl⟩, hW, hsame.mono (by decide) (by decide)⟩
  · show Steps p.tables e below (s₁.setTop (mkF m 0 #[.val (.ref da), .val (.int (0 : Int32)), .val (.int (Int32.ofNat bs.length)), .unset, .unset] [])) _
    refine XS.iloadN X0.here hx rfl (hb hby d31_0) rfl ?_
    show Steps p.tables e below (s₁.setTop (mkF m 1 #[.val (.ref da), .val (.int (0 : Int32)), .val (.int (Int32.ofNat bs.length)), .unset, .unset] [(.int (0 : Int32))])) _
    refine XS.iloadN X0.here hx rfl (hb hby d31_1) rfl ?_
    show Steps p.tables e below (s₁.setTop (mkF m 2 #[.val (.ref da), .val (.int (0 : Int32)), .val (.int (Int32.ofNat bs.length)), .unset, .unset] [(.int (Int32.ofNat bs.length)), (.int (0 : Int32))])) _
    refine st1 _ ?_
    show Steps p.tables e below (T1.setTop (mkF m 5 #[.val (.ref da), .val (.int (0 : Int32)), .val (.int (Int32.ofNat bs.length)), .unset, .unset] [])) _
    refine XS.iloadN X1.here hx rfl (hb hby d31_5) rfl ?_
    show Steps p.tables e below (T1.setTop (mkF m 6 #[.val (.ref da), .val (.int (0 : Int32)), .val (.int (Int32.ofNat bs.length)), .unset, .unset] [(.int (Int32.ofNat bs.length))])) _
    refine XS.iloadN X1.here hx rfl (hb hby d31_6) rfl ?_
    show Steps p.tables e below (T1.setTop (mkF m 7 #[.val (.ref da), .val (.int (0 : Int32)), .val (.int (Int32.ofNat bs.length)), .unset, .unset] [(.int (0 : Int32)), (.int (Int32.ofNat bs.length))])) _
    refine XS.isub X1.here hx rfl (hb hby d31_7) rfl ?_
    show Steps p.tables e below (T1.setTop (mkF m 8 #[.val (.ref da), .val (.int (0 : Int32)), .val (.int (Int32.ofNat bs.length)), .unset, .unset] [(.int ((Int32.ofNat bs.length) - (0 : Int32)))])) _
    rw [own_sub0]
    show Steps p.tables e below (T1.setTop (mkF m 8 #[.val (.ref da), .val (.int (0 : Int32)), .val (.int (Int32.ofNat bs.length)), .unset, .unset] [(.int (Int32.ofNat bs.length))])) _
    refine XS.istoreN X1.here hx rfl (hb hby d31_8) rfl (l' := #[.val (.ref da), .val (.int (0 : Int32)), .val (.int (Int32.ofNat bs.length)), .val (.int (Int32.ofNat bs.length)), .unset]) rfl ?_
    show Steps p.tables e below (T1.setTop (mkF m 9 #[.val (.ref da), .val (.int (0 : Int32)), .val (.int (Int32.ofNat bs.length)), .val (.int (Int32.ofNat bs.length)), .unset] [])) _
    refine XS.iloadN X1.here hx rfl (hb hby d31_9) rfl ?_
    show Steps p.tables e below (T1.setTop (mkF m 10 #[.val (.ref da), .val (.int (0 : Int32)), .val (.int (Int32.ofNat bs.length)), .val (.int (Int32.ofNat bs.length)), .unset] [(.int (Int32.ofNat bs.length))])) _
    refine st2 _ ?_
    show Steps p.tables e below (T2.setTop (mkF m 12 #[.val (.ref da), .val (.int (0 : Int32)), .val (.int (Int32.ofNat bs.length)), .val (.int (Int32.ofNat bs.length)), .unset] [(.ref b2)])) _
    refine XS.astore X2.here hx rfl (hb hby d31_12) rfl rfl (l' := #[.val (.ref da), .val (.int (0 : Int32)), .val (.int (Int32.ofNat bs.length)), .val (.int (Int32.ofNat bs.length)), .val (.ref b2)]) rfl ?_
    show Steps p.tables e below (T2.setTop (mkF m 14 #[.val (.ref da), .val (.int (0 : Int32)), .val (.int (Int32.ofNat bs.length)), .val (.int (Int32.ofNat bs.length)), .val (.ref b2)] [])) _
    refine XS.aloadN X2.here hx rfl (hb hby d31_14) rfl rfl ?_
    show Steps p.tables e below (T2.setTop (mkF m 15 #[.val (.ref da), .val (.int (0 : Int32)), .val (.int (Int32.ofNat bs.length)), .val (.int (Int32.ofNat bs.length)), .val (.ref b2)] [(.ref da)])) _
    refine XS.iloadN X2.here hx rfl (hb hby d31_15) rfl ?_
    show Steps p.tables e below (T2.setTop (mkF m 16 #[.val (.ref da), .val (.int (0 : Int32)), .val (.int (Int32.ofNat bs.length)), .val (.int (Int32.ofNat bs.length)), .val (.ref b2)] [(.int (0 : Int32)), (.ref da)])) _
    refine XS.aload X2.here hx rfl (hb hby d31_16) rfl rfl ?_
    show Steps p.tables e below (T2.setTop (mkF m 18 #[.val (.ref da), .val (.int (0 : Int32)), .val (.int (Int32.ofNat bs.length)), .val (.int (Int32.ofNat bs.length)), .val (.ref b2)] [(.ref b2), (.int (0 : Int32)), (.ref da)])) _
    refine XS.iconst X2.here hx rfl (hb hby d31_18) ?_
    show Steps p.tables e below (T2.setTop (mkF m 19 #[.val (.ref da), .val (.int (0 : Int32)), .val (.int (Int32.ofNat bs.length)), .val (.int (Int32.ofNat bs.length)), .val (.ref b2)] [(.int (0 : Int32)), (.ref b2), (.int (0 : Int32)), (.ref da)])) _
    refine XS.aloadN X2.here hx rfl (hb hby d31_19) rfl rfl ?_
    show Steps p.tables e below (T2.setTop (mkF m 20 #[.val (.ref da), .val (.int (0 : Int32)), .val (.int (Int32.ofNat bs.length)), .val (.int (Int32.ofNat bs.length)), .val (.ref b2)] [(.ref da), (.int (0 : Int32)), (.ref b2), (.int (0 : Int32)), (.ref da)])) _
    refine X2.arraylength hx (by rw [e2]; exact A4.1) (State.isArrayOf_alike hZ.alike A4.2.1) (g := (mkF m 20 #[.val (.ref da), .val (.int (0 : Int32)), .val (.int (Int32.ofNat bs.length)), .val (.int (Int32.ofNat bs.length)), .val (.ref b2)] [(.ref da), (.int (0 : Int32)), (.ref b2), (.int (0 : Int32)), (.ref da)])) rfl rfl (hb hby d31_20) _ ?_
    rw [len_of s4 n4]
    show Steps p.tables e below (T2.setTop (mkF m 21 #[.val (.ref da), .val (.int (0 : Int32)), .val (.int (Int32.ofNat bs.length)), .val (.int (Int32.ofNat bs.length)), .val (.ref b2)] [(.int (Int32.ofNat N)), (.int (0 : Int32)), (.ref b2), (.int (0 : Int32)), (.ref da)])) _
    refine XS.iloadN X2.here hx rfl (hb hby d31_21) rfl ?_
    show Steps p.tables e below (T2.setTop (mkF m 22 #[.val (.ref da), .val (.int (0 : Int32)), .val (.int (Int32.ofNat bs.length)), .val (.int (Int32.ofNat bs.length)), .val (.ref b2)] [(.int (0 : Int32)), (.int (Int32.ofNat N)), (.int (0 : Int32)), (.ref b2), (.int (0 : Int32)), (.ref da)])) _
    refine XS.isub X2.here hx rfl (hb hby d31_22) rfl ?_
    show Steps p.tables e below (T2.setTop (mkF m 23 #[.val (.ref da), .val (.int (0 : Int32)), .val (.int (Int32.ofNat bs.length)), .val (.int (Int32.ofNat bs.length)), .val (.ref b2)] [(.int ((Int32.ofNat N) - (0 : Int32))), (.int (0 : Int32)), (.ref b2), (.int (0 : Int32)), (.ref da)])) _
    rw [own_sub0]
    show Steps p.tables e below (T2.setTop (mkF m 23 #[.val (.ref da), .val (.int (0 : Int32)), .val (.int (Int32.ofNat bs.length)), .val (.int (Int32.ofNat bs.length)), .val (.ref b2)] [(.int (Int32.ofNat N)), (.int (0 : Int32)), (.ref b2), (.int (0 : Int32)), (.ref da)])) _
    refine XS.iloadN X2.here hx rfl (hb hby d31_23) rfl ?_
    show Steps p.tables e below (T2.setTop (mkF m 24 #[.val (.ref da), .val (.int (0 : Int32)), .val (.int (Int32.ofNat bs.length)), .val (.int (Int32.ofNat bs.length)), .val (.ref b2)] [(.int (Int32.ofNat bs.length)), (.int (Int32.ofNat N)), (.int (0 : Int32)), (.ref b2), (.int (0 : Int32)), (.ref da)])) _
    refine st5 _ ?_
    show Steps p.tables e below (T5.setTop (mkF m 27 #[.val (.ref da), .val (.int (0 : Int32)), .val (.int (Int32.ofNat bs.length)), .val (.int (Int32.ofNat bs.length)), .val (.ref b2)] [(.int (Int32.ofNat bs.length)), (.int (0 : Int32)), (.ref b2), (.int (0 : Int32)), (.ref da)])) _
    refine st6 _ ?_
    show Steps p.tables e below (T6.setTop (mkF m 30 #[.val (.ref da), .val (.int (0 : Int32)), .val (.int (Int32.ofNat bs.length)), .val (.int (Int32.ofNat bs.length)), .val (.ref b2)] [])) _
    refine XS.aload X6.here hx rfl (hb hby d31_30) rfl rfl ?_
    show Steps p.tables e below (T6.setTop (mkF m 32 #[.val (.ref da), .val (.int (0 : Int32)), .val (.int (Int32.ofNat bs.length)), .val (.int (Int32.ofNat bs.length)), .val (.ref b2)] [(.ref b2)])) _
    exact retOut X6 hx Bd.returns rfl (Or.inr (Or.inr (Or.inr (Or.inr ⟨rfl, rfl, rfl⟩)))) (hb hby d31_32) hr
  · exact by show Qx h0 n0 _ _ (some (.ref b2)) T6.heap _; rw [e6]; exact ⟨_, rfl, N6, Kp6, ⟨_, Vc⟩, gs2⟩
theorem d30_0 : decode jdk_65_method_132_code 0 = .ok (.iload_n 1, 1) := by decide +kernel
theorem d30_1 : decode jdk_65_method_132_code 1 = .ok (.ifCond .ne 9, 3) := by decide +kernel
theorem d30_4 : decode jdk_65_method_132_code 4 = .ok (.iload_n 2, 1) := by decide +kernel
theorem d30_5 : decode jdk_65_method_132_code 5 = .ok (.aload_n 0, 1) := by decide +kernel
theorem d30_6 : decode jdk_65_method_132_code 6 = .ok (.arraylength, 1) := by decide +kernel
theorem d30_7 : decode jdk_65_method_132_code 7 = .ok (.if_icmp .eq 10, 3) := by decide +kernel
theorem d30_10 : decode jdk_65_method_132_code 10 = .ok (.aload_n 0, 1) := by decide +kernel
theorem d30_11 : decode jdk_65_method_132_code 11 = .ok (.iload_n 1, 1) := by decide +kernel
theorem d30_12 : decode jdk_65_method_132_code 12 = .ok (.iload_n 2, 1) := by decide +kernel
theorem pd_285bBII295bB : parseMethodDescriptor "([BII)[B" = some ⟨[(.array .byte), .int, .int], some (.array .byte)⟩ := by decide +kernel
theorem d30_13 : decode jdk_65_method_132_code 13 = .ok (.invokestatic 339, 3) := by decide +kernel
theorem d30_16 : decode jdk_65_method_132_code 16 = .ok (.areturn, 1) := by decide +kernel
theorem ef_3_RII (m : MethodId) (x0 : Addr) (x1 : Int32) (x2 : Int32) : entryFrame m #[(.ref x0), (.int x1), (.int x2)] 3 = mkF m 0 #[.val (.ref x0), .val (.int x1), .val (.int x2)] [] := by first | (simp [entryFrame, mkF, argsToLocals, Value.category]; done) | rfl
set_option maxRecDepth 65536 in
set_option maxHeartbeats 40000000 in
theorem sb_cor (l : Launch) (Z : State) (a0 : Array Value) (hw : ∀ d ∈ tables_1, d.before a0 Z = true) (ws : List Jvm.Cond) (da : Addr) (kd : ClassId) (N : Nat) (bs : List Int32) (h0 : Heap) (n0 : Nat) (O : Old Z n0 h0) (A : Arv Z h0 da kd .byte (Int32.ofNat N) (by8 bs) (.int (0 : Int32))) (hlt : bs.length < N) (hN : N ≤ 200) :
    MetFree l (⟨"java/util/Arrays", "copyOfRange", "([BII)[B"⟩ : MethodName) (head1 (Jvm.Cond.code (⟨"java/util/Arrays", "copyOfRange", "([BII)[B"⟩ : MethodName) jdk_65_method_132_code 3 (some (.array .byte)) :: ws) ({ frames := 2, cells := 1, slots := 200, locals := 34 } : Room)) (fun a U => a = #[(.ref da), (.int (0 : Int32)), (.int (Int32.ofNat bs.length))] ∧ Z.Warmed39 U.vm ∧ U.heap = h0) (fun _ _ _ _ _ => True) (fun _ U o U' => ∃ v L, o = .returned v ∧ Qx h0 n0 [] (fun x h => (∃ k, Arv Z h x k .byte (Int32.ofNat bs.length) (by8 bs) (.int (0 : Int32))) ∧ h0.size ≤ x) v U'.heap L ∧ FrameEnd U o U' L ({ frames := 2, cells := 1, slots := 200, locals := 34 } : Room).cells ({ frames := 2, cells := 1, slots := 200, locals := 34 } : Room).slots) := by
  refine MetFree.of_bodySF (plainFor_of_name pn_java_util_Arrays) hisR ?_
  intro p e s m args below meth c s₁ Bd hml0 hP hK
  obtain ⟨rfl, hZ, hh⟩ := hP
  have hx := Bd.exec
  have hby := Bd.bytes
  have hml : c.maxLocals = 3 := hml0
  have hown : s.vm.findClass "java/util/Arrays" = some m.cls := findClass_of_methodNamed Bd.named
  have hnm := (name_of_methodNamed Bd.named Bd.method).1
  have X0 : Stand p l e ({ frames := 2, cells := 1, slots := 200, locals := 34 } : Room) s m #[(.ref da), (.int (0 : Int32)), (.int (Int32.ofNat bs.length))] below meth c s₁ [] 0 0 := Stand.of_body Bd
  have e0 : s₁.heap = h0 := by rw [← hh, Bd.state]; rfl
  have N0 := Fr.nil n0
  have pre0 : ∀ t, Steps p.tables e below (s₁.setTop (mkF m 0 #[.val (.ref da), .val (.int (0 : Int32)), .val (.int (Int32.ofNat bs.length))] [])) t → Steps p.tables e below (s₁.setTop (entryFrame m #[(.ref da), (.int (0 : Int32)), (.int (Int32.ofNat bs.length))] 3)) t := fun t k => castTop (ef_3_RII m da (0 : Int32) (Int32.ofNat bs.length)) k
  obtain ⟨cw1, A1, q1, s1, n1, H1, G1⟩ := id A
  obtain ⟨_, _, ⟨T2, L2, k2, n2⟩, -, X2, ⟨Lc2, hQ2, l2, y2, z2⟩, st2⟩ := Jvm.LawKit.callS X0 hx (y := (⟨"java/util/Arrays", "copyOfRangeByte", "([BII)[B"⟩ : MethodName)) hown (mvT hZ (hw _ (List.mem_of_getElem? (i := 206) rfl))) (mvT hZ (hw _ (List.mem_of_getElem? (i := 207) rfl))) (mvT hZ (hw _ (List.mem_of_getElem? (i := 169) rfl))) (mvT hZ (hw _ (List.mem_of_getElem? (i := 208) rfl))) (by decide) (backOf (W := 0) (sb_corb l Z a0 hw [] da kd N bs h0 n0 O A hlt hN) hZ (hw _ (List.mem_of_getElem? (i := 208) rfl)) (hw _ (List.mem_of_getElem? (i := 169) rfl)) (by decide) (by decide)) (g := (mkF m 13 #[.val (.ref da), .val (.int (0 : Int32)), .val (.int (Int32.ofNat bs.length))] [(.int (Int32.ofNat bs.length)), (.int (0 : Int32)), (.ref da)])) rfl (by rw [hml]; rfl) (argsL := [(.ref da), (.int (0 : Int32)), (.int (Int32.ofNat bs.length))]) (rest := []) (lenOf pd_285bBII295bB rfl) rfl (by show 2 * 0 + _ ≤ _; exact Nat.le_of_eq rfl) (hb hby d30_13) (fun _ _ => ⟨rfl, e0, (by decide : 0 + 1 ≤ _), (by decide : 0 + 200 ≤ _)⟩)
  dsimp only [Pt.U, Pt.locs, Pt.cells, Pt.slots] at X2 l2 y2 z2 st2 hQ2
  rw [l2, y2, z2] at X2
  obtain ⟨xa, rfl, N2q, K2, ⟨k2x, V2⟩, gs2⟩ := hQ2
  have N2 := Fr.app N0 N2q
  have gb2 : n0 ≤ xa := by have q1 := O.1; have q2 := O.2.1; omega
  have gz2 : h0.size ≤ xa := by have q := ((Keep.refl h0 [])).1; omega
  have O2 : Old Z n0 T2.heap := O.keep K2 all0
  have Kp2 : Keep h0 T2.heap [] := (Keep.refl h0 []).trans K2 all0
  obtain ⟨fs, hr, hrun, hended, hW, hsame⟩ := X2.leave (v := some (.ref xa)) (fun h => by rw [Bd.returns] at h; cases h)
  refine ⟨_, _, pre0 _ ?_, hrun, hended, _, _, rfl, ?_, ⟨_, rfl⟩, hW, hsame.mono (by decide) (by decide)⟩
  · show Steps p.tables e below (s₁.setTop (mkF m 0 #[.val (.ref da), .val (.int (0 : Int32)), .val (.int (Int32.ofNat bs.length))] [])) _
    refine XS.iloadN X0.here hx rfl (hb hby d30_0) rfl ?_
    show Steps p.tables e below (s₁.setTop (mkF m 1 #[.val (.ref da), .val (.int (0 : Int32)), .val (.int (Int32.ofNat bs.length))] [(.int (0 : Int32))])) _
    refine XS.ifNo X0.here hx rfl (hb hby d30_1) rfl ((if0 _ _).trans (teq ((by decide) : (0 : Int32) = (0 : Int32))).2) ?_
    show Steps p.tables e below (s₁.setTop (mkF m 4 #[.val (.ref da), .val (.int (0 : Int32)), .val (.int (Int32.ofNat bs.length))] [])) _
    refine XS.iloadN X0.here hx rfl (hb hby d30_4) rfl ?_
    show Steps p.tables e below (s₁.setTop (mkF m 5 #[.val (.ref da), .val (.int (0 : Int32)), .val (.int (Int32.ofNat bs.length))] [(.int (Int32.ofNat bs.length))])) _
    refine XS.aloadN X0.here hx rfl (hb hby d30_5) rfl rfl ?_
    show Steps p.tables e below (s₁.setTop (mkF m 6 #[.val (.ref da), .val (.int (0 : Int32)), .val (.int (Int32.ofNat bs.length))] [(.ref da), (.int (Int32.ofNat bs.length))])) _
    refine X0.arraylength hx (by rw [e0]; exact A1.1) (State.isArrayOf_alike hZ.alike A1.2.1) (g := (mkF m 6 #[.val (.ref da), .val (.int (0 : Int32)), .val (.int (Int32.ofNat bs.length))] [(.ref da), (.int (Int32.ofNat bs.length))])) rfl rfl (hb hby d30_6) _ ?_
    rw [len_of s1 n1]
    show Steps p.tables e below (s₁.setTop (mkF m 7 #[.val (.ref da), .val (.int (0 : Int32)), .val (.int (Int32.ofNat bs.length))] [(.int (Int32.ofNat N)), (.int (Int32.ofNat bs.length))])) _
    refine XS.icmpNo X0.here hx rfl (hb hby d30_7) rfl (feq ((fun q => by have := congrArg Int32.toInt q; rw [own_ti (by omega), own_ti (by omega)] at this; omega) : ¬ ((Int32.ofNat bs.length) = (Int32.ofNat N)))).1 ?_
    show Steps p.tables e below (s₁.setTop (mkF m 10 #[.val (.ref da), .val (.int (0 : Int32)), .val (.int (Int32.ofNat bs.length))] [])) _
    refine XS.aloadN X0.here hx rfl (hb hby d30_10) rfl rfl ?_
    show Steps p.tables e below (s₁.setTop (mkF m 11 #[.val (.ref da), .val (.int (0 : Int32)), .val (.int (Int32.ofNat bs.length))] [(.ref da)])) _
    refine XS.iloadN X0.here hx rfl (hb hby d30_11) rfl ?_
    show Steps p.tables e below (s₁.setTop (mkF m 12 #[.val (.ref da), .val (.int (0 : Int32)), .val (.int (Int32.ofNat bs.length))] [(.int (0 : Int32)), (.ref da)])) _
    refine XS.iloadN X0.here hx rfl (hb hby d30_12) rfl ?_
    show Steps p.tables e below (s₁.setTop (mkF m 13 #[.val (.ref da), .val (.int (0 : Int32)), .val (.int (Int32.ofNat bs.length))] [(.int (Int32.ofNat bs.length)), (.int (0 : Int32)), (.ref da)])) _
    refine st2 _ ?_
    show Steps p.tables e below (T2.setTop (mkF m 16 #[.val (.ref da), .val (.int (0 : Int32)), .val (.int (Int32.ofNat bs.length))] [(.ref xa)])) _
    exact retOut X2 hx Bd.returns rfl (Or.inr (Or.inr (Or.inr (Or.inr ⟨rfl, rfl, rfl⟩)))) (hb hby d30_16) hr
  · exact by show Qx h0 n0 _ _ (some (.ref xa)) T2.heap _; exact ⟨_, rfl, N2, Kp2, ⟨_, V2⟩, gz2⟩
theorem d26_0 : decode jdk_42_method_150_code 0 = .ok (.aload_n 0, 1) := by decide +kernel
theorem d26_1 : decode jdk_42_method_150_code 1 = .ok (.invokespecial 1, 3) := by decide +kernel
theorem d26_4 : decode jdk_42_method_150_code 4 = .ok (.aload_n 1, 1) := by decide +kernel
theorem pd_28295bB : parseMethodDescriptor "()[B" = some ⟨[], some (.array .byte)⟩ := by decide +kernel
theorem d26_5 : decode jdk_42_method_150_code 5 = .ok (.invokevirtual 552, 3) := by decide +kernel
theorem d26_8 : decode jdk_42_method_150_code 8 = .ok (.astore_n 3, 1) := by decide +kernel
theorem d26_9 : decode jdk_42_method_150_code 9 = .ok (.aload_n 1, 1) := by decide +kernel
theorem d26_10 : decode jdk_42_method_150_code 10 = .ok (.invokevirtual 549, 3) := by decide +kernel
theorem d26_13 : decode jdk_42_method_150_code 13 = .ok (.istore 4, 2) := by decide +kernel
theorem d26_15 : decode jdk_42_method_150_code 15 = .ok (.aload_n 1, 1) := by decide +kernel
theorem d26_16 : decode jdk_42_method_150_code 16 = .ok (.invokevirtual 1047, 3) := by decide +kernel
theorem d26_19 : decode jdk_42_method_150_code 19 = .ok (.ifCond .eq 22, 3) := by decide +kernel
theorem d26_22 : decode jdk_42_method_150_code 22 = .ok (.aload_n 0, 1) := by decide +kernel
theorem d26_23 : decode jdk_42_method_150_code 23 = .ok (.iconst 0, 1) := by decide +kernel
theorem d26_24 : decode jdk_42_method_150_code 24 = .ok (.putfield 15, 3) := by decide +kernel
theorem d26_27 : decode jdk_42_method_150_code 27 = .ok (.aload_n 0, 1) := by decide +kernel
theorem d26_28 : decode jdk_42_method_150_code 28 = .ok (.aload_n 3, 1) := by decide +kernel
theorem d26_29 : decode jdk_42_method_150_code 29 = .ok (.iconst 0, 1) := by decide +kernel
theorem d26_30 : decode jdk_42_method_150_code 30 = .ok (.iload 4, 2) := by decide +kernel
theorem d26_32 : decode jdk_42_method_150_code 32 = .ok (.invokestatic 54, 3) := by decide +kernel
theorem d26_35 : decode jdk_42_method_150_code 35 = .ok (.putfield 9, 3) := by decide +kernel
theorem d26_38 : decode jdk_42_method_150_code 38 = .ok (.goto 59, 3) := by decide +kernel
theorem d26_97 : decode jdk_42_method_150_code 97 = .ok (.return_, 1) := by decide +kernel
theorem ef_5_RRN (m : MethodId) (x0 : Addr) (x1 : Addr) : entryFrame m #[(.ref x0), (.ref x1), .null] 5 = mkF m 0 #[.val (.ref x0), .val (.ref x1), .val .null, .unset, .unset] [] := by first | (simp [entryFrame, mkF, argsToLocals, Value.category]; done) | rfl
set_option maxRecDepth 65536 in
set_option maxHeartbeats 40000000 in
theorem sb_strInit (l : Launch) (Z : State) (a0 : Array Value) (hw : ∀ d ∈ tables_1, d.before a0 Z = true) (ws : List Jvm.Cond) (zc : Int32) (sa : Addr) (bb da : Addr) (kd : ClassId) (N : Nat) (bs : List Int32) (h0 : Heap) (n0 : Nat) (O : Old Z n0 h0) (hE : EnvS Z zc) (hB : Bld Z h0 bb da kd N bs) (E : Exa Z h0 sa "java/lang/String") (F : Fld Z h0 sa "java/lang/String" "value" "[B" .null) (C : Fld Z h0 sa "java/lang/String" "coder" "B" (.int (0 : Int32))) (hlt : bs.length < N) (hN : N ≤ 200) (gs : n0 ≤ sa) :
    MetFree l (⟨"java/lang/String", "<init>", "(Ljava/lang/AbstractStringBuilder;Ljava/lang/Void;)V"⟩ : MethodName) (head1 (Jvm.Cond.code (⟨"java/lang/String", "<init>", "(Ljava/lang/AbstractStringBuilder;Ljava/lang/Void;)V"⟩ : MethodName) jdk_42_method_150_code 5 none :: ws) ({ frames := 3, cells := 1, slots := 200, locals := 49 } : Room)) (fun a U => a = #[(.ref sa), (.ref bb), .null] ∧ Z.Warmed39 U.vm ∧ U.heap = h0) (fun _ _ _ _ _ => True) (fun _ U o U' => ∃ v L, o = .returned v ∧ Qh none h0 n0 [sa] (fun h => ∃ t k, Str Z h sa t k bs ∧ h0.size ≤ t) v U'.heap L ∧ FrameEnd U o U' L ({ frames := 3, cells := 1, slots := 200, locals := 49 } : Room).cells ({ frames := 3, cells := 1, slots := 200, locals := 49 } : Room).slots) := by
  refine MetFree.of_bodySF (plainFor_of_name pn_java_lang_String) hisR ?_
  intro p e s m args below meth c s₁ Bd hml0 hP hK
  obtain ⟨rfl, hZ, hh⟩ := hP
  have hx := Bd.exec
  have hby := Bd.bytes
  have hml : c.maxLocals = 5 := hml0
  have hown : s.vm.findClass "java/lang/String" = some m.cls := findClass_of_methodNamed Bd.named
  have hnm := (name_of_methodNamed Bd.named Bd.method).1
  have X0 : Stand p l e ({ frames := 3, cells := 1, slots := 200, locals := 49 } : Room) s m #[(.ref sa), (.ref bb), .null] below meth c s₁ [] 0 0 := Stand.of_body Bd
  have e0 : s₁.heap = h0 := by rw [← hh, Bd.state]; rfl
  have N0 := Fr.nil n0
  have pre0 : ∀ t, Steps p.tables e below (s₁.setTop (mkF m 0 #[.val (.ref sa), .val (.ref bb), .val .null, .unset, .unset] [])) t → Steps p.tables e below (s₁.setTop (entryFrame m #[(.ref sa), (.ref bb), .null] 5)) t := fun t k => castTop (ef_5_RRN m sa bb) k
  obtain ⟨Scmp, hzc⟩ := id hE
  obtain ⟨Eb, Vb, Cb, Nb, Ab⟩ := id hB
  obtain ⟨T1, X1, e1, st1⟩ := initO X0 hx hZ hown (hw _ (List.mem_of_getElem? (i := 188) rfl)) (hw _ (List.mem_of_getElem? (i := 49) rfl)) (hw _ (List.mem_of_getElem? (i := 50) rfl)) e0 (g := (mkF m 1 #[.val (.ref sa), .val (.ref bb), .val .null, .unset, .unset] [(.ref sa)])) rfl (by rw [hml]; rfl) rfl (hb hby d26_1) (by decide) (W := 0) (by show 2 * 0 + _ ≤ _; exact Nat.le_of_eq rfl) (by decide)
  obtain ⟨cq2, kq2, q2a, q2b, q2c⟩ := isOf hZ e1 Eb
  obtain ⟨_, _, ⟨T2, L2, k2, n2⟩, -, X2, ⟨Lc2, hQ2, l2, y2, z2⟩, st2⟩ := X1.virtualBack hx (y := (⟨"java/lang/AbstractStringBuilder", "getValue", "()[B"⟩ : MethodName)) (z := (⟨"java/lang/AbstractStringBuilder", "getValue", "()[B"⟩ : MethodName)) hown (mvT hZ (hw _ (List.mem_of_getElem? (i := 189) rfl))) (mvT hZ (hw _ (List.mem_of_getElem? (i := 190) rfl))) (notFace_of_selects (args := #[]) (mvT hZ (hw _ (List.mem_of_getElem? (i := 192) rfl)))) (mvT hZ (hw _ (List.mem_of_getElem? (i := 192) rfl))) (mvT hZ (hw _ (List.mem_of_getElem? (i := 191) rfl))) (by decide) (backOf (W := 0) (sb_getValue l Z a0 hw [] bb da kd N bs h0 n0 O ⟨Eb, Vb, Cb, Nb, Ab⟩) hZ (hw _ (List.mem_of_getElem? (i := 193) rfl)) (hw _ (List.mem_of_getElem? (i := 70) rfl)) (by decide) (by decide)) q2a q2c (g := (mkF m 5 #[.val (.ref sa), .val (.ref bb), .val .null, .unset, .unset] [(.ref bb)])) rfl (by rw [hml]; rfl) (Steps.refl _) (argsL := []) (rest := []) (lenOf pd_28295bB rfl) rfl (by show 2 * 0 + _ ≤ _; exact Nat.le_of_eq rfl) (hb hby d26_5) (fun _ _ => ⟨rfl, e1, (by decide : 0 + 0 ≤ _), (by decide : 0 + 0 ≤ _)⟩)
  dsimp only [Pt.U, Pt.locs, Pt.cells, Pt.slots] at X2 l2 y2 z2 st2 hQ2
  rw [l2, y2, z2] at X2
  obtain ⟨rfl, N2q, e2⟩ := hQ2
  have N2 := Fr.app N0 N2q
  obtain ⟨cq3, kq3, q3a, q3b, q3c⟩ := isOf hZ e2 Eb
  obtain ⟨_, _, ⟨T3, L3, k3, n3⟩, -, X3, ⟨Lc3, hQ3, l3, y3, z3⟩, st3⟩ := X2.virtualBack hx (y := (⟨"java/lang/AbstractStringBuilder", "length", "()I"⟩ : MethodName)) (z := (⟨"java/lang/StringBuilder", "length", "()I"⟩ : MethodName)) hown (mvT hZ (hw _ (List.mem_of_getElem? (i := 194) rfl))) (mvT hZ (hw _ (List.mem_of_getElem? (i := 195) rfl))) (own_nf (args := #[]) (mvT hZ (hw _ (List.mem_of_getElem? (i := 107) rfl))) rfl) (mvT hZ (hw _ (List.mem_of_getElem? (i := 197) rfl))) (mvT hZ (hw _ (List.mem_of_getElem? (i := 198) rfl))) (by decide) (backOf (W := 0) (sb_sbLen l Z a0 hw [] bb da kd N bs h0 n0 O ⟨Eb, Vb, Cb, Nb, Ab⟩) hZ (hw _ (List.mem_of_getElem? (i := 199) rfl)) (hw _ (List.mem_of_getElem? (i := 62) rfl)) (by decide) (by decide)) q3a q3c (g := (mkF m 10 #[.val (.ref sa), .val (.ref bb), .val .null, .val (.ref da), .unset] [(.ref bb)])) rfl (by rw [hml]; rfl) (Steps.refl _) (argsL := []) (rest := []) (lenOf pd_2829I rfl) rfl (by show 2 * 0 + _ ≤ _; exact Nat.le_of_eq rfl) (hb hby d26_10) (fun _ _ => ⟨rfl, e2, (by decide : 0 + 0 ≤ _), (by decide : 0 + 0 ≤ _)⟩)
  dsimp only [Pt.U, Pt.locs, Pt.cells, Pt.slots] at X3 l3 y3 z3 st3 hQ3
  rw [l3, y3, z3] at X3
  obtain ⟨rfl, N3q, e3⟩ := hQ3
  have N3 := Fr.app N2 N3q
  obtain ⟨cq4, kq4, q4a, q4b, q4c⟩ := isOf hZ e3 Eb
  obtain ⟨_, _, ⟨T4, L4, k4, n4⟩, -, X4, ⟨Lc4, hQ4, l4, y4, z4⟩, st4⟩ := X3.virtualBack hx (y := (⟨"java/lang/AbstractStringBuilder", "isLatin1", "()Z"⟩ : MethodName)) (z := (⟨"java/lang/AbstractStringBuilder", "isLatin1", "()Z"⟩ : MethodName)) hown (mvT hZ (hw _ (List.mem_of_getElem? (i := 202) rfl))) (mvT hZ (hw _ (List.mem_of_getElem? (i := 143) rfl))) (notFace_of_selects (args := #[]) (mvT hZ (hw _ (List.mem_of_getElem? (i := 145) rfl)))) (mvT hZ (hw _ (List.mem_of_getElem? (i := 145) rfl))) (mvT hZ (hw _ (List.mem_of_getElem? (i := 144) rfl))) (by decide) (backOf (W := 0) (sb_isLatin1 l Z a0 hw [] zc bb h0 n0 O hE Cb) hZ (hw _ (List.mem_of_getElem? (i := 146) rfl)) (hw _ (List.mem_of_getElem? (i := 70) rfl)) (by decide) (by decide)) q4a q4c (g := (mkF m 16 #[.val (.ref sa), .val (.ref bb), .val .null, .val (.ref da), .val (.int (Int32.ofNat bs.length))] [(.ref bb)])) rfl (by rw [hml]; rfl) (Steps.refl _) (argsL := []) (rest := []) (lenOf pd_2829Z rfl) rfl (by show 2 * 0 + _ ≤ _; exact Nat.le_of_eq rfl) (hb hby d26_16) (fun _ _ => ⟨rfl, e3, (by decide : 0 + 0 ≤ _), (by decide : 0 + 0 ≤ _)⟩)
  dsimp only [Pt.U, Pt.locs, Pt.cells, Pt.slots] at X4 l4 y4 z4 st4 hQ4
  rw [l4, y4, z4] at X4
  obtain ⟨rfl, N4q, e4⟩ := hQ4
  have N4 := Fr.app N3 N4q
  obtain ⟨T5, h5, X5, e5, W5, st5⟩ := putFN X4 hx hZ hown (hw _ (List.mem_of_getElem? (i := 101) rfl)) Via.refl e4 C E (Or.inr ⟨(hw _ (List.mem_of_getElem? (i := 7) rfl)), rfl, hnm⟩) (hw _ (List.mem_of_getElem? (i := 4) rfl)) (ty := .byte) (v' := (.int (0 : Int32))) (by decide) rfl (by decide) (g := (mkF m 24 #[.val (.ref sa), .val (.ref bb), .val .null, .val (.ref da), .val (.int (Int32.ofNat bs.length))] [(.int (0 : Int32)), (.ref sa)])) rfl rfl (hb hby d26_24)
  have N5 := Fr.snoc X5 N4 gs
  have O5 : Old Z n0 h5 := O.wr W5 gs
  have Kp5 : Keep h0 h5 [sa] := (Keep.refl h0 [sa]).wr W5 (Or.inl (by simp))
  have Fw5 : Fld Z h5 sa "java/lang/String" "coder" "B" (.int (0 : Int32)) := C.same W5
  have f6 : Arv Z h5 da kd .byte (Int32.ofNat N) (by8 bs) (.int (0 : Int32)) := (Ab.other W5 (Ne.symm (Exa.neArv E Ab (hw _ (List.mem_of_getElem? (i := 4) rfl)))))
  obtain ⟨_, _, ⟨T7, L7, k7, n7⟩, -, X7, ⟨Lc7, hQ7, l7, y7, z7⟩, st7⟩ := Jvm.LawKit.callS X5 hx (y := (⟨"java/util/Arrays", "copyOfRange", "([BII)[B"⟩ : MethodName)) hown (mvT hZ (hw _ (List.mem_of_getElem? (i := 203) rfl))) (mvT hZ (hw _ (List.mem_of_getElem? (i := 204) rfl))) (mvT hZ (hw _ (List.mem_of_getElem? (i := 169) rfl))) (mvT hZ (hw _ (List.mem_of_getElem? (i := 205) rfl))) (by decide) (backOf (W := 1) (sb_cor l Z a0 hw [] da kd N bs h5 n0 O5 f6 hlt hN) hZ (hw _ (List.mem_of_getElem? (i := 205) rfl)) (hw _ (List.mem_of_getElem? (i := 169) rfl)) (by decide) (by decide)) (g := (mkF m 32 #[.val (.ref sa), .val (.ref bb), .val .null, .val (.ref da), .val (.int (Int32.ofNat bs.length))] [(.int (Int32.ofNat bs.length)), (.int (0 : Int32)), (.ref da), (.ref sa)])) rfl (by rw [hml]; rfl) (argsL := [(.ref da), (.int (0 : Int32)), (.int (Int32.ofNat bs.length))]) (rest := [(.ref sa)]) (lenOf pd_285bBII295bB rfl) rfl (by show 2 * 0 + _ ≤ _; exact Nat.le_of_eq rfl) (hb hby d26_32) (fun _ _ => ⟨rfl, e5, (by decide : 0 + 1 ≤ _), (by decide : 0 + 200 ≤ _)⟩)
  dsimp only [Pt.U, Pt.locs, Pt.cells, Pt.slots] at X7 l7 y7 z7 st7 hQ7
  rw [l7, y7, z7] at X7
  have f8 : Exa Z h5 bb "java/lang/StringBuilder" := (Eb.wr W5)
  have f9 : Fld Z h5 bb "java/lang/AbstractStringBuilder" "value" "[B" (.ref da) := (Vb.other W5 (Or.inl (Ne.symm (Exa.ne E Eb (by decide)))))
  have f10 : Fld Z h5 bb "java/lang/AbstractStringBuilder" "coder" "B" (.int (0 : Int32)) := (Cb.other W5 (Or.inl (Ne.symm (Exa.ne E Eb (by decide)))))
  have f11 : Fld Z h5 bb "java/lang/AbstractStringBuilder" "count" "I" (.int (Int32.ofNat bs.length)) := (Nb.other W5 (Or.inl (Ne.symm (Exa.ne E Eb (by decide)))))
  have f12 : Exa Z h5 sa "java/lang/String" := (E.wr W5)
  have f13 : Fld Z h5 sa "java/lang/String" "value" "[B" .null := (F.other W5 (Or.inr (slot_ne (Or.inr (hw _ (List.mem_of_getElem? (i := 6) rfl))) (Or.inr (hw _ (List.mem_of_getElem? (i := 7) rfl))) (by decide) (t := (.array .byte)) (t' := .byte) (by decide) (by decide))))
  obtain ⟨xa, rfl, N7q, K7, ⟨k7x, V7⟩, gs7⟩ := hQ7
  have N7 := Fr.app N5 N7q
  have gb7 : n0 ≤ xa := by have q1 := O5.1; have q2 := O5.2.1; omega
  have gz7 : h0.size ≤ xa := by have q := (Kp5).1; omega
  have O7 : Old Z n0 T7.heap := O5.keep K7 all0
  have Kp7 : Keep h0 T7.heap [sa] := Kp5.trans K7 all0
  have f14 : Exa Z T7.heap sa "java/lang/String" := (f12.keep K7)
  have f15 : Fld Z T7.heap sa "java/lang/String" "value" "[B" .null := (f13.keep K7 nin0)
  obtain ⟨T16, h16, X16, e16, W16, st16⟩ := putF X7 hx hZ hown (host := "") (Or.inl (hw _ (List.mem_of_getElem? (i := 94) rfl))) Via.refl rfl f15 f14 (Or.inr ⟨(hw _ (List.mem_of_getElem? (i := 6) rfl)), rfl, hnm⟩) (hw _ (List.mem_of_getElem? (i := 4) rfl)) (ty := (.array .byte)) (by decide) rfl rfl (g := (mkF m 35 #[.val (.ref sa), .val (.ref bb), .val .null, .val (.ref da), .val (.int (Int32.ofNat bs.length))] [(.ref xa), (.ref sa)])) rfl rfl (hb hby d26_35)
  have N16 := Fr.snoc X16 N7 gs
  have O16 : Old Z n0 h16 := O7.wr W16 gs
  have Kp16 : Keep h0 h16 [sa] := Kp7.wr W16 (Or.inl (by simp))
  have Fw16 : Fld Z h16 sa "java/lang/String" "value" "[B" (.ref xa) := f15.same W16
  have f17 : Exa Z h16 sa "java/lang/String" := (f14.wr W16)
  have f18 : Fld Z h16 sa "java/lang/String" "coder" "B" (.int (0 : Int32)) := ((Fw5.keep K7 nin0).other W16 (Or.inr (slot_ne (Or.inr (hw _ (List.mem_of_getElem? (i := 7) rfl))) (Or.inr (hw _ (List.mem_of_getElem? (i := 6) rfl))) (by decide) (t := .byte) (t' := (.array .byte)) (by decide) (by decide))))
  have f19 : Arv Z h16 xa k7x .byte (Int32.ofNat bs.length) (by8 bs) (.int (0 : Int32)) := (V7.other W16 (Ne.symm (Nat.ne_of_lt (Nat.lt_of_lt_of_le Fw5.lt gs7))))
  obtain ⟨fs, hr, hrun, hended, hW, hsame⟩ := X16.leave (v := none) (fun h => rfl)
  refine ⟨_, _, pre0 _ ?_, hrun, hended, _, _, rfl, ?_, ⟨_, rfl⟩, hW, hsame.mono (by decide) (by decide)⟩
  · show Steps p.tables e below (s₁.setTop (mkF m 0 #[.val (.ref sa), .val (.ref bb), .val .null, .unset, .unset] [])) _
    refine XS.aloadN X0.here hx rfl (hb hby d26_0) rfl rfl ?_
    show Steps p.tables e below (s₁.setTop (mkF m 1 #[.val (.ref sa), .val (.ref bb), .val .null, .unset, .unset] [(.ref sa)])) _
    refine st1 _ ?_
    show Steps p.tables e below (T1.setTop (mkF m 4 #[.val (.ref sa), .val (.ref bb), .val .null, .unset, .unset] [])) _
    refine XS.aloadN X1.here hx rfl (hb hby d26_4) rfl rfl ?_
    show Steps p.tables e below (T1.setTop (mkF m 5 #[.val (.ref sa), .val (.ref bb), .val .null, .unset, .unset] [(.ref bb)])) _
    refine st2.trans ?_
    show Steps p.tables e below (T2.setTop (mkF m 8 #[.val (.ref sa), .val (.ref bb), .val .null, .unset, .unset] [(.ref da)])) _
    refine XS.astoreN X2.here hx rfl (hb hby d26_8) rfl rfl (l' := #[.val (.ref sa), .val (.ref bb), .val .null, .val (.ref da), .unset]) rfl ?_
    show Steps p.tables e below (T2.setTop (mkF m 9 #[.val (.ref sa), .val (.ref bb), .val .null, .val (.ref da), .unset] [])) _
    refine XS.aloadN X2.here hx rfl (hb hby d26_9) rfl rfl ?_
    show Steps p.tables e below (T2.setTop (mkF m 10 #[.val (.ref sa), .val (.ref bb), .val .null, .val (.ref da), .unset] [(.ref bb)])) _
    refine st3.trans ?_
    show Steps p.tables e below (T3.setTop (mkF m 13 #[.val (.ref sa), .val (.ref bb), .val .null, .val (.ref da), .unset] [(.int (Int32.ofNat bs.length))])) _
    refine XS.istore X3.here hx rfl (hb hby d26_13) rfl (l' := #[.val (.ref sa), .val (.ref bb), .val .null, .val (.ref da), .val (.int (Int32.ofNat bs.length))]) rfl ?_
    show Steps p.tables e below (T3.setTop (mkF m 15 #[.val (.ref sa), .val (.ref bb), .val .null, .val (.ref da), .val (.int (Int32.ofNat bs.length))] [])) _
    refine XS.aloadN X3.here hx rfl (hb hby d26_15) rfl rfl ?_
    show Steps p.tables e below (T3.setTop (mkF m 16 #[.val (.ref sa), .val (.ref bb), .val .null, .val (.ref da), .val (.int (Int32.ofNat bs.length))] [(.ref bb)])) _
    refine st4.trans ?_
    show Steps p.tables e below (T4.setTop (mkF m 19 #[.val (.ref sa), .val (.ref bb), .val .null, .val (.ref da), .val (.int (Int32.ofNat bs.length))] [(.int (1 : Int32))])) _
    refine XS.ifNo X4.here hx rfl (hb hby d26_19) rfl ((if0 _ _).trans (feq ((by decide) : ¬ ((1 : Int32) = (0 : Int32)))).1) ?_
    show Steps p.tables e below (T4.setTop (mkF m 22 #[.val (.ref sa), .val (.ref bb), .val .null, .val (.ref da), .val (.int (Int32.ofNat bs.length))] [])) _
    refine XS.aloadN X4.here hx rfl (hb hby d26_22) rfl rfl ?_
    show Steps p.tables e below (T4.setTop (mkF m 23 #[.val (.ref sa), .val (.ref bb), .val .null, .val (.ref da), .val (.int (Int32.ofNat bs.length))] [(.ref sa)])) _
    refine XS.iconst X4.here hx rfl (hb hby d26_23) ?_
    show Steps p.tables e below (T4.setTop (mkF m 24 #[.val (.ref sa), .val (.ref bb), .val .null, .val (.ref da), .val (.int (Int32.ofNat bs.length))] [(.int (0 : Int32)), (.ref sa)])) _
    refine st5 _ ?_
    show Steps p.tables e below (T5.setTop (mkF m 27 #[.val (.ref sa), .val (.ref bb), .val .null, .val (.ref da), .val (.int (Int32.ofNat bs.length))] [])) _
    refine XS.aloadN X5.here hx rfl (hb hby d26_27) rfl rfl ?_
    show Steps p.tables e below (T5.setTop (mkF m 28 #[.val (.ref sa), .val (.ref bb), .val .null, .val (.ref da), .val (.int (Int32.ofNat bs.length))] [(.ref sa)])) _
    refine XS.aloadN X5.here hx rfl (hb hby d26_28) rfl rfl ?_
    show Steps p.tables e below (T5.setTop (mkF m 29 #[.val (.ref sa), .val (.ref bb), .val .null, .val (.ref da), .val (.int (Int32.ofNat bs.length))] [(.ref da), (.ref sa)])) _
    refine XS.iconst X5.here hx rfl (hb hby d26_29) ?_
    show Steps p.tables e below (T5.setTop (mkF m 30 #[.val (.ref sa), .val (.ref bb), .val .null, .val (.ref da), .val (.int (Int32.ofNat bs.length))] [(.int (0 : Int32)), (.ref da), (.ref sa)])) _
    refine XS.iload X5.here hx rfl (hb hby d26_30) rfl ?_
    show Steps p.tables e below (T5.setTop (mkF m 32 #[.val (.ref sa), .val (.ref bb), .val .null, .val (.ref da), .val (.int (Int32.ofNat bs.length))] [(.int (Int32.ofNat bs.length)), (.int (0 : Int32)), (.ref da), (.ref sa)])) _
    refine st7 _ ?_
    show Steps p.tables e below (T7.setTop (mkF m 35 #[.val (.ref sa), .val (.ref bb), .val .null, .val (.ref da), .val (.int (Int32.ofNat bs.length))] [(.ref xa), (.ref sa)])) _
    refine st16 _ ?_
    show Steps p.tables e below (T16.setTop (mkF m 38 #[.val (.ref sa), .val (.ref bb), .val .null, .val (.ref da), .val (.int (Int32.ofNat bs.length))] [])) _
    refine XS.goto X16.here hx rfl (pc0 := 38) (pc' := 97) rfl (hb hby d26_38) (by decide) (by decide) ?_
    show Steps p.tables e below (T16.setTop (mkF m 97 #[.val (.ref sa), .val (.ref bb), .val .null, .val (.ref da), .val (.int (Int32.ofNat bs.length))] [])) _
    exact X16.returnOut hx Bd.returns (hb hby d26_97) hr
  · exact by show Qh _ h0 n0 _ _ none T16.heap _; rw [e16]; exact ⟨rfl, N16, Kp16, _, _, ⟨f17, Fw16, f18, f19⟩, gz7⟩
theorem d25_0 : decode jdk_42_method_53_code 0 = .ok (.aload_n 0, 1) := by decide +kernel
theorem d25_1 : decode jdk_42_method_53_code 1 = .ok (.aload_n 1, 1) := by decide +kernel
theorem d25_2 : decode jdk_42_method_53_code 2 = .ok (.aconst_null, 1) := by decide +kernel
theorem pd_28Ljava2flang2fAbstractStringBuilder3bLjava2flang2fVoid3b29V : parseMethodDescriptor "(Ljava/lang/AbstractStringBuilder;Ljava/lang/Void;)V" = some ⟨[(.object "java/lang/AbstractStringBuilder"), (.object "java/lang/Void")], none⟩ := by decide +kernel
theorem d25_3 : decode jdk_42_method_53_code 3 = .ok (.invokespecial 489, 3) := by decide +kernel
theorem d25_6 : decode jdk_42_method_53_code 6 = .ok (.return_, 1) := by decide +kernel
set_option maxRecDepth 65536 in
set_option maxHeartbeats 40000000 in
theorem sb_strInit2 (l : Launch) (Z : State) (a0 : Array Value) (hw : ∀ d ∈ tables_1, d.before a0 Z = true) (ws : List Jvm.Cond) (zc : Int32) (sa : Addr) (bb da : Addr) (kd : ClassId) (N : Nat) (bs : List Int32) (h0 : Heap) (n0 : Nat) (O : Old Z n0 h0) (hE : EnvS Z zc) (hB : Bld Z h0 bb da kd N bs) (E : Exa Z h0 sa "java/lang/String") (F : Fld Z h0 sa "java/lang/String" "value" "[B" .null) (C : Fld Z h0 sa "java/lang/String" "coder" "B" (.int (0 : Int32))) (hlt : bs.length < N) (hN : N ≤ 200) (gs : n0 ≤ sa) :
    MetFree l (⟨"java/lang/String", "<init>", "(Ljava/lang/StringBuilder;)V"⟩ : MethodName) (head1 (Jvm.Cond.code (⟨"java/lang/String", "<init>", "(Ljava/lang/StringBuilder;)V"⟩ : MethodName) jdk_42_method_53_code 2 none :: ws) ({ frames := 4, cells := 1, slots := 200, locals := 65 } : Room)) (fun a U => a = #[(.ref sa), (.ref bb)] ∧ Z.Warmed39 U.vm ∧ U.heap = h0) (fun _ _ _ _ _ => True) (fun _ U o U' => ∃ v L, o = .returned v ∧ Qh none h0 n0 [sa] (fun h => ∃ t k, Str Z h sa t k bs ∧ h0.size ≤ t) v U'.heap L ∧ FrameEnd U o U' L ({ frames := 4, cells := 1, slots := 200, locals := 65 } : Room).cells ({ frames := 4, cells := 1, slots := 200, locals := 65 } : Room).slots) := by
  refine MetFree.of_bodySF (plainFor_of_name pn_java_lang_String) hisR ?_
  intro p e s m args below meth c s₁ Bd hml0 hP hK
  obtain ⟨rfl, hZ, hh⟩ := hP
  have hx := Bd.exec
  have hby := Bd.bytes
  have hml : c.maxLocals = 2 := hml0
  have hown : s.vm.findClass "java/lang/String" = some m.cls := findClass_of_methodNamed Bd.named
  have hnm := (name_of_methodNamed Bd.named Bd.method).1
  have X0 : Stand p l e ({ frames := 4, cells := 1, slots := 200, locals := 65 } : Room) s m #[(.ref sa), (.ref bb)] below meth c s₁ [] 0 0 := Stand.of_body Bd
  have e0 : s₁.heap = h0 := by rw [← hh, Bd.state]; rfl
  have N0 := Fr.nil n0
  have pre0 : ∀ t, Steps p.tables e below (s₁.setTop (mkF m 0 #[.val (.ref sa), .val (.ref bb)] [])) t → Steps p.tables e below (s₁.setTop (entryFrame m #[(.ref sa), (.ref bb)] 2)) t := fun t k => castTop (ef_2_RR m sa bb) k
  obtain ⟨Scmp, hzc⟩ := id hE
  obtain ⟨_, _, ⟨T1, L1, k1, n1⟩, -, X1, ⟨Lc1, hQ1, l1, y1, z1⟩, st1⟩ := X0.specialBack hx (y := (⟨"java/lang/String", "<init>", "(Ljava/lang/AbstractStringBuilder;Ljava/lang/Void;)V"⟩ : MethodName)) rfl hown (mvT hZ (hw _ (List.mem_of_getElem? (i := 185) rfl))) (mvT hZ (hw _ (List.mem_of_getElem? (i := 186) rfl))) (mvT hZ (hw _ (List.mem_of_getElem? (i := 187) rfl))) (by decide) (backOf (W := 0) (sb_strInit l Z a0 hw [] zc sa bb da kd N bs h0 n0 O hE hB E F C hlt hN gs) hZ (hw _ (List.mem_of_getElem? (i := 187) rfl)) (hw _ (List.mem_of_getElem? (i := 3) rfl)) (by decide) (by decide)) (g := (mkF m 3 #[.val (.ref sa), .val (.ref bb)] [.null, (.ref bb), (.ref sa)])) rfl (by rw [hml]; rfl) (Steps.refl _) (a := sa) (argsL := [(.ref bb), .null]) (rest := []) (lenOf pd_28Ljava2flang2fAbstractStringBuilder3bLjava2flang2fVoid3b29V rfl) rfl (by show 2 * 0 + _ ≤ _; exact Nat.le_of_eq rfl) (hb hby d25_3) (fun _ _ => ⟨rfl, e0, (by decide : 0 + 1 ≤ _), (by decide : 0 + 200 ≤ _)⟩)
  dsimp only [Pt.U, Pt.locs, Pt.cells, Pt.slots] at X1 l1 y1 z1 st1 hQ1
  rw [l1, y1, z1] at X1
  obtain ⟨rfl, N1q, K1, P1⟩ := hQ1
  have N1 := Fr.app N0 N1q
  have O1 : Old Z n0 T1.heap := O.keep K1 (allS (P := (n0 ≤ ·)) gs all0)
  have Kp1 : Keep h0 T1.heap [sa] := (Keep.refl h0 [sa]).trans K1 (allS (P := (fun x => x ∈ [sa] ∨ h0.size ≤ x)) (Or.inl (by simp)) all0)
  have Pf := P1
  obtain ⟨fs, hr, hrun, hended, hW, hsame⟩ := X1.leave (v := none) (fun h => rfl)
  refine ⟨_, _, pre0 _ ?_, hrun, hended, _, _, rfl, ?_, ⟨_, rfl⟩, hW, hsame.mono (by decide) (by decide)⟩
  · show Steps p.tables e below (s₁.setTop (mkF m 0 #[.val (.ref sa), .val (.ref bb)] [])) _
    refine XS.aloadN X0.here hx rfl (hb hby d25_0) rfl rfl ?_
    show Steps p.tables e below (s₁.setTop (mkF m 1 #[.val (.ref sa), .val (.ref bb)] [(.ref sa)])) _
    refine XS.aloadN X0.here hx rfl (hb hby d25_1) rfl rfl ?_
    show Steps p.tables e below (s₁.setTop (mkF m 2 #[.val (.ref sa), .val (.ref bb)] [(.ref bb), (.ref sa)])) _
    refine XS.aconstNull X0.here hx rfl (hb hby d25_2) ?_
    show Steps p.tables e below (s₁.setTop (mkF m 3 #[.val (.ref sa), .val (.ref bb)] [.null, (.ref bb), (.ref sa)])) _
    refine st1.trans ?_
    show Steps p.tables e below (T1.setTop (mkF m 6 #[.val (.ref sa), .val (.ref bb)] [])) _
    exact X1.returnOut hx Bd.returns (hb hby d25_6) hr
  · exact by show Qh _ h0 n0 _ _ none T1.heap _; exact ⟨rfl, N1, Kp1, Pf⟩
theorem d24_0 : decode jdk_67_method_42_code 0 = .ok (.new 18, 3) := by decide +kernel
theorem d24_3 : decode jdk_67_method_42_code 3 = .ok (.dup, 1) := by decide +kernel
theorem d24_4 : decode jdk_67_method_42_code 4 = .ok (.aload_n 0, 1) := by decide +kernel
theorem pd_28Ljava2flang2fStringBuilder3b29V : parseMethodDescriptor "(Ljava/lang/StringBuilder;)V" = some ⟨[(.object "java/lang/StringBuilder")], none⟩ := by decide +kernel
theorem d24_5 : decode jdk_67_method_42_code 5 = .ok (.invokespecial 137, 3) := by decide +kernel
theorem d24_8 : decode jdk_67_method_42_code 8 = .ok (.areturn, 1) := by decide +kernel
set_option maxRecDepth 65536 in
set_option maxHeartbeats 40000000 in
theorem sb_toString (l : Launch) (Z : State) (a0 : Array Value) (hw : ∀ d ∈ tables_1, d.before a0 Z = true) (ws : List Jvm.Cond) (zc : Int32) (bb da : Addr) (kd : ClassId) (N : Nat) (bs : List Int32) (h0 : Heap) (n0 : Nat) (O : Old Z n0 h0) (hE : EnvS Z zc) (hB : Bld Z h0 bb da kd N bs) (hlt : bs.length < N) (hN : N ≤ 200) :
    MetFree l (⟨"java/lang/StringBuilder", "toString", "()Ljava/lang/String;"⟩ : MethodName) (head1 (Jvm.Cond.code (⟨"java/lang/StringBuilder", "toString", "()Ljava/lang/String;"⟩ : MethodName) jdk_67_method_42_code 1 (some (.object "java/lang/String")) :: ws) ({ frames := 5, cells := 2, slots := 204, locals := 79 } : Room)) (fun a U => a = #[(.ref bb)] ∧ Z.Warmed39 U.vm ∧ U.heap = h0) (fun _ _ _ _ _ => True) (fun _ U o U' => ∃ v L, o = .returned v ∧ Qx h0 n0 [] (fun x h => ∃ t k, Str Z h x t k bs ∧ h0.size ≤ x ∧ h0.size ≤ t) v U'.heap L ∧ FrameEnd U o U' L ({ frames := 5, cells := 2, slots := 204, locals := 79 } : Room).cells ({ frames := 5, cells := 2, slots := 204, locals := 79 } : Room).slots) := by
  refine MetFree.of_bodySF (plainFor_of_name pn_java_lang_StringBuilder) hisR ?_
  intro p e s m args below meth c s₁ Bd hml0 hP hK
  obtain ⟨rfl, hZ, hh⟩ := hP
  have hx := Bd.exec
  have hby := Bd.bytes
  have hml : c.maxLocals = 1 := hml0
  have hown : s.vm.findClass "java/lang/StringBuilder" = some m.cls := findClass_of_methodNamed Bd.named
  have hnm := (name_of_methodNamed Bd.named Bd.method).1
  have X0 : Stand p l e ({ frames := 5, cells := 2, slots := 204, locals := 79 } : Room) s m #[(.ref bb)] below meth c s₁ [] 0 0 := Stand.of_body Bd
  have e0 : s₁.heap = h0 := by rw [← hh, Bd.state]; rfl
  have N0 := Fr.nil n0
  have pre0 : ∀ t, Steps p.tables e below (s₁.setTop (mkF m 0 #[.val (.ref bb)] [])) t → Steps p.tables e below (s₁.setTop (entryFrame m #[(.ref bb)] 1)) t := fun t k => castTop (ef_1_R m bb) k
  obtain ⟨Scmp, hzc⟩ := id hE
  obtain ⟨Eb, Vb, Cb, Nb, Ab⟩ := id hB
  obtain ⟨T1, h1, X1, e1, E1, A1, D1, -, st1⟩ := newO X0 hx hZ hown (hw _ (List.mem_of_getElem? (i := 181) rfl)) (hw _ (List.mem_of_getElem? (i := 4) rfl)) (hw _ (List.mem_of_getElem? (i := 3) rfl)) e0 (g := (mkF m 0 #[.val (.ref bb)] [])) rfl (hb hby d24_0) (by decide) (by decide)
  obtain ⟨b1, g1⟩ : ∃ z, z = h0.size := ⟨_, rfl⟩
  rw [← g1] at A1 D1 st1
  have gb1 : n0 ≤ b1 := by have q1 := O.1; have q2 := O.2.1; omega
  have gs1 : h0.size ≤ b1 := by have q := ((Keep.refl h0 [])).1; omega
  have O1 : Old Z n0 h1 := O.ext E1
  have Kp1 : Keep h0 h1 [] := (Keep.refl h0 []).ext E1
  have F1_value : Fld Z h1 b1 "java/lang/String" "value" "[B" .null := D1 (Or.inr (hw _ (List.mem_of_getElem? (i := 6) rfl))) (ty := (.array .byte)) (by decide)
  have F1_coder : Fld Z h1 b1 "java/lang/String" "coder" "B" (.int (0 : Int32)) := D1 (Or.inr (hw _ (List.mem_of_getElem? (i := 7) rfl))) (ty := .byte) (by decide)
  have f2 : Exa Z h1 bb "java/lang/StringBuilder" := (Eb.ext E1)
  have f3 : Fld Z h1 bb "java/lang/AbstractStringBuilder" "value" "[B" (.ref da) := (Vb.ext E1)
  have f4 : Fld Z h1 bb "java/lang/AbstractStringBuilder" "coder" "B" (.int (0 : Int32)) := (Cb.ext E1)
  have f5 : Fld Z h1 bb "java/lang/AbstractStringBuilder" "count" "I" (.int (Int32.ofNat bs.length)) := (Nb.ext E1)
  have f6 : Arv Z h1 da kd .byte (Int32.ofNat N) (by8 bs) (.int (0 : Int32)) := (Ab.ext E1)
  obtain ⟨_, _, ⟨T7, L7, k7, n7⟩, -, X7, ⟨Lc7, hQ7, l7, y7, z7⟩, st7⟩ := X1.specialBack hx (y := (⟨"java/lang/String", "<init>", "(Ljava/lang/StringBuilder;)V"⟩ : MethodName)) rfl hown (mvT hZ (hw _ (List.mem_of_getElem? (i := 182) rfl))) (mvT hZ (hw _ (List.mem_of_getElem? (i := 183) rfl))) (mvT hZ (hw _ (List.mem_of_getElem? (i := 184) rfl))) (by decide) (backOf (W := 1) (sb_strInit2 l Z a0 hw [] zc b1 bb da kd N bs h1 n0 O1 hE ⟨f2, f3, f4, f5, f6⟩ A1 F1_value F1_coder hlt hN gb1) hZ (hw _ (List.mem_of_getElem? (i := 184) rfl)) (hw _ (List.mem_of_getElem? (i := 3) rfl)) (by decide) (by decide)) (g := (mkF m 5 #[.val (.ref bb)] [(.ref bb), (.ref b1), (.ref b1)])) rfl (by rw [hml]; rfl) (Steps.refl _) (a := b1) (argsL := [(.ref bb)]) (rest := [(.ref b1)]) (lenOf pd_28Ljava2flang2fStringBuilder3b29V rfl) rfl (by show 2 * 0 + _ ≤ _; exact Nat.le_of_eq rfl) (hb hby d24_5) (fun _ _ => ⟨rfl, e1, (by decide : 1 + 1 ≤ _), (by decide : 4 + 200 ≤ _)⟩)
  dsimp only [Pt.U, Pt.locs, Pt.cells, Pt.slots] at X7 l7 y7 z7 st7 hQ7
  rw [l7, y7, z7] at X7
  obtain ⟨rfl, N7q, K7, ⟨tt, kt, Pf, gt⟩⟩ := hQ7
  have N7 := Fr.app N0 N7q
  have O7 : Old Z n0 T7.heap := O1.keep K7 (allS (P := (n0 ≤ ·)) gb1 all0)
  have Kp7 : Keep h0 T7.heap [] := Kp1.trans K7 (allS (P := (fun x => x ∈ [] ∨ h0.size ≤ x)) (Or.inr gs1) all0)
  have gt' : h0.size ≤ tt := by have q := Kp1.1; omega
  obtain ⟨fs, hr, hrun, hended, hW, hsame⟩ := X7.leave (v := some (.ref b1)) (fun h => by rw [Bd.returns] at h; cases h)
  refine ⟨_, _, pre0 _ ?_, hrun, hended, _, _, rfl, ?_, ⟨_, rfl⟩, hW, hsame.mono (by decide) (by decide)⟩
  · show Steps p.tables e below (s₁.setTop (mkF m 0 #[.val (.ref bb)] [])) _
    refine st1 _ ?_
    show Steps p.tables e below (T1.setTop (mkF m 3 #[.val (.ref bb)] [(.ref b1)])) _
    refine XS.dup X1.here hx rfl (hb hby d24_3) rfl rfl ?_
    show Steps p.tables e below (T1.setTop (mkF m 4 #[.val (.ref bb)] [(.ref b1), (.ref b1)])) _
    refine XS.aloadN X1.here hx rfl (hb hby d24_4) rfl rfl ?_
    show Steps p.tables e below (T1.setTop (mkF m 5 #[.val (.ref bb)] [(.ref bb), (.ref b1), (.ref b1)])) _
    refine st7.trans ?_
    show Steps p.tables e below (T7.setTop (mkF m 8 #[.val (.ref bb)] [(.ref b1)])) _
    exact retOut X7 hx Bd.returns rfl (Or.inr (Or.inr (Or.inr (Or.inr ⟨rfl, rfl, rfl⟩)))) (hb hby d24_8) hr
  · exact by show Qx h0 n0 _ _ (some (.ref b1)) T7.heap _; exact ⟨_, rfl, N7, Kp7, _, _, Pf, gs1, gt'⟩
theorem d5_0 : decode jdk_68_method_2_code 0 = .ok (.aload_n 0, 1) := by decide +kernel
theorem d5_1 : decode jdk_68_method_2_code 1 = .ok (.invokespecial 3, 3) := by decide +kernel
theorem d5_4 : decode jdk_68_method_2_code 4 = .ok (.getstatic 18, 3) := by decide +kernel
theorem d5_7 : decode jdk_68_method_2_code 7 = .ok (.ifCond .eq 18, 3) := by decide +kernel
theorem d5_10 : decode jdk_68_method_2_code 10 = .ok (.aload_n 0, 1) := by decide +kernel
theorem d5_11 : decode jdk_68_method_2_code 11 = .ok (.iload_n 1, 1) := by decide +kernel
theorem d5_12 : decode jdk_68_method_2_code 12 = .ok (.newarray .byte, 2) := by decide +kernel
theorem d5_14 : decode jdk_68_method_2_code 14 = .ok (.putfield 15, 3) := by decide +kernel
theorem d5_17 : decode jdk_68_method_2_code 17 = .ok (.aload_n 0, 1) := by decide +kernel
theorem d5_18 : decode jdk_68_method_2_code 18 = .ok (.iconst 0, 1) := by decide +kernel
theorem d5_19 : decode jdk_68_method_2_code 19 = .ok (.putfield 22, 3) := by decide +kernel
theorem d5_22 : decode jdk_68_method_2_code 22 = .ok (.goto 16, 3) := by decide +kernel
theorem d5_38 : decode jdk_68_method_2_code 38 = .ok (.return_, 1) := by decide +kernel
set_option maxRecDepth 65536 in
set_option maxHeartbeats 40000000 in
theorem sb_asbInit (l : Launch) (Z : State) (a0 : Array Value) (hw : ∀ d ∈ tables_1, d.before a0 Z = true) (ws : List Jvm.Cond) (zc : Int32) (bb : Addr) (h0 : Heap) (n0 : Nat) (O : Old Z n0 h0) (hE : EnvS Z zc) (E : Exa Z h0 bb "java/lang/StringBuilder") (F : Fld Z h0 bb "java/lang/AbstractStringBuilder" "value" "[B" .null) (C : Fld Z h0 bb "java/lang/AbstractStringBuilder" "coder" "B" (.int (0 : Int32))) (I : Fld Z h0 bb "java/lang/AbstractStringBuilder" "count" "I" (.int (0 : Int32))) (gb : n0 ≤ bb) :
    MetFree l (⟨"java/lang/AbstractStringBuilder", "<init>", "(I)V"⟩ : MethodName) (head1 (Jvm.Cond.code (⟨"java/lang/AbstractStringBuilder", "<init>", "(I)V"⟩ : MethodName) jdk_68_method_2_code 2 none :: ws) ({ frames := 1, cells := 1, slots := 16, locals := 12 } : Room)) (fun a U => a = #[(.ref bb), (.int (16 : Int32))] ∧ Z.Warmed39 U.vm ∧ U.heap = h0) (fun _ _ _ _ _ => True) (fun _ U o U' => ∃ v L, o = .returned v ∧ Qh none h0 n0 [bb] (fun h => ∃ da k, Bld Z h bb da k 16 [] ∧ h0.size ≤ da) v U'.heap L ∧ FrameEnd U o U' L ({ frames := 1, cells := 1, slots := 16, locals := 12 } : Room).cells ({ frames := 1, cells := 1, slots := 16, locals := 12 } : Room).slots) := by
  refine MetFree.of_bodySF (plainFor_of_name pn_java_lang_AbstractStringBuilder) hisR ?_
  intro p e s m args below meth c s₁ Bd hml0 hP hK
  obtain ⟨rfl, hZ, hh⟩ := hP
  have hx := Bd.exec
  have hby := Bd.bytes
  have hml : c.maxLocals = 2 := hml0
  have hown : s.vm.findClass "java/lang/AbstractStringBuilder" = some m.cls := findClass_of_methodNamed Bd.named
  have hnm := (name_of_methodNamed Bd.named Bd.method).1
  have X0 : Stand p l e ({ frames := 1, cells := 1, slots := 16, locals := 12 } : Room) s m #[(.ref bb), (.int (16 : Int32))] below meth c s₁ [] 0 0 := Stand.of_body Bd
  have e0 : s₁.heap = h0 := by rw [← hh, Bd.state]; rfl
  have N0 := Fr.nil n0
  have pre0 : ∀ t, Steps p.tables e below (s₁.setTop (mkF m 0 #[.val (.ref bb), .val (.int (16 : Int32))] [])) t → Steps p.tables e below (s₁.setTop (entryFrame m #[(.ref bb), (.int (16 : Int32))] 2)) t := fun t k => castTop (ef_2_RI m bb (16 : Int32)) k
  obtain ⟨Scmp, hzc⟩ := id hE
  obtain ⟨T1, X1, e1, st1⟩ := initO X0 hx hZ hown (hw _ (List.mem_of_getElem? (i := 72) rfl)) (hw _ (List.mem_of_getElem? (i := 49) rfl)) (hw _ (List.mem_of_getElem? (i := 50) rfl)) e0 (g := (mkF m 1 #[.val (.ref bb), .val (.int (16 : Int32))] [(.ref bb)])) rfl (by rw [hml]; rfl) rfl (hb hby d5_1) (by decide) (W := 0) (by show 2 * 0 + _ ≤ _; exact Nat.le_of_eq rfl) (by decide)
  obtain ⟨T2, X2, e2, st2⟩ := getS2 X1 hx hZ hown (host := "") (Or.inl (hw _ (List.mem_of_getElem? (i := 73) rfl))) Via.refl e1 (Scmp.ext O.2) (g := (mkF m 4 #[.val (.ref bb), .val (.int (16 : Int32))] [])) rfl (hb hby d5_4)
  obtain ⟨T3, h3, k3, X3, e3, E3, A3, st3⟩ := newP X2 hx hZ (hw _ (List.mem_of_getElem? (i := 5) rfl)) e2 (g := (mkF m 12 #[.val (.ref bb), .val (.int (16 : Int32))] [(.int (16 : Int32)), (.ref bb)])) rfl (hb hby d5_12) rfl (by decide) (cap := 16) (by decide) (by decide) (by decide) (by decide)
  obtain ⟨b3, g3⟩ : ∃ z, z = h0.size := ⟨_, rfl⟩
  rw [← g3] at A3 st3
  have gb3 : n0 ≤ b3 := by have q1 := O.1; have q2 := O.2.1; omega
  have gs3 : h0.size ≤ b3 := by have q := ((Keep.refl h0 [bb])).1; omega
  have V3 : Arv Z h3 b3 k3 .byte (16 : Int32) [] (.int (0 : Int32)) := Arv.new A3 (by decide)
  have O3 : Old Z n0 h3 := O.ext E3
  have Kp3 : Keep h0 h3 [bb] := (Keep.refl h0 [bb]).ext E3
  have f4 : Exa Z h3 bb "java/lang/StringBuilder" := (E.ext E3)
  have f5 : Fld Z h3 bb "java/lang/AbstractStringBuilder" "value" "[B" .null := (F.ext E3)
  obtain ⟨T6, h6, X6, e6, W6, st6⟩ := putF X3 hx hZ hown (host := "") (Or.inl (hw _ (List.mem_of_getElem? (i := 74) rfl))) Via.refl e3 f5 f4 (Or.inl (hw _ (List.mem_of_getElem? (i := 75) rfl))) (hw _ (List.mem_of_getElem? (i := 61) rfl)) (ty := (.array .byte)) (by decide) rfl rfl (g := (mkF m 14 #[.val (.ref bb), .val (.int (16 : Int32))] [(.ref b3), (.ref bb)])) rfl rfl (hb hby d5_14)
  have N6 := Fr.snoc X6 N0 gb
  have O6 : Old Z n0 h6 := O3.wr W6 gb
  have Kp6 : Keep h0 h6 [bb] := Kp3.wr W6 (Or.inl (by simp))
  have Fw6 : Fld Z h6 bb "java/lang/AbstractStringBuilder" "value" "[B" (.ref b3) := f5.same W6
  have f7 : Exa Z h6 bb "java/lang/StringBuilder" := (f4.wr W6)
  have f8 : Fld Z h6 bb "java/lang/AbstractStringBuilder" "coder" "B" (.int (0 : Int32)) := ((C.ext E3).other W6 (Or.inr (slot_ne (Or.inl (hw _ (List.mem_of_getElem? (i := 77) rfl))) (Or.inl (hw _ (List.mem_of_getElem? (i := 75) rfl))) (by decide) (t := .byte) (t' := (.array .byte)) (by decide) (by decide))))
  obtain ⟨T9, h9, X9, e9, W9, st9⟩ := putFN X6 hx hZ hown (hw _ (List.mem_of_getElem? (i := 76) rfl)) Via.refl e6 f8 f7 (Or.inl (hw _ (List.mem_of_getElem? (i := 77) rfl))) (hw _ (List.mem_of_getElem? (i := 61) rfl)) (ty := .byte) (v' := (.int (0 : Int32))) (by decide) rfl (by decide) (g := (mkF m 19 #[.val (.ref bb), .val (.int (16 : Int32))] [(.int (0 : Int32)), (.ref bb)])) rfl rfl (hb hby d5_19)
  have N9 := Fr.snoc X9 N6 gb
  have O9 : Old Z n0 h9 := O6.wr W9 gb
  have Kp9 : Keep h0 h9 [bb] := Kp6.wr W9 (Or.inl (by simp))
  have Fw9 : Fld Z h9 bb "java/lang/AbstractStringBuilder" "coder" "B" (.int (0 : Int32)) := f8.same W9
  have f10 : Exa Z h9 bb "java/lang/StringBuilder" := (f7.wr W9)
  have f11 : Fld Z h9 bb "java/lang/AbstractStringBuilder" "value" "[B" (.ref b3) := (Fw6.other W9 (Or.inr (slot_ne (Or.inl (hw _ (List.mem_of_getElem? (i := 75) rfl))) (Or.inl (hw _ (List.mem_of_getElem? (i := 77) rfl))) (by decide) (t := (.array .byte)) (t' := .byte) (by decide) (by decide))))
  have f12 : Fld Z h9 bb "java/lang/AbstractStringBuilder" "count" "I" (.int (0 : Int32)) := (((I.ext E3).other W6 (Or.inr (slot_ne (Or.inl (hw _ (List.mem_of_getElem? (i := 103) rfl))) (Or.inl (hw _ (List.mem_of_getElem? (i := 75) rfl))) (by decide) (t := .int) (t' := (.array .byte)) (by decide) (by decide)))).other W9 (Or.inr (slot_ne (Or.inl (hw _ (List.mem_of_getElem? (i := 103) rfl))) (Or.inl (hw _ (List.mem_of_getElem? (i := 77) rfl))) (by decide) (t := .int) (t' := .byte) (by decide) (by decide))))
  have f13 : Arv Z h9 b3 k3 .byte (16 : Int32) [] (.int (0 : Int32)) := ((V3.other W6 (Ne.symm (Nat.ne_of_lt (Nat.lt_of_lt_of_le I.lt (Nat.le_of_eq g3.symm))))).other W9 (Ne.symm (Nat.ne_of_lt (Nat.lt_of_lt_of_le I.lt (Nat.le_of_eq g3.symm)))))
  obtain ⟨fs, hr, hrun, hended, hW, hsame⟩ := X9.leave (v := none) (fun h => rfl)
  refine ⟨_, _, pre0 _ ?_, hrun, hended, _, _, rfl, ?_, ⟨_, rfl⟩, hW, hsame.mono (by decide) (by decide)⟩
  · show Steps p.tables e below (s₁.setTop (mkF m 0 #[.val (.ref bb), .val (.int (16 : Int32))] [])) _
    refine XS.aloadN X0.here hx rfl (hb hby d5_0) rfl rfl ?_
    show Steps p.tables e below (s₁.setTop (mkF m 1 #[.val (.ref bb), .val (.int (16 : Int32))] [(.ref bb)])) _
    refine st1 _ ?_
    show Steps p.tables e below (T1.setTop (mkF m 4 #[.val (.ref bb), .val (.int (16 : Int32))] [])) _
    refine st2 _ ?_
    show Steps p.tables e below (T2.setTop (mkF m 7 #[.val (.ref bb), .val (.int (16 : Int32))] [(.int zc)])) _
    refine XS.ifNo X2.here hx rfl (hb hby d5_7) rfl ((if0 _ _).trans (feq (hzc : ¬ (zc = (0 : Int32)))).1) ?_
    show Steps p.tables e below (T2.setTop (mkF m 10 #[.val (.ref bb), .val (.int (16 : Int32))] [])) _
    refine XS.aloadN X2.here hx rfl (hb hby d5_10) rfl rfl ?_
    show Steps p.tables e below (T2.setTop (mkF m 11 #[.val (.ref bb), .val (.int (16 : Int32))] [(.ref bb)])) _
    refine XS.iloadN X2.here hx rfl (hb hby d5_11) rfl ?_
    show Steps p.tables e below (T2.setTop (mkF m 12 #[.val (.ref bb), .val (.int (16 : Int32))] [(.int (16 : Int32)), (.ref bb)])) _
    refine st3 _ ?_
    show Steps p.tables e below (T3.setTop (mkF m 14 #[.val (.ref bb), .val (.int (16 : Int32))] [(.ref b3), (.ref bb)])) _
    refine st6 _ ?_
    show Steps p.tables e below (T6.setTop (mkF m 17 #[.val (.ref bb), .val (.int (16 : Int32))] [])) _
    refine XS.aloadN X6.here hx rfl (hb hby d5_17) rfl rfl ?_
    show Steps p.tables e below (T6.setTop (mkF m 18 #[.val (.ref bb), .val (.int (16 : Int32))] [(.ref bb)])) _
    refine XS.iconst X6.here hx rfl (hb hby d5_18) ?_
    show Steps p.tables e below (T6.setTop (mkF m 19 #[.val (.ref bb), .val (.int (16 : Int32))] [(.int (0 : Int32)), (.ref bb)])) _
    refine st9 _ ?_
    show Steps p.tables e below (T9.setTop (mkF m 22 #[.val (.ref bb), .val (.int (16 : Int32))] [])) _
    refine XS.goto X9.here hx rfl (pc0 := 22) (pc' := 38) rfl (hb hby d5_22) (by decide) (by decide) ?_
    show Steps p.tables e below (T9.setTop (mkF m 38 #[.val (.ref bb), .val (.int (16 : Int32))] [])) _
    exact X9.returnOut hx Bd.returns (hb hby d5_38) hr
  · exact by show Qh _ h0 n0 _ _ none T9.heap _; rw [e9]; exact ⟨rfl, N9, Kp9, _, _, ⟨f10, f11, Fw9, f12, f13⟩, gs3⟩
theorem d4_0 : decode jdk_67_method_1_code 0 = .ok (.aload_n 0, 1) := by decide +kernel
theorem d4_1 : decode jdk_67_method_1_code 1 = .ok (.bipush 16, 2) := by decide +kernel
theorem d4_3 : decode jdk_67_method_1_code 3 = .ok (.invokespecial 1, 3) := by decide +kernel
theorem d4_6 : decode jdk_67_method_1_code 6 = .ok (.return_, 1) := by decide +kernel
set_option maxRecDepth 65536 in
set_option maxHeartbeats 40000000 in
theorem sb_sbInit (l : Launch) (Z : State) (a0 : Array Value) (hw : ∀ d ∈ tables_1, d.before a0 Z = true) (ws : List Jvm.Cond) (zc : Int32) (bb : Addr) (h0 : Heap) (n0 : Nat) (O : Old Z n0 h0) (hE : EnvS Z zc) (E : Exa Z h0 bb "java/lang/StringBuilder") (F : Fld Z h0 bb "java/lang/AbstractStringBuilder" "value" "[B" .null) (C : Fld Z h0 bb "java/lang/AbstractStringBuilder" "coder" "B" (.int (0 : Int32))) (I : Fld Z h0 bb "java/lang/AbstractStringBuilder" "count" "I" (.int (0 : Int32))) (gb : n0 ≤ bb) :
    MetFree l (⟨"java/lang/StringBuilder", "<init>", "()V"⟩ : MethodName) (head1 (Jvm.Cond.code (⟨"java/lang/StringBuilder", "<init>", "()V"⟩ : MethodName) jdk_67_method_1_code 1 none :: ws) ({ frames := 2, cells := 1, slots := 16, locals := 25 } : Room)) (fun a U => a = #[(.ref bb)] ∧ Z.Warmed39 U.vm ∧ U.heap = h0) (fun _ _ _ _ _ => True) (fun _ U o U' => ∃ v L, o = .returned v ∧ Qh none h0 n0 [bb] (fun h => ∃ da k, Bld Z h bb da k 16 [] ∧ h0.size ≤ da) v U'.heap L ∧ FrameEnd U o U' L ({ frames := 2, cells := 1, slots := 16, locals := 25 } : Room).cells ({ frames := 2, cells := 1, slots := 16, locals := 25 } : Room).slots) := by
  refine MetFree.of_bodySF (plainFor_of_name pn_java_lang_StringBuilder) hisR ?_
  intro p e s m args below meth c s₁ Bd hml0 hP hK
  obtain ⟨rfl, hZ, hh⟩ := hP
  have hx := Bd.exec
  have hby := Bd.bytes
  have hml : c.maxLocals = 1 := hml0
  have hown : s.vm.findClass "java/lang/StringBuilder" = some m.cls := findClass_of_methodNamed Bd.named
  have hnm := (name_of_methodNamed Bd.named Bd.method).1
  have X0 : Stand p l e ({ frames := 2, cells := 1, slots := 16, locals := 25 } : Room) s m #[(.ref bb)] below meth c s₁ [] 0 0 := Stand.of_body Bd
  have e0 : s₁.heap = h0 := by rw [← hh, Bd.state]; rfl
  have N0 := Fr.nil n0
  have pre0 : ∀ t, Steps p.tables e below (s₁.setTop (mkF m 0 #[.val (.ref bb)] [])) t → Steps p.tables e below (s₁.setTop (entryFrame m #[(.ref bb)] 1)) t := fun t k => castTop (ef_1_R m bb) k
  obtain ⟨Scmp, hzc⟩ := id hE
  obtain ⟨_, _, ⟨T1, L1, k1, n1⟩, -, X1, ⟨Lc1, hQ1, l1, y1, z1⟩, st1⟩ := X0.specialBack hx (y := (⟨"java/lang/AbstractStringBuilder", "<init>", "(I)V"⟩ : MethodName)) rfl hown (mvT hZ (hw _ (List.mem_of_getElem? (i := 66) rfl))) (mvT hZ (hw _ (List.mem_of_getElem? (i := 67) rfl))) (mvT hZ (hw _ (List.mem_of_getElem? (i := 71) rfl))) (by decide) (backOf (W := 0) (sb_asbInit l Z a0 hw [] zc bb h0 n0 O hE E F C I gb) hZ (hw _ (List.mem_of_getElem? (i := 71) rfl)) (hw _ (List.mem_of_getElem? (i := 70) rfl)) (by decide) (by decide)) (g := (mkF m 3 #[.val (.ref bb)] [(.int (16 : Int32)), (.ref bb)])) rfl (by rw [hml]; rfl) (Steps.refl _) (a := bb) (argsL := [(.int (16 : Int32))]) (rest := []) (lenOf pd_28I29V rfl) rfl (by show 2 * 0 + _ ≤ _; exact Nat.le_of_eq rfl) (hb hby d4_3) (fun _ _ => ⟨rfl, e0, (by decide : 0 + 1 ≤ _), (by decide : 0 + 16 ≤ _)⟩)
  dsimp only [Pt.U, Pt.locs, Pt.cells, Pt.slots] at X1 l1 y1 z1 st1 hQ1
  rw [l1, y1, z1] at X1
  obtain ⟨rfl, N1q, K1, P1⟩ := hQ1
  have N1 := Fr.app N0 N1q
  have O1 : Old Z n0 T1.heap := O.keep K1 (allS (P := (n0 ≤ ·)) gb all0)
  have Kp1 : Keep h0 T1.heap [bb] := (Keep.refl h0 [bb]).trans K1 (allS (P := (fun x => x ∈ [bb] ∨ h0.size ≤ x)) (Or.inl (by simp)) all0)
  have Pf := P1
  obtain ⟨fs, hr, hrun, hended, hW, hsame⟩ := X1.leave (v := none) (fun h => rfl)
  refine ⟨_, _, pre0 _ ?_, hrun, hended, _, _, rfl, ?_, ⟨_, rfl⟩, hW, hsame.mono (by decide) (by decide)⟩
  · show Steps p.tables e below (s₁.setTop (mkF m 0 #[.val (.ref bb)] [])) _
    refine XS.aloadN X0.here hx rfl (hb hby d4_0) rfl rfl ?_
    show Steps p.tables e below (s₁.setTop (mkF m 1 #[.val (.ref bb)] [(.ref bb)])) _
    refine XS.bipush X0.here hx rfl (hb hby d4_1) ?_
    show Steps p.tables e below (s₁.setTop (mkF m 3 #[.val (.ref bb)] [(.int (16 : Int32)), (.ref bb)])) _
    refine st1.trans ?_
    show Steps p.tables e below (T1.setTop (mkF m 6 #[.val (.ref bb)] [])) _
    exact X1.returnOut hx Bd.returns (hb hby d4_6) hr
  · exact by show Qh _ h0 n0 _ _ none T1.heap _; exact ⟨rfl, N1, Kp1, Pf⟩
theorem own_sameFrom (f g : Nat → Int32) : ∀ (n k : Nat), StrEq.sameFrom f g k n = true ↔ ∀ i, i < n → f (k + i) = g (k + i)
  | 0, k => by simp [StrEq.sameFrom]
  | n + 1, k => by
    simp only [StrEq.sameFrom, Bool.and_eq_true, beq_iff_eq, own_sameFrom f g n (k + 1)]
    constructor
    · rintro ⟨h1, h2⟩ i hi
      rcases Nat.eq_zero_or_pos i with rfl | hp
      · exact h1
      · have := h2 (i - 1) (by omega); rwa [show k + 1 + (i - 1) = k + i by omega] at this
    · intro h
      exact ⟨h 0 (by omega), fun i hi => by have := h (i + 1) (by omega); rwa [show k + (i + 1) = k + 1 + i by omega] at this⟩
theorem own_bytes {Z U : State} {h : Heap} {d : Addr} {k : ClassId} {cs : List Int32} (A : Arv Z h d k .byte (Int32.ofNat cs.length) (by8 cs) (.int (0 : Int32))) (hcs : cs.length ≤ 1000) (hal : Z.vm.Alike U.vm) (hh : U.heap = h) : ∃ c : Cell, StrEq.SL1E.Bytes d c U ∧ c.slots.size = cs.length ∧ ∀ i, i < cs.length → (by8 cs)[i]? = some (.int (Jvm.Lib.StringLatin1.equals.intAt c i)) := by
  obtain ⟨c, A1, -, A3, A4, A5, A6⟩ := A
  have hs : c.slots.size = cs.length := by rw [A3, own_cl hcs]
  have at_ : ∀ i, i < cs.length → c.slots[i]? = (by8 cs)[i]? := fun i hi => by
    rw [A5 i (by omega), List.getD_eq_getElem?_getD]
    have : i < (by8 cs).length := by simpa using hi
    rw [List.getElem?_eq_getElem this]; rfl
  have int_ : ∀ i, i < cs.length → c.slots[i]? = some (.int (Jvm.Lib.StringLatin1.equals.intAt c i)) := fun i hi => by
    have q := at_ i hi
    simp only [by8, List.getElem?_map, List.getElem?_eq_getElem hi, Option.map_some] at q
    simp [Jvm.Lib.StringLatin1.equals.intAt, q, SBG.getD_of q]
  exact ⟨c, ⟨by rw [hh]; exact A1.1, State.isArrayOf_alike hal A1.2.1, A1.2.2, by rw [hs]; omega, fun i hi => int_ i (by omega)⟩, hs, fun i hi => by rw [← at_ i hi]; exact int_ i hi⟩
theorem sb_leqB {p : Program} {l : Launch} {e : Env} {R : Room} {s : State} {args : Array Value} {below : List Frame} {W : Nat} {Z : State} {a0 : Array Value} {h : Heap} {n0 : Nat} (hZ : Z.Warmed39 s.vm) (wc : (Jvm.Cond.code (⟨"java/lang/StringLatin1", "equals", "([B[B)Z"⟩ : MethodName) jdk_43_method_13_code 3 (some .boolean)).before a0 Z = true) (wz : (Jvm.Cond.initialized "java/lang/StringLatin1").before a0 Z = true)
    {sd td : Addr} {ks kt : ClassId} {cs ds : List Int32} (A : Arv Z h sd ks .byte (Int32.ofNat cs.length) (by8 cs) (.int (0 : Int32))) (B : Arv Z h td kt .byte (Int32.ofNat ds.length) (by8 ds) (.int (0 : Int32))) (hcs : cs.length ≤ 1000) (hds : ds.length ≤ 1000) (hfr : 2 ≤ R.frames) (hlo : W + 54 ≤ R.locals) :
    Back l R p e below s args (⟨"java/lang/StringLatin1", "equals", "([B[B)Z"⟩ : MethodName) 3 W (fun P a => a = #[.ref sd, .ref td] ∧ P.U.heap = h ∧ P.cells + 0 ≤ R.cells ∧ P.slots + 0 ≤ R.slots)
      (fun P _ v B => ∃ L, Qv (some (.int (if by8 cs = by8 ds then 1 else 0))) h n0 v B.U.heap L ∧ B.locs = P.locs ++ L ∧ B.cells = P.cells + 0 ∧ B.slots = P.slots + 0) := by
  intro m meth c P g ig mk a X hg hsize hdg hW hn hp'
  obtain ⟨rfl, rfl, r1, r2⟩ := hp'
  have hal : Z.vm.Alike P.U.vm := hZ.alike.trans X.warmed.alike
  have wc' : StrEq.SL1E.tab.before args s = true := mvT hZ wc
  obtain ⟨ca, ba, za, ea⟩ := own_bytes A hcs hal rfl
  obtain ⟨cb, bb, zb, eb⟩ := own_bytes B hds hal rfl
  have pay := Back.of_pure (l := l) (R := R) (p := p) (e := e) (below := below) (s := s) (sargs := args) (y := StrEq.sl1eN) (len := 3) (W := W) (G := Addr × Cell × Addr × Cell) (P := fun g a U => StrEq.SL1E.P g.1 g.2.1 g.2.2.1 g.2.2.2 a U) (val := fun g => some (.int (if StrEq.sameB g.2.1 g.2.2.2 = true then 1 else 0))) (S := StrEq.SL1E.spec) (tab := StrEq.SL1E.tab) (n := 2) (bytes := StrEq.sl1eB) (maxL := 3) (ret := some .boolean)
    (fun g => StrEq.SL1E.gets l g.1 g.2.1 g.2.2.1 g.2.2.2) rfl rfl rfl (by show 1 + 1 ≤ _; omega) (by show W + (3 + 11) + 40 ≤ _; omega) (fun g a U q => by rw [q.1]; rfl) (fun g a U U' al hh q => ⟨q.1, q.2.1.move al (by rw [hh]; exact q.2.1.1), q.2.2.move al (by rw [hh]; exact q.2.2.1)⟩) (by decide) wc' wc' (mvT hZ wz)
  obtain ⟨v, B', X', ⟨⟨q1, q2, q3, q4⟩, hv⟩, st⟩ := pay m meth c P g ig mk _ X hg hsize hdg hW hn ⟨r1, r2, (sd, ca, td, cb), rfl, ba, bb⟩
  have hq := hv (sd, ca, td, cb) ⟨rfl, ba, bb⟩
  have key : StrEq.sameB ca cb = true ↔ by8 cs = by8 ds := by
    unfold StrEq.sameB
    rw [Bool.and_eq_true, beq_iff_eq, za, zb, own_sameFrom]
    constructor
    · rintro ⟨h1, h2⟩
      refine List.ext_getElem? fun i => ?_
      by_cases hi : i < cs.length
      · rw [ea i hi, eb i (by omega)]; have := h2 i hi; rw [Nat.zero_add] at this; rw [this]
      · rw [List.getElem?_eq_none (by simp; omega), List.getElem?_eq_none (by simp; omega)]
    · intro h
      have hl : cs.length = ds.length := by have := congrArg List.length h; simpa using this
      refine ⟨hl, fun i hi => ?_⟩
      have q := ea i hi
      rw [h, eb i (by omega)] at q
      rw [Nat.zero_add]; exact (Value.int.inj (Option.some.inj q)).symm
  refine ⟨v, B', X', ⟨[], ⟨?_, Fr.nil n0, by first | exact q1 | exact q4⟩, by first | simpa using q1 | simpa using q2, by first | exact q2 | exact q3, by first | exact q3 | exact q4⟩, st⟩
  rw [hq]
  by_cases h : by8 cs = by8 ds
  · rw [if_pos h, if_pos (key.mpr h)]
  · rw [if_neg h, if_neg (fun q => h (key.mp q))]
theorem d33_0 : decode jdk_42_method_66_code 0 = .ok (.aload_n 0, 1) := by decide +kernel
theorem d33_1 : decode jdk_42_method_66_code 1 = .ok (.aload_n 1, 1) := by decide +kernel
theorem d33_2 : decode jdk_42_method_66_code 2 = .ok (.if_acmp .ne 5, 3) := by decide +kernel
theorem d33_7 : decode jdk_42_method_66_code 7 = .ok (.aload_n 1, 1) := by decide +kernel
theorem d33_8 : decode jdk_42_method_66_code 8 = .ok (.instanceof 10, 3) := by decide +kernel
theorem d33_11 : decode jdk_42_method_66_code 11 = .ok (.ifCond .eq 43, 3) := by decide +kernel
theorem d33_14 : decode jdk_42_method_66_code 14 = .ok (.aload_n 1, 1) := by decide +kernel
theorem d33_15 : decode jdk_42_method_66_code 15 = .ok (.checkcast 10, 3) := by decide +kernel
theorem d33_18 : decode jdk_42_method_66_code 18 = .ok (.astore_n 2, 1) := by decide +kernel
theorem d33_19 : decode jdk_42_method_66_code 19 = .ok (.getstatic 38, 3) := by decide +kernel
theorem d33_22 : decode jdk_42_method_66_code 22 = .ok (.ifCond .eq 14, 3) := by decide +kernel
theorem d33_25 : decode jdk_42_method_66_code 25 = .ok (.aload_n 0, 1) := by decide +kernel
theorem d33_26 : decode jdk_42_method_66_code 26 = .ok (.getfield 15, 3) := by decide +kernel
theorem d33_29 : decode jdk_42_method_66_code 29 = .ok (.aload_n 2, 1) := by decide +kernel
theorem d33_30 : decode jdk_42_method_66_code 30 = .ok (.getfield 15, 3) := by decide +kernel
theorem d33_33 : decode jdk_42_method_66_code 33 = .ok (.if_icmp .ne 21, 3) := by decide +kernel
theorem d33_36 : decode jdk_42_method_66_code 36 = .ok (.aload_n 0, 1) := by decide +kernel
theorem d33_37 : decode jdk_42_method_66_code 37 = .ok (.getfield 9, 3) := by decide +kernel
theorem d33_40 : decode jdk_42_method_66_code 40 = .ok (.aload_n 2, 1) := by decide +kernel
theorem d33_41 : decode jdk_42_method_66_code 41 = .ok (.getfield 9, 3) := by decide +kernel
theorem pd_285bB5bB29Z : parseMethodDescriptor "([B[B)Z" = some ⟨[(.array .byte), (.array .byte)], some .boolean⟩ := by decide +kernel
theorem d33_44 : decode jdk_42_method_66_code 44 = .ok (.invokestatic 541, 3) := by decide +kernel
theorem d33_47 : decode jdk_42_method_66_code 47 = .ok (.ifCond .eq 7, 3) := by decide +kernel
theorem d33_50 : decode jdk_42_method_66_code 50 = .ok (.iconst 1, 1) := by decide +kernel
theorem d33_51 : decode jdk_42_method_66_code 51 = .ok (.goto 4, 3) := by decide +kernel
theorem d33_55 : decode jdk_42_method_66_code 55 = .ok (.ireturn, 1) := by decide +kernel
set_option maxRecDepth 65536 in
set_option maxHeartbeats 40000000 in
theorem sb_equals1 (l : Launch) (Z : State) (a0 : Array Value) (hw : ∀ d ∈ tables_1, d.before a0 Z = true) (ws : List Jvm.Cond) (zc : Int32) (sa sd : Addr) (ks : ClassId) (cs : List Int32) (ta td : Addr) (kt : ClassId) (ds : List Int32) (h0 : Heap) (n0 : Nat) (O : Old Z n0 h0) (hE : EnvS Z zc) (hS : Str Z h0 sa sd ks cs) (hT : Str Z h0 ta td kt ds) (hne : ¬ (sa = ta)) (hcs : cs.length ≤ 1000) (hds : ds.length ≤ 1000) (heq : by8 cs = by8 ds) :
    MetFree l (⟨"java/lang/String", "equals", "(Ljava/lang/Object;)Z"⟩ : MethodName) (head1 (Jvm.Cond.code (⟨"java/lang/String", "equals", "(Ljava/lang/Object;)Z"⟩ : MethodName) jdk_42_method_66_code 3 (some .boolean) :: ws) ({ frames := 2, cells := 0, slots := 0, locals := 54 } : Room)) (fun a U => a = #[(.ref sa), (.ref ta)] ∧ Z.Warmed39 U.vm ∧ U.heap = h0) (fun _ _ _ _ _ => True) (fun _ U o U' => ∃ v L, o = .returned v ∧ Qv (some (.int (1 : Int32))) h0 n0 v U'.heap L ∧ FrameEnd U o U' L ({ frames := 2, cells := 0, slots := 0, locals := 54 } : Room).cells ({ frames := 2, cells := 0, slots := 0, locals := 54 } : Room).slots) := by
  refine MetFree.of_bodySF (plainFor_of_name pn_java_lang_String) hisR ?_
  intro p e s m args below meth c s₁ Bd hml0 hP hK
  obtain ⟨rfl, hZ, hh⟩ := hP
  have hx := Bd.exec
  have hby := Bd.bytes
  have hml : c.maxLocals = 3 := hml0
  have hown : s.vm.findClass "java/lang/String" = some m.cls := findClass_of_methodNamed Bd.named
  have hnm := (name_of_methodNamed Bd.named Bd.method).1
  have X0 : Stand p l e ({ frames := 2, cells := 0, slots := 0, locals := 54 } : Room) s m #[(.ref sa), (.ref ta)] below meth c s₁ [] 0 0 := Stand.of_body Bd
  have e0 : s₁.heap = h0 := by rw [← hh, Bd.state]; rfl
  have N0 := Fr.nil n0
  have pre0 : ∀ t, Steps p.tables e below (s₁.setTop (mkF m 0 #[.val (.ref sa), .val (.ref ta), .unset] [])) t → Steps p.tables e below (s₁.setTop (entryFrame m #[(.ref sa), (.ref ta)] 3)) t := fun t k => castTop (ef_3_RR m sa ta) k
  obtain ⟨Scmp, hzc⟩ := id hE
  obtain ⟨Es, Vs, Cs, As⟩ := id hS
  obtain ⟨Est, Vst, Cst, Ast⟩ := id hT
  obtain ⟨T1, X1, e1, st1⟩ := instY X0 hx hZ hown (hw _ (List.mem_of_getElem? (i := 217) rfl)) e0 (Ins.self Est) (g := (mkF m 8 #[.val (.ref sa), .val (.ref ta), .unset] [(.ref ta)])) rfl rfl (hb hby d33_8)
  obtain ⟨T2, X2, e2, st2⟩ := castY X1 hx hZ hown (hw _ (List.mem_of_getElem? (i := 217) rfl)) e1 (Ins.self Est) (g := (mkF m 15 #[.val (.ref sa), .val (.ref ta), .unset] [(.ref ta)])) rfl rfl (hb hby d33_15)
  obtain ⟨T3, X3, e3, st3⟩ := getS2 X2 hx hZ hown (host := "") (Or.inl (hw _ (List.mem_of_getElem? (i := 100) rfl))) Via.refl e2 (Scmp.ext O.2) (g := (mkF m 19 #[.val (.ref sa), .val (.ref ta), .val (.ref ta)] [])) rfl (hb hby d33_19)
  obtain ⟨T4, X4, e4, st4⟩ := getF X3 hx hZ hown (host := "") (Or.inl (hw _ (List.mem_of_getElem? (i := 101) rfl))) Via.refl e3 Cs (g := (mkF m 26 #[.val (.ref sa), .val (.ref ta), .val (.ref ta)] [(.ref sa)])) rfl rfl (hb hby d33_26)
  obtain ⟨T5, X5, e5, st5⟩ := getF X4 hx hZ hown (host := "") (Or.inl (hw _ (List.mem_of_getElem? (i := 101) rfl))) Via.refl e4 Cst (g := (mkF m 30 #[.val (.ref sa), .val (.ref ta), .val (.ref ta)] [(.ref ta), (.int (0 : Int32))])) rfl rfl (hb hby d33_30)
  obtain ⟨T6, X6, e6, st6⟩ := getF X5 hx hZ hown (host := "") (Or.inl (hw _ (List.mem_of_getElem? (i := 94) rfl))) Via.refl e5 Vs (g := (mkF m 37 #[.val (.ref sa), .val (.ref ta), .val (.ref ta)] [(.ref sa)])) rfl rfl (hb hby d33_37)
  obtain ⟨T7, X7, e7, st7⟩ := getF X6 hx hZ hown (host := "") (Or.inl (hw _ (List.mem_of_getElem? (i := 94) rfl))) Via.refl e6 Vst (g := (mkF m 41 #[.val (.ref sa), .val (.ref ta), .val (.ref ta)] [(.ref ta), (.ref sd)])) rfl rfl (hb hby d33_41)
  obtain ⟨_, _, ⟨T8, L8, k8, n8⟩, -, X8, ⟨Lc8, hQ8, l8, y8, z8⟩, st8⟩ := Jvm.LawKit.callS X7 hx (y := (⟨"java/lang/StringLatin1", "equals", "([B[B)Z"⟩ : MethodName)) hown (mvT hZ (hw _ (List.mem_of_getElem? (i := 218) rfl))) (mvT hZ (hw _ (List.mem_of_getElem? (i := 219) rfl))) (mvT hZ (hw _ (List.mem_of_getElem? (i := 220) rfl))) (mvT hZ (hw _ (List.mem_of_getElem? (i := 221) rfl))) (by decide) (sb_leqB (W := 0) (n0 := n0) hZ (hw _ (List.mem_of_getElem? (i := 221) rfl)) (hw _ (List.mem_of_getElem? (i := 220) rfl)) As Ast hcs hds (by decide) (by decide)) (g := (mkF m 44 #[.val (.ref sa), .val (.ref ta), .val (.ref ta)] [(.ref td), (.ref sd)])) rfl (by rw [hml]; rfl) (argsL := [(.ref sd), (.ref td)]) (rest := []) (lenOf pd_285bB5bB29Z rfl) rfl (by show 2 * 0 + _ ≤ _; exact Nat.le_of_eq rfl) (hb hby d33_44) (fun _ _ => ⟨rfl, e7, (by decide : 0 + 0 ≤ _), (by decide : 0 + 0 ≤ _)⟩)
  dsimp only [Pt.U, Pt.locs, Pt.cells, Pt.slots] at X8 l8 y8 z8 st8 hQ8
  rw [l8, y8, z8] at X8
  rw [if_pos heq] at hQ8
  obtain ⟨rfl, N8q, e8⟩ := hQ8
  have N8 := Fr.app N0 N8q
  obtain ⟨fs, hr, hrun, hended, hW, hsame⟩ := X8.leave (v := some (.int (1 : Int32))) (fun h => by rw [Bd.returns] at h; cases h)
  refine ⟨_, _, pre0 _ ?_, hrun, hended, _, _, rfl, ?_, ⟨_, rfl⟩, hW, hsame.mono (by decide) (by decide)⟩
  · show Steps p.tables e below (s₁.setTop (mkF m 0 #[.val (.ref sa), .val (.ref ta), .unset] [])) _
    refine XS.aloadN X0.here hx rfl (hb hby d33_0) rfl rfl ?_
    show Steps p.tables e below (s₁.setTop (mkF m 1 #[.val (.ref sa), .val (.ref ta), .unset] [(.ref sa)])) _
    refine XS.aloadN X0.here hx rfl (hb hby d33_1) rfl rfl ?_
    show Steps p.tables e below (s₁.setTop (mkF m 2 #[.val (.ref sa), .val (.ref ta), .unset] [(.ref ta), (.ref sa)])) _
    refine Jvm.RoadKit.acmp (g := (mkF m 2 #[.val (.ref sa), .val (.ref ta), .unset] [(.ref ta), (.ref sa)])) X0 hx rfl rfl rfl (pc0 := 2) (pc' := 7) (same := false) rfl (hb hby d33_2) rfl (decide_eq_false fun q => hne (Value.ref.inj q)) (by decide) (by decide) ?_
    show Steps p.tables e below (s₁.setTop (mkF m 7 #[.val (.ref sa), .val (.ref ta), .unset] [])) _
    refine XS.aloadN X0.here hx rfl (hb hby d33_7) rfl rfl ?_
    show Steps p.tables e below (s₁.setTop (mkF m 8 #[.val (.ref sa), .val (.ref ta), .unset] [(.ref ta)])) _
    refine st1 _ ?_
    show Steps p.tables e below (T1.setTop (mkF m 11 #[.val (.ref sa), .val (.ref ta), .unset] [(.int (1 : Int32))])) _
    refine XS.ifNo X1.here hx rfl (hb hby d33_11) rfl ((if0 _ _).trans (feq ((by decide) : ¬ ((1 : Int32) = (0 : Int32)))).1) ?_
    show Steps p.tables e below (T1.setTop (mkF m 14 #[.val (.ref sa), .val (.ref ta), .unset] [])) _
    refine XS.aloadN X1.here hx rfl (hb hby d33_14) rfl rfl ?_
    show Steps p.tables e below (T1.setTop (mkF m 15 #[.val (.ref sa), .val (.ref ta), .unset] [(.ref ta)])) _
    refine st2 _ ?_
    show Steps p.tables e below (T2.setTop (mkF m 18 #[.val (.ref sa), .val (.ref ta), .unset] [(.ref ta)])) _
    refine XS.astoreN X2.here hx rfl (hb hby d33_18) rfl rfl (l' := #[.val (.ref sa), .val (.ref ta), .val (.ref ta)]) rfl ?_
    show Steps p.tables e below (T2.setTop (mkF m 19 #[.val (.ref sa), .val (.ref ta), .val (.ref ta)] [])) _
    refine st3 _ ?_
    show Steps p.tables e below (T3.setTop (mkF m 22 #[.val (.ref sa), .val (.ref ta), .val (.ref ta)] [(.int zc)])) _
    refine XS.ifNo X3.here hx rfl (hb hby d33_22) rfl ((if0 _ _).trans (feq (hzc : ¬ (zc = (0 : Int32)))).1) ?_
    show Steps p.tables e below (T3.setTop (mkF m 25 #[.val (.ref sa), .val (.ref ta), .val (.ref ta)] [])) _
    refine XS.aloadN X3.here hx rfl (hb hby d33_25) rfl rfl ?_
    show Steps p.tables e below (T3.setTop (mkF m 26 #[.val (.ref sa), .val (.ref ta), .val (.ref ta)] [(.ref sa)])) _
    refine st4 _ ?_
    show Steps p.tables e below (T4.setTop (mkF m 29 #[.val (.ref sa), .val (.ref ta), .val (.ref ta)] [(.int (0 : Int32))])) _
    refine XS.aloadN X4.here hx rfl (hb hby d33_29) rfl rfl ?_
    show Steps p.tables e below (T4.setTop (mkF m 30 #[.val (.ref sa), .val (.ref ta), .val (.ref ta)] [(.ref ta), (.int (0 : Int32))])) _
    refine st5 _ ?_
    show Steps p.tables e below (T5.setTop (mkF m 33 #[.val (.ref sa), .val (.ref ta), .val (.ref ta)] [(.int (0 : Int32)), (.int (0 : Int32))])) _
    refine XS.icmpNo X5.here hx rfl (hb hby d33_33) rfl (teq ((by decide) : (0 : Int32) = (0 : Int32))).2 ?_
    show Steps p.tables e below (T5.setTop (mkF m 36 #[.val (.ref sa), .val (.ref ta), .val (.ref ta)] [])) _
    refine XS.aloadN X5.here hx rfl (hb hby d33_36) rfl rfl ?_
    show Steps p.tables e below (T5.setTop (mkF m 37 #[.val (.ref sa), .val (.ref ta), .val (.ref ta)] [(.ref sa)])) _
    refine st6 _ ?_
    show Steps p.tables e below (T6.setTop (mkF m 40 #[.val (.ref sa), .val (.ref ta), .val (.ref ta)] [(.ref sd)])) _
    refine XS.aloadN X6.here hx rfl (hb hby d33_40) rfl rfl ?_
    show Steps p.tables e below (T6.setTop (mkF m 41 #[.val (.ref sa), .val (.ref ta), .val (.ref ta)] [(.ref ta), (.ref sd)])) _
    refine st7 _ ?_
    show Steps p.tables e below (T7.setTop (mkF m 44 #[.val (.ref sa), .val (.ref ta), .val (.ref ta)] [(.ref td), (.ref sd)])) _
    refine st8 _ ?_
    show Steps p.tables e below (T8.setTop (mkF m 47 #[.val (.ref sa), .val (.ref ta), .val (.ref ta)] [(.int (1 : Int32))])) _
    refine XS.ifNo X8.here hx rfl (hb hby d33_47) rfl ((if0 _ _).trans (feq ((by decide) : ¬ ((1 : Int32) = (0 : Int32)))).1) ?_
    show Steps p.tables e below (T8.setTop (mkF m 50 #[.val (.ref sa), .val (.ref ta), .val (.ref ta)] [])) _
    refine XS.iconst X8.here hx rfl (hb hby d33_50) ?_
    show Steps p.tables e below (T8.setTop (mkF m 51 #[.val (.ref sa), .val (.ref ta), .val (.ref ta)] [(.int (1 : Int32))])) _
    refine XS.goto X8.here hx rfl (pc0 := 51) (pc' := 55) rfl (hb hby d33_51) (by decide) (by decide) ?_
    show Steps p.tables e below (T8.setTop (mkF m 55 #[.val (.ref sa), .val (.ref ta), .val (.ref ta)] [(.int (1 : Int32))])) _
    exact retN X8 hx (t := .boolean) Bd.returns (by simp) (hb hby d33_55) hr
  · exact ⟨rfl, N8, e8⟩
theorem d33_54 : decode jdk_42_method_66_code 54 = .ok (.iconst 0, 1) := by decide +kernel
set_option maxRecDepth 65536 in
set_option maxHeartbeats 40000000 in
theorem sb_equals0 (l : Launch) (Z : State) (a0 : Array Value) (hw : ∀ d ∈ tables_1, d.before a0 Z = true) (ws : List Jvm.Cond) (zc : Int32) (sa sd : Addr) (ks : ClassId) (cs : List Int32) (ta td : Addr) (kt : ClassId) (ds : List Int32) (h0 : Heap) (n0 : Nat) (O : Old Z n0 h0) (hE : EnvS Z zc) (hS : Str Z h0 sa sd ks cs) (hT : Str Z h0 ta td kt ds) (hne : ¬ (sa = ta)) (hcs : cs.length ≤ 1000) (hds : ds.length ≤ 1000) (heq : ¬ by8 cs = by8 ds) :
    MetFree l (⟨"java/lang/String", "equals", "(Ljava/lang/Object;)Z"⟩ : MethodName) (head1 (Jvm.Cond.code (⟨"java/lang/String", "equals", "(Ljava/lang/Object;)Z"⟩ : MethodName) jdk_42_method_66_code 3 (some .boolean) :: ws) ({ frames := 2, cells := 0, slots := 0, locals := 54 } : Room)) (fun a U => a = #[(.ref sa), (.ref ta)] ∧ Z.Warmed39 U.vm ∧ U.heap = h0) (fun _ _ _ _ _ => True) (fun _ U o U' => ∃ v L, o = .returned v ∧ Qv (some (.int (0 : Int32))) h0 n0 v U'.heap L ∧ FrameEnd U o U' L ({ frames := 2, cells := 0, slots := 0, locals := 54 } : Room).cells ({ frames := 2, cells := 0, slots := 0, locals := 54 } : Room).slots) := by
  refine MetFree.of_bodySF (plainFor_of_name pn_java_lang_String) hisR ?_
  intro p e s m args below meth c s₁ Bd hml0 hP hK
  obtain ⟨rfl, hZ, hh⟩ := hP
  have hx := Bd.exec
  have hby := Bd.bytes
  have hml : c.maxLocals = 3 := hml0
  have hown : s.vm.findClass "java/lang/String" = some m.cls := findClass_of_methodNamed Bd.named
  have hnm := (name_of_methodNamed Bd.named Bd.method).1
  have X0 : Stand p l e ({ frames := 2, cells := 0, slots := 0, locals := 54 } : Room) s m #[(.ref sa), (.ref ta)] below meth c s₁ [] 0 0 := Stand.of_body Bd
  have e0 : s₁.heap = h0 := by rw [← hh, Bd.state]; rfl
  have N0 := Fr.nil n0
  have pre0 : ∀ t, Steps p.tables e below (s₁.setTop (mkF m 0 #[.val (.ref sa), .val (.ref ta), .unset] [])) t → Steps p.tables e below (s₁.setTop (entryFrame m #[(.ref sa), (.ref ta)] 3)) t := fun t k => castTop (ef_3_RR m sa ta) k
  obtain ⟨Scmp, hzc⟩ := id hE
  obtain ⟨Es, Vs, Cs, As⟩ := id hS
  obtain ⟨Est, Vst, Cst, Ast⟩ := id hT
  obtain ⟨T1, X1, e1, st1⟩ := instY X0 hx hZ hown (hw _ (List.mem_of_getElem? (i := 217) rfl)) e0 (Ins.self Est) (g := (mkF m 8 #[.val (.ref sa), .val (.ref ta), .unset] [(.ref ta)])) rfl rfl (hb hby d33_8)
  obtain ⟨T2, X2, e2, st2⟩ := castY X1 hx hZ hown (hw _ (List.mem_of_getElem? (i := 217) rfl)) e1 (Ins.self Est) (g := (mkF m 15 #[.val (.ref sa), .val (.ref ta), .unset] [(.ref ta)])) rfl rfl (hb hby d33_15)
  obtain ⟨T3, X3, e3, st3⟩ := getS2 X2 hx hZ hown (host := "") (Or.inl (hw _ (List.mem_of_getElem? (i := 100) rfl))) Via.refl e2 (Scmp.ext O.2) (g := (mkF m 19 #[.val (.ref sa), .val (.ref ta), .val (.ref ta)] [])) rfl (hb hby d33_19)
  obtain ⟨T4, X4, e4, st4⟩ := getF X3 hx hZ hown (host := "") (Or.inl (hw _ (List.mem_of_getElem? (i := 101) rfl))) Via.refl e3 Cs (g := (mkF m 26 #[.val (.ref sa), .val (.ref ta), .val (.ref ta)] [(.ref sa)])) rfl rfl (hb hby d33_26)
  obtain ⟨T5, X5, e5, st5⟩ := getF X4 hx hZ hown (host := "") (Or.inl (hw _ (List.mem_of_getElem? (i := 101) rfl))) Via.refl e4 Cst (g := (mkF m 30 #[.val (.ref sa), .val (.ref ta), .val (.ref ta)] [(.ref ta), (.int (0 : Int32))])) rfl rfl (hb hby d33_30)
  obtain ⟨T6, X6, e6, st6⟩ := getF X5 hx hZ hown (host := "") (Or.inl (hw _ (List.mem_of_getElem? (i := 94) rfl))) Via.refl e5 Vs (g := (mkF m 37 #[.val (.ref sa), .val (.ref ta), .val (.ref ta)] [(.ref sa)])) rfl rfl (hb hby d33_37)
  obtain ⟨T7, X7, e7, st7⟩ := getF X6 hx hZ hown (host := "") (Or.inl (hw _ (List.mem_of_getElem? (i := 94) rfl))) Via.refl e6 Vst (g := (mkF m 41 #[.val (.ref sa), .val (.ref ta), .val (.ref ta)] [(.ref ta), (.ref sd)])) rfl rfl (hb hby d33_41)
  obtain ⟨_, _, ⟨T8, L8, k8, n8⟩, -, X8, ⟨Lc8, hQ8, l8, y8, z8⟩, st8⟩ := Jvm.LawKit.callS X7 hx (y := (⟨"java/lang/StringLatin1", "equals", "([B[B)Z"⟩ : MethodName)) hown (mvT hZ (hw _ (List.mem_of_getElem? (i := 218) rfl))) (mvT hZ (hw _ (List.mem_of_getElem? (i := 219) rfl))) (mvT hZ (hw _ (List.mem_of_getElem? (i := 220) rfl))) (mvT hZ (hw _ (List.mem_of_getElem? (i := 221) rfl))) (by decide) (sb_leqB (W := 0) (n0 := n0) hZ (hw _ (List.mem_of_getElem? (i := 221) rfl)) (hw _ (List.mem_of_getElem? (i := 220) rfl)) As Ast hcs hds (by decide) (by decide)) (g := (mkF m 44 #[.val (.ref sa), .val (.ref ta), .val (.ref ta)] [(.ref td), (.ref sd)])) rfl (by rw [hml]; rfl) (argsL := [(.ref sd), (.ref td)]) (rest := []) (lenOf pd_285bB5bB29Z rfl) rfl (by show 2 * 0 + _ ≤ _; exact Nat.le_of_eq rfl) (hb hby d33_44) (fun _ _ => ⟨rfl, e7, (by decide : 0 + 0 ≤ _), (by decide : 0 + 0 ≤ _)⟩)
  dsimp only [Pt.U, Pt.locs, Pt.cells, Pt.slots] at X8 l8 y8 z8 st8 hQ8
  rw [l8, y8, z8] at X8
  rw [if_neg heq] at hQ8
  obtain ⟨rfl, N8q, e8⟩ := hQ8
  have N8 := Fr.app N0 N8q
  obtain ⟨fs, hr, hrun, hended, hW, hsame⟩ := X8.leave (v := some (.int (0 : Int32))) (fun h => by rw [Bd.returns] at h; cases h)
  refine ⟨_, _, pre0 _ ?_, hrun, hended, _, _, rfl, ?_, ⟨_, rfl⟩, hW, hsame.mono (by decide) (by decide)⟩
  · show Steps p.tables e below (s₁.setTop (mkF m 0 #[.val (.ref sa), .val (.ref ta), .unset] [])) _
    refine XS.aloadN X0.here hx rfl (hb hby d33_0) rfl rfl ?_
    show Steps p.tables e below (s₁.setTop (mkF m 1 #[.val (.ref sa), .val (.ref ta), .unset] [(.ref sa)])) _
    refine XS.aloadN X0.here hx rfl (hb hby d33_1) rfl rfl ?_
    show Steps p.tables e below (s₁.setTop (mkF m 2 #[.val (.ref sa), .val (.ref ta), .unset] [(.ref ta), (.ref sa)])) _
    refine Jvm.RoadKit.acmp (g := (mkF m 2 #[.val (.ref sa), .val (.ref ta), .unset] [(.ref ta), (.ref sa)])) X0 hx rfl rfl rfl (pc0 := 2) (pc' := 7) (same := false) rfl (hb hby d33_2) rfl (decide_eq_false fun q => hne (Value.ref.inj q)) (by decide) (by decide) ?_
    show Steps p.tables e below (s₁.setTop (mkF m 7 #[.val (.ref sa), .val (.ref ta), .unset] [])) _
    refine XS.aloadN X0.here hx rfl (hb hby d33_7) rfl rfl ?_
    show Steps p.tables e below (s₁.setTop (mkF m 8 #[.val (.ref sa), .val (.ref ta), .unset] [(.ref ta)])) _
    refine st1 _ ?_
    show Steps p.tables e below (T1.setTop (mkF m 11 #[.val (.ref sa), .val (.ref ta), .unset] [(.int (1 : Int32))])) _
    refine XS.ifNo X1.here hx rfl (hb hby d33_11) rfl ((if0 _ _).trans (feq ((by decide) : ¬ ((1 : Int32) = (0 : Int32)))).1) ?_
    show Steps p.tables e below (T1.setTop (mkF m 14 #[.val (.ref sa), .val (.ref ta), .unset] [])) _
    refine XS.aloadN X1.here hx rfl (hb hby d33_14) rfl rfl ?_
    show Steps p.tables e below (T1.setTop (mkF m 15 #[.val (.ref sa), .val (.ref ta), .unset] [(.ref ta)])) _
    refine st2 _ ?_
    show Steps p.tables e below (T2.setTop (mkF m 18 #[.val (.ref sa), .val (.ref ta), .unset] [(.ref ta)])) _
    refine XS.astoreN X2.here hx rfl (hb hby d33_18) rfl rfl (l' := #[.val (.ref sa), .val (.ref ta), .val (.ref ta)]) rfl ?_
    show Steps p.tables e below (T2.setTop (mkF m 19 #[.val (.ref sa), .val (.ref ta), .val (.ref ta)] [])) _
    refine st3 _ ?_
    show Steps p.tables e below (T3.setTop (mkF m 22 #[.val (.ref sa), .val (.ref ta), .val (.ref ta)] [(.int zc)])) _
    refine XS.ifNo X3.here hx rfl (hb hby d33_22) rfl ((if0 _ _).trans (feq (hzc : ¬ (zc = (0 : Int32)))).1) ?_
    show Steps p.tables e below (T3.setTop (mkF m 25 #[.val (.ref sa), .val (.ref ta), .val (.ref ta)] [])) _
    refine XS.aloadN X3.here hx rfl (hb hby d33_25) rfl rfl ?_
    show Steps p.tables e below (T3.setTop (mkF m 26 #[.val (.ref sa), .val (.ref ta), .val (.ref ta)] [(.ref sa)])) _
    refine st4 _ ?_
    show Steps p.tables e below (T4.setTop (mkF m 29 #[.val (.ref sa), .val (.ref ta), .val (.ref ta)] [(.int (0 : Int32))])) _
    refine XS.aloadN X4.here hx rfl (hb hby d33_29) rfl rfl ?_
    show Steps p.tables e below (T4.setTop (mkF m 30 #[.val (.ref sa), .val (.ref ta), .val (.ref ta)] [(.ref ta), (.int (0 : Int32))])) _
    refine st5 _ ?_
    show Steps p.tables e below (T5.setTop (mkF m 33 #[.val (.ref sa), .val (.ref ta), .val (.ref ta)] [(.int (0 : Int32)), (.int (0 : Int32))])) _
    refine XS.icmpNo X5.here hx rfl (hb hby d33_33) rfl (teq ((by decide) : (0 : Int32) = (0 : Int32))).2 ?_
    show Steps p.tables e below (T5.setTop (mkF m 36 #[.val (.ref sa), .val (.ref ta), .val (.ref ta)] [])) _
    refine XS.aloadN X5.here hx rfl (hb hby d33_36) rfl rfl ?_
    show Steps p.tables e below (T5.setTop (mkF m 37 #[.val (.ref sa), .val (.ref ta), .val (.ref ta)] [(.ref sa)])) _
    refine st6 _ ?_
    show Steps p.tables e below (T6.setTop (mkF m 40 #[.val (.ref sa), .val (.ref ta), .val (.ref ta)] [(.ref sd)])) _
    refine XS.aloadN X6.here hx rfl (hb hby d33_40) rfl rfl ?_
    show Steps p.tables e below (T6.setTop (mkF m 41 #[.val (.ref sa), .val (.ref ta), .val (.ref ta)] [(.ref ta), (.ref sd)])) _
    refine st7 _ ?_
    show Steps p.tables e below (T7.setTop (mkF m 44 #[.val (.ref sa), .val (.ref ta), .val (.ref ta)] [(.ref td), (.ref sd)])) _
    refine st8 _ ?_
    show Steps p.tables e below (T8.setTop (mkF m 47 #[.val (.ref sa), .val (.ref ta), .val (.ref ta)] [(.int (0 : Int32))])) _
    refine XS.ifYes X8.here hx rfl (pc0 := 47) (pc' := 54) rfl (hb hby d33_47) rfl ((if0 _ _).trans (teq ((by decide) : (0 : Int32) = (0 : Int32))).1) (by decide) (by decide) ?_
    show Steps p.tables e below (T8.setTop (mkF m 54 #[.val (.ref sa), .val (.ref ta), .val (.ref ta)] [])) _
    refine XS.iconst X8.here hx rfl (hb hby d33_54) ?_
    show Steps p.tables e below (T8.setTop (mkF m 55 #[.val (.ref sa), .val (.ref ta), .val (.ref ta)] [(.int (0 : Int32))])) _
    exact retN X8 hx (t := .boolean) Bd.returns (by simp) (hb hby d33_55) hr
  · exact ⟨rfl, N8, e8⟩
abbrev EL : List (String × Nat) := consts_1
theorem own_EW {Z : State} {a0 : Array Value} (hw : ∀ d ∈ tables_1, d.before a0 Z = true) : EW Z a0 EL := (EW.cons (hw _ (List.mem_of_getElem? (i := 78) rfl)) (by decide) (EW.cons (hw _ (List.mem_of_getElem? (i := 151) rfl)) (by decide) (EW.cons (hw _ (List.mem_of_getElem? (i := 175) rfl)) (by decide) (EW.cons (hw _ (List.mem_of_getElem? (i := 223) rfl)) (by decide) (EW.cons (hw _ (List.mem_of_getElem? (i := 2) rfl)) (by decide) (EW.cons (hw _ (List.mem_of_getElem? (i := 11) rfl)) (by decide) (EW.cons (hw _ (List.mem_of_getElem? (i := 12) rfl)) (by decide) (EW.cons (hw _ (List.mem_of_getElem? (i := 13) rfl)) (by decide) (EW.cons (hw _ (List.mem_of_getElem? (i := 14) rfl)) (by decide) (EW.cons (hw _ (List.mem_of_getElem? (i := 15) rfl)) (by decide) (EW.cons (hw _ (List.mem_of_getElem? (i := 16) rfl)) (by decide) (EW.cons (hw _ (List.mem_of_getElem? (i := 17) rfl)) (by decide) (EW.cons (hw _ (List.mem_of_getElem? (i := 18) rfl)) (by decide) (EW.cons (hw _ (List.mem_of_getElem? (i := 19) rfl)) (by decide) (EW.cons (hw _ (List.mem_of_getElem? (i := 20) rfl)) (by decide) (EW.cons (hw _ (List.mem_of_getElem? (i := 21) rfl)) (by decide) (EW.cons (hw _ (List.mem_of_getElem? (i := 22) rfl)) (by decide) (EW.cons (hw _ (List.mem_of_getElem? (i := 23) rfl)) (by decide) (EW.cons (hw _ (List.mem_of_getElem? (i := 24) rfl)) (by decide) (EW.cons (hw _ (List.mem_of_getElem? (i := 25) rfl)) (by decide) (EW.cons (hw _ (List.mem_of_getElem? (i := 26) rfl)) (by decide) (EW.cons (hw _ (List.mem_of_getElem? (i := 27) rfl)) (by decide) (EW.cons (hw _ (List.mem_of_getElem? (i := 28) rfl)) (by decide) (EW.cons (hw _ (List.mem_of_getElem? (i := 29) rfl)) (by decide) (EW.cons (hw _ (List.mem_of_getElem? (i := 30) rfl)) (by decide) (EW.cons (hw _ (List.mem_of_getElem? (i := 31) rfl)) (by decide) (EW.cons (hw _ (List.mem_of_getElem? (i := 32) rfl)) (by decide) (EW.cons (hw _ (List.mem_of_getElem? (i := 33) rfl)) (by decide) (EW.cons (hw _ (List.mem_of_getElem? (i := 34) rfl)) (by decide) (EW.cons (hw _ (List.mem_of_getElem? (i := 35) rfl)) (by decide) (EW.cons (hw _ (List.mem_of_getElem? (i := 36) rfl)) (by decide) (EW.cons (hw _ (List.mem_of_getElem? (i := 37) rfl)) (by decide) (EW.cons (hw _ (List.mem_of_getElem? (i := 38) rfl)) (by decide) (EW.cons (hw _ (List.mem_of_getElem? (i := 39) rfl)) (by decide) (EW.cons (hw _ (List.mem_of_getElem? (i := 40) rfl)) (by decide) (EW.cons (hw _ (List.mem_of_getElem? (i := 41) rfl)) (by decide) EW.nil))))))))))))))))))))))))))))))))))))
theorem own_wS {Z : State} {a0 : Array Value} (hw : ∀ d ∈ tables_1, d.before a0 Z = true) : ∀ a ∈ Bundle.stringAtoms, a.before a0 Z = true := fun a ha => by
  simp only [Bundle.stringAtoms, List.mem_cons, List.not_mem_nil, or_false] at ha
  rcases ha with rfl | rfl | rfl | rfl | rfl | rfl | rfl
  · exact (hw _ (List.mem_of_getElem? (i := 3) rfl))
  · exact (hw _ (List.mem_of_getElem? (i := 4) rfl))
  · exact (hw _ (List.mem_of_getElem? (i := 5) rfl))
  · exact (hw _ (List.mem_of_getElem? (i := 6) rfl))
  · exact (hw _ (List.mem_of_getElem? (i := 7) rfl))
  · exact (hw _ (List.mem_of_getElem? (i := 8) rfl))
  · exact (hw _ (List.mem_of_getElem? (i := 9) rfl))
def lit0 : List Int32 := [109, 101, 115, 115, 97, 103, 101, 32, 111, 102, 32]
def lit1 : List Int32 := [32, 98, 121, 116, 101, 115]
def lit2 : List Int32 := [44, 32, 114, 101, 100, 101, 108, 105, 118, 101, 114, 101, 100]
def lit3 : List Int32 := []
def lit4 : List Int32 := [109, 101, 115, 115, 97, 103, 101, 32, 111, 102, 32, 48, 32, 98, 121, 116, 101, 115]
def lit5 : List Int32 := [109, 101, 115, 115, 97, 103, 101, 32, 111, 102, 32, 49, 32, 98, 121, 116, 101, 115]
def lit6 : List Int32 := [109, 101, 115, 115, 97, 103, 101, 32, 111, 102, 32, 50, 32, 98, 121, 116, 101, 115]
def lit7 : List Int32 := [109, 101, 115, 115, 97, 103, 101, 32, 111, 102, 32, 51, 32, 98, 121, 116, 101, 115]
def lit8 : List Int32 := [109, 101, 115, 115, 97, 103, 101, 32, 111, 102, 32, 52, 32, 98, 121, 116, 101, 115]
def lit9 : List Int32 := [109, 101, 115, 115, 97, 103, 101, 32, 111, 102, 32, 53, 32, 98, 121, 116, 101, 115]
def lit10 : List Int32 := [109, 101, 115, 115, 97, 103, 101, 32, 111, 102, 32, 54, 32, 98, 121, 116, 101, 115]
def lit11 : List Int32 := [109, 101, 115, 115, 97, 103, 101, 32, 111, 102, 32, 55, 32, 98, 121, 116, 101, 115]
def lit12 : List Int32 := [109, 101, 115, 115, 97, 103, 101, 32, 111, 102, 32, 56, 32, 98, 121, 116, 101, 115]
def lit13 : List Int32 := [109, 101, 115, 115, 97, 103, 101, 32, 111, 102, 32, 57, 32, 98, 121, 116, 101, 115]
def lit14 : List Int32 := [109, 101, 115, 115, 97, 103, 101, 32, 111, 102, 32, 49, 48, 32, 98, 121, 116, 101, 115]
def lit15 : List Int32 := [109, 101, 115, 115, 97, 103, 101, 32, 111, 102, 32, 49, 49, 32, 98, 121, 116, 101, 115]
def lit16 : List Int32 := [109, 101, 115, 115, 97, 103, 101, 32, 111, 102, 32, 49, 50, 32, 98, 121, 116, 101, 115]
def lit17 : List Int32 := [109, 101, 115, 115, 97, 103, 101, 32, 111, 102, 32, 49, 51, 32, 98, 121, 116, 101, 115]
def lit18 : List Int32 := [109, 101, 115, 115, 97, 103, 101, 32, 111, 102, 32, 49, 52, 32, 98, 121, 116, 101, 115]
def lit19 : List Int32 := [109, 101, 115, 115, 97, 103, 101, 32, 111, 102, 32, 49, 53, 32, 98, 121, 116, 101, 115]
def lit20 : List Int32 := [109, 101, 115, 115, 97, 103, 101, 32, 111, 102, 32, 48, 32, 98, 121, 116, 101, 115, 44, 32, 114, 101, 100, 101, 108, 105, 118, 101, 114, 101, 100]
def lit21 : List Int32 := [109, 101, 115, 115, 97, 103, 101, 32, 111, 102, 32, 49, 32, 98, 121, 116, 101, 115, 44, 32, 114, 101, 100, 101, 108, 105, 118, 101, 114, 101, 100]
def lit22 : List Int32 := [109, 101, 115, 115, 97, 103, 101, 32, 111, 102, 32, 50, 32, 98, 121, 116, 101, 115, 44, 32, 114, 101, 100, 101, 108, 105, 118, 101, 114, 101, 100]
def lit23 : List Int32 := [109, 101, 115, 115, 97, 103, 101, 32, 111, 102, 32, 51, 32, 98, 121, 116, 101, 115, 44, 32, 114, 101, 100, 101, 108, 105, 118, 101, 114, 101, 100]
def lit24 : List Int32 := [109, 101, 115, 115, 97, 103, 101, 32, 111, 102, 32, 52, 32, 98, 121, 116, 101, 115, 44, 32, 114, 101, 100, 101, 108, 105, 118, 101, 114, 101, 100]
def lit25 : List Int32 := [109, 101, 115, 115, 97, 103, 101, 32, 111, 102, 32, 53, 32, 98, 121, 116, 101, 115, 44, 32, 114, 101, 100, 101, 108, 105, 118, 101, 114, 101, 100]
def lit26 : List Int32 := [109, 101, 115, 115, 97, 103, 101, 32, 111, 102, 32, 54, 32, 98, 121, 116, 101, 115, 44, 32, 114, 101, 100, 101, 108, 105, 118, 101, 114, 101, 100]
def lit27 : List Int32 := [109, 101, 115, 115, 97, 103, 101, 32, 111, 102, 32, 55, 32, 98, 121, 116, 101, 115, 44, 32, 114, 101, 100, 101, 108, 105, 118, 101, 114, 101, 100]
def lit28 : List Int32 := [109, 101, 115, 115, 97, 103, 101, 32, 111, 102, 32, 56, 32, 98, 121, 116, 101, 115, 44, 32, 114, 101, 100, 101, 108, 105, 118, 101, 114, 101, 100]
def lit29 : List Int32 := [109, 101, 115, 115, 97, 103, 101, 32, 111, 102, 32, 57, 32, 98, 121, 116, 101, 115, 44, 32, 114, 101, 100, 101, 108, 105, 118, 101, 114, 101, 100]
def lit30 : List Int32 := [109, 101, 115, 115, 97, 103, 101, 32, 111, 102, 32, 49, 48, 32, 98, 121, 116, 101, 115, 44, 32, 114, 101, 100, 101, 108, 105, 118, 101, 114, 101, 100]
def lit31 : List Int32 := [109, 101, 115, 115, 97, 103, 101, 32, 111, 102, 32, 49, 49, 32, 98, 121, 116, 101, 115, 44, 32, 114, 101, 100, 101, 108, 105, 118, 101, 114, 101, 100]
def lit32 : List Int32 := [109, 101, 115, 115, 97, 103, 101, 32, 111, 102, 32, 49, 50, 32, 98, 121, 116, 101, 115, 44, 32, 114, 101, 100, 101, 108, 105, 118, 101, 114, 101, 100]
def lit33 : List Int32 := [109, 101, 115, 115, 97, 103, 101, 32, 111, 102, 32, 49, 51, 32, 98, 121, 116, 101, 115, 44, 32, 114, 101, 100, 101, 108, 105, 118, 101, 114, 101, 100]
def lit34 : List Int32 := [109, 101, 115, 115, 97, 103, 101, 32, 111, 102, 32, 49, 52, 32, 98, 121, 116, 101, 115, 44, 32, 114, 101, 100, 101, 108, 105, 118, 101, 114, 101, 100]
def lit35 : List Int32 := [109, 101, 115, 115, 97, 103, 101, 32, 111, 102, 32, 49, 53, 32, 98, 121, 116, 101, 115, 44, 32, 114, 101, 100, 101, 108, 105, 118, 101, 114, 101, 100]
def msg0 (n : Nat) : List Int32 := lit0 ++ decI (Int32.ofNat n) ++ lit1 ++ lit3
def msg1 (n : Nat) : List Int32 := lit0 ++ decI (Int32.ofNat n) ++ lit1 ++ lit2
theorem own_d2 {n : Nat} (h : n < 16) : 1 ≤ (decI (Int32.ofNat n)).length ∧ (decI (Int32.ofNat n)).length ≤ 2 := (by decide +kernel : ∀ n : Fin 16, 1 ≤ (decI (Int32.ofNat n.val)).length ∧ (decI (Int32.ofNat n.val)).length ≤ 2) ⟨n, h⟩
theorem Str.other {Z : State} {h h' : Heap} {a t b : Addr} {k : ClassId} {cs : List Int32} {sl : Nat} {v : Value} (S : Str Z h a t k cs) (W : Wr h h' b sl v) (q : a ≠ b) (r : t ≠ b) : Str Z h' a t k cs := ⟨S.1.wr W, S.2.1.other W (Or.inl q), S.2.2.1.other W (Or.inl q), S.2.2.2.other W r⟩
theorem own_nn16 (p : Int32) : ∃ n : Nat, n < 16 ∧ p &&& (15 : Int32) = Int32.ofNat n := by
  have h := c_mask p 15 4 (by decide) (by decide)
  refine ⟨(p &&& 15).toInt.toNat, by omega, Int32.toInt_inj.mp ?_⟩
  rw [own_ti (by omega)]; omega
theorem own_mle0 {n : Nat} (h : n < 16) : (msg0 n).length ≤ 1000 := by
  have q := own_d2 h; unfold msg0; simp only [List.length_append, List.length_nil, show lit0.length = 11 from rfl, show lit1.length = 6 from rfl, show lit2.length = 13 from rfl, show lit3.length = 0 from rfl]; omega
theorem own_pick0 {Z : State} {H : Heap} {n : Nat} (hn : n < 16) {y0 y1 y2 y3 y4 y5 y6 y7 y8 y9 y10 y11 y12 y13 y14 y15 t0 t1 t2 t3 t4 t5 t6 t7 t8 t9 t10 t11 t12 t13 t14 t15 : Addr} {k0 k1 k2 k3 k4 k5 k6 k7 k8 k9 k10 k11 k12 k13 k14 k15 : ClassId} (S0 : Str Z H y0 t0 k0 lit4) (S1 : Str Z H y1 t1 k1 lit5) (S2 : Str Z H y2 t2 k2 lit6) (S3 : Str Z H y3 t3 k3 lit7) (S4 : Str Z H y4 t4 k4 lit8) (S5 : Str Z H y5 t5 k5 lit9) (S6 : Str Z H y6 t6 k6 lit10) (S7 : Str Z H y7 t7 k7 lit11) (S8 : Str Z H y8 t8 k8 lit12) (S9 : Str Z H y9 t9 k9 lit13) (S10 : Str Z H y10 t10 k10 lit14) (S11 : Str Z H y11 t11 k11 lit15) (S12 : Str Z H y12 t12 k12 lit16) (S13 : Str Z H y13 t13 k13 lit17) (S14 : Str Z H y14 t14 k14 lit18) (S15 : Str Z H y15 t15 k15 lit19) : ∃ y t k, ([.ref y0, .ref y1, .ref y2, .ref y3, .ref y4, .ref y5, .ref y6, .ref y7, .ref y8, .ref y9, .ref y10, .ref y11, .ref y12, .ref y13, .ref y14, .ref y15] : List Value).getD (Int32.ofNat n).toNatClampNeg .null = .ref y ∧ Str Z H y t k (msg0 n) := by
  rw [own_cl (by omega)]
  have q : n = 0 ∨ n = 1 ∨ n = 2 ∨ n = 3 ∨ n = 4 ∨ n = 5 ∨ n = 6 ∨ n = 7 ∨ n = 8 ∨ n = 9 ∨ n = 10 ∨ n = 11 ∨ n = 12 ∨ n = 13 ∨ n = 14 ∨ n = 15 := by omega
  rcases q with rfl | rfl | rfl | rfl | rfl | rfl | rfl | rfl | rfl | rfl | rfl | rfl | rfl | rfl | rfl | rfl
  · exact ⟨_, _, _, rfl, (by decide +kernel : lit4 = msg0 0) ▸ S0⟩
  · exact ⟨_, _, _, rfl, (by decide +kernel : lit5 = msg0 1) ▸ S1⟩
  · exact ⟨_, _, _, rfl, (by decide +kernel : lit6 = msg0 2) ▸ S2⟩
  · exact ⟨_, _, _, rfl, (by decide +kernel : lit7 = msg0 3) ▸ S3⟩
  · exact ⟨_, _, _, rfl, (by decide +kernel : lit8 = msg0 4) ▸ S4⟩
  · exact ⟨_, _, _, rfl, (by decide +kernel : lit9 = msg0 5) ▸ S5⟩
  · exact ⟨_, _, _, rfl, (by decide +kernel : lit10 = msg0 6) ▸ S6⟩
  · exact ⟨_, _, _, rfl, (by decide +kernel : lit11 = msg0 7) ▸ S7⟩
  · exact ⟨_, _, _, rfl, (by decide +kernel : lit12 = msg0 8) ▸ S8⟩
  · exact ⟨_, _, _, rfl, (by decide +kernel : lit13 = msg0 9) ▸ S9⟩
  · exact ⟨_, _, _, rfl, (by decide +kernel : lit14 = msg0 10) ▸ S10⟩
  · exact ⟨_, _, _, rfl, (by decide +kernel : lit15 = msg0 11) ▸ S11⟩
  · exact ⟨_, _, _, rfl, (by decide +kernel : lit16 = msg0 12) ▸ S12⟩
  · exact ⟨_, _, _, rfl, (by decide +kernel : lit17 = msg0 13) ▸ S13⟩
  · exact ⟨_, _, _, rfl, (by decide +kernel : lit18 = msg0 14) ▸ S14⟩
  · exact ⟨_, _, _, rfl, (by decide +kernel : lit19 = msg0 15) ▸ S15⟩
theorem own_mle1 {n : Nat} (h : n < 16) : (msg1 n).length ≤ 1000 := by
  have q := own_d2 h; unfold msg1; simp only [List.length_append, List.length_nil, show lit0.length = 11 from rfl, show lit1.length = 6 from rfl, show lit2.length = 13 from rfl, show lit3.length = 0 from rfl]; omega
theorem own_pick1 {Z : State} {H : Heap} {n : Nat} (hn : n < 16) {y0 y1 y2 y3 y4 y5 y6 y7 y8 y9 y10 y11 y12 y13 y14 y15 t0 t1 t2 t3 t4 t5 t6 t7 t8 t9 t10 t11 t12 t13 t14 t15 : Addr} {k0 k1 k2 k3 k4 k5 k6 k7 k8 k9 k10 k11 k12 k13 k14 k15 : ClassId} (S0 : Str Z H y0 t0 k0 lit20) (S1 : Str Z H y1 t1 k1 lit21) (S2 : Str Z H y2 t2 k2 lit22) (S3 : Str Z H y3 t3 k3 lit23) (S4 : Str Z H y4 t4 k4 lit24) (S5 : Str Z H y5 t5 k5 lit25) (S6 : Str Z H y6 t6 k6 lit26) (S7 : Str Z H y7 t7 k7 lit27) (S8 : Str Z H y8 t8 k8 lit28) (S9 : Str Z H y9 t9 k9 lit29) (S10 : Str Z H y10 t10 k10 lit30) (S11 : Str Z H y11 t11 k11 lit31) (S12 : Str Z H y12 t12 k12 lit32) (S13 : Str Z H y13 t13 k13 lit33) (S14 : Str Z H y14 t14 k14 lit34) (S15 : Str Z H y15 t15 k15 lit35) : ∃ y t k, ([.ref y0, .ref y1, .ref y2, .ref y3, .ref y4, .ref y5, .ref y6, .ref y7, .ref y8, .ref y9, .ref y10, .ref y11, .ref y12, .ref y13, .ref y14, .ref y15] : List Value).getD (Int32.ofNat n).toNatClampNeg .null = .ref y ∧ Str Z H y t k (msg1 n) := by
  rw [own_cl (by omega)]
  have q : n = 0 ∨ n = 1 ∨ n = 2 ∨ n = 3 ∨ n = 4 ∨ n = 5 ∨ n = 6 ∨ n = 7 ∨ n = 8 ∨ n = 9 ∨ n = 10 ∨ n = 11 ∨ n = 12 ∨ n = 13 ∨ n = 14 ∨ n = 15 := by omega
  rcases q with rfl | rfl | rfl | rfl | rfl | rfl | rfl | rfl | rfl | rfl | rfl | rfl | rfl | rfl | rfl | rfl
  · exact ⟨_, _, _, rfl, (by decide +kernel : lit20 = msg1 0) ▸ S0⟩
  · exact ⟨_, _, _, rfl, (by decide +kernel : lit21 = msg1 1) ▸ S1⟩
  · exact ⟨_, _, _, rfl, (by decide +kernel : lit22 = msg1 2) ▸ S2⟩
  · exact ⟨_, _, _, rfl, (by decide +kernel : lit23 = msg1 3) ▸ S3⟩
  · exact ⟨_, _, _, rfl, (by decide +kernel : lit24 = msg1 4) ▸ S4⟩
  · exact ⟨_, _, _, rfl, (by decide +kernel : lit25 = msg1 5) ▸ S5⟩
  · exact ⟨_, _, _, rfl, (by decide +kernel : lit26 = msg1 6) ▸ S6⟩
  · exact ⟨_, _, _, rfl, (by decide +kernel : lit27 = msg1 7) ▸ S7⟩
  · exact ⟨_, _, _, rfl, (by decide +kernel : lit28 = msg1 8) ▸ S8⟩
  · exact ⟨_, _, _, rfl, (by decide +kernel : lit29 = msg1 9) ▸ S9⟩
  · exact ⟨_, _, _, rfl, (by decide +kernel : lit30 = msg1 10) ▸ S10⟩
  · exact ⟨_, _, _, rfl, (by decide +kernel : lit31 = msg1 11) ▸ S11⟩
  · exact ⟨_, _, _, rfl, (by decide +kernel : lit32 = msg1 12) ▸ S12⟩
  · exact ⟨_, _, _, rfl, (by decide +kernel : lit33 = msg1 13) ▸ S13⟩
  · exact ⟨_, _, _, rfl, (by decide +kernel : lit34 = msg1 14) ▸ S14⟩
  · exact ⟨_, _, _, rfl, (by decide +kernel : lit35 = msg1 15) ▸ S15⟩
theorem d1_0 : decode prog_1_method_1_code 0 = .ok (.aload_n 0, 1) := by decide +kernel
theorem d1_1 : decode prog_1_method_1_code 1 = .ok (.invokespecial 1, 3) := by decide +kernel
theorem d1_4 : decode prog_1_method_1_code 4 = .ok (.aload_n 0, 1) := by decide +kernel
theorem d1_5 : decode prog_1_method_1_code 5 = .ok (.aload_n 1, 1) := by decide +kernel
theorem d1_6 : decode prog_1_method_1_code 6 = .ok (.putfield 7, 3) := by decide +kernel
theorem d1_9 : decode prog_1_method_1_code 9 = .ok (.aload_n 0, 1) := by decide +kernel
theorem d1_10 : decode prog_1_method_1_code 10 = .ok (.iload_n 2, 1) := by decide +kernel
theorem d1_11 : decode prog_1_method_1_code 11 = .ok (.putfield 13, 3) := by decide +kernel
theorem d1_14 : decode prog_1_method_1_code 14 = .ok (.return_, 1) := by decide +kernel
theorem ef_3_RRI (m : MethodId) (x0 : Addr) (x1 : Addr) (x2 : Int32) : entryFrame m #[(.ref x0), (.ref x1), (.int x2)] 3 = mkF m 0 #[.val (.ref x0), .val (.ref x1), .val (.int x2)] [] := by first | (simp [entryFrame, mkF, argsToLocals, Value.category]; done) | rfl
theorem pn_com_example_savepoint_savepoint_AmqpMessage : plainName "com/example/savepoint/savepoint/AmqpMessage" = true := by first | (simp [plainName, overriddenIn]; done) | decide +kernel
set_option maxRecDepth 65536 in
set_option maxHeartbeats 40000000 in
theorem rm_init0 (l : Launch) (Z : State) (a0 : Array Value) (hw : ∀ d ∈ tables_1, d.before a0 Z = true) (ws : List Jvm.Cond) (me bd : Addr) (h0 : Heap) (n0 : Nat) (O : Old Z n0 h0) (E : Exa Z h0 me "com/example/savepoint/savepoint/AmqpMessage") (F1 : Fld Z h0 me "com/example/savepoint/savepoint/AmqpMessage" "body" "[B" .null) (F2 : Fld Z h0 me "com/example/savepoint/savepoint/AmqpMessage" "redelivered" "Z" (.int (0 : Int32))) (gm : n0 ≤ me) :
    MetFree l (⟨"com/example/savepoint/savepoint/AmqpMessage", "<init>", "([BZ)V"⟩ : MethodName) (head1 (Jvm.Cond.code (⟨"com/example/savepoint/savepoint/AmqpMessage", "<init>", "([BZ)V"⟩ : MethodName) prog_1_method_1_code 3 none :: ws) ({ frames := 1, cells := 0, slots := 0, locals := 12 } : Room)) (fun a U => a = #[(.ref me), (.ref bd), (.int (0 : Int32))] ∧ Z.Warmed39 U.vm ∧ U.heap = h0) (fun _ _ _ _ _ => True) (fun _ U o U' => ∃ v L, o = .returned v ∧ Qh none h0 n0 [me] (fun h => Fld Z h me "com/example/savepoint/savepoint/AmqpMessage" "body" "[B" (.ref bd) ∧ Fld Z h me "com/example/savepoint/savepoint/AmqpMessage" "redelivered" "Z" (.int (0 : Int32))) v U'.heap L ∧ FrameEnd U o U' L ({ frames := 1, cells := 0, slots := 0, locals := 12 } : Room).cells ({ frames := 1, cells := 0, slots := 0, locals := 12 } : Room).slots) := by
  refine MetFree.of_bodySF (plainFor_of_name pn_com_example_savepoint_savepoint_AmqpMessage) hisR ?_
  intro p e s m args below meth c s₁ Bd hml0 hP hK
  obtain ⟨rfl, hZ, hh⟩ := hP
  have hx := Bd.exec
  have hby := Bd.bytes
  have hml : c.maxLocals = 3 := hml0
  have hown : s.vm.findClass "com/example/savepoint/savepoint/AmqpMessage" = some m.cls := findClass_of_methodNamed Bd.named
  have hnm := (name_of_methodNamed Bd.named Bd.method).1
  have X0 : Stand p l e ({ frames := 1, cells := 0, slots := 0, locals := 12 } : Room) s m #[(.ref me), (.ref bd), (.int (0 : Int32))] below meth c s₁ [] 0 0 := Stand.of_body Bd
  have e0 : s₁.heap = h0 := by rw [← hh, Bd.state]; rfl
  have N0 := Fr.nil n0
  have pre0 : ∀ t, Steps p.tables e below (s₁.setTop (mkF m 0 #[.val (.ref me), .val (.ref bd), .val (.int (0 : Int32))] [])) t → Steps p.tables e below (s₁.setTop (entryFrame m #[(.ref me), (.ref bd), (.int (0 : Int32))] 3)) t := fun t k => castTop (ef_3_RRI m me bd (0 : Int32)) k
  obtain ⟨T1, X1, e1, st1⟩ := initO X0 hx hZ hown (hw _ (List.mem_of_getElem? (i := 48) rfl)) (hw _ (List.mem_of_getElem? (i := 49) rfl)) (hw _ (List.mem_of_getElem? (i := 50) rfl)) e0 (g := (mkF m 1 #[.val (.ref me), .val (.ref bd), .val (.int (0 : Int32))] [(.ref me)])) rfl (by rw [hml]; rfl) rfl (hb hby d1_1) (by decide) (W := 0) (by show 2 * 0 + _ ≤ _; exact Nat.le_of_eq rfl) (by decide)
  obtain ⟨T2, h2, X2, e2, W2, st2⟩ := putF X1 hx hZ hown (host := "") (Or.inl (hw _ (List.mem_of_getElem? (i := 51) rfl))) Via.refl e1 F1 E (Or.inr ⟨(hw _ (List.mem_of_getElem? (i := 52) rfl)), rfl, hnm⟩) (hw _ (List.mem_of_getElem? (i := 43) rfl)) (ty := (.array .byte)) (by decide) rfl rfl (g := (mkF m 6 #[.val (.ref me), .val (.ref bd), .val (.int (0 : Int32))] [(.ref bd), (.ref me)])) rfl rfl (hb hby d1_6)
  have N2 := Fr.snoc X2 N0 gm
  have O2 : Old Z n0 h2 := O.wr W2 gm
  have Kp2 : Keep h0 h2 [me] := (Keep.refl h0 [me]).wr W2 (Or.inl (by simp))
  have Fw2 : Fld Z h2 me "com/example/savepoint/savepoint/AmqpMessage" "body" "[B" (.ref bd) := F1.same W2
  have f3 : Exa Z h2 me "com/example/savepoint/savepoint/AmqpMessage" := (E.wr W2)
  have f4 : Fld Z h2 me "com/example/savepoint/savepoint/AmqpMessage" "redelivered" "Z" (.int (0 : Int32)) := (F2.other W2 (Or.inr (slot_ne (Or.inr (hw _ (List.mem_of_getElem? (i := 54) rfl))) (Or.inr (hw _ (List.mem_of_getElem? (i := 52) rfl))) (by decide) (t := .boolean) (t' := (.array .byte)) (by decide) (by decide))))
  obtain ⟨T5, h5, X5, e5, W5, st5⟩ := putFN X2 hx hZ hown (hw _ (List.mem_of_getElem? (i := 53) rfl)) Via.refl e2 f4 f3 (Or.inr ⟨(hw _ (List.mem_of_getElem? (i := 54) rfl)), rfl, hnm⟩) (hw _ (List.mem_of_getElem? (i := 43) rfl)) (ty := .boolean) (v' := (.int (0 : Int32))) (by decide) rfl (by decide) (g := (mkF m 11 #[.val (.ref me), .val (.ref bd), .val (.int (0 : Int32))] [(.int (0 : Int32)), (.ref me)])) rfl rfl (hb hby d1_11)
  have N5 := Fr.snoc X5 N2 gm
  have O5 : Old Z n0 h5 := O2.wr W5 gm
  have Kp5 : Keep h0 h5 [me] := Kp2.wr W5 (Or.inl (by simp))
  have Fw5 : Fld Z h5 me "com/example/savepoint/savepoint/AmqpMessage" "redelivered" "Z" (.int (0 : Int32)) := f4.same W5
  have f6 : Fld Z h5 me "com/example/savepoint/savepoint/AmqpMessage" "body" "[B" (.ref bd) := (Fw2.other W5 (Or.inr (slot_ne (Or.inr (hw _ (List.mem_of_getElem? (i := 52) rfl))) (Or.inr (hw _ (List.mem_of_getElem? (i := 54) rfl))) (by decide) (t := (.array .byte)) (t' := .boolean) (by decide) (by decide))))
  obtain ⟨fs, hr, hrun, hended, hW, hsame⟩ := X5.leave (v := none) (fun h => rfl)
  refine ⟨_, _, pre0 _ ?_, hrun, hended, _, _, rfl, ?_, ⟨_, rfl⟩, hW, hsame.mono (by decide) (by decide)⟩
  · show Steps p.tables e below (s₁.setTop (mkF m 0 #[.val (.ref me), .val (.ref bd), .val (.int (0 : Int32))] [])) _
    refine XS.aloadN X0.here hx rfl (hb hby d1_0) rfl rfl ?_
    show Steps p.tables e below (s₁.setTop (mkF m 1 #[.val (.ref me), .val (.ref bd), .val (.int (0 : Int32))] [(.ref me)])) _
    refine st1 _ ?_
    show Steps p.tables e below (T1.setTop (mkF m 4 #[.val (.ref me), .val (.ref bd), .val (.int (0 : Int32))] [])) _
    refine XS.aloadN X1.here hx rfl (hb hby d1_4) rfl rfl ?_
    show Steps p.tables e below (T1.setTop (mkF m 5 #[.val (.ref me), .val (.ref bd), .val (.int (0 : Int32))] [(.ref me)])) _
    refine XS.aloadN X1.here hx rfl (hb hby d1_5) rfl rfl ?_
    show Steps p.tables e below (T1.setTop (mkF m 6 #[.val (.ref me), .val (.ref bd), .val (.int (0 : Int32))] [(.ref bd), (.ref me)])) _
    refine st2 _ ?_
    show Steps p.tables e below (T2.setTop (mkF m 9 #[.val (.ref me), .val (.ref bd), .val (.int (0 : Int32))] [])) _
    refine XS.aloadN X2.here hx rfl (hb hby d1_9) rfl rfl ?_
    show Steps p.tables e below (T2.setTop (mkF m 10 #[.val (.ref me), .val (.ref bd), .val (.int (0 : Int32))] [(.ref me)])) _
    refine XS.iloadN X2.here hx rfl (hb hby d1_10) rfl ?_
    show Steps p.tables e below (T2.setTop (mkF m 11 #[.val (.ref me), .val (.ref bd), .val (.int (0 : Int32))] [(.int (0 : Int32)), (.ref me)])) _
    refine st5 _ ?_
    show Steps p.tables e below (T5.setTop (mkF m 14 #[.val (.ref me), .val (.ref bd), .val (.int (0 : Int32))] [])) _
    exact X5.returnOut hx Bd.returns (hb hby d1_14) hr
  · exact by show Qh _ h0 n0 _ _ none T5.heap _; rw [e5]; exact ⟨rfl, N5, Kp5, f6, Fw5⟩
theorem d3_0 : decode prog_1_method_4_code 0 = .ok (.new 22, 3) := by decide +kernel
theorem d3_3 : decode prog_1_method_4_code 3 = .ok (.dup, 1) := by decide +kernel
theorem pd_2829V : parseMethodDescriptor "()V" = some ⟨[], none⟩ := by decide +kernel
theorem d3_4 : decode prog_1_method_4_code 4 = .ok (.invokespecial 24, 3) := by decide +kernel
theorem d3_7 : decode prog_1_method_4_code 7 = .ok (.ldc 25, 2) := by decide +kernel
theorem pd_28Ljava2flang2fString3b29Ljava2flang2fStringBuilder3b : parseMethodDescriptor "(Ljava/lang/String;)Ljava/lang/StringBuilder;" = some ⟨[(.object "java/lang/String")], some (.object "java/lang/StringBuilder")⟩ := by decide +kernel
theorem d3_9 : decode prog_1_method_4_code 9 = .ok (.invokevirtual 27, 3) := by decide +kernel
theorem d3_12 : decode prog_1_method_4_code 12 = .ok (.aload_n 0, 1) := by decide +kernel
theorem d3_13 : decode prog_1_method_4_code 13 = .ok (.getfield 7, 3) := by decide +kernel
theorem d3_16 : decode prog_1_method_4_code 16 = .ok (.arraylength, 1) := by decide +kernel
theorem pd_28I29Ljava2flang2fStringBuilder3b : parseMethodDescriptor "(I)Ljava/lang/StringBuilder;" = some ⟨[.int], some (.object "java/lang/StringBuilder")⟩ := by decide +kernel
theorem d3_17 : decode prog_1_method_4_code 17 = .ok (.invokevirtual 31, 3) := by decide +kernel
theorem d3_20 : decode prog_1_method_4_code 20 = .ok (.ldc 34, 2) := by decide +kernel
theorem d3_22 : decode prog_1_method_4_code 22 = .ok (.invokevirtual 27, 3) := by decide +kernel
theorem d3_25 : decode prog_1_method_4_code 25 = .ok (.aload_n 0, 1) := by decide +kernel
theorem d3_26 : decode prog_1_method_4_code 26 = .ok (.getfield 13, 3) := by decide +kernel
theorem d3_29 : decode prog_1_method_4_code 29 = .ok (.ifCond .eq 8, 3) := by decide +kernel
theorem d3_37 : decode prog_1_method_4_code 37 = .ok (.ldc 38, 2) := by decide +kernel
theorem d3_39 : decode prog_1_method_4_code 39 = .ok (.invokevirtual 27, 3) := by decide +kernel
theorem pd_2829Ljava2flang2fString3b : parseMethodDescriptor "()Ljava/lang/String;" = some ⟨[], some (.object "java/lang/String")⟩ := by decide +kernel
theorem d3_42 : decode prog_1_method_4_code 42 = .ok (.invokevirtual 40, 3) := by decide +kernel
theorem d3_45 : decode prog_1_method_4_code 45 = .ok (.areturn, 1) := by decide +kernel
set_option maxRecDepth 65536 in
set_option maxHeartbeats 40000000 in
theorem rm_toS0 (l : Launch) (Z : State) (a0 : Array Value) (hw : ∀ d ∈ tables_1, d.before a0 Z = true) (ws : List Jvm.Cond) (zc : Int32) (me bd : Addr) (kb : ClassId) (nn : Nat) (ist d1 d2 : Addr) (h0 : Heap) (n0 : Nat) (O : Old Z n0 h0) (hE : EnvS Z zc) (hD : EnvD Z ist d1 d2) (Em : Exa Z h0 me "com/example/savepoint/savepoint/AmqpMessage") (F1 : Fld Z h0 me "com/example/savepoint/savepoint/AmqpMessage" "body" "[B" (.ref bd)) (F2 : Fld Z h0 me "com/example/savepoint/savepoint/AmqpMessage" "redelivered" "Z" (.int (0 : Int32))) (Ab : Arv Z h0 bd kb .byte (Int32.ofNat nn) [] (.int (0 : Int32))) (hnn : nn < 16) (hEL : EW Z a0 EL) :
    MetFree l (⟨"com/example/savepoint/savepoint/AmqpMessage", "toString", "()Ljava/lang/String;"⟩ : MethodName) (head1 (Jvm.Cond.code (⟨"com/example/savepoint/savepoint/AmqpMessage", "toString", "()Ljava/lang/String;"⟩ : MethodName) prog_1_method_4_code 1 (some (.object "java/lang/String")) :: ws) ({ frames := 6, cells := 14, slots := 1104, locals := 106 } : Room)) (fun a U => a = #[(.ref me)] ∧ Z.Warmed39 U.vm ∧ U.heap = h0 ∧ CHv Z EL U.vm h0) (fun _ _ _ _ _ => True) (fun _ U o U' => ∃ v L, o = .returned v ∧ Qx h0 n0 [] (fun q h => ∃ t k, Str Z h q t k (msg0 nn) ∧ h0.size ≤ q ∧ h0.size ≤ t) v U'.heap L ∧ CHr Z EL U.vm U.heap U'.vm U'.heap ∧ ReturnedEndW U o U' L ({ frames := 6, cells := 14, slots := 1104, locals := 106 } : Room).cells ({ frames := 6, cells := 14, slots := 1104, locals := 106 } : Room).slots) := by
  refine MetFree.of_bodySF (plainFor_of_name pn_com_example_savepoint_savepoint_AmqpMessage) hisR ?_
  intro p e s m args below meth c s₁ Bd hml0 hP hK
  obtain ⟨rfl, hZ, hh, hCH⟩ := hP
  have hx := Bd.exec
  have hby := Bd.bytes
  have hml : c.maxLocals = 1 := hml0
  have hown : s.vm.findClass "com/example/savepoint/savepoint/AmqpMessage" = some m.cls := findClass_of_methodNamed Bd.named
  have hnm := (name_of_methodNamed Bd.named Bd.method).1
  have X0 : Stand p l e ({ frames := 6, cells := 14, slots := 1104, locals := 106 } : Room) (s.setVm s.vm) m #[(.ref me)] below meth c s₁ [] 0 0 := Stand.of_body Bd
  have e0 : s₁.heap = h0 := by rw [← hh, Bd.state]; rfl
  have N0 := Fr.nil n0
  have pre0 : ∀ t, Steps p.tables e below (s₁.setTop (mkF m 0 #[.val (.ref me)] [])) t → Steps p.tables e below (s₁.setTop (entryFrame m #[(.ref me)] 1)) t := fun t k => castTop (ef_1_R m me) k
  have hS0 : s.Since s.vm 0 := (State.WarmedH.refl s).since 0
  have hk0 : 0 ≤ h0.size := Nat.zero_le _
  have CR0 : CHr Z EL s.vm h0 s.vm h0 := CHr.refl hCH
  obtain ⟨T1, h1, X1, e1, E1, A1, D1, -, st1⟩ := newO X0 hx hZ hown (hw _ (List.mem_of_getElem? (i := 60) rfl)) (hw _ (List.mem_of_getElem? (i := 61) rfl)) (hw _ (List.mem_of_getElem? (i := 62) rfl)) e0 (g := (mkF m 0 #[.val (.ref me)] [])) rfl (hb hby d3_0) (by decide) (by decide)
  obtain ⟨b1, g1⟩ : ∃ z, z = h0.size := ⟨_, rfl⟩
  rw [← g1] at A1 D1 st1
  have gb1 : n0 ≤ b1 := by have q1 := O.1; have q2 := O.2.1; omega
  have gs1 : h0.size ≤ b1 := by have q := ((Keep.refl h0 [])).1; omega
  have O1 : Old Z n0 h1 := O.ext E1
  have Kp1 : Keep h0 h1 [] := (Keep.refl h0 []).ext E1
  have Cl1 : CHr Z EL s.vm h0 s.vm h1 := CHr.ext E1 hCH
  have CR1 : CHr Z EL s.vm h0 s.vm h1 := CR0.trans Cl1
  have CH1 := CR1.1
  have hk1 : _ ≤ h1.size := Nat.le_trans hk0 Cl1.2.1
  have Sfb1_2 : Safe Z EL s.vm h1 b1 := Safe.ext E1 hCH (Safe.new (Nat.le_of_eq g1.symm))
  have F1_value : Fld Z h1 b1 "java/lang/AbstractStringBuilder" "value" "[B" .null := D1 (Or.inl (hw _ (List.mem_of_getElem? (i := 75) rfl))) (ty := (.array .byte)) (by decide)
  have F1_coder : Fld Z h1 b1 "java/lang/AbstractStringBuilder" "coder" "B" (.int (0 : Int32)) := D1 (Or.inl (hw _ (List.mem_of_getElem? (i := 77) rfl))) (ty := .byte) (by decide)
  have F1_count : Fld Z h1 b1 "java/lang/AbstractStringBuilder" "count" "I" (.int (0 : Int32)) := D1 (Or.inl (hw _ (List.mem_of_getElem? (i := 103) rfl))) (ty := .int) (by decide)
  have f3 : Exa Z h1 me "com/example/savepoint/savepoint/AmqpMessage" := (Em.ext E1)
  have f4 : Fld Z h1 me "com/example/savepoint/savepoint/AmqpMessage" "body" "[B" (.ref bd) := (F1.ext E1)
  have f5 : Fld Z h1 me "com/example/savepoint/savepoint/AmqpMessage" "redelivered" "Z" (.int (0 : Int32)) := (F2.ext E1)
  have f6 : Arv Z h1 bd kb .byte (Int32.ofNat nn) [] (.int (0 : Int32)) := (Ab.ext E1)
  obtain ⟨_, _, ⟨T7, L7, k7, n7⟩, -, X7, ⟨Lc7, hQ7, l7, y7, z7⟩, st7⟩ := X1.specialBack hx (y := (⟨"java/lang/StringBuilder", "<init>", "()V"⟩ : MethodName)) rfl hown (mvT hZ (hw _ (List.mem_of_getElem? (i := 63) rfl))) (mvT hZ (hw _ (List.mem_of_getElem? (i := 64) rfl))) (mvT hZ (hw _ (List.mem_of_getElem? (i := 65) rfl))) (by decide) (backOf (W := 1) (sb_sbInit l Z a0 hw [] zc b1 h1 n0 O1 hE A1 F1_value F1_coder F1_count gb1) hZ (hw _ (List.mem_of_getElem? (i := 65) rfl)) (hw _ (List.mem_of_getElem? (i := 62) rfl)) (by decide) (by decide)) (g := (mkF m 4 #[.val (.ref me)] [(.ref b1), (.ref b1)])) rfl (by rw [hml]; rfl) (Steps.refl _) (a := b1) (argsL := []) (rest := [(.ref b1)]) (lenOf pd_2829V rfl) rfl (by show 2 * 0 + _ ≤ _; exact Nat.le_of_eq rfl) (hb hby d3_4) (fun _ _ => ⟨rfl, e1, (by decide : 1 + 1 ≤ _), (by decide : 4 + 16 ≤ _)⟩)
  dsimp only [Pt.U, Pt.locs, Pt.cells, Pt.slots] at X7 l7 y7 z7 st7 hQ7
  rw [l7, y7, z7] at X7
  obtain ⟨rfl, N7q, K7, ⟨da7, kd7, Pb7, gd7⟩⟩ := hQ7
  have N7 := Fr.app N0 N7q
  have gz7 : h0.size ≤ da7 := Nat.le_trans Kp1.1 gd7
  have gn7 : n0 ≤ da7 := by have q1 := O1.1; have q2 := O1.2.1; omega
  have O7 : Old Z n0 T7.heap := O1.keep K7 (allS (P := (n0 ≤ ·)) gb1 all0)
  have Kp7 : Keep h0 T7.heap [] := Kp1.trans K7 (allS (P := (fun x => x ∈ [] ∨ h0.size ≤ x)) (Or.inr gs1) all0)
  have Cl7 : CHr Z EL s.vm h1 s.vm T7.heap := CHr.keep K7 (sfS Sfb1_2 sf0) CH1
  have Sfb1_7 : Safe Z EL s.vm T7.heap b1 := Cl7.safe A1.lt Sfb1_2
  have CR7 : CHr Z EL s.vm h0 s.vm T7.heap := CR1.trans Cl7
  have CH7 := CR7.1
  have hk7 : _ ≤ T7.heap.size := Nat.le_trans hk1 Cl7.2.1
  obtain ⟨Eb7, Vb7, Cb7, Nb7, Ab7⟩ := id Pb7
  have Sfda7_8 : Safe Z EL s.vm T7.heap da7 := (Safe.keep K7 (sfS Sfb1_2 sf0) CH1 (Safe.new gd7))
  have Iv7 : 16 ≤ 2 * ([] : List Int32).length + 16 ∧ ([] : List Int32).length ≤ 16 := by decide
  have f9 : Exa Z T7.heap me "com/example/savepoint/savepoint/AmqpMessage" := (f3.keep K7)
  have f10 : Fld Z T7.heap me "com/example/savepoint/savepoint/AmqpMessage" "body" "[B" (.ref bd) := (f4.keep K7 (ninS (Nat.ne_of_lt (Nat.lt_of_lt_of_le F2.lt (Nat.le_of_eq g1.symm))) nin0))
  have f11 : Fld Z T7.heap me "com/example/savepoint/savepoint/AmqpMessage" "redelivered" "Z" (.int (0 : Int32)) := (f5.keep K7 (ninS (Nat.ne_of_lt (Nat.lt_of_lt_of_le F2.lt (Nat.le_of_eq g1.symm))) nin0))
  have f12 : Arv Z T7.heap bd kb .byte (Int32.ofNat nn) [] (.int (0 : Int32)) := (f6.keep K7 (ninS (Nat.ne_of_lt (Nat.lt_of_lt_of_le Ab.lt (Nat.le_of_eq g1.symm))) nin0))
  obtain ⟨sa13, T13, h13, k13, sd13, kc13, X13, e13, E13, hS13, hk13, hZ13, ho13, Es13, Cs13, Vs13, As13, la13, lb13, Cq13, hL13, hne13, st13⟩ := ldcCH X7 hx hZ hown (hw _ (List.mem_of_getElem? (i := 78) rfl)) (own_wS hw) rfl hS0 hk7 hEL (by simp [EL, consts_1]) CH7 (vs := by8 lit0) (z := Int32.ofNat lit0.length) ⟨by decide, rfl⟩ (by decide) (by decide) (g := (mkF m 7 #[.val (.ref me)] [(.ref b1)])) rfl (hb hby d3_7) (n := 44) (by decide) (by decide) (by decide) (by decide)
  have O13 : Old Z n0 h13 := O7.ext E13
  have Kp13 : Keep h0 h13 [] := Kp7.ext E13
  have Cl13 : CHr Z EL s.vm T7.heap T13.vm h13 := Cq13
  have Sfb1_13 : Safe Z EL T13.vm h13 b1 := Cl13.safe Eb7.lt Sfb1_7
  have Sfda7_13 : Safe Z EL T13.vm h13 da7 := Cl13.safe Ab7.lt Sfda7_8
  have CR13 : CHr Z EL s.vm h0 T13.vm h13 := CR7.trans Cl13
  have CH13 := CR13.1
  have f14 : Exa Z h13 b1 "java/lang/StringBuilder" := (Eb7.ext E13)
  have f15 : Arv Z h13 da7 kd7 .byte (Int32.ofNat 16) (by8 []) (.int (0 : Int32)) := (Ab7.ext E13)
  have f16 : Exa Z h13 me "com/example/savepoint/savepoint/AmqpMessage" := (f9.ext E13)
  have f17 : Fld Z h13 me "com/example/savepoint/savepoint/AmqpMessage" "body" "[B" (.ref bd) := (f10.ext E13)
  have f18 : Fld Z h13 me "com/example/savepoint/savepoint/AmqpMessage" "redelivered" "Z" (.int (0 : Int32)) := (f11.ext E13)
  have f19 : Arv Z h13 bd kb .byte (Int32.ofNat nn) [] (.int (0 : Int32)) := (f12.ext E13)
  have f20 : Fld Z h13 b1 "java/lang/AbstractStringBuilder" "value" "[B" (.ref da7) := (Vb7.ext E13)
  have f21 : Fld Z h13 b1 "java/lang/AbstractStringBuilder" "coder" "B" (.int (0 : Int32)) := (Cb7.ext E13)
  have f22 : Fld Z h13 b1 "java/lang/AbstractStringBuilder" "count" "I" (.int (Int32.ofNat [].length)) := (Nb7.ext E13)
  have Iv23 := own_inv lit0 Iv7
  have Ln23 : (([] : List Int32) ++ lit0).length ≤ 92 := (by have q := own_d2 hnn; simp only [List.length_append, List.length_nil, show lit0.length = 11 from rfl, show lit1.length = 6 from rfl, show lit2.length = 13 from rfl, show lit3.length = 0 from rfl] <;> omega)
  obtain ⟨cq24, kq24, q24a, q24b, q24c⟩ := isOf hZ13 e13 f14
  obtain ⟨_, _, ⟨T24, L24, k24, n24⟩, -, X24, ⟨Lc24, hQ24, l24, y24, z24⟩, st24⟩ := X13.virtualBack hx (y := (⟨"java/lang/StringBuilder", "append", "(Ljava/lang/String;)Ljava/lang/StringBuilder;"⟩ : MethodName)) (z := (⟨"java/lang/StringBuilder", "append", "(Ljava/lang/String;)Ljava/lang/StringBuilder;"⟩ : MethodName)) ho13 (mvT hZ13 (hw _ (List.mem_of_getElem? (i := 79) rfl))) (mvT hZ13 (hw _ (List.mem_of_getElem? (i := 80) rfl))) (notFace_of_selects (args := #[]) (mvT hZ13 (hw _ (List.mem_of_getElem? (i := 82) rfl)))) (mvT hZ13 (hw _ (List.mem_of_getElem? (i := 82) rfl))) (mvT hZ13 (hw _ (List.mem_of_getElem? (i := 81) rfl))) (by decide) (backOf (W := 0) (sb_sbS l Z a0 hw [] zc b1 da7 kd7 16 ([] : List Int32) sa13 sd13 kc13 lit0 h13 n0 O13 hE ⟨f14, f20, f21, f22, f15⟩ ⟨Es13, Vs13, Cs13, As13⟩ Iv7.2 (Nat.le_trans (own_cap Iv7 (by decide)) (by decide)) (own_cap Iv23 Ln23) (Ne.symm (hne13 _ Sfda7_13).2) gb1 gn7 (Nat.ne_of_lt (Nat.lt_of_lt_of_le F1_count.lt gd7))) hZ13 (hw _ (List.mem_of_getElem? (i := 83) rfl)) (hw _ (List.mem_of_getElem? (i := 62) rfl)) (by decide) (by decide)) q24a q24c (g := (mkF m 9 #[.val (.ref me)] [(.ref sa13), (.ref b1)])) rfl (by rw [hml]; rfl) (Steps.refl _) (argsL := [(.ref sa13)]) (rest := []) (lenOf pd_28Ljava2flang2fString3b29Ljava2flang2fStringBuilder3b rfl) rfl (by show 2 * 0 + _ ≤ _; exact Nat.le_of_eq rfl) (hb hby d3_9) (fun _ _ => ⟨rfl, e13, (by decide : 4 + 1 ≤ _), (by decide : 68 + 200 ≤ _)⟩)
  dsimp only [Pt.U, Pt.locs, Pt.cells, Pt.slots] at X24 l24 y24 z24 st24 hQ24
  rw [l24, y24, z24] at X24
  obtain ⟨rfl, N24q, K24, da24, kd24, Pb24, hd24⟩ := hQ24
  have N24 := Fr.app N7 N24q
  have gn24 : n0 ≤ da24 := by
    rcases hd24 with q | q
    · rw [q]; exact gn7
    · have q1 := O13.1; have q2 := O13.2.1; omega
  have gz24 : h0.size ≤ da24 := by
    rcases hd24 with q | q
    · rw [q]; exact gz7
    · exact Nat.le_trans Kp13.1 q
  have O24 : Old Z n0 T24.heap := O13.keep K24 (allS (P := (n0 ≤ ·)) gb1 (allS (P := (n0 ≤ ·)) gn7 all0))
  have Kp24 : Keep h0 T24.heap [] := Kp13.trans K24 (allS (P := (fun x => x ∈ [] ∨ h0.size ≤ x)) (Or.inr gs1) (allS (P := (fun x => x ∈ [] ∨ h0.size ≤ x)) (Or.inr gz7) all0))
  have Cl24 : CHr Z EL T13.vm h13 T13.vm T24.heap := CHr.keep K24 (sfS Sfb1_13 (sfS Sfda7_13 sf0)) CH13
  have Sfb1_24 : Safe Z EL T13.vm T24.heap b1 := Cl24.safe f14.lt Sfb1_13
  have Sfda7_24 : Safe Z EL T13.vm T24.heap da7 := Cl24.safe f15.lt Sfda7_13
  have CR24 : CHr Z EL s.vm h0 T13.vm T24.heap := CR13.trans Cl24
  have CH24 := CR24.1
  have hk24 : _ ≤ T24.heap.size := Nat.le_trans hk13 Cl24.2.1
  obtain ⟨Eb24, Vb24, Cb24, Nb24, Ab24⟩ := id Pb24
  have Sfda24_25 : Safe Z EL T13.vm T24.heap da24 := (hd24.elim (fun q => by rw [q]; exact Sfda7_24) (fun q => (Safe.keep K24 (sfS Sfb1_13 (sfS Sfda7_13 sf0)) CH13 (Safe.new q))))
  have f26 : Fld Z T24.heap me "com/example/savepoint/savepoint/AmqpMessage" "body" "[B" (.ref bd) := (f17.keep K24 (ninS (Nat.ne_of_lt (Nat.lt_of_lt_of_le F2.lt (Nat.le_of_eq g1.symm))) (ninS (Nat.ne_of_lt (Nat.lt_of_lt_of_le f5.lt gd7)) nin0)))
  obtain ⟨T27, X27, e27, st27⟩ := getF X24 hx hZ13 ho13 (host := "") (Or.inl (hw _ (List.mem_of_getElem? (i := 51) rfl))) Via.refl rfl f26 (g := (mkF m 13 #[.val (.ref me)] [(.ref me), (.ref b1)])) rfl rfl (hb hby d3_13)
  have f28 : Arv Z T24.heap bd kb .byte (Int32.ofNat nn) [] (.int (0 : Int32)) := (f19.keep K24 (ninS (Nat.ne_of_lt (Nat.lt_of_lt_of_le Ab.lt (Nat.le_of_eq g1.symm))) (ninS (Nat.ne_of_lt (Nat.lt_of_lt_of_le f6.lt gd7)) nin0)))
  obtain ⟨cw29, A29, q29, s29, n29, H29, G29⟩ := id f28
  have f30 : Exa Z T24.heap me "com/example/savepoint/savepoint/AmqpMessage" := (f16.keep K24)
  have f31 : Fld Z T24.heap me "com/example/savepoint/savepoint/AmqpMessage" "redelivered" "Z" (.int (0 : Int32)) := (f18.keep K24 (ninS (Nat.ne_of_lt (Nat.lt_of_lt_of_le F2.lt (Nat.le_of_eq g1.symm))) (ninS (Nat.ne_of_lt (Nat.lt_of_lt_of_le f5.lt gd7)) nin0)))
  have f32 : Exa Z T24.heap sa13 "java/lang/String" := (Es13.keep K24)
  have f33 : Fld Z T24.heap sa13 "java/lang/String" "coder" "B" (.int (0 : Int32)) := (Cs13.keep K24 (ninS (Ne.symm (hne13 _ Sfb1_13).1) (ninS (Ne.symm (hne13 _ Sfda7_13).1) nin0)))
  have f34 : Fld Z T24.heap sa13 "java/lang/String" "value" "[B" (.ref sd13) := (Vs13.keep K24 (ninS (Ne.symm (hne13 _ Sfb1_13).1) (ninS (Ne.symm (hne13 _ Sfda7_13).1) nin0)))
  have f35 : Arv Z T24.heap sd13 kc13 .byte (Int32.ofNat lit0.length) (by8 lit0) (.int (0 : Int32)) := (As13.keep K24 (ninS (Ne.symm (hne13 _ Sfb1_13).2) (ninS (Ne.symm (hne13 _ Sfda7_13).2) nin0)))
  have Iv36 := own_inv (decI (Int32.ofNat nn)) Iv23
  have Ln36 : ((([] : List Int32) ++ lit0) ++ (decI (Int32.ofNat nn))).length ≤ 92 := (by have q := own_d2 hnn; simp only [List.length_append, List.length_nil, show lit0.length = 11 from rfl, show lit1.length = 6 from rfl, show lit2.length = 13 from rfl, show lit3.length = 0 from rfl] <;> omega)
  obtain ⟨cq37, kq37, q37a, q37b, q37c⟩ := isOf hZ13 e27 Eb24
  obtain ⟨_, _, ⟨T37, L37, k37, n37⟩, -, X37, ⟨Lc37, hQ37, l37, y37, z37⟩, st37⟩ := X27.virtualBack hx (y := (⟨"java/lang/StringBuilder", "append", "(I)Ljava/lang/StringBuilder;"⟩ : MethodName)) (z := (⟨"java/lang/StringBuilder", "append", "(I)Ljava/lang/StringBuilder;"⟩ : MethodName)) ho13 (mvT hZ13 (hw _ (List.mem_of_getElem? (i := 129) rfl))) (mvT hZ13 (hw _ (List.mem_of_getElem? (i := 130) rfl))) (notFace_of_selects (args := #[]) (mvT hZ13 (hw _ (List.mem_of_getElem? (i := 132) rfl)))) (mvT hZ13 (hw _ (List.mem_of_getElem? (i := 132) rfl))) (mvT hZ13 (hw _ (List.mem_of_getElem? (i := 131) rfl))) (by decide) (backOf (W := 0) (sb_sbI l Z a0 hw [] zc b1 da24 kd24 (grow 16 (([] : List Int32) ++ lit0).length) (([] : List Int32) ++ lit0) (Int32.ofNat nn) ist d1 d2 T24.heap n0 O24 hE ⟨Eb24, Vb24, Cb24, Nb24, Ab24⟩ hD Iv23.2 (Nat.le_trans (own_cap Iv23 Ln23) (by decide)) (own_cap Iv36 Ln36) gb1 gn24 (own_orne hd24 (Nat.ne_of_lt (Nat.lt_of_lt_of_le F1_count.lt gd7)) f22.lt)) hZ13 (hw _ (List.mem_of_getElem? (i := 133) rfl)) (hw _ (List.mem_of_getElem? (i := 62) rfl)) (by decide) (by decide)) q37a q37c (g := (mkF m 17 #[.val (.ref me)] [(.int (Int32.ofNat nn)), (.ref b1)])) rfl (by rw [hml]; rfl) (Steps.refl _) (argsL := [(.int (Int32.ofNat nn))]) (rest := []) (lenOf pd_28I29Ljava2flang2fStringBuilder3b rfl) rfl (by show 2 * 0 + _ ≤ _; exact Nat.le_of_eq rfl) (hb hby d3_17) (fun _ _ => ⟨rfl, e27, (by decide : 5 + 1 ≤ _), (by decide : 268 + 200 ≤ _)⟩)
  dsimp only [Pt.U, Pt.locs, Pt.cells, Pt.slots] at X37 l37 y37 z37 st37 hQ37
  rw [l37, y37, z37] at X37
  obtain ⟨rfl, N37q, K37, da37, kd37, Pb37, hd37⟩ := hQ37
  have N37 := Fr.app N24 N37q
  have gn37 : n0 ≤ da37 := by
    rcases hd37 with q | q
    · rw [q]; exact gn24
    · have q1 := O24.1; have q2 := O24.2.1; omega
  have gz37 : h0.size ≤ da37 := by
    rcases hd37 with q | q
    · rw [q]; exact gz24
    · exact Nat.le_trans Kp24.1 q
  have O37 : Old Z n0 T37.heap := O24.keep K37 (allS (P := (n0 ≤ ·)) gb1 (allS (P := (n0 ≤ ·)) gn24 all0))
  have Kp37 : Keep h0 T37.heap [] := Kp24.trans K37 (allS (P := (fun x => x ∈ [] ∨ h0.size ≤ x)) (Or.inr gs1) (allS (P := (fun x => x ∈ [] ∨ h0.size ≤ x)) (Or.inr gz24) all0))
  have Cl37 : CHr Z EL T13.vm T24.heap T13.vm T37.heap := CHr.keep K37 (sfS Sfb1_24 (sfS Sfda24_25 sf0)) CH24
  have Sfb1_37 : Safe Z EL T13.vm T37.heap b1 := Cl37.safe Eb24.lt Sfb1_24
  have Sfda24_37 : Safe Z EL T13.vm T37.heap da24 := Cl37.safe Ab24.lt Sfda24_25
  have CR37 : CHr Z EL s.vm h0 T13.vm T37.heap := CR24.trans Cl37
  have CH37 := CR37.1
  have hk37 : _ ≤ T37.heap.size := Nat.le_trans hk24 Cl37.2.1
  obtain ⟨Eb37, Vb37, Cb37, Nb37, Ab37⟩ := id Pb37
  have Sfda37_38 : Safe Z EL T13.vm T37.heap da37 := (hd37.elim (fun q => by rw [q]; exact Sfda24_37) (fun q => (Safe.keep K37 (sfS Sfb1_24 (sfS Sfda24_25 sf0)) CH24 (Safe.new q))))
  have f39 : Exa Z T37.heap me "com/example/savepoint/savepoint/AmqpMessage" := (f30.keep K37)
  have f40 : Fld Z T37.heap me "com/example/savepoint/savepoint/AmqpMessage" "body" "[B" (.ref bd) := (f26.keep K37 (ninS (Nat.ne_of_lt (Nat.lt_of_lt_of_le F2.lt (Nat.le_of_eq g1.symm))) (ninS (own_orne hd24 (Nat.ne_of_lt (Nat.lt_of_lt_of_le f5.lt gd7)) f18.lt) nin0)))
  have f41 : Fld Z T37.heap me "com/example/savepoint/savepoint/AmqpMessage" "redelivered" "Z" (.int (0 : Int32)) := (f31.keep K37 (ninS (Nat.ne_of_lt (Nat.lt_of_lt_of_le F2.lt (Nat.le_of_eq g1.symm))) (ninS (own_orne hd24 (Nat.ne_of_lt (Nat.lt_of_lt_of_le f5.lt gd7)) f18.lt) nin0)))
  have f42 : Arv Z T37.heap bd kb .byte (Int32.ofNat nn) [] (.int (0 : Int32)) := (f28.keep K37 (ninS (Nat.ne_of_lt (Nat.lt_of_lt_of_le Ab.lt (Nat.le_of_eq g1.symm))) (ninS (own_orne hd24 (Nat.ne_of_lt (Nat.lt_of_lt_of_le f6.lt gd7)) f19.lt) nin0)))
  have f43 : Exa Z T37.heap sa13 "java/lang/String" := (f32.keep K37)
  have f44 : Fld Z T37.heap sa13 "java/lang/String" "coder" "B" (.int (0 : Int32)) := (f33.keep K37 (ninS (Ne.symm (hne13 _ Sfb1_13).1) (ninS (own_orne hd24 (Ne.symm (hne13 _ Sfda7_13).1) Vs13.lt) nin0)))
  have f45 : Fld Z T37.heap sa13 "java/lang/String" "value" "[B" (.ref sd13) := (f34.keep K37 (ninS (Ne.symm (hne13 _ Sfb1_13).1) (ninS (own_orne hd24 (Ne.symm (hne13 _ Sfda7_13).1) Vs13.lt) nin0)))
  have f46 : Arv Z T37.heap sd13 kc13 .byte (Int32.ofNat lit0.length) (by8 lit0) (.int (0 : Int32)) := (f35.keep K37 (ninS (Ne.symm (hne13 _ Sfb1_13).2) (ninS (own_orne hd24 (Ne.symm (hne13 _ Sfda7_13).2) As13.lt) nin0)))
  obtain ⟨sa47, T47, h47, k47, sd47, kc47, X47, e47, E47, hS47, hk47, hZ47, ho47, Es47, Cs47, Vs47, As47, la47, lb47, Cq47, hL47, hne47, st47⟩ := ldcCH X37 hx hZ13 ho13 (hw _ (List.mem_of_getElem? (i := 151) rfl)) (own_wS hw) rfl hS13 hk37 hEL (by simp [EL, consts_1]) CH37 (vs := by8 lit1) (z := Int32.ofNat lit1.length) ⟨by decide, rfl⟩ (by decide) (by decide) (g := (mkF m 20 #[.val (.ref me)] [(.ref b1)])) rfl (hb hby d3_20) (n := 24) (by decide) (by decide) (by decide) (by decide)
  have O47 : Old Z n0 h47 := O37.ext E47
  have Kp47 : Keep h0 h47 [] := Kp37.ext E47
  have Cl47 : CHr Z EL T13.vm T37.heap T47.vm h47 := Cq47
  have Sfb1_47 : Safe Z EL T47.vm h47 b1 := Cl47.safe Eb37.lt Sfb1_37
  have Sfda37_47 : Safe Z EL T47.vm h47 da37 := Cl47.safe Ab37.lt Sfda37_38
  have CR47 : CHr Z EL s.vm h0 T47.vm h47 := CR37.trans Cl47
  have CH47 := CR47.1
  have f48 : Exa Z h47 b1 "java/lang/StringBuilder" := (Eb37.ext E47)
  have f49 : Arv Z h47 da37 kd37 .byte (Int32.ofNat (grow (grow 16 (([] : List Int32) ++ lit0).length) ((([] : List Int32) ++ lit0) ++ (decI (Int32.ofNat nn))).length)) (by8 ((([] : List Int32) ++ lit0) ++ (decI (Int32.ofNat nn)))) (.int (0 : Int32)) := (Ab37.ext E47)
  have f50 : Exa Z h47 me "com/example/savepoint/savepoint/AmqpMessage" := (f39.ext E47)
  have f51 : Fld Z h47 me "com/example/savepoint/savepoint/AmqpMessage" "body" "[B" (.ref bd) := (f40.ext E47)
  have f52 : Fld Z h47 me "com/example/savepoint/savepoint/AmqpMessage" "redelivered" "Z" (.int (0 : Int32)) := (f41.ext E47)
  have f53 : Arv Z h47 bd kb .byte (Int32.ofNat nn) [] (.int (0 : Int32)) := (f42.ext E47)
  have f54 : Fld Z h47 b1 "java/lang/AbstractStringBuilder" "value" "[B" (.ref da37) := (Vb37.ext E47)
  have f55 : Fld Z h47 b1 "java/lang/AbstractStringBuilder" "coder" "B" (.int (0 : Int32)) := (Cb37.ext E47)
  have f56 : Fld Z h47 b1 "java/lang/AbstractStringBuilder" "count" "I" (.int (Int32.ofNat ((([] : List Int32) ++ lit0) ++ (decI (Int32.ofNat nn))).length)) := (Nb37.ext E47)
  have f57 : Exa Z h47 sa13 "java/lang/String" := (f43.ext E47)
  have f58 : Fld Z h47 sa13 "java/lang/String" "coder" "B" (.int (0 : Int32)) := (f44.ext E47)
  have f59 : Fld Z h47 sa13 "java/lang/String" "value" "[B" (.ref sd13) := (f45.ext E47)
  have f60 : Arv Z h47 sd13 kc13 .byte (Int32.ofNat lit0.length) (by8 lit0) (.int (0 : Int32)) := (f46.ext E47)
  have Iv61 := own_inv lit1 Iv36
  have Ln61 : (((([] : List Int32) ++ lit0) ++ (decI (Int32.ofNat nn))) ++ lit1).length ≤ 92 := (by have q := own_d2 hnn; simp only [List.length_append, List.length_nil, show lit0.length = 11 from rfl, show lit1.length = 6 from rfl, show lit2.length = 13 from rfl, show lit3.length = 0 from rfl] <;> omega)
  obtain ⟨cq62, kq62, q62a, q62b, q62c⟩ := isOf hZ47 e47 f48
  obtain ⟨_, _, ⟨T62, L62, k62, n62⟩, -, X62, ⟨Lc62, hQ62, l62, y62, z62⟩, st62⟩ := X47.virtualBack hx (y := (⟨"java/lang/StringBuilder", "append", "(Ljava/lang/String;)Ljava/lang/StringBuilder;"⟩ : MethodName)) (z := (⟨"java/lang/StringBuilder", "append", "(Ljava/lang/String;)Ljava/lang/StringBuilder;"⟩ : MethodName)) ho47 (mvT hZ47 (hw _ (List.mem_of_getElem? (i := 79) rfl))) (mvT hZ47 (hw _ (List.mem_of_getElem? (i := 80) rfl))) (notFace_of_selects (args := #[]) (mvT hZ47 (hw _ (List.mem_of_getElem? (i := 82) rfl)))) (mvT hZ47 (hw _ (List.mem_of_getElem? (i := 82) rfl))) (mvT hZ47 (hw _ (List.mem_of_getElem? (i := 81) rfl))) (by decide) (backOf (W := 0) (sb_sbS l Z a0 hw [] zc b1 da37 kd37 (grow (grow 16 (([] : List Int32) ++ lit0).length) ((([] : List Int32) ++ lit0) ++ (decI (Int32.ofNat nn))).length) ((([] : List Int32) ++ lit0) ++ (decI (Int32.ofNat nn))) sa47 sd47 kc47 lit1 h47 n0 O47 hE ⟨f48, f54, f55, f56, f49⟩ ⟨Es47, Vs47, Cs47, As47⟩ Iv36.2 (Nat.le_trans (own_cap Iv36 Ln36) (by decide)) (own_cap Iv61 Ln61) (Ne.symm (hne47 _ Sfda37_47).2) gb1 gn37 (own_orne hd37 (own_orne hd24 (Nat.ne_of_lt (Nat.lt_of_lt_of_le F1_count.lt gd7)) f22.lt) Nb24.lt)) hZ47 (hw _ (List.mem_of_getElem? (i := 83) rfl)) (hw _ (List.mem_of_getElem? (i := 62) rfl)) (by decide) (by decide)) q62a q62c (g := (mkF m 22 #[.val (.ref me)] [(.ref sa47), (.ref b1)])) rfl (by rw [hml]; rfl) (Steps.refl _) (argsL := [(.ref sa47)]) (rest := []) (lenOf pd_28Ljava2flang2fString3b29Ljava2flang2fStringBuilder3b rfl) rfl (by show 2 * 0 + _ ≤ _; exact Nat.le_of_eq rfl) (hb hby d3_22) (fun _ _ => ⟨rfl, e47, (by decide : 8 + 1 ≤ _), (by decide : 496 + 200 ≤ _)⟩)
  dsimp only [Pt.U, Pt.locs, Pt.cells, Pt.slots] at X62 l62 y62 z62 st62 hQ62
  rw [l62, y62, z62] at X62
  obtain ⟨rfl, N62q, K62, da62, kd62, Pb62, hd62⟩ := hQ62
  have N62 := Fr.app N37 N62q
  have gn62 : n0 ≤ da62 := by
    rcases hd62 with q | q
    · rw [q]; exact gn37
    · have q1 := O47.1; have q2 := O47.2.1; omega
  have gz62 : h0.size ≤ da62 := by
    rcases hd62 with q | q
    · rw [q]; exact gz37
    · exact Nat.le_trans Kp47.1 q
  have O62 : Old Z n0 T62.heap := O47.keep K62 (allS (P := (n0 ≤ ·)) gb1 (allS (P := (n0 ≤ ·)) gn37 all0))
  have Kp62 : Keep h0 T62.heap [] := Kp47.trans K62 (allS (P := (fun x => x ∈ [] ∨ h0.size ≤ x)) (Or.inr gs1) (allS (P := (fun x => x ∈ [] ∨ h0.size ≤ x)) (Or.inr gz37) all0))
  have Cl62 : CHr Z EL T47.vm h47 T47.vm T62.heap := CHr.keep K62 (sfS Sfb1_47 (sfS Sfda37_47 sf0)) CH47
  have Sfb1_62 : Safe Z EL T47.vm T62.heap b1 := Cl62.safe f48.lt Sfb1_47
  have Sfda37_62 : Safe Z EL T47.vm T62.heap da37 := Cl62.safe f49.lt Sfda37_47
  have CR62 : CHr Z EL s.vm h0 T47.vm T62.heap := CR47.trans Cl62
  have CH62 := CR62.1
  have hk62 : _ ≤ T62.heap.size := Nat.le_trans hk47 Cl62.2.1
  obtain ⟨Eb62, Vb62, Cb62, Nb62, Ab62⟩ := id Pb62
  have Sfda62_63 : Safe Z EL T47.vm T62.heap da62 := (hd62.elim (fun q => by rw [q]; exact Sfda37_62) (fun q => (Safe.keep K62 (sfS Sfb1_47 (sfS Sfda37_47 sf0)) CH47 (Safe.new q))))
  have f64 : Fld Z T62.heap me "com/example/savepoint/savepoint/AmqpMessage" "redelivered" "Z" (.int (0 : Int32)) := (f52.keep K62 (ninS (Nat.ne_of_lt (Nat.lt_of_lt_of_le F2.lt (Nat.le_of_eq g1.symm))) (ninS (own_orne hd37 (own_orne hd24 (Nat.ne_of_lt (Nat.lt_of_lt_of_le f5.lt gd7)) f18.lt) f31.lt) nin0)))
  obtain ⟨T65, X65, e65, st65⟩ := getF X62 hx hZ47 ho47 (host := "") (Or.inl (hw _ (List.mem_of_getElem? (i := 53) rfl))) Via.refl rfl f64 (g := (mkF m 26 #[.val (.ref me)] [(.ref me), (.ref b1)])) rfl rfl (hb hby d3_26)
  have f66 : Exa Z T62.heap me "com/example/savepoint/savepoint/AmqpMessage" := (f50.keep K62)
  have f67 : Fld Z T62.heap me "com/example/savepoint/savepoint/AmqpMessage" "body" "[B" (.ref bd) := (f51.keep K62 (ninS (Nat.ne_of_lt (Nat.lt_of_lt_of_le F2.lt (Nat.le_of_eq g1.symm))) (ninS (own_orne hd37 (own_orne hd24 (Nat.ne_of_lt (Nat.lt_of_lt_of_le f5.lt gd7)) f18.lt) f31.lt) nin0)))
  have f68 : Arv Z T62.heap bd kb .byte (Int32.ofNat nn) [] (.int (0 : Int32)) := (f53.keep K62 (ninS (Nat.ne_of_lt (Nat.lt_of_lt_of_le Ab.lt (Nat.le_of_eq g1.symm))) (ninS (own_orne hd37 (own_orne hd24 (Nat.ne_of_lt (Nat.lt_of_lt_of_le f6.lt gd7)) f19.lt) f28.lt) nin0)))
  have f69 : Exa Z T62.heap sa13 "java/lang/String" := (f57.keep K62)
  have f70 : Fld Z T62.heap sa13 "java/lang/String" "coder" "B" (.int (0 : Int32)) := (f58.keep K62 (ninS (Ne.symm (hne13 _ Sfb1_13).1) (ninS (own_orne hd37 (own_orne hd24 (Ne.symm (hne13 _ Sfda7_13).1) Vs13.lt) f34.lt) nin0)))
  have f71 : Fld Z T62.heap sa13 "java/lang/String" "value" "[B" (.ref sd13) := (f59.keep K62 (ninS (Ne.symm (hne13 _ Sfb1_13).1) (ninS (own_orne hd37 (own_orne hd24 (Ne.symm (hne13 _ Sfda7_13).1) Vs13.lt) f34.lt) nin0)))
  have f72 : Arv Z T62.heap sd13 kc13 .byte (Int32.ofNat lit0.length) (by8 lit0) (.int (0 : Int32)) := (f60.keep K62 (ninS (Ne.symm (hne13 _ Sfb1_13).2) (ninS (own_orne hd37 (own_orne hd24 (Ne.symm (hne13 _ Sfda7_13).2) As13.lt) f35.lt) nin0)))
  have f73 : Exa Z T62.heap sa47 "java/lang/String" := (Es47.keep K62)
  have f74 : Fld Z T62.heap sa47 "java/lang/String" "coder" "B" (.int (0 : Int32)) := (Cs47.keep K62 (ninS (Ne.symm (hne47 _ Sfb1_47).1) (ninS (Ne.symm (hne47 _ Sfda37_47).1) nin0)))
  have f75 : Fld Z T62.heap sa47 "java/lang/String" "value" "[B" (.ref sd47) := (Vs47.keep K62 (ninS (Ne.symm (hne47 _ Sfb1_47).1) (ninS (Ne.symm (hne47 _ Sfda37_47).1) nin0)))
  have f76 : Arv Z T62.heap sd47 kc47 .byte (Int32.ofNat lit1.length) (by8 lit1) (.int (0 : Int32)) := (As47.keep K62 (ninS (Ne.symm (hne47 _ Sfb1_47).2) (ninS (Ne.symm (hne47 _ Sfda37_47).2) nin0)))
  obtain ⟨sa77, T77, h77, k77, sd77, kc77, X77, e77, E77, hS77, hk77, hZ77, ho77, Es77, Cs77, Vs77, As77, la77, lb77, Cq77, hL77, hne77, st77⟩ := ldcCH X65 hx hZ47 ho47 (hw _ (List.mem_of_getElem? (i := 223) rfl)) (own_wS hw) e65 hS47 hk62 hEL (by simp [EL, consts_1]) CH62 (vs := by8 lit3) (z := Int32.ofNat lit3.length) ⟨by decide, rfl⟩ (by decide) (by decide) (g := (mkF m 37 #[.val (.ref me)] [(.ref b1)])) rfl (hb hby d3_37) (n := 0) (by decide) (by decide) (by decide) (by decide)
  have O77 : Old Z n0 h77 := O62.ext E77
  have Kp77 : Keep h0 h77 [] := Kp62.ext E77
  have Cl77 : CHr Z EL T47.vm T62.heap T77.vm h77 := Cq77
  have Sfb1_77 : Safe Z EL T77.vm h77 b1 := Cl77.safe Eb62.lt Sfb1_62
  have Sfda62_77 : Safe Z EL T77.vm h77 da62 := Cl77.safe Ab62.lt Sfda62_63
  have CR77 : CHr Z EL s.vm h0 T77.vm h77 := CR62.trans Cl77
  have CH77 := CR77.1
  have f78 : Exa Z h77 b1 "java/lang/StringBuilder" := (Eb62.ext E77)
  have f79 : Arv Z h77 da62 kd62 .byte (Int32.ofNat (grow (grow (grow 16 (([] : List Int32) ++ lit0).length) ((([] : List Int32) ++ lit0) ++ (decI (Int32.ofNat nn))).length) (((([] : List Int32) ++ lit0) ++ (decI (Int32.ofNat nn))) ++ lit1).length)) (by8 (((([] : List Int32) ++ lit0) ++ (decI (Int32.ofNat nn))) ++ lit1)) (.int (0 : Int32)) := (Ab62.ext E77)
  have f80 : Exa Z h77 me "com/example/savepoint/savepoint/AmqpMessage" := (f66.ext E77)
  have f81 : Fld Z h77 me "com/example/savepoint/savepoint/AmqpMessage" "body" "[B" (.ref bd) := (f67.ext E77)
  have f82 : Fld Z h77 me "com/example/savepoint/savepoint/AmqpMessage" "redelivered" "Z" (.int (0 : Int32)) := (f64.ext E77)
  have f83 : Arv Z h77 bd kb .byte (Int32.ofNat nn) [] (.int (0 : Int32)) := (f68.ext E77)
  have f84 : Fld Z h77 b1 "java/lang/AbstractStringBuilder" "value" "[B" (.ref da62) := (Vb62.ext E77)
  have f85 : Fld Z h77 b1 "java/lang/AbstractStringBuilder" "coder" "B" (.int (0 : Int32)) := (Cb62.ext E77)
  have f86 : Fld Z h77 b1 "java/lang/AbstractStringBuilder" "count" "I" (.int (Int32.ofNat (((([] : List Int32) ++ lit0) ++ (decI (Int32.ofNat nn))) ++ lit1).length)) := (Nb62.ext E77)
  have f87 : Exa Z h77 sa13 "java/lang/String" := (f69.ext E77)
  have f88 : Fld Z h77 sa13 "java/lang/String" "coder" "B" (.int (0 : Int32)) := (f70.ext E77)
  have f89 : Fld Z h77 sa13 "java/lang/String" "value" "[B" (.ref sd13) := (f71.ext E77)
  have f90 : Arv Z h77 sd13 kc13 .byte (Int32.ofNat lit0.length) (by8 lit0) (.int (0 : Int32)) := (f72.ext E77)
  have f91 : Exa Z h77 sa47 "java/lang/String" := (f73.ext E77)
  have f92 : Fld Z h77 sa47 "java/lang/String" "coder" "B" (.int (0 : Int32)) := (f74.ext E77)
  have f93 : Fld Z h77 sa47 "java/lang/String" "value" "[B" (.ref sd47) := (f75.ext E77)
  have f94 : Arv Z h77 sd47 kc47 .byte (Int32.ofNat lit1.length) (by8 lit1) (.int (0 : Int32)) := (f76.ext E77)
  have Iv95 := own_inv lit3 Iv61
  have Ln95 : ((((([] : List Int32) ++ lit0) ++ (decI (Int32.ofNat nn))) ++ lit1) ++ lit3).length ≤ 92 := (by have q := own_d2 hnn; simp only [List.length_append, List.length_nil, show lit0.length = 11 from rfl, show lit1.length = 6 from rfl, show lit2.length = 13 from rfl, show lit3.length = 0 from rfl] <;> omega)
  obtain ⟨cq96, kq96, q96a, q96b, q96c⟩ := isOf hZ77 e77 f78
  obtain ⟨_, _, ⟨T96, L96, k96, n96⟩, -, X96, ⟨Lc96, hQ96, l96, y96, z96⟩, st96⟩ := X77.virtualBack hx (y := (⟨"java/lang/StringBuilder", "append", "(Ljava/lang/String;)Ljava/lang/StringBuilder;"⟩ : MethodName)) (z := (⟨"java/lang/StringBuilder", "append", "(Ljava/lang/String;)Ljava/lang/StringBuilder;"⟩ : MethodName)) ho77 (mvT hZ77 (hw _ (List.mem_of_getElem? (i := 79) rfl))) (mvT hZ77 (hw _ (List.mem_of_getElem? (i := 80) rfl))) (notFace_of_selects (args := #[]) (mvT hZ77 (hw _ (List.mem_of_getElem? (i := 82) rfl)))) (mvT hZ77 (hw _ (List.mem_of_getElem? (i := 82) rfl))) (mvT hZ77 (hw _ (List.mem_of_getElem? (i := 81) rfl))) (by decide) (backOf (W := 0) (sb_sbS l Z a0 hw [] zc b1 da62 kd62 (grow (grow (grow 16 (([] : List Int32) ++ lit0).length) ((([] : List Int32) ++ lit0) ++ (decI (Int32.ofNat nn))).length) (((([] : List Int32) ++ lit0) ++ (decI (Int32.ofNat nn))) ++ lit1).length) (((([] : List Int32) ++ lit0) ++ (decI (Int32.ofNat nn))) ++ lit1) sa77 sd77 kc77 lit3 h77 n0 O77 hE ⟨f78, f84, f85, f86, f79⟩ ⟨Es77, Vs77, Cs77, As77⟩ Iv61.2 (Nat.le_trans (own_cap Iv61 Ln61) (by decide)) (own_cap Iv95 Ln95) (Ne.symm (hne77 _ Sfda62_77).2) gb1 gn62 (own_orne hd62 (own_orne hd37 (own_orne hd24 (Nat.ne_of_lt (Nat.lt_of_lt_of_le F1_count.lt gd7)) f22.lt) Nb24.lt) f56.lt)) hZ77 (hw _ (List.mem_of_getElem? (i := 83) rfl)) (hw _ (List.mem_of_getElem? (i := 62) rfl)) (by decide) (by decide)) q96a q96c (g := (mkF m 39 #[.val (.ref me)] [(.ref sa77), (.ref b1)])) rfl (by rw [hml]; rfl) (Steps.refl _) (argsL := [(.ref sa77)]) (rest := []) (lenOf pd_28Ljava2flang2fString3b29Ljava2flang2fStringBuilder3b rfl) rfl (by show 2 * 0 + _ ≤ _; exact Nat.le_of_eq rfl) (hb hby d3_39) (fun _ _ => ⟨rfl, e77, (by decide : 11 + 1 ≤ _), (by decide : 700 + 200 ≤ _)⟩)
  dsimp only [Pt.U, Pt.locs, Pt.cells, Pt.slots] at X96 l96 y96 z96 st96 hQ96
  rw [l96, y96, z96] at X96
  obtain ⟨rfl, N96q, K96, da96, kd96, Pb96, hd96⟩ := hQ96
  have N96 := Fr.app N62 N96q
  have gn96 : n0 ≤ da96 := by
    rcases hd96 with q | q
    · rw [q]; exact gn62
    · have q1 := O77.1; have q2 := O77.2.1; omega
  have gz96 : h0.size ≤ da96 := by
    rcases hd96 with q | q
    · rw [q]; exact gz62
    · exact Nat.le_trans Kp77.1 q
  have O96 : Old Z n0 T96.heap := O77.keep K96 (allS (P := (n0 ≤ ·)) gb1 (allS (P := (n0 ≤ ·)) gn62 all0))
  have Kp96 : Keep h0 T96.heap [] := Kp77.trans K96 (allS (P := (fun x => x ∈ [] ∨ h0.size ≤ x)) (Or.inr gs1) (allS (P := (fun x => x ∈ [] ∨ h0.size ≤ x)) (Or.inr gz62) all0))
  have Cl96 : CHr Z EL T77.vm h77 T77.vm T96.heap := CHr.keep K96 (sfS Sfb1_77 (sfS Sfda62_77 sf0)) CH77
  have Sfb1_96 : Safe Z EL T77.vm T96.heap b1 := Cl96.safe f78.lt Sfb1_77
  have Sfda62_96 : Safe Z EL T77.vm T96.heap da62 := Cl96.safe f79.lt Sfda62_77
  have CR96 : CHr Z EL s.vm h0 T77.vm T96.heap := CR77.trans Cl96
  have CH96 := CR96.1
  have hk96 : _ ≤ T96.heap.size := Nat.le_trans hk77 Cl96.2.1
  obtain ⟨Eb96, Vb96, Cb96, Nb96, Ab96⟩ := id Pb96
  have Sfda96_97 : Safe Z EL T77.vm T96.heap da96 := (hd96.elim (fun q => by rw [q]; exact Sfda62_96) (fun q => (Safe.keep K96 (sfS Sfb1_77 (sfS Sfda62_77 sf0)) CH77 (Safe.new q))))
  have f98 : Exa Z T96.heap me "com/example/savepoint/savepoint/AmqpMessage" := (f80.keep K96)
  have f99 : Fld Z T96.heap me "com/example/savepoint/savepoint/AmqpMessage" "body" "[B" (.ref bd) := (f81.keep K96 (ninS (Nat.ne_of_lt (Nat.lt_of_lt_of_le F2.lt (Nat.le_of_eq g1.symm))) (ninS (own_orne hd62 (own_orne hd37 (own_orne hd24 (Nat.ne_of_lt (Nat.lt_of_lt_of_le f5.lt gd7)) f18.lt) f31.lt) f52.lt) nin0)))
  have f100 : Fld Z T96.heap me "com/example/savepoint/savepoint/AmqpMessage" "redelivered" "Z" (.int (0 : Int32)) := (f82.keep K96 (ninS (Nat.ne_of_lt (Nat.lt_of_lt_of_le F2.lt (Nat.le_of_eq g1.symm))) (ninS (own_orne hd62 (own_orne hd37 (own_orne hd24 (Nat.ne_of_lt (Nat.lt_of_lt_of_le f5.lt gd7)) f18.lt) f31.lt) f52.lt) nin0)))
  have f101 : Arv Z T96.heap bd kb .byte (Int32.ofNat nn) [] (.int (0 : Int32)) := (f83.keep K96 (ninS (Nat.ne_of_lt (Nat.lt_of_lt_of_le Ab.lt (Nat.le_of_eq g1.symm))) (ninS (own_orne hd62 (own_orne hd37 (own_orne hd24 (Nat.ne_of_lt (Nat.lt_of_lt_of_le f6.lt gd7)) f19.lt) f28.lt) f53.lt) nin0)))
  have f102 : Exa Z T96.heap sa13 "java/lang/String" := (f87.keep K96)
  have f103 : Fld Z T96.heap sa13 "java/lang/String" "coder" "B" (.int (0 : Int32)) := (f88.keep K96 (ninS (Ne.symm (hne13 _ Sfb1_13).1) (ninS (own_orne hd62 (own_orne hd37 (own_orne hd24 (Ne.symm (hne13 _ Sfda7_13).1) Vs13.lt) f34.lt) f59.lt) nin0)))
  have f104 : Fld Z T96.heap sa13 "java/lang/String" "value" "[B" (.ref sd13) := (f89.keep K96 (ninS (Ne.symm (hne13 _ Sfb1_13).1) (ninS (own_orne hd62 (own_orne hd37 (own_orne hd24 (Ne.symm (hne13 _ Sfda7_13).1) Vs13.lt) f34.lt) f59.lt) nin0)))
  have f105 : Arv Z T96.heap sd13 kc13 .byte (Int32.ofNat lit0.length) (by8 lit0) (.int (0 : Int32)) := (f90.keep K96 (ninS (Ne.symm (hne13 _ Sfb1_13).2) (ninS (own_orne hd62 (own_orne hd37 (own_orne hd24 (Ne.symm (hne13 _ Sfda7_13).2) As13.lt) f35.lt) f60.lt) nin0)))
  have f106 : Exa Z T96.heap sa47 "java/lang/String" := (f91.keep K96)
  have f107 : Fld Z T96.heap sa47 "java/lang/String" "coder" "B" (.int (0 : Int32)) := (f92.keep K96 (ninS (Ne.symm (hne47 _ Sfb1_47).1) (ninS (own_orne hd62 (Ne.symm (hne47 _ Sfda37_47).1) Vs47.lt) nin0)))
  have f108 : Fld Z T96.heap sa47 "java/lang/String" "value" "[B" (.ref sd47) := (f93.keep K96 (ninS (Ne.symm (hne47 _ Sfb1_47).1) (ninS (own_orne hd62 (Ne.symm (hne47 _ Sfda37_47).1) Vs47.lt) nin0)))
  have f109 : Arv Z T96.heap sd47 kc47 .byte (Int32.ofNat lit1.length) (by8 lit1) (.int (0 : Int32)) := (f94.keep K96 (ninS (Ne.symm (hne47 _ Sfb1_47).2) (ninS (own_orne hd62 (Ne.symm (hne47 _ Sfda37_47).2) As47.lt) nin0)))
  have f110 : Exa Z T96.heap sa77 "java/lang/String" := (Es77.keep K96)
  have f111 : Fld Z T96.heap sa77 "java/lang/String" "coder" "B" (.int (0 : Int32)) := (Cs77.keep K96 (ninS (Ne.symm (hne77 _ Sfb1_77).1) (ninS (Ne.symm (hne77 _ Sfda62_77).1) nin0)))
  have f112 : Fld Z T96.heap sa77 "java/lang/String" "value" "[B" (.ref sd77) := (Vs77.keep K96 (ninS (Ne.symm (hne77 _ Sfb1_77).1) (ninS (Ne.symm (hne77 _ Sfda62_77).1) nin0)))
  have f113 : Arv Z T96.heap sd77 kc77 .byte (Int32.ofNat lit3.length) (by8 lit3) (.int (0 : Int32)) := (As77.keep K96 (ninS (Ne.symm (hne77 _ Sfb1_77).2) (ninS (Ne.symm (hne77 _ Sfda62_77).2) nin0)))
  obtain ⟨cq114, kq114, q114a, q114b, q114c⟩ := isOf hZ77 rfl Eb96
  obtain ⟨_, _, ⟨T114, L114, k114, n114⟩, -, X114, ⟨Lc114, hQ114, l114, y114, z114⟩, st114⟩ := X96.virtualBack hx (y := (⟨"java/lang/StringBuilder", "toString", "()Ljava/lang/String;"⟩ : MethodName)) (z := (⟨"java/lang/StringBuilder", "toString", "()Ljava/lang/String;"⟩ : MethodName)) ho77 (mvT hZ77 (hw _ (List.mem_of_getElem? (i := 176) rfl))) (mvT hZ77 (hw _ (List.mem_of_getElem? (i := 177) rfl))) (notFace_of_selects (args := #[]) (mvT hZ77 (hw _ (List.mem_of_getElem? (i := 179) rfl)))) (mvT hZ77 (hw _ (List.mem_of_getElem? (i := 179) rfl))) (mvT hZ77 (hw _ (List.mem_of_getElem? (i := 178) rfl))) (by decide) (backOf (W := 0) (sb_toString l Z a0 hw [] zc b1 da96 kd96 (grow (grow (grow (grow 16 (([] : List Int32) ++ lit0).length) ((([] : List Int32) ++ lit0) ++ (decI (Int32.ofNat nn))).length) (((([] : List Int32) ++ lit0) ++ (decI (Int32.ofNat nn))) ++ lit1).length) ((((([] : List Int32) ++ lit0) ++ (decI (Int32.ofNat nn))) ++ lit1) ++ lit3).length) ((((([] : List Int32) ++ lit0) ++ (decI (Int32.ofNat nn))) ++ lit1) ++ lit3) T96.heap n0 O96 hE ⟨Eb96, Vb96, Cb96, Nb96, Ab96⟩ (by have q := own_d2 hnn; simp only [List.length_append, List.length_nil, show lit0.length = 11 from rfl, show lit1.length = 6 from rfl, show lit2.length = 13 from rfl, show lit3.length = 0 from rfl]; unfold grow; (repeat' split) <;> omega) (own_cap Iv95 Ln95)) hZ77 (hw _ (List.mem_of_getElem? (i := 180) rfl)) (hw _ (List.mem_of_getElem? (i := 62) rfl)) (by decide) (by decide)) q114a q114c (g := (mkF m 42 #[.val (.ref me)] [(.ref b1)])) rfl (by rw [hml]; rfl) (Steps.refl _) (argsL := []) (rest := []) (lenOf pd_2829Ljava2flang2fString3b rfl) rfl (by show 2 * 0 + _ ≤ _; exact Nat.le_of_eq rfl) (hb hby d3_42) (fun _ _ => ⟨rfl, rfl, (by decide : 12 + 2 ≤ _), (by decide : 900 + 204 ≤ _)⟩)
  dsimp only [Pt.U, Pt.locs, Pt.cells, Pt.slots] at X114 l114 y114 z114 st114 hQ114
  rw [l114, y114, z114] at X114
  obtain ⟨x114, rfl, N114q, K114, ⟨t114, kx114, Ps114, gx114, gt114⟩⟩ := hQ114
  have N114 := Fr.app N96 N114q
  have gzx114 : h0.size ≤ x114 := Nat.le_trans Kp96.1 gx114
  have gnx114 : n0 ≤ x114 := by have q1 := O96.1; have q2 := O96.2.1; omega
  have gzt114 : h0.size ≤ t114 := Nat.le_trans Kp96.1 gt114
  have gnt114 : n0 ≤ t114 := by have q1 := O96.1; have q2 := O96.2.1; omega
  have O114 : Old Z n0 T114.heap := O96.keep K114 all0
  have Kp114 : Keep h0 T114.heap [] := Kp96.trans K114 all0
  have Cl114 : CHr Z EL T77.vm T96.heap T77.vm T114.heap := CHr.keep K114 sf0 CH96
  have Sfb1_114 : Safe Z EL T77.vm T114.heap b1 := Cl114.safe Eb96.lt Sfb1_96
  have Sfda96_114 : Safe Z EL T77.vm T114.heap da96 := Cl114.safe Ab96.lt Sfda96_97
  have CR114 : CHr Z EL s.vm h0 T77.vm T114.heap := CR96.trans Cl114
  have CH114 := CR114.1
  have hk114 : _ ≤ T114.heap.size := Nat.le_trans hk96 Cl114.2.1
  obtain ⟨Es115, Vs115, Cs115, As115⟩ := id Ps114
  obtain ⟨fs, hr, hrun, hended, hEnd⟩ := X114.leaveW hS77 hk114 (v := some (.ref x114)) (fun h => by rw [Bd.returns] at h; cases h)
  have hFin : CHr Z EL s.vm s.heap T114.vm T114.heap := by
    have q := CR114.trans (CHv.at X114 hZ77 hEL CH114)
    rw [hh]; exact q
  refine ⟨_, _, pre0 _ ?_, hrun, hended, _, _, rfl, ?_, hFin, hEnd⟩
  · show Steps p.tables e below (s₁.setTop (mkF m 0 #[.val (.ref me)] [])) _
    refine st1 _ ?_
    show Steps p.tables e below (T1.setTop (mkF m 3 #[.val (.ref me)] [(.ref b1)])) _
    refine XS.dup X1.here hx rfl (hb hby d3_3) rfl rfl ?_
    show Steps p.tables e below (T1.setTop (mkF m 4 #[.val (.ref me)] [(.ref b1), (.ref b1)])) _
    refine st7.trans ?_
    show Steps p.tables e below (T7.setTop (mkF m 7 #[.val (.ref me)] [(.ref b1)])) _
    refine st13 _ ?_
    show Steps p.tables e below (T13.setTop (mkF m 9 #[.val (.ref me)] [(.ref sa13), (.ref b1)])) _
    refine st24.trans ?_
    show Steps p.tables e below (T24.setTop (mkF m 12 #[.val (.ref me)] [(.ref b1)])) _
    refine XS.aloadN X24.here hx rfl (hb hby d3_12) rfl rfl ?_
    show Steps p.tables e below (T24.setTop (mkF m 13 #[.val (.ref me)] [(.ref me), (.ref b1)])) _
    refine st27 _ ?_
    show Steps p.tables e below (T27.setTop (mkF m 16 #[.val (.ref me)] [(.ref bd), (.ref b1)])) _
    refine X27.arraylength hx (by rw [e27]; exact A29.1) (State.isArrayOf_alike hZ13.alike A29.2.1) (g := (mkF m 16 #[.val (.ref me)] [(.ref bd), (.ref b1)])) rfl rfl (hb hby d3_16) _ ?_
    rw [len_of s29 n29]
    show Steps p.tables e below (T27.setTop (mkF m 17 #[.val (.ref me)] [(.int (Int32.ofNat nn)), (.ref b1)])) _
    refine st37.trans ?_
    show Steps p.tables e below (T37.setTop (mkF m 20 #[.val (.ref me)] [(.ref b1)])) _
    refine st47 _ ?_
    show Steps p.tables e below (T47.setTop (mkF m 22 #[.val (.ref me)] [(.ref sa47), (.ref b1)])) _
    refine st62.trans ?_
    show Steps p.tables e below (T62.setTop (mkF m 25 #[.val (.ref me)] [(.ref b1)])) _
    refine XS.aloadN X62.here hx rfl (hb hby d3_25) rfl rfl ?_
    show Steps p.tables e below (T62.setTop (mkF m 26 #[.val (.ref me)] [(.ref me), (.ref b1)])) _
    refine st65 _ ?_
    show Steps p.tables e below (T65.setTop (mkF m 29 #[.val (.ref me)] [(.int (0 : Int32)), (.ref b1)])) _
    refine XS.ifYes X65.here hx rfl (pc0 := 29) (pc' := 37) rfl (hb hby d3_29) rfl ((if0 _ _).trans (teq ((by decide) : (0 : Int32) = (0 : Int32))).1) (by decide) (by decide) ?_
    show Steps p.tables e below (T65.setTop (mkF m 37 #[.val (.ref me)] [(.ref b1)])) _
    refine st77 _ ?_
    show Steps p.tables e below (T77.setTop (mkF m 39 #[.val (.ref me)] [(.ref sa77), (.ref b1)])) _
    refine st96.trans ?_
    show Steps p.tables e below (T96.setTop (mkF m 42 #[.val (.ref me)] [(.ref b1)])) _
    refine st114.trans ?_
    show Steps p.tables e below (T114.setTop (mkF m 45 #[.val (.ref me)] [(.ref x114)])) _
    exact retOut X114 hx Bd.returns rfl (Or.inr (Or.inr (Or.inr (Or.inr ⟨rfl, rfl, rfl⟩)))) (hb hby d3_45) hr
  · exact by show Qx h0 n0 _ _ (some (.ref x114)) T114.heap _; exact ⟨_, rfl, N114, Kp114, _, _, Ps114, gzx114, gzt114⟩
set_option maxRecDepth 65536 in
set_option maxHeartbeats 40000000 in
theorem rm_init1 (l : Launch) (Z : State) (a0 : Array Value) (hw : ∀ d ∈ tables_1, d.before a0 Z = true) (ws : List Jvm.Cond) (me bd : Addr) (h0 : Heap) (n0 : Nat) (O : Old Z n0 h0) (E : Exa Z h0 me "com/example/savepoint/savepoint/AmqpMessage") (F1 : Fld Z h0 me "com/example/savepoint/savepoint/AmqpMessage" "body" "[B" .null) (F2 : Fld Z h0 me "com/example/savepoint/savepoint/AmqpMessage" "redelivered" "Z" (.int (0 : Int32))) (gm : n0 ≤ me) :
    MetFree l (⟨"com/example/savepoint/savepoint/AmqpMessage", "<init>", "([BZ)V"⟩ : MethodName) (head1 (Jvm.Cond.code (⟨"com/example/savepoint/savepoint/AmqpMessage", "<init>", "([BZ)V"⟩ : MethodName) prog_1_method_1_code 3 none :: ws) ({ frames := 1, cells := 0, slots := 0, locals := 12 } : Room)) (fun a U => a = #[(.ref me), (.ref bd), (.int (1 : Int32))] ∧ Z.Warmed39 U.vm ∧ U.heap = h0) (fun _ _ _ _ _ => True) (fun _ U o U' => ∃ v L, o = .returned v ∧ Qh none h0 n0 [me] (fun h => Fld Z h me "com/example/savepoint/savepoint/AmqpMessage" "body" "[B" (.ref bd) ∧ Fld Z h me "com/example/savepoint/savepoint/AmqpMessage" "redelivered" "Z" (.int (1 : Int32))) v U'.heap L ∧ FrameEnd U o U' L ({ frames := 1, cells := 0, slots := 0, locals := 12 } : Room).cells ({ frames := 1, cells := 0, slots := 0, locals := 12 } : Room).slots) := by
  refine MetFree.of_bodySF (plainFor_of_name pn_com_example_savepoint_savepoint_AmqpMessage) hisR ?_
  intro p e s m args below meth c s₁ Bd hml0 hP hK
  obtain ⟨rfl, hZ, hh⟩ := hP
  have hx := Bd.exec
  have hby := Bd.bytes
  have hml : c.maxLocals = 3 := hml0
  have hown : s.vm.findClass "com/example/savepoint/savepoint/AmqpMessage" = some m.cls := findClass_of_methodNamed Bd.named
  have hnm := (name_of_methodNamed Bd.named Bd.method).1
  have X0 : Stand p l e ({ frames := 1, cells := 0, slots := 0, locals := 12 } : Room) s m #[(.ref me), (.ref bd), (.int (1 : Int32))] below meth c s₁ [] 0 0 := Stand.of_body Bd
  have e0 : s₁.heap = h0 := by rw [← hh, Bd.state]; rfl
  have N0 := Fr.nil n0
  have pre0 : ∀ t, Steps p.tables e below (s₁.setTop (mkF m 0 #[.val (.ref me), .val (.ref bd), .val (.int (1 : Int32))] [])) t → Steps p.tables e below (s₁.setTop (entryFrame m #[(.ref me), (.ref bd), (.int (1 : Int32))] 3)) t := fun t k => castTop (ef_3_RRI m me bd (1 : Int32)) k
  obtain ⟨T1, X1, e1, st1⟩ := initO X0 hx hZ hown (hw _ (List.mem_of_getElem? (i := 48) rfl)) (hw _ (List.mem_of_getElem? (i := 49) rfl)) (hw _ (List.mem_of_getElem? (i := 50) rfl)) e0 (g := (mkF m 1 #[.val (.ref me), .val (.ref bd), .val (.int (1 : Int32))] [(.ref me)])) rfl (by rw [hml]; rfl) rfl (hb hby d1_1) (by decide) (W := 0) (by show 2 * 0 + _ ≤ _; exact Nat.le_of_eq rfl) (by decide)
  obtain ⟨T2, h2, X2, e2, W2, st2⟩ := putF X1 hx hZ hown (host := "") (Or.inl (hw _ (List.mem_of_getElem? (i := 51) rfl))) Via.refl e1 F1 E (Or.inr ⟨(hw _ (List.mem_of_getElem? (i := 52) rfl)), rfl, hnm⟩) (hw _ (List.mem_of_getElem? (i := 43) rfl)) (ty := (.array .byte)) (by decide) rfl rfl (g := (mkF m 6 #[.val (.ref me), .val (.ref bd), .val (.int (1 : Int32))] [(.ref bd), (.ref me)])) rfl rfl (hb hby d1_6)
  have N2 := Fr.snoc X2 N0 gm
  have O2 : Old Z n0 h2 := O.wr W2 gm
  have Kp2 : Keep h0 h2 [me] := (Keep.refl h0 [me]).wr W2 (Or.inl (by simp))
  have Fw2 : Fld Z h2 me "com/example/savepoint/savepoint/AmqpMessage" "body" "[B" (.ref bd) := F1.same W2
  have f3 : Exa Z h2 me "com/example/savepoint/savepoint/AmqpMessage" := (E.wr W2)
  have f4 : Fld Z h2 me "com/example/savepoint/savepoint/AmqpMessage" "redelivered" "Z" (.int (0 : Int32)) := (F2.other W2 (Or.inr (slot_ne (Or.inr (hw _ (List.mem_of_getElem? (i := 54) rfl))) (Or.inr (hw _ (List.mem_of_getElem? (i := 52) rfl))) (by decide) (t := .boolean) (t' := (.array .byte)) (by decide) (by decide))))
  obtain ⟨T5, h5, X5, e5, W5, st5⟩ := putFN X2 hx hZ hown (hw _ (List.mem_of_getElem? (i := 53) rfl)) Via.refl e2 f4 f3 (Or.inr ⟨(hw _ (List.mem_of_getElem? (i := 54) rfl)), rfl, hnm⟩) (hw _ (List.mem_of_getElem? (i := 43) rfl)) (ty := .boolean) (v' := (.int (1 : Int32))) (by decide) rfl (by decide) (g := (mkF m 11 #[.val (.ref me), .val (.ref bd), .val (.int (1 : Int32))] [(.int (1 : Int32)), (.ref me)])) rfl rfl (hb hby d1_11)
  have N5 := Fr.snoc X5 N2 gm
  have O5 : Old Z n0 h5 := O2.wr W5 gm
  have Kp5 : Keep h0 h5 [me] := Kp2.wr W5 (Or.inl (by simp))
  have Fw5 : Fld Z h5 me "com/example/savepoint/savepoint/AmqpMessage" "redelivered" "Z" (.int (1 : Int32)) := f4.same W5
  have f6 : Fld Z h5 me "com/example/savepoint/savepoint/AmqpMessage" "body" "[B" (.ref bd) := (Fw2.other W5 (Or.inr (slot_ne (Or.inr (hw _ (List.mem_of_getElem? (i := 52) rfl))) (Or.inr (hw _ (List.mem_of_getElem? (i := 54) rfl))) (by decide) (t := (.array .byte)) (t' := .boolean) (by decide) (by decide))))
  obtain ⟨fs, hr, hrun, hended, hW, hsame⟩ := X5.leave (v := none) (fun h => rfl)
  refine ⟨_, _, pre0 _ ?_, hrun, hended, _, _, rfl, ?_, ⟨_, rfl⟩, hW, hsame.mono (by decide) (by decide)⟩
  · show Steps p.tables e below (s₁.setTop (mkF m 0 #[.val (.ref me), .val (.ref bd), .val (.int (1 : Int32))] [])) _
    refine XS.aloadN X0.here hx rfl (hb hby d1_0) rfl rfl ?_
    show Steps p.tables e below (s₁.setTop (mkF m 1 #[.val (.ref me), .val (.ref bd), .val (.int (1 : Int32))] [(.ref me)])) _
    refine st1 _ ?_
    show Steps p.tables e below (T1.setTop (mkF m 4 #[.val (.ref me), .val (.ref bd), .val (.int (1 : Int32))] [])) _
    refine XS.aloadN X1.here hx rfl (hb hby d1_4) rfl rfl ?_
    show Steps p.tables e below (T1.setTop (mkF m 5 #[.val (.ref me), .val (.ref bd), .val (.int (1 : Int32))] [(.ref me)])) _
    refine XS.aloadN X1.here hx rfl (hb hby d1_5) rfl rfl ?_
    show Steps p.tables e below (T1.setTop (mkF m 6 #[.val (.ref me), .val (.ref bd), .val (.int (1 : Int32))] [(.ref bd), (.ref me)])) _
    refine st2 _ ?_
    show Steps p.tables e below (T2.setTop (mkF m 9 #[.val (.ref me), .val (.ref bd), .val (.int (1 : Int32))] [])) _
    refine XS.aloadN X2.here hx rfl (hb hby d1_9) rfl rfl ?_
    show Steps p.tables e below (T2.setTop (mkF m 10 #[.val (.ref me), .val (.ref bd), .val (.int (1 : Int32))] [(.ref me)])) _
    refine XS.iloadN X2.here hx rfl (hb hby d1_10) rfl ?_
    show Steps p.tables e below (T2.setTop (mkF m 11 #[.val (.ref me), .val (.ref bd), .val (.int (1 : Int32))] [(.int (1 : Int32)), (.ref me)])) _
    refine st5 _ ?_
    show Steps p.tables e below (T5.setTop (mkF m 14 #[.val (.ref me), .val (.ref bd), .val (.int (1 : Int32))] [])) _
    exact X5.returnOut hx Bd.returns (hb hby d1_14) hr
  · exact by show Qh _ h0 n0 _ _ none T5.heap _; rw [e5]; exact ⟨rfl, N5, Kp5, f6, Fw5⟩
theorem d3_32 : decode prog_1_method_4_code 32 = .ok (.ldc 36, 2) := by decide +kernel
theorem d3_34 : decode prog_1_method_4_code 34 = .ok (.goto 5, 3) := by decide +kernel
set_option maxRecDepth 65536 in
set_option maxHeartbeats 40000000 in
theorem rm_toS1 (l : Launch) (Z : State) (a0 : Array Value) (hw : ∀ d ∈ tables_1, d.before a0 Z = true) (ws : List Jvm.Cond) (zc : Int32) (me bd : Addr) (kb : ClassId) (nn : Nat) (ist d1 d2 : Addr) (h0 : Heap) (n0 : Nat) (O : Old Z n0 h0) (hE : EnvS Z zc) (hD : EnvD Z ist d1 d2) (Em : Exa Z h0 me "com/example/savepoint/savepoint/AmqpMessage") (F1 : Fld Z h0 me "com/example/savepoint/savepoint/AmqpMessage" "body" "[B" (.ref bd)) (F2 : Fld Z h0 me "com/example/savepoint/savepoint/AmqpMessage" "redelivered" "Z" (.int (1 : Int32))) (Ab : Arv Z h0 bd kb .byte (Int32.ofNat nn) [] (.int (0 : Int32))) (hnn : nn < 16) (hEL : EW Z a0 EL) :
    MetFree l (⟨"com/example/savepoint/savepoint/AmqpMessage", "toString", "()Ljava/lang/String;"⟩ : MethodName) (head1 (Jvm.Cond.code (⟨"com/example/savepoint/savepoint/AmqpMessage", "toString", "()Ljava/lang/String;"⟩ : MethodName) prog_1_method_4_code 1 (some (.object "java/lang/String")) :: ws) ({ frames := 6, cells := 14, slots := 1156, locals := 106 } : Room)) (fun a U => a = #[(.ref me)] ∧ Z.Warmed39 U.vm ∧ U.heap = h0 ∧ CHv Z EL U.vm h0) (fun _ _ _ _ _ => True) (fun _ U o U' => ∃ v L, o = .returned v ∧ Qx h0 n0 [] (fun q h => ∃ t k, Str Z h q t k (msg1 nn) ∧ h0.size ≤ q ∧ h0.size ≤ t) v U'.heap L ∧ CHr Z EL U.vm U.heap U'.vm U'.heap ∧ ReturnedEndW U o U' L ({ frames := 6, cells := 14, slots := 1156, locals := 106 } : Room).cells ({ frames := 6, cells := 14, slots := 1156, locals := 106 } : Room).slots) := by
  refine MetFree.of_bodySF (plainFor_of_name pn_com_example_savepoint_savepoint_AmqpMessage) hisR ?_
  intro p e s m args below meth c s₁ Bd hml0 hP hK
  obtain ⟨rfl, hZ, hh, hCH⟩ := hP
  have hx := Bd.exec
  have hby := Bd.bytes
  have hml : c.maxLocals = 1 := hml0
  have hown : s.vm.findClass "com/example/savepoint/savepoint/AmqpMessage" = some m.cls := findClass_of_methodNamed Bd.named
  have hnm := (name_of_methodNamed Bd.named Bd.method).1
  have X0 : Stand p l e ({ frames := 6, cells := 14, slots := 1156, locals := 106 } : Room) (s.setVm s.vm) m #[(.ref me)] below meth c s₁ [] 0 0 := Stand.of_body Bd
  have e0 : s₁.heap = h0 := by rw [← hh, Bd.state]; rfl
  have N0 := Fr.nil n0
  have pre0 : ∀ t, Steps p.tables e below (s₁.setTop (mkF m 0 #[.val (.ref me)] [])) t → Steps p.tables e below (s₁.setTop (entryFrame m #[(.ref me)] 1)) t := fun t k => castTop (ef_1_R m me) k
  have hS0 : s.Since s.vm 0 := (State.WarmedH.refl s).since 0
  have hk0 : 0 ≤ h0.size := Nat.zero_le _
  have CR0 : CHr Z EL s.vm h0 s.vm h0 := CHr.refl hCH
  obtain ⟨T1, h1, X1, e1, E1, A1, D1, -, st1⟩ := newO X0 hx hZ hown (hw _ (List.mem_of_getElem? (i := 60) rfl)) (hw _ (List.mem_of_getElem? (i := 61) rfl)) (hw _ (List.mem_of_getElem? (i := 62) rfl)) e0 (g := (mkF m 0 #[.val (.ref me)] [])) rfl (hb hby d3_0) (by decide) (by decide)
  obtain ⟨b1, g1⟩ : ∃ z, z = h0.size := ⟨_, rfl⟩
  rw [← g1] at A1 D1 st1
  have gb1 : n0 ≤ b1 := by have q1 := O.1; have q2 := O.2.1; omega
  have gs1 : h0.size ≤ b1 := by have q := ((Keep.refl h0 [])).1; omega
  have O1 : Old Z n0 h1 := O.ext E1
  have Kp1 : Keep h0 h1 [] := (Keep.refl h0 []).ext E1
  have Cl1 : CHr Z EL s.vm h0 s.vm h1 := CHr.ext E1 hCH
  have CR1 : CHr Z EL s.vm h0 s.vm h1 := CR0.trans Cl1
  have CH1 := CR1.1
  have hk1 : _ ≤ h1.size := Nat.le_trans hk0 Cl1.2.1
  have Sfb1_2 : Safe Z EL s.vm h1 b1 := Safe.ext E1 hCH (Safe.new (Nat.le_of_eq g1.symm))
  have F1_value : Fld Z h1 b1 "java/lang/AbstractStringBuilder" "value" "[B" .null := D1 (Or.inl (hw _ (List.mem_of_getElem? (i := 75) rfl))) (ty := (.array .byte)) (by decide)
  have F1_coder : Fld Z h1 b1 "java/lang/AbstractStringBuilder" "coder" "B" (.int (0 : Int32)) := D1 (Or.inl (hw _ (List.mem_of_getElem? (i := 77) rfl))) (ty := .byte) (by decide)
  have F1_count : Fld Z h1 b1 "java/lang/AbstractStringBuilder" "count" "I" (.int (0 : Int32)) := D1 (Or.inl (hw _ (List.mem_of_getElem? (i := 103) rfl))) (ty := .int) (by decide)
  have f3 : Exa Z h1 me "com/example/savepoint/savepoint/AmqpMessage" := (Em.ext E1)
  have f4 : Fld Z h1 me "com/example/savepoint/savepoint/AmqpMessage" "body" "[B" (.ref bd) := (F1.ext E1)
  have f5 : Fld Z h1 me "com/example/savepoint/savepoint/AmqpMessage" "redelivered" "Z" (.int (1 : Int32)) := (F2.ext E1)
  have f6 : Arv Z h1 bd kb .byte (Int32.ofNat nn) [] (.int (0 : Int32)) := (Ab.ext E1)
  obtain ⟨_, _, ⟨T7, L7, k7, n7⟩, -, X7, ⟨Lc7, hQ7, l7, y7, z7⟩, st7⟩ := X1.specialBack hx (y := (⟨"java/lang/StringBuilder", "<init>", "()V"⟩ : MethodName)) rfl hown (mvT hZ (hw _ (List.mem_of_getElem? (i := 63) rfl))) (mvT hZ (hw _ (List.mem_of_getElem? (i := 64) rfl))) (mvT hZ (hw _ (List.mem_of_getElem? (i := 65) rfl))) (by decide) (backOf (W := 1) (sb_sbInit l Z a0 hw [] zc b1 h1 n0 O1 hE A1 F1_value F1_coder F1_count gb1) hZ (hw _ (List.mem_of_getElem? (i := 65) rfl)) (hw _ (List.mem_of_getElem? (i := 62) rfl)) (by decide) (by decide)) (g := (mkF m 4 #[.val (.ref me)] [(.ref b1), (.ref b1)])) rfl (by rw [hml]; rfl) (Steps.refl _) (a := b1) (argsL := []) (rest := [(.ref b1)]) (lenOf pd_2829V rfl) rfl (by show 2 * 0 + _ ≤ _; exact Nat.le_of_eq rfl) (hb hby d3_4) (fun _ _ => ⟨rfl, e1, (by decide : 1 + 1 ≤ _), (by decide : 4 + 16 ≤ _)⟩)
  dsimp only [Pt.U, Pt.locs, Pt.cells, Pt.slots] at X7 l7 y7 z7 st7 hQ7
  rw [l7, y7, z7] at X7
  obtain ⟨rfl, N7q, K7, ⟨da7, kd7, Pb7, gd7⟩⟩ := hQ7
  have N7 := Fr.app N0 N7q
  have gz7 : h0.size ≤ da7 := Nat.le_trans Kp1.1 gd7
  have gn7 : n0 ≤ da7 := by have q1 := O1.1; have q2 := O1.2.1; omega
  have O7 : Old Z n0 T7.heap := O1.keep K7 (allS (P := (n0 ≤ ·)) gb1 all0)
  have Kp7 : Keep h0 T7.heap [] := Kp1.trans K7 (allS (P := (fun x => x ∈ [] ∨ h0.size ≤ x)) (Or.inr gs1) all0)
  have Cl7 : CHr Z EL s.vm h1 s.vm T7.heap := CHr.keep K7 (sfS Sfb1_2 sf0) CH1
  have Sfb1_7 : Safe Z EL s.vm T7.heap b1 := Cl7.safe A1.lt Sfb1_2
  have CR7 : CHr Z EL s.vm h0 s.vm T7.heap := CR1.trans Cl7
  have CH7 := CR7.1
  have hk7 : _ ≤ T7.heap.size := Nat.le_trans hk1 Cl7.2.1
  obtain ⟨Eb7, Vb7, Cb7, Nb7, Ab7⟩ := id Pb7
  have Sfda7_8 : Safe Z EL s.vm T7.heap da7 := (Safe.keep K7 (sfS Sfb1_2 sf0) CH1 (Safe.new gd7))
  have Iv7 : 16 ≤ 2 * ([] : List Int32).length + 16 ∧ ([] : List Int32).length ≤ 16 := by decide
  have f9 : Exa Z T7.heap me "com/example/savepoint/savepoint/AmqpMessage" := (f3.keep K7)
  have f10 : Fld Z T7.heap me "com/example/savepoint/savepoint/AmqpMessage" "body" "[B" (.ref bd) := (f4.keep K7 (ninS (Nat.ne_of_lt (Nat.lt_of_lt_of_le F2.lt (Nat.le_of_eq g1.symm))) nin0))
  have f11 : Fld Z T7.heap me "com/example/savepoint/savepoint/AmqpMessage" "redelivered" "Z" (.int (1 : Int32)) := (f5.keep K7 (ninS (Nat.ne_of_lt (Nat.lt_of_lt_of_le F2.lt (Nat.le_of_eq g1.symm))) nin0))
  have f12 : Arv Z T7.heap bd kb .byte (Int32.ofNat nn) [] (.int (0 : Int32)) := (f6.keep K7 (ninS (Nat.ne_of_lt (Nat.lt_of_lt_of_le Ab.lt (Nat.le_of_eq g1.symm))) nin0))
  obtain ⟨sa13, T13, h13, k13, sd13, kc13, X13, e13, E13, hS13, hk13, hZ13, ho13, Es13, Cs13, Vs13, As13, la13, lb13, Cq13, hL13, hne13, st13⟩ := ldcCH X7 hx hZ hown (hw _ (List.mem_of_getElem? (i := 78) rfl)) (own_wS hw) rfl hS0 hk7 hEL (by simp [EL, consts_1]) CH7 (vs := by8 lit0) (z := Int32.ofNat lit0.length) ⟨by decide, rfl⟩ (by decide) (by decide) (g := (mkF m 7 #[.val (.ref me)] [(.ref b1)])) rfl (hb hby d3_7) (n := 44) (by decide) (by decide) (by decide) (by decide)
  have O13 : Old Z n0 h13 := O7.ext E13
  have Kp13 : Keep h0 h13 [] := Kp7.ext E13
  have Cl13 : CHr Z EL s.vm T7.heap T13.vm h13 := Cq13
  have Sfb1_13 : Safe Z EL T13.vm h13 b1 := Cl13.safe Eb7.lt Sfb1_7
  have Sfda7_13 : Safe Z EL T13.vm h13 da7 := Cl13.safe Ab7.lt Sfda7_8
  have CR13 : CHr Z EL s.vm h0 T13.vm h13 := CR7.trans Cl13
  have CH13 := CR13.1
  have f14 : Exa Z h13 b1 "java/lang/StringBuilder" := (Eb7.ext E13)
  have f15 : Arv Z h13 da7 kd7 .byte (Int32.ofNat 16) (by8 []) (.int (0 : Int32)) := (Ab7.ext E13)
  have f16 : Exa Z h13 me "com/example/savepoint/savepoint/AmqpMessage" := (f9.ext E13)
  have f17 : Fld Z h13 me "com/example/savepoint/savepoint/AmqpMessage" "body" "[B" (.ref bd) := (f10.ext E13)
  have f18 : Fld Z h13 me "com/example/savepoint/savepoint/AmqpMessage" "redelivered" "Z" (.int (1 : Int32)) := (f11.ext E13)
  have f19 : Arv Z h13 bd kb .byte (Int32.ofNat nn) [] (.int (0 : Int32)) := (f12.ext E13)
  have f20 : Fld Z h13 b1 "java/lang/AbstractStringBuilder" "value" "[B" (.ref da7) := (Vb7.ext E13)
  have f21 : Fld Z h13 b1 "java/lang/AbstractStringBuilder" "coder" "B" (.int (0 : Int32)) := (Cb7.ext E13)
  have f22 : Fld Z h13 b1 "java/lang/AbstractStringBuilder" "count" "I" (.int (Int32.ofNat [].length)) := (Nb7.ext E13)
  have Iv23 := own_inv lit0 Iv7
  have Ln23 : (([] : List Int32) ++ lit0).length ≤ 92 := (by have q := own_d2 hnn; simp only [List.length_append, List.length_nil, show lit0.length = 11 from rfl, show lit1.length = 6 from rfl, show lit2.length = 13 from rfl, show lit3.length = 0 from rfl] <;> omega)
  obtain ⟨cq24, kq24, q24a, q24b, q24c⟩ := isOf hZ13 e13 f14
  obtain ⟨_, _, ⟨T24, L24, k24, n24⟩, -, X24, ⟨Lc24, hQ24, l24, y24, z24⟩, st24⟩ := X13.virtualBack hx (y := (⟨"java/lang/StringBuilder", "append", "(Ljava/lang/String;)Ljava/lang/StringBuilder;"⟩ : MethodName)) (z := (⟨"java/lang/StringBuilder", "append", "(Ljava/lang/String;)Ljava/lang/StringBuilder;"⟩ : MethodName)) ho13 (mvT hZ13 (hw _ (List.mem_of_getElem? (i := 79) rfl))) (mvT hZ13 (hw _ (List.mem_of_getElem? (i := 80) rfl))) (notFace_of_selects (args := #[]) (mvT hZ13 (hw _ (List.mem_of_getElem? (i := 82) rfl)))) (mvT hZ13 (hw _ (List.mem_of_getElem? (i := 82) rfl))) (mvT hZ13 (hw _ (List.mem_of_getElem? (i := 81) rfl))) (by decide) (backOf (W := 0) (sb_sbS l Z a0 hw [] zc b1 da7 kd7 16 ([] : List Int32) sa13 sd13 kc13 lit0 h13 n0 O13 hE ⟨f14, f20, f21, f22, f15⟩ ⟨Es13, Vs13, Cs13, As13⟩ Iv7.2 (Nat.le_trans (own_cap Iv7 (by decide)) (by decide)) (own_cap Iv23 Ln23) (Ne.symm (hne13 _ Sfda7_13).2) gb1 gn7 (Nat.ne_of_lt (Nat.lt_of_lt_of_le F1_count.lt gd7))) hZ13 (hw _ (List.mem_of_getElem? (i := 83) rfl)) (hw _ (List.mem_of_getElem? (i := 62) rfl)) (by decide) (by decide)) q24a q24c (g := (mkF m 9 #[.val (.ref me)] [(.ref sa13), (.ref b1)])) rfl (by rw [hml]; rfl) (Steps.refl _) (argsL := [(.ref sa13)]) (rest := []) (lenOf pd_28Ljava2flang2fString3b29Ljava2flang2fStringBuilder3b rfl) rfl (by show 2 * 0 + _ ≤ _; exact Nat.le_of_eq rfl) (hb hby d3_9) (fun _ _ => ⟨rfl, e13, (by decide : 4 + 1 ≤ _), (by decide : 68 + 200 ≤ _)⟩)
  dsimp only [Pt.U, Pt.locs, Pt.cells, Pt.slots] at X24 l24 y24 z24 st24 hQ24
  rw [l24, y24, z24] at X24
  obtain ⟨rfl, N24q, K24, da24, kd24, Pb24, hd24⟩ := hQ24
  have N24 := Fr.app N7 N24q
  have gn24 : n0 ≤ da24 := by
    rcases hd24 with q | q
    · rw [q]; exact gn7
    · have q1 := O13.1; have q2 := O13.2.1; omega
  have gz24 : h0.size ≤ da24 := by
    rcases hd24 with q | q
    · rw [q]; exact gz7
    · exact Nat.le_trans Kp13.1 q
  have O24 : Old Z n0 T24.heap := O13.keep K24 (allS (P := (n0 ≤ ·)) gb1 (allS (P := (n0 ≤ ·)) gn7 all0))
  have Kp24 : Keep h0 T24.heap [] := Kp13.trans K24 (allS (P := (fun x => x ∈ [] ∨ h0.size ≤ x)) (Or.inr gs1) (allS (P := (fun x => x ∈ [] ∨ h0.size ≤ x)) (Or.inr gz7) all0))
  have Cl24 : CHr Z EL T13.vm h13 T13.vm T24.heap := CHr.keep K24 (sfS Sfb1_13 (sfS Sfda7_13 sf0)) CH13
  have Sfb1_24 : Safe Z EL T13.vm T24.heap b1 := Cl24.safe f14.lt Sfb1_13
  have Sfda7_24 : Safe Z EL T13.vm T24.heap da7 := Cl24.safe f15.lt Sfda7_13
  have CR24 : CHr Z EL s.vm h0 T13.vm T24.heap := CR13.trans Cl24
  have CH24 := CR24.1
  have hk24 : _ ≤ T24.heap.size := Nat.le_trans hk13 Cl24.2.1
  obtain ⟨Eb24, Vb24, Cb24, Nb24, Ab24⟩ := id Pb24
  have Sfda24_25 : Safe Z EL T13.vm T24.heap da24 := (hd24.elim (fun q => by rw [q]; exact Sfda7_24) (fun q => (Safe.keep K24 (sfS Sfb1_13 (sfS Sfda7_13 sf0)) CH13 (Safe.new q))))
  have f26 : Fld Z T24.heap me "com/example/savepoint/savepoint/AmqpMessage" "body" "[B" (.ref bd) := (f17.keep K24 (ninS (Nat.ne_of_lt (Nat.lt_of_lt_of_le F2.lt (Nat.le_of_eq g1.symm))) (ninS (Nat.ne_of_lt (Nat.lt_of_lt_of_le f5.lt gd7)) nin0)))
  obtain ⟨T27, X27, e27, st27⟩ := getF X24 hx hZ13 ho13 (host := "") (Or.inl (hw _ (List.mem_of_getElem? (i := 51) rfl))) Via.refl rfl f26 (g := (mkF m 13 #[.val (.ref me)] [(.ref me), (.ref b1)])) rfl rfl (hb hby d3_13)
  have f28 : Arv Z T24.heap bd kb .byte (Int32.ofNat nn) [] (.int (0 : Int32)) := (f19.keep K24 (ninS (Nat.ne_of_lt (Nat.lt_of_lt_of_le Ab.lt (Nat.le_of_eq g1.symm))) (ninS (Nat.ne_of_lt (Nat.lt_of_lt_of_le f6.lt gd7)) nin0)))
  obtain ⟨cw29, A29, q29, s29, n29, H29, G29⟩ := id f28
  have f30 : Exa Z T24.heap me "com/example/savepoint/savepoint/AmqpMessage" := (f16.keep K24)
  have f31 : Fld Z T24.heap me "com/example/savepoint/savepoint/AmqpMessage" "redelivered" "Z" (.int (1 : Int32)) := (f18.keep K24 (ninS (Nat.ne_of_lt (Nat.lt_of_lt_of_le F2.lt (Nat.le_of_eq g1.symm))) (ninS (Nat.ne_of_lt (Nat.lt_of_lt_of_le f5.lt gd7)) nin0)))
  have f32 : Exa Z T24.heap sa13 "java/lang/String" := (Es13.keep K24)
  have f33 : Fld Z T24.heap sa13 "java/lang/String" "coder" "B" (.int (0 : Int32)) := (Cs13.keep K24 (ninS (Ne.symm (hne13 _ Sfb1_13).1) (ninS (Ne.symm (hne13 _ Sfda7_13).1) nin0)))
  have f34 : Fld Z T24.heap sa13 "java/lang/String" "value" "[B" (.ref sd13) := (Vs13.keep K24 (ninS (Ne.symm (hne13 _ Sfb1_13).1) (ninS (Ne.symm (hne13 _ Sfda7_13).1) nin0)))
  have f35 : Arv Z T24.heap sd13 kc13 .byte (Int32.ofNat lit0.length) (by8 lit0) (.int (0 : Int32)) := (As13.keep K24 (ninS (Ne.symm (hne13 _ Sfb1_13).2) (ninS (Ne.symm (hne13 _ Sfda7_13).2) nin0)))
  have Iv36 := own_inv (decI (Int32.ofNat nn)) Iv23
  have Ln36 : ((([] : List Int32) ++ lit0) ++ (decI (Int32.ofNat nn))).length ≤ 92 := (by have q := own_d2 hnn; simp only [List.length_append, List.length_nil, show lit0.length = 11 from rfl, show lit1.length = 6 from rfl, show lit2.length = 13 from rfl, show lit3.length = 0 from rfl] <;> omega)
  obtain ⟨cq37, kq37, q37a, q37b, q37c⟩ := isOf hZ13 e27 Eb24
  obtain ⟨_, _, ⟨T37, L37, k37, n37⟩, -, X37, ⟨Lc37, hQ37, l37, y37, z37⟩, st37⟩ := X27.virtualBack hx (y := (⟨"java/lang/StringBuilder", "append", "(I)Ljava/lang/StringBuilder;"⟩ : MethodName)) (z := (⟨"java/lang/StringBuilder", "append", "(I)Ljava/lang/StringBuilder;"⟩ : MethodName)) ho13 (mvT hZ13 (hw _ (List.mem_of_getElem? (i := 129) rfl))) (mvT hZ13 (hw _ (List.mem_of_getElem? (i := 130) rfl))) (notFace_of_selects (args := #[]) (mvT hZ13 (hw _ (List.mem_of_getElem? (i := 132) rfl)))) (mvT hZ13 (hw _ (List.mem_of_getElem? (i := 132) rfl))) (mvT hZ13 (hw _ (List.mem_of_getElem? (i := 131) rfl))) (by decide) (backOf (W := 0) (sb_sbI l Z a0 hw [] zc b1 da24 kd24 (grow 16 (([] : List Int32) ++ lit0).length) (([] : List Int32) ++ lit0) (Int32.ofNat nn) ist d1 d2 T24.heap n0 O24 hE ⟨Eb24, Vb24, Cb24, Nb24, Ab24⟩ hD Iv23.2 (Nat.le_trans (own_cap Iv23 Ln23) (by decide)) (own_cap Iv36 Ln36) gb1 gn24 (own_orne hd24 (Nat.ne_of_lt (Nat.lt_of_lt_of_le F1_count.lt gd7)) f22.lt)) hZ13 (hw _ (List.mem_of_getElem? (i := 133) rfl)) (hw _ (List.mem_of_getElem? (i := 62) rfl)) (by decide) (by decide)) q37a q37c (g := (mkF m 17 #[.val (.ref me)] [(.int (Int32.ofNat nn)), (.ref b1)])) rfl (by rw [hml]; rfl) (Steps.refl _) (argsL := [(.int (Int32.ofNat nn))]) (rest := []) (lenOf pd_28I29Ljava2flang2fStringBuilder3b rfl) rfl (by show 2 * 0 + _ ≤ _; exact Nat.le_of_eq rfl) (hb hby d3_17) (fun _ _ => ⟨rfl, e27, (by decide : 5 + 1 ≤ _), (by decide : 268 + 200 ≤ _)⟩)
  dsimp only [Pt.U, Pt.locs, Pt.cells, Pt.slots] at X37 l37 y37 z37 st37 hQ37
  rw [l37, y37, z37] at X37
  obtain ⟨rfl, N37q, K37, da37, kd37, Pb37, hd37⟩ := hQ37
  have N37 := Fr.app N24 N37q
  have gn37 : n0 ≤ da37 := by
    rcases hd37 with q | q
    · rw [q]; exact gn24
    · have q1 := O24.1; have q2 := O24.2.1; omega
  have gz37 : h0.size ≤ da37 := by
    rcases hd37 with q | q
    · rw [q]; exact gz24
    · exact Nat.le_trans Kp24.1 q
  have O37 : Old Z n0 T37.heap := O24.keep K37 (allS (P := (n0 ≤ ·)) gb1 (allS (P := (n0 ≤ ·)) gn24 all0))
  have Kp37 : Keep h0 T37.heap [] := Kp24.trans K37 (allS (P := (fun x => x ∈ [] ∨ h0.size ≤ x)) (Or.inr gs1) (allS (P := (fun x => x ∈ [] ∨ h0.size ≤ x)) (Or.inr gz24) all0))
  have Cl37 : CHr Z EL T13.vm T24.heap T13.vm T37.heap := CHr.keep K37 (sfS Sfb1_24 (sfS Sfda24_25 sf0)) CH24
  have Sfb1_37 : Safe Z EL T13.vm T37.heap b1 := Cl37.safe Eb24.lt Sfb1_24
  have Sfda24_37 : Safe Z EL T13.vm T37.heap da24 := Cl37.safe Ab24.lt Sfda24_25
  have CR37 : CHr Z EL s.vm h0 T13.vm T37.heap := CR24.trans Cl37
  have CH37 := CR37.1
  have hk37 : _ ≤ T37.heap.size := Nat.le_trans hk24 Cl37.2.1
  obtain ⟨Eb37, Vb37, Cb37, Nb37, Ab37⟩ := id Pb37
  have Sfda37_38 : Safe Z EL T13.vm T37.heap da37 := (hd37.elim (fun q => by rw [q]; exact Sfda24_37) (fun q => (Safe.keep K37 (sfS Sfb1_24 (sfS Sfda24_25 sf0)) CH24 (Safe.new q))))
  have f39 : Exa Z T37.heap me "com/example/savepoint/savepoint/AmqpMessage" := (f30.keep K37)
  have f40 : Fld Z T37.heap me "com/example/savepoint/savepoint/AmqpMessage" "body" "[B" (.ref bd) := (f26.keep K37 (ninS (Nat.ne_of_lt (Nat.lt_of_lt_of_le F2.lt (Nat.le_of_eq g1.symm))) (ninS (own_orne hd24 (Nat.ne_of_lt (Nat.lt_of_lt_of_le f5.lt gd7)) f18.lt) nin0)))
  have f41 : Fld Z T37.heap me "com/example/savepoint/savepoint/AmqpMessage" "redelivered" "Z" (.int (1 : Int32)) := (f31.keep K37 (ninS (Nat.ne_of_lt (Nat.lt_of_lt_of_le F2.lt (Nat.le_of_eq g1.symm))) (ninS (own_orne hd24 (Nat.ne_of_lt (Nat.lt_of_lt_of_le f5.lt gd7)) f18.lt) nin0)))
  have f42 : Arv Z T37.heap bd kb .byte (Int32.ofNat nn) [] (.int (0 : Int32)) := (f28.keep K37 (ninS (Nat.ne_of_lt (Nat.lt_of_lt_of_le Ab.lt (Nat.le_of_eq g1.symm))) (ninS (own_orne hd24 (Nat.ne_of_lt (Nat.lt_of_lt_of_le f6.lt gd7)) f19.lt) nin0)))
  have f43 : Exa Z T37.heap sa13 "java/lang/String" := (f32.keep K37)
  have f44 : Fld Z T37.heap sa13 "java/lang/String" "coder" "B" (.int (0 : Int32)) := (f33.keep K37 (ninS (Ne.symm (hne13 _ Sfb1_13).1) (ninS (own_orne hd24 (Ne.symm (hne13 _ Sfda7_13).1) Vs13.lt) nin0)))
  have f45 : Fld Z T37.heap sa13 "java/lang/String" "value" "[B" (.ref sd13) := (f34.keep K37 (ninS (Ne.symm (hne13 _ Sfb1_13).1) (ninS (own_orne hd24 (Ne.symm (hne13 _ Sfda7_13).1) Vs13.lt) nin0)))
  have f46 : Arv Z T37.heap sd13 kc13 .byte (Int32.ofNat lit0.length) (by8 lit0) (.int (0 : Int32)) := (f35.keep K37 (ninS (Ne.symm (hne13 _ Sfb1_13).2) (ninS (own_orne hd24 (Ne.symm (hne13 _ Sfda7_13).2) As13.lt) nin0)))
  obtain ⟨sa47, T47, h47, k47, sd47, kc47, X47, e47, E47, hS47, hk47, hZ47, ho47, Es47, Cs47, Vs47, As47, la47, lb47, Cq47, hL47, hne47, st47⟩ := ldcCH X37 hx hZ13 ho13 (hw _ (List.mem_of_getElem? (i := 151) rfl)) (own_wS hw) rfl hS13 hk37 hEL (by simp [EL, consts_1]) CH37 (vs := by8 lit1) (z := Int32.ofNat lit1.length) ⟨by decide, rfl⟩ (by decide) (by decide) (g := (mkF m 20 #[.val (.ref me)] [(.ref b1)])) rfl (hb hby d3_20) (n := 24) (by decide) (by decide) (by decide) (by decide)
  have O47 : Old Z n0 h47 := O37.ext E47
  have Kp47 : Keep h0 h47 [] := Kp37.ext E47
  have Cl47 : CHr Z EL T13.vm T37.heap T47.vm h47 := Cq47
  have Sfb1_47 : Safe Z EL T47.vm h47 b1 := Cl47.safe Eb37.lt Sfb1_37
  have Sfda37_47 : Safe Z EL T47.vm h47 da37 := Cl47.safe Ab37.lt Sfda37_38
  have CR47 : CHr Z EL s.vm h0 T47.vm h47 := CR37.trans Cl47
  have CH47 := CR47.1
  have f48 : Exa Z h47 b1 "java/lang/StringBuilder" := (Eb37.ext E47)
  have f49 : Arv Z h47 da37 kd37 .byte (Int32.ofNat (grow (grow 16 (([] : List Int32) ++ lit0).length) ((([] : List Int32) ++ lit0) ++ (decI (Int32.ofNat nn))).length)) (by8 ((([] : List Int32) ++ lit0) ++ (decI (Int32.ofNat nn)))) (.int (0 : Int32)) := (Ab37.ext E47)
  have f50 : Exa Z h47 me "com/example/savepoint/savepoint/AmqpMessage" := (f39.ext E47)
  have f51 : Fld Z h47 me "com/example/savepoint/savepoint/AmqpMessage" "body" "[B" (.ref bd) := (f40.ext E47)
  have f52 : Fld Z h47 me "com/example/savepoint/savepoint/AmqpMessage" "redelivered" "Z" (.int (1 : Int32)) := (f41.ext E47)
  have f53 : Arv Z h47 bd kb .byte (Int32.ofNat nn) [] (.int (0 : Int32)) := (f42.ext E47)
  have f54 : Fld Z h47 b1 "java/lang/AbstractStringBuilder" "value" "[B" (.ref da37) := (Vb37.ext E47)
  have f55 : Fld Z h47 b1 "java/lang/AbstractStringBuilder" "coder" "B" (.int (0 : Int32)) := (Cb37.ext E47)
  have f56 : Fld Z h47 b1 "java/lang/AbstractStringBuilder" "count" "I" (.int (Int32.ofNat ((([] : List Int32) ++ lit0) ++ (decI (Int32.ofNat nn))).length)) := (Nb37.ext E47)
  have f57 : Exa Z h47 sa13 "java/lang/String" := (f43.ext E47)
  have f58 : Fld Z h47 sa13 "java/lang/String" "coder" "B" (.int (0 : Int32)) := (f44.ext E47)
  have f59 : Fld Z h47 sa13 "java/lang/String" "value" "[B" (.ref sd13) := (f45.ext E47)
  have f60 : Arv Z h47 sd13 kc13 .byte (Int32.ofNat lit0.length) (by8 lit0) (.int (0 : Int32)) := (f46.ext E47)
  have Iv61 := own_inv lit1 Iv36
  have Ln61 : (((([] : List Int32) ++ lit0) ++ (decI (Int32.ofNat nn))) ++ lit1).length ≤ 92 := (by have q := own_d2 hnn; simp only [List.length_append, List.length_nil, show lit0.length = 11 from rfl, show lit1.length = 6 from rfl, show lit2.length = 13 from rfl, show lit3.length = 0 from rfl] <;> omega)
  obtain ⟨cq62, kq62, q62a, q62b, q62c⟩ := isOf hZ47 e47 f48
  obtain ⟨_, _, ⟨T62, L62, k62, n62⟩, -, X62, ⟨Lc62, hQ62, l62, y62, z62⟩, st62⟩ := X47.virtualBack hx (y := (⟨"java/lang/StringBuilder", "append", "(Ljava/lang/String;)Ljava/lang/StringBuilder;"⟩ : MethodName)) (z := (⟨"java/lang/StringBuilder", "append", "(Ljava/lang/String;)Ljava/lang/StringBuilder;"⟩ : MethodName)) ho47 (mvT hZ47 (hw _ (List.mem_of_getElem? (i := 79) rfl))) (mvT hZ47 (hw _ (List.mem_of_getElem? (i := 80) rfl))) (notFace_of_selects (args := #[]) (mvT hZ47 (hw _ (List.mem_of_getElem? (i := 82) rfl)))) (mvT hZ47 (hw _ (List.mem_of_getElem? (i := 82) rfl))) (mvT hZ47 (hw _ (List.mem_of_getElem? (i := 81) rfl))) (by decide) (backOf (W := 0) (sb_sbS l Z a0 hw [] zc b1 da37 kd37 (grow (grow 16 (([] : List Int32) ++ lit0).length) ((([] : List Int32) ++ lit0) ++ (decI (Int32.ofNat nn))).length) ((([] : List Int32) ++ lit0) ++ (decI (Int32.ofNat nn))) sa47 sd47 kc47 lit1 h47 n0 O47 hE ⟨f48, f54, f55, f56, f49⟩ ⟨Es47, Vs47, Cs47, As47⟩ Iv36.2 (Nat.le_trans (own_cap Iv36 Ln36) (by decide)) (own_cap Iv61 Ln61) (Ne.symm (hne47 _ Sfda37_47).2) gb1 gn37 (own_orne hd37 (own_orne hd24 (Nat.ne_of_lt (Nat.lt_of_lt_of_le F1_count.lt gd7)) f22.lt) Nb24.lt)) hZ47 (hw _ (List.mem_of_getElem? (i := 83) rfl)) (hw _ (List.mem_of_getElem? (i := 62) rfl)) (by decide) (by decide)) q62a q62c (g := (mkF m 22 #[.val (.ref me)] [(.ref sa47), (.ref b1)])) rfl (by rw [hml]; rfl) (Steps.refl _) (argsL := [(.ref sa47)]) (rest := []) (lenOf pd_28Ljava2flang2fString3b29Ljava2flang2fStringBuilder3b rfl) rfl (by show 2 * 0 + _ ≤ _; exact Nat.le_of_eq rfl) (hb hby d3_22) (fun _ _ => ⟨rfl, e47, (by decide : 8 + 1 ≤ _), (by decide : 496 + 200 ≤ _)⟩)
  dsimp only [Pt.U, Pt.locs, Pt.cells, Pt.slots] at X62 l62 y62 z62 st62 hQ62
  rw [l62, y62, z62] at X62
  obtain ⟨rfl, N62q, K62, da62, kd62, Pb62, hd62⟩ := hQ62
  have N62 := Fr.app N37 N62q
  have gn62 : n0 ≤ da62 := by
    rcases hd62 with q | q
    · rw [q]; exact gn37
    · have q1 := O47.1; have q2 := O47.2.1; omega
  have gz62 : h0.size ≤ da62 := by
    rcases hd62 with q | q
    · rw [q]; exact gz37
    · exact Nat.le_trans Kp47.1 q
  have O62 : Old Z n0 T62.heap := O47.keep K62 (allS (P := (n0 ≤ ·)) gb1 (allS (P := (n0 ≤ ·)) gn37 all0))
  have Kp62 : Keep h0 T62.heap [] := Kp47.trans K62 (allS (P := (fun x => x ∈ [] ∨ h0.size ≤ x)) (Or.inr gs1) (allS (P := (fun x => x ∈ [] ∨ h0.size ≤ x)) (Or.inr gz37) all0))
  have Cl62 : CHr Z EL T47.vm h47 T47.vm T62.heap := CHr.keep K62 (sfS Sfb1_47 (sfS Sfda37_47 sf0)) CH47
  have Sfb1_62 : Safe Z EL T47.vm T62.heap b1 := Cl62.safe f48.lt Sfb1_47
  have Sfda37_62 : Safe Z EL T47.vm T62.heap da37 := Cl62.safe f49.lt Sfda37_47
  have CR62 : CHr Z EL s.vm h0 T47.vm T62.heap := CR47.trans Cl62
  have CH62 := CR62.1
  have hk62 : _ ≤ T62.heap.size := Nat.le_trans hk47 Cl62.2.1
  obtain ⟨Eb62, Vb62, Cb62, Nb62, Ab62⟩ := id Pb62
  have Sfda62_63 : Safe Z EL T47.vm T62.heap da62 := (hd62.elim (fun q => by rw [q]; exact Sfda37_62) (fun q => (Safe.keep K62 (sfS Sfb1_47 (sfS Sfda37_47 sf0)) CH47 (Safe.new q))))
  have f64 : Fld Z T62.heap me "com/example/savepoint/savepoint/AmqpMessage" "redelivered" "Z" (.int (1 : Int32)) := (f52.keep K62 (ninS (Nat.ne_of_lt (Nat.lt_of_lt_of_le F2.lt (Nat.le_of_eq g1.symm))) (ninS (own_orne hd37 (own_orne hd24 (Nat.ne_of_lt (Nat.lt_of_lt_of_le f5.lt gd7)) f18.lt) f31.lt) nin0)))
  obtain ⟨T65, X65, e65, st65⟩ := getF X62 hx hZ47 ho47 (host := "") (Or.inl (hw _ (List.mem_of_getElem? (i := 53) rfl))) Via.refl rfl f64 (g := (mkF m 26 #[.val (.ref me)] [(.ref me), (.ref b1)])) rfl rfl (hb hby d3_26)
  have f66 : Exa Z T62.heap me "com/example/savepoint/savepoint/AmqpMessage" := (f50.keep K62)
  have f67 : Fld Z T62.heap me "com/example/savepoint/savepoint/AmqpMessage" "body" "[B" (.ref bd) := (f51.keep K62 (ninS (Nat.ne_of_lt (Nat.lt_of_lt_of_le F2.lt (Nat.le_of_eq g1.symm))) (ninS (own_orne hd37 (own_orne hd24 (Nat.ne_of_lt (Nat.lt_of_lt_of_le f5.lt gd7)) f18.lt) f31.lt) nin0)))
  have f68 : Arv Z T62.heap bd kb .byte (Int32.ofNat nn) [] (.int (0 : Int32)) := (f53.keep K62 (ninS (Nat.ne_of_lt (Nat.lt_of_lt_of_le Ab.lt (Nat.le_of_eq g1.symm))) (ninS (own_orne hd37 (own_orne hd24 (Nat.ne_of_lt (Nat.lt_of_lt_of_le f6.lt gd7)) f19.lt) f28.lt) nin0)))
  have f69 : Exa Z T62.heap sa13 "java/lang/String" := (f57.keep K62)
  have f70 : Fld Z T62.heap sa13 "java/lang/String" "coder" "B" (.int (0 : Int32)) := (f58.keep K62 (ninS (Ne.symm (hne13 _ Sfb1_13).1) (ninS (own_orne hd37 (own_orne hd24 (Ne.symm (hne13 _ Sfda7_13).1) Vs13.lt) f34.lt) nin0)))
  have f71 : Fld Z T62.heap sa13 "java/lang/String" "value" "[B" (.ref sd13) := (f59.keep K62 (ninS (Ne.symm (hne13 _ Sfb1_13).1) (ninS (own_orne hd37 (own_orne hd24 (Ne.symm (hne13 _ Sfda7_13).1) Vs13.lt) f34.lt) nin0)))
  have f72 : Arv Z T62.heap sd13 kc13 .byte (Int32.ofNat lit0.length) (by8 lit0) (.int (0 : Int32)) := (f60.keep K62 (ninS (Ne.symm (hne13 _ Sfb1_13).2) (ninS (own_orne hd37 (own_orne hd24 (Ne.symm (hne13 _ Sfda7_13).2) As13.lt) f35.lt) nin0)))
  have f73 : Exa Z T62.heap sa47 "java/lang/String" := (Es47.keep K62)
  have f74 : Fld Z T62.heap sa47 "java/lang/String" "coder" "B" (.int (0 : Int32)) := (Cs47.keep K62 (ninS (Ne.symm (hne47 _ Sfb1_47).1) (ninS (Ne.symm (hne47 _ Sfda37_47).1) nin0)))
  have f75 : Fld Z T62.heap sa47 "java/lang/String" "value" "[B" (.ref sd47) := (Vs47.keep K62 (ninS (Ne.symm (hne47 _ Sfb1_47).1) (ninS (Ne.symm (hne47 _ Sfda37_47).1) nin0)))
  have f76 : Arv Z T62.heap sd47 kc47 .byte (Int32.ofNat lit1.length) (by8 lit1) (.int (0 : Int32)) := (As47.keep K62 (ninS (Ne.symm (hne47 _ Sfb1_47).2) (ninS (Ne.symm (hne47 _ Sfda37_47).2) nin0)))
  obtain ⟨sa77, T77, h77, k77, sd77, kc77, X77, e77, E77, hS77, hk77, hZ77, ho77, Es77, Cs77, Vs77, As77, la77, lb77, Cq77, hL77, hne77, st77⟩ := ldcCH X65 hx hZ47 ho47 (hw _ (List.mem_of_getElem? (i := 175) rfl)) (own_wS hw) e65 hS47 hk62 hEL (by simp [EL, consts_1]) CH62 (vs := by8 lit2) (z := Int32.ofNat lit2.length) ⟨by decide, rfl⟩ (by decide) (by decide) (g := (mkF m 32 #[.val (.ref me)] [(.ref b1)])) rfl (hb hby d3_32) (n := 52) (by decide) (by decide) (by decide) (by decide)
  have O77 : Old Z n0 h77 := O62.ext E77
  have Kp77 : Keep h0 h77 [] := Kp62.ext E77
  have Cl77 : CHr Z EL T47.vm T62.heap T77.vm h77 := Cq77
  have Sfb1_77 : Safe Z EL T77.vm h77 b1 := Cl77.safe Eb62.lt Sfb1_62
  have Sfda62_77 : Safe Z EL T77.vm h77 da62 := Cl77.safe Ab62.lt Sfda62_63
  have CR77 : CHr Z EL s.vm h0 T77.vm h77 := CR62.trans Cl77
  have CH77 := CR77.1
  have f78 : Exa Z h77 b1 "java/lang/StringBuilder" := (Eb62.ext E77)
  have f79 : Arv Z h77 da62 kd62 .byte (Int32.ofNat (grow (grow (grow 16 (([] : List Int32) ++ lit0).length) ((([] : List Int32) ++ lit0) ++ (decI (Int32.ofNat nn))).length) (((([] : List Int32) ++ lit0) ++ (decI (Int32.ofNat nn))) ++ lit1).length)) (by8 (((([] : List Int32) ++ lit0) ++ (decI (Int32.ofNat nn))) ++ lit1)) (.int (0 : Int32)) := (Ab62.ext E77)
  have f80 : Exa Z h77 me "com/example/savepoint/savepoint/AmqpMessage" := (f66.ext E77)
  have f81 : Fld Z h77 me "com/example/savepoint/savepoint/AmqpMessage" "body" "[B" (.ref bd) := (f67.ext E77)
  have f82 : Fld Z h77 me "com/example/savepoint/savepoint/AmqpMessage" "redelivered" "Z" (.int (1 : Int32)) := (f64.ext E77)
  have f83 : Arv Z h77 bd kb .byte (Int32.ofNat nn) [] (.int (0 : Int32)) := (f68.ext E77)
  have f84 : Fld Z h77 b1 "java/lang/AbstractStringBuilder" "value" "[B" (.ref da62) := (Vb62.ext E77)
  have f85 : Fld Z h77 b1 "java/lang/AbstractStringBuilder" "coder" "B" (.int (0 : Int32)) := (Cb62.ext E77)
  have f86 : Fld Z h77 b1 "java/lang/AbstractStringBuilder" "count" "I" (.int (Int32.ofNat (((([] : List Int32) ++ lit0) ++ (decI (Int32.ofNat nn))) ++ lit1).length)) := (Nb62.ext E77)
  have f87 : Exa Z h77 sa13 "java/lang/String" := (f69.ext E77)
  have f88 : Fld Z h77 sa13 "java/lang/String" "coder" "B" (.int (0 : Int32)) := (f70.ext E77)
  have f89 : Fld Z h77 sa13 "java/lang/String" "value" "[B" (.ref sd13) := (f71.ext E77)
  have f90 : Arv Z h77 sd13 kc13 .byte (Int32.ofNat lit0.length) (by8 lit0) (.int (0 : Int32)) := (f72.ext E77)
  have f91 : Exa Z h77 sa47 "java/lang/String" := (f73.ext E77)
  have f92 : Fld Z h77 sa47 "java/lang/String" "coder" "B" (.int (0 : Int32)) := (f74.ext E77)
  have f93 : Fld Z h77 sa47 "java/lang/String" "value" "[B" (.ref sd47) := (f75.ext E77)
  have f94 : Arv Z h77 sd47 kc47 .byte (Int32.ofNat lit1.length) (by8 lit1) (.int (0 : Int32)) := (f76.ext E77)
  have Iv95 := own_inv lit2 Iv61
  have Ln95 : ((((([] : List Int32) ++ lit0) ++ (decI (Int32.ofNat nn))) ++ lit1) ++ lit2).length ≤ 92 := (by have q := own_d2 hnn; simp only [List.length_append, List.length_nil, show lit0.length = 11 from rfl, show lit1.length = 6 from rfl, show lit2.length = 13 from rfl, show lit3.length = 0 from rfl] <;> omega)
  obtain ⟨cq96, kq96, q96a, q96b, q96c⟩ := isOf hZ77 e77 f78
  obtain ⟨_, _, ⟨T96, L96, k96, n96⟩, -, X96, ⟨Lc96, hQ96, l96, y96, z96⟩, st96⟩ := X77.virtualBack hx (y := (⟨"java/lang/StringBuilder", "append", "(Ljava/lang/String;)Ljava/lang/StringBuilder;"⟩ : MethodName)) (z := (⟨"java/lang/StringBuilder", "append", "(Ljava/lang/String;)Ljava/lang/StringBuilder;"⟩ : MethodName)) ho77 (mvT hZ77 (hw _ (List.mem_of_getElem? (i := 79) rfl))) (mvT hZ77 (hw _ (List.mem_of_getElem? (i := 80) rfl))) (notFace_of_selects (args := #[]) (mvT hZ77 (hw _ (List.mem_of_getElem? (i := 82) rfl)))) (mvT hZ77 (hw _ (List.mem_of_getElem? (i := 82) rfl))) (mvT hZ77 (hw _ (List.mem_of_getElem? (i := 81) rfl))) (by decide) (backOf (W := 0) (sb_sbS l Z a0 hw [] zc b1 da62 kd62 (grow (grow (grow 16 (([] : List Int32) ++ lit0).length) ((([] : List Int32) ++ lit0) ++ (decI (Int32.ofNat nn))).length) (((([] : List Int32) ++ lit0) ++ (decI (Int32.ofNat nn))) ++ lit1).length) (((([] : List Int32) ++ lit0) ++ (decI (Int32.ofNat nn))) ++ lit1) sa77 sd77 kc77 lit2 h77 n0 O77 hE ⟨f78, f84, f85, f86, f79⟩ ⟨Es77, Vs77, Cs77, As77⟩ Iv61.2 (Nat.le_trans (own_cap Iv61 Ln61) (by decide)) (own_cap Iv95 Ln95) (Ne.symm (hne77 _ Sfda62_77).2) gb1 gn62 (own_orne hd62 (own_orne hd37 (own_orne hd24 (Nat.ne_of_lt (Nat.lt_of_lt_of_le F1_count.lt gd7)) f22.lt) Nb24.lt) f56.lt)) hZ77 (hw _ (List.mem_of_getElem? (i := 83) rfl)) (hw _ (List.mem_of_getElem? (i := 62) rfl)) (by decide) (by decide)) q96a q96c (g := (mkF m 39 #[.val (.ref me)] [(.ref sa77), (.ref b1)])) rfl (by rw [hml]; rfl) (Steps.refl _) (argsL := [(.ref sa77)]) (rest := []) (lenOf pd_28Ljava2flang2fString3b29Ljava2flang2fStringBuilder3b rfl) rfl (by show 2 * 0 + _ ≤ _; exact Nat.le_of_eq rfl) (hb hby d3_39) (fun _ _ => ⟨rfl, e77, (by decide : 11 + 1 ≤ _), (by decide : 752 + 200 ≤ _)⟩)
  dsimp only [Pt.U, Pt.locs, Pt.cells, Pt.slots] at X96 l96 y96 z96 st96 hQ96
  rw [l96, y96, z96] at X96
  obtain ⟨rfl, N96q, K96, da96, kd96, Pb96, hd96⟩ := hQ96
  have N96 := Fr.app N62 N96q
  have gn96 : n0 ≤ da96 := by
    rcases hd96 with q | q
    · rw [q]; exact gn62
    · have q1 := O77.1; have q2 := O77.2.1; omega
  have gz96 : h0.size ≤ da96 := by
    rcases hd96 with q | q
    · rw [q]; exact gz62
    · exact Nat.le_trans Kp77.1 q
  have O96 : Old Z n0 T96.heap := O77.keep K96 (allS (P := (n0 ≤ ·)) gb1 (allS (P := (n0 ≤ ·)) gn62 all0))
  have Kp96 : Keep h0 T96.heap [] := Kp77.trans K96 (allS (P := (fun x => x ∈ [] ∨ h0.size ≤ x)) (Or.inr gs1) (allS (P := (fun x => x ∈ [] ∨ h0.size ≤ x)) (Or.inr gz62) all0))
  have Cl96 : CHr Z EL T77.vm h77 T77.vm T96.heap := CHr.keep K96 (sfS Sfb1_77 (sfS Sfda62_77 sf0)) CH77
  have Sfb1_96 : Safe Z EL T77.vm T96.heap b1 := Cl96.safe f78.lt Sfb1_77
  have Sfda62_96 : Safe Z EL T77.vm T96.heap da62 := Cl96.safe f79.lt Sfda62_77
  have CR96 : CHr Z EL s.vm h0 T77.vm T96.heap := CR77.trans Cl96
  have CH96 := CR96.1
  have hk96 : _ ≤ T96.heap.size := Nat.le_trans hk77 Cl96.2.1
  obtain ⟨Eb96, Vb96, Cb96, Nb96, Ab96⟩ := id Pb96
  have Sfda96_97 : Safe Z EL T77.vm T96.heap da96 := (hd96.elim (fun q => by rw [q]; exact Sfda62_96) (fun q => (Safe.keep K96 (sfS Sfb1_77 (sfS Sfda62_77 sf0)) CH77 (Safe.new q))))
  have f98 : Exa Z T96.heap me "com/example/savepoint/savepoint/AmqpMessage" := (f80.keep K96)
  have f99 : Fld Z T96.heap me "com/example/savepoint/savepoint/AmqpMessage" "body" "[B" (.ref bd) := (f81.keep K96 (ninS (Nat.ne_of_lt (Nat.lt_of_lt_of_le F2.lt (Nat.le_of_eq g1.symm))) (ninS (own_orne hd62 (own_orne hd37 (own_orne hd24 (Nat.ne_of_lt (Nat.lt_of_lt_of_le f5.lt gd7)) f18.lt) f31.lt) f52.lt) nin0)))
  have f100 : Fld Z T96.heap me "com/example/savepoint/savepoint/AmqpMessage" "redelivered" "Z" (.int (1 : Int32)) := (f82.keep K96 (ninS (Nat.ne_of_lt (Nat.lt_of_lt_of_le F2.lt (Nat.le_of_eq g1.symm))) (ninS (own_orne hd62 (own_orne hd37 (own_orne hd24 (Nat.ne_of_lt (Nat.lt_of_lt_of_le f5.lt gd7)) f18.lt) f31.lt) f52.lt) nin0)))
  have f101 : Arv Z T96.heap bd kb .byte (Int32.ofNat nn) [] (.int (0 : Int32)) := (f83.keep K96 (ninS (Nat.ne_of_lt (Nat.lt_of_lt_of_le Ab.lt (Nat.le_of_eq g1.symm))) (ninS (own_orne hd62 (own_orne hd37 (own_orne hd24 (Nat.ne_of_lt (Nat.lt_of_lt_of_le f6.lt gd7)) f19.lt) f28.lt) f53.lt) nin0)))
  have f102 : Exa Z T96.heap sa13 "java/lang/String" := (f87.keep K96)
  have f103 : Fld Z T96.heap sa13 "java/lang/String" "coder" "B" (.int (0 : Int32)) := (f88.keep K96 (ninS (Ne.symm (hne13 _ Sfb1_13).1) (ninS (own_orne hd62 (own_orne hd37 (own_orne hd24 (Ne.symm (hne13 _ Sfda7_13).1) Vs13.lt) f34.lt) f59.lt) nin0)))
  have f104 : Fld Z T96.heap sa13 "java/lang/String" "value" "[B" (.ref sd13) := (f89.keep K96 (ninS (Ne.symm (hne13 _ Sfb1_13).1) (ninS (own_orne hd62 (own_orne hd37 (own_orne hd24 (Ne.symm (hne13 _ Sfda7_13).1) Vs13.lt) f34.lt) f59.lt) nin0)))
  have f105 : Arv Z T96.heap sd13 kc13 .byte (Int32.ofNat lit0.length) (by8 lit0) (.int (0 : Int32)) := (f90.keep K96 (ninS (Ne.symm (hne13 _ Sfb1_13).2) (ninS (own_orne hd62 (own_orne hd37 (own_orne hd24 (Ne.symm (hne13 _ Sfda7_13).2) As13.lt) f35.lt) f60.lt) nin0)))
  have f106 : Exa Z T96.heap sa47 "java/lang/String" := (f91.keep K96)
  have f107 : Fld Z T96.heap sa47 "java/lang/String" "coder" "B" (.int (0 : Int32)) := (f92.keep K96 (ninS (Ne.symm (hne47 _ Sfb1_47).1) (ninS (own_orne hd62 (Ne.symm (hne47 _ Sfda37_47).1) Vs47.lt) nin0)))
  have f108 : Fld Z T96.heap sa47 "java/lang/String" "value" "[B" (.ref sd47) := (f93.keep K96 (ninS (Ne.symm (hne47 _ Sfb1_47).1) (ninS (own_orne hd62 (Ne.symm (hne47 _ Sfda37_47).1) Vs47.lt) nin0)))
  have f109 : Arv Z T96.heap sd47 kc47 .byte (Int32.ofNat lit1.length) (by8 lit1) (.int (0 : Int32)) := (f94.keep K96 (ninS (Ne.symm (hne47 _ Sfb1_47).2) (ninS (own_orne hd62 (Ne.symm (hne47 _ Sfda37_47).2) As47.lt) nin0)))
  have f110 : Exa Z T96.heap sa77 "java/lang/String" := (Es77.keep K96)
  have f111 : Fld Z T96.heap sa77 "java/lang/String" "coder" "B" (.int (0 : Int32)) := (Cs77.keep K96 (ninS (Ne.symm (hne77 _ Sfb1_77).1) (ninS (Ne.symm (hne77 _ Sfda62_77).1) nin0)))
  have f112 : Fld Z T96.heap sa77 "java/lang/String" "value" "[B" (.ref sd77) := (Vs77.keep K96 (ninS (Ne.symm (hne77 _ Sfb1_77).1) (ninS (Ne.symm (hne77 _ Sfda62_77).1) nin0)))
  have f113 : Arv Z T96.heap sd77 kc77 .byte (Int32.ofNat lit2.length) (by8 lit2) (.int (0 : Int32)) := (As77.keep K96 (ninS (Ne.symm (hne77 _ Sfb1_77).2) (ninS (Ne.symm (hne77 _ Sfda62_77).2) nin0)))
  obtain ⟨cq114, kq114, q114a, q114b, q114c⟩ := isOf hZ77 rfl Eb96
  obtain ⟨_, _, ⟨T114, L114, k114, n114⟩, -, X114, ⟨Lc114, hQ114, l114, y114, z114⟩, st114⟩ := X96.virtualBack hx (y := (⟨"java/lang/StringBuilder", "toString", "()Ljava/lang/String;"⟩ : MethodName)) (z := (⟨"java/lang/StringBuilder", "toString", "()Ljava/lang/String;"⟩ : MethodName)) ho77 (mvT hZ77 (hw _ (List.mem_of_getElem? (i := 176) rfl))) (mvT hZ77 (hw _ (List.mem_of_getElem? (i := 177) rfl))) (notFace_of_selects (args := #[]) (mvT hZ77 (hw _ (List.mem_of_getElem? (i := 179) rfl)))) (mvT hZ77 (hw _ (List.mem_of_getElem? (i := 179) rfl))) (mvT hZ77 (hw _ (List.mem_of_getElem? (i := 178) rfl))) (by decide) (backOf (W := 0) (sb_toString l Z a0 hw [] zc b1 da96 kd96 (grow (grow (grow (grow 16 (([] : List Int32) ++ lit0).length) ((([] : List Int32) ++ lit0) ++ (decI (Int32.ofNat nn))).length) (((([] : List Int32) ++ lit0) ++ (decI (Int32.ofNat nn))) ++ lit1).length) ((((([] : List Int32) ++ lit0) ++ (decI (Int32.ofNat nn))) ++ lit1) ++ lit2).length) ((((([] : List Int32) ++ lit0) ++ (decI (Int32.ofNat nn))) ++ lit1) ++ lit2) T96.heap n0 O96 hE ⟨Eb96, Vb96, Cb96, Nb96, Ab96⟩ (by have q := own_d2 hnn; simp only [List.length_append, List.length_nil, show lit0.length = 11 from rfl, show lit1.length = 6 from rfl, show lit2.length = 13 from rfl, show lit3.length = 0 from rfl]; unfold grow; (repeat' split) <;> omega) (own_cap Iv95 Ln95)) hZ77 (hw _ (List.mem_of_getElem? (i := 180) rfl)) (hw _ (List.mem_of_getElem? (i := 62) rfl)) (by decide) (by decide)) q114a q114c (g := (mkF m 42 #[.val (.ref me)] [(.ref b1)])) rfl (by rw [hml]; rfl) (Steps.refl _) (argsL := []) (rest := []) (lenOf pd_2829Ljava2flang2fString3b rfl) rfl (by show 2 * 0 + _ ≤ _; exact Nat.le_of_eq rfl) (hb hby d3_42) (fun _ _ => ⟨rfl, rfl, (by decide : 12 + 2 ≤ _), (by decide : 952 + 204 ≤ _)⟩)
  dsimp only [Pt.U, Pt.locs, Pt.cells, Pt.slots] at X114 l114 y114 z114 st114 hQ114
  rw [l114, y114, z114] at X114
  obtain ⟨x114, rfl, N114q, K114, ⟨t114, kx114, Ps114, gx114, gt114⟩⟩ := hQ114
  have N114 := Fr.app N96 N114q
  have gzx114 : h0.size ≤ x114 := Nat.le_trans Kp96.1 gx114
  have gnx114 : n0 ≤ x114 := by have q1 := O96.1; have q2 := O96.2.1; omega
  have gzt114 : h0.size ≤ t114 := Nat.le_trans Kp96.1 gt114
  have gnt114 : n0 ≤ t114 := by have q1 := O96.1; have q2 := O96.2.1; omega
  have O114 : Old Z n0 T114.heap := O96.keep K114 all0
  have Kp114 : Keep h0 T114.heap [] := Kp96.trans K114 all0
  have Cl114 : CHr Z EL T77.vm T96.heap T77.vm T114.heap := CHr.keep K114 sf0 CH96
  have Sfb1_114 : Safe Z EL T77.vm T114.heap b1 := Cl114.safe Eb96.lt Sfb1_96
  have Sfda96_114 : Safe Z EL T77.vm T114.heap da96 := Cl114.safe Ab96.lt Sfda96_97
  have CR114 : CHr Z EL s.vm h0 T77.vm T114.heap := CR96.trans Cl114
  have CH114 := CR114.1
  have hk114 : _ ≤ T114.heap.size := Nat.le_trans hk96 Cl114.2.1
  obtain ⟨Es115, Vs115, Cs115, As115⟩ := id Ps114
  obtain ⟨fs, hr, hrun, hended, hEnd⟩ := X114.leaveW hS77 hk114 (v := some (.ref x114)) (fun h => by rw [Bd.returns] at h; cases h)
  have hFin : CHr Z EL s.vm s.heap T114.vm T114.heap := by
    have q := CR114.trans (CHv.at X114 hZ77 hEL CH114)
    rw [hh]; exact q
  refine ⟨_, _, pre0 _ ?_, hrun, hended, _, _, rfl, ?_, hFin, hEnd⟩
  · show Steps p.tables e below (s₁.setTop (mkF m 0 #[.val (.ref me)] [])) _
    refine st1 _ ?_
    show Steps p.tables e below (T1.setTop (mkF m 3 #[.val (.ref me)] [(.ref b1)])) _
    refine XS.dup X1.here hx rfl (hb hby d3_3) rfl rfl ?_
    show Steps p.tables e below (T1.setTop (mkF m 4 #[.val (.ref me)] [(.ref b1), (.ref b1)])) _
    refine st7.trans ?_
    show Steps p.tables e below (T7.setTop (mkF m 7 #[.val (.ref me)] [(.ref b1)])) _
    refine st13 _ ?_
    show Steps p.tables e below (T13.setTop (mkF m 9 #[.val (.ref me)] [(.ref sa13), (.ref b1)])) _
    refine st24.trans ?_
    show Steps p.tables e below (T24.setTop (mkF m 12 #[.val (.ref me)] [(.ref b1)])) _
    refine XS.aloadN X24.here hx rfl (hb hby d3_12) rfl rfl ?_
    show Steps p.tables e below (T24.setTop (mkF m 13 #[.val (.ref me)] [(.ref me), (.ref b1)])) _
    refine st27 _ ?_
    show Steps p.tables e below (T27.setTop (mkF m 16 #[.val (.ref me)] [(.ref bd), (.ref b1)])) _
    refine X27.arraylength hx (by rw [e27]; exact A29.1) (State.isArrayOf_alike hZ13.alike A29.2.1) (g := (mkF m 16 #[.val (.ref me)] [(.ref bd), (.ref b1)])) rfl rfl (hb hby d3_16) _ ?_
    rw [len_of s29 n29]
    show Steps p.tables e below (T27.setTop (mkF m 17 #[.val (.ref me)] [(.int (Int32.ofNat nn)), (.ref b1)])) _
    refine st37.trans ?_
    show Steps p.tables e below (T37.setTop (mkF m 20 #[.val (.ref me)] [(.ref b1)])) _
    refine st47 _ ?_
    show Steps p.tables e below (T47.setTop (mkF m 22 #[.val (.ref me)] [(.ref sa47), (.ref b1)])) _
    refine st62.trans ?_
    show Steps p.tables e below (T62.setTop (mkF m 25 #[.val (.ref me)] [(.ref b1)])) _
    refine XS.aloadN X62.here hx rfl (hb hby d3_25) rfl rfl ?_
    show Steps p.tables e below (T62.setTop (mkF m 26 #[.val (.ref me)] [(.ref me), (.ref b1)])) _
    refine st65 _ ?_
    show Steps p.tables e below (T65.setTop (mkF m 29 #[.val (.ref me)] [(.int (1 : Int32)), (.ref b1)])) _
    refine XS.ifNo X65.here hx rfl (hb hby d3_29) rfl ((if0 _ _).trans (feq ((by decide) : ¬ ((1 : Int32) = (0 : Int32)))).1) ?_
    show Steps p.tables e below (T65.setTop (mkF m 32 #[.val (.ref me)] [(.ref b1)])) _
    refine st77 _ ?_
    show Steps p.tables e below (T77.setTop (mkF m 34 #[.val (.ref me)] [(.ref sa77), (.ref b1)])) _
    refine XS.goto X77.here hx rfl (pc0 := 34) (pc' := 39) rfl (hb hby d3_34) (by decide) (by decide) ?_
    show Steps p.tables e below (T77.setTop (mkF m 39 #[.val (.ref me)] [(.ref sa77), (.ref b1)])) _
    refine st96.trans ?_
    show Steps p.tables e below (T96.setTop (mkF m 42 #[.val (.ref me)] [(.ref b1)])) _
    refine st114.trans ?_
    show Steps p.tables e below (T114.setTop (mkF m 45 #[.val (.ref me)] [(.ref x114)])) _
    exact retOut X114 hx Bd.returns rfl (Or.inr (Or.inr (Or.inr (Or.inr ⟨rfl, rfl, rfl⟩)))) (hb hby d3_45) hr
  · exact by show Qx h0 n0 _ _ (some (.ref x114)) T114.heap _; exact ⟨_, rfl, N114, Kp114, _, _, Ps114, gzx114, gzt114⟩
theorem pd_285bBZ29V : parseMethodDescriptor "([BZ)V" = some ⟨[(.array .byte), .boolean], none⟩ := by decide +kernel
theorem pd_28Ljava2flang2fObject3b29Z : parseMethodDescriptor "(Ljava/lang/Object;)Z" = some ⟨[(.object "java/lang/Object")], some .boolean⟩ := by decide +kernel
theorem ef_maxLocals_II (m : MethodId) (x0 : Int32) (x1 : Int32) : entryFrame m #[(.int x0), (.int x1)] maxLocals = mkF m 0 #[.val (.int x0), .val (.int x1), .unset, .unset, .unset, .unset, .unset, .unset, .unset, .unset] [] := by first | (simp [entryFrame, mkF, argsToLocals, Value.category, maxLocals]; done) | rfl
theorem pn_com_example_savepoint_savepoint_AmqpMessageToStringPinLaw : plainName "com/example/savepoint/savepoint/AmqpMessageToStringPinLaw" = true := by first | (simp [plainName, overriddenIn]; done) | decide +kernel
set_option maxRecDepth 65536 in
set_option maxHeartbeats 40000000 in
theorem rl_0 (l : Launch) (Z : State) (a0 : Array Value) (hw : ∀ d ∈ tables_1, d.before a0 Z = true) (ws : List Jvm.Cond) (zc p0 p1 : Int32) (ist d1 d2 : Addr) (nn : Nat) (h0 : Heap) (n0 : Nat) (O : Old Z n0 h0) (hE : EnvS Z zc) (hD : EnvD Z ist d1 d2) (hnn : nn < 16) (hp : p0 &&& (15 : Int32) = Int32.ofNat nn) (hc : (p1 &&& (1 : Int32)) = (0 : Int32)) (hEL : EW Z a0 EL) :
    MetFree l x (head1 (Jvm.Cond.code x code maxLocals ret :: ws) room_1) (fun a U => a = #[(.int p0), (.int p1)] ∧ Z.Warmed39 U.vm ∧ U.heap = h0 ∧ CHv Z EL U.vm h0) (fun _ _ _ _ _ => True) (fun _ U o U' => ∃ v L, o = .returned v ∧ Ql (some (.int (1 : Int32))) n0 v U'.heap L ∧ CHr Z EL U.vm U.heap U'.vm U'.heap ∧ ReturnedEndW U o U' L 104 37376) := by
  refine MetFree.of_bodySF (plainFor_of_name pn_com_example_savepoint_savepoint_AmqpMessageToStringPinLaw) hisR ?_
  intro p e s m args below meth c s₁ Bd hml0 hP hK
  obtain ⟨rfl, hZ, hh, hCH⟩ := hP
  have hx := Bd.exec
  have hby := Bd.bytes
  have hml : c.maxLocals = 10 := hml0
  have hown : s.vm.findClass "com/example/savepoint/savepoint/AmqpMessageToStringPinLaw" = some m.cls := findClass_of_methodNamed Bd.named
  have hnm := (name_of_methodNamed Bd.named Bd.method).1
  have X0 : Stand p l e room_1 (s.setVm s.vm) m #[(.int p0), (.int p1)] below meth c s₁ [] 0 0 := Stand.of_body Bd
  have e0 : s₁.heap = h0 := by rw [← hh, Bd.state]; rfl
  have N0 := Fr.nil n0
  have pre0 : ∀ t, Steps p.tables e below (s₁.setTop (mkF m 0 #[.val (.int p0), .val (.int p1), .unset, .unset, .unset, .unset, .unset, .unset, .unset, .unset] [])) t → Steps p.tables e below (s₁.setTop (entryFrame m #[(.int p0), (.int p1)] maxLocals)) t := fun t k => castTop (ef_maxLocals_II m p0 p1) k
  have hS0 : s.Since s.vm 0 := (State.WarmedH.refl s).since 0
  have hk0 : 0 ≤ h0.size := Nat.zero_le _
  have CR0 : CHr Z EL s.vm h0 s.vm h0 := CHr.refl hCH
  obtain ⟨T1, h1, k1, X1, e1, E1, A1, Ov1, st1⟩ := newR X0 hx hZ hown (hw _ (List.mem_of_getElem? (i := 0) rfl)) (hw _ (List.mem_of_getElem? (i := 1) rfl)) e0 (g := (mkF m 19 #[.val (.int p0), .val (.int p1), .val (.int (Int32.ofNat nn)), .val (.int (0 : Int32)), .unset, .unset, .unset, .unset, .unset, .unset] [(.int (16 : Int32))])) rfl (hb hby at_19) rfl (by decide) (cap := 16) (by decide) (by decide) (by decide) (by decide)
  obtain ⟨b1, g1⟩ : ∃ z, z = h0.size := ⟨_, rfl⟩
  rw [← g1] at A1 st1
  have gb1 : n0 ≤ b1 := by have q1 := O.1; have q2 := O.2.1; omega
  have gs1 : h0.size ≤ b1 := by have q := ((Keep.refl h0 [])).1; omega
  have V1 : Arv Z h1 b1 k1 (.object "java/lang/String") (16 : Int32) [.null, .null, .null, .null, .null, .null, .null, .null, .null, .null, .null, .null, .null, .null, .null, .null] .null := (Arv.new A1 (by decide)).pad (pad_rep [] .null 16)
  have O1 : Old Z n0 h1 := O.ext E1
  have Kp1 : Keep h0 h1 [] := (Keep.refl h0 []).ext E1
  have Cl1 : CHr Z EL s.vm h0 s.vm h1 := CHr.ext E1 hCH
  have CR1 : CHr Z EL s.vm h0 s.vm h1 := CR0.trans Cl1
  have CH1 := CR1.1
  have hk1 : _ ≤ h1.size := Nat.le_trans hk0 Cl1.2.1
  have Sfb1_2 : Safe Z EL s.vm h1 b1 := Safe.ext E1 hCH (Safe.new (Nat.le_of_eq g1.symm))
  obtain ⟨sa3, T3, h3, k3, sd3, kc3, X3, e3, E3, hS3, hk3, hZ3, ho3, Es3, Cs3, Vs3, As3, la3, lb3, Cq3, hL3, hne3, st3⟩ := ldcCH X1 hx hZ hown (hw _ (List.mem_of_getElem? (i := 2) rfl)) (own_wS hw) e1 hS0 hk1 hEL (by simp [EL, consts_1]) CH1 (vs := by8 lit4) (z := Int32.ofNat lit4.length) ⟨by decide, rfl⟩ (by decide) (by decide) (g := (mkF m 24 #[.val (.int p0), .val (.int p1), .val (.int (Int32.ofNat nn)), .val (.int (0 : Int32)), .unset, .unset, .unset, .unset, .unset, .unset] [(.int (0 : Int32)), (.ref b1), (.ref b1)])) rfl (hb hby at_24) (n := 72) (by decide) (by decide) (by decide) (by decide)
  have O3 : Old Z n0 h3 := O1.ext E3
  have Kp3 : Keep h0 h3 [] := Kp1.ext E3
  have Cl3 : CHr Z EL s.vm h1 T3.vm h3 := Cq3
  have Sfb1_3 : Safe Z EL T3.vm h3 b1 := Cl3.safe V1.lt Sfb1_2
  have CR3 : CHr Z EL s.vm h0 T3.vm h3 := CR1.trans Cl3
  have CH3 := CR3.1
  have Ls3 : Str Z h3 sa3 sd3 kc3 lit4 := ⟨Es3, Vs3, Cs3, As3⟩
  have f4 : Arv Z h3 b1 k1 (.object "java/lang/String") (16 : Int32) [.null, .null, .null, .null, .null, .null, .null, .null, .null, .null, .null, .null, .null, .null, .null, .null] .null := (V1.ext E3)
  obtain ⟨cw5, A5, q5, s5, n5, H5, G5⟩ := id f4
  obtain ⟨T6, h6, X6, e6, W6, st6⟩ := stR X3 hx hZ3 e3 A5 (j := (0 : Int32)) (inb_of s5 ⟨by decide, by decide⟩) rfl (Sto.ofV A5 q5 Ov1 (Ins.self Ls3.1)) (g := (mkF m 26 #[.val (.int p0), .val (.int p1), .val (.int (Int32.ofNat nn)), .val (.int (0 : Int32)), .unset, .unset, .unset, .unset, .unset, .unset] [(.ref sa3), (.int (0 : Int32)), (.ref b1), (.ref b1)])) rfl rfl (hb hby at_26)
  have V6 : Arv Z h6 b1 k1 (.object "java/lang/String") (16 : Int32) [(.ref sa3), .null, .null, .null, .null, .null, .null, .null, .null, .null, .null, .null, .null, .null, .null, .null] .null := Arv.set A5 q5 s5 n5 H5 G5 rfl W6 0 rfl (Nat.le_of_ble_eq_true rfl)
  have N6 := Fr.snoc X6 N0 gb1
  have O6 : Old Z n0 h6 := O3.wr W6 gb1
  have Kp6 : Keep h0 h6 [] := Kp3.wr W6 (Or.inr gs1)
  have Cl6 : CHr Z EL T3.vm h3 T3.vm h6 := CHr.wr W6 Sfb1_3 CH3
  have Sfb1_6 : Safe Z EL T3.vm h6 b1 := Cl6.safe f4.lt Sfb1_3
  have CR6 : CHr Z EL s.vm h0 T3.vm h6 := CR3.trans Cl6
  have CH6 := CR6.1
  have hk6 : _ ≤ h6.size := Nat.le_trans hk3 Cl6.2.1
  obtain ⟨sa7, T7, h7, k7, sd7, kc7, X7, e7, E7, hS7, hk7, hZ7, ho7, Es7, Cs7, Vs7, As7, la7, lb7, Cq7, hL7, hne7, st7⟩ := ldcCH X6 hx hZ3 ho3 (hw _ (List.mem_of_getElem? (i := 11) rfl)) (own_wS hw) e6 hS3 hk6 hEL (by simp [EL, consts_1]) CH6 (vs := by8 lit5) (z := Int32.ofNat lit5.length) ⟨by decide, rfl⟩ (by decide) (by decide) (g := (mkF m 29 #[.val (.int p0), .val (.int p1), .val (.int (Int32.ofNat nn)), .val (.int (0 : Int32)), .unset, .unset, .unset, .unset, .unset, .unset] [(.int (1 : Int32)), (.ref b1), (.ref b1)])) rfl (hb hby at_29) (n := 72) (by decide) (by decide) (by decide) (by decide)
  have O7 : Old Z n0 h7 := O6.ext E7
  have Kp7 : Keep h0 h7 [] := Kp6.ext E7
  have Cl7 : CHr Z EL T3.vm h6 T7.vm h7 := Cq7
  have Sfb1_7 : Safe Z EL T7.vm h7 b1 := Cl7.safe V6.lt Sfb1_6
  have CR7 : CHr Z EL s.vm h0 T7.vm h7 := CR6.trans Cl7
  have CH7 := CR7.1
  have Ls7 : Str Z h7 sa7 sd7 kc7 lit5 := ⟨Es7, Vs7, Cs7, As7⟩
  have f8 : Arv Z h7 b1 k1 (.object "java/lang/String") (16 : Int32) [(.ref sa3), .null, .null, .null, .null, .null, .null, .null, .null, .null, .null, .null, .null, .null, .null, .null] .null := (V6.ext E7)
  obtain ⟨cw9, A9, q9, s9, n9, H9, G9⟩ := id f8
  obtain ⟨T10, h10, X10, e10, W10, st10⟩ := stR X7 hx hZ7 e7 A9 (j := (1 : Int32)) (inb_of s9 ⟨by decide, by decide⟩) rfl (Sto.ofV A9 q9 Ov1 (Ins.self Ls7.1)) (g := (mkF m 31 #[.val (.int p0), .val (.int p1), .val (.int (Int32.ofNat nn)), .val (.int (0 : Int32)), .unset, .unset, .unset, .unset, .unset, .unset] [(.ref sa7), (.int (1 : Int32)), (.ref b1), (.ref b1)])) rfl rfl (hb hby at_31)
  have V10 : Arv Z h10 b1 k1 (.object "java/lang/String") (16 : Int32) [(.ref sa3), (.ref sa7), .null, .null, .null, .null, .null, .null, .null, .null, .null, .null, .null, .null, .null, .null] .null := Arv.set A9 q9 s9 n9 H9 G9 rfl W10 1 rfl (Nat.le_of_ble_eq_true rfl)
  have N10 := Fr.snoc X10 N6 gb1
  have O10 : Old Z n0 h10 := O7.wr W10 gb1
  have Kp10 : Keep h0 h10 [] := Kp7.wr W10 (Or.inr gs1)
  have Cl10 : CHr Z EL T7.vm h7 T7.vm h10 := CHr.wr W10 Sfb1_7 CH7
  have Sfb1_10 : Safe Z EL T7.vm h10 b1 := Cl10.safe f8.lt Sfb1_7
  have CR10 : CHr Z EL s.vm h0 T7.vm h10 := CR7.trans Cl10
  have CH10 := CR10.1
  have hk10 : _ ≤ h10.size := Nat.le_trans hk7 Cl10.2.1
  obtain ⟨sa11, T11, h11, k11, sd11, kc11, X11, e11, E11, hS11, hk11, hZ11, ho11, Es11, Cs11, Vs11, As11, la11, lb11, Cq11, hL11, hne11, st11⟩ := ldcCH X10 hx hZ7 ho7 (hw _ (List.mem_of_getElem? (i := 12) rfl)) (own_wS hw) e10 hS7 hk10 hEL (by simp [EL, consts_1]) CH10 (vs := by8 lit6) (z := Int32.ofNat lit6.length) ⟨by decide, rfl⟩ (by decide) (by decide) (g := (mkF m 34 #[.val (.int p0), .val (.int p1), .val (.int (Int32.ofNat nn)), .val (.int (0 : Int32)), .unset, .unset, .unset, .unset, .unset, .unset] [(.int (2 : Int32)), (.ref b1), (.ref b1)])) rfl (hb hby at_34) (n := 72) (by decide) (by decide) (by decide) (by decide)
  have O11 : Old Z n0 h11 := O10.ext E11
  have Kp11 : Keep h0 h11 [] := Kp10.ext E11
  have Cl11 : CHr Z EL T7.vm h10 T11.vm h11 := Cq11
  have Sfb1_11 : Safe Z EL T11.vm h11 b1 := Cl11.safe V10.lt Sfb1_10
  have CR11 : CHr Z EL s.vm h0 T11.vm h11 := CR10.trans Cl11
  have CH11 := CR11.1
  have Ls11 : Str Z h11 sa11 sd11 kc11 lit6 := ⟨Es11, Vs11, Cs11, As11⟩
  have f12 : Arv Z h11 b1 k1 (.object "java/lang/String") (16 : Int32) [(.ref sa3), (.ref sa7), .null, .null, .null, .null, .null, .null, .null, .null, .null, .null, .null, .null, .null, .null] .null := (V10.ext E11)
  obtain ⟨cw13, A13, q13, s13, n13, H13, G13⟩ := id f12
  obtain ⟨T14, h14, X14, e14, W14, st14⟩ := stR X11 hx hZ11 e11 A13 (j := (2 : Int32)) (inb_of s13 ⟨by decide, by decide⟩) rfl (Sto.ofV A13 q13 Ov1 (Ins.self Ls11.1)) (g := (mkF m 36 #[.val (.int p0), .val (.int p1), .val (.int (Int32.ofNat nn)), .val (.int (0 : Int32)), .unset, .unset, .unset, .unset, .unset, .unset] [(.ref sa11), (.int (2 : Int32)), (.ref b1), (.ref b1)])) rfl rfl (hb hby at_36)
  have V14 : Arv Z h14 b1 k1 (.object "java/lang/String") (16 : Int32) [(.ref sa3), (.ref sa7), (.ref sa11), .null, .null, .null, .null, .null, .null, .null, .null, .null, .null, .null, .null, .null] .null := Arv.set A13 q13 s13 n13 H13 G13 rfl W14 2 rfl (Nat.le_of_ble_eq_true rfl)
  have N14 := Fr.snoc X14 N10 gb1
  have O14 : Old Z n0 h14 := O11.wr W14 gb1
  have Kp14 : Keep h0 h14 [] := Kp11.wr W14 (Or.inr gs1)
  have Cl14 : CHr Z EL T11.vm h11 T11.vm h14 := CHr.wr W14 Sfb1_11 CH11
  have Sfb1_14 : Safe Z EL T11.vm h14 b1 := Cl14.safe f12.lt Sfb1_11
  have CR14 : CHr Z EL s.vm h0 T11.vm h14 := CR11.trans Cl14
  have CH14 := CR14.1
  have hk14 : _ ≤ h14.size := Nat.le_trans hk11 Cl14.2.1
  obtain ⟨sa15, T15, h15, k15, sd15, kc15, X15, e15, E15, hS15, hk15, hZ15, ho15, Es15, Cs15, Vs15, As15, la15, lb15, Cq15, hL15, hne15, st15⟩ := ldcCH X14 hx hZ11 ho11 (hw _ (List.mem_of_getElem? (i := 13) rfl)) (own_wS hw) e14 hS11 hk14 hEL (by simp [EL, consts_1]) CH14 (vs := by8 lit7) (z := Int32.ofNat lit7.length) ⟨by decide, rfl⟩ (by decide) (by decide) (g := (mkF m 39 #[.val (.int p0), .val (.int p1), .val (.int (Int32.ofNat nn)), .val (.int (0 : Int32)), .unset, .unset, .unset, .unset, .unset, .unset] [(.int (3 : Int32)), (.ref b1), (.ref b1)])) rfl (hb hby at_39) (n := 72) (by decide) (by decide) (by decide) (by decide)
  have O15 : Old Z n0 h15 := O14.ext E15
  have Kp15 : Keep h0 h15 [] := Kp14.ext E15
  have Cl15 : CHr Z EL T11.vm h14 T15.vm h15 := Cq15
  have Sfb1_15 : Safe Z EL T15.vm h15 b1 := Cl15.safe V14.lt Sfb1_14
  have CR15 : CHr Z EL s.vm h0 T15.vm h15 := CR14.trans Cl15
  have CH15 := CR15.1
  have Ls15 : Str Z h15 sa15 sd15 kc15 lit7 := ⟨Es15, Vs15, Cs15, As15⟩
  have f16 : Arv Z h15 b1 k1 (.object "java/lang/String") (16 : Int32) [(.ref sa3), (.ref sa7), (.ref sa11), .null, .null, .null, .null, .null, .null, .null, .null, .null, .null, .null, .null, .null] .null := (V14.ext E15)
  obtain ⟨cw17, A17, q17, s17, n17, H17, G17⟩ := id f16
  obtain ⟨T18, h18, X18, e18, W18, st18⟩ := stR X15 hx hZ15 e15 A17 (j := (3 : Int32)) (inb_of s17 ⟨by decide, by decide⟩) rfl (Sto.ofV A17 q17 Ov1 (Ins.self Ls15.1)) (g := (mkF m 41 #[.val (.int p0), .val (.int p1), .val (.int (Int32.ofNat nn)), .val (.int (0 : Int32)), .unset, .unset, .unset, .unset, .unset, .unset] [(.ref sa15), (.int (3 : Int32)), (.ref b1), (.ref b1)])) rfl rfl (hb hby at_41)
  have V18 : Arv Z h18 b1 k1 (.object "java/lang/String") (16 : Int32) [(.ref sa3), (.ref sa7), (.ref sa11), (.ref sa15), .null, .null, .null, .null, .null, .null, .null, .null, .null, .null, .null, .null] .null := Arv.set A17 q17 s17 n17 H17 G17 rfl W18 3 rfl (Nat.le_of_ble_eq_true rfl)
  have N18 := Fr.snoc X18 N14 gb1
  have O18 : Old Z n0 h18 := O15.wr W18 gb1
  have Kp18 : Keep h0 h18 [] := Kp15.wr W18 (Or.inr gs1)
  have Cl18 : CHr Z EL T15.vm h15 T15.vm h18 := CHr.wr W18 Sfb1_15 CH15
  have Sfb1_18 : Safe Z EL T15.vm h18 b1 := Cl18.safe f16.lt Sfb1_15
  have CR18 : CHr Z EL s.vm h0 T15.vm h18 := CR15.trans Cl18
  have CH18 := CR18.1
  have hk18 : _ ≤ h18.size := Nat.le_trans hk15 Cl18.2.1
  obtain ⟨sa19, T19, h19, k19, sd19, kc19, X19, e19, E19, hS19, hk19, hZ19, ho19, Es19, Cs19, Vs19, As19, la19, lb19, Cq19, hL19, hne19, st19⟩ := ldcCH X18 hx hZ15 ho15 (hw _ (List.mem_of_getElem? (i := 14) rfl)) (own_wS hw) e18 hS15 hk18 hEL (by simp [EL, consts_1]) CH18 (vs := by8 lit8) (z := Int32.ofNat lit8.length) ⟨by decide, rfl⟩ (by decide) (by decide) (g := (mkF m 44 #[.val (.int p0), .val (.int p1), .val (.int (Int32.ofNat nn)), .val (.int (0 : Int32)), .unset, .unset, .unset, .unset, .unset, .unset] [(.int (4 : Int32)), (.ref b1), (.ref b1)])) rfl (hb hby at_44) (n := 72) (by decide) (by decide) (by decide) (by decide)
  have O19 : Old Z n0 h19 := O18.ext E19
  have Kp19 : Keep h0 h19 [] := Kp18.ext E19
  have Cl19 : CHr Z EL T15.vm h18 T19.vm h19 := Cq19
  have Sfb1_19 : Safe Z EL T19.vm h19 b1 := Cl19.safe V18.lt Sfb1_18
  have CR19 : CHr Z EL s.vm h0 T19.vm h19 := CR18.trans Cl19
  have CH19 := CR19.1
  have Ls19 : Str Z h19 sa19 sd19 kc19 lit8 := ⟨Es19, Vs19, Cs19, As19⟩
  have f20 : Arv Z h19 b1 k1 (.object "java/lang/String") (16 : Int32) [(.ref sa3), (.ref sa7), (.ref sa11), (.ref sa15), .null, .null, .null, .null, .null, .null, .null, .null, .null, .null, .null, .null] .null := (V18.ext E19)
  obtain ⟨cw21, A21, q21, s21, n21, H21, G21⟩ := id f20
  obtain ⟨T22, h22, X22, e22, W22, st22⟩ := stR X19 hx hZ19 e19 A21 (j := (4 : Int32)) (inb_of s21 ⟨by decide, by decide⟩) rfl (Sto.ofV A21 q21 Ov1 (Ins.self Ls19.1)) (g := (mkF m 46 #[.val (.int p0), .val (.int p1), .val (.int (Int32.ofNat nn)), .val (.int (0 : Int32)), .unset, .unset, .unset, .unset, .unset, .unset] [(.ref sa19), (.int (4 : Int32)), (.ref b1), (.ref b1)])) rfl rfl (hb hby at_46)
  have V22 : Arv Z h22 b1 k1 (.object "java/lang/String") (16 : Int32) [(.ref sa3), (.ref sa7), (.ref sa11), (.ref sa15), (.ref sa19), .null, .null, .null, .null, .null, .null, .null, .null, .null, .null, .null] .null := Arv.set A21 q21 s21 n21 H21 G21 rfl W22 4 rfl (Nat.le_of_ble_eq_true rfl)
  have N22 := Fr.snoc X22 N18 gb1
  have O22 : Old Z n0 h22 := O19.wr W22 gb1
  have Kp22 : Keep h0 h22 [] := Kp19.wr W22 (Or.inr gs1)
  have Cl22 : CHr Z EL T19.vm h19 T19.vm h22 := CHr.wr W22 Sfb1_19 CH19
  have Sfb1_22 : Safe Z EL T19.vm h22 b1 := Cl22.safe f20.lt Sfb1_19
  have CR22 : CHr Z EL s.vm h0 T19.vm h22 := CR19.trans Cl22
  have CH22 := CR22.1
  have hk22 : _ ≤ h22.size := Nat.le_trans hk19 Cl22.2.1
  obtain ⟨sa23, T23, h23, k23, sd23, kc23, X23, e23, E23, hS23, hk23, hZ23, ho23, Es23, Cs23, Vs23, As23, la23, lb23, Cq23, hL23, hne23, st23⟩ := ldcCH X22 hx hZ19 ho19 (hw _ (List.mem_of_getElem? (i := 15) rfl)) (own_wS hw) e22 hS19 hk22 hEL (by simp [EL, consts_1]) CH22 (vs := by8 lit9) (z := Int32.ofNat lit9.length) ⟨by decide, rfl⟩ (by decide) (by decide) (g := (mkF m 49 #[.val (.int p0), .val (.int p1), .val (.int (Int32.ofNat nn)), .val (.int (0 : Int32)), .unset, .unset, .unset, .unset, .unset, .unset] [(.int (5 : Int32)), (.ref b1), (.ref b1)])) rfl (hb hby at_49) (n := 72) (by decide) (by decide) (by decide) (by decide)
  have O23 : Old Z n0 h23 := O22.ext E23
  have Kp23 : Keep h0 h23 [] := Kp22.ext E23
  have Cl23 : CHr Z EL T19.vm h22 T23.vm h23 := Cq23
  have Sfb1_23 : Safe Z EL T23.vm h23 b1 := Cl23.safe V22.lt Sfb1_22
  have CR23 : CHr Z EL s.vm h0 T23.vm h23 := CR22.trans Cl23
  have CH23 := CR23.1
  have Ls23 : Str Z h23 sa23 sd23 kc23 lit9 := ⟨Es23, Vs23, Cs23, As23⟩
  have f24 : Arv Z h23 b1 k1 (.object "java/lang/String") (16 : Int32) [(.ref sa3), (.ref sa7), (.ref sa11), (.ref sa15), (.ref sa19), .null, .null, .null, .null, .null, .null, .null, .null, .null, .null, .null] .null := (V22.ext E23)
  obtain ⟨cw25, A25, q25, s25, n25, H25, G25⟩ := id f24
  obtain ⟨T26, h26, X26, e26, W26, st26⟩ := stR X23 hx hZ23 e23 A25 (j := (5 : Int32)) (inb_of s25 ⟨by decide, by decide⟩) rfl (Sto.ofV A25 q25 Ov1 (Ins.self Ls23.1)) (g := (mkF m 51 #[.val (.int p0), .val (.int p1), .val (.int (Int32.ofNat nn)), .val (.int (0 : Int32)), .unset, .unset, .unset, .unset, .unset, .unset] [(.ref sa23), (.int (5 : Int32)), (.ref b1), (.ref b1)])) rfl rfl (hb hby at_51)
  have V26 : Arv Z h26 b1 k1 (.object "java/lang/String") (16 : Int32) [(.ref sa3), (.ref sa7), (.ref sa11), (.ref sa15), (.ref sa19), (.ref sa23), .null, .null, .null, .null, .null, .null, .null, .null, .null, .null] .null := Arv.set A25 q25 s25 n25 H25 G25 rfl W26 5 rfl (Nat.le_of_ble_eq_true rfl)
  have N26 := Fr.snoc X26 N22 gb1
  have O26 : Old Z n0 h26 := O23.wr W26 gb1
  have Kp26 : Keep h0 h26 [] := Kp23.wr W26 (Or.inr gs1)
  have Cl26 : CHr Z EL T23.vm h23 T23.vm h26 := CHr.wr W26 Sfb1_23 CH23
  have Sfb1_26 : Safe Z EL T23.vm h26 b1 := Cl26.safe f24.lt Sfb1_23
  have CR26 : CHr Z EL s.vm h0 T23.vm h26 := CR23.trans Cl26
  have CH26 := CR26.1
  have hk26 : _ ≤ h26.size := Nat.le_trans hk23 Cl26.2.1
  obtain ⟨sa27, T27, h27, k27, sd27, kc27, X27, e27, E27, hS27, hk27, hZ27, ho27, Es27, Cs27, Vs27, As27, la27, lb27, Cq27, hL27, hne27, st27⟩ := ldcCH X26 hx hZ23 ho23 (hw _ (List.mem_of_getElem? (i := 16) rfl)) (own_wS hw) e26 hS23 hk26 hEL (by simp [EL, consts_1]) CH26 (vs := by8 lit10) (z := Int32.ofNat lit10.length) ⟨by decide, rfl⟩ (by decide) (by decide) (g := (mkF m 55 #[.val (.int p0), .val (.int p1), .val (.int (Int32.ofNat nn)), .val (.int (0 : Int32)), .unset, .unset, .unset, .unset, .unset, .unset] [(.int (6 : Int32)), (.ref b1), (.ref b1)])) rfl (hb hby at_55) (n := 72) (by decide) (by decide) (by decide) (by decide)
  have O27 : Old Z n0 h27 := O26.ext E27
  have Kp27 : Keep h0 h27 [] := Kp26.ext E27
  have Cl27 : CHr Z EL T23.vm h26 T27.vm h27 := Cq27
  have Sfb1_27 : Safe Z EL T27.vm h27 b1 := Cl27.safe V26.lt Sfb1_26
  have CR27 : CHr Z EL s.vm h0 T27.vm h27 := CR26.trans Cl27
  have CH27 := CR27.1
  have Ls27 : Str Z h27 sa27 sd27 kc27 lit10 := ⟨Es27, Vs27, Cs27, As27⟩
  have f28 : Arv Z h27 b1 k1 (.object "java/lang/String") (16 : Int32) [(.ref sa3), (.ref sa7), (.ref sa11), (.ref sa15), (.ref sa19), (.ref sa23), .null, .null, .null, .null, .null, .null, .null, .null, .null, .null] .null := (V26.ext E27)
  obtain ⟨cw29, A29, q29, s29, n29, H29, G29⟩ := id f28
  obtain ⟨T30, h30, X30, e30, W30, st30⟩ := stR X27 hx hZ27 e27 A29 (j := (6 : Int32)) (inb_of s29 ⟨by decide, by decide⟩) rfl (Sto.ofV A29 q29 Ov1 (Ins.self Ls27.1)) (g := (mkF m 57 #[.val (.int p0), .val (.int p1), .val (.int (Int32.ofNat nn)), .val (.int (0 : Int32)), .unset, .unset, .unset, .unset, .unset, .unset] [(.ref sa27), (.int (6 : Int32)), (.ref b1), (.ref b1)])) rfl rfl (hb hby at_57)
  have V30 : Arv Z h30 b1 k1 (.object "java/lang/String") (16 : Int32) [(.ref sa3), (.ref sa7), (.ref sa11), (.ref sa15), (.ref sa19), (.ref sa23), (.ref sa27), .null, .null, .null, .null, .null, .null, .null, .null, .null] .null := Arv.set A29 q29 s29 n29 H29 G29 rfl W30 6 rfl (Nat.le_of_ble_eq_true rfl)
  have N30 := Fr.snoc X30 N26 gb1
  have O30 : Old Z n0 h30 := O27.wr W30 gb1
  have Kp30 : Keep h0 h30 [] := Kp27.wr W30 (Or.inr gs1)
  have Cl30 : CHr Z EL T27.vm h27 T27.vm h30 := CHr.wr W30 Sfb1_27 CH27
  have Sfb1_30 : Safe Z EL T27.vm h30 b1 := Cl30.safe f28.lt Sfb1_27
  have CR30 : CHr Z EL s.vm h0 T27.vm h30 := CR27.trans Cl30
  have CH30 := CR30.1
  have hk30 : _ ≤ h30.size := Nat.le_trans hk27 Cl30.2.1
  obtain ⟨sa31, T31, h31, k31, sd31, kc31, X31, e31, E31, hS31, hk31, hZ31, ho31, Es31, Cs31, Vs31, As31, la31, lb31, Cq31, hL31, hne31, st31⟩ := ldcCH X30 hx hZ27 ho27 (hw _ (List.mem_of_getElem? (i := 17) rfl)) (own_wS hw) e30 hS27 hk30 hEL (by simp [EL, consts_1]) CH30 (vs := by8 lit11) (z := Int32.ofNat lit11.length) ⟨by decide, rfl⟩ (by decide) (by decide) (g := (mkF m 61 #[.val (.int p0), .val (.int p1), .val (.int (Int32.ofNat nn)), .val (.int (0 : Int32)), .unset, .unset, .unset, .unset, .unset, .unset] [(.int (7 : Int32)), (.ref b1), (.ref b1)])) rfl (hb hby at_61) (n := 72) (by decide) (by decide) (by decide) (by decide)
  have O31 : Old Z n0 h31 := O30.ext E31
  have Kp31 : Keep h0 h31 [] := Kp30.ext E31
  have Cl31 : CHr Z EL T27.vm h30 T31.vm h31 := Cq31
  have Sfb1_31 : Safe Z EL T31.vm h31 b1 := Cl31.safe V30.lt Sfb1_30
  have CR31 : CHr Z EL s.vm h0 T31.vm h31 := CR30.trans Cl31
  have CH31 := CR31.1
  have Ls31 : Str Z h31 sa31 sd31 kc31 lit11 := ⟨Es31, Vs31, Cs31, As31⟩
  have f32 : Arv Z h31 b1 k1 (.object "java/lang/String") (16 : Int32) [(.ref sa3), (.ref sa7), (.ref sa11), (.ref sa15), (.ref sa19), (.ref sa23), (.ref sa27), .null, .null, .null, .null, .null, .null, .null, .null, .null] .null := (V30.ext E31)
  obtain ⟨cw33, A33, q33, s33, n33, H33, G33⟩ := id f32
  obtain ⟨T34, h34, X34, e34, W34, st34⟩ := stR X31 hx hZ31 e31 A33 (j := (7 : Int32)) (inb_of s33 ⟨by decide, by decide⟩) rfl (Sto.ofV A33 q33 Ov1 (Ins.self Ls31.1)) (g := (mkF m 63 #[.val (.int p0), .val (.int p1), .val (.int (Int32.ofNat nn)), .val (.int (0 : Int32)), .unset, .unset, .unset, .unset, .unset, .unset] [(.ref sa31), (.int (7 : Int32)), (.ref b1), (.ref b1)])) rfl rfl (hb hby at_63)
  have V34 : Arv Z h34 b1 k1 (.object "java/lang/String") (16 : Int32) [(.ref sa3), (.ref sa7), (.ref sa11), (.ref sa15), (.ref sa19), (.ref sa23), (.ref sa27), (.ref sa31), .null, .null, .null, .null, .null, .null, .null, .null] .null := Arv.set A33 q33 s33 n33 H33 G33 rfl W34 7 rfl (Nat.le_of_ble_eq_true rfl)
  have N34 := Fr.snoc X34 N30 gb1
  have O34 : Old Z n0 h34 := O31.wr W34 gb1
  have Kp34 : Keep h0 h34 [] := Kp31.wr W34 (Or.inr gs1)
  have Cl34 : CHr Z EL T31.vm h31 T31.vm h34 := CHr.wr W34 Sfb1_31 CH31
  have Sfb1_34 : Safe Z EL T31.vm h34 b1 := Cl34.safe f32.lt Sfb1_31
  have CR34 : CHr Z EL s.vm h0 T31.vm h34 := CR31.trans Cl34
  have CH34 := CR34.1
  have hk34 : _ ≤ h34.size := Nat.le_trans hk31 Cl34.2.1
  obtain ⟨sa35, T35, h35, k35, sd35, kc35, X35, e35, E35, hS35, hk35, hZ35, ho35, Es35, Cs35, Vs35, As35, la35, lb35, Cq35, hL35, hne35, st35⟩ := ldcCH X34 hx hZ31 ho31 (hw _ (List.mem_of_getElem? (i := 18) rfl)) (own_wS hw) e34 hS31 hk34 hEL (by simp [EL, consts_1]) CH34 (vs := by8 lit12) (z := Int32.ofNat lit12.length) ⟨by decide, rfl⟩ (by decide) (by decide) (g := (mkF m 67 #[.val (.int p0), .val (.int p1), .val (.int (Int32.ofNat nn)), .val (.int (0 : Int32)), .unset, .unset, .unset, .unset, .unset, .unset] [(.int (8 : Int32)), (.ref b1), (.ref b1)])) rfl (hb hby at_67) (n := 72) (by decide) (by decide) (by decide) (by decide)
  have O35 : Old Z n0 h35 := O34.ext E35
  have Kp35 : Keep h0 h35 [] := Kp34.ext E35
  have Cl35 : CHr Z EL T31.vm h34 T35.vm h35 := Cq35
  have Sfb1_35 : Safe Z EL T35.vm h35 b1 := Cl35.safe V34.lt Sfb1_34
  have CR35 : CHr Z EL s.vm h0 T35.vm h35 := CR34.trans Cl35
  have CH35 := CR35.1
  have Ls35 : Str Z h35 sa35 sd35 kc35 lit12 := ⟨Es35, Vs35, Cs35, As35⟩
  have f36 : Arv Z h35 b1 k1 (.object "java/lang/String") (16 : Int32) [(.ref sa3), (.ref sa7), (.ref sa11), (.ref sa15), (.ref sa19), (.ref sa23), (.ref sa27), (.ref sa31), .null, .null, .null, .null, .null, .null, .null, .null] .null := (V34.ext E35)
  obtain ⟨cw37, A37, q37, s37, n37, H37, G37⟩ := id f36
  obtain ⟨T38, h38, X38, e38, W38, st38⟩ := stR X35 hx hZ35 e35 A37 (j := (8 : Int32)) (inb_of s37 ⟨by decide, by decide⟩) rfl (Sto.ofV A37 q37 Ov1 (Ins.self Ls35.1)) (g := (mkF m 69 #[.val (.int p0), .val (.int p1), .val (.int (Int32.ofNat nn)), .val (.int (0 : Int32)), .unset, .unset, .unset, .unset, .unset, .unset] [(.ref sa35), (.int (8 : Int32)), (.ref b1), (.ref b1)])) rfl rfl (hb hby at_69)
  have V38 : Arv Z h38 b1 k1 (.object "java/lang/String") (16 : Int32) [(.ref sa3), (.ref sa7), (.ref sa11), (.ref sa15), (.ref sa19), (.ref sa23), (.ref sa27), (.ref sa31), (.ref sa35), .null, .null, .null, .null, .null, .null, .null] .null := Arv.set A37 q37 s37 n37 H37 G37 rfl W38 8 rfl (Nat.le_of_ble_eq_true rfl)
  have N38 := Fr.snoc X38 N34 gb1
  have O38 : Old Z n0 h38 := O35.wr W38 gb1
  have Kp38 : Keep h0 h38 [] := Kp35.wr W38 (Or.inr gs1)
  have Cl38 : CHr Z EL T35.vm h35 T35.vm h38 := CHr.wr W38 Sfb1_35 CH35
  have Sfb1_38 : Safe Z EL T35.vm h38 b1 := Cl38.safe f36.lt Sfb1_35
  have CR38 : CHr Z EL s.vm h0 T35.vm h38 := CR35.trans Cl38
  have CH38 := CR38.1
  have hk38 : _ ≤ h38.size := Nat.le_trans hk35 Cl38.2.1
  obtain ⟨sa39, T39, h39, k39, sd39, kc39, X39, e39, E39, hS39, hk39, hZ39, ho39, Es39, Cs39, Vs39, As39, la39, lb39, Cq39, hL39, hne39, st39⟩ := ldcCH X38 hx hZ35 ho35 (hw _ (List.mem_of_getElem? (i := 19) rfl)) (own_wS hw) e38 hS35 hk38 hEL (by simp [EL, consts_1]) CH38 (vs := by8 lit13) (z := Int32.ofNat lit13.length) ⟨by decide, rfl⟩ (by decide) (by decide) (g := (mkF m 73 #[.val (.int p0), .val (.int p1), .val (.int (Int32.ofNat nn)), .val (.int (0 : Int32)), .unset, .unset, .unset, .unset, .unset, .unset] [(.int (9 : Int32)), (.ref b1), (.ref b1)])) rfl (hb hby at_73) (n := 72) (by decide) (by decide) (by decide) (by decide)
  have O39 : Old Z n0 h39 := O38.ext E39
  have Kp39 : Keep h0 h39 [] := Kp38.ext E39
  have Cl39 : CHr Z EL T35.vm h38 T39.vm h39 := Cq39
  have Sfb1_39 : Safe Z EL T39.vm h39 b1 := Cl39.safe V38.lt Sfb1_38
  have CR39 : CHr Z EL s.vm h0 T39.vm h39 := CR38.trans Cl39
  have CH39 := CR39.1
  have Ls39 : Str Z h39 sa39 sd39 kc39 lit13 := ⟨Es39, Vs39, Cs39, As39⟩
  have f40 : Arv Z h39 b1 k1 (.object "java/lang/String") (16 : Int32) [(.ref sa3), (.ref sa7), (.ref sa11), (.ref sa15), (.ref sa19), (.ref sa23), (.ref sa27), (.ref sa31), (.ref sa35), .null, .null, .null, .null, .null, .null, .null] .null := (V38.ext E39)
  obtain ⟨cw41, A41, q41, s41, n41, H41, G41⟩ := id f40
  obtain ⟨T42, h42, X42, e42, W42, st42⟩ := stR X39 hx hZ39 e39 A41 (j := (9 : Int32)) (inb_of s41 ⟨by decide, by decide⟩) rfl (Sto.ofV A41 q41 Ov1 (Ins.self Ls39.1)) (g := (mkF m 75 #[.val (.int p0), .val (.int p1), .val (.int (Int32.ofNat nn)), .val (.int (0 : Int32)), .unset, .unset, .unset, .unset, .unset, .unset] [(.ref sa39), (.int (9 : Int32)), (.ref b1), (.ref b1)])) rfl rfl (hb hby at_75)
  have V42 : Arv Z h42 b1 k1 (.object "java/lang/String") (16 : Int32) [(.ref sa3), (.ref sa7), (.ref sa11), (.ref sa15), (.ref sa19), (.ref sa23), (.ref sa27), (.ref sa31), (.ref sa35), (.ref sa39), .null, .null, .null, .null, .null, .null] .null := Arv.set A41 q41 s41 n41 H41 G41 rfl W42 9 rfl (Nat.le_of_ble_eq_true rfl)
  have N42 := Fr.snoc X42 N38 gb1
  have O42 : Old Z n0 h42 := O39.wr W42 gb1
  have Kp42 : Keep h0 h42 [] := Kp39.wr W42 (Or.inr gs1)
  have Cl42 : CHr Z EL T39.vm h39 T39.vm h42 := CHr.wr W42 Sfb1_39 CH39
  have Sfb1_42 : Safe Z EL T39.vm h42 b1 := Cl42.safe f40.lt Sfb1_39
  have CR42 : CHr Z EL s.vm h0 T39.vm h42 := CR39.trans Cl42
  have CH42 := CR42.1
  have hk42 : _ ≤ h42.size := Nat.le_trans hk39 Cl42.2.1
  obtain ⟨sa43, T43, h43, k43, sd43, kc43, X43, e43, E43, hS43, hk43, hZ43, ho43, Es43, Cs43, Vs43, As43, la43, lb43, Cq43, hL43, hne43, st43⟩ := ldcCH X42 hx hZ39 ho39 (hw _ (List.mem_of_getElem? (i := 20) rfl)) (own_wS hw) e42 hS39 hk42 hEL (by simp [EL, consts_1]) CH42 (vs := by8 lit14) (z := Int32.ofNat lit14.length) ⟨by decide, rfl⟩ (by decide) (by decide) (g := (mkF m 79 #[.val (.int p0), .val (.int p1), .val (.int (Int32.ofNat nn)), .val (.int (0 : Int32)), .unset, .unset, .unset, .unset, .unset, .unset] [(.int (10 : Int32)), (.ref b1), (.ref b1)])) rfl (hb hby at_79) (n := 76) (by decide) (by decide) (by decide) (by decide)
  have O43 : Old Z n0 h43 := O42.ext E43
  have Kp43 : Keep h0 h43 [] := Kp42.ext E43
  have Cl43 : CHr Z EL T39.vm h42 T43.vm h43 := Cq43
  have Sfb1_43 : Safe Z EL T43.vm h43 b1 := Cl43.safe V42.lt Sfb1_42
  have CR43 : CHr Z EL s.vm h0 T43.vm h43 := CR42.trans Cl43
  have CH43 := CR43.1
  have Ls43 : Str Z h43 sa43 sd43 kc43 lit14 := ⟨Es43, Vs43, Cs43, As43⟩
  have f44 : Arv Z h43 b1 k1 (.object "java/lang/String") (16 : Int32) [(.ref sa3), (.ref sa7), (.ref sa11), (.ref sa15), (.ref sa19), (.ref sa23), (.ref sa27), (.ref sa31), (.ref sa35), (.ref sa39), .null, .null, .null, .null, .null, .null] .null := (V42.ext E43)
  obtain ⟨cw45, A45, q45, s45, n45, H45, G45⟩ := id f44
  obtain ⟨T46, h46, X46, e46, W46, st46⟩ := stR X43 hx hZ43 e43 A45 (j := (10 : Int32)) (inb_of s45 ⟨by decide, by decide⟩) rfl (Sto.ofV A45 q45 Ov1 (Ins.self Ls43.1)) (g := (mkF m 81 #[.val (.int p0), .val (.int p1), .val (.int (Int32.ofNat nn)), .val (.int (0 : Int32)), .unset, .unset, .unset, .unset, .unset, .unset] [(.ref sa43), (.int (10 : Int32)), (.ref b1), (.ref b1)])) rfl rfl (hb hby at_81)
  have V46 : Arv Z h46 b1 k1 (.object "java/lang/String") (16 : Int32) [(.ref sa3), (.ref sa7), (.ref sa11), (.ref sa15), (.ref sa19), (.ref sa23), (.ref sa27), (.ref sa31), (.ref sa35), (.ref sa39), (.ref sa43), .null, .null, .null, .null, .null] .null := Arv.set A45 q45 s45 n45 H45 G45 rfl W46 10 rfl (Nat.le_of_ble_eq_true rfl)
  have N46 := Fr.snoc X46 N42 gb1
  have O46 : Old Z n0 h46 := O43.wr W46 gb1
  have Kp46 : Keep h0 h46 [] := Kp43.wr W46 (Or.inr gs1)
  have Cl46 : CHr Z EL T43.vm h43 T43.vm h46 := CHr.wr W46 Sfb1_43 CH43
  have Sfb1_46 : Safe Z EL T43.vm h46 b1 := Cl46.safe f44.lt Sfb1_43
  have CR46 : CHr Z EL s.vm h0 T43.vm h46 := CR43.trans Cl46
  have CH46 := CR46.1
  have hk46 : _ ≤ h46.size := Nat.le_trans hk43 Cl46.2.1
  obtain ⟨sa47, T47, h47, k47, sd47, kc47, X47, e47, E47, hS47, hk47, hZ47, ho47, Es47, Cs47, Vs47, As47, la47, lb47, Cq47, hL47, hne47, st47⟩ := ldcCH X46 hx hZ43 ho43 (hw _ (List.mem_of_getElem? (i := 21) rfl)) (own_wS hw) e46 hS43 hk46 hEL (by simp [EL, consts_1]) CH46 (vs := by8 lit15) (z := Int32.ofNat lit15.length) ⟨by decide, rfl⟩ (by decide) (by decide) (g := (mkF m 85 #[.val (.int p0), .val (.int p1), .val (.int (Int32.ofNat nn)), .val (.int (0 : Int32)), .unset, .unset, .unset, .unset, .unset, .unset] [(.int (11 : Int32)), (.ref b1), (.ref b1)])) rfl (hb hby at_85) (n := 76) (by decide) (by decide) (by decide) (by decide)
  have O47 : Old Z n0 h47 := O46.ext E47
  have Kp47 : Keep h0 h47 [] := Kp46.ext E47
  have Cl47 : CHr Z EL T43.vm h46 T47.vm h47 := Cq47
  have Sfb1_47 : Safe Z EL T47.vm h47 b1 := Cl47.safe V46.lt Sfb1_46
  have CR47 : CHr Z EL s.vm h0 T47.vm h47 := CR46.trans Cl47
  have CH47 := CR47.1
  have Ls47 : Str Z h47 sa47 sd47 kc47 lit15 := ⟨Es47, Vs47, Cs47, As47⟩
  have f48 : Arv Z h47 b1 k1 (.object "java/lang/String") (16 : Int32) [(.ref sa3), (.ref sa7), (.ref sa11), (.ref sa15), (.ref sa19), (.ref sa23), (.ref sa27), (.ref sa31), (.ref sa35), (.ref sa39), (.ref sa43), .null, .null, .null, .null, .null] .null := (V46.ext E47)
  obtain ⟨cw49, A49, q49, s49, n49, H49, G49⟩ := id f48
  obtain ⟨T50, h50, X50, e50, W50, st50⟩ := stR X47 hx hZ47 e47 A49 (j := (11 : Int32)) (inb_of s49 ⟨by decide, by decide⟩) rfl (Sto.ofV A49 q49 Ov1 (Ins.self Ls47.1)) (g := (mkF m 87 #[.val (.int p0), .val (.int p1), .val (.int (Int32.ofNat nn)), .val (.int (0 : Int32)), .unset, .unset, .unset, .unset, .unset, .unset] [(.ref sa47), (.int (11 : Int32)), (.ref b1), (.ref b1)])) rfl rfl (hb hby at_87)
  have V50 : Arv Z h50 b1 k1 (.object "java/lang/String") (16 : Int32) [(.ref sa3), (.ref sa7), (.ref sa11), (.ref sa15), (.ref sa19), (.ref sa23), (.ref sa27), (.ref sa31), (.ref sa35), (.ref sa39), (.ref sa43), (.ref sa47), .null, .null, .null, .null] .null := Arv.set A49 q49 s49 n49 H49 G49 rfl W50 11 rfl (Nat.le_of_ble_eq_true rfl)
  have N50 := Fr.snoc X50 N46 gb1
  have O50 : Old Z n0 h50 := O47.wr W50 gb1
  have Kp50 : Keep h0 h50 [] := Kp47.wr W50 (Or.inr gs1)
  have Cl50 : CHr Z EL T47.vm h47 T47.vm h50 := CHr.wr W50 Sfb1_47 CH47
  have Sfb1_50 : Safe Z EL T47.vm h50 b1 := Cl50.safe f48.lt Sfb1_47
  have CR50 : CHr Z EL s.vm h0 T47.vm h50 := CR47.trans Cl50
  have CH50 := CR50.1
  have hk50 : _ ≤ h50.size := Nat.le_trans hk47 Cl50.2.1
  obtain ⟨sa51, T51, h51, k51, sd51, kc51, X51, e51, E51, hS51, hk51, hZ51, ho51, Es51, Cs51, Vs51, As51, la51, lb51, Cq51, hL51, hne51, st51⟩ := ldcCH X50 hx hZ47 ho47 (hw _ (List.mem_of_getElem? (i := 22) rfl)) (own_wS hw) e50 hS47 hk50 hEL (by simp [EL, consts_1]) CH50 (vs := by8 lit16) (z := Int32.ofNat lit16.length) ⟨by decide, rfl⟩ (by decide) (by decide) (g := (mkF m 91 #[.val (.int p0), .val (.int p1), .val (.int (Int32.ofNat nn)), .val (.int (0 : Int32)), .unset, .unset, .unset, .unset, .unset, .unset] [(.int (12 : Int32)), (.ref b1), (.ref b1)])) rfl (hb hby at_91) (n := 76) (by decide) (by decide) (by decide) (by decide)
  have O51 : Old Z n0 h51 := O50.ext E51
  have Kp51 : Keep h0 h51 [] := Kp50.ext E51
  have Cl51 : CHr Z EL T47.vm h50 T51.vm h51 := Cq51
  have Sfb1_51 : Safe Z EL T51.vm h51 b1 := Cl51.safe V50.lt Sfb1_50
  have CR51 : CHr Z EL s.vm h0 T51.vm h51 := CR50.trans Cl51
  have CH51 := CR51.1
  have Ls51 : Str Z h51 sa51 sd51 kc51 lit16 := ⟨Es51, Vs51, Cs51, As51⟩
  have f52 : Arv Z h51 b1 k1 (.object "java/lang/String") (16 : Int32) [(.ref sa3), (.ref sa7), (.ref sa11), (.ref sa15), (.ref sa19), (.ref sa23), (.ref sa27), (.ref sa31), (.ref sa35), (.ref sa39), (.ref sa43), (.ref sa47), .null, .null, .null, .null] .null := (V50.ext E51)
  obtain ⟨cw53, A53, q53, s53, n53, H53, G53⟩ := id f52
  obtain ⟨T54, h54, X54, e54, W54, st54⟩ := stR X51 hx hZ51 e51 A53 (j := (12 : Int32)) (inb_of s53 ⟨by decide, by decide⟩) rfl (Sto.ofV A53 q53 Ov1 (Ins.self Ls51.1)) (g := (mkF m 93 #[.val (.int p0), .val (.int p1), .val (.int (Int32.ofNat nn)), .val (.int (0 : Int32)), .unset, .unset, .unset, .unset, .unset, .unset] [(.ref sa51), (.int (12 : Int32)), (.ref b1), (.ref b1)])) rfl rfl (hb hby at_93)
  have V54 : Arv Z h54 b1 k1 (.object "java/lang/String") (16 : Int32) [(.ref sa3), (.ref sa7), (.ref sa11), (.ref sa15), (.ref sa19), (.ref sa23), (.ref sa27), (.ref sa31), (.ref sa35), (.ref sa39), (.ref sa43), (.ref sa47), (.ref sa51), .null, .null, .null] .null := Arv.set A53 q53 s53 n53 H53 G53 rfl W54 12 rfl (Nat.le_of_ble_eq_true rfl)
  have N54 := Fr.snoc X54 N50 gb1
  have O54 : Old Z n0 h54 := O51.wr W54 gb1
  have Kp54 : Keep h0 h54 [] := Kp51.wr W54 (Or.inr gs1)
  have Cl54 : CHr Z EL T51.vm h51 T51.vm h54 := CHr.wr W54 Sfb1_51 CH51
  have Sfb1_54 : Safe Z EL T51.vm h54 b1 := Cl54.safe f52.lt Sfb1_51
  have CR54 : CHr Z EL s.vm h0 T51.vm h54 := CR51.trans Cl54
  have CH54 := CR54.1
  have hk54 : _ ≤ h54.size := Nat.le_trans hk51 Cl54.2.1
  obtain ⟨sa55, T55, h55, k55, sd55, kc55, X55, e55, E55, hS55, hk55, hZ55, ho55, Es55, Cs55, Vs55, As55, la55, lb55, Cq55, hL55, hne55, st55⟩ := ldcCH X54 hx hZ51 ho51 (hw _ (List.mem_of_getElem? (i := 23) rfl)) (own_wS hw) e54 hS51 hk54 hEL (by simp [EL, consts_1]) CH54 (vs := by8 lit17) (z := Int32.ofNat lit17.length) ⟨by decide, rfl⟩ (by decide) (by decide) (g := (mkF m 97 #[.val (.int p0), .val (.int p1), .val (.int (Int32.ofNat nn)), .val (.int (0 : Int32)), .unset, .unset, .unset, .unset, .unset, .unset] [(.int (13 : Int32)), (.ref b1), (.ref b1)])) rfl (hb hby at_97) (n := 76) (by decide) (by decide) (by decide) (by decide)
  have O55 : Old Z n0 h55 := O54.ext E55
  have Kp55 : Keep h0 h55 [] := Kp54.ext E55
  have Cl55 : CHr Z EL T51.vm h54 T55.vm h55 := Cq55
  have Sfb1_55 : Safe Z EL T55.vm h55 b1 := Cl55.safe V54.lt Sfb1_54
  have CR55 : CHr Z EL s.vm h0 T55.vm h55 := CR54.trans Cl55
  have CH55 := CR55.1
  have Ls55 : Str Z h55 sa55 sd55 kc55 lit17 := ⟨Es55, Vs55, Cs55, As55⟩
  have f56 : Arv Z h55 b1 k1 (.object "java/lang/String") (16 : Int32) [(.ref sa3), (.ref sa7), (.ref sa11), (.ref sa15), (.ref sa19), (.ref sa23), (.ref sa27), (.ref sa31), (.ref sa35), (.ref sa39), (.ref sa43), (.ref sa47), (.ref sa51), .null, .null, .null] .null := (V54.ext E55)
  obtain ⟨cw57, A57, q57, s57, n57, H57, G57⟩ := id f56
  obtain ⟨T58, h58, X58, e58, W58, st58⟩ := stR X55 hx hZ55 e55 A57 (j := (13 : Int32)) (inb_of s57 ⟨by decide, by decide⟩) rfl (Sto.ofV A57 q57 Ov1 (Ins.self Ls55.1)) (g := (mkF m 99 #[.val (.int p0), .val (.int p1), .val (.int (Int32.ofNat nn)), .val (.int (0 : Int32)), .unset, .unset, .unset, .unset, .unset, .unset] [(.ref sa55), (.int (13 : Int32)), (.ref b1), (.ref b1)])) rfl rfl (hb hby at_99)
  have V58 : Arv Z h58 b1 k1 (.object "java/lang/String") (16 : Int32) [(.ref sa3), (.ref sa7), (.ref sa11), (.ref sa15), (.ref sa19), (.ref sa23), (.ref sa27), (.ref sa31), (.ref sa35), (.ref sa39), (.ref sa43), (.ref sa47), (.ref sa51), (.ref sa55), .null, .null] .null := Arv.set A57 q57 s57 n57 H57 G57 rfl W58 13 rfl (Nat.le_of_ble_eq_true rfl)
  have N58 := Fr.snoc X58 N54 gb1
  have O58 : Old Z n0 h58 := O55.wr W58 gb1
  have Kp58 : Keep h0 h58 [] := Kp55.wr W58 (Or.inr gs1)
  have Cl58 : CHr Z EL T55.vm h55 T55.vm h58 := CHr.wr W58 Sfb1_55 CH55
  have Sfb1_58 : Safe Z EL T55.vm h58 b1 := Cl58.safe f56.lt Sfb1_55
  have CR58 : CHr Z EL s.vm h0 T55.vm h58 := CR55.trans Cl58
  have CH58 := CR58.1
  have hk58 : _ ≤ h58.size := Nat.le_trans hk55 Cl58.2.1
  obtain ⟨sa59, T59, h59, k59, sd59, kc59, X59, e59, E59, hS59, hk59, hZ59, ho59, Es59, Cs59, Vs59, As59, la59, lb59, Cq59, hL59, hne59, st59⟩ := ldcCH X58 hx hZ55 ho55 (hw _ (List.mem_of_getElem? (i := 24) rfl)) (own_wS hw) e58 hS55 hk58 hEL (by simp [EL, consts_1]) CH58 (vs := by8 lit18) (z := Int32.ofNat lit18.length) ⟨by decide, rfl⟩ (by decide) (by decide) (g := (mkF m 103 #[.val (.int p0), .val (.int p1), .val (.int (Int32.ofNat nn)), .val (.int (0 : Int32)), .unset, .unset, .unset, .unset, .unset, .unset] [(.int (14 : Int32)), (.ref b1), (.ref b1)])) rfl (hb hby at_103) (n := 76) (by decide) (by decide) (by decide) (by decide)
  have O59 : Old Z n0 h59 := O58.ext E59
  have Kp59 : Keep h0 h59 [] := Kp58.ext E59
  have Cl59 : CHr Z EL T55.vm h58 T59.vm h59 := Cq59
  have Sfb1_59 : Safe Z EL T59.vm h59 b1 := Cl59.safe V58.lt Sfb1_58
  have CR59 : CHr Z EL s.vm h0 T59.vm h59 := CR58.trans Cl59
  have CH59 := CR59.1
  have Ls59 : Str Z h59 sa59 sd59 kc59 lit18 := ⟨Es59, Vs59, Cs59, As59⟩
  have f60 : Arv Z h59 b1 k1 (.object "java/lang/String") (16 : Int32) [(.ref sa3), (.ref sa7), (.ref sa11), (.ref sa15), (.ref sa19), (.ref sa23), (.ref sa27), (.ref sa31), (.ref sa35), (.ref sa39), (.ref sa43), (.ref sa47), (.ref sa51), (.ref sa55), .null, .null] .null := (V58.ext E59)
  obtain ⟨cw61, A61, q61, s61, n61, H61, G61⟩ := id f60
  obtain ⟨T62, h62, X62, e62, W62, st62⟩ := stR X59 hx hZ59 e59 A61 (j := (14 : Int32)) (inb_of s61 ⟨by decide, by decide⟩) rfl (Sto.ofV A61 q61 Ov1 (Ins.self Ls59.1)) (g := (mkF m 105 #[.val (.int p0), .val (.int p1), .val (.int (Int32.ofNat nn)), .val (.int (0 : Int32)), .unset, .unset, .unset, .unset, .unset, .unset] [(.ref sa59), (.int (14 : Int32)), (.ref b1), (.ref b1)])) rfl rfl (hb hby at_105)
  have V62 : Arv Z h62 b1 k1 (.object "java/lang/String") (16 : Int32) [(.ref sa3), (.ref sa7), (.ref sa11), (.ref sa15), (.ref sa19), (.ref sa23), (.ref sa27), (.ref sa31), (.ref sa35), (.ref sa39), (.ref sa43), (.ref sa47), (.ref sa51), (.ref sa55), (.ref sa59), .null] .null := Arv.set A61 q61 s61 n61 H61 G61 rfl W62 14 rfl (Nat.le_of_ble_eq_true rfl)
  have N62 := Fr.snoc X62 N58 gb1
  have O62 : Old Z n0 h62 := O59.wr W62 gb1
  have Kp62 : Keep h0 h62 [] := Kp59.wr W62 (Or.inr gs1)
  have Cl62 : CHr Z EL T59.vm h59 T59.vm h62 := CHr.wr W62 Sfb1_59 CH59
  have Sfb1_62 : Safe Z EL T59.vm h62 b1 := Cl62.safe f60.lt Sfb1_59
  have CR62 : CHr Z EL s.vm h0 T59.vm h62 := CR59.trans Cl62
  have CH62 := CR62.1
  have hk62 : _ ≤ h62.size := Nat.le_trans hk59 Cl62.2.1
  obtain ⟨sa63, T63, h63, k63, sd63, kc63, X63, e63, E63, hS63, hk63, hZ63, ho63, Es63, Cs63, Vs63, As63, la63, lb63, Cq63, hL63, hne63, st63⟩ := ldcCH X62 hx hZ59 ho59 (hw _ (List.mem_of_getElem? (i := 25) rfl)) (own_wS hw) e62 hS59 hk62 hEL (by simp [EL, consts_1]) CH62 (vs := by8 lit19) (z := Int32.ofNat lit19.length) ⟨by decide, rfl⟩ (by decide) (by decide) (g := (mkF m 109 #[.val (.int p0), .val (.int p1), .val (.int (Int32.ofNat nn)), .val (.int (0 : Int32)), .unset, .unset, .unset, .unset, .unset, .unset] [(.int (15 : Int32)), (.ref b1), (.ref b1)])) rfl (hb hby at_109) (n := 76) (by decide) (by decide) (by decide) (by decide)
  have O63 : Old Z n0 h63 := O62.ext E63
  have Kp63 : Keep h0 h63 [] := Kp62.ext E63
  have Cl63 : CHr Z EL T59.vm h62 T63.vm h63 := Cq63
  have Sfb1_63 : Safe Z EL T63.vm h63 b1 := Cl63.safe V62.lt Sfb1_62
  have CR63 : CHr Z EL s.vm h0 T63.vm h63 := CR62.trans Cl63
  have CH63 := CR63.1
  have Ls63 : Str Z h63 sa63 sd63 kc63 lit19 := ⟨Es63, Vs63, Cs63, As63⟩
  have f64 : Arv Z h63 b1 k1 (.object "java/lang/String") (16 : Int32) [(.ref sa3), (.ref sa7), (.ref sa11), (.ref sa15), (.ref sa19), (.ref sa23), (.ref sa27), (.ref sa31), (.ref sa35), (.ref sa39), (.ref sa43), (.ref sa47), (.ref sa51), (.ref sa55), (.ref sa59), .null] .null := (V62.ext E63)
  obtain ⟨cw65, A65, q65, s65, n65, H65, G65⟩ := id f64
  obtain ⟨T66, h66, X66, e66, W66, st66⟩ := stR X63 hx hZ63 e63 A65 (j := (15 : Int32)) (inb_of s65 ⟨by decide, by decide⟩) rfl (Sto.ofV A65 q65 Ov1 (Ins.self Ls63.1)) (g := (mkF m 111 #[.val (.int p0), .val (.int p1), .val (.int (Int32.ofNat nn)), .val (.int (0 : Int32)), .unset, .unset, .unset, .unset, .unset, .unset] [(.ref sa63), (.int (15 : Int32)), (.ref b1), (.ref b1)])) rfl rfl (hb hby at_111)
  have V66 : Arv Z h66 b1 k1 (.object "java/lang/String") (16 : Int32) [(.ref sa3), (.ref sa7), (.ref sa11), (.ref sa15), (.ref sa19), (.ref sa23), (.ref sa27), (.ref sa31), (.ref sa35), (.ref sa39), (.ref sa43), (.ref sa47), (.ref sa51), (.ref sa55), (.ref sa59), (.ref sa63)] .null := Arv.set A65 q65 s65 n65 H65 G65 rfl W66 15 rfl (Nat.le_of_ble_eq_true rfl)
  have N66 := Fr.snoc X66 N62 gb1
  have O66 : Old Z n0 h66 := O63.wr W66 gb1
  have Kp66 : Keep h0 h66 [] := Kp63.wr W66 (Or.inr gs1)
  have Cl66 : CHr Z EL T63.vm h63 T63.vm h66 := CHr.wr W66 Sfb1_63 CH63
  have Sfb1_66 : Safe Z EL T63.vm h66 b1 := Cl66.safe f64.lt Sfb1_63
  have CR66 : CHr Z EL s.vm h0 T63.vm h66 := CR63.trans Cl66
  have CH66 := CR66.1
  have hk66 : _ ≤ h66.size := Nat.le_trans hk63 Cl66.2.1
  have f68 : Str Z h66 sa3 sd3 kc3 lit4 := (((((((((((((((((((((((((((((((Ls3.other W6 (Ne.symm (hne3 _ Sfb1_3).1) (Ne.symm (hne3 _ Sfb1_3).2)).ext E7).other W10 (Ne.symm (hne3 _ Sfb1_3).1) (Ne.symm (hne3 _ Sfb1_3).2)).ext E11).other W14 (Ne.symm (hne3 _ Sfb1_3).1) (Ne.symm (hne3 _ Sfb1_3).2)).ext E15).other W18 (Ne.symm (hne3 _ Sfb1_3).1) (Ne.symm (hne3 _ Sfb1_3).2)).ext E19).other W22 (Ne.symm (hne3 _ Sfb1_3).1) (Ne.symm (hne3 _ Sfb1_3).2)).ext E23).other W26 (Ne.symm (hne3 _ Sfb1_3).1) (Ne.symm (hne3 _ Sfb1_3).2)).ext E27).other W30 (Ne.symm (hne3 _ Sfb1_3).1) (Ne.symm (hne3 _ Sfb1_3).2)).ext E31).other W34 (Ne.symm (hne3 _ Sfb1_3).1) (Ne.symm (hne3 _ Sfb1_3).2)).ext E35).other W38 (Ne.symm (hne3 _ Sfb1_3).1) (Ne.symm (hne3 _ Sfb1_3).2)).ext E39).other W42 (Ne.symm (hne3 _ Sfb1_3).1) (Ne.symm (hne3 _ Sfb1_3).2)).ext E43).other W46 (Ne.symm (hne3 _ Sfb1_3).1) (Ne.symm (hne3 _ Sfb1_3).2)).ext E47).other W50 (Ne.symm (hne3 _ Sfb1_3).1) (Ne.symm (hne3 _ Sfb1_3).2)).ext E51).other W54 (Ne.symm (hne3 _ Sfb1_3).1) (Ne.symm (hne3 _ Sfb1_3).2)).ext E55).other W58 (Ne.symm (hne3 _ Sfb1_3).1) (Ne.symm (hne3 _ Sfb1_3).2)).ext E59).other W62 (Ne.symm (hne3 _ Sfb1_3).1) (Ne.symm (hne3 _ Sfb1_3).2)).ext E63).other W66 (Ne.symm (hne3 _ Sfb1_3).1) (Ne.symm (hne3 _ Sfb1_3).2))
  have f69 : Str Z h66 sa7 sd7 kc7 lit5 := (((((((((((((((((((((((((((((Ls7.other W10 (Ne.symm (hne7 _ Sfb1_7).1) (Ne.symm (hne7 _ Sfb1_7).2)).ext E11).other W14 (Ne.symm (hne7 _ Sfb1_7).1) (Ne.symm (hne7 _ Sfb1_7).2)).ext E15).other W18 (Ne.symm (hne7 _ Sfb1_7).1) (Ne.symm (hne7 _ Sfb1_7).2)).ext E19).other W22 (Ne.symm (hne7 _ Sfb1_7).1) (Ne.symm (hne7 _ Sfb1_7).2)).ext E23).other W26 (Ne.symm (hne7 _ Sfb1_7).1) (Ne.symm (hne7 _ Sfb1_7).2)).ext E27).other W30 (Ne.symm (hne7 _ Sfb1_7).1) (Ne.symm (hne7 _ Sfb1_7).2)).ext E31).other W34 (Ne.symm (hne7 _ Sfb1_7).1) (Ne.symm (hne7 _ Sfb1_7).2)).ext E35).other W38 (Ne.symm (hne7 _ Sfb1_7).1) (Ne.symm (hne7 _ Sfb1_7).2)).ext E39).other W42 (Ne.symm (hne7 _ Sfb1_7).1) (Ne.symm (hne7 _ Sfb1_7).2)).ext E43).other W46 (Ne.symm (hne7 _ Sfb1_7).1) (Ne.symm (hne7 _ Sfb1_7).2)).ext E47).other W50 (Ne.symm (hne7 _ Sfb1_7).1) (Ne.symm (hne7 _ Sfb1_7).2)).ext E51).other W54 (Ne.symm (hne7 _ Sfb1_7).1) (Ne.symm (hne7 _ Sfb1_7).2)).ext E55).other W58 (Ne.symm (hne7 _ Sfb1_7).1) (Ne.symm (hne7 _ Sfb1_7).2)).ext E59).other W62 (Ne.symm (hne7 _ Sfb1_7).1) (Ne.symm (hne7 _ Sfb1_7).2)).ext E63).other W66 (Ne.symm (hne7 _ Sfb1_7).1) (Ne.symm (hne7 _ Sfb1_7).2))
  have f70 : Str Z h66 sa11 sd11 kc11 lit6 := (((((((((((((((((((((((((((Ls11.other W14 (Ne.symm (hne11 _ Sfb1_11).1) (Ne.symm (hne11 _ Sfb1_11).2)).ext E15).other W18 (Ne.symm (hne11 _ Sfb1_11).1) (Ne.symm (hne11 _ Sfb1_11).2)).ext E19).other W22 (Ne.symm (hne11 _ Sfb1_11).1) (Ne.symm (hne11 _ Sfb1_11).2)).ext E23).other W26 (Ne.symm (hne11 _ Sfb1_11).1) (Ne.symm (hne11 _ Sfb1_11).2)).ext E27).other W30 (Ne.symm (hne11 _ Sfb1_11).1) (Ne.symm (hne11 _ Sfb1_11).2)).ext E31).other W34 (Ne.symm (hne11 _ Sfb1_11).1) (Ne.symm (hne11 _ Sfb1_11).2)).ext E35).other W38 (Ne.symm (hne11 _ Sfb1_11).1) (Ne.symm (hne11 _ Sfb1_11).2)).ext E39).other W42 (Ne.symm (hne11 _ Sfb1_11).1) (Ne.symm (hne11 _ Sfb1_11).2)).ext E43).other W46 (Ne.symm (hne11 _ Sfb1_11).1) (Ne.symm (hne11 _ Sfb1_11).2)).ext E47).other W50 (Ne.symm (hne11 _ Sfb1_11).1) (Ne.symm (hne11 _ Sfb1_11).2)).ext E51).other W54 (Ne.symm (hne11 _ Sfb1_11).1) (Ne.symm (hne11 _ Sfb1_11).2)).ext E55).other W58 (Ne.symm (hne11 _ Sfb1_11).1) (Ne.symm (hne11 _ Sfb1_11).2)).ext E59).other W62 (Ne.symm (hne11 _ Sfb1_11).1) (Ne.symm (hne11 _ Sfb1_11).2)).ext E63).other W66 (Ne.symm (hne11 _ Sfb1_11).1) (Ne.symm (hne11 _ Sfb1_11).2))
  have f71 : Str Z h66 sa15 sd15 kc15 lit7 := (((((((((((((((((((((((((Ls15.other W18 (Ne.symm (hne15 _ Sfb1_15).1) (Ne.symm (hne15 _ Sfb1_15).2)).ext E19).other W22 (Ne.symm (hne15 _ Sfb1_15).1) (Ne.symm (hne15 _ Sfb1_15).2)).ext E23).other W26 (Ne.symm (hne15 _ Sfb1_15).1) (Ne.symm (hne15 _ Sfb1_15).2)).ext E27).other W30 (Ne.symm (hne15 _ Sfb1_15).1) (Ne.symm (hne15 _ Sfb1_15).2)).ext E31).other W34 (Ne.symm (hne15 _ Sfb1_15).1) (Ne.symm (hne15 _ Sfb1_15).2)).ext E35).other W38 (Ne.symm (hne15 _ Sfb1_15).1) (Ne.symm (hne15 _ Sfb1_15).2)).ext E39).other W42 (Ne.symm (hne15 _ Sfb1_15).1) (Ne.symm (hne15 _ Sfb1_15).2)).ext E43).other W46 (Ne.symm (hne15 _ Sfb1_15).1) (Ne.symm (hne15 _ Sfb1_15).2)).ext E47).other W50 (Ne.symm (hne15 _ Sfb1_15).1) (Ne.symm (hne15 _ Sfb1_15).2)).ext E51).other W54 (Ne.symm (hne15 _ Sfb1_15).1) (Ne.symm (hne15 _ Sfb1_15).2)).ext E55).other W58 (Ne.symm (hne15 _ Sfb1_15).1) (Ne.symm (hne15 _ Sfb1_15).2)).ext E59).other W62 (Ne.symm (hne15 _ Sfb1_15).1) (Ne.symm (hne15 _ Sfb1_15).2)).ext E63).other W66 (Ne.symm (hne15 _ Sfb1_15).1) (Ne.symm (hne15 _ Sfb1_15).2))
  have f72 : Str Z h66 sa19 sd19 kc19 lit8 := (((((((((((((((((((((((Ls19.other W22 (Ne.symm (hne19 _ Sfb1_19).1) (Ne.symm (hne19 _ Sfb1_19).2)).ext E23).other W26 (Ne.symm (hne19 _ Sfb1_19).1) (Ne.symm (hne19 _ Sfb1_19).2)).ext E27).other W30 (Ne.symm (hne19 _ Sfb1_19).1) (Ne.symm (hne19 _ Sfb1_19).2)).ext E31).other W34 (Ne.symm (hne19 _ Sfb1_19).1) (Ne.symm (hne19 _ Sfb1_19).2)).ext E35).other W38 (Ne.symm (hne19 _ Sfb1_19).1) (Ne.symm (hne19 _ Sfb1_19).2)).ext E39).other W42 (Ne.symm (hne19 _ Sfb1_19).1) (Ne.symm (hne19 _ Sfb1_19).2)).ext E43).other W46 (Ne.symm (hne19 _ Sfb1_19).1) (Ne.symm (hne19 _ Sfb1_19).2)).ext E47).other W50 (Ne.symm (hne19 _ Sfb1_19).1) (Ne.symm (hne19 _ Sfb1_19).2)).ext E51).other W54 (Ne.symm (hne19 _ Sfb1_19).1) (Ne.symm (hne19 _ Sfb1_19).2)).ext E55).other W58 (Ne.symm (hne19 _ Sfb1_19).1) (Ne.symm (hne19 _ Sfb1_19).2)).ext E59).other W62 (Ne.symm (hne19 _ Sfb1_19).1) (Ne.symm (hne19 _ Sfb1_19).2)).ext E63).other W66 (Ne.symm (hne19 _ Sfb1_19).1) (Ne.symm (hne19 _ Sfb1_19).2))
  have f73 : Str Z h66 sa23 sd23 kc23 lit9 := (((((((((((((((((((((Ls23.other W26 (Ne.symm (hne23 _ Sfb1_23).1) (Ne.symm (hne23 _ Sfb1_23).2)).ext E27).other W30 (Ne.symm (hne23 _ Sfb1_23).1) (Ne.symm (hne23 _ Sfb1_23).2)).ext E31).other W34 (Ne.symm (hne23 _ Sfb1_23).1) (Ne.symm (hne23 _ Sfb1_23).2)).ext E35).other W38 (Ne.symm (hne23 _ Sfb1_23).1) (Ne.symm (hne23 _ Sfb1_23).2)).ext E39).other W42 (Ne.symm (hne23 _ Sfb1_23).1) (Ne.symm (hne23 _ Sfb1_23).2)).ext E43).other W46 (Ne.symm (hne23 _ Sfb1_23).1) (Ne.symm (hne23 _ Sfb1_23).2)).ext E47).other W50 (Ne.symm (hne23 _ Sfb1_23).1) (Ne.symm (hne23 _ Sfb1_23).2)).ext E51).other W54 (Ne.symm (hne23 _ Sfb1_23).1) (Ne.symm (hne23 _ Sfb1_23).2)).ext E55).other W58 (Ne.symm (hne23 _ Sfb1_23).1) (Ne.symm (hne23 _ Sfb1_23).2)).ext E59).other W62 (Ne.symm (hne23 _ Sfb1_23).1) (Ne.symm (hne23 _ Sfb1_23).2)).ext E63).other W66 (Ne.symm (hne23 _ Sfb1_23).1) (Ne.symm (hne23 _ Sfb1_23).2))
  have f74 : Str Z h66 sa27 sd27 kc27 lit10 := (((((((((((((((((((Ls27.other W30 (Ne.symm (hne27 _ Sfb1_27).1) (Ne.symm (hne27 _ Sfb1_27).2)).ext E31).other W34 (Ne.symm (hne27 _ Sfb1_27).1) (Ne.symm (hne27 _ Sfb1_27).2)).ext E35).other W38 (Ne.symm (hne27 _ Sfb1_27).1) (Ne.symm (hne27 _ Sfb1_27).2)).ext E39).other W42 (Ne.symm (hne27 _ Sfb1_27).1) (Ne.symm (hne27 _ Sfb1_27).2)).ext E43).other W46 (Ne.symm (hne27 _ Sfb1_27).1) (Ne.symm (hne27 _ Sfb1_27).2)).ext E47).other W50 (Ne.symm (hne27 _ Sfb1_27).1) (Ne.symm (hne27 _ Sfb1_27).2)).ext E51).other W54 (Ne.symm (hne27 _ Sfb1_27).1) (Ne.symm (hne27 _ Sfb1_27).2)).ext E55).other W58 (Ne.symm (hne27 _ Sfb1_27).1) (Ne.symm (hne27 _ Sfb1_27).2)).ext E59).other W62 (Ne.symm (hne27 _ Sfb1_27).1) (Ne.symm (hne27 _ Sfb1_27).2)).ext E63).other W66 (Ne.symm (hne27 _ Sfb1_27).1) (Ne.symm (hne27 _ Sfb1_27).2))
  have f75 : Str Z h66 sa31 sd31 kc31 lit11 := (((((((((((((((((Ls31.other W34 (Ne.symm (hne31 _ Sfb1_31).1) (Ne.symm (hne31 _ Sfb1_31).2)).ext E35).other W38 (Ne.symm (hne31 _ Sfb1_31).1) (Ne.symm (hne31 _ Sfb1_31).2)).ext E39).other W42 (Ne.symm (hne31 _ Sfb1_31).1) (Ne.symm (hne31 _ Sfb1_31).2)).ext E43).other W46 (Ne.symm (hne31 _ Sfb1_31).1) (Ne.symm (hne31 _ Sfb1_31).2)).ext E47).other W50 (Ne.symm (hne31 _ Sfb1_31).1) (Ne.symm (hne31 _ Sfb1_31).2)).ext E51).other W54 (Ne.symm (hne31 _ Sfb1_31).1) (Ne.symm (hne31 _ Sfb1_31).2)).ext E55).other W58 (Ne.symm (hne31 _ Sfb1_31).1) (Ne.symm (hne31 _ Sfb1_31).2)).ext E59).other W62 (Ne.symm (hne31 _ Sfb1_31).1) (Ne.symm (hne31 _ Sfb1_31).2)).ext E63).other W66 (Ne.symm (hne31 _ Sfb1_31).1) (Ne.symm (hne31 _ Sfb1_31).2))
  have f76 : Str Z h66 sa35 sd35 kc35 lit12 := (((((((((((((((Ls35.other W38 (Ne.symm (hne35 _ Sfb1_35).1) (Ne.symm (hne35 _ Sfb1_35).2)).ext E39).other W42 (Ne.symm (hne35 _ Sfb1_35).1) (Ne.symm (hne35 _ Sfb1_35).2)).ext E43).other W46 (Ne.symm (hne35 _ Sfb1_35).1) (Ne.symm (hne35 _ Sfb1_35).2)).ext E47).other W50 (Ne.symm (hne35 _ Sfb1_35).1) (Ne.symm (hne35 _ Sfb1_35).2)).ext E51).other W54 (Ne.symm (hne35 _ Sfb1_35).1) (Ne.symm (hne35 _ Sfb1_35).2)).ext E55).other W58 (Ne.symm (hne35 _ Sfb1_35).1) (Ne.symm (hne35 _ Sfb1_35).2)).ext E59).other W62 (Ne.symm (hne35 _ Sfb1_35).1) (Ne.symm (hne35 _ Sfb1_35).2)).ext E63).other W66 (Ne.symm (hne35 _ Sfb1_35).1) (Ne.symm (hne35 _ Sfb1_35).2))
  have f77 : Str Z h66 sa39 sd39 kc39 lit13 := (((((((((((((Ls39.other W42 (Ne.symm (hne39 _ Sfb1_39).1) (Ne.symm (hne39 _ Sfb1_39).2)).ext E43).other W46 (Ne.symm (hne39 _ Sfb1_39).1) (Ne.symm (hne39 _ Sfb1_39).2)).ext E47).other W50 (Ne.symm (hne39 _ Sfb1_39).1) (Ne.symm (hne39 _ Sfb1_39).2)).ext E51).other W54 (Ne.symm (hne39 _ Sfb1_39).1) (Ne.symm (hne39 _ Sfb1_39).2)).ext E55).other W58 (Ne.symm (hne39 _ Sfb1_39).1) (Ne.symm (hne39 _ Sfb1_39).2)).ext E59).other W62 (Ne.symm (hne39 _ Sfb1_39).1) (Ne.symm (hne39 _ Sfb1_39).2)).ext E63).other W66 (Ne.symm (hne39 _ Sfb1_39).1) (Ne.symm (hne39 _ Sfb1_39).2))
  have f78 : Str Z h66 sa43 sd43 kc43 lit14 := (((((((((((Ls43.other W46 (Ne.symm (hne43 _ Sfb1_43).1) (Ne.symm (hne43 _ Sfb1_43).2)).ext E47).other W50 (Ne.symm (hne43 _ Sfb1_43).1) (Ne.symm (hne43 _ Sfb1_43).2)).ext E51).other W54 (Ne.symm (hne43 _ Sfb1_43).1) (Ne.symm (hne43 _ Sfb1_43).2)).ext E55).other W58 (Ne.symm (hne43 _ Sfb1_43).1) (Ne.symm (hne43 _ Sfb1_43).2)).ext E59).other W62 (Ne.symm (hne43 _ Sfb1_43).1) (Ne.symm (hne43 _ Sfb1_43).2)).ext E63).other W66 (Ne.symm (hne43 _ Sfb1_43).1) (Ne.symm (hne43 _ Sfb1_43).2))
  have f79 : Str Z h66 sa47 sd47 kc47 lit15 := (((((((((Ls47.other W50 (Ne.symm (hne47 _ Sfb1_47).1) (Ne.symm (hne47 _ Sfb1_47).2)).ext E51).other W54 (Ne.symm (hne47 _ Sfb1_47).1) (Ne.symm (hne47 _ Sfb1_47).2)).ext E55).other W58 (Ne.symm (hne47 _ Sfb1_47).1) (Ne.symm (hne47 _ Sfb1_47).2)).ext E59).other W62 (Ne.symm (hne47 _ Sfb1_47).1) (Ne.symm (hne47 _ Sfb1_47).2)).ext E63).other W66 (Ne.symm (hne47 _ Sfb1_47).1) (Ne.symm (hne47 _ Sfb1_47).2))
  have f80 : Str Z h66 sa51 sd51 kc51 lit16 := (((((((Ls51.other W54 (Ne.symm (hne51 _ Sfb1_51).1) (Ne.symm (hne51 _ Sfb1_51).2)).ext E55).other W58 (Ne.symm (hne51 _ Sfb1_51).1) (Ne.symm (hne51 _ Sfb1_51).2)).ext E59).other W62 (Ne.symm (hne51 _ Sfb1_51).1) (Ne.symm (hne51 _ Sfb1_51).2)).ext E63).other W66 (Ne.symm (hne51 _ Sfb1_51).1) (Ne.symm (hne51 _ Sfb1_51).2))
  have f81 : Str Z h66 sa55 sd55 kc55 lit17 := (((((Ls55.other W58 (Ne.symm (hne55 _ Sfb1_55).1) (Ne.symm (hne55 _ Sfb1_55).2)).ext E59).other W62 (Ne.symm (hne55 _ Sfb1_55).1) (Ne.symm (hne55 _ Sfb1_55).2)).ext E63).other W66 (Ne.symm (hne55 _ Sfb1_55).1) (Ne.symm (hne55 _ Sfb1_55).2))
  have f82 : Str Z h66 sa59 sd59 kc59 lit18 := (((Ls59.other W62 (Ne.symm (hne59 _ Sfb1_59).1) (Ne.symm (hne59 _ Sfb1_59).2)).ext E63).other W66 (Ne.symm (hne59 _ Sfb1_59).1) (Ne.symm (hne59 _ Sfb1_59).2))
  have f83 : Str Z h66 sa63 sd63 kc63 lit19 := (Ls63.other W66 (Ne.symm (hne63 _ Sfb1_63).1) (Ne.symm (hne63 _ Sfb1_63).2))
  obtain ⟨yy, ty, ky, hv, Sy⟩ := own_pick0 hnn f68 f69 f70 f71 f72 f73 f74 f75 f76 f77 f78 f79 f80 f81 f82 f83
  obtain ⟨Es84, Vs84, Cs84, As84⟩ := id Sy
  obtain ⟨T85, h85, k85, X85, e85, E85, A85, Ov85, st85⟩ := newR X66 hx hZ63 ho63 (hw _ (List.mem_of_getElem? (i := 0) rfl)) (hw _ (List.mem_of_getElem? (i := 1) rfl)) e66 (g := (mkF m 116 #[.val (.int p0), .val (.int p1), .val (.int (Int32.ofNat nn)), .val (.int (0 : Int32)), .val (.ref b1), .unset, .unset, .unset, .unset, .unset] [(.int (16 : Int32))])) rfl (hb hby at_116) rfl (by decide) (cap := 16) (by decide) (by decide) (by decide) (by decide)
  obtain ⟨b85, g85⟩ : ∃ z, z = h66.size := ⟨_, rfl⟩
  rw [← g85] at A85 st85
  have gb85 : n0 ≤ b85 := by have q1 := O66.1; have q2 := O66.2.1; omega
  have gs85 : h0.size ≤ b85 := by have q := (Kp66).1; omega
  have V85 : Arv Z h85 b85 k85 (.object "java/lang/String") (16 : Int32) [.null, .null, .null, .null, .null, .null, .null, .null, .null, .null, .null, .null, .null, .null, .null, .null] .null := (Arv.new A85 (by decide)).pad (pad_rep [] .null 16)
  have O85 : Old Z n0 h85 := O66.ext E85
  have Kp85 : Keep h0 h85 [] := Kp66.ext E85
  have Cl85 : CHr Z EL T63.vm h66 T63.vm h85 := CHr.ext E85 CH66
  have Sfb1_85 : Safe Z EL T63.vm h85 b1 := Cl85.safe V66.lt Sfb1_66
  have CR85 : CHr Z EL s.vm h0 T63.vm h85 := CR66.trans Cl85
  have CH85 := CR85.1
  have hk85 : _ ≤ h85.size := Nat.le_trans hk66 Cl85.2.1
  have Sfb85_86 : Safe Z EL T63.vm h85 b85 := Safe.ext E85 CH66 (Safe.new (Nat.le_of_eq g85.symm))
  have f87 : Arv Z h85 b1 k1 (.object "java/lang/String") (16 : Int32) [(.ref sa3), (.ref sa7), (.ref sa11), (.ref sa15), (.ref sa19), (.ref sa23), (.ref sa27), (.ref sa31), (.ref sa35), (.ref sa39), (.ref sa43), (.ref sa47), (.ref sa51), (.ref sa55), (.ref sa59), (.ref sa63)] .null := (V66.ext E85)
  have f88 : Exa Z h85 yy "java/lang/String" := (Es84.ext E85)
  have f89 : Fld Z h85 yy "java/lang/String" "value" "[B" (.ref ty) := (Vs84.ext E85)
  have f90 : Fld Z h85 yy "java/lang/String" "coder" "B" (.int (0 : Int32)) := (Cs84.ext E85)
  have f91 : Arv Z h85 ty ky .byte (Int32.ofNat (msg0 nn).length) (by8 (msg0 nn)) (.int (0 : Int32)) := (As84.ext E85)
  obtain ⟨sa92, T92, h92, k92, sd92, kc92, X92, e92, E92, hS92, hk92, hZ92, ho92, Es92, Cs92, Vs92, As92, la92, lb92, Cq92, hL92, hne92, st92⟩ := ldcCH X85 hx hZ63 ho63 (hw _ (List.mem_of_getElem? (i := 26) rfl)) (own_wS hw) e85 hS63 hk85 hEL (by simp [EL, consts_1]) CH85 (vs := by8 lit20) (z := Int32.ofNat lit20.length) ⟨by decide, rfl⟩ (by decide) (by decide) (g := (mkF m 121 #[.val (.int p0), .val (.int p1), .val (.int (Int32.ofNat nn)), .val (.int (0 : Int32)), .val (.ref b1), .unset, .unset, .unset, .unset, .unset] [(.int (0 : Int32)), (.ref b85), (.ref b85)])) rfl (hb hby at_121) (n := 124) (by decide) (by decide) (by decide) (by decide)
  have O92 : Old Z n0 h92 := O85.ext E92
  have Kp92 : Keep h0 h92 [] := Kp85.ext E92
  have Cl92 : CHr Z EL T63.vm h85 T92.vm h92 := Cq92
  have Sfb1_92 : Safe Z EL T92.vm h92 b1 := Cl92.safe f87.lt Sfb1_85
  have Sfb85_92 : Safe Z EL T92.vm h92 b85 := Cl92.safe V85.lt Sfb85_86
  have CR92 : CHr Z EL s.vm h0 T92.vm h92 := CR85.trans Cl92
  have CH92 := CR92.1
  have Ls92 : Str Z h92 sa92 sd92 kc92 lit20 := ⟨Es92, Vs92, Cs92, As92⟩
  have f93 : Arv Z h92 b1 k1 (.object "java/lang/String") (16 : Int32) [(.ref sa3), (.ref sa7), (.ref sa11), (.ref sa15), (.ref sa19), (.ref sa23), (.ref sa27), (.ref sa31), (.ref sa35), (.ref sa39), (.ref sa43), (.ref sa47), (.ref sa51), (.ref sa55), (.ref sa59), (.ref sa63)] .null := (f87.ext E92)
  have f94 : Arv Z h92 b85 k85 (.object "java/lang/String") (16 : Int32) [.null, .null, .null, .null, .null, .null, .null, .null, .null, .null, .null, .null, .null, .null, .null, .null] .null := (V85.ext E92)
  obtain ⟨cw95, A95, q95, s95, n95, H95, G95⟩ := id f94
  obtain ⟨T96, h96, X96, e96, W96, st96⟩ := stR X92 hx hZ92 e92 A95 (j := (0 : Int32)) (inb_of s95 ⟨by decide, by decide⟩) rfl (Sto.ofV A95 q95 Ov85 (Ins.self Ls92.1)) (g := (mkF m 123 #[.val (.int p0), .val (.int p1), .val (.int (Int32.ofNat nn)), .val (.int (0 : Int32)), .val (.ref b1), .unset, .unset, .unset, .unset, .unset] [(.ref sa92), (.int (0 : Int32)), (.ref b85), (.ref b85)])) rfl rfl (hb hby at_123)
  have V96 : Arv Z h96 b85 k85 (.object "java/lang/String") (16 : Int32) [(.ref sa92), .null, .null, .null, .null, .null, .null, .null, .null, .null, .null, .null, .null, .null, .null, .null] .null := Arv.set A95 q95 s95 n95 H95 G95 rfl W96 0 rfl (Nat.le_of_ble_eq_true rfl)
  have N96 := Fr.snoc X96 N66 gb85
  have O96 : Old Z n0 h96 := O92.wr W96 gb85
  have Kp96 : Keep h0 h96 [] := Kp92.wr W96 (Or.inr gs85)
  have Cl96 : CHr Z EL T92.vm h92 T92.vm h96 := CHr.wr W96 Sfb85_92 CH92
  have Sfb1_96 : Safe Z EL T92.vm h96 b1 := Cl96.safe f93.lt Sfb1_92
  have Sfb85_96 : Safe Z EL T92.vm h96 b85 := Cl96.safe f94.lt Sfb85_92
  have CR96 : CHr Z EL s.vm h0 T92.vm h96 := CR92.trans Cl96
  have CH96 := CR96.1
  have hk96 : _ ≤ h96.size := Nat.le_trans hk92 Cl96.2.1
  have f97 : Arv Z h96 b1 k1 (.object "java/lang/String") (16 : Int32) [(.ref sa3), (.ref sa7), (.ref sa11), (.ref sa15), (.ref sa19), (.ref sa23), (.ref sa27), (.ref sa31), (.ref sa35), (.ref sa39), (.ref sa43), (.ref sa47), (.ref sa51), (.ref sa55), (.ref sa59), (.ref sa63)] .null := (f93.other W96 (Nat.ne_of_lt (Nat.lt_of_lt_of_le V66.lt (Nat.le_of_eq g85.symm))))
  have f98 : Exa Z h96 yy "java/lang/String" := ((f88.ext E92).wr W96)
  have f99 : Fld Z h96 yy "java/lang/String" "value" "[B" (.ref ty) := ((f89.ext E92).other W96 (Or.inl (Nat.ne_of_lt (Nat.lt_of_lt_of_le Cs84.lt (Nat.le_of_eq g85.symm)))))
  have f100 : Fld Z h96 yy "java/lang/String" "coder" "B" (.int (0 : Int32)) := ((f90.ext E92).other W96 (Or.inl (Nat.ne_of_lt (Nat.lt_of_lt_of_le Cs84.lt (Nat.le_of_eq g85.symm)))))
  have f101 : Arv Z h96 ty ky .byte (Int32.ofNat (msg0 nn).length) (by8 (msg0 nn)) (.int (0 : Int32)) := ((f91.ext E92).other W96 (Nat.ne_of_lt (Nat.lt_of_lt_of_le As84.lt (Nat.le_of_eq g85.symm))))
  obtain ⟨sa102, T102, h102, k102, sd102, kc102, X102, e102, E102, hS102, hk102, hZ102, ho102, Es102, Cs102, Vs102, As102, la102, lb102, Cq102, hL102, hne102, st102⟩ := ldcCH X96 hx hZ92 ho92 (hw _ (List.mem_of_getElem? (i := 27) rfl)) (own_wS hw) e96 hS92 hk96 hEL (by simp [EL, consts_1]) CH96 (vs := by8 lit21) (z := Int32.ofNat lit21.length) ⟨by decide, rfl⟩ (by decide) (by decide) (g := (mkF m 126 #[.val (.int p0), .val (.int p1), .val (.int (Int32.ofNat nn)), .val (.int (0 : Int32)), .val (.ref b1), .unset, .unset, .unset, .unset, .unset] [(.int (1 : Int32)), (.ref b85), (.ref b85)])) rfl (hb hby at_126) (n := 124) (by decide) (by decide) (by decide) (by decide)
  have O102 : Old Z n0 h102 := O96.ext E102
  have Kp102 : Keep h0 h102 [] := Kp96.ext E102
  have Cl102 : CHr Z EL T92.vm h96 T102.vm h102 := Cq102
  have Sfb1_102 : Safe Z EL T102.vm h102 b1 := Cl102.safe f97.lt Sfb1_96
  have Sfb85_102 : Safe Z EL T102.vm h102 b85 := Cl102.safe V96.lt Sfb85_96
  have CR102 : CHr Z EL s.vm h0 T102.vm h102 := CR96.trans Cl102
  have CH102 := CR102.1
  have Ls102 : Str Z h102 sa102 sd102 kc102 lit21 := ⟨Es102, Vs102, Cs102, As102⟩
  have f103 : Arv Z h102 b1 k1 (.object "java/lang/String") (16 : Int32) [(.ref sa3), (.ref sa7), (.ref sa11), (.ref sa15), (.ref sa19), (.ref sa23), (.ref sa27), (.ref sa31), (.ref sa35), (.ref sa39), (.ref sa43), (.ref sa47), (.ref sa51), (.ref sa55), (.ref sa59), (.ref sa63)] .null := (f97.ext E102)
  have f104 : Arv Z h102 b85 k85 (.object "java/lang/String") (16 : Int32) [(.ref sa92), .null, .null, .null, .null, .null, .null, .null, .null, .null, .null, .null, .null, .null, .null, .null] .null := (V96.ext E102)
  obtain ⟨cw105, A105, q105, s105, n105, H105, G105⟩ := id f104
  obtain ⟨T106, h106, X106, e106, W106, st106⟩ := stR X102 hx hZ102 e102 A105 (j := (1 : Int32)) (inb_of s105 ⟨by decide, by decide⟩) rfl (Sto.ofV A105 q105 Ov85 (Ins.self Ls102.1)) (g := (mkF m 128 #[.val (.int p0), .val (.int p1), .val (.int (Int32.ofNat nn)), .val (.int (0 : Int32)), .val (.ref b1), .unset, .unset, .unset, .unset, .unset] [(.ref sa102), (.int (1 : Int32)), (.ref b85), (.ref b85)])) rfl rfl (hb hby at_128)
  have V106 : Arv Z h106 b85 k85 (.object "java/lang/String") (16 : Int32) [(.ref sa92), (.ref sa102), .null, .null, .null, .null, .null, .null, .null, .null, .null, .null, .null, .null, .null, .null] .null := Arv.set A105 q105 s105 n105 H105 G105 rfl W106 1 rfl (Nat.le_of_ble_eq_true rfl)
  have N106 := Fr.snoc X106 N96 gb85
  have O106 : Old Z n0 h106 := O102.wr W106 gb85
  have Kp106 : Keep h0 h106 [] := Kp102.wr W106 (Or.inr gs85)
  have Cl106 : CHr Z EL T102.vm h102 T102.vm h106 := CHr.wr W106 Sfb85_102 CH102
  have Sfb1_106 : Safe Z EL T102.vm h106 b1 := Cl106.safe f103.lt Sfb1_102
  have Sfb85_106 : Safe Z EL T102.vm h106 b85 := Cl106.safe f104.lt Sfb85_102
  have CR106 : CHr Z EL s.vm h0 T102.vm h106 := CR102.trans Cl106
  have CH106 := CR106.1
  have hk106 : _ ≤ h106.size := Nat.le_trans hk102 Cl106.2.1
  have f107 : Arv Z h106 b1 k1 (.object "java/lang/String") (16 : Int32) [(.ref sa3), (.ref sa7), (.ref sa11), (.ref sa15), (.ref sa19), (.ref sa23), (.ref sa27), (.ref sa31), (.ref sa35), (.ref sa39), (.ref sa43), (.ref sa47), (.ref sa51), (.ref sa55), (.ref sa59), (.ref sa63)] .null := (f103.other W106 (Nat.ne_of_lt (Nat.lt_of_lt_of_le V66.lt (Nat.le_of_eq g85.symm))))
  have f108 : Exa Z h106 yy "java/lang/String" := ((f98.ext E102).wr W106)
  have f109 : Fld Z h106 yy "java/lang/String" "value" "[B" (.ref ty) := ((f99.ext E102).other W106 (Or.inl (Nat.ne_of_lt (Nat.lt_of_lt_of_le Cs84.lt (Nat.le_of_eq g85.symm)))))
  have f110 : Fld Z h106 yy "java/lang/String" "coder" "B" (.int (0 : Int32)) := ((f100.ext E102).other W106 (Or.inl (Nat.ne_of_lt (Nat.lt_of_lt_of_le Cs84.lt (Nat.le_of_eq g85.symm)))))
  have f111 : Arv Z h106 ty ky .byte (Int32.ofNat (msg0 nn).length) (by8 (msg0 nn)) (.int (0 : Int32)) := ((f101.ext E102).other W106 (Nat.ne_of_lt (Nat.lt_of_lt_of_le As84.lt (Nat.le_of_eq g85.symm))))
  obtain ⟨sa112, T112, h112, k112, sd112, kc112, X112, e112, E112, hS112, hk112, hZ112, ho112, Es112, Cs112, Vs112, As112, la112, lb112, Cq112, hL112, hne112, st112⟩ := ldcCH X106 hx hZ102 ho102 (hw _ (List.mem_of_getElem? (i := 28) rfl)) (own_wS hw) e106 hS102 hk106 hEL (by simp [EL, consts_1]) CH106 (vs := by8 lit22) (z := Int32.ofNat lit22.length) ⟨by decide, rfl⟩ (by decide) (by decide) (g := (mkF m 131 #[.val (.int p0), .val (.int p1), .val (.int (Int32.ofNat nn)), .val (.int (0 : Int32)), .val (.ref b1), .unset, .unset, .unset, .unset, .unset] [(.int (2 : Int32)), (.ref b85), (.ref b85)])) rfl (hb hby at_131) (n := 124) (by decide) (by decide) (by decide) (by decide)
  have O112 : Old Z n0 h112 := O106.ext E112
  have Kp112 : Keep h0 h112 [] := Kp106.ext E112
  have Cl112 : CHr Z EL T102.vm h106 T112.vm h112 := Cq112
  have Sfb1_112 : Safe Z EL T112.vm h112 b1 := Cl112.safe f107.lt Sfb1_106
  have Sfb85_112 : Safe Z EL T112.vm h112 b85 := Cl112.safe V106.lt Sfb85_106
  have CR112 : CHr Z EL s.vm h0 T112.vm h112 := CR106.trans Cl112
  have CH112 := CR112.1
  have Ls112 : Str Z h112 sa112 sd112 kc112 lit22 := ⟨Es112, Vs112, Cs112, As112⟩
  have f113 : Arv Z h112 b1 k1 (.object "java/lang/String") (16 : Int32) [(.ref sa3), (.ref sa7), (.ref sa11), (.ref sa15), (.ref sa19), (.ref sa23), (.ref sa27), (.ref sa31), (.ref sa35), (.ref sa39), (.ref sa43), (.ref sa47), (.ref sa51), (.ref sa55), (.ref sa59), (.ref sa63)] .null := (f107.ext E112)
  have f114 : Arv Z h112 b85 k85 (.object "java/lang/String") (16 : Int32) [(.ref sa92), (.ref sa102), .null, .null, .null, .null, .null, .null, .null, .null, .null, .null, .null, .null, .null, .null] .null := (V106.ext E112)
  obtain ⟨cw115, A115, q115, s115, n115, H115, G115⟩ := id f114
  obtain ⟨T116, h116, X116, e116, W116, st116⟩ := stR X112 hx hZ112 e112 A115 (j := (2 : Int32)) (inb_of s115 ⟨by decide, by decide⟩) rfl (Sto.ofV A115 q115 Ov85 (Ins.self Ls112.1)) (g := (mkF m 133 #[.val (.int p0), .val (.int p1), .val (.int (Int32.ofNat nn)), .val (.int (0 : Int32)), .val (.ref b1), .unset, .unset, .unset, .unset, .unset] [(.ref sa112), (.int (2 : Int32)), (.ref b85), (.ref b85)])) rfl rfl (hb hby at_133)
  have V116 : Arv Z h116 b85 k85 (.object "java/lang/String") (16 : Int32) [(.ref sa92), (.ref sa102), (.ref sa112), .null, .null, .null, .null, .null, .null, .null, .null, .null, .null, .null, .null, .null] .null := Arv.set A115 q115 s115 n115 H115 G115 rfl W116 2 rfl (Nat.le_of_ble_eq_true rfl)
  have N116 := Fr.snoc X116 N106 gb85
  have O116 : Old Z n0 h116 := O112.wr W116 gb85
  have Kp116 : Keep h0 h116 [] := Kp112.wr W116 (Or.inr gs85)
  have Cl116 : CHr Z EL T112.vm h112 T112.vm h116 := CHr.wr W116 Sfb85_112 CH112
  have Sfb1_116 : Safe Z EL T112.vm h116 b1 := Cl116.safe f113.lt Sfb1_112
  have Sfb85_116 : Safe Z EL T112.vm h116 b85 := Cl116.safe f114.lt Sfb85_112
  have CR116 : CHr Z EL s.vm h0 T112.vm h116 := CR112.trans Cl116
  have CH116 := CR116.1
  have hk116 : _ ≤ h116.size := Nat.le_trans hk112 Cl116.2.1
  have f117 : Arv Z h116 b1 k1 (.object "java/lang/String") (16 : Int32) [(.ref sa3), (.ref sa7), (.ref sa11), (.ref sa15), (.ref sa19), (.ref sa23), (.ref sa27), (.ref sa31), (.ref sa35), (.ref sa39), (.ref sa43), (.ref sa47), (.ref sa51), (.ref sa55), (.ref sa59), (.ref sa63)] .null := (f113.other W116 (Nat.ne_of_lt (Nat.lt_of_lt_of_le V66.lt (Nat.le_of_eq g85.symm))))
  have f118 : Exa Z h116 yy "java/lang/String" := ((f108.ext E112).wr W116)
  have f119 : Fld Z h116 yy "java/lang/String" "value" "[B" (.ref ty) := ((f109.ext E112).other W116 (Or.inl (Nat.ne_of_lt (Nat.lt_of_lt_of_le Cs84.lt (Nat.le_of_eq g85.symm)))))
  have f120 : Fld Z h116 yy "java/lang/String" "coder" "B" (.int (0 : Int32)) := ((f110.ext E112).other W116 (Or.inl (Nat.ne_of_lt (Nat.lt_of_lt_of_le Cs84.lt (Nat.le_of_eq g85.symm)))))
  have f121 : Arv Z h116 ty ky .byte (Int32.ofNat (msg0 nn).length) (by8 (msg0 nn)) (.int (0 : Int32)) := ((f111.ext E112).other W116 (Nat.ne_of_lt (Nat.lt_of_lt_of_le As84.lt (Nat.le_of_eq g85.symm))))
  obtain ⟨sa122, T122, h122, k122, sd122, kc122, X122, e122, E122, hS122, hk122, hZ122, ho122, Es122, Cs122, Vs122, As122, la122, lb122, Cq122, hL122, hne122, st122⟩ := ldcCH X116 hx hZ112 ho112 (hw _ (List.mem_of_getElem? (i := 29) rfl)) (own_wS hw) e116 hS112 hk116 hEL (by simp [EL, consts_1]) CH116 (vs := by8 lit23) (z := Int32.ofNat lit23.length) ⟨by decide, rfl⟩ (by decide) (by decide) (g := (mkF m 136 #[.val (.int p0), .val (.int p1), .val (.int (Int32.ofNat nn)), .val (.int (0 : Int32)), .val (.ref b1), .unset, .unset, .unset, .unset, .unset] [(.int (3 : Int32)), (.ref b85), (.ref b85)])) rfl (hb hby at_136) (n := 124) (by decide) (by decide) (by decide) (by decide)
  have O122 : Old Z n0 h122 := O116.ext E122
  have Kp122 : Keep h0 h122 [] := Kp116.ext E122
  have Cl122 : CHr Z EL T112.vm h116 T122.vm h122 := Cq122
  have Sfb1_122 : Safe Z EL T122.vm h122 b1 := Cl122.safe f117.lt Sfb1_116
  have Sfb85_122 : Safe Z EL T122.vm h122 b85 := Cl122.safe V116.lt Sfb85_116
  have CR122 : CHr Z EL s.vm h0 T122.vm h122 := CR116.trans Cl122
  have CH122 := CR122.1
  have Ls122 : Str Z h122 sa122 sd122 kc122 lit23 := ⟨Es122, Vs122, Cs122, As122⟩
  have f123 : Arv Z h122 b1 k1 (.object "java/lang/String") (16 : Int32) [(.ref sa3), (.ref sa7), (.ref sa11), (.ref sa15), (.ref sa19), (.ref sa23), (.ref sa27), (.ref sa31), (.ref sa35), (.ref sa39), (.ref sa43), (.ref sa47), (.ref sa51), (.ref sa55), (.ref sa59), (.ref sa63)] .null := (f117.ext E122)
  have f124 : Arv Z h122 b85 k85 (.object "java/lang/String") (16 : Int32) [(.ref sa92), (.ref sa102), (.ref sa112), .null, .null, .null, .null, .null, .null, .null, .null, .null, .null, .null, .null, .null] .null := (V116.ext E122)
  obtain ⟨cw125, A125, q125, s125, n125, H125, G125⟩ := id f124
  obtain ⟨T126, h126, X126, e126, W126, st126⟩ := stR X122 hx hZ122 e122 A125 (j := (3 : Int32)) (inb_of s125 ⟨by decide, by decide⟩) rfl (Sto.ofV A125 q125 Ov85 (Ins.self Ls122.1)) (g := (mkF m 138 #[.val (.int p0), .val (.int p1), .val (.int (Int32.ofNat nn)), .val (.int (0 : Int32)), .val (.ref b1), .unset, .unset, .unset, .unset, .unset] [(.ref sa122), (.int (3 : Int32)), (.ref b85), (.ref b85)])) rfl rfl (hb hby at_138)
  have V126 : Arv Z h126 b85 k85 (.object "java/lang/String") (16 : Int32) [(.ref sa92), (.ref sa102), (.ref sa112), (.ref sa122), .null, .null, .null, .null, .null, .null, .null, .null, .null, .null, .null, .null] .null := Arv.set A125 q125 s125 n125 H125 G125 rfl W126 3 rfl (Nat.le_of_ble_eq_true rfl)
  have N126 := Fr.snoc X126 N116 gb85
  have O126 : Old Z n0 h126 := O122.wr W126 gb85
  have Kp126 : Keep h0 h126 [] := Kp122.wr W126 (Or.inr gs85)
  have Cl126 : CHr Z EL T122.vm h122 T122.vm h126 := CHr.wr W126 Sfb85_122 CH122
  have Sfb1_126 : Safe Z EL T122.vm h126 b1 := Cl126.safe f123.lt Sfb1_122
  have Sfb85_126 : Safe Z EL T122.vm h126 b85 := Cl126.safe f124.lt Sfb85_122
  have CR126 : CHr Z EL s.vm h0 T122.vm h126 := CR122.trans Cl126
  have CH126 := CR126.1
  have hk126 : _ ≤ h126.size := Nat.le_trans hk122 Cl126.2.1
  have f127 : Arv Z h126 b1 k1 (.object "java/lang/String") (16 : Int32) [(.ref sa3), (.ref sa7), (.ref sa11), (.ref sa15), (.ref sa19), (.ref sa23), (.ref sa27), (.ref sa31), (.ref sa35), (.ref sa39), (.ref sa43), (.ref sa47), (.ref sa51), (.ref sa55), (.ref sa59), (.ref sa63)] .null := (f123.other W126 (Nat.ne_of_lt (Nat.lt_of_lt_of_le V66.lt (Nat.le_of_eq g85.symm))))
  have f128 : Exa Z h126 yy "java/lang/String" := ((f118.ext E122).wr W126)
  have f129 : Fld Z h126 yy "java/lang/String" "value" "[B" (.ref ty) := ((f119.ext E122).other W126 (Or.inl (Nat.ne_of_lt (Nat.lt_of_lt_of_le Cs84.lt (Nat.le_of_eq g85.symm)))))
  have f130 : Fld Z h126 yy "java/lang/String" "coder" "B" (.int (0 : Int32)) := ((f120.ext E122).other W126 (Or.inl (Nat.ne_of_lt (Nat.lt_of_lt_of_le Cs84.lt (Nat.le_of_eq g85.symm)))))
  have f131 : Arv Z h126 ty ky .byte (Int32.ofNat (msg0 nn).length) (by8 (msg0 nn)) (.int (0 : Int32)) := ((f121.ext E122).other W126 (Nat.ne_of_lt (Nat.lt_of_lt_of_le As84.lt (Nat.le_of_eq g85.symm))))
  obtain ⟨sa132, T132, h132, k132, sd132, kc132, X132, e132, E132, hS132, hk132, hZ132, ho132, Es132, Cs132, Vs132, As132, la132, lb132, Cq132, hL132, hne132, st132⟩ := ldcCH X126 hx hZ122 ho122 (hw _ (List.mem_of_getElem? (i := 30) rfl)) (own_wS hw) e126 hS122 hk126 hEL (by simp [EL, consts_1]) CH126 (vs := by8 lit24) (z := Int32.ofNat lit24.length) ⟨by decide, rfl⟩ (by decide) (by decide) (g := (mkF m 141 #[.val (.int p0), .val (.int p1), .val (.int (Int32.ofNat nn)), .val (.int (0 : Int32)), .val (.ref b1), .unset, .unset, .unset, .unset, .unset] [(.int (4 : Int32)), (.ref b85), (.ref b85)])) rfl (hb hby at_141) (n := 124) (by decide) (by decide) (by decide) (by decide)
  have O132 : Old Z n0 h132 := O126.ext E132
  have Kp132 : Keep h0 h132 [] := Kp126.ext E132
  have Cl132 : CHr Z EL T122.vm h126 T132.vm h132 := Cq132
  have Sfb1_132 : Safe Z EL T132.vm h132 b1 := Cl132.safe f127.lt Sfb1_126
  have Sfb85_132 : Safe Z EL T132.vm h132 b85 := Cl132.safe V126.lt Sfb85_126
  have CR132 : CHr Z EL s.vm h0 T132.vm h132 := CR126.trans Cl132
  have CH132 := CR132.1
  have Ls132 : Str Z h132 sa132 sd132 kc132 lit24 := ⟨Es132, Vs132, Cs132, As132⟩
  have f133 : Arv Z h132 b1 k1 (.object "java/lang/String") (16 : Int32) [(.ref sa3), (.ref sa7), (.ref sa11), (.ref sa15), (.ref sa19), (.ref sa23), (.ref sa27), (.ref sa31), (.ref sa35), (.ref sa39), (.ref sa43), (.ref sa47), (.ref sa51), (.ref sa55), (.ref sa59), (.ref sa63)] .null := (f127.ext E132)
  have f134 : Arv Z h132 b85 k85 (.object "java/lang/String") (16 : Int32) [(.ref sa92), (.ref sa102), (.ref sa112), (.ref sa122), .null, .null, .null, .null, .null, .null, .null, .null, .null, .null, .null, .null] .null := (V126.ext E132)
  obtain ⟨cw135, A135, q135, s135, n135, H135, G135⟩ := id f134
  obtain ⟨T136, h136, X136, e136, W136, st136⟩ := stR X132 hx hZ132 e132 A135 (j := (4 : Int32)) (inb_of s135 ⟨by decide, by decide⟩) rfl (Sto.ofV A135 q135 Ov85 (Ins.self Ls132.1)) (g := (mkF m 143 #[.val (.int p0), .val (.int p1), .val (.int (Int32.ofNat nn)), .val (.int (0 : Int32)), .val (.ref b1), .unset, .unset, .unset, .unset, .unset] [(.ref sa132), (.int (4 : Int32)), (.ref b85), (.ref b85)])) rfl rfl (hb hby at_143)
  have V136 : Arv Z h136 b85 k85 (.object "java/lang/String") (16 : Int32) [(.ref sa92), (.ref sa102), (.ref sa112), (.ref sa122), (.ref sa132), .null, .null, .null, .null, .null, .null, .null, .null, .null, .null, .null] .null := Arv.set A135 q135 s135 n135 H135 G135 rfl W136 4 rfl (Nat.le_of_ble_eq_true rfl)
  have N136 := Fr.snoc X136 N126 gb85
  have O136 : Old Z n0 h136 := O132.wr W136 gb85
  have Kp136 : Keep h0 h136 [] := Kp132.wr W136 (Or.inr gs85)
  have Cl136 : CHr Z EL T132.vm h132 T132.vm h136 := CHr.wr W136 Sfb85_132 CH132
  have Sfb1_136 : Safe Z EL T132.vm h136 b1 := Cl136.safe f133.lt Sfb1_132
  have Sfb85_136 : Safe Z EL T132.vm h136 b85 := Cl136.safe f134.lt Sfb85_132
  have CR136 : CHr Z EL s.vm h0 T132.vm h136 := CR132.trans Cl136
  have CH136 := CR136.1
  have hk136 : _ ≤ h136.size := Nat.le_trans hk132 Cl136.2.1
  have f137 : Arv Z h136 b1 k1 (.object "java/lang/String") (16 : Int32) [(.ref sa3), (.ref sa7), (.ref sa11), (.ref sa15), (.ref sa19), (.ref sa23), (.ref sa27), (.ref sa31), (.ref sa35), (.ref sa39), (.ref sa43), (.ref sa47), (.ref sa51), (.ref sa55), (.ref sa59), (.ref sa63)] .null := (f133.other W136 (Nat.ne_of_lt (Nat.lt_of_lt_of_le V66.lt (Nat.le_of_eq g85.symm))))
  have f138 : Exa Z h136 yy "java/lang/String" := ((f128.ext E132).wr W136)
  have f139 : Fld Z h136 yy "java/lang/String" "value" "[B" (.ref ty) := ((f129.ext E132).other W136 (Or.inl (Nat.ne_of_lt (Nat.lt_of_lt_of_le Cs84.lt (Nat.le_of_eq g85.symm)))))
  have f140 : Fld Z h136 yy "java/lang/String" "coder" "B" (.int (0 : Int32)) := ((f130.ext E132).other W136 (Or.inl (Nat.ne_of_lt (Nat.lt_of_lt_of_le Cs84.lt (Nat.le_of_eq g85.symm)))))
  have f141 : Arv Z h136 ty ky .byte (Int32.ofNat (msg0 nn).length) (by8 (msg0 nn)) (.int (0 : Int32)) := ((f131.ext E132).other W136 (Nat.ne_of_lt (Nat.lt_of_lt_of_le As84.lt (Nat.le_of_eq g85.symm))))
  obtain ⟨sa142, T142, h142, k142, sd142, kc142, X142, e142, E142, hS142, hk142, hZ142, ho142, Es142, Cs142, Vs142, As142, la142, lb142, Cq142, hL142, hne142, st142⟩ := ldcCH X136 hx hZ132 ho132 (hw _ (List.mem_of_getElem? (i := 31) rfl)) (own_wS hw) e136 hS132 hk136 hEL (by simp [EL, consts_1]) CH136 (vs := by8 lit25) (z := Int32.ofNat lit25.length) ⟨by decide, rfl⟩ (by decide) (by decide) (g := (mkF m 146 #[.val (.int p0), .val (.int p1), .val (.int (Int32.ofNat nn)), .val (.int (0 : Int32)), .val (.ref b1), .unset, .unset, .unset, .unset, .unset] [(.int (5 : Int32)), (.ref b85), (.ref b85)])) rfl (hb hby at_146) (n := 124) (by decide) (by decide) (by decide) (by decide)
  have O142 : Old Z n0 h142 := O136.ext E142
  have Kp142 : Keep h0 h142 [] := Kp136.ext E142
  have Cl142 : CHr Z EL T132.vm h136 T142.vm h142 := Cq142
  have Sfb1_142 : Safe Z EL T142.vm h142 b1 := Cl142.safe f137.lt Sfb1_136
  have Sfb85_142 : Safe Z EL T142.vm h142 b85 := Cl142.safe V136.lt Sfb85_136
  have CR142 : CHr Z EL s.vm h0 T142.vm h142 := CR136.trans Cl142
  have CH142 := CR142.1
  have Ls142 : Str Z h142 sa142 sd142 kc142 lit25 := ⟨Es142, Vs142, Cs142, As142⟩
  have f143 : Arv Z h142 b1 k1 (.object "java/lang/String") (16 : Int32) [(.ref sa3), (.ref sa7), (.ref sa11), (.ref sa15), (.ref sa19), (.ref sa23), (.ref sa27), (.ref sa31), (.ref sa35), (.ref sa39), (.ref sa43), (.ref sa47), (.ref sa51), (.ref sa55), (.ref sa59), (.ref sa63)] .null := (f137.ext E142)
  have f144 : Arv Z h142 b85 k85 (.object "java/lang/String") (16 : Int32) [(.ref sa92), (.ref sa102), (.ref sa112), (.ref sa122), (.ref sa132), .null, .null, .null, .null, .null, .null, .null, .null, .null, .null, .null] .null := (V136.ext E142)
  obtain ⟨cw145, A145, q145, s145, n145, H145, G145⟩ := id f144
  obtain ⟨T146, h146, X146, e146, W146, st146⟩ := stR X142 hx hZ142 e142 A145 (j := (5 : Int32)) (inb_of s145 ⟨by decide, by decide⟩) rfl (Sto.ofV A145 q145 Ov85 (Ins.self Ls142.1)) (g := (mkF m 148 #[.val (.int p0), .val (.int p1), .val (.int (Int32.ofNat nn)), .val (.int (0 : Int32)), .val (.ref b1), .unset, .unset, .unset, .unset, .unset] [(.ref sa142), (.int (5 : Int32)), (.ref b85), (.ref b85)])) rfl rfl (hb hby at_148)
  have V146 : Arv Z h146 b85 k85 (.object "java/lang/String") (16 : Int32) [(.ref sa92), (.ref sa102), (.ref sa112), (.ref sa122), (.ref sa132), (.ref sa142), .null, .null, .null, .null, .null, .null, .null, .null, .null, .null] .null := Arv.set A145 q145 s145 n145 H145 G145 rfl W146 5 rfl (Nat.le_of_ble_eq_true rfl)
  have N146 := Fr.snoc X146 N136 gb85
  have O146 : Old Z n0 h146 := O142.wr W146 gb85
  have Kp146 : Keep h0 h146 [] := Kp142.wr W146 (Or.inr gs85)
  have Cl146 : CHr Z EL T142.vm h142 T142.vm h146 := CHr.wr W146 Sfb85_142 CH142
  have Sfb1_146 : Safe Z EL T142.vm h146 b1 := Cl146.safe f143.lt Sfb1_142
  have Sfb85_146 : Safe Z EL T142.vm h146 b85 := Cl146.safe f144.lt Sfb85_142
  have CR146 : CHr Z EL s.vm h0 T142.vm h146 := CR142.trans Cl146
  have CH146 := CR146.1
  have hk146 : _ ≤ h146.size := Nat.le_trans hk142 Cl146.2.1
  have f147 : Arv Z h146 b1 k1 (.object "java/lang/String") (16 : Int32) [(.ref sa3), (.ref sa7), (.ref sa11), (.ref sa15), (.ref sa19), (.ref sa23), (.ref sa27), (.ref sa31), (.ref sa35), (.ref sa39), (.ref sa43), (.ref sa47), (.ref sa51), (.ref sa55), (.ref sa59), (.ref sa63)] .null := (f143.other W146 (Nat.ne_of_lt (Nat.lt_of_lt_of_le V66.lt (Nat.le_of_eq g85.symm))))
  have f148 : Exa Z h146 yy "java/lang/String" := ((f138.ext E142).wr W146)
  have f149 : Fld Z h146 yy "java/lang/String" "value" "[B" (.ref ty) := ((f139.ext E142).other W146 (Or.inl (Nat.ne_of_lt (Nat.lt_of_lt_of_le Cs84.lt (Nat.le_of_eq g85.symm)))))
  have f150 : Fld Z h146 yy "java/lang/String" "coder" "B" (.int (0 : Int32)) := ((f140.ext E142).other W146 (Or.inl (Nat.ne_of_lt (Nat.lt_of_lt_of_le Cs84.lt (Nat.le_of_eq g85.symm)))))
  have f151 : Arv Z h146 ty ky .byte (Int32.ofNat (msg0 nn).length) (by8 (msg0 nn)) (.int (0 : Int32)) := ((f141.ext E142).other W146 (Nat.ne_of_lt (Nat.lt_of_lt_of_le As84.lt (Nat.le_of_eq g85.symm))))
  obtain ⟨sa152, T152, h152, k152, sd152, kc152, X152, e152, E152, hS152, hk152, hZ152, ho152, Es152, Cs152, Vs152, As152, la152, lb152, Cq152, hL152, hne152, st152⟩ := ldcCH X146 hx hZ142 ho142 (hw _ (List.mem_of_getElem? (i := 32) rfl)) (own_wS hw) e146 hS142 hk146 hEL (by simp [EL, consts_1]) CH146 (vs := by8 lit26) (z := Int32.ofNat lit26.length) ⟨by decide, rfl⟩ (by decide) (by decide) (g := (mkF m 152 #[.val (.int p0), .val (.int p1), .val (.int (Int32.ofNat nn)), .val (.int (0 : Int32)), .val (.ref b1), .unset, .unset, .unset, .unset, .unset] [(.int (6 : Int32)), (.ref b85), (.ref b85)])) rfl (hb hby at_152) (n := 124) (by decide) (by decide) (by decide) (by decide)
  have O152 : Old Z n0 h152 := O146.ext E152
  have Kp152 : Keep h0 h152 [] := Kp146.ext E152
  have Cl152 : CHr Z EL T142.vm h146 T152.vm h152 := Cq152
  have Sfb1_152 : Safe Z EL T152.vm h152 b1 := Cl152.safe f147.lt Sfb1_146
  have Sfb85_152 : Safe Z EL T152.vm h152 b85 := Cl152.safe V146.lt Sfb85_146
  have CR152 : CHr Z EL s.vm h0 T152.vm h152 := CR146.trans Cl152
  have CH152 := CR152.1
  have Ls152 : Str Z h152 sa152 sd152 kc152 lit26 := ⟨Es152, Vs152, Cs152, As152⟩
  have f153 : Arv Z h152 b1 k1 (.object "java/lang/String") (16 : Int32) [(.ref sa3), (.ref sa7), (.ref sa11), (.ref sa15), (.ref sa19), (.ref sa23), (.ref sa27), (.ref sa31), (.ref sa35), (.ref sa39), (.ref sa43), (.ref sa47), (.ref sa51), (.ref sa55), (.ref sa59), (.ref sa63)] .null := (f147.ext E152)
  have f154 : Arv Z h152 b85 k85 (.object "java/lang/String") (16 : Int32) [(.ref sa92), (.ref sa102), (.ref sa112), (.ref sa122), (.ref sa132), (.ref sa142), .null, .null, .null, .null, .null, .null, .null, .null, .null, .null] .null := (V146.ext E152)
  obtain ⟨cw155, A155, q155, s155, n155, H155, G155⟩ := id f154
  obtain ⟨T156, h156, X156, e156, W156, st156⟩ := stR X152 hx hZ152 e152 A155 (j := (6 : Int32)) (inb_of s155 ⟨by decide, by decide⟩) rfl (Sto.ofV A155 q155 Ov85 (Ins.self Ls152.1)) (g := (mkF m 154 #[.val (.int p0), .val (.int p1), .val (.int (Int32.ofNat nn)), .val (.int (0 : Int32)), .val (.ref b1), .unset, .unset, .unset, .unset, .unset] [(.ref sa152), (.int (6 : Int32)), (.ref b85), (.ref b85)])) rfl rfl (hb hby at_154)
  have V156 : Arv Z h156 b85 k85 (.object "java/lang/String") (16 : Int32) [(.ref sa92), (.ref sa102), (.ref sa112), (.ref sa122), (.ref sa132), (.ref sa142), (.ref sa152), .null, .null, .null, .null, .null, .null, .null, .null, .null] .null := Arv.set A155 q155 s155 n155 H155 G155 rfl W156 6 rfl (Nat.le_of_ble_eq_true rfl)
  have N156 := Fr.snoc X156 N146 gb85
  have O156 : Old Z n0 h156 := O152.wr W156 gb85
  have Kp156 : Keep h0 h156 [] := Kp152.wr W156 (Or.inr gs85)
  have Cl156 : CHr Z EL T152.vm h152 T152.vm h156 := CHr.wr W156 Sfb85_152 CH152
  have Sfb1_156 : Safe Z EL T152.vm h156 b1 := Cl156.safe f153.lt Sfb1_152
  have Sfb85_156 : Safe Z EL T152.vm h156 b85 := Cl156.safe f154.lt Sfb85_152
  have CR156 : CHr Z EL s.vm h0 T152.vm h156 := CR152.trans Cl156
  have CH156 := CR156.1
  have hk156 : _ ≤ h156.size := Nat.le_trans hk152 Cl156.2.1
  have f157 : Arv Z h156 b1 k1 (.object "java/lang/String") (16 : Int32) [(.ref sa3), (.ref sa7), (.ref sa11), (.ref sa15), (.ref sa19), (.ref sa23), (.ref sa27), (.ref sa31), (.ref sa35), (.ref sa39), (.ref sa43), (.ref sa47), (.ref sa51), (.ref sa55), (.ref sa59), (.ref sa63)] .null := (f153.other W156 (Nat.ne_of_lt (Nat.lt_of_lt_of_le V66.lt (Nat.le_of_eq g85.symm))))
  have f158 : Exa Z h156 yy "java/lang/String" := ((f148.ext E152).wr W156)
  have f159 : Fld Z h156 yy "java/lang/String" "value" "[B" (.ref ty) := ((f149.ext E152).other W156 (Or.inl (Nat.ne_of_lt (Nat.lt_of_lt_of_le Cs84.lt (Nat.le_of_eq g85.symm)))))
  have f160 : Fld Z h156 yy "java/lang/String" "coder" "B" (.int (0 : Int32)) := ((f150.ext E152).other W156 (Or.inl (Nat.ne_of_lt (Nat.lt_of_lt_of_le Cs84.lt (Nat.le_of_eq g85.symm)))))
  have f161 : Arv Z h156 ty ky .byte (Int32.ofNat (msg0 nn).length) (by8 (msg0 nn)) (.int (0 : Int32)) := ((f151.ext E152).other W156 (Nat.ne_of_lt (Nat.lt_of_lt_of_le As84.lt (Nat.le_of_eq g85.symm))))
  obtain ⟨sa162, T162, h162, k162, sd162, kc162, X162, e162, E162, hS162, hk162, hZ162, ho162, Es162, Cs162, Vs162, As162, la162, lb162, Cq162, hL162, hne162, st162⟩ := ldcCH X156 hx hZ152 ho152 (hw _ (List.mem_of_getElem? (i := 33) rfl)) (own_wS hw) e156 hS152 hk156 hEL (by simp [EL, consts_1]) CH156 (vs := by8 lit27) (z := Int32.ofNat lit27.length) ⟨by decide, rfl⟩ (by decide) (by decide) (g := (mkF m 158 #[.val (.int p0), .val (.int p1), .val (.int (Int32.ofNat nn)), .val (.int (0 : Int32)), .val (.ref b1), .unset, .unset, .unset, .unset, .unset] [(.int (7 : Int32)), (.ref b85), (.ref b85)])) rfl (hb hby at_158) (n := 124) (by decide) (by decide) (by decide) (by decide)
  have O162 : Old Z n0 h162 := O156.ext E162
  have Kp162 : Keep h0 h162 [] := Kp156.ext E162
  have Cl162 : CHr Z EL T152.vm h156 T162.vm h162 := Cq162
  have Sfb1_162 : Safe Z EL T162.vm h162 b1 := Cl162.safe f157.lt Sfb1_156
  have Sfb85_162 : Safe Z EL T162.vm h162 b85 := Cl162.safe V156.lt Sfb85_156
  have CR162 : CHr Z EL s.vm h0 T162.vm h162 := CR156.trans Cl162
  have CH162 := CR162.1
  have Ls162 : Str Z h162 sa162 sd162 kc162 lit27 := ⟨Es162, Vs162, Cs162, As162⟩
  have f163 : Arv Z h162 b1 k1 (.object "java/lang/String") (16 : Int32) [(.ref sa3), (.ref sa7), (.ref sa11), (.ref sa15), (.ref sa19), (.ref sa23), (.ref sa27), (.ref sa31), (.ref sa35), (.ref sa39), (.ref sa43), (.ref sa47), (.ref sa51), (.ref sa55), (.ref sa59), (.ref sa63)] .null := (f157.ext E162)
  have f164 : Arv Z h162 b85 k85 (.object "java/lang/String") (16 : Int32) [(.ref sa92), (.ref sa102), (.ref sa112), (.ref sa122), (.ref sa132), (.ref sa142), (.ref sa152), .null, .null, .null, .null, .null, .null, .null, .null, .null] .null := (V156.ext E162)
  obtain ⟨cw165, A165, q165, s165, n165, H165, G165⟩ := id f164
  obtain ⟨T166, h166, X166, e166, W166, st166⟩ := stR X162 hx hZ162 e162 A165 (j := (7 : Int32)) (inb_of s165 ⟨by decide, by decide⟩) rfl (Sto.ofV A165 q165 Ov85 (Ins.self Ls162.1)) (g := (mkF m 160 #[.val (.int p0), .val (.int p1), .val (.int (Int32.ofNat nn)), .val (.int (0 : Int32)), .val (.ref b1), .unset, .unset, .unset, .unset, .unset] [(.ref sa162), (.int (7 : Int32)), (.ref b85), (.ref b85)])) rfl rfl (hb hby at_160)
  have V166 : Arv Z h166 b85 k85 (.object "java/lang/String") (16 : Int32) [(.ref sa92), (.ref sa102), (.ref sa112), (.ref sa122), (.ref sa132), (.ref sa142), (.ref sa152), (.ref sa162), .null, .null, .null, .null, .null, .null, .null, .null] .null := Arv.set A165 q165 s165 n165 H165 G165 rfl W166 7 rfl (Nat.le_of_ble_eq_true rfl)
  have N166 := Fr.snoc X166 N156 gb85
  have O166 : Old Z n0 h166 := O162.wr W166 gb85
  have Kp166 : Keep h0 h166 [] := Kp162.wr W166 (Or.inr gs85)
  have Cl166 : CHr Z EL T162.vm h162 T162.vm h166 := CHr.wr W166 Sfb85_162 CH162
  have Sfb1_166 : Safe Z EL T162.vm h166 b1 := Cl166.safe f163.lt Sfb1_162
  have Sfb85_166 : Safe Z EL T162.vm h166 b85 := Cl166.safe f164.lt Sfb85_162
  have CR166 : CHr Z EL s.vm h0 T162.vm h166 := CR162.trans Cl166
  have CH166 := CR166.1
  have hk166 : _ ≤ h166.size := Nat.le_trans hk162 Cl166.2.1
  have f167 : Arv Z h166 b1 k1 (.object "java/lang/String") (16 : Int32) [(.ref sa3), (.ref sa7), (.ref sa11), (.ref sa15), (.ref sa19), (.ref sa23), (.ref sa27), (.ref sa31), (.ref sa35), (.ref sa39), (.ref sa43), (.ref sa47), (.ref sa51), (.ref sa55), (.ref sa59), (.ref sa63)] .null := (f163.other W166 (Nat.ne_of_lt (Nat.lt_of_lt_of_le V66.lt (Nat.le_of_eq g85.symm))))
  have f168 : Exa Z h166 yy "java/lang/String" := ((f158.ext E162).wr W166)
  have f169 : Fld Z h166 yy "java/lang/String" "value" "[B" (.ref ty) := ((f159.ext E162).other W166 (Or.inl (Nat.ne_of_lt (Nat.lt_of_lt_of_le Cs84.lt (Nat.le_of_eq g85.symm)))))
  have f170 : Fld Z h166 yy "java/lang/String" "coder" "B" (.int (0 : Int32)) := ((f160.ext E162).other W166 (Or.inl (Nat.ne_of_lt (Nat.lt_of_lt_of_le Cs84.lt (Nat.le_of_eq g85.symm)))))
  have f171 : Arv Z h166 ty ky .byte (Int32.ofNat (msg0 nn).length) (by8 (msg0 nn)) (.int (0 : Int32)) := ((f161.ext E162).other W166 (Nat.ne_of_lt (Nat.lt_of_lt_of_le As84.lt (Nat.le_of_eq g85.symm))))
  obtain ⟨sa172, T172, h172, k172, sd172, kc172, X172, e172, E172, hS172, hk172, hZ172, ho172, Es172, Cs172, Vs172, As172, la172, lb172, Cq172, hL172, hne172, st172⟩ := ldcCH X166 hx hZ162 ho162 (hw _ (List.mem_of_getElem? (i := 34) rfl)) (own_wS hw) e166 hS162 hk166 hEL (by simp [EL, consts_1]) CH166 (vs := by8 lit28) (z := Int32.ofNat lit28.length) ⟨by decide, rfl⟩ (by decide) (by decide) (g := (mkF m 164 #[.val (.int p0), .val (.int p1), .val (.int (Int32.ofNat nn)), .val (.int (0 : Int32)), .val (.ref b1), .unset, .unset, .unset, .unset, .unset] [(.int (8 : Int32)), (.ref b85), (.ref b85)])) rfl (hb hby at_164) (n := 124) (by decide) (by decide) (by decide) (by decide)
  have O172 : Old Z n0 h172 := O166.ext E172
  have Kp172 : Keep h0 h172 [] := Kp166.ext E172
  have Cl172 : CHr Z EL T162.vm h166 T172.vm h172 := Cq172
  have Sfb1_172 : Safe Z EL T172.vm h172 b1 := Cl172.safe f167.lt Sfb1_166
  have Sfb85_172 : Safe Z EL T172.vm h172 b85 := Cl172.safe V166.lt Sfb85_166
  have CR172 : CHr Z EL s.vm h0 T172.vm h172 := CR166.trans Cl172
  have CH172 := CR172.1
  have Ls172 : Str Z h172 sa172 sd172 kc172 lit28 := ⟨Es172, Vs172, Cs172, As172⟩
  have f173 : Arv Z h172 b1 k1 (.object "java/lang/String") (16 : Int32) [(.ref sa3), (.ref sa7), (.ref sa11), (.ref sa15), (.ref sa19), (.ref sa23), (.ref sa27), (.ref sa31), (.ref sa35), (.ref sa39), (.ref sa43), (.ref sa47), (.ref sa51), (.ref sa55), (.ref sa59), (.ref sa63)] .null := (f167.ext E172)
  have f174 : Arv Z h172 b85 k85 (.object "java/lang/String") (16 : Int32) [(.ref sa92), (.ref sa102), (.ref sa112), (.ref sa122), (.ref sa132), (.ref sa142), (.ref sa152), (.ref sa162), .null, .null, .null, .null, .null, .null, .null, .null] .null := (V166.ext E172)
  obtain ⟨cw175, A175, q175, s175, n175, H175, G175⟩ := id f174
  obtain ⟨T176, h176, X176, e176, W176, st176⟩ := stR X172 hx hZ172 e172 A175 (j := (8 : Int32)) (inb_of s175 ⟨by decide, by decide⟩) rfl (Sto.ofV A175 q175 Ov85 (Ins.self Ls172.1)) (g := (mkF m 166 #[.val (.int p0), .val (.int p1), .val (.int (Int32.ofNat nn)), .val (.int (0 : Int32)), .val (.ref b1), .unset, .unset, .unset, .unset, .unset] [(.ref sa172), (.int (8 : Int32)), (.ref b85), (.ref b85)])) rfl rfl (hb hby at_166)
  have V176 : Arv Z h176 b85 k85 (.object "java/lang/String") (16 : Int32) [(.ref sa92), (.ref sa102), (.ref sa112), (.ref sa122), (.ref sa132), (.ref sa142), (.ref sa152), (.ref sa162), (.ref sa172), .null, .null, .null, .null, .null, .null, .null] .null := Arv.set A175 q175 s175 n175 H175 G175 rfl W176 8 rfl (Nat.le_of_ble_eq_true rfl)
  have N176 := Fr.snoc X176 N166 gb85
  have O176 : Old Z n0 h176 := O172.wr W176 gb85
  have Kp176 : Keep h0 h176 [] := Kp172.wr W176 (Or.inr gs85)
  have Cl176 : CHr Z EL T172.vm h172 T172.vm h176 := CHr.wr W176 Sfb85_172 CH172
  have Sfb1_176 : Safe Z EL T172.vm h176 b1 := Cl176.safe f173.lt Sfb1_172
  have Sfb85_176 : Safe Z EL T172.vm h176 b85 := Cl176.safe f174.lt Sfb85_172
  have CR176 : CHr Z EL s.vm h0 T172.vm h176 := CR172.trans Cl176
  have CH176 := CR176.1
  have hk176 : _ ≤ h176.size := Nat.le_trans hk172 Cl176.2.1
  have f177 : Arv Z h176 b1 k1 (.object "java/lang/String") (16 : Int32) [(.ref sa3), (.ref sa7), (.ref sa11), (.ref sa15), (.ref sa19), (.ref sa23), (.ref sa27), (.ref sa31), (.ref sa35), (.ref sa39), (.ref sa43), (.ref sa47), (.ref sa51), (.ref sa55), (.ref sa59), (.ref sa63)] .null := (f173.other W176 (Nat.ne_of_lt (Nat.lt_of_lt_of_le V66.lt (Nat.le_of_eq g85.symm))))
  have f178 : Exa Z h176 yy "java/lang/String" := ((f168.ext E172).wr W176)
  have f179 : Fld Z h176 yy "java/lang/String" "value" "[B" (.ref ty) := ((f169.ext E172).other W176 (Or.inl (Nat.ne_of_lt (Nat.lt_of_lt_of_le Cs84.lt (Nat.le_of_eq g85.symm)))))
  have f180 : Fld Z h176 yy "java/lang/String" "coder" "B" (.int (0 : Int32)) := ((f170.ext E172).other W176 (Or.inl (Nat.ne_of_lt (Nat.lt_of_lt_of_le Cs84.lt (Nat.le_of_eq g85.symm)))))
  have f181 : Arv Z h176 ty ky .byte (Int32.ofNat (msg0 nn).length) (by8 (msg0 nn)) (.int (0 : Int32)) := ((f171.ext E172).other W176 (Nat.ne_of_lt (Nat.lt_of_lt_of_le As84.lt (Nat.le_of_eq g85.symm))))
  obtain ⟨sa182, T182, h182, k182, sd182, kc182, X182, e182, E182, hS182, hk182, hZ182, ho182, Es182, Cs182, Vs182, As182, la182, lb182, Cq182, hL182, hne182, st182⟩ := ldcCH X176 hx hZ172 ho172 (hw _ (List.mem_of_getElem? (i := 35) rfl)) (own_wS hw) e176 hS172 hk176 hEL (by simp [EL, consts_1]) CH176 (vs := by8 lit29) (z := Int32.ofNat lit29.length) ⟨by decide, rfl⟩ (by decide) (by decide) (g := (mkF m 170 #[.val (.int p0), .val (.int p1), .val (.int (Int32.ofNat nn)), .val (.int (0 : Int32)), .val (.ref b1), .unset, .unset, .unset, .unset, .unset] [(.int (9 : Int32)), (.ref b85), (.ref b85)])) rfl (hb hby at_170) (n := 124) (by decide) (by decide) (by decide) (by decide)
  have O182 : Old Z n0 h182 := O176.ext E182
  have Kp182 : Keep h0 h182 [] := Kp176.ext E182
  have Cl182 : CHr Z EL T172.vm h176 T182.vm h182 := Cq182
  have Sfb1_182 : Safe Z EL T182.vm h182 b1 := Cl182.safe f177.lt Sfb1_176
  have Sfb85_182 : Safe Z EL T182.vm h182 b85 := Cl182.safe V176.lt Sfb85_176
  have CR182 : CHr Z EL s.vm h0 T182.vm h182 := CR176.trans Cl182
  have CH182 := CR182.1
  have Ls182 : Str Z h182 sa182 sd182 kc182 lit29 := ⟨Es182, Vs182, Cs182, As182⟩
  have f183 : Arv Z h182 b1 k1 (.object "java/lang/String") (16 : Int32) [(.ref sa3), (.ref sa7), (.ref sa11), (.ref sa15), (.ref sa19), (.ref sa23), (.ref sa27), (.ref sa31), (.ref sa35), (.ref sa39), (.ref sa43), (.ref sa47), (.ref sa51), (.ref sa55), (.ref sa59), (.ref sa63)] .null := (f177.ext E182)
  have f184 : Arv Z h182 b85 k85 (.object "java/lang/String") (16 : Int32) [(.ref sa92), (.ref sa102), (.ref sa112), (.ref sa122), (.ref sa132), (.ref sa142), (.ref sa152), (.ref sa162), (.ref sa172), .null, .null, .null, .null, .null, .null, .null] .null := (V176.ext E182)
  obtain ⟨cw185, A185, q185, s185, n185, H185, G185⟩ := id f184
  obtain ⟨T186, h186, X186, e186, W186, st186⟩ := stR X182 hx hZ182 e182 A185 (j := (9 : Int32)) (inb_of s185 ⟨by decide, by decide⟩) rfl (Sto.ofV A185 q185 Ov85 (Ins.self Ls182.1)) (g := (mkF m 172 #[.val (.int p0), .val (.int p1), .val (.int (Int32.ofNat nn)), .val (.int (0 : Int32)), .val (.ref b1), .unset, .unset, .unset, .unset, .unset] [(.ref sa182), (.int (9 : Int32)), (.ref b85), (.ref b85)])) rfl rfl (hb hby at_172)
  have V186 : Arv Z h186 b85 k85 (.object "java/lang/String") (16 : Int32) [(.ref sa92), (.ref sa102), (.ref sa112), (.ref sa122), (.ref sa132), (.ref sa142), (.ref sa152), (.ref sa162), (.ref sa172), (.ref sa182), .null, .null, .null, .null, .null, .null] .null := Arv.set A185 q185 s185 n185 H185 G185 rfl W186 9 rfl (Nat.le_of_ble_eq_true rfl)
  have N186 := Fr.snoc X186 N176 gb85
  have O186 : Old Z n0 h186 := O182.wr W186 gb85
  have Kp186 : Keep h0 h186 [] := Kp182.wr W186 (Or.inr gs85)
  have Cl186 : CHr Z EL T182.vm h182 T182.vm h186 := CHr.wr W186 Sfb85_182 CH182
  have Sfb1_186 : Safe Z EL T182.vm h186 b1 := Cl186.safe f183.lt Sfb1_182
  have Sfb85_186 : Safe Z EL T182.vm h186 b85 := Cl186.safe f184.lt Sfb85_182
  have CR186 : CHr Z EL s.vm h0 T182.vm h186 := CR182.trans Cl186
  have CH186 := CR186.1
  have hk186 : _ ≤ h186.size := Nat.le_trans hk182 Cl186.2.1
  have f187 : Arv Z h186 b1 k1 (.object "java/lang/String") (16 : Int32) [(.ref sa3), (.ref sa7), (.ref sa11), (.ref sa15), (.ref sa19), (.ref sa23), (.ref sa27), (.ref sa31), (.ref sa35), (.ref sa39), (.ref sa43), (.ref sa47), (.ref sa51), (.ref sa55), (.ref sa59), (.ref sa63)] .null := (f183.other W186 (Nat.ne_of_lt (Nat.lt_of_lt_of_le V66.lt (Nat.le_of_eq g85.symm))))
  have f188 : Exa Z h186 yy "java/lang/String" := ((f178.ext E182).wr W186)
  have f189 : Fld Z h186 yy "java/lang/String" "value" "[B" (.ref ty) := ((f179.ext E182).other W186 (Or.inl (Nat.ne_of_lt (Nat.lt_of_lt_of_le Cs84.lt (Nat.le_of_eq g85.symm)))))
  have f190 : Fld Z h186 yy "java/lang/String" "coder" "B" (.int (0 : Int32)) := ((f180.ext E182).other W186 (Or.inl (Nat.ne_of_lt (Nat.lt_of_lt_of_le Cs84.lt (Nat.le_of_eq g85.symm)))))
  have f191 : Arv Z h186 ty ky .byte (Int32.ofNat (msg0 nn).length) (by8 (msg0 nn)) (.int (0 : Int32)) := ((f181.ext E182).other W186 (Nat.ne_of_lt (Nat.lt_of_lt_of_le As84.lt (Nat.le_of_eq g85.symm))))
  obtain ⟨sa192, T192, h192, k192, sd192, kc192, X192, e192, E192, hS192, hk192, hZ192, ho192, Es192, Cs192, Vs192, As192, la192, lb192, Cq192, hL192, hne192, st192⟩ := ldcCH X186 hx hZ182 ho182 (hw _ (List.mem_of_getElem? (i := 36) rfl)) (own_wS hw) e186 hS182 hk186 hEL (by simp [EL, consts_1]) CH186 (vs := by8 lit30) (z := Int32.ofNat lit30.length) ⟨by decide, rfl⟩ (by decide) (by decide) (g := (mkF m 176 #[.val (.int p0), .val (.int p1), .val (.int (Int32.ofNat nn)), .val (.int (0 : Int32)), .val (.ref b1), .unset, .unset, .unset, .unset, .unset] [(.int (10 : Int32)), (.ref b85), (.ref b85)])) rfl (hb hby at_176) (n := 128) (by decide) (by decide) (by decide) (by decide)
  have O192 : Old Z n0 h192 := O186.ext E192
  have Kp192 : Keep h0 h192 [] := Kp186.ext E192
  have Cl192 : CHr Z EL T182.vm h186 T192.vm h192 := Cq192
  have Sfb1_192 : Safe Z EL T192.vm h192 b1 := Cl192.safe f187.lt Sfb1_186
  have Sfb85_192 : Safe Z EL T192.vm h192 b85 := Cl192.safe V186.lt Sfb85_186
  have CR192 : CHr Z EL s.vm h0 T192.vm h192 := CR186.trans Cl192
  have CH192 := CR192.1
  have Ls192 : Str Z h192 sa192 sd192 kc192 lit30 := ⟨Es192, Vs192, Cs192, As192⟩
  have f193 : Arv Z h192 b1 k1 (.object "java/lang/String") (16 : Int32) [(.ref sa3), (.ref sa7), (.ref sa11), (.ref sa15), (.ref sa19), (.ref sa23), (.ref sa27), (.ref sa31), (.ref sa35), (.ref sa39), (.ref sa43), (.ref sa47), (.ref sa51), (.ref sa55), (.ref sa59), (.ref sa63)] .null := (f187.ext E192)
  have f194 : Arv Z h192 b85 k85 (.object "java/lang/String") (16 : Int32) [(.ref sa92), (.ref sa102), (.ref sa112), (.ref sa122), (.ref sa132), (.ref sa142), (.ref sa152), (.ref sa162), (.ref sa172), (.ref sa182), .null, .null, .null, .null, .null, .null] .null := (V186.ext E192)
  obtain ⟨cw195, A195, q195, s195, n195, H195, G195⟩ := id f194
  obtain ⟨T196, h196, X196, e196, W196, st196⟩ := stR X192 hx hZ192 e192 A195 (j := (10 : Int32)) (inb_of s195 ⟨by decide, by decide⟩) rfl (Sto.ofV A195 q195 Ov85 (Ins.self Ls192.1)) (g := (mkF m 178 #[.val (.int p0), .val (.int p1), .val (.int (Int32.ofNat nn)), .val (.int (0 : Int32)), .val (.ref b1), .unset, .unset, .unset, .unset, .unset] [(.ref sa192), (.int (10 : Int32)), (.ref b85), (.ref b85)])) rfl rfl (hb hby at_178)
  have V196 : Arv Z h196 b85 k85 (.object "java/lang/String") (16 : Int32) [(.ref sa92), (.ref sa102), (.ref sa112), (.ref sa122), (.ref sa132), (.ref sa142), (.ref sa152), (.ref sa162), (.ref sa172), (.ref sa182), (.ref sa192), .null, .null, .null, .null, .null] .null := Arv.set A195 q195 s195 n195 H195 G195 rfl W196 10 rfl (Nat.le_of_ble_eq_true rfl)
  have N196 := Fr.snoc X196 N186 gb85
  have O196 : Old Z n0 h196 := O192.wr W196 gb85
  have Kp196 : Keep h0 h196 [] := Kp192.wr W196 (Or.inr gs85)
  have Cl196 : CHr Z EL T192.vm h192 T192.vm h196 := CHr.wr W196 Sfb85_192 CH192
  have Sfb1_196 : Safe Z EL T192.vm h196 b1 := Cl196.safe f193.lt Sfb1_192
  have Sfb85_196 : Safe Z EL T192.vm h196 b85 := Cl196.safe f194.lt Sfb85_192
  have CR196 : CHr Z EL s.vm h0 T192.vm h196 := CR192.trans Cl196
  have CH196 := CR196.1
  have hk196 : _ ≤ h196.size := Nat.le_trans hk192 Cl196.2.1
  have f197 : Arv Z h196 b1 k1 (.object "java/lang/String") (16 : Int32) [(.ref sa3), (.ref sa7), (.ref sa11), (.ref sa15), (.ref sa19), (.ref sa23), (.ref sa27), (.ref sa31), (.ref sa35), (.ref sa39), (.ref sa43), (.ref sa47), (.ref sa51), (.ref sa55), (.ref sa59), (.ref sa63)] .null := (f193.other W196 (Nat.ne_of_lt (Nat.lt_of_lt_of_le V66.lt (Nat.le_of_eq g85.symm))))
  have f198 : Exa Z h196 yy "java/lang/String" := ((f188.ext E192).wr W196)
  have f199 : Fld Z h196 yy "java/lang/String" "value" "[B" (.ref ty) := ((f189.ext E192).other W196 (Or.inl (Nat.ne_of_lt (Nat.lt_of_lt_of_le Cs84.lt (Nat.le_of_eq g85.symm)))))
  have f200 : Fld Z h196 yy "java/lang/String" "coder" "B" (.int (0 : Int32)) := ((f190.ext E192).other W196 (Or.inl (Nat.ne_of_lt (Nat.lt_of_lt_of_le Cs84.lt (Nat.le_of_eq g85.symm)))))
  have f201 : Arv Z h196 ty ky .byte (Int32.ofNat (msg0 nn).length) (by8 (msg0 nn)) (.int (0 : Int32)) := ((f191.ext E192).other W196 (Nat.ne_of_lt (Nat.lt_of_lt_of_le As84.lt (Nat.le_of_eq g85.symm))))
  obtain ⟨sa202, T202, h202, k202, sd202, kc202, X202, e202, E202, hS202, hk202, hZ202, ho202, Es202, Cs202, Vs202, As202, la202, lb202, Cq202, hL202, hne202, st202⟩ := ldcCH X196 hx hZ192 ho192 (hw _ (List.mem_of_getElem? (i := 37) rfl)) (own_wS hw) e196 hS192 hk196 hEL (by simp [EL, consts_1]) CH196 (vs := by8 lit31) (z := Int32.ofNat lit31.length) ⟨by decide, rfl⟩ (by decide) (by decide) (g := (mkF m 182 #[.val (.int p0), .val (.int p1), .val (.int (Int32.ofNat nn)), .val (.int (0 : Int32)), .val (.ref b1), .unset, .unset, .unset, .unset, .unset] [(.int (11 : Int32)), (.ref b85), (.ref b85)])) rfl (hb hby at_182) (n := 128) (by decide) (by decide) (by decide) (by decide)
  have O202 : Old Z n0 h202 := O196.ext E202
  have Kp202 : Keep h0 h202 [] := Kp196.ext E202
  have Cl202 : CHr Z EL T192.vm h196 T202.vm h202 := Cq202
  have Sfb1_202 : Safe Z EL T202.vm h202 b1 := Cl202.safe f197.lt Sfb1_196
  have Sfb85_202 : Safe Z EL T202.vm h202 b85 := Cl202.safe V196.lt Sfb85_196
  have CR202 : CHr Z EL s.vm h0 T202.vm h202 := CR196.trans Cl202
  have CH202 := CR202.1
  have Ls202 : Str Z h202 sa202 sd202 kc202 lit31 := ⟨Es202, Vs202, Cs202, As202⟩
  have f203 : Arv Z h202 b1 k1 (.object "java/lang/String") (16 : Int32) [(.ref sa3), (.ref sa7), (.ref sa11), (.ref sa15), (.ref sa19), (.ref sa23), (.ref sa27), (.ref sa31), (.ref sa35), (.ref sa39), (.ref sa43), (.ref sa47), (.ref sa51), (.ref sa55), (.ref sa59), (.ref sa63)] .null := (f197.ext E202)
  have f204 : Arv Z h202 b85 k85 (.object "java/lang/String") (16 : Int32) [(.ref sa92), (.ref sa102), (.ref sa112), (.ref sa122), (.ref sa132), (.ref sa142), (.ref sa152), (.ref sa162), (.ref sa172), (.ref sa182), (.ref sa192), .null, .null, .null, .null, .null] .null := (V196.ext E202)
  obtain ⟨cw205, A205, q205, s205, n205, H205, G205⟩ := id f204
  obtain ⟨T206, h206, X206, e206, W206, st206⟩ := stR X202 hx hZ202 e202 A205 (j := (11 : Int32)) (inb_of s205 ⟨by decide, by decide⟩) rfl (Sto.ofV A205 q205 Ov85 (Ins.self Ls202.1)) (g := (mkF m 184 #[.val (.int p0), .val (.int p1), .val (.int (Int32.ofNat nn)), .val (.int (0 : Int32)), .val (.ref b1), .unset, .unset, .unset, .unset, .unset] [(.ref sa202), (.int (11 : Int32)), (.ref b85), (.ref b85)])) rfl rfl (hb hby at_184)
  have V206 : Arv Z h206 b85 k85 (.object "java/lang/String") (16 : Int32) [(.ref sa92), (.ref sa102), (.ref sa112), (.ref sa122), (.ref sa132), (.ref sa142), (.ref sa152), (.ref sa162), (.ref sa172), (.ref sa182), (.ref sa192), (.ref sa202), .null, .null, .null, .null] .null := Arv.set A205 q205 s205 n205 H205 G205 rfl W206 11 rfl (Nat.le_of_ble_eq_true rfl)
  have N206 := Fr.snoc X206 N196 gb85
  have O206 : Old Z n0 h206 := O202.wr W206 gb85
  have Kp206 : Keep h0 h206 [] := Kp202.wr W206 (Or.inr gs85)
  have Cl206 : CHr Z EL T202.vm h202 T202.vm h206 := CHr.wr W206 Sfb85_202 CH202
  have Sfb1_206 : Safe Z EL T202.vm h206 b1 := Cl206.safe f203.lt Sfb1_202
  have Sfb85_206 : Safe Z EL T202.vm h206 b85 := Cl206.safe f204.lt Sfb85_202
  have CR206 : CHr Z EL s.vm h0 T202.vm h206 := CR202.trans Cl206
  have CH206 := CR206.1
  have hk206 : _ ≤ h206.size := Nat.le_trans hk202 Cl206.2.1
  have f207 : Arv Z h206 b1 k1 (.object "java/lang/String") (16 : Int32) [(.ref sa3), (.ref sa7), (.ref sa11), (.ref sa15), (.ref sa19), (.ref sa23), (.ref sa27), (.ref sa31), (.ref sa35), (.ref sa39), (.ref sa43), (.ref sa47), (.ref sa51), (.ref sa55), (.ref sa59), (.ref sa63)] .null := (f203.other W206 (Nat.ne_of_lt (Nat.lt_of_lt_of_le V66.lt (Nat.le_of_eq g85.symm))))
  have f208 : Exa Z h206 yy "java/lang/String" := ((f198.ext E202).wr W206)
  have f209 : Fld Z h206 yy "java/lang/String" "value" "[B" (.ref ty) := ((f199.ext E202).other W206 (Or.inl (Nat.ne_of_lt (Nat.lt_of_lt_of_le Cs84.lt (Nat.le_of_eq g85.symm)))))
  have f210 : Fld Z h206 yy "java/lang/String" "coder" "B" (.int (0 : Int32)) := ((f200.ext E202).other W206 (Or.inl (Nat.ne_of_lt (Nat.lt_of_lt_of_le Cs84.lt (Nat.le_of_eq g85.symm)))))
  have f211 : Arv Z h206 ty ky .byte (Int32.ofNat (msg0 nn).length) (by8 (msg0 nn)) (.int (0 : Int32)) := ((f201.ext E202).other W206 (Nat.ne_of_lt (Nat.lt_of_lt_of_le As84.lt (Nat.le_of_eq g85.symm))))
  obtain ⟨sa212, T212, h212, k212, sd212, kc212, X212, e212, E212, hS212, hk212, hZ212, ho212, Es212, Cs212, Vs212, As212, la212, lb212, Cq212, hL212, hne212, st212⟩ := ldcCH X206 hx hZ202 ho202 (hw _ (List.mem_of_getElem? (i := 38) rfl)) (own_wS hw) e206 hS202 hk206 hEL (by simp [EL, consts_1]) CH206 (vs := by8 lit32) (z := Int32.ofNat lit32.length) ⟨by decide, rfl⟩ (by decide) (by decide) (g := (mkF m 188 #[.val (.int p0), .val (.int p1), .val (.int (Int32.ofNat nn)), .val (.int (0 : Int32)), .val (.ref b1), .unset, .unset, .unset, .unset, .unset] [(.int (12 : Int32)), (.ref b85), (.ref b85)])) rfl (hb hby at_188) (n := 128) (by decide) (by decide) (by decide) (by decide)
  have O212 : Old Z n0 h212 := O206.ext E212
  have Kp212 : Keep h0 h212 [] := Kp206.ext E212
  have Cl212 : CHr Z EL T202.vm h206 T212.vm h212 := Cq212
  have Sfb1_212 : Safe Z EL T212.vm h212 b1 := Cl212.safe f207.lt Sfb1_206
  have Sfb85_212 : Safe Z EL T212.vm h212 b85 := Cl212.safe V206.lt Sfb85_206
  have CR212 : CHr Z EL s.vm h0 T212.vm h212 := CR206.trans Cl212
  have CH212 := CR212.1
  have Ls212 : Str Z h212 sa212 sd212 kc212 lit32 := ⟨Es212, Vs212, Cs212, As212⟩
  have f213 : Arv Z h212 b1 k1 (.object "java/lang/String") (16 : Int32) [(.ref sa3), (.ref sa7), (.ref sa11), (.ref sa15), (.ref sa19), (.ref sa23), (.ref sa27), (.ref sa31), (.ref sa35), (.ref sa39), (.ref sa43), (.ref sa47), (.ref sa51), (.ref sa55), (.ref sa59), (.ref sa63)] .null := (f207.ext E212)
  have f214 : Arv Z h212 b85 k85 (.object "java/lang/String") (16 : Int32) [(.ref sa92), (.ref sa102), (.ref sa112), (.ref sa122), (.ref sa132), (.ref sa142), (.ref sa152), (.ref sa162), (.ref sa172), (.ref sa182), (.ref sa192), (.ref sa202), .null, .null, .null, .null] .null := (V206.ext E212)
  obtain ⟨cw215, A215, q215, s215, n215, H215, G215⟩ := id f214
  obtain ⟨T216, h216, X216, e216, W216, st216⟩ := stR X212 hx hZ212 e212 A215 (j := (12 : Int32)) (inb_of s215 ⟨by decide, by decide⟩) rfl (Sto.ofV A215 q215 Ov85 (Ins.self Ls212.1)) (g := (mkF m 190 #[.val (.int p0), .val (.int p1), .val (.int (Int32.ofNat nn)), .val (.int (0 : Int32)), .val (.ref b1), .unset, .unset, .unset, .unset, .unset] [(.ref sa212), (.int (12 : Int32)), (.ref b85), (.ref b85)])) rfl rfl (hb hby at_190)
  have V216 : Arv Z h216 b85 k85 (.object "java/lang/String") (16 : Int32) [(.ref sa92), (.ref sa102), (.ref sa112), (.ref sa122), (.ref sa132), (.ref sa142), (.ref sa152), (.ref sa162), (.ref sa172), (.ref sa182), (.ref sa192), (.ref sa202), (.ref sa212), .null, .null, .null] .null := Arv.set A215 q215 s215 n215 H215 G215 rfl W216 12 rfl (Nat.le_of_ble_eq_true rfl)
  have N216 := Fr.snoc X216 N206 gb85
  have O216 : Old Z n0 h216 := O212.wr W216 gb85
  have Kp216 : Keep h0 h216 [] := Kp212.wr W216 (Or.inr gs85)
  have Cl216 : CHr Z EL T212.vm h212 T212.vm h216 := CHr.wr W216 Sfb85_212 CH212
  have Sfb1_216 : Safe Z EL T212.vm h216 b1 := Cl216.safe f213.lt Sfb1_212
  have Sfb85_216 : Safe Z EL T212.vm h216 b85 := Cl216.safe f214.lt Sfb85_212
  have CR216 : CHr Z EL s.vm h0 T212.vm h216 := CR212.trans Cl216
  have CH216 := CR216.1
  have hk216 : _ ≤ h216.size := Nat.le_trans hk212 Cl216.2.1
  have f217 : Arv Z h216 b1 k1 (.object "java/lang/String") (16 : Int32) [(.ref sa3), (.ref sa7), (.ref sa11), (.ref sa15), (.ref sa19), (.ref sa23), (.ref sa27), (.ref sa31), (.ref sa35), (.ref sa39), (.ref sa43), (.ref sa47), (.ref sa51), (.ref sa55), (.ref sa59), (.ref sa63)] .null := (f213.other W216 (Nat.ne_of_lt (Nat.lt_of_lt_of_le V66.lt (Nat.le_of_eq g85.symm))))
  have f218 : Exa Z h216 yy "java/lang/String" := ((f208.ext E212).wr W216)
  have f219 : Fld Z h216 yy "java/lang/String" "value" "[B" (.ref ty) := ((f209.ext E212).other W216 (Or.inl (Nat.ne_of_lt (Nat.lt_of_lt_of_le Cs84.lt (Nat.le_of_eq g85.symm)))))
  have f220 : Fld Z h216 yy "java/lang/String" "coder" "B" (.int (0 : Int32)) := ((f210.ext E212).other W216 (Or.inl (Nat.ne_of_lt (Nat.lt_of_lt_of_le Cs84.lt (Nat.le_of_eq g85.symm)))))
  have f221 : Arv Z h216 ty ky .byte (Int32.ofNat (msg0 nn).length) (by8 (msg0 nn)) (.int (0 : Int32)) := ((f211.ext E212).other W216 (Nat.ne_of_lt (Nat.lt_of_lt_of_le As84.lt (Nat.le_of_eq g85.symm))))
  obtain ⟨sa222, T222, h222, k222, sd222, kc222, X222, e222, E222, hS222, hk222, hZ222, ho222, Es222, Cs222, Vs222, As222, la222, lb222, Cq222, hL222, hne222, st222⟩ := ldcCH X216 hx hZ212 ho212 (hw _ (List.mem_of_getElem? (i := 39) rfl)) (own_wS hw) e216 hS212 hk216 hEL (by simp [EL, consts_1]) CH216 (vs := by8 lit33) (z := Int32.ofNat lit33.length) ⟨by decide, rfl⟩ (by decide) (by decide) (g := (mkF m 194 #[.val (.int p0), .val (.int p1), .val (.int (Int32.ofNat nn)), .val (.int (0 : Int32)), .val (.ref b1), .unset, .unset, .unset, .unset, .unset] [(.int (13 : Int32)), (.ref b85), (.ref b85)])) rfl (hb hby at_194) (n := 128) (by decide) (by decide) (by decide) (by decide)
  have O222 : Old Z n0 h222 := O216.ext E222
  have Kp222 : Keep h0 h222 [] := Kp216.ext E222
  have Cl222 : CHr Z EL T212.vm h216 T222.vm h222 := Cq222
  have Sfb1_222 : Safe Z EL T222.vm h222 b1 := Cl222.safe f217.lt Sfb1_216
  have Sfb85_222 : Safe Z EL T222.vm h222 b85 := Cl222.safe V216.lt Sfb85_216
  have CR222 : CHr Z EL s.vm h0 T222.vm h222 := CR216.trans Cl222
  have CH222 := CR222.1
  have Ls222 : Str Z h222 sa222 sd222 kc222 lit33 := ⟨Es222, Vs222, Cs222, As222⟩
  have f223 : Arv Z h222 b1 k1 (.object "java/lang/String") (16 : Int32) [(.ref sa3), (.ref sa7), (.ref sa11), (.ref sa15), (.ref sa19), (.ref sa23), (.ref sa27), (.ref sa31), (.ref sa35), (.ref sa39), (.ref sa43), (.ref sa47), (.ref sa51), (.ref sa55), (.ref sa59), (.ref sa63)] .null := (f217.ext E222)
  have f224 : Arv Z h222 b85 k85 (.object "java/lang/String") (16 : Int32) [(.ref sa92), (.ref sa102), (.ref sa112), (.ref sa122), (.ref sa132), (.ref sa142), (.ref sa152), (.ref sa162), (.ref sa172), (.ref sa182), (.ref sa192), (.ref sa202), (.ref sa212), .null, .null, .null] .null := (V216.ext E222)
  obtain ⟨cw225, A225, q225, s225, n225, H225, G225⟩ := id f224
  obtain ⟨T226, h226, X226, e226, W226, st226⟩ := stR X222 hx hZ222 e222 A225 (j := (13 : Int32)) (inb_of s225 ⟨by decide, by decide⟩) rfl (Sto.ofV A225 q225 Ov85 (Ins.self Ls222.1)) (g := (mkF m 196 #[.val (.int p0), .val (.int p1), .val (.int (Int32.ofNat nn)), .val (.int (0 : Int32)), .val (.ref b1), .unset, .unset, .unset, .unset, .unset] [(.ref sa222), (.int (13 : Int32)), (.ref b85), (.ref b85)])) rfl rfl (hb hby at_196)
  have V226 : Arv Z h226 b85 k85 (.object "java/lang/String") (16 : Int32) [(.ref sa92), (.ref sa102), (.ref sa112), (.ref sa122), (.ref sa132), (.ref sa142), (.ref sa152), (.ref sa162), (.ref sa172), (.ref sa182), (.ref sa192), (.ref sa202), (.ref sa212), (.ref sa222), .null, .null] .null := Arv.set A225 q225 s225 n225 H225 G225 rfl W226 13 rfl (Nat.le_of_ble_eq_true rfl)
  have N226 := Fr.snoc X226 N216 gb85
  have O226 : Old Z n0 h226 := O222.wr W226 gb85
  have Kp226 : Keep h0 h226 [] := Kp222.wr W226 (Or.inr gs85)
  have Cl226 : CHr Z EL T222.vm h222 T222.vm h226 := CHr.wr W226 Sfb85_222 CH222
  have Sfb1_226 : Safe Z EL T222.vm h226 b1 := Cl226.safe f223.lt Sfb1_222
  have Sfb85_226 : Safe Z EL T222.vm h226 b85 := Cl226.safe f224.lt Sfb85_222
  have CR226 : CHr Z EL s.vm h0 T222.vm h226 := CR222.trans Cl226
  have CH226 := CR226.1
  have hk226 : _ ≤ h226.size := Nat.le_trans hk222 Cl226.2.1
  have f227 : Arv Z h226 b1 k1 (.object "java/lang/String") (16 : Int32) [(.ref sa3), (.ref sa7), (.ref sa11), (.ref sa15), (.ref sa19), (.ref sa23), (.ref sa27), (.ref sa31), (.ref sa35), (.ref sa39), (.ref sa43), (.ref sa47), (.ref sa51), (.ref sa55), (.ref sa59), (.ref sa63)] .null := (f223.other W226 (Nat.ne_of_lt (Nat.lt_of_lt_of_le V66.lt (Nat.le_of_eq g85.symm))))
  have f228 : Exa Z h226 yy "java/lang/String" := ((f218.ext E222).wr W226)
  have f229 : Fld Z h226 yy "java/lang/String" "value" "[B" (.ref ty) := ((f219.ext E222).other W226 (Or.inl (Nat.ne_of_lt (Nat.lt_of_lt_of_le Cs84.lt (Nat.le_of_eq g85.symm)))))
  have f230 : Fld Z h226 yy "java/lang/String" "coder" "B" (.int (0 : Int32)) := ((f220.ext E222).other W226 (Or.inl (Nat.ne_of_lt (Nat.lt_of_lt_of_le Cs84.lt (Nat.le_of_eq g85.symm)))))
  have f231 : Arv Z h226 ty ky .byte (Int32.ofNat (msg0 nn).length) (by8 (msg0 nn)) (.int (0 : Int32)) := ((f221.ext E222).other W226 (Nat.ne_of_lt (Nat.lt_of_lt_of_le As84.lt (Nat.le_of_eq g85.symm))))
  obtain ⟨sa232, T232, h232, k232, sd232, kc232, X232, e232, E232, hS232, hk232, hZ232, ho232, Es232, Cs232, Vs232, As232, la232, lb232, Cq232, hL232, hne232, st232⟩ := ldcCH X226 hx hZ222 ho222 (hw _ (List.mem_of_getElem? (i := 40) rfl)) (own_wS hw) e226 hS222 hk226 hEL (by simp [EL, consts_1]) CH226 (vs := by8 lit34) (z := Int32.ofNat lit34.length) ⟨by decide, rfl⟩ (by decide) (by decide) (g := (mkF m 200 #[.val (.int p0), .val (.int p1), .val (.int (Int32.ofNat nn)), .val (.int (0 : Int32)), .val (.ref b1), .unset, .unset, .unset, .unset, .unset] [(.int (14 : Int32)), (.ref b85), (.ref b85)])) rfl (hb hby at_200) (n := 128) (by decide) (by decide) (by decide) (by decide)
  have O232 : Old Z n0 h232 := O226.ext E232
  have Kp232 : Keep h0 h232 [] := Kp226.ext E232
  have Cl232 : CHr Z EL T222.vm h226 T232.vm h232 := Cq232
  have Sfb1_232 : Safe Z EL T232.vm h232 b1 := Cl232.safe f227.lt Sfb1_226
  have Sfb85_232 : Safe Z EL T232.vm h232 b85 := Cl232.safe V226.lt Sfb85_226
  have CR232 : CHr Z EL s.vm h0 T232.vm h232 := CR226.trans Cl232
  have CH232 := CR232.1
  have Ls232 : Str Z h232 sa232 sd232 kc232 lit34 := ⟨Es232, Vs232, Cs232, As232⟩
  have f233 : Arv Z h232 b1 k1 (.object "java/lang/String") (16 : Int32) [(.ref sa3), (.ref sa7), (.ref sa11), (.ref sa15), (.ref sa19), (.ref sa23), (.ref sa27), (.ref sa31), (.ref sa35), (.ref sa39), (.ref sa43), (.ref sa47), (.ref sa51), (.ref sa55), (.ref sa59), (.ref sa63)] .null := (f227.ext E232)
  have f234 : Arv Z h232 b85 k85 (.object "java/lang/String") (16 : Int32) [(.ref sa92), (.ref sa102), (.ref sa112), (.ref sa122), (.ref sa132), (.ref sa142), (.ref sa152), (.ref sa162), (.ref sa172), (.ref sa182), (.ref sa192), (.ref sa202), (.ref sa212), (.ref sa222), .null, .null] .null := (V226.ext E232)
  obtain ⟨cw235, A235, q235, s235, n235, H235, G235⟩ := id f234
  obtain ⟨T236, h236, X236, e236, W236, st236⟩ := stR X232 hx hZ232 e232 A235 (j := (14 : Int32)) (inb_of s235 ⟨by decide, by decide⟩) rfl (Sto.ofV A235 q235 Ov85 (Ins.self Ls232.1)) (g := (mkF m 202 #[.val (.int p0), .val (.int p1), .val (.int (Int32.ofNat nn)), .val (.int (0 : Int32)), .val (.ref b1), .unset, .unset, .unset, .unset, .unset] [(.ref sa232), (.int (14 : Int32)), (.ref b85), (.ref b85)])) rfl rfl (hb hby at_202)
  have V236 : Arv Z h236 b85 k85 (.object "java/lang/String") (16 : Int32) [(.ref sa92), (.ref sa102), (.ref sa112), (.ref sa122), (.ref sa132), (.ref sa142), (.ref sa152), (.ref sa162), (.ref sa172), (.ref sa182), (.ref sa192), (.ref sa202), (.ref sa212), (.ref sa222), (.ref sa232), .null] .null := Arv.set A235 q235 s235 n235 H235 G235 rfl W236 14 rfl (Nat.le_of_ble_eq_true rfl)
  have N236 := Fr.snoc X236 N226 gb85
  have O236 : Old Z n0 h236 := O232.wr W236 gb85
  have Kp236 : Keep h0 h236 [] := Kp232.wr W236 (Or.inr gs85)
  have Cl236 : CHr Z EL T232.vm h232 T232.vm h236 := CHr.wr W236 Sfb85_232 CH232
  have Sfb1_236 : Safe Z EL T232.vm h236 b1 := Cl236.safe f233.lt Sfb1_232
  have Sfb85_236 : Safe Z EL T232.vm h236 b85 := Cl236.safe f234.lt Sfb85_232
  have CR236 : CHr Z EL s.vm h0 T232.vm h236 := CR232.trans Cl236
  have CH236 := CR236.1
  have hk236 : _ ≤ h236.size := Nat.le_trans hk232 Cl236.2.1
  have f237 : Arv Z h236 b1 k1 (.object "java/lang/String") (16 : Int32) [(.ref sa3), (.ref sa7), (.ref sa11), (.ref sa15), (.ref sa19), (.ref sa23), (.ref sa27), (.ref sa31), (.ref sa35), (.ref sa39), (.ref sa43), (.ref sa47), (.ref sa51), (.ref sa55), (.ref sa59), (.ref sa63)] .null := (f233.other W236 (Nat.ne_of_lt (Nat.lt_of_lt_of_le V66.lt (Nat.le_of_eq g85.symm))))
  have f238 : Exa Z h236 yy "java/lang/String" := ((f228.ext E232).wr W236)
  have f239 : Fld Z h236 yy "java/lang/String" "value" "[B" (.ref ty) := ((f229.ext E232).other W236 (Or.inl (Nat.ne_of_lt (Nat.lt_of_lt_of_le Cs84.lt (Nat.le_of_eq g85.symm)))))
  have f240 : Fld Z h236 yy "java/lang/String" "coder" "B" (.int (0 : Int32)) := ((f230.ext E232).other W236 (Or.inl (Nat.ne_of_lt (Nat.lt_of_lt_of_le Cs84.lt (Nat.le_of_eq g85.symm)))))
  have f241 : Arv Z h236 ty ky .byte (Int32.ofNat (msg0 nn).length) (by8 (msg0 nn)) (.int (0 : Int32)) := ((f231.ext E232).other W236 (Nat.ne_of_lt (Nat.lt_of_lt_of_le As84.lt (Nat.le_of_eq g85.symm))))
  obtain ⟨sa242, T242, h242, k242, sd242, kc242, X242, e242, E242, hS242, hk242, hZ242, ho242, Es242, Cs242, Vs242, As242, la242, lb242, Cq242, hL242, hne242, st242⟩ := ldcCH X236 hx hZ232 ho232 (hw _ (List.mem_of_getElem? (i := 41) rfl)) (own_wS hw) e236 hS232 hk236 hEL (by simp [EL, consts_1]) CH236 (vs := by8 lit35) (z := Int32.ofNat lit35.length) ⟨by decide, rfl⟩ (by decide) (by decide) (g := (mkF m 206 #[.val (.int p0), .val (.int p1), .val (.int (Int32.ofNat nn)), .val (.int (0 : Int32)), .val (.ref b1), .unset, .unset, .unset, .unset, .unset] [(.int (15 : Int32)), (.ref b85), (.ref b85)])) rfl (hb hby at_206) (n := 128) (by decide) (by decide) (by decide) (by decide)
  have O242 : Old Z n0 h242 := O236.ext E242
  have Kp242 : Keep h0 h242 [] := Kp236.ext E242
  have Cl242 : CHr Z EL T232.vm h236 T242.vm h242 := Cq242
  have Sfb1_242 : Safe Z EL T242.vm h242 b1 := Cl242.safe f237.lt Sfb1_236
  have Sfb85_242 : Safe Z EL T242.vm h242 b85 := Cl242.safe V236.lt Sfb85_236
  have CR242 : CHr Z EL s.vm h0 T242.vm h242 := CR236.trans Cl242
  have CH242 := CR242.1
  have Ls242 : Str Z h242 sa242 sd242 kc242 lit35 := ⟨Es242, Vs242, Cs242, As242⟩
  have f243 : Arv Z h242 b1 k1 (.object "java/lang/String") (16 : Int32) [(.ref sa3), (.ref sa7), (.ref sa11), (.ref sa15), (.ref sa19), (.ref sa23), (.ref sa27), (.ref sa31), (.ref sa35), (.ref sa39), (.ref sa43), (.ref sa47), (.ref sa51), (.ref sa55), (.ref sa59), (.ref sa63)] .null := (f237.ext E242)
  have f244 : Arv Z h242 b85 k85 (.object "java/lang/String") (16 : Int32) [(.ref sa92), (.ref sa102), (.ref sa112), (.ref sa122), (.ref sa132), (.ref sa142), (.ref sa152), (.ref sa162), (.ref sa172), (.ref sa182), (.ref sa192), (.ref sa202), (.ref sa212), (.ref sa222), (.ref sa232), .null] .null := (V236.ext E242)
  obtain ⟨cw245, A245, q245, s245, n245, H245, G245⟩ := id f244
  obtain ⟨T246, h246, X246, e246, W246, st246⟩ := stR X242 hx hZ242 e242 A245 (j := (15 : Int32)) (inb_of s245 ⟨by decide, by decide⟩) rfl (Sto.ofV A245 q245 Ov85 (Ins.self Ls242.1)) (g := (mkF m 208 #[.val (.int p0), .val (.int p1), .val (.int (Int32.ofNat nn)), .val (.int (0 : Int32)), .val (.ref b1), .unset, .unset, .unset, .unset, .unset] [(.ref sa242), (.int (15 : Int32)), (.ref b85), (.ref b85)])) rfl rfl (hb hby at_208)
  have V246 : Arv Z h246 b85 k85 (.object "java/lang/String") (16 : Int32) [(.ref sa92), (.ref sa102), (.ref sa112), (.ref sa122), (.ref sa132), (.ref sa142), (.ref sa152), (.ref sa162), (.ref sa172), (.ref sa182), (.ref sa192), (.ref sa202), (.ref sa212), (.ref sa222), (.ref sa232), (.ref sa242)] .null := Arv.set A245 q245 s245 n245 H245 G245 rfl W246 15 rfl (Nat.le_of_ble_eq_true rfl)
  have N246 := Fr.snoc X246 N236 gb85
  have O246 : Old Z n0 h246 := O242.wr W246 gb85
  have Kp246 : Keep h0 h246 [] := Kp242.wr W246 (Or.inr gs85)
  have Cl246 : CHr Z EL T242.vm h242 T242.vm h246 := CHr.wr W246 Sfb85_242 CH242
  have Sfb1_246 : Safe Z EL T242.vm h246 b1 := Cl246.safe f243.lt Sfb1_242
  have Sfb85_246 : Safe Z EL T242.vm h246 b85 := Cl246.safe f244.lt Sfb85_242
  have CR246 : CHr Z EL s.vm h0 T242.vm h246 := CR242.trans Cl246
  have CH246 := CR246.1
  have hk246 : _ ≤ h246.size := Nat.le_trans hk242 Cl246.2.1
  have f247 : Arv Z h246 b1 k1 (.object "java/lang/String") (16 : Int32) [(.ref sa3), (.ref sa7), (.ref sa11), (.ref sa15), (.ref sa19), (.ref sa23), (.ref sa27), (.ref sa31), (.ref sa35), (.ref sa39), (.ref sa43), (.ref sa47), (.ref sa51), (.ref sa55), (.ref sa59), (.ref sa63)] .null := (f243.other W246 (Nat.ne_of_lt (Nat.lt_of_lt_of_le V66.lt (Nat.le_of_eq g85.symm))))
  have f248 : Exa Z h246 yy "java/lang/String" := ((f238.ext E242).wr W246)
  have f249 : Fld Z h246 yy "java/lang/String" "value" "[B" (.ref ty) := ((f239.ext E242).other W246 (Or.inl (Nat.ne_of_lt (Nat.lt_of_lt_of_le Cs84.lt (Nat.le_of_eq g85.symm)))))
  have f250 : Fld Z h246 yy "java/lang/String" "coder" "B" (.int (0 : Int32)) := ((f240.ext E242).other W246 (Or.inl (Nat.ne_of_lt (Nat.lt_of_lt_of_le Cs84.lt (Nat.le_of_eq g85.symm)))))
  have f251 : Arv Z h246 ty ky .byte (Int32.ofNat (msg0 nn).length) (by8 (msg0 nn)) (.int (0 : Int32)) := ((f241.ext E242).other W246 (Nat.ne_of_lt (Nat.lt_of_lt_of_le As84.lt (Nat.le_of_eq g85.symm))))
  obtain ⟨T252, h252, k252, X252, e252, E252, A252, st252⟩ := newP X246 hx hZ242 (hw _ (List.mem_of_getElem? (i := 5) rfl)) e246 (g := (mkF m 212 #[.val (.int p0), .val (.int p1), .val (.int (Int32.ofNat nn)), .val (.int (0 : Int32)), .val (.ref b1), .val (.ref b85), .unset, .unset, .unset, .unset] [(.int (Int32.ofNat nn))])) rfl (hb hby at_212) rfl (own_nn (by omega)) (cap := 15) (by rw [own_cl (by omega)]; omega) (by decide) (by decide) (by decide)
  obtain ⟨b252, g252⟩ : ∃ z, z = h246.size := ⟨_, rfl⟩
  rw [← g252] at A252 st252
  have gb252 : n0 ≤ b252 := by have q1 := O246.1; have q2 := O246.2.1; omega
  have gs252 : h0.size ≤ b252 := by have q := (Kp246).1; omega
  have V252 : Arv Z h252 b252 k252 .byte (Int32.ofNat nn) [] (.int (0 : Int32)) := Arv.new A252 (own_nn (by omega))
  have O252 : Old Z n0 h252 := O246.ext E252
  have Kp252 : Keep h0 h252 [] := Kp246.ext E252
  have Cl252 : CHr Z EL T242.vm h246 T242.vm h252 := CHr.ext E252 CH246
  have Sfb1_252 : Safe Z EL T242.vm h252 b1 := Cl252.safe f247.lt Sfb1_246
  have CR252 : CHr Z EL s.vm h0 T242.vm h252 := CR246.trans Cl252
  have CH252 := CR252.1
  have hk252 : _ ≤ h252.size := Nat.le_trans hk246 Cl252.2.1
  have Sfb252_253 : Safe Z EL T242.vm h252 b252 := Safe.ext E252 CH246 (Safe.new (Nat.le_of_eq g252.symm))
  have f254 : Arv Z h252 b1 k1 (.object "java/lang/String") (16 : Int32) [(.ref sa3), (.ref sa7), (.ref sa11), (.ref sa15), (.ref sa19), (.ref sa23), (.ref sa27), (.ref sa31), (.ref sa35), (.ref sa39), (.ref sa43), (.ref sa47), (.ref sa51), (.ref sa55), (.ref sa59), (.ref sa63)] .null := (f247.ext E252)
  have f255 : Exa Z h252 yy "java/lang/String" := (f248.ext E252)
  have f256 : Fld Z h252 yy "java/lang/String" "value" "[B" (.ref ty) := (f249.ext E252)
  have f257 : Fld Z h252 yy "java/lang/String" "coder" "B" (.int (0 : Int32)) := (f250.ext E252)
  have f258 : Arv Z h252 ty ky .byte (Int32.ofNat (msg0 nn).length) (by8 (msg0 nn)) (.int (0 : Int32)) := (f251.ext E252)
  obtain ⟨T259, h259, X259, e259, E259, A259, D259, -, st259⟩ := newO X252 hx hZ242 ho242 (hw _ (List.mem_of_getElem? (i := 42) rfl)) (hw _ (List.mem_of_getElem? (i := 43) rfl)) (hw _ (List.mem_of_getElem? (i := 44) rfl)) e252 (g := (mkF m 216 #[.val (.int p0), .val (.int p1), .val (.int (Int32.ofNat nn)), .val (.int (0 : Int32)), .val (.ref b1), .val (.ref b85), .val (.ref b252), .unset, .unset, .unset] [])) rfl (hb hby at_216) (by decide) (by decide)
  obtain ⟨b259, g259⟩ : ∃ z, z = h252.size := ⟨_, rfl⟩
  rw [← g259] at A259 D259 st259
  have gb259 : n0 ≤ b259 := by have q1 := O252.1; have q2 := O252.2.1; omega
  have gs259 : h0.size ≤ b259 := by have q := (Kp252).1; omega
  have O259 : Old Z n0 h259 := O252.ext E259
  have Kp259 : Keep h0 h259 [] := Kp252.ext E259
  have Cl259 : CHr Z EL T242.vm h252 T242.vm h259 := CHr.ext E259 CH252
  have Sfb1_259 : Safe Z EL T242.vm h259 b1 := Cl259.safe f254.lt Sfb1_252
  have Sfb252_259 : Safe Z EL T242.vm h259 b252 := Cl259.safe V252.lt Sfb252_253
  have CR259 : CHr Z EL s.vm h0 T242.vm h259 := CR252.trans Cl259
  have CH259 := CR259.1
  have hk259 : _ ≤ h259.size := Nat.le_trans hk252 Cl259.2.1
  have Sfb259_260 : Safe Z EL T242.vm h259 b259 := Safe.ext E259 CH252 (Safe.new (Nat.le_of_eq g259.symm))
  have F259_body : Fld Z h259 b259 "com/example/savepoint/savepoint/AmqpMessage" "body" "[B" .null := D259 (Or.inr (hw _ (List.mem_of_getElem? (i := 52) rfl))) (ty := (.array .byte)) (by decide)
  have F259_redelivered : Fld Z h259 b259 "com/example/savepoint/savepoint/AmqpMessage" "redelivered" "Z" (.int (0 : Int32)) := D259 (Or.inr (hw _ (List.mem_of_getElem? (i := 54) rfl))) (ty := .boolean) (by decide)
  have f261 : Arv Z h259 b1 k1 (.object "java/lang/String") (16 : Int32) [(.ref sa3), (.ref sa7), (.ref sa11), (.ref sa15), (.ref sa19), (.ref sa23), (.ref sa27), (.ref sa31), (.ref sa35), (.ref sa39), (.ref sa43), (.ref sa47), (.ref sa51), (.ref sa55), (.ref sa59), (.ref sa63)] .null := (f254.ext E259)
  have f262 : Arv Z h259 b252 k252 .byte (Int32.ofNat nn) [] (.int (0 : Int32)) := (V252.ext E259)
  obtain ⟨_, _, ⟨T263, L263, k263, n263⟩, -, X263, ⟨Lc263, hQ263, l263, y263, z263⟩, st263⟩ := X259.specialBack hx (y := (⟨"com/example/savepoint/savepoint/AmqpMessage", "<init>", "([BZ)V"⟩ : MethodName)) rfl ho242 (mvT hZ242 (hw _ (List.mem_of_getElem? (i := 45) rfl))) (mvT hZ242 (hw _ (List.mem_of_getElem? (i := 46) rfl))) (mvT hZ242 (hw _ (List.mem_of_getElem? (i := 47) rfl))) (by decide) (backOf (W := 1) (rm_init0 l Z a0 hw [] b259 b252 h259 n0 O259 A259 F259_body F259_redelivered gb259) hZ242 (hw _ (List.mem_of_getElem? (i := 47) rfl)) (hw _ (List.mem_of_getElem? (i := 44) rfl)) (by decide) (by decide)) (g := (mkF m 223 #[.val (.int p0), .val (.int p1), .val (.int (Int32.ofNat nn)), .val (.int (0 : Int32)), .val (.ref b1), .val (.ref b85), .val (.ref b252), .unset, .unset, .unset] [(.int (0 : Int32)), (.ref b252), (.ref b259), (.ref b259)])) rfl (by rw [hml]; rfl) (Steps.refl _) (a := b259) (argsL := [(.ref b252), (.int (0 : Int32))]) (rest := [(.ref b259)]) (lenOf pd_285bBZ29V rfl) rfl (by show 2 * 0 + _ ≤ _; exact Nat.le_of_eq rfl) (hb hby at_223) (fun _ _ => ⟨rfl, e259, (by decide : 68 + 0 ≤ _), (by decide : 3361 + 0 ≤ _)⟩)
  dsimp only [Pt.U, Pt.locs, Pt.cells, Pt.slots] at X263 l263 y263 z263 st263 hQ263
  rw [l263, y263, z263] at X263
  obtain ⟨rfl, N263q, K263, ⟨Fb, Fr_⟩⟩ := hQ263
  have N263 := Fr.app N246 N263q
  have O263 : Old Z n0 T263.heap := O259.keep K263 (allS (P := (n0 ≤ ·)) gb259 all0)
  have Kp263 : Keep h0 T263.heap [] := Kp259.trans K263 (allS (P := (fun x => x ∈ [] ∨ h0.size ≤ x)) (Or.inr gs259) all0)
  have Cl263 : CHr Z EL T242.vm h259 T242.vm T263.heap := CHr.keep K263 (sfS Sfb259_260 sf0) CH259
  have Sfb1_263 : Safe Z EL T242.vm T263.heap b1 := Cl263.safe f261.lt Sfb1_259
  have Sfb252_263 : Safe Z EL T242.vm T263.heap b252 := Cl263.safe f262.lt Sfb252_259
  have Sfb259_263 : Safe Z EL T242.vm T263.heap b259 := Cl263.safe A259.lt Sfb259_260
  have CR263 : CHr Z EL s.vm h0 T242.vm T263.heap := CR259.trans Cl263
  have CH263 := CR263.1
  have hk263 : _ ≤ T263.heap.size := Nat.le_trans hk259 Cl263.2.1
  have f264 : Arv Z T263.heap b1 k1 (.object "java/lang/String") (16 : Int32) [(.ref sa3), (.ref sa7), (.ref sa11), (.ref sa15), (.ref sa19), (.ref sa23), (.ref sa27), (.ref sa31), (.ref sa35), (.ref sa39), (.ref sa43), (.ref sa47), (.ref sa51), (.ref sa55), (.ref sa59), (.ref sa63)] .null := (f261.keep K263 (ninS (Nat.ne_of_lt (Nat.lt_of_lt_of_le f254.lt (Nat.le_of_eq g259.symm))) nin0))
  have f265 : Arv Z T263.heap b252 k252 .byte (Int32.ofNat nn) [] (.int (0 : Int32)) := (f262.keep K263 (ninS (Nat.ne_of_lt (Nat.lt_of_lt_of_le V252.lt (Nat.le_of_eq g259.symm))) nin0))
  have f266 : Exa Z T263.heap b259 "com/example/savepoint/savepoint/AmqpMessage" := (A259.keep K263)
  have f267 : Exa Z T263.heap yy "java/lang/String" := ((f255.ext E259).keep K263)
  have f268 : Fld Z T263.heap yy "java/lang/String" "value" "[B" (.ref ty) := ((f256.ext E259).keep K263 (ninS (Nat.ne_of_lt (Nat.lt_of_lt_of_le f257.lt (Nat.le_of_eq g259.symm))) nin0))
  have f269 : Fld Z T263.heap yy "java/lang/String" "coder" "B" (.int (0 : Int32)) := ((f257.ext E259).keep K263 (ninS (Nat.ne_of_lt (Nat.lt_of_lt_of_le f257.lt (Nat.le_of_eq g259.symm))) nin0))
  have f270 : Arv Z T263.heap ty ky .byte (Int32.ofNat (msg0 nn).length) (by8 (msg0 nn)) (.int (0 : Int32)) := ((f258.ext E259).keep K263 (ninS (Nat.ne_of_lt (Nat.lt_of_lt_of_le f258.lt (Nat.le_of_eq g259.symm))) nin0))
  obtain ⟨cq271, kq271, q271a, q271b, q271c⟩ := isOf hZ242 rfl f266
  obtain ⟨_, _, ⟨T271, L271, k271, n271⟩, -, X271p, hS271p, hg271, ⟨Lc271, hQ271, l271, y271, z271, Cq271⟩, st271⟩ := X263.virtualBackS hx (y := (⟨"com/example/savepoint/savepoint/AmqpMessage", "toString", "()Ljava/lang/String;"⟩ : MethodName)) (z := (⟨"com/example/savepoint/savepoint/AmqpMessage", "toString", "()Ljava/lang/String;"⟩ : MethodName)) ho242 (mvT hZ242 (hw _ (List.mem_of_getElem? (i := 55) rfl))) (mvT hZ242 (hw _ (List.mem_of_getElem? (i := 56) rfl))) (notFace_of_selects (args := #[]) (mvT hZ242 (hw _ (List.mem_of_getElem? (i := 58) rfl)))) (mvT hZ242 (hw _ (List.mem_of_getElem? (i := 58) rfl))) (mvT hZ242 (hw _ (List.mem_of_getElem? (i := 57) rfl))) (by decide) (backOfSH (W := 0) (rm_toS0 l Z a0 hw [] zc b259 b252 k252 nn ist d1 d2 T263.heap n0 O263 hE hD f266 Fb Fr_ f265 hnn hEL) hZ242 (hw _ (List.mem_of_getElem? (i := 59) rfl)) (hw _ (List.mem_of_getElem? (i := 44) rfl)) (by decide) (by decide) hEL CH263) q271a q271c (g := (mkF m 230 #[.val (.int p0), .val (.int p1), .val (.int (Int32.ofNat nn)), .val (.int (0 : Int32)), .val (.ref b1), .val (.ref b85), .val (.ref b252), .val (.ref b259), .unset, .unset] [(.ref b259)])) rfl (by rw [hml]; rfl) (Steps.refl _) (argsL := []) (rest := []) (lenOf pd_2829Ljava2flang2fString3b rfl) rfl (by show 2 * 0 + _ ≤ _; exact Nat.le_of_eq rfl) (hb hby at_230) (fun _ _ => ⟨rfl, rfl, (by decide : 68 + 14 ≤ _), (by decide : 3361 + 1104 ≤ _)⟩)
  dsimp only [Pt.U, Pt.locs, Pt.cells, Pt.slots] at X271p hS271p hg271 l271 y271 z271 st271 hQ271 Cq271
  rw [l271, y271, z271] at X271p
  obtain ⟨X271, hS271, hZ271, ho271⟩ := rebS hS242 hk263 X271p hS271p hg271 hZ242 ho242
  obtain ⟨x271, rfl, N271q, K271, ⟨t271, kx271, Ps271, gx271, gt271⟩⟩ := hQ271
  have N271 := Fr.app N263 N271q
  have gzx271 : h0.size ≤ x271 := Nat.le_trans Kp263.1 gx271
  have gnx271 : n0 ≤ x271 := by have q1 := O263.1; have q2 := O263.2.1; omega
  have gzt271 : h0.size ≤ t271 := Nat.le_trans Kp263.1 gt271
  have gnt271 : n0 ≤ t271 := by have q1 := O263.1; have q2 := O263.2.1; omega
  have O271 : Old Z n0 T271.heap := O263.keep K271 all0
  have Kp271 : Keep h0 T271.heap [] := Kp263.trans K271 all0
  have Cl271 : CHr Z EL T242.vm T263.heap T271.vm T271.heap := Cq271
  have Sfb1_271 : Safe Z EL T271.vm T271.heap b1 := Cl271.safe f264.lt Sfb1_263
  have Sfb252_271 : Safe Z EL T271.vm T271.heap b252 := Cl271.safe f265.lt Sfb252_263
  have Sfb259_271 : Safe Z EL T271.vm T271.heap b259 := Cl271.safe f266.lt Sfb259_263
  have CR271 : CHr Z EL s.vm h0 T271.vm T271.heap := CR263.trans Cl271
  have CH271 := CR271.1
  obtain ⟨Es272, Vs272, Cs272, As272⟩ := id Ps271
  have f273 : Arv Z T271.heap b1 k1 (.object "java/lang/String") (16 : Int32) [(.ref sa3), (.ref sa7), (.ref sa11), (.ref sa15), (.ref sa19), (.ref sa23), (.ref sa27), (.ref sa31), (.ref sa35), (.ref sa39), (.ref sa43), (.ref sa47), (.ref sa51), (.ref sa55), (.ref sa59), (.ref sa63)] .null := (f264.keep K271 nin0)
  obtain ⟨cw274, A274, q274, s274, n274, H274, G274⟩ := id f273
  have f275 : Exa Z T271.heap yy "java/lang/String" := (f267.keep K271)
  have f276 : Fld Z T271.heap yy "java/lang/String" "value" "[B" (.ref ty) := (f268.keep K271 nin0)
  have f277 : Fld Z T271.heap yy "java/lang/String" "coder" "B" (.int (0 : Int32)) := (f269.keep K271 nin0)
  have f278 : Arv Z T271.heap ty ky .byte (Int32.ofNat (msg0 nn).length) (by8 (msg0 nn)) (.int (0 : Int32)) := (f270.keep K271 nin0)
  obtain ⟨cq279, kq279, q279a, q279b, q279c⟩ := isOf hZ271 rfl Es272
  obtain ⟨_, _, ⟨T279, L279, k279, n279⟩, -, X279, ⟨Lc279, hQ279, l279, y279, z279⟩, st279⟩ := X271.virtualBack hx (y := (⟨"java/lang/String", "equals", "(Ljava/lang/Object;)Z"⟩ : MethodName)) (z := (⟨"java/lang/String", "equals", "(Ljava/lang/Object;)Z"⟩ : MethodName)) ho271 (mvT hZ271 (hw _ (List.mem_of_getElem? (i := 212) rfl))) (mvT hZ271 (hw _ (List.mem_of_getElem? (i := 213) rfl))) (notFace_of_selects (args := #[]) (mvT hZ271 (hw _ (List.mem_of_getElem? (i := 215) rfl)))) (mvT hZ271 (hw _ (List.mem_of_getElem? (i := 215) rfl))) (mvT hZ271 (hw _ (List.mem_of_getElem? (i := 214) rfl))) (by decide) (backOf (W := 0) (sb_equals1 l Z a0 hw [] zc x271 t271 kx271 (msg0 nn) yy ty ky (msg0 nn) T271.heap n0 O271 hE ⟨Es272, Vs272, Cs272, As272⟩ ⟨f275, f276, f277, f278⟩ (Ne.symm (Nat.ne_of_lt (Nat.lt_of_lt_of_le f269.lt gx271))) (own_mle0 hnn) (own_mle0 hnn) rfl) hZ271 (hw _ (List.mem_of_getElem? (i := 216) rfl)) (hw _ (List.mem_of_getElem? (i := 3) rfl)) (by decide) (by decide)) q279a q279c (g := (mkF m 256 #[.val (.int p0), .val (.int p1), .val (.int (Int32.ofNat nn)), .val (.int (0 : Int32)), .val (.ref b1), .val (.ref b85), .val (.ref b252), .val (.ref b259), .val (.ref x271), .val (.ref yy)] [(.ref yy), (.ref x271)])) rfl (by rw [hml]; rfl) (Steps.refl _) (argsL := [(.ref yy)]) (rest := []) (lenOf pd_28Ljava2flang2fObject3b29Z rfl) rfl (by show 2 * 0 + _ ≤ _; exact Nat.le_of_eq rfl) (hb hby at_256) (fun _ _ => ⟨rfl, rfl, (by decide : 82 + 0 ≤ _), (by decide : 4465 + 0 ≤ _)⟩)
  dsimp only [Pt.U, Pt.locs, Pt.cells, Pt.slots] at X279 l279 y279 z279 st279 hQ279
  rw [l279, y279, z279] at X279
  obtain ⟨rfl, N279q, e279⟩ := hQ279
  have N279 := Fr.app N271 N279q
  obtain ⟨fs, hr, hrun, hended, hEnd⟩ := X279.leaveW hS271 (by rw [e279]; exact (Nat.le_refl _)) (v := some (.int (1 : Int32))) (fun h => by rw [Bd.returns] at h; cases h)
  have hFin : CHr Z EL s.vm s.heap T279.vm T279.heap := by
    have q := CR271.trans (CHv.at X279 hZ271 hEL CH271)
    rw [hh, e279]; exact q
  refine ⟨_, _, pre0 _ ?_, hrun, hended, _, _, rfl, ?_, hFin, ⟨hEnd.1, hEnd.2.1, hEnd.2.2.1, hEnd.2.2.2.mono (by decide) (by decide)⟩⟩
  · show Steps p.tables e below (s₁.setTop (mkF m 0 #[.val (.int p0), .val (.int p1), .unset, .unset, .unset, .unset, .unset, .unset, .unset, .unset] [])) _
    refine XS.iloadN X0.here hx rfl (hb hby at_0) rfl ?_
    show Steps p.tables e below (s₁.setTop (mkF m 1 #[.val (.int p0), .val (.int p1), .unset, .unset, .unset, .unset, .unset, .unset, .unset, .unset] [(.int p0)])) _
    refine XS.bipush X0.here hx rfl (hb hby at_1) ?_
    show Steps p.tables e below (s₁.setTop (mkF m 3 #[.val (.int p0), .val (.int p1), .unset, .unset, .unset, .unset, .unset, .unset, .unset, .unset] [(.int (15 : Int32)), (.int p0)])) _
    refine XS.iand X0.here hx rfl (hb hby at_3) rfl ?_
    show Steps p.tables e below (s₁.setTop (mkF m 4 #[.val (.int p0), .val (.int p1), .unset, .unset, .unset, .unset, .unset, .unset, .unset, .unset] [(.int (p0 &&& (15 : Int32)))])) _
    rw [hp]
    show Steps p.tables e below (s₁.setTop (mkF m 4 #[.val (.int p0), .val (.int p1), .unset, .unset, .unset, .unset, .unset, .unset, .unset, .unset] [(.int (Int32.ofNat nn))])) _
    refine XS.istoreN X0.here hx rfl (hb hby at_4) rfl (l' := #[.val (.int p0), .val (.int p1), .val (.int (Int32.ofNat nn)), .unset, .unset, .unset, .unset, .unset, .unset, .unset]) rfl ?_
    show Steps p.tables e below (s₁.setTop (mkF m 5 #[.val (.int p0), .val (.int p1), .val (.int (Int32.ofNat nn)), .unset, .unset, .unset, .unset, .unset, .unset, .unset] [])) _
    refine XS.iloadN X0.here hx rfl (hb hby at_5) rfl ?_
    show Steps p.tables e below (s₁.setTop (mkF m 6 #[.val (.int p0), .val (.int p1), .val (.int (Int32.ofNat nn)), .unset, .unset, .unset, .unset, .unset, .unset, .unset] [(.int p1)])) _
    refine XS.iconst X0.here hx rfl (hb hby at_6) ?_
    show Steps p.tables e below (s₁.setTop (mkF m 7 #[.val (.int p0), .val (.int p1), .val (.int (Int32.ofNat nn)), .unset, .unset, .unset, .unset, .unset, .unset, .unset] [(.int (1 : Int32)), (.int p1)])) _
    refine XS.iand X0.here hx rfl (hb hby at_7) rfl ?_
    show Steps p.tables e below (s₁.setTop (mkF m 8 #[.val (.int p0), .val (.int p1), .val (.int (Int32.ofNat nn)), .unset, .unset, .unset, .unset, .unset, .unset, .unset] [(.int (p1 &&& (1 : Int32)))])) _
    refine XS.ifYes X0.here hx rfl (pc0 := 8) (pc' := 15) rfl (hb hby at_8) rfl ((if0 _ _).trans (teq (hc : (p1 &&& (1 : Int32)) = (0 : Int32))).1) (by decide) (by decide) ?_
    show Steps p.tables e below (s₁.setTop (mkF m 15 #[.val (.int p0), .val (.int p1), .val (.int (Int32.ofNat nn)), .unset, .unset, .unset, .unset, .unset, .unset, .unset] [])) _
    refine XS.iconst X0.here hx rfl (hb hby at_15) ?_
    show Steps p.tables e below (s₁.setTop (mkF m 16 #[.val (.int p0), .val (.int p1), .val (.int (Int32.ofNat nn)), .unset, .unset, .unset, .unset, .unset, .unset, .unset] [(.int (0 : Int32))])) _
    refine XS.istoreN X0.here hx rfl (hb hby at_16) rfl (l' := #[.val (.int p0), .val (.int p1), .val (.int (Int32.ofNat nn)), .val (.int (0 : Int32)), .unset, .unset, .unset, .unset, .unset, .unset]) rfl ?_
    show Steps p.tables e below (s₁.setTop (mkF m 17 #[.val (.int p0), .val (.int p1), .val (.int (Int32.ofNat nn)), .val (.int (0 : Int32)), .unset, .unset, .unset, .unset, .unset, .unset] [])) _
    refine XS.bipush X0.here hx rfl (hb hby at_17) ?_
    show Steps p.tables e below (s₁.setTop (mkF m 19 #[.val (.int p0), .val (.int p1), .val (.int (Int32.ofNat nn)), .val (.int (0 : Int32)), .unset, .unset, .unset, .unset, .unset, .unset] [(.int (16 : Int32))])) _
    refine st1 _ ?_
    show Steps p.tables e below (T1.setTop (mkF m 22 #[.val (.int p0), .val (.int p1), .val (.int (Int32.ofNat nn)), .val (.int (0 : Int32)), .unset, .unset, .unset, .unset, .unset, .unset] [(.ref b1)])) _
    refine XS.dup X1.here hx rfl (hb hby at_22) rfl rfl ?_
    show Steps p.tables e below (T1.setTop (mkF m 23 #[.val (.int p0), .val (.int p1), .val (.int (Int32.ofNat nn)), .val (.int (0 : Int32)), .unset, .unset, .unset, .unset, .unset, .unset] [(.ref b1), (.ref b1)])) _
    refine XS.iconst X1.here hx rfl (hb hby at_23) ?_
    show Steps p.tables e below (T1.setTop (mkF m 24 #[.val (.int p0), .val (.int p1), .val (.int (Int32.ofNat nn)), .val (.int (0 : Int32)), .unset, .unset, .unset, .unset, .unset, .unset] [(.int (0 : Int32)), (.ref b1), (.ref b1)])) _
    refine st3 _ ?_
    show Steps p.tables e below (T3.setTop (mkF m 26 #[.val (.int p0), .val (.int p1), .val (.int (Int32.ofNat nn)), .val (.int (0 : Int32)), .unset, .unset, .unset, .unset, .unset, .unset] [(.ref sa3), (.int (0 : Int32)), (.ref b1), (.ref b1)])) _
    refine st6 _ ?_
    show Steps p.tables e below (T6.setTop (mkF m 27 #[.val (.int p0), .val (.int p1), .val (.int (Int32.ofNat nn)), .val (.int (0 : Int32)), .unset, .unset, .unset, .unset, .unset, .unset] [(.ref b1)])) _
    refine XS.dup X6.here hx rfl (hb hby at_27) rfl rfl ?_
    show Steps p.tables e below (T6.setTop (mkF m 28 #[.val (.int p0), .val (.int p1), .val (.int (Int32.ofNat nn)), .val (.int (0 : Int32)), .unset, .unset, .unset, .unset, .unset, .unset] [(.ref b1), (.ref b1)])) _
    refine XS.iconst X6.here hx rfl (hb hby at_28) ?_
    show Steps p.tables e below (T6.setTop (mkF m 29 #[.val (.int p0), .val (.int p1), .val (.int (Int32.ofNat nn)), .val (.int (0 : Int32)), .unset, .unset, .unset, .unset, .unset, .unset] [(.int (1 : Int32)), (.ref b1), (.ref b1)])) _
    refine st7 _ ?_
    show Steps p.tables e below (T7.setTop (mkF m 31 #[.val (.int p0), .val (.int p1), .val (.int (Int32.ofNat nn)), .val (.int (0 : Int32)), .unset, .unset, .unset, .unset, .unset, .unset] [(.ref sa7), (.int (1 : Int32)), (.ref b1), (.ref b1)])) _
    refine st10 _ ?_
    show Steps p.tables e below (T10.setTop (mkF m 32 #[.val (.int p0), .val (.int p1), .val (.int (Int32.ofNat nn)), .val (.int (0 : Int32)), .unset, .unset, .unset, .unset, .unset, .unset] [(.ref b1)])) _
    refine XS.dup X10.here hx rfl (hb hby at_32) rfl rfl ?_
    show Steps p.tables e below (T10.setTop (mkF m 33 #[.val (.int p0), .val (.int p1), .val (.int (Int32.ofNat nn)), .val (.int (0 : Int32)), .unset, .unset, .unset, .unset, .unset, .unset] [(.ref b1), (.ref b1)])) _
    refine XS.iconst X10.here hx rfl (hb hby at_33) ?_
    show Steps p.tables e below (T10.setTop (mkF m 34 #[.val (.int p0), .val (.int p1), .val (.int (Int32.ofNat nn)), .val (.int (0 : Int32)), .unset, .unset, .unset, .unset, .unset, .unset] [(.int (2 : Int32)), (.ref b1), (.ref b1)])) _
    refine st11 _ ?_
    show Steps p.tables e below (T11.setTop (mkF m 36 #[.val (.int p0), .val (.int p1), .val (.int (Int32.ofNat nn)), .val (.int (0 : Int32)), .unset, .unset, .unset, .unset, .unset, .unset] [(.ref sa11), (.int (2 : Int32)), (.ref b1), (.ref b1)])) _
    refine st14 _ ?_
    show Steps p.tables e below (T14.setTop (mkF m 37 #[.val (.int p0), .val (.int p1), .val (.int (Int32.ofNat nn)), .val (.int (0 : Int32)), .unset, .unset, .unset, .unset, .unset, .unset] [(.ref b1)])) _
    refine XS.dup X14.here hx rfl (hb hby at_37) rfl rfl ?_
    show Steps p.tables e below (T14.setTop (mkF m 38 #[.val (.int p0), .val (.int p1), .val (.int (Int32.ofNat nn)), .val (.int (0 : Int32)), .unset, .unset, .unset, .unset, .unset, .unset] [(.ref b1), (.ref b1)])) _
    refine XS.iconst X14.here hx rfl (hb hby at_38) ?_
    show Steps p.tables e below (T14.setTop (mkF m 39 #[.val (.int p0), .val (.int p1), .val (.int (Int32.ofNat nn)), .val (.int (0 : Int32)), .unset, .unset, .unset, .unset, .unset, .unset] [(.int (3 : Int32)), (.ref b1), (.ref b1)])) _
    refine st15 _ ?_
    show Steps p.tables e below (T15.setTop (mkF m 41 #[.val (.int p0), .val (.int p1), .val (.int (Int32.ofNat nn)), .val (.int (0 : Int32)), .unset, .unset, .unset, .unset, .unset, .unset] [(.ref sa15), (.int (3 : Int32)), (.ref b1), (.ref b1)])) _
    refine st18 _ ?_
    show Steps p.tables e below (T18.setTop (mkF m 42 #[.val (.int p0), .val (.int p1), .val (.int (Int32.ofNat nn)), .val (.int (0 : Int32)), .unset, .unset, .unset, .unset, .unset, .unset] [(.ref b1)])) _
    refine XS.dup X18.here hx rfl (hb hby at_42) rfl rfl ?_
    show Steps p.tables e below (T18.setTop (mkF m 43 #[.val (.int p0), .val (.int p1), .val (.int (Int32.ofNat nn)), .val (.int (0 : Int32)), .unset, .unset, .unset, .unset, .unset, .unset] [(.ref b1), (.ref b1)])) _
    refine XS.iconst X18.here hx rfl (hb hby at_43) ?_
    show Steps p.tables e below (T18.setTop (mkF m 44 #[.val (.int p0), .val (.int p1), .val (.int (Int32.ofNat nn)), .val (.int (0 : Int32)), .unset, .unset, .unset, .unset, .unset, .unset] [(.int (4 : Int32)), (.ref b1), (.ref b1)])) _
    refine st19 _ ?_
    show Steps p.tables e below (T19.setTop (mkF m 46 #[.val (.int p0), .val (.int p1), .val (.int (Int32.ofNat nn)), .val (.int (0 : Int32)), .unset, .unset, .unset, .unset, .unset, .unset] [(.ref sa19), (.int (4 : Int32)), (.ref b1), (.ref b1)])) _
    refine st22 _ ?_
    show Steps p.tables e below (T22.setTop (mkF m 47 #[.val (.int p0), .val (.int p1), .val (.int (Int32.ofNat nn)), .val (.int (0 : Int32)), .unset, .unset, .unset, .unset, .unset, .unset] [(.ref b1)])) _
    refine XS.dup X22.here hx rfl (hb hby at_47) rfl rfl ?_
    show Steps p.tables e below (T22.setTop (mkF m 48 #[.val (.int p0), .val (.int p1), .val (.int (Int32.ofNat nn)), .val (.int (0 : Int32)), .unset, .unset, .unset, .unset, .unset, .unset] [(.ref b1), (.ref b1)])) _
    refine XS.iconst X22.here hx rfl (hb hby at_48) ?_
    show Steps p.tables e below (T22.setTop (mkF m 49 #[.val (.int p0), .val (.int p1), .val (.int (Int32.ofNat nn)), .val (.int (0 : Int32)), .unset, .unset, .unset, .unset, .unset, .unset] [(.int (5 : Int32)), (.ref b1), (.ref b1)])) _
    refine st23 _ ?_
    show Steps p.tables e below (T23.setTop (mkF m 51 #[.val (.int p0), .val (.int p1), .val (.int (Int32.ofNat nn)), .val (.int (0 : Int32)), .unset, .unset, .unset, .unset, .unset, .unset] [(.ref sa23), (.int (5 : Int32)), (.ref b1), (.ref b1)])) _
    refine st26 _ ?_
    show Steps p.tables e below (T26.setTop (mkF m 52 #[.val (.int p0), .val (.int p1), .val (.int (Int32.ofNat nn)), .val (.int (0 : Int32)), .unset, .unset, .unset, .unset, .unset, .unset] [(.ref b1)])) _
    refine XS.dup X26.here hx rfl (hb hby at_52) rfl rfl ?_
    show Steps p.tables e below (T26.setTop (mkF m 53 #[.val (.int p0), .val (.int p1), .val (.int (Int32.ofNat nn)), .val (.int (0 : Int32)), .unset, .unset, .unset, .unset, .unset, .unset] [(.ref b1), (.ref b1)])) _
    refine XS.bipush X26.here hx rfl (hb hby at_53) ?_
    show Steps p.tables e below (T26.setTop (mkF m 55 #[.val (.int p0), .val (.int p1), .val (.int (Int32.ofNat nn)), .val (.int (0 : Int32)), .unset, .unset, .unset, .unset, .unset, .unset] [(.int (6 : Int32)), (.ref b1), (.ref b1)])) _
    refine st27 _ ?_
    show Steps p.tables e below (T27.setTop (mkF m 57 #[.val (.int p0), .val (.int p1), .val (.int (Int32.ofNat nn)), .val (.int (0 : Int32)), .unset, .unset, .unset, .unset, .unset, .unset] [(.ref sa27), (.int (6 : Int32)), (.ref b1), (.ref b1)])) _
    refine st30 _ ?_
    show Steps p.tables e below (T30.setTop (mkF m 58 #[.val (.int p0), .val (.int p1), .val (.int (Int32.ofNat nn)), .val (.int (0 : Int32)), .unset, .unset, .unset, .unset, .unset, .unset] [(.ref b1)])) _
    refine XS.dup X30.here hx rfl (hb hby at_58) rfl rfl ?_
    show Steps p.tables e below (T30.setTop (mkF m 59 #[.val (.int p0), .val (.int p1), .val (.int (Int32.ofNat nn)), .val (.int (0 : Int32)), .unset, .unset, .unset, .unset, .unset, .unset] [(.ref b1), (.ref b1)])) _
    refine XS.bipush X30.here hx rfl (hb hby at_59) ?_
    show Steps p.tables e below (T30.setTop (mkF m 61 #[.val (.int p0), .val (.int p1), .val (.int (Int32.ofNat nn)), .val (.int (0 : Int32)), .unset, .unset, .unset, .unset, .unset, .unset] [(.int (7 : Int32)), (.ref b1), (.ref b1)])) _
    refine st31 _ ?_
    show Steps p.tables e below (T31.setTop (mkF m 63 #[.val (.int p0), .val (.int p1), .val (.int (Int32.ofNat nn)), .val (.int (0 : Int32)), .unset, .unset, .unset, .unset, .unset, .unset] [(.ref sa31), (.int (7 : Int32)), (.ref b1), (.ref b1)])) _
    refine st34 _ ?_
    show Steps p.tables e below (T34.setTop (mkF m 64 #[.val (.int p0), .val (.int p1), .val (.int (Int32.ofNat nn)), .val (.int (0 : Int32)), .unset, .unset, .unset, .unset, .unset, .unset] [(.ref b1)])) _
    refine XS.dup X34.here hx rfl (hb hby at_64) rfl rfl ?_
    show Steps p.tables e below (T34.setTop (mkF m 65 #[.val (.int p0), .val (.int p1), .val (.int (Int32.ofNat nn)), .val (.int (0 : Int32)), .unset, .unset, .unset, .unset, .unset, .unset] [(.ref b1), (.ref b1)])) _
    refine XS.bipush X34.here hx rfl (hb hby at_65) ?_
    show Steps p.tables e below (T34.setTop (mkF m 67 #[.val (.int p0), .val (.int p1), .val (.int (Int32.ofNat nn)), .val (.int (0 : Int32)), .unset, .unset, .unset, .unset, .unset, .unset] [(.int (8 : Int32)), (.ref b1), (.ref b1)])) _
    refine st35 _ ?_
    show Steps p.tables e below (T35.setTop (mkF m 69 #[.val (.int p0), .val (.int p1), .val (.int (Int32.ofNat nn)), .val (.int (0 : Int32)), .unset, .unset, .unset, .unset, .unset, .unset] [(.ref sa35), (.int (8 : Int32)), (.ref b1), (.ref b1)])) _
    refine st38 _ ?_
    show Steps p.tables e below (T38.setTop (mkF m 70 #[.val (.int p0), .val (.int p1), .val (.int (Int32.ofNat nn)), .val (.int (0 : Int32)), .unset, .unset, .unset, .unset, .unset, .unset] [(.ref b1)])) _
    refine XS.dup X38.here hx rfl (hb hby at_70) rfl rfl ?_
    show Steps p.tables e below (T38.setTop (mkF m 71 #[.val (.int p0), .val (.int p1), .val (.int (Int32.ofNat nn)), .val (.int (0 : Int32)), .unset, .unset, .unset, .unset, .unset, .unset] [(.ref b1), (.ref b1)])) _
    refine XS.bipush X38.here hx rfl (hb hby at_71) ?_
    show Steps p.tables e below (T38.setTop (mkF m 73 #[.val (.int p0), .val (.int p1), .val (.int (Int32.ofNat nn)), .val (.int (0 : Int32)), .unset, .unset, .unset, .unset, .unset, .unset] [(.int (9 : Int32)), (.ref b1), (.ref b1)])) _
    refine st39 _ ?_
    show Steps p.tables e below (T39.setTop (mkF m 75 #[.val (.int p0), .val (.int p1), .val (.int (Int32.ofNat nn)), .val (.int (0 : Int32)), .unset, .unset, .unset, .unset, .unset, .unset] [(.ref sa39), (.int (9 : Int32)), (.ref b1), (.ref b1)])) _
    refine st42 _ ?_
    show Steps p.tables e below (T42.setTop (mkF m 76 #[.val (.int p0), .val (.int p1), .val (.int (Int32.ofNat nn)), .val (.int (0 : Int32)), .unset, .unset, .unset, .unset, .unset, .unset] [(.ref b1)])) _
    refine XS.dup X42.here hx rfl (hb hby at_76) rfl rfl ?_
    show Steps p.tables e below (T42.setTop (mkF m 77 #[.val (.int p0), .val (.int p1), .val (.int (Int32.ofNat nn)), .val (.int (0 : Int32)), .unset, .unset, .unset, .unset, .unset, .unset] [(.ref b1), (.ref b1)])) _
    refine XS.bipush X42.here hx rfl (hb hby at_77) ?_
    show Steps p.tables e below (T42.setTop (mkF m 79 #[.val (.int p0), .val (.int p1), .val (.int (Int32.ofNat nn)), .val (.int (0 : Int32)), .unset, .unset, .unset, .unset, .unset, .unset] [(.int (10 : Int32)), (.ref b1), (.ref b1)])) _
    refine st43 _ ?_
    show Steps p.tables e below (T43.setTop (mkF m 81 #[.val (.int p0), .val (.int p1), .val (.int (Int32.ofNat nn)), .val (.int (0 : Int32)), .unset, .unset, .unset, .unset, .unset, .unset] [(.ref sa43), (.int (10 : Int32)), (.ref b1), (.ref b1)])) _
    refine st46 _ ?_
    show Steps p.tables e below (T46.setTop (mkF m 82 #[.val (.int p0), .val (.int p1), .val (.int (Int32.ofNat nn)), .val (.int (0 : Int32)), .unset, .unset, .unset, .unset, .unset, .unset] [(.ref b1)])) _
    refine XS.dup X46.here hx rfl (hb hby at_82) rfl rfl ?_
    show Steps p.tables e below (T46.setTop (mkF m 83 #[.val (.int p0), .val (.int p1), .val (.int (Int32.ofNat nn)), .val (.int (0 : Int32)), .unset, .unset, .unset, .unset, .unset, .unset] [(.ref b1), (.ref b1)])) _
    refine XS.bipush X46.here hx rfl (hb hby at_83) ?_
    show Steps p.tables e below (T46.setTop (mkF m 85 #[.val (.int p0), .val (.int p1), .val (.int (Int32.ofNat nn)), .val (.int (0 : Int32)), .unset, .unset, .unset, .unset, .unset, .unset] [(.int (11 : Int32)), (.ref b1), (.ref b1)])) _
    refine st47 _ ?_
    show Steps p.tables e below (T47.setTop (mkF m 87 #[.val (.int p0), .val (.int p1), .val (.int (Int32.ofNat nn)), .val (.int (0 : Int32)), .unset, .unset, .unset, .unset, .unset, .unset] [(.ref sa47), (.int (11 : Int32)), (.ref b1), (.ref b1)])) _
    refine st50 _ ?_
    show Steps p.tables e below (T50.setTop (mkF m 88 #[.val (.int p0), .val (.int p1), .val (.int (Int32.ofNat nn)), .val (.int (0 : Int32)), .unset, .unset, .unset, .unset, .unset, .unset] [(.ref b1)])) _
    refine XS.dup X50.here hx rfl (hb hby at_88) rfl rfl ?_
    show Steps p.tables e below (T50.setTop (mkF m 89 #[.val (.int p0), .val (.int p1), .val (.int (Int32.ofNat nn)), .val (.int (0 : Int32)), .unset, .unset, .unset, .unset, .unset, .unset] [(.ref b1), (.ref b1)])) _
    refine XS.bipush X50.here hx rfl (hb hby at_89) ?_
    show Steps p.tables e below (T50.setTop (mkF m 91 #[.val (.int p0), .val (.int p1), .val (.int (Int32.ofNat nn)), .val (.int (0 : Int32)), .unset, .unset, .unset, .unset, .unset, .unset] [(.int (12 : Int32)), (.ref b1), (.ref b1)])) _
    refine st51 _ ?_
    show Steps p.tables e below (T51.setTop (mkF m 93 #[.val (.int p0), .val (.int p1), .val (.int (Int32.ofNat nn)), .val (.int (0 : Int32)), .unset, .unset, .unset, .unset, .unset, .unset] [(.ref sa51), (.int (12 : Int32)), (.ref b1), (.ref b1)])) _
    refine st54 _ ?_
    show Steps p.tables e below (T54.setTop (mkF m 94 #[.val (.int p0), .val (.int p1), .val (.int (Int32.ofNat nn)), .val (.int (0 : Int32)), .unset, .unset, .unset, .unset, .unset, .unset] [(.ref b1)])) _
    refine XS.dup X54.here hx rfl (hb hby at_94) rfl rfl ?_
    show Steps p.tables e below (T54.setTop (mkF m 95 #[.val (.int p0), .val (.int p1), .val (.int (Int32.ofNat nn)), .val (.int (0 : Int32)), .unset, .unset, .unset, .unset, .unset, .unset] [(.ref b1), (.ref b1)])) _
    refine XS.bipush X54.here hx rfl (hb hby at_95) ?_
    show Steps p.tables e below (T54.setTop (mkF m 97 #[.val (.int p0), .val (.int p1), .val (.int (Int32.ofNat nn)), .val (.int (0 : Int32)), .unset, .unset, .unset, .unset, .unset, .unset] [(.int (13 : Int32)), (.ref b1), (.ref b1)])) _
    refine st55 _ ?_
    show Steps p.tables e below (T55.setTop (mkF m 99 #[.val (.int p0), .val (.int p1), .val (.int (Int32.ofNat nn)), .val (.int (0 : Int32)), .unset, .unset, .unset, .unset, .unset, .unset] [(.ref sa55), (.int (13 : Int32)), (.ref b1), (.ref b1)])) _
    refine st58 _ ?_
    show Steps p.tables e below (T58.setTop (mkF m 100 #[.val (.int p0), .val (.int p1), .val (.int (Int32.ofNat nn)), .val (.int (0 : Int32)), .unset, .unset, .unset, .unset, .unset, .unset] [(.ref b1)])) _
    refine XS.dup X58.here hx rfl (hb hby at_100) rfl rfl ?_
    show Steps p.tables e below (T58.setTop (mkF m 101 #[.val (.int p0), .val (.int p1), .val (.int (Int32.ofNat nn)), .val (.int (0 : Int32)), .unset, .unset, .unset, .unset, .unset, .unset] [(.ref b1), (.ref b1)])) _
    refine XS.bipush X58.here hx rfl (hb hby at_101) ?_
    show Steps p.tables e below (T58.setTop (mkF m 103 #[.val (.int p0), .val (.int p1), .val (.int (Int32.ofNat nn)), .val (.int (0 : Int32)), .unset, .unset, .unset, .unset, .unset, .unset] [(.int (14 : Int32)), (.ref b1), (.ref b1)])) _
    refine st59 _ ?_
    show Steps p.tables e below (T59.setTop (mkF m 105 #[.val (.int p0), .val (.int p1), .val (.int (Int32.ofNat nn)), .val (.int (0 : Int32)), .unset, .unset, .unset, .unset, .unset, .unset] [(.ref sa59), (.int (14 : Int32)), (.ref b1), (.ref b1)])) _
    refine st62 _ ?_
    show Steps p.tables e below (T62.setTop (mkF m 106 #[.val (.int p0), .val (.int p1), .val (.int (Int32.ofNat nn)), .val (.int (0 : Int32)), .unset, .unset, .unset, .unset, .unset, .unset] [(.ref b1)])) _
    refine XS.dup X62.here hx rfl (hb hby at_106) rfl rfl ?_
    show Steps p.tables e below (T62.setTop (mkF m 107 #[.val (.int p0), .val (.int p1), .val (.int (Int32.ofNat nn)), .val (.int (0 : Int32)), .unset, .unset, .unset, .unset, .unset, .unset] [(.ref b1), (.ref b1)])) _
    refine XS.bipush X62.here hx rfl (hb hby at_107) ?_
    show Steps p.tables e below (T62.setTop (mkF m 109 #[.val (.int p0), .val (.int p1), .val (.int (Int32.ofNat nn)), .val (.int (0 : Int32)), .unset, .unset, .unset, .unset, .unset, .unset] [(.int (15 : Int32)), (.ref b1), (.ref b1)])) _
    refine st63 _ ?_
    show Steps p.tables e below (T63.setTop (mkF m 111 #[.val (.int p0), .val (.int p1), .val (.int (Int32.ofNat nn)), .val (.int (0 : Int32)), .unset, .unset, .unset, .unset, .unset, .unset] [(.ref sa63), (.int (15 : Int32)), (.ref b1), (.ref b1)])) _
    refine st66 _ ?_
    show Steps p.tables e below (T66.setTop (mkF m 112 #[.val (.int p0), .val (.int p1), .val (.int (Int32.ofNat nn)), .val (.int (0 : Int32)), .unset, .unset, .unset, .unset, .unset, .unset] [(.ref b1)])) _
    refine XS.astore X66.here hx rfl (hb hby at_112) rfl rfl (l' := #[.val (.int p0), .val (.int p1), .val (.int (Int32.ofNat nn)), .val (.int (0 : Int32)), .val (.ref b1), .unset, .unset, .unset, .unset, .unset]) rfl ?_
    show Steps p.tables e below (T66.setTop (mkF m 114 #[.val (.int p0), .val (.int p1), .val (.int (Int32.ofNat nn)), .val (.int (0 : Int32)), .val (.ref b1), .unset, .unset, .unset, .unset, .unset] [])) _
    refine XS.bipush X66.here hx rfl (hb hby at_114) ?_
    show Steps p.tables e below (T66.setTop (mkF m 116 #[.val (.int p0), .val (.int p1), .val (.int (Int32.ofNat nn)), .val (.int (0 : Int32)), .val (.ref b1), .unset, .unset, .unset, .unset, .unset] [(.int (16 : Int32))])) _
    refine st85 _ ?_
    show Steps p.tables e below (T85.setTop (mkF m 119 #[.val (.int p0), .val (.int p1), .val (.int (Int32.ofNat nn)), .val (.int (0 : Int32)), .val (.ref b1), .unset, .unset, .unset, .unset, .unset] [(.ref b85)])) _
    refine XS.dup X85.here hx rfl (hb hby at_119) rfl rfl ?_
    show Steps p.tables e below (T85.setTop (mkF m 120 #[.val (.int p0), .val (.int p1), .val (.int (Int32.ofNat nn)), .val (.int (0 : Int32)), .val (.ref b1), .unset, .unset, .unset, .unset, .unset] [(.ref b85), (.ref b85)])) _
    refine XS.iconst X85.here hx rfl (hb hby at_120) ?_
    show Steps p.tables e below (T85.setTop (mkF m 121 #[.val (.int p0), .val (.int p1), .val (.int (Int32.ofNat nn)), .val (.int (0 : Int32)), .val (.ref b1), .unset, .unset, .unset, .unset, .unset] [(.int (0 : Int32)), (.ref b85), (.ref b85)])) _
    refine st92 _ ?_
    show Steps p.tables e below (T92.setTop (mkF m 123 #[.val (.int p0), .val (.int p1), .val (.int (Int32.ofNat nn)), .val (.int (0 : Int32)), .val (.ref b1), .unset, .unset, .unset, .unset, .unset] [(.ref sa92), (.int (0 : Int32)), (.ref b85), (.ref b85)])) _
    refine st96 _ ?_
    show Steps p.tables e below (T96.setTop (mkF m 124 #[.val (.int p0), .val (.int p1), .val (.int (Int32.ofNat nn)), .val (.int (0 : Int32)), .val (.ref b1), .unset, .unset, .unset, .unset, .unset] [(.ref b85)])) _
    refine XS.dup X96.here hx rfl (hb hby at_124) rfl rfl ?_
    show Steps p.tables e below (T96.setTop (mkF m 125 #[.val (.int p0), .val (.int p1), .val (.int (Int32.ofNat nn)), .val (.int (0 : Int32)), .val (.ref b1), .unset, .unset, .unset, .unset, .unset] [(.ref b85), (.ref b85)])) _
    refine XS.iconst X96.here hx rfl (hb hby at_125) ?_
    show Steps p.tables e below (T96.setTop (mkF m 126 #[.val (.int p0), .val (.int p1), .val (.int (Int32.ofNat nn)), .val (.int (0 : Int32)), .val (.ref b1), .unset, .unset, .unset, .unset, .unset] [(.int (1 : Int32)), (.ref b85), (.ref b85)])) _
    refine st102 _ ?_
    show Steps p.tables e below (T102.setTop (mkF m 128 #[.val (.int p0), .val (.int p1), .val (.int (Int32.ofNat nn)), .val (.int (0 : Int32)), .val (.ref b1), .unset, .unset, .unset, .unset, .unset] [(.ref sa102), (.int (1 : Int32)), (.ref b85), (.ref b85)])) _
    refine st106 _ ?_
    show Steps p.tables e below (T106.setTop (mkF m 129 #[.val (.int p0), .val (.int p1), .val (.int (Int32.ofNat nn)), .val (.int (0 : Int32)), .val (.ref b1), .unset, .unset, .unset, .unset, .unset] [(.ref b85)])) _
    refine XS.dup X106.here hx rfl (hb hby at_129) rfl rfl ?_
    show Steps p.tables e below (T106.setTop (mkF m 130 #[.val (.int p0), .val (.int p1), .val (.int (Int32.ofNat nn)), .val (.int (0 : Int32)), .val (.ref b1), .unset, .unset, .unset, .unset, .unset] [(.ref b85), (.ref b85)])) _
    refine XS.iconst X106.here hx rfl (hb hby at_130) ?_
    show Steps p.tables e below (T106.setTop (mkF m 131 #[.val (.int p0), .val (.int p1), .val (.int (Int32.ofNat nn)), .val (.int (0 : Int32)), .val (.ref b1), .unset, .unset, .unset, .unset, .unset] [(.int (2 : Int32)), (.ref b85), (.ref b85)])) _
    refine st112 _ ?_
    show Steps p.tables e below (T112.setTop (mkF m 133 #[.val (.int p0), .val (.int p1), .val (.int (Int32.ofNat nn)), .val (.int (0 : Int32)), .val (.ref b1), .unset, .unset, .unset, .unset, .unset] [(.ref sa112), (.int (2 : Int32)), (.ref b85), (.ref b85)])) _
    refine st116 _ ?_
    show Steps p.tables e below (T116.setTop (mkF m 134 #[.val (.int p0), .val (.int p1), .val (.int (Int32.ofNat nn)), .val (.int (0 : Int32)), .val (.ref b1), .unset, .unset, .unset, .unset, .unset] [(.ref b85)])) _
    refine XS.dup X116.here hx rfl (hb hby at_134) rfl rfl ?_
    show Steps p.tables e below (T116.setTop (mkF m 135 #[.val (.int p0), .val (.int p1), .val (.int (Int32.ofNat nn)), .val (.int (0 : Int32)), .val (.ref b1), .unset, .unset, .unset, .unset, .unset] [(.ref b85), (.ref b85)])) _
    refine XS.iconst X116.here hx rfl (hb hby at_135) ?_
    show Steps p.tables e below (T116.setTop (mkF m 136 #[.val (.int p0), .val (.int p1), .val (.int (Int32.ofNat nn)), .val (.int (0 : Int32)), .val (.ref b1), .unset, .unset, .unset, .unset, .unset] [(.int (3 : Int32)), (.ref b85), (.ref b85)])) _
    refine st122 _ ?_
    show Steps p.tables e below (T122.setTop (mkF m 138 #[.val (.int p0), .val (.int p1), .val (.int (Int32.ofNat nn)), .val (.int (0 : Int32)), .val (.ref b1), .unset, .unset, .unset, .unset, .unset] [(.ref sa122), (.int (3 : Int32)), (.ref b85), (.ref b85)])) _
    refine st126 _ ?_
    show Steps p.tables e below (T126.setTop (mkF m 139 #[.val (.int p0), .val (.int p1), .val (.int (Int32.ofNat nn)), .val (.int (0 : Int32)), .val (.ref b1), .unset, .unset, .unset, .unset, .unset] [(.ref b85)])) _
    refine XS.dup X126.here hx rfl (hb hby at_139) rfl rfl ?_
    show Steps p.tables e below (T126.setTop (mkF m 140 #[.val (.int p0), .val (.int p1), .val (.int (Int32.ofNat nn)), .val (.int (0 : Int32)), .val (.ref b1), .unset, .unset, .unset, .unset, .unset] [(.ref b85), (.ref b85)])) _
    refine XS.iconst X126.here hx rfl (hb hby at_140) ?_
    show Steps p.tables e below (T126.setTop (mkF m 141 #[.val (.int p0), .val (.int p1), .val (.int (Int32.ofNat nn)), .val (.int (0 : Int32)), .val (.ref b1), .unset, .unset, .unset, .unset, .unset] [(.int (4 : Int32)), (.ref b85), (.ref b85)])) _
    refine st132 _ ?_
    show Steps p.tables e below (T132.setTop (mkF m 143 #[.val (.int p0), .val (.int p1), .val (.int (Int32.ofNat nn)), .val (.int (0 : Int32)), .val (.ref b1), .unset, .unset, .unset, .unset, .unset] [(.ref sa132), (.int (4 : Int32)), (.ref b85), (.ref b85)])) _
    refine st136 _ ?_
    show Steps p.tables e below (T136.setTop (mkF m 144 #[.val (.int p0), .val (.int p1), .val (.int (Int32.ofNat nn)), .val (.int (0 : Int32)), .val (.ref b1), .unset, .unset, .unset, .unset, .unset] [(.ref b85)])) _
    refine XS.dup X136.here hx rfl (hb hby at_144) rfl rfl ?_
    show Steps p.tables e below (T136.setTop (mkF m 145 #[.val (.int p0), .val (.int p1), .val (.int (Int32.ofNat nn)), .val (.int (0 : Int32)), .val (.ref b1), .unset, .unset, .unset, .unset, .unset] [(.ref b85), (.ref b85)])) _
    refine XS.iconst X136.here hx rfl (hb hby at_145) ?_
    show Steps p.tables e below (T136.setTop (mkF m 146 #[.val (.int p0), .val (.int p1), .val (.int (Int32.ofNat nn)), .val (.int (0 : Int32)), .val (.ref b1), .unset, .unset, .unset, .unset, .unset] [(.int (5 : Int32)), (.ref b85), (.ref b85)])) _
    refine st142 _ ?_
    show Steps p.tables e below (T142.setTop (mkF m 148 #[.val (.int p0), .val (.int p1), .val (.int (Int32.ofNat nn)), .val (.int (0 : Int32)), .val (.ref b1), .unset, .unset, .unset, .unset, .unset] [(.ref sa142), (.int (5 : Int32)), (.ref b85), (.ref b85)])) _
    refine st146 _ ?_
    show Steps p.tables e below (T146.setTop (mkF m 149 #[.val (.int p0), .val (.int p1), .val (.int (Int32.ofNat nn)), .val (.int (0 : Int32)), .val (.ref b1), .unset, .unset, .unset, .unset, .unset] [(.ref b85)])) _
    refine XS.dup X146.here hx rfl (hb hby at_149) rfl rfl ?_
    show Steps p.tables e below (T146.setTop (mkF m 150 #[.val (.int p0), .val (.int p1), .val (.int (Int32.ofNat nn)), .val (.int (0 : Int32)), .val (.ref b1), .unset, .unset, .unset, .unset, .unset] [(.ref b85), (.ref b85)])) _
    refine XS.bipush X146.here hx rfl (hb hby at_150) ?_
    show Steps p.tables e below (T146.setTop (mkF m 152 #[.val (.int p0), .val (.int p1), .val (.int (Int32.ofNat nn)), .val (.int (0 : Int32)), .val (.ref b1), .unset, .unset, .unset, .unset, .unset] [(.int (6 : Int32)), (.ref b85), (.ref b85)])) _
    refine st152 _ ?_
    show Steps p.tables e below (T152.setTop (mkF m 154 #[.val (.int p0), .val (.int p1), .val (.int (Int32.ofNat nn)), .val (.int (0 : Int32)), .val (.ref b1), .unset, .unset, .unset, .unset, .unset] [(.ref sa152), (.int (6 : Int32)), (.ref b85), (.ref b85)])) _
    refine st156 _ ?_
    show Steps p.tables e below (T156.setTop (mkF m 155 #[.val (.int p0), .val (.int p1), .val (.int (Int32.ofNat nn)), .val (.int (0 : Int32)), .val (.ref b1), .unset, .unset, .unset, .unset, .unset] [(.ref b85)])) _
    refine XS.dup X156.here hx rfl (hb hby at_155) rfl rfl ?_
    show Steps p.tables e below (T156.setTop (mkF m 156 #[.val (.int p0), .val (.int p1), .val (.int (Int32.ofNat nn)), .val (.int (0 : Int32)), .val (.ref b1), .unset, .unset, .unset, .unset, .unset] [(.ref b85), (.ref b85)])) _
    refine XS.bipush X156.here hx rfl (hb hby at_156) ?_
    show Steps p.tables e below (T156.setTop (mkF m 158 #[.val (.int p0), .val (.int p1), .val (.int (Int32.ofNat nn)), .val (.int (0 : Int32)), .val (.ref b1), .unset, .unset, .unset, .unset, .unset] [(.int (7 : Int32)), (.ref b85), (.ref b85)])) _
    refine st162 _ ?_
    show Steps p.tables e below (T162.setTop (mkF m 160 #[.val (.int p0), .val (.int p1), .val (.int (Int32.ofNat nn)), .val (.int (0 : Int32)), .val (.ref b1), .unset, .unset, .unset, .unset, .unset] [(.ref sa162), (.int (7 : Int32)), (.ref b85), (.ref b85)])) _
    refine st166 _ ?_
    show Steps p.tables e below (T166.setTop (mkF m 161 #[.val (.int p0), .val (.int p1), .val (.int (Int32.ofNat nn)), .val (.int (0 : Int32)), .val (.ref b1), .unset, .unset, .unset, .unset, .unset] [(.ref b85)])) _
    refine XS.dup X166.here hx rfl (hb hby at_161) rfl rfl ?_
    show Steps p.tables e below (T166.setTop (mkF m 162 #[.val (.int p0), .val (.int p1), .val (.int (Int32.ofNat nn)), .val (.int (0 : Int32)), .val (.ref b1), .unset, .unset, .unset, .unset, .unset] [(.ref b85), (.ref b85)])) _
    refine XS.bipush X166.here hx rfl (hb hby at_162) ?_
    show Steps p.tables e below (T166.setTop (mkF m 164 #[.val (.int p0), .val (.int p1), .val (.int (Int32.ofNat nn)), .val (.int (0 : Int32)), .val (.ref b1), .unset, .unset, .unset, .unset, .unset] [(.int (8 : Int32)), (.ref b85), (.ref b85)])) _
    refine st172 _ ?_
    show Steps p.tables e below (T172.setTop (mkF m 166 #[.val (.int p0), .val (.int p1), .val (.int (Int32.ofNat nn)), .val (.int (0 : Int32)), .val (.ref b1), .unset, .unset, .unset, .unset, .unset] [(.ref sa172), (.int (8 : Int32)), (.ref b85), (.ref b85)])) _
    refine st176 _ ?_
    show Steps p.tables e below (T176.setTop (mkF m 167 #[.val (.int p0), .val (.int p1), .val (.int (Int32.ofNat nn)), .val (.int (0 : Int32)), .val (.ref b1), .unset, .unset, .unset, .unset, .unset] [(.ref b85)])) _
    refine XS.dup X176.here hx rfl (hb hby at_167) rfl rfl ?_
    show Steps p.tables e below (T176.setTop (mkF m 168 #[.val (.int p0), .val (.int p1), .val (.int (Int32.ofNat nn)), .val (.int (0 : Int32)), .val (.ref b1), .unset, .unset, .unset, .unset, .unset] [(.ref b85), (.ref b85)])) _
    refine XS.bipush X176.here hx rfl (hb hby at_168) ?_
    show Steps p.tables e below (T176.setTop (mkF m 170 #[.val (.int p0), .val (.int p1), .val (.int (Int32.ofNat nn)), .val (.int (0 : Int32)), .val (.ref b1), .unset, .unset, .unset, .unset, .unset] [(.int (9 : Int32)), (.ref b85), (.ref b85)])) _
    refine st182 _ ?_
    show Steps p.tables e below (T182.setTop (mkF m 172 #[.val (.int p0), .val (.int p1), .val (.int (Int32.ofNat nn)), .val (.int (0 : Int32)), .val (.ref b1), .unset, .unset, .unset, .unset, .unset] [(.ref sa182), (.int (9 : Int32)), (.ref b85), (.ref b85)])) _
    refine st186 _ ?_
    show Steps p.tables e below (T186.setTop (mkF m 173 #[.val (.int p0), .val (.int p1), .val (.int (Int32.ofNat nn)), .val (.int (0 : Int32)), .val (.ref b1), .unset, .unset, .unset, .unset, .unset] [(.ref b85)])) _
    refine XS.dup X186.here hx rfl (hb hby at_173) rfl rfl ?_
    show Steps p.tables e below (T186.setTop (mkF m 174 #[.val (.int p0), .val (.int p1), .val (.int (Int32.ofNat nn)), .val (.int (0 : Int32)), .val (.ref b1), .unset, .unset, .unset, .unset, .unset] [(.ref b85), (.ref b85)])) _
    refine XS.bipush X186.here hx rfl (hb hby at_174) ?_
    show Steps p.tables e below (T186.setTop (mkF m 176 #[.val (.int p0), .val (.int p1), .val (.int (Int32.ofNat nn)), .val (.int (0 : Int32)), .val (.ref b1), .unset, .unset, .unset, .unset, .unset] [(.int (10 : Int32)), (.ref b85), (.ref b85)])) _
    refine st192 _ ?_
    show Steps p.tables e below (T192.setTop (mkF m 178 #[.val (.int p0), .val (.int p1), .val (.int (Int32.ofNat nn)), .val (.int (0 : Int32)), .val (.ref b1), .unset, .unset, .unset, .unset, .unset] [(.ref sa192), (.int (10 : Int32)), (.ref b85), (.ref b85)])) _
    refine st196 _ ?_
    show Steps p.tables e below (T196.setTop (mkF m 179 #[.val (.int p0), .val (.int p1), .val (.int (Int32.ofNat nn)), .val (.int (0 : Int32)), .val (.ref b1), .unset, .unset, .unset, .unset, .unset] [(.ref b85)])) _
    refine XS.dup X196.here hx rfl (hb hby at_179) rfl rfl ?_
    show Steps p.tables e below (T196.setTop (mkF m 180 #[.val (.int p0), .val (.int p1), .val (.int (Int32.ofNat nn)), .val (.int (0 : Int32)), .val (.ref b1), .unset, .unset, .unset, .unset, .unset] [(.ref b85), (.ref b85)])) _
    refine XS.bipush X196.here hx rfl (hb hby at_180) ?_
    show Steps p.tables e below (T196.setTop (mkF m 182 #[.val (.int p0), .val (.int p1), .val (.int (Int32.ofNat nn)), .val (.int (0 : Int32)), .val (.ref b1), .unset, .unset, .unset, .unset, .unset] [(.int (11 : Int32)), (.ref b85), (.ref b85)])) _
    refine st202 _ ?_
    show Steps p.tables e below (T202.setTop (mkF m 184 #[.val (.int p0), .val (.int p1), .val (.int (Int32.ofNat nn)), .val (.int (0 : Int32)), .val (.ref b1), .unset, .unset, .unset, .unset, .unset] [(.ref sa202), (.int (11 : Int32)), (.ref b85), (.ref b85)])) _
    refine st206 _ ?_
    show Steps p.tables e below (T206.setTop (mkF m 185 #[.val (.int p0), .val (.int p1), .val (.int (Int32.ofNat nn)), .val (.int (0 : Int32)), .val (.ref b1), .unset, .unset, .unset, .unset, .unset] [(.ref b85)])) _
    refine XS.dup X206.here hx rfl (hb hby at_185) rfl rfl ?_
    show Steps p.tables e below (T206.setTop (mkF m 186 #[.val (.int p0), .val (.int p1), .val (.int (Int32.ofNat nn)), .val (.int (0 : Int32)), .val (.ref b1), .unset, .unset, .unset, .unset, .unset] [(.ref b85), (.ref b85)])) _
    refine XS.bipush X206.here hx rfl (hb hby at_186) ?_
    show Steps p.tables e below (T206.setTop (mkF m 188 #[.val (.int p0), .val (.int p1), .val (.int (Int32.ofNat nn)), .val (.int (0 : Int32)), .val (.ref b1), .unset, .unset, .unset, .unset, .unset] [(.int (12 : Int32)), (.ref b85), (.ref b85)])) _
    refine st212 _ ?_
    show Steps p.tables e below (T212.setTop (mkF m 190 #[.val (.int p0), .val (.int p1), .val (.int (Int32.ofNat nn)), .val (.int (0 : Int32)), .val (.ref b1), .unset, .unset, .unset, .unset, .unset] [(.ref sa212), (.int (12 : Int32)), (.ref b85), (.ref b85)])) _
    refine st216 _ ?_
    show Steps p.tables e below (T216.setTop (mkF m 191 #[.val (.int p0), .val (.int p1), .val (.int (Int32.ofNat nn)), .val (.int (0 : Int32)), .val (.ref b1), .unset, .unset, .unset, .unset, .unset] [(.ref b85)])) _
    refine XS.dup X216.here hx rfl (hb hby at_191) rfl rfl ?_
    show Steps p.tables e below (T216.setTop (mkF m 192 #[.val (.int p0), .val (.int p1), .val (.int (Int32.ofNat nn)), .val (.int (0 : Int32)), .val (.ref b1), .unset, .unset, .unset, .unset, .unset] [(.ref b85), (.ref b85)])) _
    refine XS.bipush X216.here hx rfl (hb hby at_192) ?_
    show Steps p.tables e below (T216.setTop (mkF m 194 #[.val (.int p0), .val (.int p1), .val (.int (Int32.ofNat nn)), .val (.int (0 : Int32)), .val (.ref b1), .unset, .unset, .unset, .unset, .unset] [(.int (13 : Int32)), (.ref b85), (.ref b85)])) _
    refine st222 _ ?_
    show Steps p.tables e below (T222.setTop (mkF m 196 #[.val (.int p0), .val (.int p1), .val (.int (Int32.ofNat nn)), .val (.int (0 : Int32)), .val (.ref b1), .unset, .unset, .unset, .unset, .unset] [(.ref sa222), (.int (13 : Int32)), (.ref b85), (.ref b85)])) _
    refine st226 _ ?_
    show Steps p.tables e below (T226.setTop (mkF m 197 #[.val (.int p0), .val (.int p1), .val (.int (Int32.ofNat nn)), .val (.int (0 : Int32)), .val (.ref b1), .unset, .unset, .unset, .unset, .unset] [(.ref b85)])) _
    refine XS.dup X226.here hx rfl (hb hby at_197) rfl rfl ?_
    show Steps p.tables e below (T226.setTop (mkF m 198 #[.val (.int p0), .val (.int p1), .val (.int (Int32.ofNat nn)), .val (.int (0 : Int32)), .val (.ref b1), .unset, .unset, .unset, .unset, .unset] [(.ref b85), (.ref b85)])) _
    refine XS.bipush X226.here hx rfl (hb hby at_198) ?_
    show Steps p.tables e below (T226.setTop (mkF m 200 #[.val (.int p0), .val (.int p1), .val (.int (Int32.ofNat nn)), .val (.int (0 : Int32)), .val (.ref b1), .unset, .unset, .unset, .unset, .unset] [(.int (14 : Int32)), (.ref b85), (.ref b85)])) _
    refine st232 _ ?_
    show Steps p.tables e below (T232.setTop (mkF m 202 #[.val (.int p0), .val (.int p1), .val (.int (Int32.ofNat nn)), .val (.int (0 : Int32)), .val (.ref b1), .unset, .unset, .unset, .unset, .unset] [(.ref sa232), (.int (14 : Int32)), (.ref b85), (.ref b85)])) _
    refine st236 _ ?_
    show Steps p.tables e below (T236.setTop (mkF m 203 #[.val (.int p0), .val (.int p1), .val (.int (Int32.ofNat nn)), .val (.int (0 : Int32)), .val (.ref b1), .unset, .unset, .unset, .unset, .unset] [(.ref b85)])) _
    refine XS.dup X236.here hx rfl (hb hby at_203) rfl rfl ?_
    show Steps p.tables e below (T236.setTop (mkF m 204 #[.val (.int p0), .val (.int p1), .val (.int (Int32.ofNat nn)), .val (.int (0 : Int32)), .val (.ref b1), .unset, .unset, .unset, .unset, .unset] [(.ref b85), (.ref b85)])) _
    refine XS.bipush X236.here hx rfl (hb hby at_204) ?_
    show Steps p.tables e below (T236.setTop (mkF m 206 #[.val (.int p0), .val (.int p1), .val (.int (Int32.ofNat nn)), .val (.int (0 : Int32)), .val (.ref b1), .unset, .unset, .unset, .unset, .unset] [(.int (15 : Int32)), (.ref b85), (.ref b85)])) _
    refine st242 _ ?_
    show Steps p.tables e below (T242.setTop (mkF m 208 #[.val (.int p0), .val (.int p1), .val (.int (Int32.ofNat nn)), .val (.int (0 : Int32)), .val (.ref b1), .unset, .unset, .unset, .unset, .unset] [(.ref sa242), (.int (15 : Int32)), (.ref b85), (.ref b85)])) _
    refine st246 _ ?_
    show Steps p.tables e below (T246.setTop (mkF m 209 #[.val (.int p0), .val (.int p1), .val (.int (Int32.ofNat nn)), .val (.int (0 : Int32)), .val (.ref b1), .unset, .unset, .unset, .unset, .unset] [(.ref b85)])) _
    refine XS.astore X246.here hx rfl (hb hby at_209) rfl rfl (l' := #[.val (.int p0), .val (.int p1), .val (.int (Int32.ofNat nn)), .val (.int (0 : Int32)), .val (.ref b1), .val (.ref b85), .unset, .unset, .unset, .unset]) rfl ?_
    show Steps p.tables e below (T246.setTop (mkF m 211 #[.val (.int p0), .val (.int p1), .val (.int (Int32.ofNat nn)), .val (.int (0 : Int32)), .val (.ref b1), .val (.ref b85), .unset, .unset, .unset, .unset] [])) _
    refine XS.iloadN X246.here hx rfl (hb hby at_211) rfl ?_
    show Steps p.tables e below (T246.setTop (mkF m 212 #[.val (.int p0), .val (.int p1), .val (.int (Int32.ofNat nn)), .val (.int (0 : Int32)), .val (.ref b1), .val (.ref b85), .unset, .unset, .unset, .unset] [(.int (Int32.ofNat nn))])) _
    refine st252 _ ?_
    show Steps p.tables e below (T252.setTop (mkF m 214 #[.val (.int p0), .val (.int p1), .val (.int (Int32.ofNat nn)), .val (.int (0 : Int32)), .val (.ref b1), .val (.ref b85), .unset, .unset, .unset, .unset] [(.ref b252)])) _
    refine XS.astore X252.here hx rfl (hb hby at_214) rfl rfl (l' := #[.val (.int p0), .val (.int p1), .val (.int (Int32.ofNat nn)), .val (.int (0 : Int32)), .val (.ref b1), .val (.ref b85), .val (.ref b252), .unset, .unset, .unset]) rfl ?_
    show Steps p.tables e below (T252.setTop (mkF m 216 #[.val (.int p0), .val (.int p1), .val (.int (Int32.ofNat nn)), .val (.int (0 : Int32)), .val (.ref b1), .val (.ref b85), .val (.ref b252), .unset, .unset, .unset] [])) _
    refine st259 _ ?_
    show Steps p.tables e below (T259.setTop (mkF m 219 #[.val (.int p0), .val (.int p1), .val (.int (Int32.ofNat nn)), .val (.int (0 : Int32)), .val (.ref b1), .val (.ref b85), .val (.ref b252), .unset, .unset, .unset] [(.ref b259)])) _
    refine XS.dup X259.here hx rfl (hb hby at_219) rfl rfl ?_
    show Steps p.tables e below (T259.setTop (mkF m 220 #[.val (.int p0), .val (.int p1), .val (.int (Int32.ofNat nn)), .val (.int (0 : Int32)), .val (.ref b1), .val (.ref b85), .val (.ref b252), .unset, .unset, .unset] [(.ref b259), (.ref b259)])) _
    refine XS.aload X259.here hx rfl (hb hby at_220) rfl rfl ?_
    show Steps p.tables e below (T259.setTop (mkF m 222 #[.val (.int p0), .val (.int p1), .val (.int (Int32.ofNat nn)), .val (.int (0 : Int32)), .val (.ref b1), .val (.ref b85), .val (.ref b252), .unset, .unset, .unset] [(.ref b252), (.ref b259), (.ref b259)])) _
    refine XS.iloadN X259.here hx rfl (hb hby at_222) rfl ?_
    show Steps p.tables e below (T259.setTop (mkF m 223 #[.val (.int p0), .val (.int p1), .val (.int (Int32.ofNat nn)), .val (.int (0 : Int32)), .val (.ref b1), .val (.ref b85), .val (.ref b252), .unset, .unset, .unset] [(.int (0 : Int32)), (.ref b252), (.ref b259), (.ref b259)])) _
    refine st263.trans ?_
    show Steps p.tables e below (T263.setTop (mkF m 226 #[.val (.int p0), .val (.int p1), .val (.int (Int32.ofNat nn)), .val (.int (0 : Int32)), .val (.ref b1), .val (.ref b85), .val (.ref b252), .unset, .unset, .unset] [(.ref b259)])) _
    refine XS.astore X263.here hx rfl (hb hby at_226) rfl rfl (l' := #[.val (.int p0), .val (.int p1), .val (.int (Int32.ofNat nn)), .val (.int (0 : Int32)), .val (.ref b1), .val (.ref b85), .val (.ref b252), .val (.ref b259), .unset, .unset]) rfl ?_
    show Steps p.tables e below (T263.setTop (mkF m 228 #[.val (.int p0), .val (.int p1), .val (.int (Int32.ofNat nn)), .val (.int (0 : Int32)), .val (.ref b1), .val (.ref b85), .val (.ref b252), .val (.ref b259), .unset, .unset] [])) _
    refine XS.aload X263.here hx rfl (hb hby at_228) rfl rfl ?_
    show Steps p.tables e below (T263.setTop (mkF m 230 #[.val (.int p0), .val (.int p1), .val (.int (Int32.ofNat nn)), .val (.int (0 : Int32)), .val (.ref b1), .val (.ref b85), .val (.ref b252), .val (.ref b259), .unset, .unset] [(.ref b259)])) _
    refine st271.trans ?_
    show Steps p.tables e below (T271.setTop (mkF m 233 #[.val (.int p0), .val (.int p1), .val (.int (Int32.ofNat nn)), .val (.int (0 : Int32)), .val (.ref b1), .val (.ref b85), .val (.ref b252), .val (.ref b259), .unset, .unset] [(.ref x271)])) _
    refine XS.astore X271.here hx rfl (hb hby at_233) rfl rfl (l' := #[.val (.int p0), .val (.int p1), .val (.int (Int32.ofNat nn)), .val (.int (0 : Int32)), .val (.ref b1), .val (.ref b85), .val (.ref b252), .val (.ref b259), .val (.ref x271), .unset]) rfl ?_
    show Steps p.tables e below (T271.setTop (mkF m 235 #[.val (.int p0), .val (.int p1), .val (.int (Int32.ofNat nn)), .val (.int (0 : Int32)), .val (.ref b1), .val (.ref b85), .val (.ref b252), .val (.ref b259), .val (.ref x271), .unset] [])) _
    refine XS.iloadN X271.here hx rfl (hb hby at_235) rfl ?_
    show Steps p.tables e below (T271.setTop (mkF m 236 #[.val (.int p0), .val (.int p1), .val (.int (Int32.ofNat nn)), .val (.int (0 : Int32)), .val (.ref b1), .val (.ref b85), .val (.ref b252), .val (.ref b259), .val (.ref x271), .unset] [(.int (0 : Int32))])) _
    refine XS.ifYes X271.here hx rfl (pc0 := 236) (pc' := 246) rfl (hb hby at_236) rfl ((if0 _ _).trans (teq ((by decide) : (0 : Int32) = (0 : Int32))).1) (by decide) (by decide) ?_
    show Steps p.tables e below (T271.setTop (mkF m 246 #[.val (.int p0), .val (.int p1), .val (.int (Int32.ofNat nn)), .val (.int (0 : Int32)), .val (.ref b1), .val (.ref b85), .val (.ref b252), .val (.ref b259), .val (.ref x271), .unset] [])) _
    refine XS.aload X271.here hx rfl (hb hby at_246) rfl rfl ?_
    show Steps p.tables e below (T271.setTop (mkF m 248 #[.val (.int p0), .val (.int p1), .val (.int (Int32.ofNat nn)), .val (.int (0 : Int32)), .val (.ref b1), .val (.ref b85), .val (.ref b252), .val (.ref b259), .val (.ref x271), .unset] [(.ref b1)])) _
    refine XS.iloadN X271.here hx rfl (hb hby at_248) rfl ?_
    show Steps p.tables e below (T271.setTop (mkF m 249 #[.val (.int p0), .val (.int p1), .val (.int (Int32.ofNat nn)), .val (.int (0 : Int32)), .val (.ref b1), .val (.ref b85), .val (.ref b252), .val (.ref b259), .val (.ref x271), .unset] [(.int (Int32.ofNat nn)), (.ref b1)])) _
    refine X271.aaload hx (j := (Int32.ofNat nn)) (v := (.ref yy)) (ty := (.object "java/lang/String")) A274.1 (State.isArrayOf_alike hZ271.alike A274.2.1) rfl A274.2.2 (inb_of s274 ⟨own_nn (by omega), (own_lt (n := nn) (m := 16) (by omega) (by decide)).mpr hnn⟩) (H274.at (inb_of s274 ⟨own_nn (by omega), (own_lt (n := nn) (m := 16) (by omega) (by decide)).mpr hnn⟩) hv) (g := (mkF m 249 #[.val (.int p0), .val (.int p1), .val (.int (Int32.ofNat nn)), .val (.int (0 : Int32)), .val (.ref b1), .val (.ref b85), .val (.ref b252), .val (.ref b259), .val (.ref x271), .unset] [(.int (Int32.ofNat nn)), (.ref b1)])) rfl rfl (hb hby at_249) _ ?_
    show Steps p.tables e below (T271.setTop (mkF m 250 #[.val (.int p0), .val (.int p1), .val (.int (Int32.ofNat nn)), .val (.int (0 : Int32)), .val (.ref b1), .val (.ref b85), .val (.ref b252), .val (.ref b259), .val (.ref x271), .unset] [(.ref yy)])) _
    refine XS.astore X271.here hx rfl (hb hby at_250) rfl rfl (l' := #[.val (.int p0), .val (.int p1), .val (.int (Int32.ofNat nn)), .val (.int (0 : Int32)), .val (.ref b1), .val (.ref b85), .val (.ref b252), .val (.ref b259), .val (.ref x271), .val (.ref yy)]) rfl ?_
    show Steps p.tables e below (T271.setTop (mkF m 252 #[.val (.int p0), .val (.int p1), .val (.int (Int32.ofNat nn)), .val (.int (0 : Int32)), .val (.ref b1), .val (.ref b85), .val (.ref b252), .val (.ref b259), .val (.ref x271), .val (.ref yy)] [])) _
    refine XS.aload X271.here hx rfl (hb hby at_252) rfl rfl ?_
    show Steps p.tables e below (T271.setTop (mkF m 254 #[.val (.int p0), .val (.int p1), .val (.int (Int32.ofNat nn)), .val (.int (0 : Int32)), .val (.ref b1), .val (.ref b85), .val (.ref b252), .val (.ref b259), .val (.ref x271), .val (.ref yy)] [(.ref x271)])) _
    refine XS.aload X271.here hx rfl (hb hby at_254) rfl rfl ?_
    show Steps p.tables e below (T271.setTop (mkF m 256 #[.val (.int p0), .val (.int p1), .val (.int (Int32.ofNat nn)), .val (.int (0 : Int32)), .val (.ref b1), .val (.ref b85), .val (.ref b252), .val (.ref b259), .val (.ref x271), .val (.ref yy)] [(.ref yy), (.ref x271)])) _
    refine st279.trans ?_
    show Steps p.tables e below (T279.setTop (mkF m 259 #[.val (.int p0), .val (.int p1), .val (.int (Int32.ofNat nn)), .val (.int (0 : Int32)), .val (.ref b1), .val (.ref b85), .val (.ref b252), .val (.ref b259), .val (.ref x271), .val (.ref yy)] [(.int (1 : Int32))])) _
    exact retN X279 hx (t := .boolean) Bd.returns (by simp) (hb hby at_259) hr
  · exact ⟨rfl, N279, trivial⟩
set_option maxRecDepth 65536 in
set_option maxHeartbeats 40000000 in
theorem rl_1 (l : Launch) (Z : State) (a0 : Array Value) (hw : ∀ d ∈ tables_1, d.before a0 Z = true) (ws : List Jvm.Cond) (zc p0 p1 : Int32) (ist d1 d2 : Addr) (nn : Nat) (h0 : Heap) (n0 : Nat) (O : Old Z n0 h0) (hE : EnvS Z zc) (hD : EnvD Z ist d1 d2) (hnn : nn < 16) (hp : p0 &&& (15 : Int32) = Int32.ofNat nn) (hc : ¬ (p1 &&& (1 : Int32)) = (0 : Int32)) (hEL : EW Z a0 EL) :
    MetFree l x (head1 (Jvm.Cond.code x code maxLocals ret :: ws) room_1) (fun a U => a = #[(.int p0), (.int p1)] ∧ Z.Warmed39 U.vm ∧ U.heap = h0 ∧ CHv Z EL U.vm h0) (fun _ _ _ _ _ => True) (fun _ U o U' => ∃ v L, o = .returned v ∧ Ql (some (.int (1 : Int32))) n0 v U'.heap L ∧ CHr Z EL U.vm U.heap U'.vm U'.heap ∧ ReturnedEndW U o U' L 104 37376) := by
  refine MetFree.of_bodySF (plainFor_of_name pn_com_example_savepoint_savepoint_AmqpMessageToStringPinLaw) hisR ?_
  intro p e s m args below meth c s₁ Bd hml0 hP hK
  obtain ⟨rfl, hZ, hh, hCH⟩ := hP
  have hx := Bd.exec
  have hby := Bd.bytes
  have hml : c.maxLocals = 10 := hml0
  have hown : s.vm.findClass "com/example/savepoint/savepoint/AmqpMessageToStringPinLaw" = some m.cls := findClass_of_methodNamed Bd.named
  have hnm := (name_of_methodNamed Bd.named Bd.method).1
  have X0 : Stand p l e room_1 (s.setVm s.vm) m #[(.int p0), (.int p1)] below meth c s₁ [] 0 0 := Stand.of_body Bd
  have e0 : s₁.heap = h0 := by rw [← hh, Bd.state]; rfl
  have N0 := Fr.nil n0
  have pre0 : ∀ t, Steps p.tables e below (s₁.setTop (mkF m 0 #[.val (.int p0), .val (.int p1), .unset, .unset, .unset, .unset, .unset, .unset, .unset, .unset] [])) t → Steps p.tables e below (s₁.setTop (entryFrame m #[(.int p0), (.int p1)] maxLocals)) t := fun t k => castTop (ef_maxLocals_II m p0 p1) k
  have hS0 : s.Since s.vm 0 := (State.WarmedH.refl s).since 0
  have hk0 : 0 ≤ h0.size := Nat.zero_le _
  have CR0 : CHr Z EL s.vm h0 s.vm h0 := CHr.refl hCH
  obtain ⟨T1, h1, k1, X1, e1, E1, A1, Ov1, st1⟩ := newR X0 hx hZ hown (hw _ (List.mem_of_getElem? (i := 0) rfl)) (hw _ (List.mem_of_getElem? (i := 1) rfl)) e0 (g := (mkF m 19 #[.val (.int p0), .val (.int p1), .val (.int (Int32.ofNat nn)), .val (.int (1 : Int32)), .unset, .unset, .unset, .unset, .unset, .unset] [(.int (16 : Int32))])) rfl (hb hby at_19) rfl (by decide) (cap := 16) (by decide) (by decide) (by decide) (by decide)
  obtain ⟨b1, g1⟩ : ∃ z, z = h0.size := ⟨_, rfl⟩
  rw [← g1] at A1 st1
  have gb1 : n0 ≤ b1 := by have q1 := O.1; have q2 := O.2.1; omega
  have gs1 : h0.size ≤ b1 := by have q := ((Keep.refl h0 [])).1; omega
  have V1 : Arv Z h1 b1 k1 (.object "java/lang/String") (16 : Int32) [.null, .null, .null, .null, .null, .null, .null, .null, .null, .null, .null, .null, .null, .null, .null, .null] .null := (Arv.new A1 (by decide)).pad (pad_rep [] .null 16)
  have O1 : Old Z n0 h1 := O.ext E1
  have Kp1 : Keep h0 h1 [] := (Keep.refl h0 []).ext E1
  have Cl1 : CHr Z EL s.vm h0 s.vm h1 := CHr.ext E1 hCH
  have CR1 : CHr Z EL s.vm h0 s.vm h1 := CR0.trans Cl1
  have CH1 := CR1.1
  have hk1 : _ ≤ h1.size := Nat.le_trans hk0 Cl1.2.1
  have Sfb1_2 : Safe Z EL s.vm h1 b1 := Safe.ext E1 hCH (Safe.new (Nat.le_of_eq g1.symm))
  obtain ⟨sa3, T3, h3, k3, sd3, kc3, X3, e3, E3, hS3, hk3, hZ3, ho3, Es3, Cs3, Vs3, As3, la3, lb3, Cq3, hL3, hne3, st3⟩ := ldcCH X1 hx hZ hown (hw _ (List.mem_of_getElem? (i := 2) rfl)) (own_wS hw) e1 hS0 hk1 hEL (by simp [EL, consts_1]) CH1 (vs := by8 lit4) (z := Int32.ofNat lit4.length) ⟨by decide, rfl⟩ (by decide) (by decide) (g := (mkF m 24 #[.val (.int p0), .val (.int p1), .val (.int (Int32.ofNat nn)), .val (.int (1 : Int32)), .unset, .unset, .unset, .unset, .unset, .unset] [(.int (0 : Int32)), (.ref b1), (.ref b1)])) rfl (hb hby at_24) (n := 72) (by decide) (by decide) (by decide) (by decide)
  have O3 : Old Z n0 h3 := O1.ext E3
  have Kp3 : Keep h0 h3 [] := Kp1.ext E3
  have Cl3 : CHr Z EL s.vm h1 T3.vm h3 := Cq3
  have Sfb1_3 : Safe Z EL T3.vm h3 b1 := Cl3.safe V1.lt Sfb1_2
  have CR3 : CHr Z EL s.vm h0 T3.vm h3 := CR1.trans Cl3
  have CH3 := CR3.1
  have Ls3 : Str Z h3 sa3 sd3 kc3 lit4 := ⟨Es3, Vs3, Cs3, As3⟩
  have f4 : Arv Z h3 b1 k1 (.object "java/lang/String") (16 : Int32) [.null, .null, .null, .null, .null, .null, .null, .null, .null, .null, .null, .null, .null, .null, .null, .null] .null := (V1.ext E3)
  obtain ⟨cw5, A5, q5, s5, n5, H5, G5⟩ := id f4
  obtain ⟨T6, h6, X6, e6, W6, st6⟩ := stR X3 hx hZ3 e3 A5 (j := (0 : Int32)) (inb_of s5 ⟨by decide, by decide⟩) rfl (Sto.ofV A5 q5 Ov1 (Ins.self Ls3.1)) (g := (mkF m 26 #[.val (.int p0), .val (.int p1), .val (.int (Int32.ofNat nn)), .val (.int (1 : Int32)), .unset, .unset, .unset, .unset, .unset, .unset] [(.ref sa3), (.int (0 : Int32)), (.ref b1), (.ref b1)])) rfl rfl (hb hby at_26)
  have V6 : Arv Z h6 b1 k1 (.object "java/lang/String") (16 : Int32) [(.ref sa3), .null, .null, .null, .null, .null, .null, .null, .null, .null, .null, .null, .null, .null, .null, .null] .null := Arv.set A5 q5 s5 n5 H5 G5 rfl W6 0 rfl (Nat.le_of_ble_eq_true rfl)
  have N6 := Fr.snoc X6 N0 gb1
  have O6 : Old Z n0 h6 := O3.wr W6 gb1
  have Kp6 : Keep h0 h6 [] := Kp3.wr W6 (Or.inr gs1)
  have Cl6 : CHr Z EL T3.vm h3 T3.vm h6 := CHr.wr W6 Sfb1_3 CH3
  have Sfb1_6 : Safe Z EL T3.vm h6 b1 := Cl6.safe f4.lt Sfb1_3
  have CR6 : CHr Z EL s.vm h0 T3.vm h6 := CR3.trans Cl6
  have CH6 := CR6.1
  have hk6 : _ ≤ h6.size := Nat.le_trans hk3 Cl6.2.1
  obtain ⟨sa7, T7, h7, k7, sd7, kc7, X7, e7, E7, hS7, hk7, hZ7, ho7, Es7, Cs7, Vs7, As7, la7, lb7, Cq7, hL7, hne7, st7⟩ := ldcCH X6 hx hZ3 ho3 (hw _ (List.mem_of_getElem? (i := 11) rfl)) (own_wS hw) e6 hS3 hk6 hEL (by simp [EL, consts_1]) CH6 (vs := by8 lit5) (z := Int32.ofNat lit5.length) ⟨by decide, rfl⟩ (by decide) (by decide) (g := (mkF m 29 #[.val (.int p0), .val (.int p1), .val (.int (Int32.ofNat nn)), .val (.int (1 : Int32)), .unset, .unset, .unset, .unset, .unset, .unset] [(.int (1 : Int32)), (.ref b1), (.ref b1)])) rfl (hb hby at_29) (n := 72) (by decide) (by decide) (by decide) (by decide)
  have O7 : Old Z n0 h7 := O6.ext E7
  have Kp7 : Keep h0 h7 [] := Kp6.ext E7
  have Cl7 : CHr Z EL T3.vm h6 T7.vm h7 := Cq7
  have Sfb1_7 : Safe Z EL T7.vm h7 b1 := Cl7.safe V6.lt Sfb1_6
  have CR7 : CHr Z EL s.vm h0 T7.vm h7 := CR6.trans Cl7
  have CH7 := CR7.1
  have Ls7 : Str Z h7 sa7 sd7 kc7 lit5 := ⟨Es7, Vs7, Cs7, As7⟩
  have f8 : Arv Z h7 b1 k1 (.object "java/lang/String") (16 : Int32) [(.ref sa3), .null, .null, .null, .null, .null, .null, .null, .null, .null, .null, .null, .null, .null, .null, .null] .null := (V6.ext E7)
  obtain ⟨cw9, A9, q9, s9, n9, H9, G9⟩ := id f8
  obtain ⟨T10, h10, X10, e10, W10, st10⟩ := stR X7 hx hZ7 e7 A9 (j := (1 : Int32)) (inb_of s9 ⟨by decide, by decide⟩) rfl (Sto.ofV A9 q9 Ov1 (Ins.self Ls7.1)) (g := (mkF m 31 #[.val (.int p0), .val (.int p1), .val (.int (Int32.ofNat nn)), .val (.int (1 : Int32)), .unset, .unset, .unset, .unset, .unset, .unset] [(.ref sa7), (.int (1 : Int32)), (.ref b1), (.ref b1)])) rfl rfl (hb hby at_31)
  have V10 : Arv Z h10 b1 k1 (.object "java/lang/String") (16 : Int32) [(.ref sa3), (.ref sa7), .null, .null, .null, .null, .null, .null, .null, .null, .null, .null, .null, .null, .null, .null] .null := Arv.set A9 q9 s9 n9 H9 G9 rfl W10 1 rfl (Nat.le_of_ble_eq_true rfl)
  have N10 := Fr.snoc X10 N6 gb1
  have O10 : Old Z n0 h10 := O7.wr W10 gb1
  have Kp10 : Keep h0 h10 [] := Kp7.wr W10 (Or.inr gs1)
  have Cl10 : CHr Z EL T7.vm h7 T7.vm h10 := CHr.wr W10 Sfb1_7 CH7
  have Sfb1_10 : Safe Z EL T7.vm h10 b1 := Cl10.safe f8.lt Sfb1_7
  have CR10 : CHr Z EL s.vm h0 T7.vm h10 := CR7.trans Cl10
  have CH10 := CR10.1
  have hk10 : _ ≤ h10.size := Nat.le_trans hk7 Cl10.2.1
  obtain ⟨sa11, T11, h11, k11, sd11, kc11, X11, e11, E11, hS11, hk11, hZ11, ho11, Es11, Cs11, Vs11, As11, la11, lb11, Cq11, hL11, hne11, st11⟩ := ldcCH X10 hx hZ7 ho7 (hw _ (List.mem_of_getElem? (i := 12) rfl)) (own_wS hw) e10 hS7 hk10 hEL (by simp [EL, consts_1]) CH10 (vs := by8 lit6) (z := Int32.ofNat lit6.length) ⟨by decide, rfl⟩ (by decide) (by decide) (g := (mkF m 34 #[.val (.int p0), .val (.int p1), .val (.int (Int32.ofNat nn)), .val (.int (1 : Int32)), .unset, .unset, .unset, .unset, .unset, .unset] [(.int (2 : Int32)), (.ref b1), (.ref b1)])) rfl (hb hby at_34) (n := 72) (by decide) (by decide) (by decide) (by decide)
  have O11 : Old Z n0 h11 := O10.ext E11
  have Kp11 : Keep h0 h11 [] := Kp10.ext E11
  have Cl11 : CHr Z EL T7.vm h10 T11.vm h11 := Cq11
  have Sfb1_11 : Safe Z EL T11.vm h11 b1 := Cl11.safe V10.lt Sfb1_10
  have CR11 : CHr Z EL s.vm h0 T11.vm h11 := CR10.trans Cl11
  have CH11 := CR11.1
  have Ls11 : Str Z h11 sa11 sd11 kc11 lit6 := ⟨Es11, Vs11, Cs11, As11⟩
  have f12 : Arv Z h11 b1 k1 (.object "java/lang/String") (16 : Int32) [(.ref sa3), (.ref sa7), .null, .null, .null, .null, .null, .null, .null, .null, .null, .null, .null, .null, .null, .null] .null := (V10.ext E11)
  obtain ⟨cw13, A13, q13, s13, n13, H13, G13⟩ := id f12
  obtain ⟨T14, h14, X14, e14, W14, st14⟩ := stR X11 hx hZ11 e11 A13 (j := (2 : Int32)) (inb_of s13 ⟨by decide, by decide⟩) rfl (Sto.ofV A13 q13 Ov1 (Ins.self Ls11.1)) (g := (mkF m 36 #[.val (.int p0), .val (.int p1), .val (.int (Int32.ofNat nn)), .val (.int (1 : Int32)), .unset, .unset, .unset, .unset, .unset, .unset] [(.ref sa11), (.int (2 : Int32)), (.ref b1), (.ref b1)])) rfl rfl (hb hby at_36)
  have V14 : Arv Z h14 b1 k1 (.object "java/lang/String") (16 : Int32) [(.ref sa3), (.ref sa7), (.ref sa11), .null, .null, .null, .null, .null, .null, .null, .null, .null, .null, .null, .null, .null] .null := Arv.set A13 q13 s13 n13 H13 G13 rfl W14 2 rfl (Nat.le_of_ble_eq_true rfl)
  have N14 := Fr.snoc X14 N10 gb1
  have O14 : Old Z n0 h14 := O11.wr W14 gb1
  have Kp14 : Keep h0 h14 [] := Kp11.wr W14 (Or.inr gs1)
  have Cl14 : CHr Z EL T11.vm h11 T11.vm h14 := CHr.wr W14 Sfb1_11 CH11
  have Sfb1_14 : Safe Z EL T11.vm h14 b1 := Cl14.safe f12.lt Sfb1_11
  have CR14 : CHr Z EL s.vm h0 T11.vm h14 := CR11.trans Cl14
  have CH14 := CR14.1
  have hk14 : _ ≤ h14.size := Nat.le_trans hk11 Cl14.2.1
  obtain ⟨sa15, T15, h15, k15, sd15, kc15, X15, e15, E15, hS15, hk15, hZ15, ho15, Es15, Cs15, Vs15, As15, la15, lb15, Cq15, hL15, hne15, st15⟩ := ldcCH X14 hx hZ11 ho11 (hw _ (List.mem_of_getElem? (i := 13) rfl)) (own_wS hw) e14 hS11 hk14 hEL (by simp [EL, consts_1]) CH14 (vs := by8 lit7) (z := Int32.ofNat lit7.length) ⟨by decide, rfl⟩ (by decide) (by decide) (g := (mkF m 39 #[.val (.int p0), .val (.int p1), .val (.int (Int32.ofNat nn)), .val (.int (1 : Int32)), .unset, .unset, .unset, .unset, .unset, .unset] [(.int (3 : Int32)), (.ref b1), (.ref b1)])) rfl (hb hby at_39) (n := 72) (by decide) (by decide) (by decide) (by decide)
  have O15 : Old Z n0 h15 := O14.ext E15
  have Kp15 : Keep h0 h15 [] := Kp14.ext E15
  have Cl15 : CHr Z EL T11.vm h14 T15.vm h15 := Cq15
  have Sfb1_15 : Safe Z EL T15.vm h15 b1 := Cl15.safe V14.lt Sfb1_14
  have CR15 : CHr Z EL s.vm h0 T15.vm h15 := CR14.trans Cl15
  have CH15 := CR15.1
  have Ls15 : Str Z h15 sa15 sd15 kc15 lit7 := ⟨Es15, Vs15, Cs15, As15⟩
  have f16 : Arv Z h15 b1 k1 (.object "java/lang/String") (16 : Int32) [(.ref sa3), (.ref sa7), (.ref sa11), .null, .null, .null, .null, .null, .null, .null, .null, .null, .null, .null, .null, .null] .null := (V14.ext E15)
  obtain ⟨cw17, A17, q17, s17, n17, H17, G17⟩ := id f16
  obtain ⟨T18, h18, X18, e18, W18, st18⟩ := stR X15 hx hZ15 e15 A17 (j := (3 : Int32)) (inb_of s17 ⟨by decide, by decide⟩) rfl (Sto.ofV A17 q17 Ov1 (Ins.self Ls15.1)) (g := (mkF m 41 #[.val (.int p0), .val (.int p1), .val (.int (Int32.ofNat nn)), .val (.int (1 : Int32)), .unset, .unset, .unset, .unset, .unset, .unset] [(.ref sa15), (.int (3 : Int32)), (.ref b1), (.ref b1)])) rfl rfl (hb hby at_41)
  have V18 : Arv Z h18 b1 k1 (.object "java/lang/String") (16 : Int32) [(.ref sa3), (.ref sa7), (.ref sa11), (.ref sa15), .null, .null, .null, .null, .null, .null, .null, .null, .null, .null, .null, .null] .null := Arv.set A17 q17 s17 n17 H17 G17 rfl W18 3 rfl (Nat.le_of_ble_eq_true rfl)
  have N18 := Fr.snoc X18 N14 gb1
  have O18 : Old Z n0 h18 := O15.wr W18 gb1
  have Kp18 : Keep h0 h18 [] := Kp15.wr W18 (Or.inr gs1)
  have Cl18 : CHr Z EL T15.vm h15 T15.vm h18 := CHr.wr W18 Sfb1_15 CH15
  have Sfb1_18 : Safe Z EL T15.vm h18 b1 := Cl18.safe f16.lt Sfb1_15
  have CR18 : CHr Z EL s.vm h0 T15.vm h18 := CR15.trans Cl18
  have CH18 := CR18.1
  have hk18 : _ ≤ h18.size := Nat.le_trans hk15 Cl18.2.1
  obtain ⟨sa19, T19, h19, k19, sd19, kc19, X19, e19, E19, hS19, hk19, hZ19, ho19, Es19, Cs19, Vs19, As19, la19, lb19, Cq19, hL19, hne19, st19⟩ := ldcCH X18 hx hZ15 ho15 (hw _ (List.mem_of_getElem? (i := 14) rfl)) (own_wS hw) e18 hS15 hk18 hEL (by simp [EL, consts_1]) CH18 (vs := by8 lit8) (z := Int32.ofNat lit8.length) ⟨by decide, rfl⟩ (by decide) (by decide) (g := (mkF m 44 #[.val (.int p0), .val (.int p1), .val (.int (Int32.ofNat nn)), .val (.int (1 : Int32)), .unset, .unset, .unset, .unset, .unset, .unset] [(.int (4 : Int32)), (.ref b1), (.ref b1)])) rfl (hb hby at_44) (n := 72) (by decide) (by decide) (by decide) (by decide)
  have O19 : Old Z n0 h19 := O18.ext E19
  have Kp19 : Keep h0 h19 [] := Kp18.ext E19
  have Cl19 : CHr Z EL T15.vm h18 T19.vm h19 := Cq19
  have Sfb1_19 : Safe Z EL T19.vm h19 b1 := Cl19.safe V18.lt Sfb1_18
  have CR19 : CHr Z EL s.vm h0 T19.vm h19 := CR18.trans Cl19
  have CH19 := CR19.1
  have Ls19 : Str Z h19 sa19 sd19 kc19 lit8 := ⟨Es19, Vs19, Cs19, As19⟩
  have f20 : Arv Z h19 b1 k1 (.object "java/lang/String") (16 : Int32) [(.ref sa3), (.ref sa7), (.ref sa11), (.ref sa15), .null, .null, .null, .null, .null, .null, .null, .null, .null, .null, .null, .null] .null := (V18.ext E19)
  obtain ⟨cw21, A21, q21, s21, n21, H21, G21⟩ := id f20
  obtain ⟨T22, h22, X22, e22, W22, st22⟩ := stR X19 hx hZ19 e19 A21 (j := (4 : Int32)) (inb_of s21 ⟨by decide, by decide⟩) rfl (Sto.ofV A21 q21 Ov1 (Ins.self Ls19.1)) (g := (mkF m 46 #[.val (.int p0), .val (.int p1), .val (.int (Int32.ofNat nn)), .val (.int (1 : Int32)), .unset, .unset, .unset, .unset, .unset, .unset] [(.ref sa19), (.int (4 : Int32)), (.ref b1), (.ref b1)])) rfl rfl (hb hby at_46)
  have V22 : Arv Z h22 b1 k1 (.object "java/lang/String") (16 : Int32) [(.ref sa3), (.ref sa7), (.ref sa11), (.ref sa15), (.ref sa19), .null, .null, .null, .null, .null, .null, .null, .null, .null, .null, .null] .null := Arv.set A21 q21 s21 n21 H21 G21 rfl W22 4 rfl (Nat.le_of_ble_eq_true rfl)
  have N22 := Fr.snoc X22 N18 gb1
  have O22 : Old Z n0 h22 := O19.wr W22 gb1
  have Kp22 : Keep h0 h22 [] := Kp19.wr W22 (Or.inr gs1)
  have Cl22 : CHr Z EL T19.vm h19 T19.vm h22 := CHr.wr W22 Sfb1_19 CH19
  have Sfb1_22 : Safe Z EL T19.vm h22 b1 := Cl22.safe f20.lt Sfb1_19
  have CR22 : CHr Z EL s.vm h0 T19.vm h22 := CR19.trans Cl22
  have CH22 := CR22.1
  have hk22 : _ ≤ h22.size := Nat.le_trans hk19 Cl22.2.1
  obtain ⟨sa23, T23, h23, k23, sd23, kc23, X23, e23, E23, hS23, hk23, hZ23, ho23, Es23, Cs23, Vs23, As23, la23, lb23, Cq23, hL23, hne23, st23⟩ := ldcCH X22 hx hZ19 ho19 (hw _ (List.mem_of_getElem? (i := 15) rfl)) (own_wS hw) e22 hS19 hk22 hEL (by simp [EL, consts_1]) CH22 (vs := by8 lit9) (z := Int32.ofNat lit9.length) ⟨by decide, rfl⟩ (by decide) (by decide) (g := (mkF m 49 #[.val (.int p0), .val (.int p1), .val (.int (Int32.ofNat nn)), .val (.int (1 : Int32)), .unset, .unset, .unset, .unset, .unset, .unset] [(.int (5 : Int32)), (.ref b1), (.ref b1)])) rfl (hb hby at_49) (n := 72) (by decide) (by decide) (by decide) (by decide)
  have O23 : Old Z n0 h23 := O22.ext E23
  have Kp23 : Keep h0 h23 [] := Kp22.ext E23
  have Cl23 : CHr Z EL T19.vm h22 T23.vm h23 := Cq23
  have Sfb1_23 : Safe Z EL T23.vm h23 b1 := Cl23.safe V22.lt Sfb1_22
  have CR23 : CHr Z EL s.vm h0 T23.vm h23 := CR22.trans Cl23
  have CH23 := CR23.1
  have Ls23 : Str Z h23 sa23 sd23 kc23 lit9 := ⟨Es23, Vs23, Cs23, As23⟩
  have f24 : Arv Z h23 b1 k1 (.object "java/lang/String") (16 : Int32) [(.ref sa3), (.ref sa7), (.ref sa11), (.ref sa15), (.ref sa19), .null, .null, .null, .null, .null, .null, .null, .null, .null, .null, .null] .null := (V22.ext E23)
  obtain ⟨cw25, A25, q25, s25, n25, H25, G25⟩ := id f24
  obtain ⟨T26, h26, X26, e26, W26, st26⟩ := stR X23 hx hZ23 e23 A25 (j := (5 : Int32)) (inb_of s25 ⟨by decide, by decide⟩) rfl (Sto.ofV A25 q25 Ov1 (Ins.self Ls23.1)) (g := (mkF m 51 #[.val (.int p0), .val (.int p1), .val (.int (Int32.ofNat nn)), .val (.int (1 : Int32)), .unset, .unset, .unset, .unset, .unset, .unset] [(.ref sa23), (.int (5 : Int32)), (.ref b1), (.ref b1)])) rfl rfl (hb hby at_51)
  have V26 : Arv Z h26 b1 k1 (.object "java/lang/String") (16 : Int32) [(.ref sa3), (.ref sa7), (.ref sa11), (.ref sa15), (.ref sa19), (.ref sa23), .null, .null, .null, .null, .null, .null, .null, .null, .null, .null] .null := Arv.set A25 q25 s25 n25 H25 G25 rfl W26 5 rfl (Nat.le_of_ble_eq_true rfl)
  have N26 := Fr.snoc X26 N22 gb1
  have O26 : Old Z n0 h26 := O23.wr W26 gb1
  have Kp26 : Keep h0 h26 [] := Kp23.wr W26 (Or.inr gs1)
  have Cl26 : CHr Z EL T23.vm h23 T23.vm h26 := CHr.wr W26 Sfb1_23 CH23
  have Sfb1_26 : Safe Z EL T23.vm h26 b1 := Cl26.safe f24.lt Sfb1_23
  have CR26 : CHr Z EL s.vm h0 T23.vm h26 := CR23.trans Cl26
  have CH26 := CR26.1
  have hk26 : _ ≤ h26.size := Nat.le_trans hk23 Cl26.2.1
  obtain ⟨sa27, T27, h27, k27, sd27, kc27, X27, e27, E27, hS27, hk27, hZ27, ho27, Es27, Cs27, Vs27, As27, la27, lb27, Cq27, hL27, hne27, st27⟩ := ldcCH X26 hx hZ23 ho23 (hw _ (List.mem_of_getElem? (i := 16) rfl)) (own_wS hw) e26 hS23 hk26 hEL (by simp [EL, consts_1]) CH26 (vs := by8 lit10) (z := Int32.ofNat lit10.length) ⟨by decide, rfl⟩ (by decide) (by decide) (g := (mkF m 55 #[.val (.int p0), .val (.int p1), .val (.int (Int32.ofNat nn)), .val (.int (1 : Int32)), .unset, .unset, .unset, .unset, .unset, .unset] [(.int (6 : Int32)), (.ref b1), (.ref b1)])) rfl (hb hby at_55) (n := 72) (by decide) (by decide) (by decide) (by decide)
  have O27 : Old Z n0 h27 := O26.ext E27
  have Kp27 : Keep h0 h27 [] := Kp26.ext E27
  have Cl27 : CHr Z EL T23.vm h26 T27.vm h27 := Cq27
  have Sfb1_27 : Safe Z EL T27.vm h27 b1 := Cl27.safe V26.lt Sfb1_26
  have CR27 : CHr Z EL s.vm h0 T27.vm h27 := CR26.trans Cl27
  have CH27 := CR27.1
  have Ls27 : Str Z h27 sa27 sd27 kc27 lit10 := ⟨Es27, Vs27, Cs27, As27⟩
  have f28 : Arv Z h27 b1 k1 (.object "java/lang/String") (16 : Int32) [(.ref sa3), (.ref sa7), (.ref sa11), (.ref sa15), (.ref sa19), (.ref sa23), .null, .null, .null, .null, .null, .null, .null, .null, .null, .null] .null := (V26.ext E27)
  obtain ⟨cw29, A29, q29, s29, n29, H29, G29⟩ := id f28
  obtain ⟨T30, h30, X30, e30, W30, st30⟩ := stR X27 hx hZ27 e27 A29 (j := (6 : Int32)) (inb_of s29 ⟨by decide, by decide⟩) rfl (Sto.ofV A29 q29 Ov1 (Ins.self Ls27.1)) (g := (mkF m 57 #[.val (.int p0), .val (.int p1), .val (.int (Int32.ofNat nn)), .val (.int (1 : Int32)), .unset, .unset, .unset, .unset, .unset, .unset] [(.ref sa27), (.int (6 : Int32)), (.ref b1), (.ref b1)])) rfl rfl (hb hby at_57)
  have V30 : Arv Z h30 b1 k1 (.object "java/lang/String") (16 : Int32) [(.ref sa3), (.ref sa7), (.ref sa11), (.ref sa15), (.ref sa19), (.ref sa23), (.ref sa27), .null, .null, .null, .null, .null, .null, .null, .null, .null] .null := Arv.set A29 q29 s29 n29 H29 G29 rfl W30 6 rfl (Nat.le_of_ble_eq_true rfl)
  have N30 := Fr.snoc X30 N26 gb1
  have O30 : Old Z n0 h30 := O27.wr W30 gb1
  have Kp30 : Keep h0 h30 [] := Kp27.wr W30 (Or.inr gs1)
  have Cl30 : CHr Z EL T27.vm h27 T27.vm h30 := CHr.wr W30 Sfb1_27 CH27
  have Sfb1_30 : Safe Z EL T27.vm h30 b1 := Cl30.safe f28.lt Sfb1_27
  have CR30 : CHr Z EL s.vm h0 T27.vm h30 := CR27.trans Cl30
  have CH30 := CR30.1
  have hk30 : _ ≤ h30.size := Nat.le_trans hk27 Cl30.2.1
  obtain ⟨sa31, T31, h31, k31, sd31, kc31, X31, e31, E31, hS31, hk31, hZ31, ho31, Es31, Cs31, Vs31, As31, la31, lb31, Cq31, hL31, hne31, st31⟩ := ldcCH X30 hx hZ27 ho27 (hw _ (List.mem_of_getElem? (i := 17) rfl)) (own_wS hw) e30 hS27 hk30 hEL (by simp [EL, consts_1]) CH30 (vs := by8 lit11) (z := Int32.ofNat lit11.length) ⟨by decide, rfl⟩ (by decide) (by decide) (g := (mkF m 61 #[.val (.int p0), .val (.int p1), .val (.int (Int32.ofNat nn)), .val (.int (1 : Int32)), .unset, .unset, .unset, .unset, .unset, .unset] [(.int (7 : Int32)), (.ref b1), (.ref b1)])) rfl (hb hby at_61) (n := 72) (by decide) (by decide) (by decide) (by decide)
  have O31 : Old Z n0 h31 := O30.ext E31
  have Kp31 : Keep h0 h31 [] := Kp30.ext E31
  have Cl31 : CHr Z EL T27.vm h30 T31.vm h31 := Cq31
  have Sfb1_31 : Safe Z EL T31.vm h31 b1 := Cl31.safe V30.lt Sfb1_30
  have CR31 : CHr Z EL s.vm h0 T31.vm h31 := CR30.trans Cl31
  have CH31 := CR31.1
  have Ls31 : Str Z h31 sa31 sd31 kc31 lit11 := ⟨Es31, Vs31, Cs31, As31⟩
  have f32 : Arv Z h31 b1 k1 (.object "java/lang/String") (16 : Int32) [(.ref sa3), (.ref sa7), (.ref sa11), (.ref sa15), (.ref sa19), (.ref sa23), (.ref sa27), .null, .null, .null, .null, .null, .null, .null, .null, .null] .null := (V30.ext E31)
  obtain ⟨cw33, A33, q33, s33, n33, H33, G33⟩ := id f32
  obtain ⟨T34, h34, X34, e34, W34, st34⟩ := stR X31 hx hZ31 e31 A33 (j := (7 : Int32)) (inb_of s33 ⟨by decide, by decide⟩) rfl (Sto.ofV A33 q33 Ov1 (Ins.self Ls31.1)) (g := (mkF m 63 #[.val (.int p0), .val (.int p1), .val (.int (Int32.ofNat nn)), .val (.int (1 : Int32)), .unset, .unset, .unset, .unset, .unset, .unset] [(.ref sa31), (.int (7 : Int32)), (.ref b1), (.ref b1)])) rfl rfl (hb hby at_63)
  have V34 : Arv Z h34 b1 k1 (.object "java/lang/String") (16 : Int32) [(.ref sa3), (.ref sa7), (.ref sa11), (.ref sa15), (.ref sa19), (.ref sa23), (.ref sa27), (.ref sa31), .null, .null, .null, .null, .null, .null, .null, .null] .null := Arv.set A33 q33 s33 n33 H33 G33 rfl W34 7 rfl (Nat.le_of_ble_eq_true rfl)
  have N34 := Fr.snoc X34 N30 gb1
  have O34 : Old Z n0 h34 := O31.wr W34 gb1
  have Kp34 : Keep h0 h34 [] := Kp31.wr W34 (Or.inr gs1)
  have Cl34 : CHr Z EL T31.vm h31 T31.vm h34 := CHr.wr W34 Sfb1_31 CH31
  have Sfb1_34 : Safe Z EL T31.vm h34 b1 := Cl34.safe f32.lt Sfb1_31
  have CR34 : CHr Z EL s.vm h0 T31.vm h34 := CR31.trans Cl34
  have CH34 := CR34.1
  have hk34 : _ ≤ h34.size := Nat.le_trans hk31 Cl34.2.1
  obtain ⟨sa35, T35, h35, k35, sd35, kc35, X35, e35, E35, hS35, hk35, hZ35, ho35, Es35, Cs35, Vs35, As35, la35, lb35, Cq35, hL35, hne35, st35⟩ := ldcCH X34 hx hZ31 ho31 (hw _ (List.mem_of_getElem? (i := 18) rfl)) (own_wS hw) e34 hS31 hk34 hEL (by simp [EL, consts_1]) CH34 (vs := by8 lit12) (z := Int32.ofNat lit12.length) ⟨by decide, rfl⟩ (by decide) (by decide) (g := (mkF m 67 #[.val (.int p0), .val (.int p1), .val (.int (Int32.ofNat nn)), .val (.int (1 : Int32)), .unset, .unset, .unset, .unset, .unset, .unset] [(.int (8 : Int32)), (.ref b1), (.ref b1)])) rfl (hb hby at_67) (n := 72) (by decide) (by decide) (by decide) (by decide)
  have O35 : Old Z n0 h35 := O34.ext E35
  have Kp35 : Keep h0 h35 [] := Kp34.ext E35
  have Cl35 : CHr Z EL T31.vm h34 T35.vm h35 := Cq35
  have Sfb1_35 : Safe Z EL T35.vm h35 b1 := Cl35.safe V34.lt Sfb1_34
  have CR35 : CHr Z EL s.vm h0 T35.vm h35 := CR34.trans Cl35
  have CH35 := CR35.1
  have Ls35 : Str Z h35 sa35 sd35 kc35 lit12 := ⟨Es35, Vs35, Cs35, As35⟩
  have f36 : Arv Z h35 b1 k1 (.object "java/lang/String") (16 : Int32) [(.ref sa3), (.ref sa7), (.ref sa11), (.ref sa15), (.ref sa19), (.ref sa23), (.ref sa27), (.ref sa31), .null, .null, .null, .null, .null, .null, .null, .null] .null := (V34.ext E35)
  obtain ⟨cw37, A37, q37, s37, n37, H37, G37⟩ := id f36
  obtain ⟨T38, h38, X38, e38, W38, st38⟩ := stR X35 hx hZ35 e35 A37 (j := (8 : Int32)) (inb_of s37 ⟨by decide, by decide⟩) rfl (Sto.ofV A37 q37 Ov1 (Ins.self Ls35.1)) (g := (mkF m 69 #[.val (.int p0), .val (.int p1), .val (.int (Int32.ofNat nn)), .val (.int (1 : Int32)), .unset, .unset, .unset, .unset, .unset, .unset] [(.ref sa35), (.int (8 : Int32)), (.ref b1), (.ref b1)])) rfl rfl (hb hby at_69)
  have V38 : Arv Z h38 b1 k1 (.object "java/lang/String") (16 : Int32) [(.ref sa3), (.ref sa7), (.ref sa11), (.ref sa15), (.ref sa19), (.ref sa23), (.ref sa27), (.ref sa31), (.ref sa35), .null, .null, .null, .null, .null, .null, .null] .null := Arv.set A37 q37 s37 n37 H37 G37 rfl W38 8 rfl (Nat.le_of_ble_eq_true rfl)
  have N38 := Fr.snoc X38 N34 gb1
  have O38 : Old Z n0 h38 := O35.wr W38 gb1
  have Kp38 : Keep h0 h38 [] := Kp35.wr W38 (Or.inr gs1)
  have Cl38 : CHr Z EL T35.vm h35 T35.vm h38 := CHr.wr W38 Sfb1_35 CH35
  have Sfb1_38 : Safe Z EL T35.vm h38 b1 := Cl38.safe f36.lt Sfb1_35
  have CR38 : CHr Z EL s.vm h0 T35.vm h38 := CR35.trans Cl38
  have CH38 := CR38.1
  have hk38 : _ ≤ h38.size := Nat.le_trans hk35 Cl38.2.1
  obtain ⟨sa39, T39, h39, k39, sd39, kc39, X39, e39, E39, hS39, hk39, hZ39, ho39, Es39, Cs39, Vs39, As39, la39, lb39, Cq39, hL39, hne39, st39⟩ := ldcCH X38 hx hZ35 ho35 (hw _ (List.mem_of_getElem? (i := 19) rfl)) (own_wS hw) e38 hS35 hk38 hEL (by simp [EL, consts_1]) CH38 (vs := by8 lit13) (z := Int32.ofNat lit13.length) ⟨by decide, rfl⟩ (by decide) (by decide) (g := (mkF m 73 #[.val (.int p0), .val (.int p1), .val (.int (Int32.ofNat nn)), .val (.int (1 : Int32)), .unset, .unset, .unset, .unset, .unset, .unset] [(.int (9 : Int32)), (.ref b1), (.ref b1)])) rfl (hb hby at_73) (n := 72) (by decide) (by decide) (by decide) (by decide)
  have O39 : Old Z n0 h39 := O38.ext E39
  have Kp39 : Keep h0 h39 [] := Kp38.ext E39
  have Cl39 : CHr Z EL T35.vm h38 T39.vm h39 := Cq39
  have Sfb1_39 : Safe Z EL T39.vm h39 b1 := Cl39.safe V38.lt Sfb1_38
  have CR39 : CHr Z EL s.vm h0 T39.vm h39 := CR38.trans Cl39
  have CH39 := CR39.1
  have Ls39 : Str Z h39 sa39 sd39 kc39 lit13 := ⟨Es39, Vs39, Cs39, As39⟩
  have f40 : Arv Z h39 b1 k1 (.object "java/lang/String") (16 : Int32) [(.ref sa3), (.ref sa7), (.ref sa11), (.ref sa15), (.ref sa19), (.ref sa23), (.ref sa27), (.ref sa31), (.ref sa35), .null, .null, .null, .null, .null, .null, .null] .null := (V38.ext E39)
  obtain ⟨cw41, A41, q41, s41, n41, H41, G41⟩ := id f40
  obtain ⟨T42, h42, X42, e42, W42, st42⟩ := stR X39 hx hZ39 e39 A41 (j := (9 : Int32)) (inb_of s41 ⟨by decide, by decide⟩) rfl (Sto.ofV A41 q41 Ov1 (Ins.self Ls39.1)) (g := (mkF m 75 #[.val (.int p0), .val (.int p1), .val (.int (Int32.ofNat nn)), .val (.int (1 : Int32)), .unset, .unset, .unset, .unset, .unset, .unset] [(.ref sa39), (.int (9 : Int32)), (.ref b1), (.ref b1)])) rfl rfl (hb hby at_75)
  have V42 : Arv Z h42 b1 k1 (.object "java/lang/String") (16 : Int32) [(.ref sa3), (.ref sa7), (.ref sa11), (.ref sa15), (.ref sa19), (.ref sa23), (.ref sa27), (.ref sa31), (.ref sa35), (.ref sa39), .null, .null, .null, .null, .null, .null] .null := Arv.set A41 q41 s41 n41 H41 G41 rfl W42 9 rfl (Nat.le_of_ble_eq_true rfl)
  have N42 := Fr.snoc X42 N38 gb1
  have O42 : Old Z n0 h42 := O39.wr W42 gb1
  have Kp42 : Keep h0 h42 [] := Kp39.wr W42 (Or.inr gs1)
  have Cl42 : CHr Z EL T39.vm h39 T39.vm h42 := CHr.wr W42 Sfb1_39 CH39
  have Sfb1_42 : Safe Z EL T39.vm h42 b1 := Cl42.safe f40.lt Sfb1_39
  have CR42 : CHr Z EL s.vm h0 T39.vm h42 := CR39.trans Cl42
  have CH42 := CR42.1
  have hk42 : _ ≤ h42.size := Nat.le_trans hk39 Cl42.2.1
  obtain ⟨sa43, T43, h43, k43, sd43, kc43, X43, e43, E43, hS43, hk43, hZ43, ho43, Es43, Cs43, Vs43, As43, la43, lb43, Cq43, hL43, hne43, st43⟩ := ldcCH X42 hx hZ39 ho39 (hw _ (List.mem_of_getElem? (i := 20) rfl)) (own_wS hw) e42 hS39 hk42 hEL (by simp [EL, consts_1]) CH42 (vs := by8 lit14) (z := Int32.ofNat lit14.length) ⟨by decide, rfl⟩ (by decide) (by decide) (g := (mkF m 79 #[.val (.int p0), .val (.int p1), .val (.int (Int32.ofNat nn)), .val (.int (1 : Int32)), .unset, .unset, .unset, .unset, .unset, .unset] [(.int (10 : Int32)), (.ref b1), (.ref b1)])) rfl (hb hby at_79) (n := 76) (by decide) (by decide) (by decide) (by decide)
  have O43 : Old Z n0 h43 := O42.ext E43
  have Kp43 : Keep h0 h43 [] := Kp42.ext E43
  have Cl43 : CHr Z EL T39.vm h42 T43.vm h43 := Cq43
  have Sfb1_43 : Safe Z EL T43.vm h43 b1 := Cl43.safe V42.lt Sfb1_42
  have CR43 : CHr Z EL s.vm h0 T43.vm h43 := CR42.trans Cl43
  have CH43 := CR43.1
  have Ls43 : Str Z h43 sa43 sd43 kc43 lit14 := ⟨Es43, Vs43, Cs43, As43⟩
  have f44 : Arv Z h43 b1 k1 (.object "java/lang/String") (16 : Int32) [(.ref sa3), (.ref sa7), (.ref sa11), (.ref sa15), (.ref sa19), (.ref sa23), (.ref sa27), (.ref sa31), (.ref sa35), (.ref sa39), .null, .null, .null, .null, .null, .null] .null := (V42.ext E43)
  obtain ⟨cw45, A45, q45, s45, n45, H45, G45⟩ := id f44
  obtain ⟨T46, h46, X46, e46, W46, st46⟩ := stR X43 hx hZ43 e43 A45 (j := (10 : Int32)) (inb_of s45 ⟨by decide, by decide⟩) rfl (Sto.ofV A45 q45 Ov1 (Ins.self Ls43.1)) (g := (mkF m 81 #[.val (.int p0), .val (.int p1), .val (.int (Int32.ofNat nn)), .val (.int (1 : Int32)), .unset, .unset, .unset, .unset, .unset, .unset] [(.ref sa43), (.int (10 : Int32)), (.ref b1), (.ref b1)])) rfl rfl (hb hby at_81)
  have V46 : Arv Z h46 b1 k1 (.object "java/lang/String") (16 : Int32) [(.ref sa3), (.ref sa7), (.ref sa11), (.ref sa15), (.ref sa19), (.ref sa23), (.ref sa27), (.ref sa31), (.ref sa35), (.ref sa39), (.ref sa43), .null, .null, .null, .null, .null] .null := Arv.set A45 q45 s45 n45 H45 G45 rfl W46 10 rfl (Nat.le_of_ble_eq_true rfl)
  have N46 := Fr.snoc X46 N42 gb1
  have O46 : Old Z n0 h46 := O43.wr W46 gb1
  have Kp46 : Keep h0 h46 [] := Kp43.wr W46 (Or.inr gs1)
  have Cl46 : CHr Z EL T43.vm h43 T43.vm h46 := CHr.wr W46 Sfb1_43 CH43
  have Sfb1_46 : Safe Z EL T43.vm h46 b1 := Cl46.safe f44.lt Sfb1_43
  have CR46 : CHr Z EL s.vm h0 T43.vm h46 := CR43.trans Cl46
  have CH46 := CR46.1
  have hk46 : _ ≤ h46.size := Nat.le_trans hk43 Cl46.2.1
  obtain ⟨sa47, T47, h47, k47, sd47, kc47, X47, e47, E47, hS47, hk47, hZ47, ho47, Es47, Cs47, Vs47, As47, la47, lb47, Cq47, hL47, hne47, st47⟩ := ldcCH X46 hx hZ43 ho43 (hw _ (List.mem_of_getElem? (i := 21) rfl)) (own_wS hw) e46 hS43 hk46 hEL (by simp [EL, consts_1]) CH46 (vs := by8 lit15) (z := Int32.ofNat lit15.length) ⟨by decide, rfl⟩ (by decide) (by decide) (g := (mkF m 85 #[.val (.int p0), .val (.int p1), .val (.int (Int32.ofNat nn)), .val (.int (1 : Int32)), .unset, .unset, .unset, .unset, .unset, .unset] [(.int (11 : Int32)), (.ref b1), (.ref b1)])) rfl (hb hby at_85) (n := 76) (by decide) (by decide) (by decide) (by decide)
  have O47 : Old Z n0 h47 := O46.ext E47
  have Kp47 : Keep h0 h47 [] := Kp46.ext E47
  have Cl47 : CHr Z EL T43.vm h46 T47.vm h47 := Cq47
  have Sfb1_47 : Safe Z EL T47.vm h47 b1 := Cl47.safe V46.lt Sfb1_46
  have CR47 : CHr Z EL s.vm h0 T47.vm h47 := CR46.trans Cl47
  have CH47 := CR47.1
  have Ls47 : Str Z h47 sa47 sd47 kc47 lit15 := ⟨Es47, Vs47, Cs47, As47⟩
  have f48 : Arv Z h47 b1 k1 (.object "java/lang/String") (16 : Int32) [(.ref sa3), (.ref sa7), (.ref sa11), (.ref sa15), (.ref sa19), (.ref sa23), (.ref sa27), (.ref sa31), (.ref sa35), (.ref sa39), (.ref sa43), .null, .null, .null, .null, .null] .null := (V46.ext E47)
  obtain ⟨cw49, A49, q49, s49, n49, H49, G49⟩ := id f48
  obtain ⟨T50, h50, X50, e50, W50, st50⟩ := stR X47 hx hZ47 e47 A49 (j := (11 : Int32)) (inb_of s49 ⟨by decide, by decide⟩) rfl (Sto.ofV A49 q49 Ov1 (Ins.self Ls47.1)) (g := (mkF m 87 #[.val (.int p0), .val (.int p1), .val (.int (Int32.ofNat nn)), .val (.int (1 : Int32)), .unset, .unset, .unset, .unset, .unset, .unset] [(.ref sa47), (.int (11 : Int32)), (.ref b1), (.ref b1)])) rfl rfl (hb hby at_87)
  have V50 : Arv Z h50 b1 k1 (.object "java/lang/String") (16 : Int32) [(.ref sa3), (.ref sa7), (.ref sa11), (.ref sa15), (.ref sa19), (.ref sa23), (.ref sa27), (.ref sa31), (.ref sa35), (.ref sa39), (.ref sa43), (.ref sa47), .null, .null, .null, .null] .null := Arv.set A49 q49 s49 n49 H49 G49 rfl W50 11 rfl (Nat.le_of_ble_eq_true rfl)
  have N50 := Fr.snoc X50 N46 gb1
  have O50 : Old Z n0 h50 := O47.wr W50 gb1
  have Kp50 : Keep h0 h50 [] := Kp47.wr W50 (Or.inr gs1)
  have Cl50 : CHr Z EL T47.vm h47 T47.vm h50 := CHr.wr W50 Sfb1_47 CH47
  have Sfb1_50 : Safe Z EL T47.vm h50 b1 := Cl50.safe f48.lt Sfb1_47
  have CR50 : CHr Z EL s.vm h0 T47.vm h50 := CR47.trans Cl50
  have CH50 := CR50.1
  have hk50 : _ ≤ h50.size := Nat.le_trans hk47 Cl50.2.1
  obtain ⟨sa51, T51, h51, k51, sd51, kc51, X51, e51, E51, hS51, hk51, hZ51, ho51, Es51, Cs51, Vs51, As51, la51, lb51, Cq51, hL51, hne51, st51⟩ := ldcCH X50 hx hZ47 ho47 (hw _ (List.mem_of_getElem? (i := 22) rfl)) (own_wS hw) e50 hS47 hk50 hEL (by simp [EL, consts_1]) CH50 (vs := by8 lit16) (z := Int32.ofNat lit16.length) ⟨by decide, rfl⟩ (by decide) (by decide) (g := (mkF m 91 #[.val (.int p0), .val (.int p1), .val (.int (Int32.ofNat nn)), .val (.int (1 : Int32)), .unset, .unset, .unset, .unset, .unset, .unset] [(.int (12 : Int32)), (.ref b1), (.ref b1)])) rfl (hb hby at_91) (n := 76) (by decide) (by decide) (by decide) (by decide)
  have O51 : Old Z n0 h51 := O50.ext E51
  have Kp51 : Keep h0 h51 [] := Kp50.ext E51
  have Cl51 : CHr Z EL T47.vm h50 T51.vm h51 := Cq51
  have Sfb1_51 : Safe Z EL T51.vm h51 b1 := Cl51.safe V50.lt Sfb1_50
  have CR51 : CHr Z EL s.vm h0 T51.vm h51 := CR50.trans Cl51
  have CH51 := CR51.1
  have Ls51 : Str Z h51 sa51 sd51 kc51 lit16 := ⟨Es51, Vs51, Cs51, As51⟩
  have f52 : Arv Z h51 b1 k1 (.object "java/lang/String") (16 : Int32) [(.ref sa3), (.ref sa7), (.ref sa11), (.ref sa15), (.ref sa19), (.ref sa23), (.ref sa27), (.ref sa31), (.ref sa35), (.ref sa39), (.ref sa43), (.ref sa47), .null, .null, .null, .null] .null := (V50.ext E51)
  obtain ⟨cw53, A53, q53, s53, n53, H53, G53⟩ := id f52
  obtain ⟨T54, h54, X54, e54, W54, st54⟩ := stR X51 hx hZ51 e51 A53 (j := (12 : Int32)) (inb_of s53 ⟨by decide, by decide⟩) rfl (Sto.ofV A53 q53 Ov1 (Ins.self Ls51.1)) (g := (mkF m 93 #[.val (.int p0), .val (.int p1), .val (.int (Int32.ofNat nn)), .val (.int (1 : Int32)), .unset, .unset, .unset, .unset, .unset, .unset] [(.ref sa51), (.int (12 : Int32)), (.ref b1), (.ref b1)])) rfl rfl (hb hby at_93)
  have V54 : Arv Z h54 b1 k1 (.object "java/lang/String") (16 : Int32) [(.ref sa3), (.ref sa7), (.ref sa11), (.ref sa15), (.ref sa19), (.ref sa23), (.ref sa27), (.ref sa31), (.ref sa35), (.ref sa39), (.ref sa43), (.ref sa47), (.ref sa51), .null, .null, .null] .null := Arv.set A53 q53 s53 n53 H53 G53 rfl W54 12 rfl (Nat.le_of_ble_eq_true rfl)
  have N54 := Fr.snoc X54 N50 gb1
  have O54 : Old Z n0 h54 := O51.wr W54 gb1
  have Kp54 : Keep h0 h54 [] := Kp51.wr W54 (Or.inr gs1)
  have Cl54 : CHr Z EL T51.vm h51 T51.vm h54 := CHr.wr W54 Sfb1_51 CH51
  have Sfb1_54 : Safe Z EL T51.vm h54 b1 := Cl54.safe f52.lt Sfb1_51
  have CR54 : CHr Z EL s.vm h0 T51.vm h54 := CR51.trans Cl54
  have CH54 := CR54.1
  have hk54 : _ ≤ h54.size := Nat.le_trans hk51 Cl54.2.1
  obtain ⟨sa55, T55, h55, k55, sd55, kc55, X55, e55, E55, hS55, hk55, hZ55, ho55, Es55, Cs55, Vs55, As55, la55, lb55, Cq55, hL55, hne55, st55⟩ := ldcCH X54 hx hZ51 ho51 (hw _ (List.mem_of_getElem? (i := 23) rfl)) (own_wS hw) e54 hS51 hk54 hEL (by simp [EL, consts_1]) CH54 (vs := by8 lit17) (z := Int32.ofNat lit17.length) ⟨by decide, rfl⟩ (by decide) (by decide) (g := (mkF m 97 #[.val (.int p0), .val (.int p1), .val (.int (Int32.ofNat nn)), .val (.int (1 : Int32)), .unset, .unset, .unset, .unset, .unset, .unset] [(.int (13 : Int32)), (.ref b1), (.ref b1)])) rfl (hb hby at_97) (n := 76) (by decide) (by decide) (by decide) (by decide)
  have O55 : Old Z n0 h55 := O54.ext E55
  have Kp55 : Keep h0 h55 [] := Kp54.ext E55
  have Cl55 : CHr Z EL T51.vm h54 T55.vm h55 := Cq55
  have Sfb1_55 : Safe Z EL T55.vm h55 b1 := Cl55.safe V54.lt Sfb1_54
  have CR55 : CHr Z EL s.vm h0 T55.vm h55 := CR54.trans Cl55
  have CH55 := CR55.1
  have Ls55 : Str Z h55 sa55 sd55 kc55 lit17 := ⟨Es55, Vs55, Cs55, As55⟩
  have f56 : Arv Z h55 b1 k1 (.object "java/lang/String") (16 : Int32) [(.ref sa3), (.ref sa7), (.ref sa11), (.ref sa15), (.ref sa19), (.ref sa23), (.ref sa27), (.ref sa31), (.ref sa35), (.ref sa39), (.ref sa43), (.ref sa47), (.ref sa51), .null, .null, .null] .null := (V54.ext E55)
  obtain ⟨cw57, A57, q57, s57, n57, H57, G57⟩ := id f56
  obtain ⟨T58, h58, X58, e58, W58, st58⟩ := stR X55 hx hZ55 e55 A57 (j := (13 : Int32)) (inb_of s57 ⟨by decide, by decide⟩) rfl (Sto.ofV A57 q57 Ov1 (Ins.self Ls55.1)) (g := (mkF m 99 #[.val (.int p0), .val (.int p1), .val (.int (Int32.ofNat nn)), .val (.int (1 : Int32)), .unset, .unset, .unset, .unset, .unset, .unset] [(.ref sa55), (.int (13 : Int32)), (.ref b1), (.ref b1)])) rfl rfl (hb hby at_99)
  have V58 : Arv Z h58 b1 k1 (.object "java/lang/String") (16 : Int32) [(.ref sa3), (.ref sa7), (.ref sa11), (.ref sa15), (.ref sa19), (.ref sa23), (.ref sa27), (.ref sa31), (.ref sa35), (.ref sa39), (.ref sa43), (.ref sa47), (.ref sa51), (.ref sa55), .null, .null] .null := Arv.set A57 q57 s57 n57 H57 G57 rfl W58 13 rfl (Nat.le_of_ble_eq_true rfl)
  have N58 := Fr.snoc X58 N54 gb1
  have O58 : Old Z n0 h58 := O55.wr W58 gb1
  have Kp58 : Keep h0 h58 [] := Kp55.wr W58 (Or.inr gs1)
  have Cl58 : CHr Z EL T55.vm h55 T55.vm h58 := CHr.wr W58 Sfb1_55 CH55
  have Sfb1_58 : Safe Z EL T55.vm h58 b1 := Cl58.safe f56.lt Sfb1_55
  have CR58 : CHr Z EL s.vm h0 T55.vm h58 := CR55.trans Cl58
  have CH58 := CR58.1
  have hk58 : _ ≤ h58.size := Nat.le_trans hk55 Cl58.2.1
  obtain ⟨sa59, T59, h59, k59, sd59, kc59, X59, e59, E59, hS59, hk59, hZ59, ho59, Es59, Cs59, Vs59, As59, la59, lb59, Cq59, hL59, hne59, st59⟩ := ldcCH X58 hx hZ55 ho55 (hw _ (List.mem_of_getElem? (i := 24) rfl)) (own_wS hw) e58 hS55 hk58 hEL (by simp [EL, consts_1]) CH58 (vs := by8 lit18) (z := Int32.ofNat lit18.length) ⟨by decide, rfl⟩ (by decide) (by decide) (g := (mkF m 103 #[.val (.int p0), .val (.int p1), .val (.int (Int32.ofNat nn)), .val (.int (1 : Int32)), .unset, .unset, .unset, .unset, .unset, .unset] [(.int (14 : Int32)), (.ref b1), (.ref b1)])) rfl (hb hby at_103) (n := 76) (by decide) (by decide) (by decide) (by decide)
  have O59 : Old Z n0 h59 := O58.ext E59
  have Kp59 : Keep h0 h59 [] := Kp58.ext E59
  have Cl59 : CHr Z EL T55.vm h58 T59.vm h59 := Cq59
  have Sfb1_59 : Safe Z EL T59.vm h59 b1 := Cl59.safe V58.lt Sfb1_58
  have CR59 : CHr Z EL s.vm h0 T59.vm h59 := CR58.trans Cl59
  have CH59 := CR59.1
  have Ls59 : Str Z h59 sa59 sd59 kc59 lit18 := ⟨Es59, Vs59, Cs59, As59⟩
  have f60 : Arv Z h59 b1 k1 (.object "java/lang/String") (16 : Int32) [(.ref sa3), (.ref sa7), (.ref sa11), (.ref sa15), (.ref sa19), (.ref sa23), (.ref sa27), (.ref sa31), (.ref sa35), (.ref sa39), (.ref sa43), (.ref sa47), (.ref sa51), (.ref sa55), .null, .null] .null := (V58.ext E59)
  obtain ⟨cw61, A61, q61, s61, n61, H61, G61⟩ := id f60
  obtain ⟨T62, h62, X62, e62, W62, st62⟩ := stR X59 hx hZ59 e59 A61 (j := (14 : Int32)) (inb_of s61 ⟨by decide, by decide⟩) rfl (Sto.ofV A61 q61 Ov1 (Ins.self Ls59.1)) (g := (mkF m 105 #[.val (.int p0), .val (.int p1), .val (.int (Int32.ofNat nn)), .val (.int (1 : Int32)), .unset, .unset, .unset, .unset, .unset, .unset] [(.ref sa59), (.int (14 : Int32)), (.ref b1), (.ref b1)])) rfl rfl (hb hby at_105)
  have V62 : Arv Z h62 b1 k1 (.object "java/lang/String") (16 : Int32) [(.ref sa3), (.ref sa7), (.ref sa11), (.ref sa15), (.ref sa19), (.ref sa23), (.ref sa27), (.ref sa31), (.ref sa35), (.ref sa39), (.ref sa43), (.ref sa47), (.ref sa51), (.ref sa55), (.ref sa59), .null] .null := Arv.set A61 q61 s61 n61 H61 G61 rfl W62 14 rfl (Nat.le_of_ble_eq_true rfl)
  have N62 := Fr.snoc X62 N58 gb1
  have O62 : Old Z n0 h62 := O59.wr W62 gb1
  have Kp62 : Keep h0 h62 [] := Kp59.wr W62 (Or.inr gs1)
  have Cl62 : CHr Z EL T59.vm h59 T59.vm h62 := CHr.wr W62 Sfb1_59 CH59
  have Sfb1_62 : Safe Z EL T59.vm h62 b1 := Cl62.safe f60.lt Sfb1_59
  have CR62 : CHr Z EL s.vm h0 T59.vm h62 := CR59.trans Cl62
  have CH62 := CR62.1
  have hk62 : _ ≤ h62.size := Nat.le_trans hk59 Cl62.2.1
  obtain ⟨sa63, T63, h63, k63, sd63, kc63, X63, e63, E63, hS63, hk63, hZ63, ho63, Es63, Cs63, Vs63, As63, la63, lb63, Cq63, hL63, hne63, st63⟩ := ldcCH X62 hx hZ59 ho59 (hw _ (List.mem_of_getElem? (i := 25) rfl)) (own_wS hw) e62 hS59 hk62 hEL (by simp [EL, consts_1]) CH62 (vs := by8 lit19) (z := Int32.ofNat lit19.length) ⟨by decide, rfl⟩ (by decide) (by decide) (g := (mkF m 109 #[.val (.int p0), .val (.int p1), .val (.int (Int32.ofNat nn)), .val (.int (1 : Int32)), .unset, .unset, .unset, .unset, .unset, .unset] [(.int (15 : Int32)), (.ref b1), (.ref b1)])) rfl (hb hby at_109) (n := 76) (by decide) (by decide) (by decide) (by decide)
  have O63 : Old Z n0 h63 := O62.ext E63
  have Kp63 : Keep h0 h63 [] := Kp62.ext E63
  have Cl63 : CHr Z EL T59.vm h62 T63.vm h63 := Cq63
  have Sfb1_63 : Safe Z EL T63.vm h63 b1 := Cl63.safe V62.lt Sfb1_62
  have CR63 : CHr Z EL s.vm h0 T63.vm h63 := CR62.trans Cl63
  have CH63 := CR63.1
  have Ls63 : Str Z h63 sa63 sd63 kc63 lit19 := ⟨Es63, Vs63, Cs63, As63⟩
  have f64 : Arv Z h63 b1 k1 (.object "java/lang/String") (16 : Int32) [(.ref sa3), (.ref sa7), (.ref sa11), (.ref sa15), (.ref sa19), (.ref sa23), (.ref sa27), (.ref sa31), (.ref sa35), (.ref sa39), (.ref sa43), (.ref sa47), (.ref sa51), (.ref sa55), (.ref sa59), .null] .null := (V62.ext E63)
  obtain ⟨cw65, A65, q65, s65, n65, H65, G65⟩ := id f64
  obtain ⟨T66, h66, X66, e66, W66, st66⟩ := stR X63 hx hZ63 e63 A65 (j := (15 : Int32)) (inb_of s65 ⟨by decide, by decide⟩) rfl (Sto.ofV A65 q65 Ov1 (Ins.self Ls63.1)) (g := (mkF m 111 #[.val (.int p0), .val (.int p1), .val (.int (Int32.ofNat nn)), .val (.int (1 : Int32)), .unset, .unset, .unset, .unset, .unset, .unset] [(.ref sa63), (.int (15 : Int32)), (.ref b1), (.ref b1)])) rfl rfl (hb hby at_111)
  have V66 : Arv Z h66 b1 k1 (.object "java/lang/String") (16 : Int32) [(.ref sa3), (.ref sa7), (.ref sa11), (.ref sa15), (.ref sa19), (.ref sa23), (.ref sa27), (.ref sa31), (.ref sa35), (.ref sa39), (.ref sa43), (.ref sa47), (.ref sa51), (.ref sa55), (.ref sa59), (.ref sa63)] .null := Arv.set A65 q65 s65 n65 H65 G65 rfl W66 15 rfl (Nat.le_of_ble_eq_true rfl)
  have N66 := Fr.snoc X66 N62 gb1
  have O66 : Old Z n0 h66 := O63.wr W66 gb1
  have Kp66 : Keep h0 h66 [] := Kp63.wr W66 (Or.inr gs1)
  have Cl66 : CHr Z EL T63.vm h63 T63.vm h66 := CHr.wr W66 Sfb1_63 CH63
  have Sfb1_66 : Safe Z EL T63.vm h66 b1 := Cl66.safe f64.lt Sfb1_63
  have CR66 : CHr Z EL s.vm h0 T63.vm h66 := CR63.trans Cl66
  have CH66 := CR66.1
  have hk66 : _ ≤ h66.size := Nat.le_trans hk63 Cl66.2.1
  obtain ⟨T67, h67, k67, X67, e67, E67, A67, Ov67, st67⟩ := newR X66 hx hZ63 ho63 (hw _ (List.mem_of_getElem? (i := 0) rfl)) (hw _ (List.mem_of_getElem? (i := 1) rfl)) e66 (g := (mkF m 116 #[.val (.int p0), .val (.int p1), .val (.int (Int32.ofNat nn)), .val (.int (1 : Int32)), .val (.ref b1), .unset, .unset, .unset, .unset, .unset] [(.int (16 : Int32))])) rfl (hb hby at_116) rfl (by decide) (cap := 16) (by decide) (by decide) (by decide) (by decide)
  obtain ⟨b67, g67⟩ : ∃ z, z = h66.size := ⟨_, rfl⟩
  rw [← g67] at A67 st67
  have gb67 : n0 ≤ b67 := by have q1 := O66.1; have q2 := O66.2.1; omega
  have gs67 : h0.size ≤ b67 := by have q := (Kp66).1; omega
  have V67 : Arv Z h67 b67 k67 (.object "java/lang/String") (16 : Int32) [.null, .null, .null, .null, .null, .null, .null, .null, .null, .null, .null, .null, .null, .null, .null, .null] .null := (Arv.new A67 (by decide)).pad (pad_rep [] .null 16)
  have O67 : Old Z n0 h67 := O66.ext E67
  have Kp67 : Keep h0 h67 [] := Kp66.ext E67
  have Cl67 : CHr Z EL T63.vm h66 T63.vm h67 := CHr.ext E67 CH66
  have CR67 : CHr Z EL s.vm h0 T63.vm h67 := CR66.trans Cl67
  have CH67 := CR67.1
  have hk67 : _ ≤ h67.size := Nat.le_trans hk66 Cl67.2.1
  have Sfb67_68 : Safe Z EL T63.vm h67 b67 := Safe.ext E67 CH66 (Safe.new (Nat.le_of_eq g67.symm))
  obtain ⟨sa69, T69, h69, k69, sd69, kc69, X69, e69, E69, hS69, hk69, hZ69, ho69, Es69, Cs69, Vs69, As69, la69, lb69, Cq69, hL69, hne69, st69⟩ := ldcCH X67 hx hZ63 ho63 (hw _ (List.mem_of_getElem? (i := 26) rfl)) (own_wS hw) e67 hS63 hk67 hEL (by simp [EL, consts_1]) CH67 (vs := by8 lit20) (z := Int32.ofNat lit20.length) ⟨by decide, rfl⟩ (by decide) (by decide) (g := (mkF m 121 #[.val (.int p0), .val (.int p1), .val (.int (Int32.ofNat nn)), .val (.int (1 : Int32)), .val (.ref b1), .unset, .unset, .unset, .unset, .unset] [(.int (0 : Int32)), (.ref b67), (.ref b67)])) rfl (hb hby at_121) (n := 124) (by decide) (by decide) (by decide) (by decide)
  have O69 : Old Z n0 h69 := O67.ext E69
  have Kp69 : Keep h0 h69 [] := Kp67.ext E69
  have Cl69 : CHr Z EL T63.vm h67 T69.vm h69 := Cq69
  have Sfb67_69 : Safe Z EL T69.vm h69 b67 := Cl69.safe V67.lt Sfb67_68
  have CR69 : CHr Z EL s.vm h0 T69.vm h69 := CR67.trans Cl69
  have CH69 := CR69.1
  have Ls69 : Str Z h69 sa69 sd69 kc69 lit20 := ⟨Es69, Vs69, Cs69, As69⟩
  have f70 : Arv Z h69 b67 k67 (.object "java/lang/String") (16 : Int32) [.null, .null, .null, .null, .null, .null, .null, .null, .null, .null, .null, .null, .null, .null, .null, .null] .null := (V67.ext E69)
  obtain ⟨cw71, A71, q71, s71, n71, H71, G71⟩ := id f70
  obtain ⟨T72, h72, X72, e72, W72, st72⟩ := stR X69 hx hZ69 e69 A71 (j := (0 : Int32)) (inb_of s71 ⟨by decide, by decide⟩) rfl (Sto.ofV A71 q71 Ov67 (Ins.self Ls69.1)) (g := (mkF m 123 #[.val (.int p0), .val (.int p1), .val (.int (Int32.ofNat nn)), .val (.int (1 : Int32)), .val (.ref b1), .unset, .unset, .unset, .unset, .unset] [(.ref sa69), (.int (0 : Int32)), (.ref b67), (.ref b67)])) rfl rfl (hb hby at_123)
  have V72 : Arv Z h72 b67 k67 (.object "java/lang/String") (16 : Int32) [(.ref sa69), .null, .null, .null, .null, .null, .null, .null, .null, .null, .null, .null, .null, .null, .null, .null] .null := Arv.set A71 q71 s71 n71 H71 G71 rfl W72 0 rfl (Nat.le_of_ble_eq_true rfl)
  have N72 := Fr.snoc X72 N66 gb67
  have O72 : Old Z n0 h72 := O69.wr W72 gb67
  have Kp72 : Keep h0 h72 [] := Kp69.wr W72 (Or.inr gs67)
  have Cl72 : CHr Z EL T69.vm h69 T69.vm h72 := CHr.wr W72 Sfb67_69 CH69
  have Sfb67_72 : Safe Z EL T69.vm h72 b67 := Cl72.safe f70.lt Sfb67_69
  have CR72 : CHr Z EL s.vm h0 T69.vm h72 := CR69.trans Cl72
  have CH72 := CR72.1
  have hk72 : _ ≤ h72.size := Nat.le_trans hk69 Cl72.2.1
  obtain ⟨sa73, T73, h73, k73, sd73, kc73, X73, e73, E73, hS73, hk73, hZ73, ho73, Es73, Cs73, Vs73, As73, la73, lb73, Cq73, hL73, hne73, st73⟩ := ldcCH X72 hx hZ69 ho69 (hw _ (List.mem_of_getElem? (i := 27) rfl)) (own_wS hw) e72 hS69 hk72 hEL (by simp [EL, consts_1]) CH72 (vs := by8 lit21) (z := Int32.ofNat lit21.length) ⟨by decide, rfl⟩ (by decide) (by decide) (g := (mkF m 126 #[.val (.int p0), .val (.int p1), .val (.int (Int32.ofNat nn)), .val (.int (1 : Int32)), .val (.ref b1), .unset, .unset, .unset, .unset, .unset] [(.int (1 : Int32)), (.ref b67), (.ref b67)])) rfl (hb hby at_126) (n := 124) (by decide) (by decide) (by decide) (by decide)
  have O73 : Old Z n0 h73 := O72.ext E73
  have Kp73 : Keep h0 h73 [] := Kp72.ext E73
  have Cl73 : CHr Z EL T69.vm h72 T73.vm h73 := Cq73
  have Sfb67_73 : Safe Z EL T73.vm h73 b67 := Cl73.safe V72.lt Sfb67_72
  have CR73 : CHr Z EL s.vm h0 T73.vm h73 := CR72.trans Cl73
  have CH73 := CR73.1
  have Ls73 : Str Z h73 sa73 sd73 kc73 lit21 := ⟨Es73, Vs73, Cs73, As73⟩
  have f74 : Arv Z h73 b67 k67 (.object "java/lang/String") (16 : Int32) [(.ref sa69), .null, .null, .null, .null, .null, .null, .null, .null, .null, .null, .null, .null, .null, .null, .null] .null := (V72.ext E73)
  obtain ⟨cw75, A75, q75, s75, n75, H75, G75⟩ := id f74
  obtain ⟨T76, h76, X76, e76, W76, st76⟩ := stR X73 hx hZ73 e73 A75 (j := (1 : Int32)) (inb_of s75 ⟨by decide, by decide⟩) rfl (Sto.ofV A75 q75 Ov67 (Ins.self Ls73.1)) (g := (mkF m 128 #[.val (.int p0), .val (.int p1), .val (.int (Int32.ofNat nn)), .val (.int (1 : Int32)), .val (.ref b1), .unset, .unset, .unset, .unset, .unset] [(.ref sa73), (.int (1 : Int32)), (.ref b67), (.ref b67)])) rfl rfl (hb hby at_128)
  have V76 : Arv Z h76 b67 k67 (.object "java/lang/String") (16 : Int32) [(.ref sa69), (.ref sa73), .null, .null, .null, .null, .null, .null, .null, .null, .null, .null, .null, .null, .null, .null] .null := Arv.set A75 q75 s75 n75 H75 G75 rfl W76 1 rfl (Nat.le_of_ble_eq_true rfl)
  have N76 := Fr.snoc X76 N72 gb67
  have O76 : Old Z n0 h76 := O73.wr W76 gb67
  have Kp76 : Keep h0 h76 [] := Kp73.wr W76 (Or.inr gs67)
  have Cl76 : CHr Z EL T73.vm h73 T73.vm h76 := CHr.wr W76 Sfb67_73 CH73
  have Sfb67_76 : Safe Z EL T73.vm h76 b67 := Cl76.safe f74.lt Sfb67_73
  have CR76 : CHr Z EL s.vm h0 T73.vm h76 := CR73.trans Cl76
  have CH76 := CR76.1
  have hk76 : _ ≤ h76.size := Nat.le_trans hk73 Cl76.2.1
  obtain ⟨sa77, T77, h77, k77, sd77, kc77, X77, e77, E77, hS77, hk77, hZ77, ho77, Es77, Cs77, Vs77, As77, la77, lb77, Cq77, hL77, hne77, st77⟩ := ldcCH X76 hx hZ73 ho73 (hw _ (List.mem_of_getElem? (i := 28) rfl)) (own_wS hw) e76 hS73 hk76 hEL (by simp [EL, consts_1]) CH76 (vs := by8 lit22) (z := Int32.ofNat lit22.length) ⟨by decide, rfl⟩ (by decide) (by decide) (g := (mkF m 131 #[.val (.int p0), .val (.int p1), .val (.int (Int32.ofNat nn)), .val (.int (1 : Int32)), .val (.ref b1), .unset, .unset, .unset, .unset, .unset] [(.int (2 : Int32)), (.ref b67), (.ref b67)])) rfl (hb hby at_131) (n := 124) (by decide) (by decide) (by decide) (by decide)
  have O77 : Old Z n0 h77 := O76.ext E77
  have Kp77 : Keep h0 h77 [] := Kp76.ext E77
  have Cl77 : CHr Z EL T73.vm h76 T77.vm h77 := Cq77
  have Sfb67_77 : Safe Z EL T77.vm h77 b67 := Cl77.safe V76.lt Sfb67_76
  have CR77 : CHr Z EL s.vm h0 T77.vm h77 := CR76.trans Cl77
  have CH77 := CR77.1
  have Ls77 : Str Z h77 sa77 sd77 kc77 lit22 := ⟨Es77, Vs77, Cs77, As77⟩
  have f78 : Arv Z h77 b67 k67 (.object "java/lang/String") (16 : Int32) [(.ref sa69), (.ref sa73), .null, .null, .null, .null, .null, .null, .null, .null, .null, .null, .null, .null, .null, .null] .null := (V76.ext E77)
  obtain ⟨cw79, A79, q79, s79, n79, H79, G79⟩ := id f78
  obtain ⟨T80, h80, X80, e80, W80, st80⟩ := stR X77 hx hZ77 e77 A79 (j := (2 : Int32)) (inb_of s79 ⟨by decide, by decide⟩) rfl (Sto.ofV A79 q79 Ov67 (Ins.self Ls77.1)) (g := (mkF m 133 #[.val (.int p0), .val (.int p1), .val (.int (Int32.ofNat nn)), .val (.int (1 : Int32)), .val (.ref b1), .unset, .unset, .unset, .unset, .unset] [(.ref sa77), (.int (2 : Int32)), (.ref b67), (.ref b67)])) rfl rfl (hb hby at_133)
  have V80 : Arv Z h80 b67 k67 (.object "java/lang/String") (16 : Int32) [(.ref sa69), (.ref sa73), (.ref sa77), .null, .null, .null, .null, .null, .null, .null, .null, .null, .null, .null, .null, .null] .null := Arv.set A79 q79 s79 n79 H79 G79 rfl W80 2 rfl (Nat.le_of_ble_eq_true rfl)
  have N80 := Fr.snoc X80 N76 gb67
  have O80 : Old Z n0 h80 := O77.wr W80 gb67
  have Kp80 : Keep h0 h80 [] := Kp77.wr W80 (Or.inr gs67)
  have Cl80 : CHr Z EL T77.vm h77 T77.vm h80 := CHr.wr W80 Sfb67_77 CH77
  have Sfb67_80 : Safe Z EL T77.vm h80 b67 := Cl80.safe f78.lt Sfb67_77
  have CR80 : CHr Z EL s.vm h0 T77.vm h80 := CR77.trans Cl80
  have CH80 := CR80.1
  have hk80 : _ ≤ h80.size := Nat.le_trans hk77 Cl80.2.1
  obtain ⟨sa81, T81, h81, k81, sd81, kc81, X81, e81, E81, hS81, hk81, hZ81, ho81, Es81, Cs81, Vs81, As81, la81, lb81, Cq81, hL81, hne81, st81⟩ := ldcCH X80 hx hZ77 ho77 (hw _ (List.mem_of_getElem? (i := 29) rfl)) (own_wS hw) e80 hS77 hk80 hEL (by simp [EL, consts_1]) CH80 (vs := by8 lit23) (z := Int32.ofNat lit23.length) ⟨by decide, rfl⟩ (by decide) (by decide) (g := (mkF m 136 #[.val (.int p0), .val (.int p1), .val (.int (Int32.ofNat nn)), .val (.int (1 : Int32)), .val (.ref b1), .unset, .unset, .unset, .unset, .unset] [(.int (3 : Int32)), (.ref b67), (.ref b67)])) rfl (hb hby at_136) (n := 124) (by decide) (by decide) (by decide) (by decide)
  have O81 : Old Z n0 h81 := O80.ext E81
  have Kp81 : Keep h0 h81 [] := Kp80.ext E81
  have Cl81 : CHr Z EL T77.vm h80 T81.vm h81 := Cq81
  have Sfb67_81 : Safe Z EL T81.vm h81 b67 := Cl81.safe V80.lt Sfb67_80
  have CR81 : CHr Z EL s.vm h0 T81.vm h81 := CR80.trans Cl81
  have CH81 := CR81.1
  have Ls81 : Str Z h81 sa81 sd81 kc81 lit23 := ⟨Es81, Vs81, Cs81, As81⟩
  have f82 : Arv Z h81 b67 k67 (.object "java/lang/String") (16 : Int32) [(.ref sa69), (.ref sa73), (.ref sa77), .null, .null, .null, .null, .null, .null, .null, .null, .null, .null, .null, .null, .null] .null := (V80.ext E81)
  obtain ⟨cw83, A83, q83, s83, n83, H83, G83⟩ := id f82
  obtain ⟨T84, h84, X84, e84, W84, st84⟩ := stR X81 hx hZ81 e81 A83 (j := (3 : Int32)) (inb_of s83 ⟨by decide, by decide⟩) rfl (Sto.ofV A83 q83 Ov67 (Ins.self Ls81.1)) (g := (mkF m 138 #[.val (.int p0), .val (.int p1), .val (.int (Int32.ofNat nn)), .val (.int (1 : Int32)), .val (.ref b1), .unset, .unset, .unset, .unset, .unset] [(.ref sa81), (.int (3 : Int32)), (.ref b67), (.ref b67)])) rfl rfl (hb hby at_138)
  have V84 : Arv Z h84 b67 k67 (.object "java/lang/String") (16 : Int32) [(.ref sa69), (.ref sa73), (.ref sa77), (.ref sa81), .null, .null, .null, .null, .null, .null, .null, .null, .null, .null, .null, .null] .null := Arv.set A83 q83 s83 n83 H83 G83 rfl W84 3 rfl (Nat.le_of_ble_eq_true rfl)
  have N84 := Fr.snoc X84 N80 gb67
  have O84 : Old Z n0 h84 := O81.wr W84 gb67
  have Kp84 : Keep h0 h84 [] := Kp81.wr W84 (Or.inr gs67)
  have Cl84 : CHr Z EL T81.vm h81 T81.vm h84 := CHr.wr W84 Sfb67_81 CH81
  have Sfb67_84 : Safe Z EL T81.vm h84 b67 := Cl84.safe f82.lt Sfb67_81
  have CR84 : CHr Z EL s.vm h0 T81.vm h84 := CR81.trans Cl84
  have CH84 := CR84.1
  have hk84 : _ ≤ h84.size := Nat.le_trans hk81 Cl84.2.1
  obtain ⟨sa85, T85, h85, k85, sd85, kc85, X85, e85, E85, hS85, hk85, hZ85, ho85, Es85, Cs85, Vs85, As85, la85, lb85, Cq85, hL85, hne85, st85⟩ := ldcCH X84 hx hZ81 ho81 (hw _ (List.mem_of_getElem? (i := 30) rfl)) (own_wS hw) e84 hS81 hk84 hEL (by simp [EL, consts_1]) CH84 (vs := by8 lit24) (z := Int32.ofNat lit24.length) ⟨by decide, rfl⟩ (by decide) (by decide) (g := (mkF m 141 #[.val (.int p0), .val (.int p1), .val (.int (Int32.ofNat nn)), .val (.int (1 : Int32)), .val (.ref b1), .unset, .unset, .unset, .unset, .unset] [(.int (4 : Int32)), (.ref b67), (.ref b67)])) rfl (hb hby at_141) (n := 124) (by decide) (by decide) (by decide) (by decide)
  have O85 : Old Z n0 h85 := O84.ext E85
  have Kp85 : Keep h0 h85 [] := Kp84.ext E85
  have Cl85 : CHr Z EL T81.vm h84 T85.vm h85 := Cq85
  have Sfb67_85 : Safe Z EL T85.vm h85 b67 := Cl85.safe V84.lt Sfb67_84
  have CR85 : CHr Z EL s.vm h0 T85.vm h85 := CR84.trans Cl85
  have CH85 := CR85.1
  have Ls85 : Str Z h85 sa85 sd85 kc85 lit24 := ⟨Es85, Vs85, Cs85, As85⟩
  have f86 : Arv Z h85 b67 k67 (.object "java/lang/String") (16 : Int32) [(.ref sa69), (.ref sa73), (.ref sa77), (.ref sa81), .null, .null, .null, .null, .null, .null, .null, .null, .null, .null, .null, .null] .null := (V84.ext E85)
  obtain ⟨cw87, A87, q87, s87, n87, H87, G87⟩ := id f86
  obtain ⟨T88, h88, X88, e88, W88, st88⟩ := stR X85 hx hZ85 e85 A87 (j := (4 : Int32)) (inb_of s87 ⟨by decide, by decide⟩) rfl (Sto.ofV A87 q87 Ov67 (Ins.self Ls85.1)) (g := (mkF m 143 #[.val (.int p0), .val (.int p1), .val (.int (Int32.ofNat nn)), .val (.int (1 : Int32)), .val (.ref b1), .unset, .unset, .unset, .unset, .unset] [(.ref sa85), (.int (4 : Int32)), (.ref b67), (.ref b67)])) rfl rfl (hb hby at_143)
  have V88 : Arv Z h88 b67 k67 (.object "java/lang/String") (16 : Int32) [(.ref sa69), (.ref sa73), (.ref sa77), (.ref sa81), (.ref sa85), .null, .null, .null, .null, .null, .null, .null, .null, .null, .null, .null] .null := Arv.set A87 q87 s87 n87 H87 G87 rfl W88 4 rfl (Nat.le_of_ble_eq_true rfl)
  have N88 := Fr.snoc X88 N84 gb67
  have O88 : Old Z n0 h88 := O85.wr W88 gb67
  have Kp88 : Keep h0 h88 [] := Kp85.wr W88 (Or.inr gs67)
  have Cl88 : CHr Z EL T85.vm h85 T85.vm h88 := CHr.wr W88 Sfb67_85 CH85
  have Sfb67_88 : Safe Z EL T85.vm h88 b67 := Cl88.safe f86.lt Sfb67_85
  have CR88 : CHr Z EL s.vm h0 T85.vm h88 := CR85.trans Cl88
  have CH88 := CR88.1
  have hk88 : _ ≤ h88.size := Nat.le_trans hk85 Cl88.2.1
  obtain ⟨sa89, T89, h89, k89, sd89, kc89, X89, e89, E89, hS89, hk89, hZ89, ho89, Es89, Cs89, Vs89, As89, la89, lb89, Cq89, hL89, hne89, st89⟩ := ldcCH X88 hx hZ85 ho85 (hw _ (List.mem_of_getElem? (i := 31) rfl)) (own_wS hw) e88 hS85 hk88 hEL (by simp [EL, consts_1]) CH88 (vs := by8 lit25) (z := Int32.ofNat lit25.length) ⟨by decide, rfl⟩ (by decide) (by decide) (g := (mkF m 146 #[.val (.int p0), .val (.int p1), .val (.int (Int32.ofNat nn)), .val (.int (1 : Int32)), .val (.ref b1), .unset, .unset, .unset, .unset, .unset] [(.int (5 : Int32)), (.ref b67), (.ref b67)])) rfl (hb hby at_146) (n := 124) (by decide) (by decide) (by decide) (by decide)
  have O89 : Old Z n0 h89 := O88.ext E89
  have Kp89 : Keep h0 h89 [] := Kp88.ext E89
  have Cl89 : CHr Z EL T85.vm h88 T89.vm h89 := Cq89
  have Sfb67_89 : Safe Z EL T89.vm h89 b67 := Cl89.safe V88.lt Sfb67_88
  have CR89 : CHr Z EL s.vm h0 T89.vm h89 := CR88.trans Cl89
  have CH89 := CR89.1
  have Ls89 : Str Z h89 sa89 sd89 kc89 lit25 := ⟨Es89, Vs89, Cs89, As89⟩
  have f90 : Arv Z h89 b67 k67 (.object "java/lang/String") (16 : Int32) [(.ref sa69), (.ref sa73), (.ref sa77), (.ref sa81), (.ref sa85), .null, .null, .null, .null, .null, .null, .null, .null, .null, .null, .null] .null := (V88.ext E89)
  obtain ⟨cw91, A91, q91, s91, n91, H91, G91⟩ := id f90
  obtain ⟨T92, h92, X92, e92, W92, st92⟩ := stR X89 hx hZ89 e89 A91 (j := (5 : Int32)) (inb_of s91 ⟨by decide, by decide⟩) rfl (Sto.ofV A91 q91 Ov67 (Ins.self Ls89.1)) (g := (mkF m 148 #[.val (.int p0), .val (.int p1), .val (.int (Int32.ofNat nn)), .val (.int (1 : Int32)), .val (.ref b1), .unset, .unset, .unset, .unset, .unset] [(.ref sa89), (.int (5 : Int32)), (.ref b67), (.ref b67)])) rfl rfl (hb hby at_148)
  have V92 : Arv Z h92 b67 k67 (.object "java/lang/String") (16 : Int32) [(.ref sa69), (.ref sa73), (.ref sa77), (.ref sa81), (.ref sa85), (.ref sa89), .null, .null, .null, .null, .null, .null, .null, .null, .null, .null] .null := Arv.set A91 q91 s91 n91 H91 G91 rfl W92 5 rfl (Nat.le_of_ble_eq_true rfl)
  have N92 := Fr.snoc X92 N88 gb67
  have O92 : Old Z n0 h92 := O89.wr W92 gb67
  have Kp92 : Keep h0 h92 [] := Kp89.wr W92 (Or.inr gs67)
  have Cl92 : CHr Z EL T89.vm h89 T89.vm h92 := CHr.wr W92 Sfb67_89 CH89
  have Sfb67_92 : Safe Z EL T89.vm h92 b67 := Cl92.safe f90.lt Sfb67_89
  have CR92 : CHr Z EL s.vm h0 T89.vm h92 := CR89.trans Cl92
  have CH92 := CR92.1
  have hk92 : _ ≤ h92.size := Nat.le_trans hk89 Cl92.2.1
  obtain ⟨sa93, T93, h93, k93, sd93, kc93, X93, e93, E93, hS93, hk93, hZ93, ho93, Es93, Cs93, Vs93, As93, la93, lb93, Cq93, hL93, hne93, st93⟩ := ldcCH X92 hx hZ89 ho89 (hw _ (List.mem_of_getElem? (i := 32) rfl)) (own_wS hw) e92 hS89 hk92 hEL (by simp [EL, consts_1]) CH92 (vs := by8 lit26) (z := Int32.ofNat lit26.length) ⟨by decide, rfl⟩ (by decide) (by decide) (g := (mkF m 152 #[.val (.int p0), .val (.int p1), .val (.int (Int32.ofNat nn)), .val (.int (1 : Int32)), .val (.ref b1), .unset, .unset, .unset, .unset, .unset] [(.int (6 : Int32)), (.ref b67), (.ref b67)])) rfl (hb hby at_152) (n := 124) (by decide) (by decide) (by decide) (by decide)
  have O93 : Old Z n0 h93 := O92.ext E93
  have Kp93 : Keep h0 h93 [] := Kp92.ext E93
  have Cl93 : CHr Z EL T89.vm h92 T93.vm h93 := Cq93
  have Sfb67_93 : Safe Z EL T93.vm h93 b67 := Cl93.safe V92.lt Sfb67_92
  have CR93 : CHr Z EL s.vm h0 T93.vm h93 := CR92.trans Cl93
  have CH93 := CR93.1
  have Ls93 : Str Z h93 sa93 sd93 kc93 lit26 := ⟨Es93, Vs93, Cs93, As93⟩
  have f94 : Arv Z h93 b67 k67 (.object "java/lang/String") (16 : Int32) [(.ref sa69), (.ref sa73), (.ref sa77), (.ref sa81), (.ref sa85), (.ref sa89), .null, .null, .null, .null, .null, .null, .null, .null, .null, .null] .null := (V92.ext E93)
  obtain ⟨cw95, A95, q95, s95, n95, H95, G95⟩ := id f94
  obtain ⟨T96, h96, X96, e96, W96, st96⟩ := stR X93 hx hZ93 e93 A95 (j := (6 : Int32)) (inb_of s95 ⟨by decide, by decide⟩) rfl (Sto.ofV A95 q95 Ov67 (Ins.self Ls93.1)) (g := (mkF m 154 #[.val (.int p0), .val (.int p1), .val (.int (Int32.ofNat nn)), .val (.int (1 : Int32)), .val (.ref b1), .unset, .unset, .unset, .unset, .unset] [(.ref sa93), (.int (6 : Int32)), (.ref b67), (.ref b67)])) rfl rfl (hb hby at_154)
  have V96 : Arv Z h96 b67 k67 (.object "java/lang/String") (16 : Int32) [(.ref sa69), (.ref sa73), (.ref sa77), (.ref sa81), (.ref sa85), (.ref sa89), (.ref sa93), .null, .null, .null, .null, .null, .null, .null, .null, .null] .null := Arv.set A95 q95 s95 n95 H95 G95 rfl W96 6 rfl (Nat.le_of_ble_eq_true rfl)
  have N96 := Fr.snoc X96 N92 gb67
  have O96 : Old Z n0 h96 := O93.wr W96 gb67
  have Kp96 : Keep h0 h96 [] := Kp93.wr W96 (Or.inr gs67)
  have Cl96 : CHr Z EL T93.vm h93 T93.vm h96 := CHr.wr W96 Sfb67_93 CH93
  have Sfb67_96 : Safe Z EL T93.vm h96 b67 := Cl96.safe f94.lt Sfb67_93
  have CR96 : CHr Z EL s.vm h0 T93.vm h96 := CR93.trans Cl96
  have CH96 := CR96.1
  have hk96 : _ ≤ h96.size := Nat.le_trans hk93 Cl96.2.1
  obtain ⟨sa97, T97, h97, k97, sd97, kc97, X97, e97, E97, hS97, hk97, hZ97, ho97, Es97, Cs97, Vs97, As97, la97, lb97, Cq97, hL97, hne97, st97⟩ := ldcCH X96 hx hZ93 ho93 (hw _ (List.mem_of_getElem? (i := 33) rfl)) (own_wS hw) e96 hS93 hk96 hEL (by simp [EL, consts_1]) CH96 (vs := by8 lit27) (z := Int32.ofNat lit27.length) ⟨by decide, rfl⟩ (by decide) (by decide) (g := (mkF m 158 #[.val (.int p0), .val (.int p1), .val (.int (Int32.ofNat nn)), .val (.int (1 : Int32)), .val (.ref b1), .unset, .unset, .unset, .unset, .unset] [(.int (7 : Int32)), (.ref b67), (.ref b67)])) rfl (hb hby at_158) (n := 124) (by decide) (by decide) (by decide) (by decide)
  have O97 : Old Z n0 h97 := O96.ext E97
  have Kp97 : Keep h0 h97 [] := Kp96.ext E97
  have Cl97 : CHr Z EL T93.vm h96 T97.vm h97 := Cq97
  have Sfb67_97 : Safe Z EL T97.vm h97 b67 := Cl97.safe V96.lt Sfb67_96
  have CR97 : CHr Z EL s.vm h0 T97.vm h97 := CR96.trans Cl97
  have CH97 := CR97.1
  have Ls97 : Str Z h97 sa97 sd97 kc97 lit27 := ⟨Es97, Vs97, Cs97, As97⟩
  have f98 : Arv Z h97 b67 k67 (.object "java/lang/String") (16 : Int32) [(.ref sa69), (.ref sa73), (.ref sa77), (.ref sa81), (.ref sa85), (.ref sa89), (.ref sa93), .null, .null, .null, .null, .null, .null, .null, .null, .null] .null := (V96.ext E97)
  obtain ⟨cw99, A99, q99, s99, n99, H99, G99⟩ := id f98
  obtain ⟨T100, h100, X100, e100, W100, st100⟩ := stR X97 hx hZ97 e97 A99 (j := (7 : Int32)) (inb_of s99 ⟨by decide, by decide⟩) rfl (Sto.ofV A99 q99 Ov67 (Ins.self Ls97.1)) (g := (mkF m 160 #[.val (.int p0), .val (.int p1), .val (.int (Int32.ofNat nn)), .val (.int (1 : Int32)), .val (.ref b1), .unset, .unset, .unset, .unset, .unset] [(.ref sa97), (.int (7 : Int32)), (.ref b67), (.ref b67)])) rfl rfl (hb hby at_160)
  have V100 : Arv Z h100 b67 k67 (.object "java/lang/String") (16 : Int32) [(.ref sa69), (.ref sa73), (.ref sa77), (.ref sa81), (.ref sa85), (.ref sa89), (.ref sa93), (.ref sa97), .null, .null, .null, .null, .null, .null, .null, .null] .null := Arv.set A99 q99 s99 n99 H99 G99 rfl W100 7 rfl (Nat.le_of_ble_eq_true rfl)
  have N100 := Fr.snoc X100 N96 gb67
  have O100 : Old Z n0 h100 := O97.wr W100 gb67
  have Kp100 : Keep h0 h100 [] := Kp97.wr W100 (Or.inr gs67)
  have Cl100 : CHr Z EL T97.vm h97 T97.vm h100 := CHr.wr W100 Sfb67_97 CH97
  have Sfb67_100 : Safe Z EL T97.vm h100 b67 := Cl100.safe f98.lt Sfb67_97
  have CR100 : CHr Z EL s.vm h0 T97.vm h100 := CR97.trans Cl100
  have CH100 := CR100.1
  have hk100 : _ ≤ h100.size := Nat.le_trans hk97 Cl100.2.1
  obtain ⟨sa101, T101, h101, k101, sd101, kc101, X101, e101, E101, hS101, hk101, hZ101, ho101, Es101, Cs101, Vs101, As101, la101, lb101, Cq101, hL101, hne101, st101⟩ := ldcCH X100 hx hZ97 ho97 (hw _ (List.mem_of_getElem? (i := 34) rfl)) (own_wS hw) e100 hS97 hk100 hEL (by simp [EL, consts_1]) CH100 (vs := by8 lit28) (z := Int32.ofNat lit28.length) ⟨by decide, rfl⟩ (by decide) (by decide) (g := (mkF m 164 #[.val (.int p0), .val (.int p1), .val (.int (Int32.ofNat nn)), .val (.int (1 : Int32)), .val (.ref b1), .unset, .unset, .unset, .unset, .unset] [(.int (8 : Int32)), (.ref b67), (.ref b67)])) rfl (hb hby at_164) (n := 124) (by decide) (by decide) (by decide) (by decide)
  have O101 : Old Z n0 h101 := O100.ext E101
  have Kp101 : Keep h0 h101 [] := Kp100.ext E101
  have Cl101 : CHr Z EL T97.vm h100 T101.vm h101 := Cq101
  have Sfb67_101 : Safe Z EL T101.vm h101 b67 := Cl101.safe V100.lt Sfb67_100
  have CR101 : CHr Z EL s.vm h0 T101.vm h101 := CR100.trans Cl101
  have CH101 := CR101.1
  have Ls101 : Str Z h101 sa101 sd101 kc101 lit28 := ⟨Es101, Vs101, Cs101, As101⟩
  have f102 : Arv Z h101 b67 k67 (.object "java/lang/String") (16 : Int32) [(.ref sa69), (.ref sa73), (.ref sa77), (.ref sa81), (.ref sa85), (.ref sa89), (.ref sa93), (.ref sa97), .null, .null, .null, .null, .null, .null, .null, .null] .null := (V100.ext E101)
  obtain ⟨cw103, A103, q103, s103, n103, H103, G103⟩ := id f102
  obtain ⟨T104, h104, X104, e104, W104, st104⟩ := stR X101 hx hZ101 e101 A103 (j := (8 : Int32)) (inb_of s103 ⟨by decide, by decide⟩) rfl (Sto.ofV A103 q103 Ov67 (Ins.self Ls101.1)) (g := (mkF m 166 #[.val (.int p0), .val (.int p1), .val (.int (Int32.ofNat nn)), .val (.int (1 : Int32)), .val (.ref b1), .unset, .unset, .unset, .unset, .unset] [(.ref sa101), (.int (8 : Int32)), (.ref b67), (.ref b67)])) rfl rfl (hb hby at_166)
  have V104 : Arv Z h104 b67 k67 (.object "java/lang/String") (16 : Int32) [(.ref sa69), (.ref sa73), (.ref sa77), (.ref sa81), (.ref sa85), (.ref sa89), (.ref sa93), (.ref sa97), (.ref sa101), .null, .null, .null, .null, .null, .null, .null] .null := Arv.set A103 q103 s103 n103 H103 G103 rfl W104 8 rfl (Nat.le_of_ble_eq_true rfl)
  have N104 := Fr.snoc X104 N100 gb67
  have O104 : Old Z n0 h104 := O101.wr W104 gb67
  have Kp104 : Keep h0 h104 [] := Kp101.wr W104 (Or.inr gs67)
  have Cl104 : CHr Z EL T101.vm h101 T101.vm h104 := CHr.wr W104 Sfb67_101 CH101
  have Sfb67_104 : Safe Z EL T101.vm h104 b67 := Cl104.safe f102.lt Sfb67_101
  have CR104 : CHr Z EL s.vm h0 T101.vm h104 := CR101.trans Cl104
  have CH104 := CR104.1
  have hk104 : _ ≤ h104.size := Nat.le_trans hk101 Cl104.2.1
  obtain ⟨sa105, T105, h105, k105, sd105, kc105, X105, e105, E105, hS105, hk105, hZ105, ho105, Es105, Cs105, Vs105, As105, la105, lb105, Cq105, hL105, hne105, st105⟩ := ldcCH X104 hx hZ101 ho101 (hw _ (List.mem_of_getElem? (i := 35) rfl)) (own_wS hw) e104 hS101 hk104 hEL (by simp [EL, consts_1]) CH104 (vs := by8 lit29) (z := Int32.ofNat lit29.length) ⟨by decide, rfl⟩ (by decide) (by decide) (g := (mkF m 170 #[.val (.int p0), .val (.int p1), .val (.int (Int32.ofNat nn)), .val (.int (1 : Int32)), .val (.ref b1), .unset, .unset, .unset, .unset, .unset] [(.int (9 : Int32)), (.ref b67), (.ref b67)])) rfl (hb hby at_170) (n := 124) (by decide) (by decide) (by decide) (by decide)
  have O105 : Old Z n0 h105 := O104.ext E105
  have Kp105 : Keep h0 h105 [] := Kp104.ext E105
  have Cl105 : CHr Z EL T101.vm h104 T105.vm h105 := Cq105
  have Sfb67_105 : Safe Z EL T105.vm h105 b67 := Cl105.safe V104.lt Sfb67_104
  have CR105 : CHr Z EL s.vm h0 T105.vm h105 := CR104.trans Cl105
  have CH105 := CR105.1
  have Ls105 : Str Z h105 sa105 sd105 kc105 lit29 := ⟨Es105, Vs105, Cs105, As105⟩
  have f106 : Arv Z h105 b67 k67 (.object "java/lang/String") (16 : Int32) [(.ref sa69), (.ref sa73), (.ref sa77), (.ref sa81), (.ref sa85), (.ref sa89), (.ref sa93), (.ref sa97), (.ref sa101), .null, .null, .null, .null, .null, .null, .null] .null := (V104.ext E105)
  obtain ⟨cw107, A107, q107, s107, n107, H107, G107⟩ := id f106
  obtain ⟨T108, h108, X108, e108, W108, st108⟩ := stR X105 hx hZ105 e105 A107 (j := (9 : Int32)) (inb_of s107 ⟨by decide, by decide⟩) rfl (Sto.ofV A107 q107 Ov67 (Ins.self Ls105.1)) (g := (mkF m 172 #[.val (.int p0), .val (.int p1), .val (.int (Int32.ofNat nn)), .val (.int (1 : Int32)), .val (.ref b1), .unset, .unset, .unset, .unset, .unset] [(.ref sa105), (.int (9 : Int32)), (.ref b67), (.ref b67)])) rfl rfl (hb hby at_172)
  have V108 : Arv Z h108 b67 k67 (.object "java/lang/String") (16 : Int32) [(.ref sa69), (.ref sa73), (.ref sa77), (.ref sa81), (.ref sa85), (.ref sa89), (.ref sa93), (.ref sa97), (.ref sa101), (.ref sa105), .null, .null, .null, .null, .null, .null] .null := Arv.set A107 q107 s107 n107 H107 G107 rfl W108 9 rfl (Nat.le_of_ble_eq_true rfl)
  have N108 := Fr.snoc X108 N104 gb67
  have O108 : Old Z n0 h108 := O105.wr W108 gb67
  have Kp108 : Keep h0 h108 [] := Kp105.wr W108 (Or.inr gs67)
  have Cl108 : CHr Z EL T105.vm h105 T105.vm h108 := CHr.wr W108 Sfb67_105 CH105
  have Sfb67_108 : Safe Z EL T105.vm h108 b67 := Cl108.safe f106.lt Sfb67_105
  have CR108 : CHr Z EL s.vm h0 T105.vm h108 := CR105.trans Cl108
  have CH108 := CR108.1
  have hk108 : _ ≤ h108.size := Nat.le_trans hk105 Cl108.2.1
  obtain ⟨sa109, T109, h109, k109, sd109, kc109, X109, e109, E109, hS109, hk109, hZ109, ho109, Es109, Cs109, Vs109, As109, la109, lb109, Cq109, hL109, hne109, st109⟩ := ldcCH X108 hx hZ105 ho105 (hw _ (List.mem_of_getElem? (i := 36) rfl)) (own_wS hw) e108 hS105 hk108 hEL (by simp [EL, consts_1]) CH108 (vs := by8 lit30) (z := Int32.ofNat lit30.length) ⟨by decide, rfl⟩ (by decide) (by decide) (g := (mkF m 176 #[.val (.int p0), .val (.int p1), .val (.int (Int32.ofNat nn)), .val (.int (1 : Int32)), .val (.ref b1), .unset, .unset, .unset, .unset, .unset] [(.int (10 : Int32)), (.ref b67), (.ref b67)])) rfl (hb hby at_176) (n := 128) (by decide) (by decide) (by decide) (by decide)
  have O109 : Old Z n0 h109 := O108.ext E109
  have Kp109 : Keep h0 h109 [] := Kp108.ext E109
  have Cl109 : CHr Z EL T105.vm h108 T109.vm h109 := Cq109
  have Sfb67_109 : Safe Z EL T109.vm h109 b67 := Cl109.safe V108.lt Sfb67_108
  have CR109 : CHr Z EL s.vm h0 T109.vm h109 := CR108.trans Cl109
  have CH109 := CR109.1
  have Ls109 : Str Z h109 sa109 sd109 kc109 lit30 := ⟨Es109, Vs109, Cs109, As109⟩
  have f110 : Arv Z h109 b67 k67 (.object "java/lang/String") (16 : Int32) [(.ref sa69), (.ref sa73), (.ref sa77), (.ref sa81), (.ref sa85), (.ref sa89), (.ref sa93), (.ref sa97), (.ref sa101), (.ref sa105), .null, .null, .null, .null, .null, .null] .null := (V108.ext E109)
  obtain ⟨cw111, A111, q111, s111, n111, H111, G111⟩ := id f110
  obtain ⟨T112, h112, X112, e112, W112, st112⟩ := stR X109 hx hZ109 e109 A111 (j := (10 : Int32)) (inb_of s111 ⟨by decide, by decide⟩) rfl (Sto.ofV A111 q111 Ov67 (Ins.self Ls109.1)) (g := (mkF m 178 #[.val (.int p0), .val (.int p1), .val (.int (Int32.ofNat nn)), .val (.int (1 : Int32)), .val (.ref b1), .unset, .unset, .unset, .unset, .unset] [(.ref sa109), (.int (10 : Int32)), (.ref b67), (.ref b67)])) rfl rfl (hb hby at_178)
  have V112 : Arv Z h112 b67 k67 (.object "java/lang/String") (16 : Int32) [(.ref sa69), (.ref sa73), (.ref sa77), (.ref sa81), (.ref sa85), (.ref sa89), (.ref sa93), (.ref sa97), (.ref sa101), (.ref sa105), (.ref sa109), .null, .null, .null, .null, .null] .null := Arv.set A111 q111 s111 n111 H111 G111 rfl W112 10 rfl (Nat.le_of_ble_eq_true rfl)
  have N112 := Fr.snoc X112 N108 gb67
  have O112 : Old Z n0 h112 := O109.wr W112 gb67
  have Kp112 : Keep h0 h112 [] := Kp109.wr W112 (Or.inr gs67)
  have Cl112 : CHr Z EL T109.vm h109 T109.vm h112 := CHr.wr W112 Sfb67_109 CH109
  have Sfb67_112 : Safe Z EL T109.vm h112 b67 := Cl112.safe f110.lt Sfb67_109
  have CR112 : CHr Z EL s.vm h0 T109.vm h112 := CR109.trans Cl112
  have CH112 := CR112.1
  have hk112 : _ ≤ h112.size := Nat.le_trans hk109 Cl112.2.1
  obtain ⟨sa113, T113, h113, k113, sd113, kc113, X113, e113, E113, hS113, hk113, hZ113, ho113, Es113, Cs113, Vs113, As113, la113, lb113, Cq113, hL113, hne113, st113⟩ := ldcCH X112 hx hZ109 ho109 (hw _ (List.mem_of_getElem? (i := 37) rfl)) (own_wS hw) e112 hS109 hk112 hEL (by simp [EL, consts_1]) CH112 (vs := by8 lit31) (z := Int32.ofNat lit31.length) ⟨by decide, rfl⟩ (by decide) (by decide) (g := (mkF m 182 #[.val (.int p0), .val (.int p1), .val (.int (Int32.ofNat nn)), .val (.int (1 : Int32)), .val (.ref b1), .unset, .unset, .unset, .unset, .unset] [(.int (11 : Int32)), (.ref b67), (.ref b67)])) rfl (hb hby at_182) (n := 128) (by decide) (by decide) (by decide) (by decide)
  have O113 : Old Z n0 h113 := O112.ext E113
  have Kp113 : Keep h0 h113 [] := Kp112.ext E113
  have Cl113 : CHr Z EL T109.vm h112 T113.vm h113 := Cq113
  have Sfb67_113 : Safe Z EL T113.vm h113 b67 := Cl113.safe V112.lt Sfb67_112
  have CR113 : CHr Z EL s.vm h0 T113.vm h113 := CR112.trans Cl113
  have CH113 := CR113.1
  have Ls113 : Str Z h113 sa113 sd113 kc113 lit31 := ⟨Es113, Vs113, Cs113, As113⟩
  have f114 : Arv Z h113 b67 k67 (.object "java/lang/String") (16 : Int32) [(.ref sa69), (.ref sa73), (.ref sa77), (.ref sa81), (.ref sa85), (.ref sa89), (.ref sa93), (.ref sa97), (.ref sa101), (.ref sa105), (.ref sa109), .null, .null, .null, .null, .null] .null := (V112.ext E113)
  obtain ⟨cw115, A115, q115, s115, n115, H115, G115⟩ := id f114
  obtain ⟨T116, h116, X116, e116, W116, st116⟩ := stR X113 hx hZ113 e113 A115 (j := (11 : Int32)) (inb_of s115 ⟨by decide, by decide⟩) rfl (Sto.ofV A115 q115 Ov67 (Ins.self Ls113.1)) (g := (mkF m 184 #[.val (.int p0), .val (.int p1), .val (.int (Int32.ofNat nn)), .val (.int (1 : Int32)), .val (.ref b1), .unset, .unset, .unset, .unset, .unset] [(.ref sa113), (.int (11 : Int32)), (.ref b67), (.ref b67)])) rfl rfl (hb hby at_184)
  have V116 : Arv Z h116 b67 k67 (.object "java/lang/String") (16 : Int32) [(.ref sa69), (.ref sa73), (.ref sa77), (.ref sa81), (.ref sa85), (.ref sa89), (.ref sa93), (.ref sa97), (.ref sa101), (.ref sa105), (.ref sa109), (.ref sa113), .null, .null, .null, .null] .null := Arv.set A115 q115 s115 n115 H115 G115 rfl W116 11 rfl (Nat.le_of_ble_eq_true rfl)
  have N116 := Fr.snoc X116 N112 gb67
  have O116 : Old Z n0 h116 := O113.wr W116 gb67
  have Kp116 : Keep h0 h116 [] := Kp113.wr W116 (Or.inr gs67)
  have Cl116 : CHr Z EL T113.vm h113 T113.vm h116 := CHr.wr W116 Sfb67_113 CH113
  have Sfb67_116 : Safe Z EL T113.vm h116 b67 := Cl116.safe f114.lt Sfb67_113
  have CR116 : CHr Z EL s.vm h0 T113.vm h116 := CR113.trans Cl116
  have CH116 := CR116.1
  have hk116 : _ ≤ h116.size := Nat.le_trans hk113 Cl116.2.1
  obtain ⟨sa117, T117, h117, k117, sd117, kc117, X117, e117, E117, hS117, hk117, hZ117, ho117, Es117, Cs117, Vs117, As117, la117, lb117, Cq117, hL117, hne117, st117⟩ := ldcCH X116 hx hZ113 ho113 (hw _ (List.mem_of_getElem? (i := 38) rfl)) (own_wS hw) e116 hS113 hk116 hEL (by simp [EL, consts_1]) CH116 (vs := by8 lit32) (z := Int32.ofNat lit32.length) ⟨by decide, rfl⟩ (by decide) (by decide) (g := (mkF m 188 #[.val (.int p0), .val (.int p1), .val (.int (Int32.ofNat nn)), .val (.int (1 : Int32)), .val (.ref b1), .unset, .unset, .unset, .unset, .unset] [(.int (12 : Int32)), (.ref b67), (.ref b67)])) rfl (hb hby at_188) (n := 128) (by decide) (by decide) (by decide) (by decide)
  have O117 : Old Z n0 h117 := O116.ext E117
  have Kp117 : Keep h0 h117 [] := Kp116.ext E117
  have Cl117 : CHr Z EL T113.vm h116 T117.vm h117 := Cq117
  have Sfb67_117 : Safe Z EL T117.vm h117 b67 := Cl117.safe V116.lt Sfb67_116
  have CR117 : CHr Z EL s.vm h0 T117.vm h117 := CR116.trans Cl117
  have CH117 := CR117.1
  have Ls117 : Str Z h117 sa117 sd117 kc117 lit32 := ⟨Es117, Vs117, Cs117, As117⟩
  have f118 : Arv Z h117 b67 k67 (.object "java/lang/String") (16 : Int32) [(.ref sa69), (.ref sa73), (.ref sa77), (.ref sa81), (.ref sa85), (.ref sa89), (.ref sa93), (.ref sa97), (.ref sa101), (.ref sa105), (.ref sa109), (.ref sa113), .null, .null, .null, .null] .null := (V116.ext E117)
  obtain ⟨cw119, A119, q119, s119, n119, H119, G119⟩ := id f118
  obtain ⟨T120, h120, X120, e120, W120, st120⟩ := stR X117 hx hZ117 e117 A119 (j := (12 : Int32)) (inb_of s119 ⟨by decide, by decide⟩) rfl (Sto.ofV A119 q119 Ov67 (Ins.self Ls117.1)) (g := (mkF m 190 #[.val (.int p0), .val (.int p1), .val (.int (Int32.ofNat nn)), .val (.int (1 : Int32)), .val (.ref b1), .unset, .unset, .unset, .unset, .unset] [(.ref sa117), (.int (12 : Int32)), (.ref b67), (.ref b67)])) rfl rfl (hb hby at_190)
  have V120 : Arv Z h120 b67 k67 (.object "java/lang/String") (16 : Int32) [(.ref sa69), (.ref sa73), (.ref sa77), (.ref sa81), (.ref sa85), (.ref sa89), (.ref sa93), (.ref sa97), (.ref sa101), (.ref sa105), (.ref sa109), (.ref sa113), (.ref sa117), .null, .null, .null] .null := Arv.set A119 q119 s119 n119 H119 G119 rfl W120 12 rfl (Nat.le_of_ble_eq_true rfl)
  have N120 := Fr.snoc X120 N116 gb67
  have O120 : Old Z n0 h120 := O117.wr W120 gb67
  have Kp120 : Keep h0 h120 [] := Kp117.wr W120 (Or.inr gs67)
  have Cl120 : CHr Z EL T117.vm h117 T117.vm h120 := CHr.wr W120 Sfb67_117 CH117
  have Sfb67_120 : Safe Z EL T117.vm h120 b67 := Cl120.safe f118.lt Sfb67_117
  have CR120 : CHr Z EL s.vm h0 T117.vm h120 := CR117.trans Cl120
  have CH120 := CR120.1
  have hk120 : _ ≤ h120.size := Nat.le_trans hk117 Cl120.2.1
  obtain ⟨sa121, T121, h121, k121, sd121, kc121, X121, e121, E121, hS121, hk121, hZ121, ho121, Es121, Cs121, Vs121, As121, la121, lb121, Cq121, hL121, hne121, st121⟩ := ldcCH X120 hx hZ117 ho117 (hw _ (List.mem_of_getElem? (i := 39) rfl)) (own_wS hw) e120 hS117 hk120 hEL (by simp [EL, consts_1]) CH120 (vs := by8 lit33) (z := Int32.ofNat lit33.length) ⟨by decide, rfl⟩ (by decide) (by decide) (g := (mkF m 194 #[.val (.int p0), .val (.int p1), .val (.int (Int32.ofNat nn)), .val (.int (1 : Int32)), .val (.ref b1), .unset, .unset, .unset, .unset, .unset] [(.int (13 : Int32)), (.ref b67), (.ref b67)])) rfl (hb hby at_194) (n := 128) (by decide) (by decide) (by decide) (by decide)
  have O121 : Old Z n0 h121 := O120.ext E121
  have Kp121 : Keep h0 h121 [] := Kp120.ext E121
  have Cl121 : CHr Z EL T117.vm h120 T121.vm h121 := Cq121
  have Sfb67_121 : Safe Z EL T121.vm h121 b67 := Cl121.safe V120.lt Sfb67_120
  have CR121 : CHr Z EL s.vm h0 T121.vm h121 := CR120.trans Cl121
  have CH121 := CR121.1
  have Ls121 : Str Z h121 sa121 sd121 kc121 lit33 := ⟨Es121, Vs121, Cs121, As121⟩
  have f122 : Arv Z h121 b67 k67 (.object "java/lang/String") (16 : Int32) [(.ref sa69), (.ref sa73), (.ref sa77), (.ref sa81), (.ref sa85), (.ref sa89), (.ref sa93), (.ref sa97), (.ref sa101), (.ref sa105), (.ref sa109), (.ref sa113), (.ref sa117), .null, .null, .null] .null := (V120.ext E121)
  obtain ⟨cw123, A123, q123, s123, n123, H123, G123⟩ := id f122
  obtain ⟨T124, h124, X124, e124, W124, st124⟩ := stR X121 hx hZ121 e121 A123 (j := (13 : Int32)) (inb_of s123 ⟨by decide, by decide⟩) rfl (Sto.ofV A123 q123 Ov67 (Ins.self Ls121.1)) (g := (mkF m 196 #[.val (.int p0), .val (.int p1), .val (.int (Int32.ofNat nn)), .val (.int (1 : Int32)), .val (.ref b1), .unset, .unset, .unset, .unset, .unset] [(.ref sa121), (.int (13 : Int32)), (.ref b67), (.ref b67)])) rfl rfl (hb hby at_196)
  have V124 : Arv Z h124 b67 k67 (.object "java/lang/String") (16 : Int32) [(.ref sa69), (.ref sa73), (.ref sa77), (.ref sa81), (.ref sa85), (.ref sa89), (.ref sa93), (.ref sa97), (.ref sa101), (.ref sa105), (.ref sa109), (.ref sa113), (.ref sa117), (.ref sa121), .null, .null] .null := Arv.set A123 q123 s123 n123 H123 G123 rfl W124 13 rfl (Nat.le_of_ble_eq_true rfl)
  have N124 := Fr.snoc X124 N120 gb67
  have O124 : Old Z n0 h124 := O121.wr W124 gb67
  have Kp124 : Keep h0 h124 [] := Kp121.wr W124 (Or.inr gs67)
  have Cl124 : CHr Z EL T121.vm h121 T121.vm h124 := CHr.wr W124 Sfb67_121 CH121
  have Sfb67_124 : Safe Z EL T121.vm h124 b67 := Cl124.safe f122.lt Sfb67_121
  have CR124 : CHr Z EL s.vm h0 T121.vm h124 := CR121.trans Cl124
  have CH124 := CR124.1
  have hk124 : _ ≤ h124.size := Nat.le_trans hk121 Cl124.2.1
  obtain ⟨sa125, T125, h125, k125, sd125, kc125, X125, e125, E125, hS125, hk125, hZ125, ho125, Es125, Cs125, Vs125, As125, la125, lb125, Cq125, hL125, hne125, st125⟩ := ldcCH X124 hx hZ121 ho121 (hw _ (List.mem_of_getElem? (i := 40) rfl)) (own_wS hw) e124 hS121 hk124 hEL (by simp [EL, consts_1]) CH124 (vs := by8 lit34) (z := Int32.ofNat lit34.length) ⟨by decide, rfl⟩ (by decide) (by decide) (g := (mkF m 200 #[.val (.int p0), .val (.int p1), .val (.int (Int32.ofNat nn)), .val (.int (1 : Int32)), .val (.ref b1), .unset, .unset, .unset, .unset, .unset] [(.int (14 : Int32)), (.ref b67), (.ref b67)])) rfl (hb hby at_200) (n := 128) (by decide) (by decide) (by decide) (by decide)
  have O125 : Old Z n0 h125 := O124.ext E125
  have Kp125 : Keep h0 h125 [] := Kp124.ext E125
  have Cl125 : CHr Z EL T121.vm h124 T125.vm h125 := Cq125
  have Sfb67_125 : Safe Z EL T125.vm h125 b67 := Cl125.safe V124.lt Sfb67_124
  have CR125 : CHr Z EL s.vm h0 T125.vm h125 := CR124.trans Cl125
  have CH125 := CR125.1
  have Ls125 : Str Z h125 sa125 sd125 kc125 lit34 := ⟨Es125, Vs125, Cs125, As125⟩
  have f126 : Arv Z h125 b67 k67 (.object "java/lang/String") (16 : Int32) [(.ref sa69), (.ref sa73), (.ref sa77), (.ref sa81), (.ref sa85), (.ref sa89), (.ref sa93), (.ref sa97), (.ref sa101), (.ref sa105), (.ref sa109), (.ref sa113), (.ref sa117), (.ref sa121), .null, .null] .null := (V124.ext E125)
  obtain ⟨cw127, A127, q127, s127, n127, H127, G127⟩ := id f126
  obtain ⟨T128, h128, X128, e128, W128, st128⟩ := stR X125 hx hZ125 e125 A127 (j := (14 : Int32)) (inb_of s127 ⟨by decide, by decide⟩) rfl (Sto.ofV A127 q127 Ov67 (Ins.self Ls125.1)) (g := (mkF m 202 #[.val (.int p0), .val (.int p1), .val (.int (Int32.ofNat nn)), .val (.int (1 : Int32)), .val (.ref b1), .unset, .unset, .unset, .unset, .unset] [(.ref sa125), (.int (14 : Int32)), (.ref b67), (.ref b67)])) rfl rfl (hb hby at_202)
  have V128 : Arv Z h128 b67 k67 (.object "java/lang/String") (16 : Int32) [(.ref sa69), (.ref sa73), (.ref sa77), (.ref sa81), (.ref sa85), (.ref sa89), (.ref sa93), (.ref sa97), (.ref sa101), (.ref sa105), (.ref sa109), (.ref sa113), (.ref sa117), (.ref sa121), (.ref sa125), .null] .null := Arv.set A127 q127 s127 n127 H127 G127 rfl W128 14 rfl (Nat.le_of_ble_eq_true rfl)
  have N128 := Fr.snoc X128 N124 gb67
  have O128 : Old Z n0 h128 := O125.wr W128 gb67
  have Kp128 : Keep h0 h128 [] := Kp125.wr W128 (Or.inr gs67)
  have Cl128 : CHr Z EL T125.vm h125 T125.vm h128 := CHr.wr W128 Sfb67_125 CH125
  have Sfb67_128 : Safe Z EL T125.vm h128 b67 := Cl128.safe f126.lt Sfb67_125
  have CR128 : CHr Z EL s.vm h0 T125.vm h128 := CR125.trans Cl128
  have CH128 := CR128.1
  have hk128 : _ ≤ h128.size := Nat.le_trans hk125 Cl128.2.1
  obtain ⟨sa129, T129, h129, k129, sd129, kc129, X129, e129, E129, hS129, hk129, hZ129, ho129, Es129, Cs129, Vs129, As129, la129, lb129, Cq129, hL129, hne129, st129⟩ := ldcCH X128 hx hZ125 ho125 (hw _ (List.mem_of_getElem? (i := 41) rfl)) (own_wS hw) e128 hS125 hk128 hEL (by simp [EL, consts_1]) CH128 (vs := by8 lit35) (z := Int32.ofNat lit35.length) ⟨by decide, rfl⟩ (by decide) (by decide) (g := (mkF m 206 #[.val (.int p0), .val (.int p1), .val (.int (Int32.ofNat nn)), .val (.int (1 : Int32)), .val (.ref b1), .unset, .unset, .unset, .unset, .unset] [(.int (15 : Int32)), (.ref b67), (.ref b67)])) rfl (hb hby at_206) (n := 128) (by decide) (by decide) (by decide) (by decide)
  have O129 : Old Z n0 h129 := O128.ext E129
  have Kp129 : Keep h0 h129 [] := Kp128.ext E129
  have Cl129 : CHr Z EL T125.vm h128 T129.vm h129 := Cq129
  have Sfb67_129 : Safe Z EL T129.vm h129 b67 := Cl129.safe V128.lt Sfb67_128
  have CR129 : CHr Z EL s.vm h0 T129.vm h129 := CR128.trans Cl129
  have CH129 := CR129.1
  have Ls129 : Str Z h129 sa129 sd129 kc129 lit35 := ⟨Es129, Vs129, Cs129, As129⟩
  have f130 : Arv Z h129 b67 k67 (.object "java/lang/String") (16 : Int32) [(.ref sa69), (.ref sa73), (.ref sa77), (.ref sa81), (.ref sa85), (.ref sa89), (.ref sa93), (.ref sa97), (.ref sa101), (.ref sa105), (.ref sa109), (.ref sa113), (.ref sa117), (.ref sa121), (.ref sa125), .null] .null := (V128.ext E129)
  obtain ⟨cw131, A131, q131, s131, n131, H131, G131⟩ := id f130
  obtain ⟨T132, h132, X132, e132, W132, st132⟩ := stR X129 hx hZ129 e129 A131 (j := (15 : Int32)) (inb_of s131 ⟨by decide, by decide⟩) rfl (Sto.ofV A131 q131 Ov67 (Ins.self Ls129.1)) (g := (mkF m 208 #[.val (.int p0), .val (.int p1), .val (.int (Int32.ofNat nn)), .val (.int (1 : Int32)), .val (.ref b1), .unset, .unset, .unset, .unset, .unset] [(.ref sa129), (.int (15 : Int32)), (.ref b67), (.ref b67)])) rfl rfl (hb hby at_208)
  have V132 : Arv Z h132 b67 k67 (.object "java/lang/String") (16 : Int32) [(.ref sa69), (.ref sa73), (.ref sa77), (.ref sa81), (.ref sa85), (.ref sa89), (.ref sa93), (.ref sa97), (.ref sa101), (.ref sa105), (.ref sa109), (.ref sa113), (.ref sa117), (.ref sa121), (.ref sa125), (.ref sa129)] .null := Arv.set A131 q131 s131 n131 H131 G131 rfl W132 15 rfl (Nat.le_of_ble_eq_true rfl)
  have N132 := Fr.snoc X132 N128 gb67
  have O132 : Old Z n0 h132 := O129.wr W132 gb67
  have Kp132 : Keep h0 h132 [] := Kp129.wr W132 (Or.inr gs67)
  have Cl132 : CHr Z EL T129.vm h129 T129.vm h132 := CHr.wr W132 Sfb67_129 CH129
  have Sfb67_132 : Safe Z EL T129.vm h132 b67 := Cl132.safe f130.lt Sfb67_129
  have CR132 : CHr Z EL s.vm h0 T129.vm h132 := CR129.trans Cl132
  have CH132 := CR132.1
  have hk132 : _ ≤ h132.size := Nat.le_trans hk129 Cl132.2.1
  have f134 : Str Z h132 sa69 sd69 kc69 lit20 := (((((((((((((((((((((((((((((((Ls69.other W72 (Ne.symm (hne69 _ Sfb67_69).1) (Ne.symm (hne69 _ Sfb67_69).2)).ext E73).other W76 (Ne.symm (hne69 _ Sfb67_69).1) (Ne.symm (hne69 _ Sfb67_69).2)).ext E77).other W80 (Ne.symm (hne69 _ Sfb67_69).1) (Ne.symm (hne69 _ Sfb67_69).2)).ext E81).other W84 (Ne.symm (hne69 _ Sfb67_69).1) (Ne.symm (hne69 _ Sfb67_69).2)).ext E85).other W88 (Ne.symm (hne69 _ Sfb67_69).1) (Ne.symm (hne69 _ Sfb67_69).2)).ext E89).other W92 (Ne.symm (hne69 _ Sfb67_69).1) (Ne.symm (hne69 _ Sfb67_69).2)).ext E93).other W96 (Ne.symm (hne69 _ Sfb67_69).1) (Ne.symm (hne69 _ Sfb67_69).2)).ext E97).other W100 (Ne.symm (hne69 _ Sfb67_69).1) (Ne.symm (hne69 _ Sfb67_69).2)).ext E101).other W104 (Ne.symm (hne69 _ Sfb67_69).1) (Ne.symm (hne69 _ Sfb67_69).2)).ext E105).other W108 (Ne.symm (hne69 _ Sfb67_69).1) (Ne.symm (hne69 _ Sfb67_69).2)).ext E109).other W112 (Ne.symm (hne69 _ Sfb67_69).1) (Ne.symm (hne69 _ Sfb67_69).2)).ext E113).other W116 (Ne.symm (hne69 _ Sfb67_69).1) (Ne.symm (hne69 _ Sfb67_69).2)).ext E117).other W120 (Ne.symm (hne69 _ Sfb67_69).1) (Ne.symm (hne69 _ Sfb67_69).2)).ext E121).other W124 (Ne.symm (hne69 _ Sfb67_69).1) (Ne.symm (hne69 _ Sfb67_69).2)).ext E125).other W128 (Ne.symm (hne69 _ Sfb67_69).1) (Ne.symm (hne69 _ Sfb67_69).2)).ext E129).other W132 (Ne.symm (hne69 _ Sfb67_69).1) (Ne.symm (hne69 _ Sfb67_69).2))
  have f135 : Str Z h132 sa73 sd73 kc73 lit21 := (((((((((((((((((((((((((((((Ls73.other W76 (Ne.symm (hne73 _ Sfb67_73).1) (Ne.symm (hne73 _ Sfb67_73).2)).ext E77).other W80 (Ne.symm (hne73 _ Sfb67_73).1) (Ne.symm (hne73 _ Sfb67_73).2)).ext E81).other W84 (Ne.symm (hne73 _ Sfb67_73).1) (Ne.symm (hne73 _ Sfb67_73).2)).ext E85).other W88 (Ne.symm (hne73 _ Sfb67_73).1) (Ne.symm (hne73 _ Sfb67_73).2)).ext E89).other W92 (Ne.symm (hne73 _ Sfb67_73).1) (Ne.symm (hne73 _ Sfb67_73).2)).ext E93).other W96 (Ne.symm (hne73 _ Sfb67_73).1) (Ne.symm (hne73 _ Sfb67_73).2)).ext E97).other W100 (Ne.symm (hne73 _ Sfb67_73).1) (Ne.symm (hne73 _ Sfb67_73).2)).ext E101).other W104 (Ne.symm (hne73 _ Sfb67_73).1) (Ne.symm (hne73 _ Sfb67_73).2)).ext E105).other W108 (Ne.symm (hne73 _ Sfb67_73).1) (Ne.symm (hne73 _ Sfb67_73).2)).ext E109).other W112 (Ne.symm (hne73 _ Sfb67_73).1) (Ne.symm (hne73 _ Sfb67_73).2)).ext E113).other W116 (Ne.symm (hne73 _ Sfb67_73).1) (Ne.symm (hne73 _ Sfb67_73).2)).ext E117).other W120 (Ne.symm (hne73 _ Sfb67_73).1) (Ne.symm (hne73 _ Sfb67_73).2)).ext E121).other W124 (Ne.symm (hne73 _ Sfb67_73).1) (Ne.symm (hne73 _ Sfb67_73).2)).ext E125).other W128 (Ne.symm (hne73 _ Sfb67_73).1) (Ne.symm (hne73 _ Sfb67_73).2)).ext E129).other W132 (Ne.symm (hne73 _ Sfb67_73).1) (Ne.symm (hne73 _ Sfb67_73).2))
  have f136 : Str Z h132 sa77 sd77 kc77 lit22 := (((((((((((((((((((((((((((Ls77.other W80 (Ne.symm (hne77 _ Sfb67_77).1) (Ne.symm (hne77 _ Sfb67_77).2)).ext E81).other W84 (Ne.symm (hne77 _ Sfb67_77).1) (Ne.symm (hne77 _ Sfb67_77).2)).ext E85).other W88 (Ne.symm (hne77 _ Sfb67_77).1) (Ne.symm (hne77 _ Sfb67_77).2)).ext E89).other W92 (Ne.symm (hne77 _ Sfb67_77).1) (Ne.symm (hne77 _ Sfb67_77).2)).ext E93).other W96 (Ne.symm (hne77 _ Sfb67_77).1) (Ne.symm (hne77 _ Sfb67_77).2)).ext E97).other W100 (Ne.symm (hne77 _ Sfb67_77).1) (Ne.symm (hne77 _ Sfb67_77).2)).ext E101).other W104 (Ne.symm (hne77 _ Sfb67_77).1) (Ne.symm (hne77 _ Sfb67_77).2)).ext E105).other W108 (Ne.symm (hne77 _ Sfb67_77).1) (Ne.symm (hne77 _ Sfb67_77).2)).ext E109).other W112 (Ne.symm (hne77 _ Sfb67_77).1) (Ne.symm (hne77 _ Sfb67_77).2)).ext E113).other W116 (Ne.symm (hne77 _ Sfb67_77).1) (Ne.symm (hne77 _ Sfb67_77).2)).ext E117).other W120 (Ne.symm (hne77 _ Sfb67_77).1) (Ne.symm (hne77 _ Sfb67_77).2)).ext E121).other W124 (Ne.symm (hne77 _ Sfb67_77).1) (Ne.symm (hne77 _ Sfb67_77).2)).ext E125).other W128 (Ne.symm (hne77 _ Sfb67_77).1) (Ne.symm (hne77 _ Sfb67_77).2)).ext E129).other W132 (Ne.symm (hne77 _ Sfb67_77).1) (Ne.symm (hne77 _ Sfb67_77).2))
  have f137 : Str Z h132 sa81 sd81 kc81 lit23 := (((((((((((((((((((((((((Ls81.other W84 (Ne.symm (hne81 _ Sfb67_81).1) (Ne.symm (hne81 _ Sfb67_81).2)).ext E85).other W88 (Ne.symm (hne81 _ Sfb67_81).1) (Ne.symm (hne81 _ Sfb67_81).2)).ext E89).other W92 (Ne.symm (hne81 _ Sfb67_81).1) (Ne.symm (hne81 _ Sfb67_81).2)).ext E93).other W96 (Ne.symm (hne81 _ Sfb67_81).1) (Ne.symm (hne81 _ Sfb67_81).2)).ext E97).other W100 (Ne.symm (hne81 _ Sfb67_81).1) (Ne.symm (hne81 _ Sfb67_81).2)).ext E101).other W104 (Ne.symm (hne81 _ Sfb67_81).1) (Ne.symm (hne81 _ Sfb67_81).2)).ext E105).other W108 (Ne.symm (hne81 _ Sfb67_81).1) (Ne.symm (hne81 _ Sfb67_81).2)).ext E109).other W112 (Ne.symm (hne81 _ Sfb67_81).1) (Ne.symm (hne81 _ Sfb67_81).2)).ext E113).other W116 (Ne.symm (hne81 _ Sfb67_81).1) (Ne.symm (hne81 _ Sfb67_81).2)).ext E117).other W120 (Ne.symm (hne81 _ Sfb67_81).1) (Ne.symm (hne81 _ Sfb67_81).2)).ext E121).other W124 (Ne.symm (hne81 _ Sfb67_81).1) (Ne.symm (hne81 _ Sfb67_81).2)).ext E125).other W128 (Ne.symm (hne81 _ Sfb67_81).1) (Ne.symm (hne81 _ Sfb67_81).2)).ext E129).other W132 (Ne.symm (hne81 _ Sfb67_81).1) (Ne.symm (hne81 _ Sfb67_81).2))
  have f138 : Str Z h132 sa85 sd85 kc85 lit24 := (((((((((((((((((((((((Ls85.other W88 (Ne.symm (hne85 _ Sfb67_85).1) (Ne.symm (hne85 _ Sfb67_85).2)).ext E89).other W92 (Ne.symm (hne85 _ Sfb67_85).1) (Ne.symm (hne85 _ Sfb67_85).2)).ext E93).other W96 (Ne.symm (hne85 _ Sfb67_85).1) (Ne.symm (hne85 _ Sfb67_85).2)).ext E97).other W100 (Ne.symm (hne85 _ Sfb67_85).1) (Ne.symm (hne85 _ Sfb67_85).2)).ext E101).other W104 (Ne.symm (hne85 _ Sfb67_85).1) (Ne.symm (hne85 _ Sfb67_85).2)).ext E105).other W108 (Ne.symm (hne85 _ Sfb67_85).1) (Ne.symm (hne85 _ Sfb67_85).2)).ext E109).other W112 (Ne.symm (hne85 _ Sfb67_85).1) (Ne.symm (hne85 _ Sfb67_85).2)).ext E113).other W116 (Ne.symm (hne85 _ Sfb67_85).1) (Ne.symm (hne85 _ Sfb67_85).2)).ext E117).other W120 (Ne.symm (hne85 _ Sfb67_85).1) (Ne.symm (hne85 _ Sfb67_85).2)).ext E121).other W124 (Ne.symm (hne85 _ Sfb67_85).1) (Ne.symm (hne85 _ Sfb67_85).2)).ext E125).other W128 (Ne.symm (hne85 _ Sfb67_85).1) (Ne.symm (hne85 _ Sfb67_85).2)).ext E129).other W132 (Ne.symm (hne85 _ Sfb67_85).1) (Ne.symm (hne85 _ Sfb67_85).2))
  have f139 : Str Z h132 sa89 sd89 kc89 lit25 := (((((((((((((((((((((Ls89.other W92 (Ne.symm (hne89 _ Sfb67_89).1) (Ne.symm (hne89 _ Sfb67_89).2)).ext E93).other W96 (Ne.symm (hne89 _ Sfb67_89).1) (Ne.symm (hne89 _ Sfb67_89).2)).ext E97).other W100 (Ne.symm (hne89 _ Sfb67_89).1) (Ne.symm (hne89 _ Sfb67_89).2)).ext E101).other W104 (Ne.symm (hne89 _ Sfb67_89).1) (Ne.symm (hne89 _ Sfb67_89).2)).ext E105).other W108 (Ne.symm (hne89 _ Sfb67_89).1) (Ne.symm (hne89 _ Sfb67_89).2)).ext E109).other W112 (Ne.symm (hne89 _ Sfb67_89).1) (Ne.symm (hne89 _ Sfb67_89).2)).ext E113).other W116 (Ne.symm (hne89 _ Sfb67_89).1) (Ne.symm (hne89 _ Sfb67_89).2)).ext E117).other W120 (Ne.symm (hne89 _ Sfb67_89).1) (Ne.symm (hne89 _ Sfb67_89).2)).ext E121).other W124 (Ne.symm (hne89 _ Sfb67_89).1) (Ne.symm (hne89 _ Sfb67_89).2)).ext E125).other W128 (Ne.symm (hne89 _ Sfb67_89).1) (Ne.symm (hne89 _ Sfb67_89).2)).ext E129).other W132 (Ne.symm (hne89 _ Sfb67_89).1) (Ne.symm (hne89 _ Sfb67_89).2))
  have f140 : Str Z h132 sa93 sd93 kc93 lit26 := (((((((((((((((((((Ls93.other W96 (Ne.symm (hne93 _ Sfb67_93).1) (Ne.symm (hne93 _ Sfb67_93).2)).ext E97).other W100 (Ne.symm (hne93 _ Sfb67_93).1) (Ne.symm (hne93 _ Sfb67_93).2)).ext E101).other W104 (Ne.symm (hne93 _ Sfb67_93).1) (Ne.symm (hne93 _ Sfb67_93).2)).ext E105).other W108 (Ne.symm (hne93 _ Sfb67_93).1) (Ne.symm (hne93 _ Sfb67_93).2)).ext E109).other W112 (Ne.symm (hne93 _ Sfb67_93).1) (Ne.symm (hne93 _ Sfb67_93).2)).ext E113).other W116 (Ne.symm (hne93 _ Sfb67_93).1) (Ne.symm (hne93 _ Sfb67_93).2)).ext E117).other W120 (Ne.symm (hne93 _ Sfb67_93).1) (Ne.symm (hne93 _ Sfb67_93).2)).ext E121).other W124 (Ne.symm (hne93 _ Sfb67_93).1) (Ne.symm (hne93 _ Sfb67_93).2)).ext E125).other W128 (Ne.symm (hne93 _ Sfb67_93).1) (Ne.symm (hne93 _ Sfb67_93).2)).ext E129).other W132 (Ne.symm (hne93 _ Sfb67_93).1) (Ne.symm (hne93 _ Sfb67_93).2))
  have f141 : Str Z h132 sa97 sd97 kc97 lit27 := (((((((((((((((((Ls97.other W100 (Ne.symm (hne97 _ Sfb67_97).1) (Ne.symm (hne97 _ Sfb67_97).2)).ext E101).other W104 (Ne.symm (hne97 _ Sfb67_97).1) (Ne.symm (hne97 _ Sfb67_97).2)).ext E105).other W108 (Ne.symm (hne97 _ Sfb67_97).1) (Ne.symm (hne97 _ Sfb67_97).2)).ext E109).other W112 (Ne.symm (hne97 _ Sfb67_97).1) (Ne.symm (hne97 _ Sfb67_97).2)).ext E113).other W116 (Ne.symm (hne97 _ Sfb67_97).1) (Ne.symm (hne97 _ Sfb67_97).2)).ext E117).other W120 (Ne.symm (hne97 _ Sfb67_97).1) (Ne.symm (hne97 _ Sfb67_97).2)).ext E121).other W124 (Ne.symm (hne97 _ Sfb67_97).1) (Ne.symm (hne97 _ Sfb67_97).2)).ext E125).other W128 (Ne.symm (hne97 _ Sfb67_97).1) (Ne.symm (hne97 _ Sfb67_97).2)).ext E129).other W132 (Ne.symm (hne97 _ Sfb67_97).1) (Ne.symm (hne97 _ Sfb67_97).2))
  have f142 : Str Z h132 sa101 sd101 kc101 lit28 := (((((((((((((((Ls101.other W104 (Ne.symm (hne101 _ Sfb67_101).1) (Ne.symm (hne101 _ Sfb67_101).2)).ext E105).other W108 (Ne.symm (hne101 _ Sfb67_101).1) (Ne.symm (hne101 _ Sfb67_101).2)).ext E109).other W112 (Ne.symm (hne101 _ Sfb67_101).1) (Ne.symm (hne101 _ Sfb67_101).2)).ext E113).other W116 (Ne.symm (hne101 _ Sfb67_101).1) (Ne.symm (hne101 _ Sfb67_101).2)).ext E117).other W120 (Ne.symm (hne101 _ Sfb67_101).1) (Ne.symm (hne101 _ Sfb67_101).2)).ext E121).other W124 (Ne.symm (hne101 _ Sfb67_101).1) (Ne.symm (hne101 _ Sfb67_101).2)).ext E125).other W128 (Ne.symm (hne101 _ Sfb67_101).1) (Ne.symm (hne101 _ Sfb67_101).2)).ext E129).other W132 (Ne.symm (hne101 _ Sfb67_101).1) (Ne.symm (hne101 _ Sfb67_101).2))
  have f143 : Str Z h132 sa105 sd105 kc105 lit29 := (((((((((((((Ls105.other W108 (Ne.symm (hne105 _ Sfb67_105).1) (Ne.symm (hne105 _ Sfb67_105).2)).ext E109).other W112 (Ne.symm (hne105 _ Sfb67_105).1) (Ne.symm (hne105 _ Sfb67_105).2)).ext E113).other W116 (Ne.symm (hne105 _ Sfb67_105).1) (Ne.symm (hne105 _ Sfb67_105).2)).ext E117).other W120 (Ne.symm (hne105 _ Sfb67_105).1) (Ne.symm (hne105 _ Sfb67_105).2)).ext E121).other W124 (Ne.symm (hne105 _ Sfb67_105).1) (Ne.symm (hne105 _ Sfb67_105).2)).ext E125).other W128 (Ne.symm (hne105 _ Sfb67_105).1) (Ne.symm (hne105 _ Sfb67_105).2)).ext E129).other W132 (Ne.symm (hne105 _ Sfb67_105).1) (Ne.symm (hne105 _ Sfb67_105).2))
  have f144 : Str Z h132 sa109 sd109 kc109 lit30 := (((((((((((Ls109.other W112 (Ne.symm (hne109 _ Sfb67_109).1) (Ne.symm (hne109 _ Sfb67_109).2)).ext E113).other W116 (Ne.symm (hne109 _ Sfb67_109).1) (Ne.symm (hne109 _ Sfb67_109).2)).ext E117).other W120 (Ne.symm (hne109 _ Sfb67_109).1) (Ne.symm (hne109 _ Sfb67_109).2)).ext E121).other W124 (Ne.symm (hne109 _ Sfb67_109).1) (Ne.symm (hne109 _ Sfb67_109).2)).ext E125).other W128 (Ne.symm (hne109 _ Sfb67_109).1) (Ne.symm (hne109 _ Sfb67_109).2)).ext E129).other W132 (Ne.symm (hne109 _ Sfb67_109).1) (Ne.symm (hne109 _ Sfb67_109).2))
  have f145 : Str Z h132 sa113 sd113 kc113 lit31 := (((((((((Ls113.other W116 (Ne.symm (hne113 _ Sfb67_113).1) (Ne.symm (hne113 _ Sfb67_113).2)).ext E117).other W120 (Ne.symm (hne113 _ Sfb67_113).1) (Ne.symm (hne113 _ Sfb67_113).2)).ext E121).other W124 (Ne.symm (hne113 _ Sfb67_113).1) (Ne.symm (hne113 _ Sfb67_113).2)).ext E125).other W128 (Ne.symm (hne113 _ Sfb67_113).1) (Ne.symm (hne113 _ Sfb67_113).2)).ext E129).other W132 (Ne.symm (hne113 _ Sfb67_113).1) (Ne.symm (hne113 _ Sfb67_113).2))
  have f146 : Str Z h132 sa117 sd117 kc117 lit32 := (((((((Ls117.other W120 (Ne.symm (hne117 _ Sfb67_117).1) (Ne.symm (hne117 _ Sfb67_117).2)).ext E121).other W124 (Ne.symm (hne117 _ Sfb67_117).1) (Ne.symm (hne117 _ Sfb67_117).2)).ext E125).other W128 (Ne.symm (hne117 _ Sfb67_117).1) (Ne.symm (hne117 _ Sfb67_117).2)).ext E129).other W132 (Ne.symm (hne117 _ Sfb67_117).1) (Ne.symm (hne117 _ Sfb67_117).2))
  have f147 : Str Z h132 sa121 sd121 kc121 lit33 := (((((Ls121.other W124 (Ne.symm (hne121 _ Sfb67_121).1) (Ne.symm (hne121 _ Sfb67_121).2)).ext E125).other W128 (Ne.symm (hne121 _ Sfb67_121).1) (Ne.symm (hne121 _ Sfb67_121).2)).ext E129).other W132 (Ne.symm (hne121 _ Sfb67_121).1) (Ne.symm (hne121 _ Sfb67_121).2))
  have f148 : Str Z h132 sa125 sd125 kc125 lit34 := (((Ls125.other W128 (Ne.symm (hne125 _ Sfb67_125).1) (Ne.symm (hne125 _ Sfb67_125).2)).ext E129).other W132 (Ne.symm (hne125 _ Sfb67_125).1) (Ne.symm (hne125 _ Sfb67_125).2))
  have f149 : Str Z h132 sa129 sd129 kc129 lit35 := (Ls129.other W132 (Ne.symm (hne129 _ Sfb67_129).1) (Ne.symm (hne129 _ Sfb67_129).2))
  obtain ⟨yy, ty, ky, hv, Sy⟩ := own_pick1 hnn f134 f135 f136 f137 f138 f139 f140 f141 f142 f143 f144 f145 f146 f147 f148 f149
  obtain ⟨Es150, Vs150, Cs150, As150⟩ := id Sy
  obtain ⟨T151, h151, k151, X151, e151, E151, A151, st151⟩ := newP X132 hx hZ129 (hw _ (List.mem_of_getElem? (i := 5) rfl)) e132 (g := (mkF m 212 #[.val (.int p0), .val (.int p1), .val (.int (Int32.ofNat nn)), .val (.int (1 : Int32)), .val (.ref b1), .val (.ref b67), .unset, .unset, .unset, .unset] [(.int (Int32.ofNat nn))])) rfl (hb hby at_212) rfl (own_nn (by omega)) (cap := 15) (by rw [own_cl (by omega)]; omega) (by decide) (by decide) (by decide)
  obtain ⟨b151, g151⟩ : ∃ z, z = h132.size := ⟨_, rfl⟩
  rw [← g151] at A151 st151
  have gb151 : n0 ≤ b151 := by have q1 := O132.1; have q2 := O132.2.1; omega
  have gs151 : h0.size ≤ b151 := by have q := (Kp132).1; omega
  have V151 : Arv Z h151 b151 k151 .byte (Int32.ofNat nn) [] (.int (0 : Int32)) := Arv.new A151 (own_nn (by omega))
  have O151 : Old Z n0 h151 := O132.ext E151
  have Kp151 : Keep h0 h151 [] := Kp132.ext E151
  have Cl151 : CHr Z EL T129.vm h132 T129.vm h151 := CHr.ext E151 CH132
  have Sfb67_151 : Safe Z EL T129.vm h151 b67 := Cl151.safe V132.lt Sfb67_132
  have CR151 : CHr Z EL s.vm h0 T129.vm h151 := CR132.trans Cl151
  have CH151 := CR151.1
  have hk151 : _ ≤ h151.size := Nat.le_trans hk132 Cl151.2.1
  have Sfb151_152 : Safe Z EL T129.vm h151 b151 := Safe.ext E151 CH132 (Safe.new (Nat.le_of_eq g151.symm))
  have f153 : Arv Z h151 b67 k67 (.object "java/lang/String") (16 : Int32) [(.ref sa69), (.ref sa73), (.ref sa77), (.ref sa81), (.ref sa85), (.ref sa89), (.ref sa93), (.ref sa97), (.ref sa101), (.ref sa105), (.ref sa109), (.ref sa113), (.ref sa117), (.ref sa121), (.ref sa125), (.ref sa129)] .null := (V132.ext E151)
  have f154 : Exa Z h151 yy "java/lang/String" := (Es150.ext E151)
  have f155 : Fld Z h151 yy "java/lang/String" "value" "[B" (.ref ty) := (Vs150.ext E151)
  have f156 : Fld Z h151 yy "java/lang/String" "coder" "B" (.int (0 : Int32)) := (Cs150.ext E151)
  have f157 : Arv Z h151 ty ky .byte (Int32.ofNat (msg1 nn).length) (by8 (msg1 nn)) (.int (0 : Int32)) := (As150.ext E151)
  obtain ⟨T158, h158, X158, e158, E158, A158, D158, -, st158⟩ := newO X151 hx hZ129 ho129 (hw _ (List.mem_of_getElem? (i := 42) rfl)) (hw _ (List.mem_of_getElem? (i := 43) rfl)) (hw _ (List.mem_of_getElem? (i := 44) rfl)) e151 (g := (mkF m 216 #[.val (.int p0), .val (.int p1), .val (.int (Int32.ofNat nn)), .val (.int (1 : Int32)), .val (.ref b1), .val (.ref b67), .val (.ref b151), .unset, .unset, .unset] [])) rfl (hb hby at_216) (by decide) (by decide)
  obtain ⟨b158, g158⟩ : ∃ z, z = h151.size := ⟨_, rfl⟩
  rw [← g158] at A158 D158 st158
  have gb158 : n0 ≤ b158 := by have q1 := O151.1; have q2 := O151.2.1; omega
  have gs158 : h0.size ≤ b158 := by have q := (Kp151).1; omega
  have O158 : Old Z n0 h158 := O151.ext E158
  have Kp158 : Keep h0 h158 [] := Kp151.ext E158
  have Cl158 : CHr Z EL T129.vm h151 T129.vm h158 := CHr.ext E158 CH151
  have Sfb67_158 : Safe Z EL T129.vm h158 b67 := Cl158.safe f153.lt Sfb67_151
  have Sfb151_158 : Safe Z EL T129.vm h158 b151 := Cl158.safe V151.lt Sfb151_152
  have CR158 : CHr Z EL s.vm h0 T129.vm h158 := CR151.trans Cl158
  have CH158 := CR158.1
  have hk158 : _ ≤ h158.size := Nat.le_trans hk151 Cl158.2.1
  have Sfb158_159 : Safe Z EL T129.vm h158 b158 := Safe.ext E158 CH151 (Safe.new (Nat.le_of_eq g158.symm))
  have F158_body : Fld Z h158 b158 "com/example/savepoint/savepoint/AmqpMessage" "body" "[B" .null := D158 (Or.inr (hw _ (List.mem_of_getElem? (i := 52) rfl))) (ty := (.array .byte)) (by decide)
  have F158_redelivered : Fld Z h158 b158 "com/example/savepoint/savepoint/AmqpMessage" "redelivered" "Z" (.int (0 : Int32)) := D158 (Or.inr (hw _ (List.mem_of_getElem? (i := 54) rfl))) (ty := .boolean) (by decide)
  have f160 : Arv Z h158 b67 k67 (.object "java/lang/String") (16 : Int32) [(.ref sa69), (.ref sa73), (.ref sa77), (.ref sa81), (.ref sa85), (.ref sa89), (.ref sa93), (.ref sa97), (.ref sa101), (.ref sa105), (.ref sa109), (.ref sa113), (.ref sa117), (.ref sa121), (.ref sa125), (.ref sa129)] .null := (f153.ext E158)
  have f161 : Arv Z h158 b151 k151 .byte (Int32.ofNat nn) [] (.int (0 : Int32)) := (V151.ext E158)
  obtain ⟨_, _, ⟨T162, L162, k162, n162⟩, -, X162, ⟨Lc162, hQ162, l162, y162, z162⟩, st162⟩ := X158.specialBack hx (y := (⟨"com/example/savepoint/savepoint/AmqpMessage", "<init>", "([BZ)V"⟩ : MethodName)) rfl ho129 (mvT hZ129 (hw _ (List.mem_of_getElem? (i := 45) rfl))) (mvT hZ129 (hw _ (List.mem_of_getElem? (i := 46) rfl))) (mvT hZ129 (hw _ (List.mem_of_getElem? (i := 47) rfl))) (by decide) (backOf (W := 1) (rm_init1 l Z a0 hw [] b158 b151 h158 n0 O158 A158 F158_body F158_redelivered gb158) hZ129 (hw _ (List.mem_of_getElem? (i := 47) rfl)) (hw _ (List.mem_of_getElem? (i := 44) rfl)) (by decide) (by decide)) (g := (mkF m 223 #[.val (.int p0), .val (.int p1), .val (.int (Int32.ofNat nn)), .val (.int (1 : Int32)), .val (.ref b1), .val (.ref b67), .val (.ref b151), .unset, .unset, .unset] [(.int (1 : Int32)), (.ref b151), (.ref b158), (.ref b158)])) rfl (by rw [hml]; rfl) (Steps.refl _) (a := b158) (argsL := [(.ref b151), (.int (1 : Int32))]) (rest := [(.ref b158)]) (lenOf pd_285bBZ29V rfl) rfl (by show 2 * 0 + _ ≤ _; exact Nat.le_of_eq rfl) (hb hby at_223) (fun _ _ => ⟨rfl, e158, (by decide : 68 + 0 ≤ _), (by decide : 3361 + 0 ≤ _)⟩)
  dsimp only [Pt.U, Pt.locs, Pt.cells, Pt.slots] at X162 l162 y162 z162 st162 hQ162
  rw [l162, y162, z162] at X162
  obtain ⟨rfl, N162q, K162, ⟨Fb, Fr_⟩⟩ := hQ162
  have N162 := Fr.app N132 N162q
  have O162 : Old Z n0 T162.heap := O158.keep K162 (allS (P := (n0 ≤ ·)) gb158 all0)
  have Kp162 : Keep h0 T162.heap [] := Kp158.trans K162 (allS (P := (fun x => x ∈ [] ∨ h0.size ≤ x)) (Or.inr gs158) all0)
  have Cl162 : CHr Z EL T129.vm h158 T129.vm T162.heap := CHr.keep K162 (sfS Sfb158_159 sf0) CH158
  have Sfb67_162 : Safe Z EL T129.vm T162.heap b67 := Cl162.safe f160.lt Sfb67_158
  have Sfb151_162 : Safe Z EL T129.vm T162.heap b151 := Cl162.safe f161.lt Sfb151_158
  have Sfb158_162 : Safe Z EL T129.vm T162.heap b158 := Cl162.safe A158.lt Sfb158_159
  have CR162 : CHr Z EL s.vm h0 T129.vm T162.heap := CR158.trans Cl162
  have CH162 := CR162.1
  have hk162 : _ ≤ T162.heap.size := Nat.le_trans hk158 Cl162.2.1
  have f163 : Arv Z T162.heap b67 k67 (.object "java/lang/String") (16 : Int32) [(.ref sa69), (.ref sa73), (.ref sa77), (.ref sa81), (.ref sa85), (.ref sa89), (.ref sa93), (.ref sa97), (.ref sa101), (.ref sa105), (.ref sa109), (.ref sa113), (.ref sa117), (.ref sa121), (.ref sa125), (.ref sa129)] .null := (f160.keep K162 (ninS (Nat.ne_of_lt (Nat.lt_of_lt_of_le f153.lt (Nat.le_of_eq g158.symm))) nin0))
  have f164 : Arv Z T162.heap b151 k151 .byte (Int32.ofNat nn) [] (.int (0 : Int32)) := (f161.keep K162 (ninS (Nat.ne_of_lt (Nat.lt_of_lt_of_le V151.lt (Nat.le_of_eq g158.symm))) nin0))
  have f165 : Exa Z T162.heap b158 "com/example/savepoint/savepoint/AmqpMessage" := (A158.keep K162)
  have f166 : Exa Z T162.heap yy "java/lang/String" := ((f154.ext E158).keep K162)
  have f167 : Fld Z T162.heap yy "java/lang/String" "value" "[B" (.ref ty) := ((f155.ext E158).keep K162 (ninS (Nat.ne_of_lt (Nat.lt_of_lt_of_le f156.lt (Nat.le_of_eq g158.symm))) nin0))
  have f168 : Fld Z T162.heap yy "java/lang/String" "coder" "B" (.int (0 : Int32)) := ((f156.ext E158).keep K162 (ninS (Nat.ne_of_lt (Nat.lt_of_lt_of_le f156.lt (Nat.le_of_eq g158.symm))) nin0))
  have f169 : Arv Z T162.heap ty ky .byte (Int32.ofNat (msg1 nn).length) (by8 (msg1 nn)) (.int (0 : Int32)) := ((f157.ext E158).keep K162 (ninS (Nat.ne_of_lt (Nat.lt_of_lt_of_le f157.lt (Nat.le_of_eq g158.symm))) nin0))
  obtain ⟨cq170, kq170, q170a, q170b, q170c⟩ := isOf hZ129 rfl f165
  obtain ⟨_, _, ⟨T170, L170, k170, n170⟩, -, X170p, hS170p, hg170, ⟨Lc170, hQ170, l170, y170, z170, Cq170⟩, st170⟩ := X162.virtualBackS hx (y := (⟨"com/example/savepoint/savepoint/AmqpMessage", "toString", "()Ljava/lang/String;"⟩ : MethodName)) (z := (⟨"com/example/savepoint/savepoint/AmqpMessage", "toString", "()Ljava/lang/String;"⟩ : MethodName)) ho129 (mvT hZ129 (hw _ (List.mem_of_getElem? (i := 55) rfl))) (mvT hZ129 (hw _ (List.mem_of_getElem? (i := 56) rfl))) (notFace_of_selects (args := #[]) (mvT hZ129 (hw _ (List.mem_of_getElem? (i := 58) rfl)))) (mvT hZ129 (hw _ (List.mem_of_getElem? (i := 58) rfl))) (mvT hZ129 (hw _ (List.mem_of_getElem? (i := 57) rfl))) (by decide) (backOfSH (W := 0) (rm_toS1 l Z a0 hw [] zc b158 b151 k151 nn ist d1 d2 T162.heap n0 O162 hE hD f165 Fb Fr_ f164 hnn hEL) hZ129 (hw _ (List.mem_of_getElem? (i := 59) rfl)) (hw _ (List.mem_of_getElem? (i := 44) rfl)) (by decide) (by decide) hEL CH162) q170a q170c (g := (mkF m 230 #[.val (.int p0), .val (.int p1), .val (.int (Int32.ofNat nn)), .val (.int (1 : Int32)), .val (.ref b1), .val (.ref b67), .val (.ref b151), .val (.ref b158), .unset, .unset] [(.ref b158)])) rfl (by rw [hml]; rfl) (Steps.refl _) (argsL := []) (rest := []) (lenOf pd_2829Ljava2flang2fString3b rfl) rfl (by show 2 * 0 + _ ≤ _; exact Nat.le_of_eq rfl) (hb hby at_230) (fun _ _ => ⟨rfl, rfl, (by decide : 68 + 14 ≤ _), (by decide : 3361 + 1156 ≤ _)⟩)
  dsimp only [Pt.U, Pt.locs, Pt.cells, Pt.slots] at X170p hS170p hg170 l170 y170 z170 st170 hQ170 Cq170
  rw [l170, y170, z170] at X170p
  obtain ⟨X170, hS170, hZ170, ho170⟩ := rebS hS129 hk162 X170p hS170p hg170 hZ129 ho129
  obtain ⟨x170, rfl, N170q, K170, ⟨t170, kx170, Ps170, gx170, gt170⟩⟩ := hQ170
  have N170 := Fr.app N162 N170q
  have gzx170 : h0.size ≤ x170 := Nat.le_trans Kp162.1 gx170
  have gnx170 : n0 ≤ x170 := by have q1 := O162.1; have q2 := O162.2.1; omega
  have gzt170 : h0.size ≤ t170 := Nat.le_trans Kp162.1 gt170
  have gnt170 : n0 ≤ t170 := by have q1 := O162.1; have q2 := O162.2.1; omega
  have O170 : Old Z n0 T170.heap := O162.keep K170 all0
  have Kp170 : Keep h0 T170.heap [] := Kp162.trans K170 all0
  have Cl170 : CHr Z EL T129.vm T162.heap T170.vm T170.heap := Cq170
  have Sfb67_170 : Safe Z EL T170.vm T170.heap b67 := Cl170.safe f163.lt Sfb67_162
  have Sfb151_170 : Safe Z EL T170.vm T170.heap b151 := Cl170.safe f164.lt Sfb151_162
  have Sfb158_170 : Safe Z EL T170.vm T170.heap b158 := Cl170.safe f165.lt Sfb158_162
  have CR170 : CHr Z EL s.vm h0 T170.vm T170.heap := CR162.trans Cl170
  have CH170 := CR170.1
  obtain ⟨Es171, Vs171, Cs171, As171⟩ := id Ps170
  have f172 : Arv Z T170.heap b67 k67 (.object "java/lang/String") (16 : Int32) [(.ref sa69), (.ref sa73), (.ref sa77), (.ref sa81), (.ref sa85), (.ref sa89), (.ref sa93), (.ref sa97), (.ref sa101), (.ref sa105), (.ref sa109), (.ref sa113), (.ref sa117), (.ref sa121), (.ref sa125), (.ref sa129)] .null := (f163.keep K170 nin0)
  obtain ⟨cw173, A173, q173, s173, n173, H173, G173⟩ := id f172
  have f174 : Exa Z T170.heap yy "java/lang/String" := (f166.keep K170)
  have f175 : Fld Z T170.heap yy "java/lang/String" "value" "[B" (.ref ty) := (f167.keep K170 nin0)
  have f176 : Fld Z T170.heap yy "java/lang/String" "coder" "B" (.int (0 : Int32)) := (f168.keep K170 nin0)
  have f177 : Arv Z T170.heap ty ky .byte (Int32.ofNat (msg1 nn).length) (by8 (msg1 nn)) (.int (0 : Int32)) := (f169.keep K170 nin0)
  obtain ⟨cq178, kq178, q178a, q178b, q178c⟩ := isOf hZ170 rfl Es171
  obtain ⟨_, _, ⟨T178, L178, k178, n178⟩, -, X178, ⟨Lc178, hQ178, l178, y178, z178⟩, st178⟩ := X170.virtualBack hx (y := (⟨"java/lang/String", "equals", "(Ljava/lang/Object;)Z"⟩ : MethodName)) (z := (⟨"java/lang/String", "equals", "(Ljava/lang/Object;)Z"⟩ : MethodName)) ho170 (mvT hZ170 (hw _ (List.mem_of_getElem? (i := 212) rfl))) (mvT hZ170 (hw _ (List.mem_of_getElem? (i := 213) rfl))) (notFace_of_selects (args := #[]) (mvT hZ170 (hw _ (List.mem_of_getElem? (i := 215) rfl)))) (mvT hZ170 (hw _ (List.mem_of_getElem? (i := 215) rfl))) (mvT hZ170 (hw _ (List.mem_of_getElem? (i := 214) rfl))) (by decide) (backOf (W := 0) (sb_equals1 l Z a0 hw [] zc x170 t170 kx170 (msg1 nn) yy ty ky (msg1 nn) T170.heap n0 O170 hE ⟨Es171, Vs171, Cs171, As171⟩ ⟨f174, f175, f176, f177⟩ (Ne.symm (Nat.ne_of_lt (Nat.lt_of_lt_of_le f168.lt gx170))) (own_mle1 hnn) (own_mle1 hnn) rfl) hZ170 (hw _ (List.mem_of_getElem? (i := 216) rfl)) (hw _ (List.mem_of_getElem? (i := 3) rfl)) (by decide) (by decide)) q178a q178c (g := (mkF m 256 #[.val (.int p0), .val (.int p1), .val (.int (Int32.ofNat nn)), .val (.int (1 : Int32)), .val (.ref b1), .val (.ref b67), .val (.ref b151), .val (.ref b158), .val (.ref x170), .val (.ref yy)] [(.ref yy), (.ref x170)])) rfl (by rw [hml]; rfl) (Steps.refl _) (argsL := [(.ref yy)]) (rest := []) (lenOf pd_28Ljava2flang2fObject3b29Z rfl) rfl (by show 2 * 0 + _ ≤ _; exact Nat.le_of_eq rfl) (hb hby at_256) (fun _ _ => ⟨rfl, rfl, (by decide : 82 + 0 ≤ _), (by decide : 4517 + 0 ≤ _)⟩)
  dsimp only [Pt.U, Pt.locs, Pt.cells, Pt.slots] at X178 l178 y178 z178 st178 hQ178
  rw [l178, y178, z178] at X178
  obtain ⟨rfl, N178q, e178⟩ := hQ178
  have N178 := Fr.app N170 N178q
  obtain ⟨fs, hr, hrun, hended, hEnd⟩ := X178.leaveW hS170 (by rw [e178]; exact (Nat.le_refl _)) (v := some (.int (1 : Int32))) (fun h => by rw [Bd.returns] at h; cases h)
  have hFin : CHr Z EL s.vm s.heap T178.vm T178.heap := by
    have q := CR170.trans (CHv.at X178 hZ170 hEL CH170)
    rw [hh, e178]; exact q
  refine ⟨_, _, pre0 _ ?_, hrun, hended, _, _, rfl, ?_, hFin, ⟨hEnd.1, hEnd.2.1, hEnd.2.2.1, hEnd.2.2.2.mono (by decide) (by decide)⟩⟩
  · show Steps p.tables e below (s₁.setTop (mkF m 0 #[.val (.int p0), .val (.int p1), .unset, .unset, .unset, .unset, .unset, .unset, .unset, .unset] [])) _
    refine XS.iloadN X0.here hx rfl (hb hby at_0) rfl ?_
    show Steps p.tables e below (s₁.setTop (mkF m 1 #[.val (.int p0), .val (.int p1), .unset, .unset, .unset, .unset, .unset, .unset, .unset, .unset] [(.int p0)])) _
    refine XS.bipush X0.here hx rfl (hb hby at_1) ?_
    show Steps p.tables e below (s₁.setTop (mkF m 3 #[.val (.int p0), .val (.int p1), .unset, .unset, .unset, .unset, .unset, .unset, .unset, .unset] [(.int (15 : Int32)), (.int p0)])) _
    refine XS.iand X0.here hx rfl (hb hby at_3) rfl ?_
    show Steps p.tables e below (s₁.setTop (mkF m 4 #[.val (.int p0), .val (.int p1), .unset, .unset, .unset, .unset, .unset, .unset, .unset, .unset] [(.int (p0 &&& (15 : Int32)))])) _
    rw [hp]
    show Steps p.tables e below (s₁.setTop (mkF m 4 #[.val (.int p0), .val (.int p1), .unset, .unset, .unset, .unset, .unset, .unset, .unset, .unset] [(.int (Int32.ofNat nn))])) _
    refine XS.istoreN X0.here hx rfl (hb hby at_4) rfl (l' := #[.val (.int p0), .val (.int p1), .val (.int (Int32.ofNat nn)), .unset, .unset, .unset, .unset, .unset, .unset, .unset]) rfl ?_
    show Steps p.tables e below (s₁.setTop (mkF m 5 #[.val (.int p0), .val (.int p1), .val (.int (Int32.ofNat nn)), .unset, .unset, .unset, .unset, .unset, .unset, .unset] [])) _
    refine XS.iloadN X0.here hx rfl (hb hby at_5) rfl ?_
    show Steps p.tables e below (s₁.setTop (mkF m 6 #[.val (.int p0), .val (.int p1), .val (.int (Int32.ofNat nn)), .unset, .unset, .unset, .unset, .unset, .unset, .unset] [(.int p1)])) _
    refine XS.iconst X0.here hx rfl (hb hby at_6) ?_
    show Steps p.tables e below (s₁.setTop (mkF m 7 #[.val (.int p0), .val (.int p1), .val (.int (Int32.ofNat nn)), .unset, .unset, .unset, .unset, .unset, .unset, .unset] [(.int (1 : Int32)), (.int p1)])) _
    refine XS.iand X0.here hx rfl (hb hby at_7) rfl ?_
    show Steps p.tables e below (s₁.setTop (mkF m 8 #[.val (.int p0), .val (.int p1), .val (.int (Int32.ofNat nn)), .unset, .unset, .unset, .unset, .unset, .unset, .unset] [(.int (p1 &&& (1 : Int32)))])) _
    refine XS.ifNo X0.here hx rfl (hb hby at_8) rfl ((if0 _ _).trans (feq (hc : ¬ ((p1 &&& (1 : Int32)) = (0 : Int32)))).1) ?_
    show Steps p.tables e below (s₁.setTop (mkF m 11 #[.val (.int p0), .val (.int p1), .val (.int (Int32.ofNat nn)), .unset, .unset, .unset, .unset, .unset, .unset, .unset] [])) _
    refine XS.iconst X0.here hx rfl (hb hby at_11) ?_
    show Steps p.tables e below (s₁.setTop (mkF m 12 #[.val (.int p0), .val (.int p1), .val (.int (Int32.ofNat nn)), .unset, .unset, .unset, .unset, .unset, .unset, .unset] [(.int (1 : Int32))])) _
    refine XS.goto X0.here hx rfl (pc0 := 12) (pc' := 16) rfl (hb hby at_12) (by decide) (by decide) ?_
    show Steps p.tables e below (s₁.setTop (mkF m 16 #[.val (.int p0), .val (.int p1), .val (.int (Int32.ofNat nn)), .unset, .unset, .unset, .unset, .unset, .unset, .unset] [(.int (1 : Int32))])) _
    refine XS.istoreN X0.here hx rfl (hb hby at_16) rfl (l' := #[.val (.int p0), .val (.int p1), .val (.int (Int32.ofNat nn)), .val (.int (1 : Int32)), .unset, .unset, .unset, .unset, .unset, .unset]) rfl ?_
    show Steps p.tables e below (s₁.setTop (mkF m 17 #[.val (.int p0), .val (.int p1), .val (.int (Int32.ofNat nn)), .val (.int (1 : Int32)), .unset, .unset, .unset, .unset, .unset, .unset] [])) _
    refine XS.bipush X0.here hx rfl (hb hby at_17) ?_
    show Steps p.tables e below (s₁.setTop (mkF m 19 #[.val (.int p0), .val (.int p1), .val (.int (Int32.ofNat nn)), .val (.int (1 : Int32)), .unset, .unset, .unset, .unset, .unset, .unset] [(.int (16 : Int32))])) _
    refine st1 _ ?_
    show Steps p.tables e below (T1.setTop (mkF m 22 #[.val (.int p0), .val (.int p1), .val (.int (Int32.ofNat nn)), .val (.int (1 : Int32)), .unset, .unset, .unset, .unset, .unset, .unset] [(.ref b1)])) _
    refine XS.dup X1.here hx rfl (hb hby at_22) rfl rfl ?_
    show Steps p.tables e below (T1.setTop (mkF m 23 #[.val (.int p0), .val (.int p1), .val (.int (Int32.ofNat nn)), .val (.int (1 : Int32)), .unset, .unset, .unset, .unset, .unset, .unset] [(.ref b1), (.ref b1)])) _
    refine XS.iconst X1.here hx rfl (hb hby at_23) ?_
    show Steps p.tables e below (T1.setTop (mkF m 24 #[.val (.int p0), .val (.int p1), .val (.int (Int32.ofNat nn)), .val (.int (1 : Int32)), .unset, .unset, .unset, .unset, .unset, .unset] [(.int (0 : Int32)), (.ref b1), (.ref b1)])) _
    refine st3 _ ?_
    show Steps p.tables e below (T3.setTop (mkF m 26 #[.val (.int p0), .val (.int p1), .val (.int (Int32.ofNat nn)), .val (.int (1 : Int32)), .unset, .unset, .unset, .unset, .unset, .unset] [(.ref sa3), (.int (0 : Int32)), (.ref b1), (.ref b1)])) _
    refine st6 _ ?_
    show Steps p.tables e below (T6.setTop (mkF m 27 #[.val (.int p0), .val (.int p1), .val (.int (Int32.ofNat nn)), .val (.int (1 : Int32)), .unset, .unset, .unset, .unset, .unset, .unset] [(.ref b1)])) _
    refine XS.dup X6.here hx rfl (hb hby at_27) rfl rfl ?_
    show Steps p.tables e below (T6.setTop (mkF m 28 #[.val (.int p0), .val (.int p1), .val (.int (Int32.ofNat nn)), .val (.int (1 : Int32)), .unset, .unset, .unset, .unset, .unset, .unset] [(.ref b1), (.ref b1)])) _
    refine XS.iconst X6.here hx rfl (hb hby at_28) ?_
    show Steps p.tables e below (T6.setTop (mkF m 29 #[.val (.int p0), .val (.int p1), .val (.int (Int32.ofNat nn)), .val (.int (1 : Int32)), .unset, .unset, .unset, .unset, .unset, .unset] [(.int (1 : Int32)), (.ref b1), (.ref b1)])) _
    refine st7 _ ?_
    show Steps p.tables e below (T7.setTop (mkF m 31 #[.val (.int p0), .val (.int p1), .val (.int (Int32.ofNat nn)), .val (.int (1 : Int32)), .unset, .unset, .unset, .unset, .unset, .unset] [(.ref sa7), (.int (1 : Int32)), (.ref b1), (.ref b1)])) _
    refine st10 _ ?_
    show Steps p.tables e below (T10.setTop (mkF m 32 #[.val (.int p0), .val (.int p1), .val (.int (Int32.ofNat nn)), .val (.int (1 : Int32)), .unset, .unset, .unset, .unset, .unset, .unset] [(.ref b1)])) _
    refine XS.dup X10.here hx rfl (hb hby at_32) rfl rfl ?_
    show Steps p.tables e below (T10.setTop (mkF m 33 #[.val (.int p0), .val (.int p1), .val (.int (Int32.ofNat nn)), .val (.int (1 : Int32)), .unset, .unset, .unset, .unset, .unset, .unset] [(.ref b1), (.ref b1)])) _
    refine XS.iconst X10.here hx rfl (hb hby at_33) ?_
    show Steps p.tables e below (T10.setTop (mkF m 34 #[.val (.int p0), .val (.int p1), .val (.int (Int32.ofNat nn)), .val (.int (1 : Int32)), .unset, .unset, .unset, .unset, .unset, .unset] [(.int (2 : Int32)), (.ref b1), (.ref b1)])) _
    refine st11 _ ?_
    show Steps p.tables e below (T11.setTop (mkF m 36 #[.val (.int p0), .val (.int p1), .val (.int (Int32.ofNat nn)), .val (.int (1 : Int32)), .unset, .unset, .unset, .unset, .unset, .unset] [(.ref sa11), (.int (2 : Int32)), (.ref b1), (.ref b1)])) _
    refine st14 _ ?_
    show Steps p.tables e below (T14.setTop (mkF m 37 #[.val (.int p0), .val (.int p1), .val (.int (Int32.ofNat nn)), .val (.int (1 : Int32)), .unset, .unset, .unset, .unset, .unset, .unset] [(.ref b1)])) _
    refine XS.dup X14.here hx rfl (hb hby at_37) rfl rfl ?_
    show Steps p.tables e below (T14.setTop (mkF m 38 #[.val (.int p0), .val (.int p1), .val (.int (Int32.ofNat nn)), .val (.int (1 : Int32)), .unset, .unset, .unset, .unset, .unset, .unset] [(.ref b1), (.ref b1)])) _
    refine XS.iconst X14.here hx rfl (hb hby at_38) ?_
    show Steps p.tables e below (T14.setTop (mkF m 39 #[.val (.int p0), .val (.int p1), .val (.int (Int32.ofNat nn)), .val (.int (1 : Int32)), .unset, .unset, .unset, .unset, .unset, .unset] [(.int (3 : Int32)), (.ref b1), (.ref b1)])) _
    refine st15 _ ?_
    show Steps p.tables e below (T15.setTop (mkF m 41 #[.val (.int p0), .val (.int p1), .val (.int (Int32.ofNat nn)), .val (.int (1 : Int32)), .unset, .unset, .unset, .unset, .unset, .unset] [(.ref sa15), (.int (3 : Int32)), (.ref b1), (.ref b1)])) _
    refine st18 _ ?_
    show Steps p.tables e below (T18.setTop (mkF m 42 #[.val (.int p0), .val (.int p1), .val (.int (Int32.ofNat nn)), .val (.int (1 : Int32)), .unset, .unset, .unset, .unset, .unset, .unset] [(.ref b1)])) _
    refine XS.dup X18.here hx rfl (hb hby at_42) rfl rfl ?_
    show Steps p.tables e below (T18.setTop (mkF m 43 #[.val (.int p0), .val (.int p1), .val (.int (Int32.ofNat nn)), .val (.int (1 : Int32)), .unset, .unset, .unset, .unset, .unset, .unset] [(.ref b1), (.ref b1)])) _
    refine XS.iconst X18.here hx rfl (hb hby at_43) ?_
    show Steps p.tables e below (T18.setTop (mkF m 44 #[.val (.int p0), .val (.int p1), .val (.int (Int32.ofNat nn)), .val (.int (1 : Int32)), .unset, .unset, .unset, .unset, .unset, .unset] [(.int (4 : Int32)), (.ref b1), (.ref b1)])) _
    refine st19 _ ?_
    show Steps p.tables e below (T19.setTop (mkF m 46 #[.val (.int p0), .val (.int p1), .val (.int (Int32.ofNat nn)), .val (.int (1 : Int32)), .unset, .unset, .unset, .unset, .unset, .unset] [(.ref sa19), (.int (4 : Int32)), (.ref b1), (.ref b1)])) _
    refine st22 _ ?_
    show Steps p.tables e below (T22.setTop (mkF m 47 #[.val (.int p0), .val (.int p1), .val (.int (Int32.ofNat nn)), .val (.int (1 : Int32)), .unset, .unset, .unset, .unset, .unset, .unset] [(.ref b1)])) _
    refine XS.dup X22.here hx rfl (hb hby at_47) rfl rfl ?_
    show Steps p.tables e below (T22.setTop (mkF m 48 #[.val (.int p0), .val (.int p1), .val (.int (Int32.ofNat nn)), .val (.int (1 : Int32)), .unset, .unset, .unset, .unset, .unset, .unset] [(.ref b1), (.ref b1)])) _
    refine XS.iconst X22.here hx rfl (hb hby at_48) ?_
    show Steps p.tables e below (T22.setTop (mkF m 49 #[.val (.int p0), .val (.int p1), .val (.int (Int32.ofNat nn)), .val (.int (1 : Int32)), .unset, .unset, .unset, .unset, .unset, .unset] [(.int (5 : Int32)), (.ref b1), (.ref b1)])) _
    refine st23 _ ?_
    show Steps p.tables e below (T23.setTop (mkF m 51 #[.val (.int p0), .val (.int p1), .val (.int (Int32.ofNat nn)), .val (.int (1 : Int32)), .unset, .unset, .unset, .unset, .unset, .unset] [(.ref sa23), (.int (5 : Int32)), (.ref b1), (.ref b1)])) _
    refine st26 _ ?_
    show Steps p.tables e below (T26.setTop (mkF m 52 #[.val (.int p0), .val (.int p1), .val (.int (Int32.ofNat nn)), .val (.int (1 : Int32)), .unset, .unset, .unset, .unset, .unset, .unset] [(.ref b1)])) _
    refine XS.dup X26.here hx rfl (hb hby at_52) rfl rfl ?_
    show Steps p.tables e below (T26.setTop (mkF m 53 #[.val (.int p0), .val (.int p1), .val (.int (Int32.ofNat nn)), .val (.int (1 : Int32)), .unset, .unset, .unset, .unset, .unset, .unset] [(.ref b1), (.ref b1)])) _
    refine XS.bipush X26.here hx rfl (hb hby at_53) ?_
    show Steps p.tables e below (T26.setTop (mkF m 55 #[.val (.int p0), .val (.int p1), .val (.int (Int32.ofNat nn)), .val (.int (1 : Int32)), .unset, .unset, .unset, .unset, .unset, .unset] [(.int (6 : Int32)), (.ref b1), (.ref b1)])) _
    refine st27 _ ?_
    show Steps p.tables e below (T27.setTop (mkF m 57 #[.val (.int p0), .val (.int p1), .val (.int (Int32.ofNat nn)), .val (.int (1 : Int32)), .unset, .unset, .unset, .unset, .unset, .unset] [(.ref sa27), (.int (6 : Int32)), (.ref b1), (.ref b1)])) _
    refine st30 _ ?_
    show Steps p.tables e below (T30.setTop (mkF m 58 #[.val (.int p0), .val (.int p1), .val (.int (Int32.ofNat nn)), .val (.int (1 : Int32)), .unset, .unset, .unset, .unset, .unset, .unset] [(.ref b1)])) _
    refine XS.dup X30.here hx rfl (hb hby at_58) rfl rfl ?_
    show Steps p.tables e below (T30.setTop (mkF m 59 #[.val (.int p0), .val (.int p1), .val (.int (Int32.ofNat nn)), .val (.int (1 : Int32)), .unset, .unset, .unset, .unset, .unset, .unset] [(.ref b1), (.ref b1)])) _
    refine XS.bipush X30.here hx rfl (hb hby at_59) ?_
    show Steps p.tables e below (T30.setTop (mkF m 61 #[.val (.int p0), .val (.int p1), .val (.int (Int32.ofNat nn)), .val (.int (1 : Int32)), .unset, .unset, .unset, .unset, .unset, .unset] [(.int (7 : Int32)), (.ref b1), (.ref b1)])) _
    refine st31 _ ?_
    show Steps p.tables e below (T31.setTop (mkF m 63 #[.val (.int p0), .val (.int p1), .val (.int (Int32.ofNat nn)), .val (.int (1 : Int32)), .unset, .unset, .unset, .unset, .unset, .unset] [(.ref sa31), (.int (7 : Int32)), (.ref b1), (.ref b1)])) _
    refine st34 _ ?_
    show Steps p.tables e below (T34.setTop (mkF m 64 #[.val (.int p0), .val (.int p1), .val (.int (Int32.ofNat nn)), .val (.int (1 : Int32)), .unset, .unset, .unset, .unset, .unset, .unset] [(.ref b1)])) _
    refine XS.dup X34.here hx rfl (hb hby at_64) rfl rfl ?_
    show Steps p.tables e below (T34.setTop (mkF m 65 #[.val (.int p0), .val (.int p1), .val (.int (Int32.ofNat nn)), .val (.int (1 : Int32)), .unset, .unset, .unset, .unset, .unset, .unset] [(.ref b1), (.ref b1)])) _
    refine XS.bipush X34.here hx rfl (hb hby at_65) ?_
    show Steps p.tables e below (T34.setTop (mkF m 67 #[.val (.int p0), .val (.int p1), .val (.int (Int32.ofNat nn)), .val (.int (1 : Int32)), .unset, .unset, .unset, .unset, .unset, .unset] [(.int (8 : Int32)), (.ref b1), (.ref b1)])) _
    refine st35 _ ?_
    show Steps p.tables e below (T35.setTop (mkF m 69 #[.val (.int p0), .val (.int p1), .val (.int (Int32.ofNat nn)), .val (.int (1 : Int32)), .unset, .unset, .unset, .unset, .unset, .unset] [(.ref sa35), (.int (8 : Int32)), (.ref b1), (.ref b1)])) _
    refine st38 _ ?_
    show Steps p.tables e below (T38.setTop (mkF m 70 #[.val (.int p0), .val (.int p1), .val (.int (Int32.ofNat nn)), .val (.int (1 : Int32)), .unset, .unset, .unset, .unset, .unset, .unset] [(.ref b1)])) _
    refine XS.dup X38.here hx rfl (hb hby at_70) rfl rfl ?_
    show Steps p.tables e below (T38.setTop (mkF m 71 #[.val (.int p0), .val (.int p1), .val (.int (Int32.ofNat nn)), .val (.int (1 : Int32)), .unset, .unset, .unset, .unset, .unset, .unset] [(.ref b1), (.ref b1)])) _
    refine XS.bipush X38.here hx rfl (hb hby at_71) ?_
    show Steps p.tables e below (T38.setTop (mkF m 73 #[.val (.int p0), .val (.int p1), .val (.int (Int32.ofNat nn)), .val (.int (1 : Int32)), .unset, .unset, .unset, .unset, .unset, .unset] [(.int (9 : Int32)), (.ref b1), (.ref b1)])) _
    refine st39 _ ?_
    show Steps p.tables e below (T39.setTop (mkF m 75 #[.val (.int p0), .val (.int p1), .val (.int (Int32.ofNat nn)), .val (.int (1 : Int32)), .unset, .unset, .unset, .unset, .unset, .unset] [(.ref sa39), (.int (9 : Int32)), (.ref b1), (.ref b1)])) _
    refine st42 _ ?_
    show Steps p.tables e below (T42.setTop (mkF m 76 #[.val (.int p0), .val (.int p1), .val (.int (Int32.ofNat nn)), .val (.int (1 : Int32)), .unset, .unset, .unset, .unset, .unset, .unset] [(.ref b1)])) _
    refine XS.dup X42.here hx rfl (hb hby at_76) rfl rfl ?_
    show Steps p.tables e below (T42.setTop (mkF m 77 #[.val (.int p0), .val (.int p1), .val (.int (Int32.ofNat nn)), .val (.int (1 : Int32)), .unset, .unset, .unset, .unset, .unset, .unset] [(.ref b1), (.ref b1)])) _
    refine XS.bipush X42.here hx rfl (hb hby at_77) ?_
    show Steps p.tables e below (T42.setTop (mkF m 79 #[.val (.int p0), .val (.int p1), .val (.int (Int32.ofNat nn)), .val (.int (1 : Int32)), .unset, .unset, .unset, .unset, .unset, .unset] [(.int (10 : Int32)), (.ref b1), (.ref b1)])) _
    refine st43 _ ?_
    show Steps p.tables e below (T43.setTop (mkF m 81 #[.val (.int p0), .val (.int p1), .val (.int (Int32.ofNat nn)), .val (.int (1 : Int32)), .unset, .unset, .unset, .unset, .unset, .unset] [(.ref sa43), (.int (10 : Int32)), (.ref b1), (.ref b1)])) _
    refine st46 _ ?_
    show Steps p.tables e below (T46.setTop (mkF m 82 #[.val (.int p0), .val (.int p1), .val (.int (Int32.ofNat nn)), .val (.int (1 : Int32)), .unset, .unset, .unset, .unset, .unset, .unset] [(.ref b1)])) _
    refine XS.dup X46.here hx rfl (hb hby at_82) rfl rfl ?_
    show Steps p.tables e below (T46.setTop (mkF m 83 #[.val (.int p0), .val (.int p1), .val (.int (Int32.ofNat nn)), .val (.int (1 : Int32)), .unset, .unset, .unset, .unset, .unset, .unset] [(.ref b1), (.ref b1)])) _
    refine XS.bipush X46.here hx rfl (hb hby at_83) ?_
    show Steps p.tables e below (T46.setTop (mkF m 85 #[.val (.int p0), .val (.int p1), .val (.int (Int32.ofNat nn)), .val (.int (1 : Int32)), .unset, .unset, .unset, .unset, .unset, .unset] [(.int (11 : Int32)), (.ref b1), (.ref b1)])) _
    refine st47 _ ?_
    show Steps p.tables e below (T47.setTop (mkF m 87 #[.val (.int p0), .val (.int p1), .val (.int (Int32.ofNat nn)), .val (.int (1 : Int32)), .unset, .unset, .unset, .unset, .unset, .unset] [(.ref sa47), (.int (11 : Int32)), (.ref b1), (.ref b1)])) _
    refine st50 _ ?_
    show Steps p.tables e below (T50.setTop (mkF m 88 #[.val (.int p0), .val (.int p1), .val (.int (Int32.ofNat nn)), .val (.int (1 : Int32)), .unset, .unset, .unset, .unset, .unset, .unset] [(.ref b1)])) _
    refine XS.dup X50.here hx rfl (hb hby at_88) rfl rfl ?_
    show Steps p.tables e below (T50.setTop (mkF m 89 #[.val (.int p0), .val (.int p1), .val (.int (Int32.ofNat nn)), .val (.int (1 : Int32)), .unset, .unset, .unset, .unset, .unset, .unset] [(.ref b1), (.ref b1)])) _
    refine XS.bipush X50.here hx rfl (hb hby at_89) ?_
    show Steps p.tables e below (T50.setTop (mkF m 91 #[.val (.int p0), .val (.int p1), .val (.int (Int32.ofNat nn)), .val (.int (1 : Int32)), .unset, .unset, .unset, .unset, .unset, .unset] [(.int (12 : Int32)), (.ref b1), (.ref b1)])) _
    refine st51 _ ?_
    show Steps p.tables e below (T51.setTop (mkF m 93 #[.val (.int p0), .val (.int p1), .val (.int (Int32.ofNat nn)), .val (.int (1 : Int32)), .unset, .unset, .unset, .unset, .unset, .unset] [(.ref sa51), (.int (12 : Int32)), (.ref b1), (.ref b1)])) _
    refine st54 _ ?_
    show Steps p.tables e below (T54.setTop (mkF m 94 #[.val (.int p0), .val (.int p1), .val (.int (Int32.ofNat nn)), .val (.int (1 : Int32)), .unset, .unset, .unset, .unset, .unset, .unset] [(.ref b1)])) _
    refine XS.dup X54.here hx rfl (hb hby at_94) rfl rfl ?_
    show Steps p.tables e below (T54.setTop (mkF m 95 #[.val (.int p0), .val (.int p1), .val (.int (Int32.ofNat nn)), .val (.int (1 : Int32)), .unset, .unset, .unset, .unset, .unset, .unset] [(.ref b1), (.ref b1)])) _
    refine XS.bipush X54.here hx rfl (hb hby at_95) ?_
    show Steps p.tables e below (T54.setTop (mkF m 97 #[.val (.int p0), .val (.int p1), .val (.int (Int32.ofNat nn)), .val (.int (1 : Int32)), .unset, .unset, .unset, .unset, .unset, .unset] [(.int (13 : Int32)), (.ref b1), (.ref b1)])) _
    refine st55 _ ?_
    show Steps p.tables e below (T55.setTop (mkF m 99 #[.val (.int p0), .val (.int p1), .val (.int (Int32.ofNat nn)), .val (.int (1 : Int32)), .unset, .unset, .unset, .unset, .unset, .unset] [(.ref sa55), (.int (13 : Int32)), (.ref b1), (.ref b1)])) _
    refine st58 _ ?_
    show Steps p.tables e below (T58.setTop (mkF m 100 #[.val (.int p0), .val (.int p1), .val (.int (Int32.ofNat nn)), .val (.int (1 : Int32)), .unset, .unset, .unset, .unset, .unset, .unset] [(.ref b1)])) _
    refine XS.dup X58.here hx rfl (hb hby at_100) rfl rfl ?_
    show Steps p.tables e below (T58.setTop (mkF m 101 #[.val (.int p0), .val (.int p1), .val (.int (Int32.ofNat nn)), .val (.int (1 : Int32)), .unset, .unset, .unset, .unset, .unset, .unset] [(.ref b1), (.ref b1)])) _
    refine XS.bipush X58.here hx rfl (hb hby at_101) ?_
    show Steps p.tables e below (T58.setTop (mkF m 103 #[.val (.int p0), .val (.int p1), .val (.int (Int32.ofNat nn)), .val (.int (1 : Int32)), .unset, .unset, .unset, .unset, .unset, .unset] [(.int (14 : Int32)), (.ref b1), (.ref b1)])) _
    refine st59 _ ?_
    show Steps p.tables e below (T59.setTop (mkF m 105 #[.val (.int p0), .val (.int p1), .val (.int (Int32.ofNat nn)), .val (.int (1 : Int32)), .unset, .unset, .unset, .unset, .unset, .unset] [(.ref sa59), (.int (14 : Int32)), (.ref b1), (.ref b1)])) _
    refine st62 _ ?_
    show Steps p.tables e below (T62.setTop (mkF m 106 #[.val (.int p0), .val (.int p1), .val (.int (Int32.ofNat nn)), .val (.int (1 : Int32)), .unset, .unset, .unset, .unset, .unset, .unset] [(.ref b1)])) _
    refine XS.dup X62.here hx rfl (hb hby at_106) rfl rfl ?_
    show Steps p.tables e below (T62.setTop (mkF m 107 #[.val (.int p0), .val (.int p1), .val (.int (Int32.ofNat nn)), .val (.int (1 : Int32)), .unset, .unset, .unset, .unset, .unset, .unset] [(.ref b1), (.ref b1)])) _
    refine XS.bipush X62.here hx rfl (hb hby at_107) ?_
    show Steps p.tables e below (T62.setTop (mkF m 109 #[.val (.int p0), .val (.int p1), .val (.int (Int32.ofNat nn)), .val (.int (1 : Int32)), .unset, .unset, .unset, .unset, .unset, .unset] [(.int (15 : Int32)), (.ref b1), (.ref b1)])) _
    refine st63 _ ?_
    show Steps p.tables e below (T63.setTop (mkF m 111 #[.val (.int p0), .val (.int p1), .val (.int (Int32.ofNat nn)), .val (.int (1 : Int32)), .unset, .unset, .unset, .unset, .unset, .unset] [(.ref sa63), (.int (15 : Int32)), (.ref b1), (.ref b1)])) _
    refine st66 _ ?_
    show Steps p.tables e below (T66.setTop (mkF m 112 #[.val (.int p0), .val (.int p1), .val (.int (Int32.ofNat nn)), .val (.int (1 : Int32)), .unset, .unset, .unset, .unset, .unset, .unset] [(.ref b1)])) _
    refine XS.astore X66.here hx rfl (hb hby at_112) rfl rfl (l' := #[.val (.int p0), .val (.int p1), .val (.int (Int32.ofNat nn)), .val (.int (1 : Int32)), .val (.ref b1), .unset, .unset, .unset, .unset, .unset]) rfl ?_
    show Steps p.tables e below (T66.setTop (mkF m 114 #[.val (.int p0), .val (.int p1), .val (.int (Int32.ofNat nn)), .val (.int (1 : Int32)), .val (.ref b1), .unset, .unset, .unset, .unset, .unset] [])) _
    refine XS.bipush X66.here hx rfl (hb hby at_114) ?_
    show Steps p.tables e below (T66.setTop (mkF m 116 #[.val (.int p0), .val (.int p1), .val (.int (Int32.ofNat nn)), .val (.int (1 : Int32)), .val (.ref b1), .unset, .unset, .unset, .unset, .unset] [(.int (16 : Int32))])) _
    refine st67 _ ?_
    show Steps p.tables e below (T67.setTop (mkF m 119 #[.val (.int p0), .val (.int p1), .val (.int (Int32.ofNat nn)), .val (.int (1 : Int32)), .val (.ref b1), .unset, .unset, .unset, .unset, .unset] [(.ref b67)])) _
    refine XS.dup X67.here hx rfl (hb hby at_119) rfl rfl ?_
    show Steps p.tables e below (T67.setTop (mkF m 120 #[.val (.int p0), .val (.int p1), .val (.int (Int32.ofNat nn)), .val (.int (1 : Int32)), .val (.ref b1), .unset, .unset, .unset, .unset, .unset] [(.ref b67), (.ref b67)])) _
    refine XS.iconst X67.here hx rfl (hb hby at_120) ?_
    show Steps p.tables e below (T67.setTop (mkF m 121 #[.val (.int p0), .val (.int p1), .val (.int (Int32.ofNat nn)), .val (.int (1 : Int32)), .val (.ref b1), .unset, .unset, .unset, .unset, .unset] [(.int (0 : Int32)), (.ref b67), (.ref b67)])) _
    refine st69 _ ?_
    show Steps p.tables e below (T69.setTop (mkF m 123 #[.val (.int p0), .val (.int p1), .val (.int (Int32.ofNat nn)), .val (.int (1 : Int32)), .val (.ref b1), .unset, .unset, .unset, .unset, .unset] [(.ref sa69), (.int (0 : Int32)), (.ref b67), (.ref b67)])) _
    refine st72 _ ?_
    show Steps p.tables e below (T72.setTop (mkF m 124 #[.val (.int p0), .val (.int p1), .val (.int (Int32.ofNat nn)), .val (.int (1 : Int32)), .val (.ref b1), .unset, .unset, .unset, .unset, .unset] [(.ref b67)])) _
    refine XS.dup X72.here hx rfl (hb hby at_124) rfl rfl ?_
    show Steps p.tables e below (T72.setTop (mkF m 125 #[.val (.int p0), .val (.int p1), .val (.int (Int32.ofNat nn)), .val (.int (1 : Int32)), .val (.ref b1), .unset, .unset, .unset, .unset, .unset] [(.ref b67), (.ref b67)])) _
    refine XS.iconst X72.here hx rfl (hb hby at_125) ?_
    show Steps p.tables e below (T72.setTop (mkF m 126 #[.val (.int p0), .val (.int p1), .val (.int (Int32.ofNat nn)), .val (.int (1 : Int32)), .val (.ref b1), .unset, .unset, .unset, .unset, .unset] [(.int (1 : Int32)), (.ref b67), (.ref b67)])) _
    refine st73 _ ?_
    show Steps p.tables e below (T73.setTop (mkF m 128 #[.val (.int p0), .val (.int p1), .val (.int (Int32.ofNat nn)), .val (.int (1 : Int32)), .val (.ref b1), .unset, .unset, .unset, .unset, .unset] [(.ref sa73), (.int (1 : Int32)), (.ref b67), (.ref b67)])) _
    refine st76 _ ?_
    show Steps p.tables e below (T76.setTop (mkF m 129 #[.val (.int p0), .val (.int p1), .val (.int (Int32.ofNat nn)), .val (.int (1 : Int32)), .val (.ref b1), .unset, .unset, .unset, .unset, .unset] [(.ref b67)])) _
    refine XS.dup X76.here hx rfl (hb hby at_129) rfl rfl ?_
    show Steps p.tables e below (T76.setTop (mkF m 130 #[.val (.int p0), .val (.int p1), .val (.int (Int32.ofNat nn)), .val (.int (1 : Int32)), .val (.ref b1), .unset, .unset, .unset, .unset, .unset] [(.ref b67), (.ref b67)])) _
    refine XS.iconst X76.here hx rfl (hb hby at_130) ?_
    show Steps p.tables e below (T76.setTop (mkF m 131 #[.val (.int p0), .val (.int p1), .val (.int (Int32.ofNat nn)), .val (.int (1 : Int32)), .val (.ref b1), .unset, .unset, .unset, .unset, .unset] [(.int (2 : Int32)), (.ref b67), (.ref b67)])) _
    refine st77 _ ?_
    show Steps p.tables e below (T77.setTop (mkF m 133 #[.val (.int p0), .val (.int p1), .val (.int (Int32.ofNat nn)), .val (.int (1 : Int32)), .val (.ref b1), .unset, .unset, .unset, .unset, .unset] [(.ref sa77), (.int (2 : Int32)), (.ref b67), (.ref b67)])) _
    refine st80 _ ?_
    show Steps p.tables e below (T80.setTop (mkF m 134 #[.val (.int p0), .val (.int p1), .val (.int (Int32.ofNat nn)), .val (.int (1 : Int32)), .val (.ref b1), .unset, .unset, .unset, .unset, .unset] [(.ref b67)])) _
    refine XS.dup X80.here hx rfl (hb hby at_134) rfl rfl ?_
    show Steps p.tables e below (T80.setTop (mkF m 135 #[.val (.int p0), .val (.int p1), .val (.int (Int32.ofNat nn)), .val (.int (1 : Int32)), .val (.ref b1), .unset, .unset, .unset, .unset, .unset] [(.ref b67), (.ref b67)])) _
    refine XS.iconst X80.here hx rfl (hb hby at_135) ?_
    show Steps p.tables e below (T80.setTop (mkF m 136 #[.val (.int p0), .val (.int p1), .val (.int (Int32.ofNat nn)), .val (.int (1 : Int32)), .val (.ref b1), .unset, .unset, .unset, .unset, .unset] [(.int (3 : Int32)), (.ref b67), (.ref b67)])) _
    refine st81 _ ?_
    show Steps p.tables e below (T81.setTop (mkF m 138 #[.val (.int p0), .val (.int p1), .val (.int (Int32.ofNat nn)), .val (.int (1 : Int32)), .val (.ref b1), .unset, .unset, .unset, .unset, .unset] [(.ref sa81), (.int (3 : Int32)), (.ref b67), (.ref b67)])) _
    refine st84 _ ?_
    show Steps p.tables e below (T84.setTop (mkF m 139 #[.val (.int p0), .val (.int p1), .val (.int (Int32.ofNat nn)), .val (.int (1 : Int32)), .val (.ref b1), .unset, .unset, .unset, .unset, .unset] [(.ref b67)])) _
    refine XS.dup X84.here hx rfl (hb hby at_139) rfl rfl ?_
    show Steps p.tables e below (T84.setTop (mkF m 140 #[.val (.int p0), .val (.int p1), .val (.int (Int32.ofNat nn)), .val (.int (1 : Int32)), .val (.ref b1), .unset, .unset, .unset, .unset, .unset] [(.ref b67), (.ref b67)])) _
    refine XS.iconst X84.here hx rfl (hb hby at_140) ?_
    show Steps p.tables e below (T84.setTop (mkF m 141 #[.val (.int p0), .val (.int p1), .val (.int (Int32.ofNat nn)), .val (.int (1 : Int32)), .val (.ref b1), .unset, .unset, .unset, .unset, .unset] [(.int (4 : Int32)), (.ref b67), (.ref b67)])) _
    refine st85 _ ?_
    show Steps p.tables e below (T85.setTop (mkF m 143 #[.val (.int p0), .val (.int p1), .val (.int (Int32.ofNat nn)), .val (.int (1 : Int32)), .val (.ref b1), .unset, .unset, .unset, .unset, .unset] [(.ref sa85), (.int (4 : Int32)), (.ref b67), (.ref b67)])) _
    refine st88 _ ?_
    show Steps p.tables e below (T88.setTop (mkF m 144 #[.val (.int p0), .val (.int p1), .val (.int (Int32.ofNat nn)), .val (.int (1 : Int32)), .val (.ref b1), .unset, .unset, .unset, .unset, .unset] [(.ref b67)])) _
    refine XS.dup X88.here hx rfl (hb hby at_144) rfl rfl ?_
    show Steps p.tables e below (T88.setTop (mkF m 145 #[.val (.int p0), .val (.int p1), .val (.int (Int32.ofNat nn)), .val (.int (1 : Int32)), .val (.ref b1), .unset, .unset, .unset, .unset, .unset] [(.ref b67), (.ref b67)])) _
    refine XS.iconst X88.here hx rfl (hb hby at_145) ?_
    show Steps p.tables e below (T88.setTop (mkF m 146 #[.val (.int p0), .val (.int p1), .val (.int (Int32.ofNat nn)), .val (.int (1 : Int32)), .val (.ref b1), .unset, .unset, .unset, .unset, .unset] [(.int (5 : Int32)), (.ref b67), (.ref b67)])) _
    refine st89 _ ?_
    show Steps p.tables e below (T89.setTop (mkF m 148 #[.val (.int p0), .val (.int p1), .val (.int (Int32.ofNat nn)), .val (.int (1 : Int32)), .val (.ref b1), .unset, .unset, .unset, .unset, .unset] [(.ref sa89), (.int (5 : Int32)), (.ref b67), (.ref b67)])) _
    refine st92 _ ?_
    show Steps p.tables e below (T92.setTop (mkF m 149 #[.val (.int p0), .val (.int p1), .val (.int (Int32.ofNat nn)), .val (.int (1 : Int32)), .val (.ref b1), .unset, .unset, .unset, .unset, .unset] [(.ref b67)])) _
    refine XS.dup X92.here hx rfl (hb hby at_149) rfl rfl ?_
    show Steps p.tables e below (T92.setTop (mkF m 150 #[.val (.int p0), .val (.int p1), .val (.int (Int32.ofNat nn)), .val (.int (1 : Int32)), .val (.ref b1), .unset, .unset, .unset, .unset, .unset] [(.ref b67), (.ref b67)])) _
    refine XS.bipush X92.here hx rfl (hb hby at_150) ?_
    show Steps p.tables e below (T92.setTop (mkF m 152 #[.val (.int p0), .val (.int p1), .val (.int (Int32.ofNat nn)), .val (.int (1 : Int32)), .val (.ref b1), .unset, .unset, .unset, .unset, .unset] [(.int (6 : Int32)), (.ref b67), (.ref b67)])) _
    refine st93 _ ?_
    show Steps p.tables e below (T93.setTop (mkF m 154 #[.val (.int p0), .val (.int p1), .val (.int (Int32.ofNat nn)), .val (.int (1 : Int32)), .val (.ref b1), .unset, .unset, .unset, .unset, .unset] [(.ref sa93), (.int (6 : Int32)), (.ref b67), (.ref b67)])) _
    refine st96 _ ?_
    show Steps p.tables e below (T96.setTop (mkF m 155 #[.val (.int p0), .val (.int p1), .val (.int (Int32.ofNat nn)), .val (.int (1 : Int32)), .val (.ref b1), .unset, .unset, .unset, .unset, .unset] [(.ref b67)])) _
    refine XS.dup X96.here hx rfl (hb hby at_155) rfl rfl ?_
    show Steps p.tables e below (T96.setTop (mkF m 156 #[.val (.int p0), .val (.int p1), .val (.int (Int32.ofNat nn)), .val (.int (1 : Int32)), .val (.ref b1), .unset, .unset, .unset, .unset, .unset] [(.ref b67), (.ref b67)])) _
    refine XS.bipush X96.here hx rfl (hb hby at_156) ?_
    show Steps p.tables e below (T96.setTop (mkF m 158 #[.val (.int p0), .val (.int p1), .val (.int (Int32.ofNat nn)), .val (.int (1 : Int32)), .val (.ref b1), .unset, .unset, .unset, .unset, .unset] [(.int (7 : Int32)), (.ref b67), (.ref b67)])) _
    refine st97 _ ?_
    show Steps p.tables e below (T97.setTop (mkF m 160 #[.val (.int p0), .val (.int p1), .val (.int (Int32.ofNat nn)), .val (.int (1 : Int32)), .val (.ref b1), .unset, .unset, .unset, .unset, .unset] [(.ref sa97), (.int (7 : Int32)), (.ref b67), (.ref b67)])) _
    refine st100 _ ?_
    show Steps p.tables e below (T100.setTop (mkF m 161 #[.val (.int p0), .val (.int p1), .val (.int (Int32.ofNat nn)), .val (.int (1 : Int32)), .val (.ref b1), .unset, .unset, .unset, .unset, .unset] [(.ref b67)])) _
    refine XS.dup X100.here hx rfl (hb hby at_161) rfl rfl ?_
    show Steps p.tables e below (T100.setTop (mkF m 162 #[.val (.int p0), .val (.int p1), .val (.int (Int32.ofNat nn)), .val (.int (1 : Int32)), .val (.ref b1), .unset, .unset, .unset, .unset, .unset] [(.ref b67), (.ref b67)])) _
    refine XS.bipush X100.here hx rfl (hb hby at_162) ?_
    show Steps p.tables e below (T100.setTop (mkF m 164 #[.val (.int p0), .val (.int p1), .val (.int (Int32.ofNat nn)), .val (.int (1 : Int32)), .val (.ref b1), .unset, .unset, .unset, .unset, .unset] [(.int (8 : Int32)), (.ref b67), (.ref b67)])) _
    refine st101 _ ?_
    show Steps p.tables e below (T101.setTop (mkF m 166 #[.val (.int p0), .val (.int p1), .val (.int (Int32.ofNat nn)), .val (.int (1 : Int32)), .val (.ref b1), .unset, .unset, .unset, .unset, .unset] [(.ref sa101), (.int (8 : Int32)), (.ref b67), (.ref b67)])) _
    refine st104 _ ?_
    show Steps p.tables e below (T104.setTop (mkF m 167 #[.val (.int p0), .val (.int p1), .val (.int (Int32.ofNat nn)), .val (.int (1 : Int32)), .val (.ref b1), .unset, .unset, .unset, .unset, .unset] [(.ref b67)])) _
    refine XS.dup X104.here hx rfl (hb hby at_167) rfl rfl ?_
    show Steps p.tables e below (T104.setTop (mkF m 168 #[.val (.int p0), .val (.int p1), .val (.int (Int32.ofNat nn)), .val (.int (1 : Int32)), .val (.ref b1), .unset, .unset, .unset, .unset, .unset] [(.ref b67), (.ref b67)])) _
    refine XS.bipush X104.here hx rfl (hb hby at_168) ?_
    show Steps p.tables e below (T104.setTop (mkF m 170 #[.val (.int p0), .val (.int p1), .val (.int (Int32.ofNat nn)), .val (.int (1 : Int32)), .val (.ref b1), .unset, .unset, .unset, .unset, .unset] [(.int (9 : Int32)), (.ref b67), (.ref b67)])) _
    refine st105 _ ?_
    show Steps p.tables e below (T105.setTop (mkF m 172 #[.val (.int p0), .val (.int p1), .val (.int (Int32.ofNat nn)), .val (.int (1 : Int32)), .val (.ref b1), .unset, .unset, .unset, .unset, .unset] [(.ref sa105), (.int (9 : Int32)), (.ref b67), (.ref b67)])) _
    refine st108 _ ?_
    show Steps p.tables e below (T108.setTop (mkF m 173 #[.val (.int p0), .val (.int p1), .val (.int (Int32.ofNat nn)), .val (.int (1 : Int32)), .val (.ref b1), .unset, .unset, .unset, .unset, .unset] [(.ref b67)])) _
    refine XS.dup X108.here hx rfl (hb hby at_173) rfl rfl ?_
    show Steps p.tables e below (T108.setTop (mkF m 174 #[.val (.int p0), .val (.int p1), .val (.int (Int32.ofNat nn)), .val (.int (1 : Int32)), .val (.ref b1), .unset, .unset, .unset, .unset, .unset] [(.ref b67), (.ref b67)])) _
    refine XS.bipush X108.here hx rfl (hb hby at_174) ?_
    show Steps p.tables e below (T108.setTop (mkF m 176 #[.val (.int p0), .val (.int p1), .val (.int (Int32.ofNat nn)), .val (.int (1 : Int32)), .val (.ref b1), .unset, .unset, .unset, .unset, .unset] [(.int (10 : Int32)), (.ref b67), (.ref b67)])) _
    refine st109 _ ?_
    show Steps p.tables e below (T109.setTop (mkF m 178 #[.val (.int p0), .val (.int p1), .val (.int (Int32.ofNat nn)), .val (.int (1 : Int32)), .val (.ref b1), .unset, .unset, .unset, .unset, .unset] [(.ref sa109), (.int (10 : Int32)), (.ref b67), (.ref b67)])) _
    refine st112 _ ?_
    show Steps p.tables e below (T112.setTop (mkF m 179 #[.val (.int p0), .val (.int p1), .val (.int (Int32.ofNat nn)), .val (.int (1 : Int32)), .val (.ref b1), .unset, .unset, .unset, .unset, .unset] [(.ref b67)])) _
    refine XS.dup X112.here hx rfl (hb hby at_179) rfl rfl ?_
    show Steps p.tables e below (T112.setTop (mkF m 180 #[.val (.int p0), .val (.int p1), .val (.int (Int32.ofNat nn)), .val (.int (1 : Int32)), .val (.ref b1), .unset, .unset, .unset, .unset, .unset] [(.ref b67), (.ref b67)])) _
    refine XS.bipush X112.here hx rfl (hb hby at_180) ?_
    show Steps p.tables e below (T112.setTop (mkF m 182 #[.val (.int p0), .val (.int p1), .val (.int (Int32.ofNat nn)), .val (.int (1 : Int32)), .val (.ref b1), .unset, .unset, .unset, .unset, .unset] [(.int (11 : Int32)), (.ref b67), (.ref b67)])) _
    refine st113 _ ?_
    show Steps p.tables e below (T113.setTop (mkF m 184 #[.val (.int p0), .val (.int p1), .val (.int (Int32.ofNat nn)), .val (.int (1 : Int32)), .val (.ref b1), .unset, .unset, .unset, .unset, .unset] [(.ref sa113), (.int (11 : Int32)), (.ref b67), (.ref b67)])) _
    refine st116 _ ?_
    show Steps p.tables e below (T116.setTop (mkF m 185 #[.val (.int p0), .val (.int p1), .val (.int (Int32.ofNat nn)), .val (.int (1 : Int32)), .val (.ref b1), .unset, .unset, .unset, .unset, .unset] [(.ref b67)])) _
    refine XS.dup X116.here hx rfl (hb hby at_185) rfl rfl ?_
    show Steps p.tables e below (T116.setTop (mkF m 186 #[.val (.int p0), .val (.int p1), .val (.int (Int32.ofNat nn)), .val (.int (1 : Int32)), .val (.ref b1), .unset, .unset, .unset, .unset, .unset] [(.ref b67), (.ref b67)])) _
    refine XS.bipush X116.here hx rfl (hb hby at_186) ?_
    show Steps p.tables e below (T116.setTop (mkF m 188 #[.val (.int p0), .val (.int p1), .val (.int (Int32.ofNat nn)), .val (.int (1 : Int32)), .val (.ref b1), .unset, .unset, .unset, .unset, .unset] [(.int (12 : Int32)), (.ref b67), (.ref b67)])) _
    refine st117 _ ?_
    show Steps p.tables e below (T117.setTop (mkF m 190 #[.val (.int p0), .val (.int p1), .val (.int (Int32.ofNat nn)), .val (.int (1 : Int32)), .val (.ref b1), .unset, .unset, .unset, .unset, .unset] [(.ref sa117), (.int (12 : Int32)), (.ref b67), (.ref b67)])) _
    refine st120 _ ?_
    show Steps p.tables e below (T120.setTop (mkF m 191 #[.val (.int p0), .val (.int p1), .val (.int (Int32.ofNat nn)), .val (.int (1 : Int32)), .val (.ref b1), .unset, .unset, .unset, .unset, .unset] [(.ref b67)])) _
    refine XS.dup X120.here hx rfl (hb hby at_191) rfl rfl ?_
    show Steps p.tables e below (T120.setTop (mkF m 192 #[.val (.int p0), .val (.int p1), .val (.int (Int32.ofNat nn)), .val (.int (1 : Int32)), .val (.ref b1), .unset, .unset, .unset, .unset, .unset] [(.ref b67), (.ref b67)])) _
    refine XS.bipush X120.here hx rfl (hb hby at_192) ?_
    show Steps p.tables e below (T120.setTop (mkF m 194 #[.val (.int p0), .val (.int p1), .val (.int (Int32.ofNat nn)), .val (.int (1 : Int32)), .val (.ref b1), .unset, .unset, .unset, .unset, .unset] [(.int (13 : Int32)), (.ref b67), (.ref b67)])) _
    refine st121 _ ?_
    show Steps p.tables e below (T121.setTop (mkF m 196 #[.val (.int p0), .val (.int p1), .val (.int (Int32.ofNat nn)), .val (.int (1 : Int32)), .val (.ref b1), .unset, .unset, .unset, .unset, .unset] [(.ref sa121), (.int (13 : Int32)), (.ref b67), (.ref b67)])) _
    refine st124 _ ?_
    show Steps p.tables e below (T124.setTop (mkF m 197 #[.val (.int p0), .val (.int p1), .val (.int (Int32.ofNat nn)), .val (.int (1 : Int32)), .val (.ref b1), .unset, .unset, .unset, .unset, .unset] [(.ref b67)])) _
    refine XS.dup X124.here hx rfl (hb hby at_197) rfl rfl ?_
    show Steps p.tables e below (T124.setTop (mkF m 198 #[.val (.int p0), .val (.int p1), .val (.int (Int32.ofNat nn)), .val (.int (1 : Int32)), .val (.ref b1), .unset, .unset, .unset, .unset, .unset] [(.ref b67), (.ref b67)])) _
    refine XS.bipush X124.here hx rfl (hb hby at_198) ?_
    show Steps p.tables e below (T124.setTop (mkF m 200 #[.val (.int p0), .val (.int p1), .val (.int (Int32.ofNat nn)), .val (.int (1 : Int32)), .val (.ref b1), .unset, .unset, .unset, .unset, .unset] [(.int (14 : Int32)), (.ref b67), (.ref b67)])) _
    refine st125 _ ?_
    show Steps p.tables e below (T125.setTop (mkF m 202 #[.val (.int p0), .val (.int p1), .val (.int (Int32.ofNat nn)), .val (.int (1 : Int32)), .val (.ref b1), .unset, .unset, .unset, .unset, .unset] [(.ref sa125), (.int (14 : Int32)), (.ref b67), (.ref b67)])) _
    refine st128 _ ?_
    show Steps p.tables e below (T128.setTop (mkF m 203 #[.val (.int p0), .val (.int p1), .val (.int (Int32.ofNat nn)), .val (.int (1 : Int32)), .val (.ref b1), .unset, .unset, .unset, .unset, .unset] [(.ref b67)])) _
    refine XS.dup X128.here hx rfl (hb hby at_203) rfl rfl ?_
    show Steps p.tables e below (T128.setTop (mkF m 204 #[.val (.int p0), .val (.int p1), .val (.int (Int32.ofNat nn)), .val (.int (1 : Int32)), .val (.ref b1), .unset, .unset, .unset, .unset, .unset] [(.ref b67), (.ref b67)])) _
    refine XS.bipush X128.here hx rfl (hb hby at_204) ?_
    show Steps p.tables e below (T128.setTop (mkF m 206 #[.val (.int p0), .val (.int p1), .val (.int (Int32.ofNat nn)), .val (.int (1 : Int32)), .val (.ref b1), .unset, .unset, .unset, .unset, .unset] [(.int (15 : Int32)), (.ref b67), (.ref b67)])) _
    refine st129 _ ?_
    show Steps p.tables e below (T129.setTop (mkF m 208 #[.val (.int p0), .val (.int p1), .val (.int (Int32.ofNat nn)), .val (.int (1 : Int32)), .val (.ref b1), .unset, .unset, .unset, .unset, .unset] [(.ref sa129), (.int (15 : Int32)), (.ref b67), (.ref b67)])) _
    refine st132 _ ?_
    show Steps p.tables e below (T132.setTop (mkF m 209 #[.val (.int p0), .val (.int p1), .val (.int (Int32.ofNat nn)), .val (.int (1 : Int32)), .val (.ref b1), .unset, .unset, .unset, .unset, .unset] [(.ref b67)])) _
    refine XS.astore X132.here hx rfl (hb hby at_209) rfl rfl (l' := #[.val (.int p0), .val (.int p1), .val (.int (Int32.ofNat nn)), .val (.int (1 : Int32)), .val (.ref b1), .val (.ref b67), .unset, .unset, .unset, .unset]) rfl ?_
    show Steps p.tables e below (T132.setTop (mkF m 211 #[.val (.int p0), .val (.int p1), .val (.int (Int32.ofNat nn)), .val (.int (1 : Int32)), .val (.ref b1), .val (.ref b67), .unset, .unset, .unset, .unset] [])) _
    refine XS.iloadN X132.here hx rfl (hb hby at_211) rfl ?_
    show Steps p.tables e below (T132.setTop (mkF m 212 #[.val (.int p0), .val (.int p1), .val (.int (Int32.ofNat nn)), .val (.int (1 : Int32)), .val (.ref b1), .val (.ref b67), .unset, .unset, .unset, .unset] [(.int (Int32.ofNat nn))])) _
    refine st151 _ ?_
    show Steps p.tables e below (T151.setTop (mkF m 214 #[.val (.int p0), .val (.int p1), .val (.int (Int32.ofNat nn)), .val (.int (1 : Int32)), .val (.ref b1), .val (.ref b67), .unset, .unset, .unset, .unset] [(.ref b151)])) _
    refine XS.astore X151.here hx rfl (hb hby at_214) rfl rfl (l' := #[.val (.int p0), .val (.int p1), .val (.int (Int32.ofNat nn)), .val (.int (1 : Int32)), .val (.ref b1), .val (.ref b67), .val (.ref b151), .unset, .unset, .unset]) rfl ?_
    show Steps p.tables e below (T151.setTop (mkF m 216 #[.val (.int p0), .val (.int p1), .val (.int (Int32.ofNat nn)), .val (.int (1 : Int32)), .val (.ref b1), .val (.ref b67), .val (.ref b151), .unset, .unset, .unset] [])) _
    refine st158 _ ?_
    show Steps p.tables e below (T158.setTop (mkF m 219 #[.val (.int p0), .val (.int p1), .val (.int (Int32.ofNat nn)), .val (.int (1 : Int32)), .val (.ref b1), .val (.ref b67), .val (.ref b151), .unset, .unset, .unset] [(.ref b158)])) _
    refine XS.dup X158.here hx rfl (hb hby at_219) rfl rfl ?_
    show Steps p.tables e below (T158.setTop (mkF m 220 #[.val (.int p0), .val (.int p1), .val (.int (Int32.ofNat nn)), .val (.int (1 : Int32)), .val (.ref b1), .val (.ref b67), .val (.ref b151), .unset, .unset, .unset] [(.ref b158), (.ref b158)])) _
    refine XS.aload X158.here hx rfl (hb hby at_220) rfl rfl ?_
    show Steps p.tables e below (T158.setTop (mkF m 222 #[.val (.int p0), .val (.int p1), .val (.int (Int32.ofNat nn)), .val (.int (1 : Int32)), .val (.ref b1), .val (.ref b67), .val (.ref b151), .unset, .unset, .unset] [(.ref b151), (.ref b158), (.ref b158)])) _
    refine XS.iloadN X158.here hx rfl (hb hby at_222) rfl ?_
    show Steps p.tables e below (T158.setTop (mkF m 223 #[.val (.int p0), .val (.int p1), .val (.int (Int32.ofNat nn)), .val (.int (1 : Int32)), .val (.ref b1), .val (.ref b67), .val (.ref b151), .unset, .unset, .unset] [(.int (1 : Int32)), (.ref b151), (.ref b158), (.ref b158)])) _
    refine st162.trans ?_
    show Steps p.tables e below (T162.setTop (mkF m 226 #[.val (.int p0), .val (.int p1), .val (.int (Int32.ofNat nn)), .val (.int (1 : Int32)), .val (.ref b1), .val (.ref b67), .val (.ref b151), .unset, .unset, .unset] [(.ref b158)])) _
    refine XS.astore X162.here hx rfl (hb hby at_226) rfl rfl (l' := #[.val (.int p0), .val (.int p1), .val (.int (Int32.ofNat nn)), .val (.int (1 : Int32)), .val (.ref b1), .val (.ref b67), .val (.ref b151), .val (.ref b158), .unset, .unset]) rfl ?_
    show Steps p.tables e below (T162.setTop (mkF m 228 #[.val (.int p0), .val (.int p1), .val (.int (Int32.ofNat nn)), .val (.int (1 : Int32)), .val (.ref b1), .val (.ref b67), .val (.ref b151), .val (.ref b158), .unset, .unset] [])) _
    refine XS.aload X162.here hx rfl (hb hby at_228) rfl rfl ?_
    show Steps p.tables e below (T162.setTop (mkF m 230 #[.val (.int p0), .val (.int p1), .val (.int (Int32.ofNat nn)), .val (.int (1 : Int32)), .val (.ref b1), .val (.ref b67), .val (.ref b151), .val (.ref b158), .unset, .unset] [(.ref b158)])) _
    refine st170.trans ?_
    show Steps p.tables e below (T170.setTop (mkF m 233 #[.val (.int p0), .val (.int p1), .val (.int (Int32.ofNat nn)), .val (.int (1 : Int32)), .val (.ref b1), .val (.ref b67), .val (.ref b151), .val (.ref b158), .unset, .unset] [(.ref x170)])) _
    refine XS.astore X170.here hx rfl (hb hby at_233) rfl rfl (l' := #[.val (.int p0), .val (.int p1), .val (.int (Int32.ofNat nn)), .val (.int (1 : Int32)), .val (.ref b1), .val (.ref b67), .val (.ref b151), .val (.ref b158), .val (.ref x170), .unset]) rfl ?_
    show Steps p.tables e below (T170.setTop (mkF m 235 #[.val (.int p0), .val (.int p1), .val (.int (Int32.ofNat nn)), .val (.int (1 : Int32)), .val (.ref b1), .val (.ref b67), .val (.ref b151), .val (.ref b158), .val (.ref x170), .unset] [])) _
    refine XS.iloadN X170.here hx rfl (hb hby at_235) rfl ?_
    show Steps p.tables e below (T170.setTop (mkF m 236 #[.val (.int p0), .val (.int p1), .val (.int (Int32.ofNat nn)), .val (.int (1 : Int32)), .val (.ref b1), .val (.ref b67), .val (.ref b151), .val (.ref b158), .val (.ref x170), .unset] [(.int (1 : Int32))])) _
    refine XS.ifNo X170.here hx rfl (hb hby at_236) rfl ((if0 _ _).trans (feq ((by decide) : ¬ ((1 : Int32) = (0 : Int32)))).1) ?_
    show Steps p.tables e below (T170.setTop (mkF m 239 #[.val (.int p0), .val (.int p1), .val (.int (Int32.ofNat nn)), .val (.int (1 : Int32)), .val (.ref b1), .val (.ref b67), .val (.ref b151), .val (.ref b158), .val (.ref x170), .unset] [])) _
    refine XS.aload X170.here hx rfl (hb hby at_239) rfl rfl ?_
    show Steps p.tables e below (T170.setTop (mkF m 241 #[.val (.int p0), .val (.int p1), .val (.int (Int32.ofNat nn)), .val (.int (1 : Int32)), .val (.ref b1), .val (.ref b67), .val (.ref b151), .val (.ref b158), .val (.ref x170), .unset] [(.ref b67)])) _
    refine XS.iloadN X170.here hx rfl (hb hby at_241) rfl ?_
    show Steps p.tables e below (T170.setTop (mkF m 242 #[.val (.int p0), .val (.int p1), .val (.int (Int32.ofNat nn)), .val (.int (1 : Int32)), .val (.ref b1), .val (.ref b67), .val (.ref b151), .val (.ref b158), .val (.ref x170), .unset] [(.int (Int32.ofNat nn)), (.ref b67)])) _
    refine X170.aaload hx (j := (Int32.ofNat nn)) (v := (.ref yy)) (ty := (.object "java/lang/String")) A173.1 (State.isArrayOf_alike hZ170.alike A173.2.1) rfl A173.2.2 (inb_of s173 ⟨own_nn (by omega), (own_lt (n := nn) (m := 16) (by omega) (by decide)).mpr hnn⟩) (H173.at (inb_of s173 ⟨own_nn (by omega), (own_lt (n := nn) (m := 16) (by omega) (by decide)).mpr hnn⟩) hv) (g := (mkF m 242 #[.val (.int p0), .val (.int p1), .val (.int (Int32.ofNat nn)), .val (.int (1 : Int32)), .val (.ref b1), .val (.ref b67), .val (.ref b151), .val (.ref b158), .val (.ref x170), .unset] [(.int (Int32.ofNat nn)), (.ref b67)])) rfl rfl (hb hby at_242) _ ?_
    show Steps p.tables e below (T170.setTop (mkF m 243 #[.val (.int p0), .val (.int p1), .val (.int (Int32.ofNat nn)), .val (.int (1 : Int32)), .val (.ref b1), .val (.ref b67), .val (.ref b151), .val (.ref b158), .val (.ref x170), .unset] [(.ref yy)])) _
    refine XS.goto X170.here hx rfl (pc0 := 243) (pc' := 250) rfl (hb hby at_243) (by decide) (by decide) ?_
    show Steps p.tables e below (T170.setTop (mkF m 250 #[.val (.int p0), .val (.int p1), .val (.int (Int32.ofNat nn)), .val (.int (1 : Int32)), .val (.ref b1), .val (.ref b67), .val (.ref b151), .val (.ref b158), .val (.ref x170), .unset] [(.ref yy)])) _
    refine XS.astore X170.here hx rfl (hb hby at_250) rfl rfl (l' := #[.val (.int p0), .val (.int p1), .val (.int (Int32.ofNat nn)), .val (.int (1 : Int32)), .val (.ref b1), .val (.ref b67), .val (.ref b151), .val (.ref b158), .val (.ref x170), .val (.ref yy)]) rfl ?_
    show Steps p.tables e below (T170.setTop (mkF m 252 #[.val (.int p0), .val (.int p1), .val (.int (Int32.ofNat nn)), .val (.int (1 : Int32)), .val (.ref b1), .val (.ref b67), .val (.ref b151), .val (.ref b158), .val (.ref x170), .val (.ref yy)] [])) _
    refine XS.aload X170.here hx rfl (hb hby at_252) rfl rfl ?_
    show Steps p.tables e below (T170.setTop (mkF m 254 #[.val (.int p0), .val (.int p1), .val (.int (Int32.ofNat nn)), .val (.int (1 : Int32)), .val (.ref b1), .val (.ref b67), .val (.ref b151), .val (.ref b158), .val (.ref x170), .val (.ref yy)] [(.ref x170)])) _
    refine XS.aload X170.here hx rfl (hb hby at_254) rfl rfl ?_
    show Steps p.tables e below (T170.setTop (mkF m 256 #[.val (.int p0), .val (.int p1), .val (.int (Int32.ofNat nn)), .val (.int (1 : Int32)), .val (.ref b1), .val (.ref b67), .val (.ref b151), .val (.ref b158), .val (.ref x170), .val (.ref yy)] [(.ref yy), (.ref x170)])) _
    refine st178.trans ?_
    show Steps p.tables e below (T178.setTop (mkF m 259 #[.val (.int p0), .val (.int p1), .val (.int (Int32.ofNat nn)), .val (.int (1 : Int32)), .val (.ref b1), .val (.ref b67), .val (.ref b151), .val (.ref b158), .val (.ref x170), .val (.ref yy)] [(.int (1 : Int32))])) _
    exact retN X178 hx (t := .boolean) Bd.returns (by simp) (hb hby at_259) hr
  · exact ⟨rfl, N178, trivial⟩
theorem rl (l : Launch) (Z : State) (a0 : Array Value) (hw : ∀ d ∈ tables_1, d.before a0 Z = true) (ws : List Jvm.Cond) (zc p0 p1 : Int32) (ist d1 d2 : Addr) (h0 : Heap) (n0 : Nat) (O : Old Z n0 h0) (hE : EnvS Z zc) (hD : EnvD Z ist d1 d2) (hEL : EW Z a0 EL) :
    MetFree l x (head1 (Jvm.Cond.code x code maxLocals ret :: ws) room_1) (fun a U => a = #[(.int p0), (.int p1)] ∧ Z.Warmed39 U.vm ∧ U.heap = h0 ∧ CHv Z EL U.vm h0) (fun _ _ _ _ _ => True) (fun _ U o U' => ∃ v L, o = .returned v ∧ Ql (some (.int (1 : Int32))) n0 v U'.heap L ∧ CHr Z EL U.vm U.heap U'.vm U'.heap ∧ ReturnedEndW U o U' L 104 37376) := by
  obtain ⟨nn, hnn, hp⟩ := own_nn16 p0
  by_cases hc : (p1 &&& (1 : Int32)) = (0 : Int32)
  · exact rl_0 l Z a0 hw ws zc p0 p1 ist d1 d2 nn h0 n0 O hE hD hnn hp hc hEL
  · exact rl_1 l Z a0 hw ws zc p0 p1 ist d1 d2 nn h0 n0 O hE hD hnn hp hc hEL
theorem own_bytesS {a : Array Value} {s : State} {C n d : String} (hfit : Fit s) (h3 : (Cond.exactly (.static C n d) "[B").before a s = true) {z : Int32} (h4 : (Cond.eq (.length (.static C n d)) (.int z)).before a s = true) (harr : (Cond.arrayClass .byte).before a s = true) :
    (SBG.bytesC (.static C n d)).before a s = true := by
  obtain ⟨sd, cB, SA, kB, hevV, hfcB, hcellB, hkB, hstatB, hclsB, -⟩ := Cond.exactly_spec h3
  have hwl := Cond.eq_int h4 (show (Term.int z).eval a s none [] s = some (.int z) from rfl)
  obtain ⟨sd', SA', hev', harrAt, -⟩ := Term.length_spec hwl
  cases hevV.symm.trans hev'
  obtain ⟨hcellB', hknA, -, -⟩ := State.arrayAt?_spec harrAt
  cases hcellB.symm.trans hcellB'
  have h31 := SBG.length_lt hevV harrAt hwl
  obtain ⟨cB', kB', comp, hnameB, hkB', hkindB⟩ := Cond.arrayClass_spec harr
  have eBA : ("[" ++ FieldType.toString .byte) = "[B" := by decide
  rw [eBA] at hnameB
  cases hfcB.symm.trans hnameB
  cases hkB.symm.trans hkB'
  have hevAll : ∀ idx, (Term.static C n d).eval a s none idx s = some (.ref sd) := fun idx => hevV
  have hby : s.isArrayOf SA .byte := ⟨(fun k h => by rw [h] at hstatB; cases hstatB), kB, (by rw [hclsB]; exact hkB), comp, hkindB⟩
  exact SBG.bytesC_of_fits hevAll harrAt h31 fun i hi => SBG.fits_byte_of_slot hby hi (hfit hcellB hi)
theorem own_envD {s : State} {args : Array Value} (hfit : Fit s) (l1 : (Jvm.Cond.laysStatic "java/lang/Integer" "DigitOnes" "[B").before args s = true) (x1 : (Jvm.Cond.exactly (.static "java/lang/Integer" "DigitOnes" "[B") "[B").before args s = true) (n1 : (Jvm.Cond.eq (.length (.static "java/lang/Integer" "DigitOnes" "[B")) (.int 100)).before args s = true) (o1 : SBG.onesW.before args s = true)
    (l2 : (Jvm.Cond.laysStatic "java/lang/Integer" "DigitTens" "[B").before args s = true) (x2 : (Jvm.Cond.exactly (.static "java/lang/Integer" "DigitTens" "[B") "[B").before args s = true) (n2 : (Jvm.Cond.eq (.length (.static "java/lang/Integer" "DigitTens" "[B")) (.int 100)).before args s = true) (o2 : SBG.tensW.before args s = true)
    (hini : (Jvm.Cond.initialized "java/lang/Integer").before args s = true) (harr : (Jvm.Cond.arrayClass .byte).before args s = true) : ∃ ist d1 d2, EnvD s ist d1 d2 := by
  have mk : ∀ nme, (Jvm.Cond.laysStatic "java/lang/Integer" nme "[B").before args s = true → (Jvm.Cond.exactly (.static "java/lang/Integer" nme "[B") "[B").before args s = true → (Jvm.Cond.eq (.length (.static "java/lang/Integer" nme "[B")) (.int 100)).before args s = true → ∀ w ∈ SBG.tblW nme, w.before args s = true := by
    intro nme l x n w hw
    simp only [SBG.tblW, List.mem_cons, List.not_mem_nil, or_false] at hw
    rcases hw with rfl | rfl | rfl | rfl
    · exact l
    · exact x
    · exact n
    · exact own_bytesS hfit x n harr
  obtain ⟨c1, k1, st1, d1, D1, a1, a2, a3, T1, O1⟩ := SBG.ones_of_words (mk _ l1 x1 n1) o1 hini harr
  obtain ⟨c2, k2, st2, d2, D2, b1, b2, b3, T2, O2⟩ := SBG.tens_of_words (mk _ l2 x2 n2) o2 hini harr
  cases a1.symm.trans b1
  cases a2.symm.trans b2
  cases a3.symm.trans b3
  refine ⟨st1, d1, d2, D1, D2, T1, T2, O1, O2, ?_, ?_, ?_⟩
  · exact (Array.getElem?_eq_some_iff.mp T1.choose_spec.choose_spec.choose_spec.choose_spec.choose_spec.2.2.2.2.1).1
  · exact (Array.getElem?_eq_some_iff.mp T1.choose_spec.choose_spec.choose_spec.choose_spec.choose_spec.2.2.2.2.2.2.2.1).1
  · exact (Array.getElem?_eq_some_iff.mp T2.choose_spec.choose_spec.choose_spec.choose_spec.choose_spec.2.2.2.2.2.2.2.1).1

def ElW (args : Array Value) (s : State) (t : Term) : Nat → List Int32 → Prop
  | _, [] => True
  | i, c :: r => (Cond.eq (.elem t (.int (Int32.ofNat i))) (.int c)).value args s none s [] = some true ∧ ElW args s t (i + 1) r
theorem ElW.hasL {args : Array Value} {s : State} {t : Term} {x : Addr} {cl : Cell} (ev : t.eval args s none [] s = some (.ref x)) (hc : s.heap[x]? = some cl) : ∀ (cs : List Int32) (i : Nat), i + cs.length ≤ 1000 → (∀ c ∈ cs, c.toInt8.toInt32 = c) → ElW args s t i cs → HasL cl i (by8 cs)
  | [], _, _, _, _ => trivial
  | c :: r, i, hl, hb, h => by
    have hl' : i + (r.length + 1) ≤ 1000 := hl
    have e1 := Cond.eq_int (Cond.before_iff.mpr h.1 : (Cond.eq _ _).before args s = true) (show (Term.int c).eval args s none [] s = some (.int c) from rfl)
    have e2 := elem_in e1 ev (Term.int_eval _) hc
    rw [own_cl (by omega)] at e2
    refine ⟨?_, ElW.hasL ev hc r (i + 1) (by omega) (fun c' h' => hb c' (List.mem_cons_of_mem _ h')) h.2⟩
    show cl.slots[i]? = some (Value.int c.toInt8.toInt32)
    rw [hb c List.mem_cons_self]; exact e2.2
theorem own_str {s : State} {args : Array Value} (hfit : Fit s) {t : Term} {x : Addr} (ev : t.eval args s none [] s = some (.ref x)) (hx : (Cond.exactly t "java/lang/String").value args s none s [] = some true)
    (ha : (Cond.arrayOf (.field t "java/lang/String" "value" "[B") .byte).value args s none s [] = some true) (cs : List Int32) (hl : (Cond.eq (.length (.field t "java/lang/String" "value" "[B")) (.int (Int32.ofNat cs.length))).value args s none s [] = some true)
    (hk : (Cond.eq (.field t "java/lang/String" "coder" "B") (.int 0)).value args s none s [] = some true) (hlen : cs.length ≤ 1000) (hb : ∀ c ∈ cs, c.toInt8.toInt32 = c) (he : ElW args s (.field t "java/lang/String" "value" "[B") 0 cs) : ∃ sd k, Str s s.heap x sd k cs := by
  obtain ⟨sd, ed⟩ := arr_v ha
  obtain ⟨cl, A⟩ := Arr.start ed ha
  have hwl := Cond.eq_int (Cond.before_iff.mpr hl : (Cond.eq _ _).before args s = true) (show (Term.int (Int32.ofNat cs.length)).eval args s none [] s = some (.int (Int32.ofNat cs.length)) from rfl)
  obtain ⟨sd', SA', hev', harrAt, hsz⟩ := Term.length_spec hwl
  cases ed.symm.trans hev'
  obtain ⟨hcellB', -, -, -⟩ := State.arrayAt?_spec harrAt
  cases A.1.symm.trans hcellB'
  have h31 := SBG.length_lt ed harrAt hwl
  have hc := Cond.eq_int (Cond.before_iff.mpr hk : (Cond.eq _ _).before args s = true) (show (Term.int 0).eval args s none [] s = some (.int 0) from rfl)
  rw [fld_at ev] at hc ed
  exact ⟨sd, cl.cls, Exa.start ev hx, Fld.start ed, Fld.start hc, Arv.start hfit A h31 (Value.int.inj hsz).symm (own_nn hlen) (by rw [own_cl hlen]; simp) (ElW.hasL hev' A.1 cs 0 (by omega) hb he)⟩

set_option maxRecDepth 65536 in
set_option maxHeartbeats 40000000 in
theorem comes_1 {Post : Tables → Env → Array Value → State → Outcome → State → Prop} (hpost : ∀ tb e args s v u, (limb_1_1.after args s (.returned v) u = true ∧ limb_1_2.after args s (.returned v) u = true ∧ True) → Jvm.D.FramedW s (.returned v) u (Jvm.fieldLocs frame_1_writes args s ++ Jvm.arrayLocs frame_1_arrays args s ++ Jvm.staticLocs frame_1_statics s) 104 37376 → Post tb e args s (.returned v) u) :
    ArmFor flags0 classFile x code maxLocals ret World_1 tables_1 room_1 Calls_1 rest_1 Pre_1 Post := by
  intro l hfl _ _ p e ha hc hk s m args below hf hA hF happ hP
  obtain ⟨hcalls, hrest, hpre⟩ := hP
  obtain ⟨-, -, -, hnamed, -, -, -, hat⟩ := (Spec.applies_iff hf).mp happ
  obtain ⟨hg, hn⟩ := and_e (Cond.before_iff.mp (show (Jvm.Cond.and given_1 narrow_1).before args s = true from hpre))
  obtain ⟨h1, g0⟩ := and_e hg
  obtain ⟨g0, g1⟩ := and_e g0
  obtain ⟨w0, w1, rfl⟩ : ∃ w0 w1 : Value, args = #[w0, w1] := by
    have hs : args.size = 2 := by simpa [Cond.value, given_1] using h1
    obtain ⟨L⟩ := args
    match L, hs with
    | [w0, w1], _ => exact ⟨w0, w1, rfl⟩
  have hw := fun d (hd : d ∈ tables_1) => atoms_spec (ws := Jvm.Cond.code x code maxLocals ret :: tables_1) hat d (List.mem_cons_of_mem _ hd)
  have hfit : Fit s := fun {y c} hc i hi => by
    obtain ⟨ha, rfl⟩ := Array.getElem?_eq_some_iff.mp hc
    have q := List.all_eq_true.mp ((Array.all_eq_true_iff_forall_mem.mp hF) _ (Array.getElem_mem ha)) i (List.mem_range.mpr hi)
    simpa [Array.getElem?_eq_getElem hi] using q
  obtain ⟨i0, e0⟩ := is_v g0
  obtain rfl : w0 = (.int i0) := Option.some.inj e0
  obtain ⟨i1, e1⟩ := is_v g1
  obtain rfl : w1 = (.int i1) := Option.some.inj e1
  obtain ⟨hsets, hown0⟩ := atoms_of _ (rest_1_c_eq ▸ (show rest_1_c.before _ s = true from hrest))
  obtain ⟨zc, ezc⟩ := is_v (Cond.before_iff.mp (hsets _ (List.mem_of_getElem? (i := 1) rfl)))
  have hE : EnvS s zc := ⟨Sta.start ezc (Or.inl (hsets _ (List.mem_of_getElem? (i := 0) rfl))), fun q => by
    subst q
    have q1 := not_v (Cond.before_iff.mp (hsets _ (List.mem_of_getElem? (i := 2) rfl)))
    have q2 := Cond.eq_ints ezc (Term.int_eval (args := #[.int i0, .int i1]) (first := s) (o := none) (idx := []) (s := s) (0 : Int32))
    rw [q2] at q1; cases q1⟩
  obtain ⟨ist, dd1, dd2, hD⟩ := own_envD hfit (hsets _ (List.mem_of_getElem? (i := 10) rfl)) (hsets _ (List.mem_of_getElem? (i := 12) rfl)) (hsets _ (List.mem_of_getElem? (i := 13) rfl)) (hsets _ (List.mem_of_getElem? (i := 14) rfl)) (hsets _ (List.mem_of_getElem? (i := 15) rfl)) (hsets _ (List.mem_of_getElem? (i := 17) rfl)) (hsets _ (List.mem_of_getElem? (i := 18) rfl)) (hsets _ (List.mem_of_getElem? (i := 19) rfl)) (hsets _ (List.mem_of_getElem? (i := 9) rfl)) (hw _ (List.mem_of_getElem? (i := 5) rfl))
  obtain ⟨n, o, h1, h2, h3, _, L, rfl, ⟨rfl, N, -⟩, -, hq⟩ := rl l s _ hw tables_1 zc i0 i1 ist dd1 dd2 s.heap s.heap.size (Old.start s) hE hD (own_EW hw) p e ha hc hk s m _ below hf ((Spec.applies_iff_loose hf).mp happ).1 ⟨rfl, State.Warmed39.refl s, rfl, CHv.start (own_EW hw) (fun p hp => hcalls.1 p hp) (hsets _ (List.mem_of_getElem? (i := 2) rfl)) (hw _ (List.mem_of_getElem? (i := 5) rfl)) (hw _ (List.mem_of_getElem? (i := 4) rfl))⟩ trivial
  exact ⟨n, _, h1, h2, h3, hpost _ _ _ _ _ _ ⟨Cond.after_iff.mpr rfl, Cond.after_iff.mpr (eq_i res_at (Term.int_eval (1)) rfl), trivial⟩ ⟨hq.1, hq.2.1, hq.2.2.1, (hq.2.2.2.sift fun y hy => Or.inr (N y hy)).mono (by decide) (by decide)⟩⟩
theorem main_1_1 : Claimed_1_1 := comes_1 fun _ _ _ _ _ _ h hF => ⟨h.1, hF⟩
theorem main_1_2 : Claimed_1_2 := comes_1 fun _ _ _ _ _ _ h hF => ⟨h.2.1, hF⟩
end Jvm.Pilot.@@N@@
namespace Jvm.Pilot.@@N@@
open Jvm Jvm.ClassFile Sem Op Lib Jvm.Free Jvm.Stand Jvm.Pilot.@@N@@.Jvm.D
/-! MADE BY PROGRAM (witnessworld.py) out of the Statement's table words and the real class files: 24 classes; the members and pool entries that the words name. The judged class is class 1, her method 1. -/
namespace start1
open Jvm.ClassFile
def u (s : String) : CpInfo := .utf8 (stringToUtf16 s)
/-- a pool by its gaps: so many unusable entries, then the entry; so many at the end -/
def gap : Nat → List CpInfo → List CpInfo
  | 0, r => r
  | n + 1, r => .unusable :: gap n r
def poolList (es : List (Nat × CpInfo)) (last : Nat) : List CpInfo := es.foldr (fun e r => gap e.1 (e.2 :: r)) (gap last [])
def pool (es : List (Nat × CpInfo)) (last : Nat) : Array CpInfo := ⟨poolList es last⟩
def fileOf (pool : Array CpInfo) (this : Nat) (attrs : Array Attribute := #[]) (ms : Array MethodInfo := #[]) (fl : Nat := 33) (sup : Nat := 0) (ifs : Array Nat := #[]) (fds : Array FieldInfo := #[]) : ClassFile where
  minorVersion := 0
  majorVersion := 65
  constantPool := pool
  accessFlags := fl
  thisClass := this
  superClass := sup
  interfaces := ifs
  fields := fds
  methods := ms
  attributes := attrs
def plain (name : String) (sup : Option ClassId) : Class where
  name := name
  kind := .ordinary
  loader := none
  accessFlags := 33
  super := sup
  interfaces := #[]
  cf := none
  fields := #[]
  methods := #[]
  instanceTypes := #[]
  staticTypes := #[]
  resolved := #[]
  callSites := []
  init := .initialized
  statics := none
  mirror := none

def pool0 : Array CpInfo := pool [(5, u "<init>"), (0, u "()V"), (1, .class_ 10), (1, u "java/lang/Object")] 113

def k0c0 : Code := { maxStack := 0, maxLocals := 1, code := object_method_1_code, exceptionTable := #[], attributes := #[] }
def k0m0 : Method := { name := "<init>", desc := "()V", sig := { parameters := [], returnType := none }, accessFlags := 1, code := some k0c0 }
/-- java/lang/Object -/
def k0 : Class := { plain "java/lang/Object" none with
  accessFlags := 33
  interfaces := #[]
  cf := some (fileOf pool0 8 #[] #[{ accessFlags := 1, nameIndex := 5, descriptorIndex := 6, attributes := #[] }] 33 0 #[] #[])
  fields := #[]
  methods := #[k0m0]
  instanceTypes := #[]
  staticTypes := #[]
  resolved := Array.replicate 124 none
  statics := none }

def pool1 : Array CpInfo := pool [(2, .class_ 4), (1, u "java/lang/Object"), (0, u "<init>"), (0, u "()V"), (0, .class_ 8), (0, u "java/lang/String"), (0, .string 10), (0, u "message of 0 bytes"), (0, .string 12), (0, u "message of 1 bytes"), (0, .string 14), (0, u "message of 2 bytes"), (0, .string 16), (0, u "message of 3 bytes"), (0, .string 18), (0, u "message of 4 bytes"), (0, .string 20), (0, u "message of 5 bytes"), (0, .string 22), (0, u "message of 6 bytes"), (0, .string 24), (0, u "message of 7 bytes"), (0, .string 26), (0, u "message of 8 bytes"), (0, .string 28), (0, u "message of 9 bytes"), (0, .string 30), (0, u "message of 10 bytes"), (0, .string 32), (0, u "message of 11 bytes"), (0, .string 34), (0, u "message of 12 bytes"), (0, .string 36), (0, u "message of 13 bytes"), (0, .string 38), (0, u "message of 14 bytes"), (0, .string 40), (0, u "message of 15 bytes"), (0, .string 42), (0, u "message of 0 bytes, redelivered"), (0, .string 44), (0, u "message of 1 bytes, redelivered"), (0, .string 46), (0, u "message of 2 bytes, redelivered"), (0, .string 48), (0, u "message of 3 bytes, redelivered"), (0, .string 50), (0, u "message of 4 bytes, redelivered"), (0, .string 52), (0, u "message of 5 bytes, redelivered"), (0, .string 54), (0, u "message of 6 bytes, redelivered"), (0, .string 56), (0, u "message of 7 bytes, redelivered"), (0, .string 58), (0, u "message of 8 bytes, redelivered"), (0, .string 60), (0, u "message of 9 bytes, redelivered"), (0, .string 62), (0, u "message of 10 bytes, redelivered"), (0, .string 64), (0, u "message of 11 bytes, redelivered"), (0, .string 66), (0, u "message of 12 bytes, redelivered"), (0, .string 68), (0, u "message of 13 bytes, redelivered"), (0, .string 70), (0, u "message of 14 bytes, redelivered"), (0, .string 72), (0, u "message of 15 bytes, redelivered"), (0, .class_ 74), (0, u "com/example/savepoint/savepoint/AmqpMessage"), (0, .methodref 73 76), (0, .nameAndType 5 77), (0, u "([BZ)V"), (0, .methodref 73 79), (0, .nameAndType 80 81), (0, u "toString"), (0, u "()Ljava/lang/String;"), (0, .methodref 7 83), (0, .nameAndType 84 85), (0, u "equals"), (0, u "(Ljava/lang/Object;)Z"), (0, .class_ 87), (0, u "com/example/savepoint/savepoint/AmqpMessageToStringPinLaw"), (2, u "law"), (0, u "(II)Z")] 7

def k1m0 : Method := { name := "<init>", desc := "()V", sig := { parameters := [], returnType := none }, accessFlags := 1, code := none }
def k1c1 : Code := { maxStack := 4, maxLocals := 10, code := code, exceptionTable := #[], attributes := #[] }
def k1m1 : Method := { name := "law", desc := "(II)Z", sig := { parameters := [.int, .int], returnType := some .boolean }, accessFlags := 9, code := some k1c1 }
/-- com/example/savepoint/savepoint/AmqpMessageToStringPinLaw -/
def k1 : Class := { plain "com/example/savepoint/savepoint/AmqpMessageToStringPinLaw" (some 0) with
  accessFlags := 49
  interfaces := #[]
  cf := some (fileOf pool1 86 #[] #[{ accessFlags := 1, nameIndex := 5, descriptorIndex := 6, attributes := #[] }, { accessFlags := 9, nameIndex := 90, descriptorIndex := 91, attributes := #[] }] 49 2 #[] #[])
  fields := #[]
  methods := #[k1m0, k1m1]
  instanceTypes := #[]
  staticTypes := #[]
  resolved := Array.replicate 99 none
  statics := none }

def pool2 : Array CpInfo := pool [(1, .class_ 2), (0, u "java/io/Serializable"), (0, .class_ 4), (0, u "java/lang/Object")] 2

/-- java/io/Serializable -/
def k2 : Class := { plain "java/io/Serializable" (some 0) with
  accessFlags := 1537
  interfaces := #[]
  cf := some (fileOf pool2 1 #[] #[] 1537 3 #[] #[])
  fields := #[]
  methods := #[]
  instanceTypes := #[]
  staticTypes := #[]
  resolved := Array.replicate 7 none
  statics := none }

def pool3 : Array CpInfo := pool [(1, .class_ 2), (0, u "java/lang/Comparable"), (0, .class_ 4), (0, u "java/lang/Object")] 7

/-- java/lang/Comparable -/
def k3 : Class := { plain "java/lang/Comparable" (some 0) with
  accessFlags := 1537
  interfaces := #[]
  cf := some (fileOf pool3 1 #[] #[] 1537 3 #[] #[])
  fields := #[]
  methods := #[]
  instanceTypes := #[]
  staticTypes := #[]
  resolved := Array.replicate 12 none
  statics := none }

def pool4 : Array CpInfo := pool [(2, .class_ 4), (1, u "java/lang/CharSequence"), (42, .class_ 48), (0, u "java/lang/CharSequence$1CodePointIterator"), (10, .class_ 60), (0, u "java/lang/CharSequence$1CharIterator"), (5, .class_ 67), (0, u "java/lang/Object")] 63

/-- java/lang/CharSequence -/
def k4 : Class := { plain "java/lang/CharSequence" (some 0) with
  accessFlags := 1537
  interfaces := #[]
  cf := some (fileOf pool4 2 #[.nestMembers #[47, 59]] #[] 1537 66 #[] #[])
  fields := #[]
  methods := #[]
  instanceTypes := #[]
  staticTypes := #[]
  resolved := Array.replicate 131 none
  statics := none }

def pool5 : Array CpInfo := pool [(1, .class_ 2), (0, u "java/lang/constant/Constable"), (0, .class_ 4), (0, u "java/lang/Object")] 6

/-- java/lang/constant/Constable -/
def k5 : Class := { plain "java/lang/constant/Constable" (some 0) with
  accessFlags := 1537
  interfaces := #[]
  cf := some (fileOf pool5 1 #[] #[] 1537 3 #[] #[])
  fields := #[]
  methods := #[]
  instanceTypes := #[]
  staticTypes := #[]
  resolved := Array.replicate 11 none
  statics := none }

def pool6 : Array CpInfo := pool [(1, .class_ 2), (0, u "java/lang/constant/ConstantDesc"), (0, .class_ 4), (0, u "java/lang/Object")] 32

/-- java/lang/constant/ConstantDesc -/
def k6 : Class := { plain "java/lang/constant/ConstantDesc" (some 0) with
  accessFlags := 1537
  interfaces := #[]
  cf := some (fileOf pool6 1 #[] #[] 1537 3 #[] #[])
  fields := #[]
  methods := #[]
  instanceTypes := #[]
  staticTypes := #[]
  resolved := Array.replicate 37 none
  statics := none }

def pool7 : Array CpInfo := pool [(1, .methodref 2 3), (0, .class_ 4), (0, .nameAndType 5 6), (0, u "java/lang/Object"), (0, u "<init>"), (0, u "()V"), (2, .fieldref 10 11), (0, .class_ 12), (0, .nameAndType 13 14), (0, u "java/lang/String"), (0, u "value"), (0, u "[B"), (0, .fieldref 10 16), (0, .nameAndType 17 18), (0, u "coder"), (0, u "B"), (2, u "hash"), (0, u "I"), (2, u "hashIsZero"), (0, u "Z"), (11, .fieldref 10 39), (0, .nameAndType 40 26), (0, u "COMPACT_STRINGS"), (13, .methodref 55 56), (0, .class_ 57), (0, .nameAndType 58 59), (0, u "java/util/Arrays"), (0, u "copyOfRange"), (0, u "([BII)[B"), (47, .class_ 109), (1, u "java/lang/StringLatin1"), (32, u "()Z"), (50, .class_ 195), (1, u "java/lang/System"), (16, .methodref 193 213), (0, .nameAndType 214 215), (0, u "arraycopy"), (0, u "(Ljava/lang/Object;ILjava/lang/Object;II)V"), (118, u "()I"), (0, .methodref 10 336), (0, .nameAndType 17 337), (0, u "()B"), (2, u "()[B"), (148, .methodref 10 490), (0, .nameAndType 5 491), (0, u "(Ljava/lang/AbstractStringBuilder;Ljava/lang/Void;)V"), (1, .nameAndType 494 142), (0, u "isLatin1"), (11, .nameAndType 507 334), (0, u "length"), (24, u "getBytes"), (8, .methodref 107 542), (0, .nameAndType 543 544), (0, u "equals"), (0, u "([B[B)Z"), (4, .methodref 550 506), (0, .class_ 551), (0, u "java/lang/AbstractStringBuilder"), (0, .methodref 550 553), (0, .nameAndType 554 340), (0, u "getValue"), (18, u "(Ljava/lang/Object;)Z"), (1, .class_ 576), (0, u "java/lang/CharSequence"), (22, u "CASE_INSENSITIVE_ORDER"), (0, u "Ljava/util/Comparator;"), (220, u "([BIB)V"), (225, .methodref 550 493), (53, u "serialPersistentFields"), (0, u "[Ljava/io/ObjectStreamField;"), (0, .class_ 1104), (0, u "java/lang/String$CaseInsensitiveComparator"), (1, .class_ 1107), (0, u "java/io/Serializable"), (0, .class_ 1109), (0, u "java/lang/Comparable"), (0, .class_ 1111), (0, u "java/lang/constant/Constable"), (0, .class_ 1113), (0, u "java/lang/constant/ConstantDesc"), (2, u "serialVersionUID"), (0, u "J"), (3, u "REPL"), (0, u "C"), (2, u "LATIN1"), (1, u "UTF16"), (105, u "(Ljava/lang/StringBuilder;)V")] 217

def k7m0 : Method := { name := "<init>", desc := "()V", sig := { parameters := [], returnType := none }, accessFlags := 1, code := none }
def k7c1 : Code := { maxStack := 3, maxLocals := 2, code := jdk_42_method_53_code, exceptionTable := #[], attributes := #[] }
def k7m1 : Method := { name := "<init>", desc := "(Ljava/lang/StringBuilder;)V", sig := { parameters := [(.object "java/lang/StringBuilder")], returnType := none }, accessFlags := 1, code := some k7c1 }
def k7c2 : Code := { maxStack := 2, maxLocals := 1, code := jdk_42_method_54_code, exceptionTable := #[], attributes := #[] }
def k7m2 : Method := { name := "length", desc := "()I", sig := { parameters := [], returnType := some .int }, accessFlags := 1, code := some k7c2 }
def k7c3 : Code := { maxStack := 2, maxLocals := 3, code := jdk_42_method_66_code, exceptionTable := #[], attributes := #[] }
def k7m3 : Method := { name := "equals", desc := "(Ljava/lang/Object;)Z", sig := { parameters := [(.object "java/lang/Object")], returnType := some .boolean }, accessFlags := 1, code := some k7c3 }
def k7c4 : Code := { maxStack := 5, maxLocals := 4, code := jdk_42_method_147_code, exceptionTable := #[], attributes := #[] }
def k7m4 : Method := { name := "getBytes", desc := "([BIB)V", sig := { parameters := [(.array .byte), .int, .byte], returnType := none }, accessFlags := 0, code := some k7c4 }
def k7c5 : Code := { maxStack := 5, maxLocals := 5, code := jdk_42_method_150_code, exceptionTable := #[], attributes := #[] }
def k7m5 : Method := { name := "<init>", desc := "(Ljava/lang/AbstractStringBuilder;Ljava/lang/Void;)V", sig := { parameters := [(.object "java/lang/AbstractStringBuilder"), (.object "java/lang/Void")], returnType := none }, accessFlags := 0, code := some k7c5 }
def k7c6 : Code := { maxStack := 1, maxLocals := 1, code := jdk_42_method_152_code, exceptionTable := #[], attributes := #[] }
def k7m6 : Method := { name := "coder", desc := "()B", sig := { parameters := [], returnType := some .byte }, accessFlags := 0, code := some k7c6 }
/-- java/lang/String -/
def k7 : Class := { plain "java/lang/String" (some 0) with
  accessFlags := 49
  interfaces := #[2, 3, 4, 5, 6]
  cf := some (fileOf pool7 10 #[.nestMembers #[1103]] #[{ accessFlags := 1, nameIndex := 5, descriptorIndex := 6, attributes := #[] }, { accessFlags := 1, nameIndex := 5, descriptorIndex := 1233, attributes := #[] }, { accessFlags := 1, nameIndex := 507, descriptorIndex := 334, attributes := #[] }, { accessFlags := 1, nameIndex := 543, descriptorIndex := 573, attributes := #[] }, { accessFlags := 0, nameIndex := 532, descriptorIndex := 821, attributes := #[] }, { accessFlags := 0, nameIndex := 5, descriptorIndex := 491, attributes := #[] }, { accessFlags := 0, nameIndex := 17, descriptorIndex := 337, attributes := #[] }] 49 2 #[1106, 1108, 575, 1110, 1112] #[{ accessFlags := 18, nameIndex := 13, descriptorIndex := 14, attributes := #[] }, { accessFlags := 18, nameIndex := 17, descriptorIndex := 18, attributes := #[] }, { accessFlags := 2, nameIndex := 21, descriptorIndex := 22, attributes := #[] }, { accessFlags := 2, nameIndex := 25, descriptorIndex := 26, attributes := #[] }, { accessFlags := 26, nameIndex := 1116, descriptorIndex := 1117, attributes := #[] }, { accessFlags := 24, nameIndex := 40, descriptorIndex := 26, attributes := #[] }, { accessFlags := 26, nameIndex := 1101, descriptorIndex := 1102, attributes := #[] }, { accessFlags := 26, nameIndex := 1121, descriptorIndex := 1122, attributes := #[] }, { accessFlags := 25, nameIndex := 599, descriptorIndex := 600, attributes := #[] }, { accessFlags := 24, nameIndex := 1125, descriptorIndex := 18, attributes := #[] }, { accessFlags := 24, nameIndex := 1127, descriptorIndex := 18, attributes := #[] }])
  fields := #[{ name := "value", type := (.array .byte), accessFlags := 18, slot := 0, constantValue := 0 }, { name := "coder", type := .byte, accessFlags := 18, slot := 1, constantValue := 0 }, { name := "hash", type := .int, accessFlags := 2, slot := 2, constantValue := 0 }, { name := "hashIsZero", type := .boolean, accessFlags := 2, slot := 3, constantValue := 0 }, { name := "serialVersionUID", type := .long, accessFlags := 26, slot := 0, constantValue := 0 }, { name := "COMPACT_STRINGS", type := .boolean, accessFlags := 24, slot := 1, constantValue := 0 }, { name := "serialPersistentFields", type := (.array (.object "java/io/ObjectStreamField")), accessFlags := 26, slot := 2, constantValue := 0 }, { name := "REPL", type := .char, accessFlags := 26, slot := 3, constantValue := 0 }, { name := "CASE_INSENSITIVE_ORDER", type := (.object "java/util/Comparator"), accessFlags := 25, slot := 4, constantValue := 0 }, { name := "LATIN1", type := .byte, accessFlags := 24, slot := 5, constantValue := 0 }, { name := "UTF16", type := .byte, accessFlags := 24, slot := 6, constantValue := 0 }]
  methods := #[k7m0, k7m1, k7m2, k7m3, k7m4, k7m5, k7m6]
  instanceTypes := #[(.array .byte), .byte, .int, .boolean]
  staticTypes := #[.long, .boolean, (.array (.object "java/io/ObjectStreamField")), .char, (.object "java/util/Comparator"), .byte, .byte]
  resolved := Array.replicate 1451 none
  statics := some 0 }

def pool8 : Array CpInfo := pool [(1, .methodref 2 3), (0, .class_ 4), (0, .nameAndType 5 6), (0, u "java/lang/Object"), (0, u "<init>"), (0, u "()V"), (0, .fieldref 8 9), (0, .class_ 10), (0, .nameAndType 11 12), (0, u "com/example/savepoint/savepoint/AmqpMessage"), (0, u "body"), (0, u "[B"), (0, .fieldref 8 14), (0, .nameAndType 15 16), (0, u "redelivered"), (0, u "Z"), (5, .class_ 23), (0, u "java/lang/StringBuilder"), (0, .methodref 22 3), (0, .string 26), (0, u "message of "), (0, .methodref 22 28), (0, .nameAndType 29 30), (0, u "append"), (0, u "(Ljava/lang/String;)Ljava/lang/StringBuilder;"), (0, .methodref 22 32), (0, .nameAndType 29 33), (0, u "(I)Ljava/lang/StringBuilder;"), (0, .string 35), (0, u " bytes"), (0, .string 37), (0, u ", redelivered"), (0, .string 39), (0, u ""), (0, .methodref 22 41), (0, .nameAndType 42 43), (0, u "toString"), (0, u "()Ljava/lang/String;"), (0, u "([BZ)V")] 9

def k8c0 : Code := { maxStack := 2, maxLocals := 3, code := prog_1_method_1_code, exceptionTable := #[], attributes := #[] }
def k8m0 : Method := { name := "<init>", desc := "([BZ)V", sig := { parameters := [(.array .byte), .boolean], returnType := none }, accessFlags := 0, code := some k8c0 }
def k8c1 : Code := { maxStack := 2, maxLocals := 1, code := prog_1_method_4_code, exceptionTable := #[], attributes := #[] }
def k8m1 : Method := { name := "toString", desc := "()Ljava/lang/String;", sig := { parameters := [], returnType := some (.object "java/lang/String") }, accessFlags := 1, code := some k8c1 }
/-- com/example/savepoint/savepoint/AmqpMessage -/
def k8 : Class := { plain "com/example/savepoint/savepoint/AmqpMessage" (some 0) with
  accessFlags := 33
  interfaces := #[]
  cf := some (fileOf pool8 8 #[] #[{ accessFlags := 0, nameIndex := 5, descriptorIndex := 44, attributes := #[] }, { accessFlags := 1, nameIndex := 42, descriptorIndex := 43, attributes := #[] }] 33 2 #[] #[{ accessFlags := 18, nameIndex := 11, descriptorIndex := 12, attributes := #[] }, { accessFlags := 18, nameIndex := 15, descriptorIndex := 16, attributes := #[] }])
  fields := #[{ name := "body", type := (.array .byte), accessFlags := 18, slot := 0, constantValue := 0 }, { name := "redelivered", type := .boolean, accessFlags := 18, slot := 1, constantValue := 0 }]
  methods := #[k8m0, k8m1]
  instanceTypes := #[(.array .byte), .boolean]
  staticTypes := #[]
  resolved := Array.replicate 54 none
  statics := none }

def pool9 : Array CpInfo := pool [(1, .class_ 2), (0, u "java/lang/Appendable"), (0, .class_ 4), (0, u "java/lang/Object")] 9

/-- java/lang/Appendable -/
def k9 : Class := { plain "java/lang/Appendable" (some 0) with
  accessFlags := 1537
  interfaces := #[]
  cf := some (fileOf pool9 1 #[] #[] 1537 3 #[] #[])
  fields := #[]
  methods := #[]
  instanceTypes := #[]
  staticTypes := #[]
  resolved := Array.replicate 14 none
  statics := none }

def pool10 : Array CpInfo := pool [(1, .class_ 2), (0, u "java/lang/String"), (0, .methodref 4 5), (0, .class_ 6), (0, .nameAndType 7 8), (0, u "java/lang/Object"), (0, u "<init>"), (0, u "()V"), (1, .class_ 12), (1, u "java/lang/AbstractStringBuilder"), (0, u "EMPTYVALUE"), (0, u "[B"), (0, .fieldref 10 16), (0, .nameAndType 17 14), (0, u "value"), (0, .fieldref 1 19), (0, .nameAndType 20 21), (0, u "COMPACT_STRINGS"), (0, u "Z"), (0, .fieldref 10 23), (0, .nameAndType 24 25), (0, u "coder"), (0, u "B"), (6, .methodref 1 33), (0, .nameAndType 34 35), (0, u "length"), (0, u "()I"), (0, .class_ 37), (0, u "java/lang/Integer"), (1, .integer 2147483647), (0, .methodref 1 41), (0, .nameAndType 24 42), (0, u "()B"), (2, u "append"), (0, u "(Ljava/lang/String;)Ljava/lang/AbstractStringBuilder;"), (1, .class_ 49), (0, u "java/lang/CharSequence"), (19, u "(Ljava/lang/String;)V"), (5, u "maybeLatin1"), (3, .fieldref 10 80), (0, .nameAndType 81 82), (0, u "count"), (0, u "I"), (0, .methodref 10 84), (0, .nameAndType 85 86), (0, u "isLatin1"), (0, u "()Z"), (13, .methodref 10 101), (0, .nameAndType 102 103), (0, u "ensureCapacityInternal"), (0, u "(I)V"), (0, .methodref 10 105), (0, .nameAndType 106 107), (0, u "newCapacity"), (0, u "(I)I"), (0, .methodref 109 110), (0, .class_ 111), (0, .nameAndType 112 113), (0, u "java/util/Arrays"), (0, u "copyOf"), (0, u "([BI)[B"), (0, .methodref 115 116), (0, .class_ 117), (0, .nameAndType 118 119), (0, u "jdk/internal/util/ArraysSupport"), (0, u "newLength"), (0, u "(III)I"), (68, u "getChars"), (19, .methodref 10 209), (0, .nameAndType 210 211), (0, u "putStringAt"), (0, u "(ILjava/lang/String;)V"), (5, u "inflateIfNeededFor"), (2, .nameAndType 221 222), (0, u "getBytes"), (0, u "([BIB)V"), (22, .methodref 36 246), (0, .nameAndType 247 107), (0, u "stringSize"), (0, .methodref 36 249), (0, .nameAndType 188 250), (0, u "(II[B)I"), (146, .methodref 10 398), (0, .nameAndType 217 69), (0, .methodref 1 220), (3, u "()[B"), (40, .class_ 445), (0, u "java/lang/Appendable"), (65, u "(I)Ljava/lang/AbstractStringBuilder;"), (40, u "getValue")] 56

def k10m0 : Method := { name := "<init>", desc := "()V", sig := { parameters := [], returnType := none }, accessFlags := 0, code := none }
def k10c1 : Code := { maxStack := 2, maxLocals := 2, code := jdk_68_method_2_code, exceptionTable := #[], attributes := #[] }
def k10m1 : Method := { name := "<init>", desc := "(I)V", sig := { parameters := [.int], returnType := none }, accessFlags := 0, code := some k10c1 }
def k10c2 : Code := { maxStack := 1, maxLocals := 1, code := jdk_68_method_6_code, exceptionTable := #[], attributes := #[] }
def k10m2 : Method := { name := "length", desc := "()I", sig := { parameters := [], returnType := some .int }, accessFlags := 1, code := some k10c2 }
def k10c3 : Code := { maxStack := 4, maxLocals := 3, code := jdk_68_method_9_code, exceptionTable := #[], attributes := #[] }
def k10m3 : Method := { name := "ensureCapacityInternal", desc := "(I)V", sig := { parameters := [.int], returnType := none }, accessFlags := 2, code := some k10c3 }
def k10c4 : Code := { maxStack := 5, maxLocals := 6, code := jdk_68_method_10_code, exceptionTable := #[], attributes := #[] }
def k10m4 : Method := { name := "newCapacity", desc := "(I)I", sig := { parameters := [.int], returnType := some .int }, accessFlags := 2, code := some k10c4 }
def k10c5 : Code := { maxStack := 3, maxLocals := 3, code := jdk_68_method_22_code, exceptionTable := #[], attributes := #[] }
def k10m5 : Method := { name := "append", desc := "(Ljava/lang/String;)Ljava/lang/AbstractStringBuilder;", sig := { parameters := [(.object "java/lang/String")], returnType := some (.object "java/lang/AbstractStringBuilder") }, accessFlags := 1, code := some k10c5 }
def k10c6 : Code := { maxStack := 4, maxLocals := 4, code := jdk_68_method_32_code, exceptionTable := #[], attributes := #[] }
def k10m6 : Method := { name := "append", desc := "(I)Ljava/lang/AbstractStringBuilder;", sig := { parameters := [.int], returnType := some (.object "java/lang/AbstractStringBuilder") }, accessFlags := 1, code := some k10c6 }
def k10c7 : Code := { maxStack := 1, maxLocals := 1, code := jdk_68_method_64_code, exceptionTable := #[], attributes := #[] }
def k10m7 : Method := { name := "getValue", desc := "()[B", sig := { parameters := [], returnType := some (.array .byte) }, accessFlags := 16, code := some k10c7 }
def k10c8 : Code := { maxStack := 1, maxLocals := 1, code := jdk_68_method_68_code, exceptionTable := #[], attributes := #[] }
def k10m8 : Method := { name := "isLatin1", desc := "()Z", sig := { parameters := [], returnType := some .boolean }, accessFlags := 16, code := some k10c8 }
def k10c9 : Code := { maxStack := 2, maxLocals := 2, code := jdk_68_method_71_code, exceptionTable := #[], attributes := #[] }
def k10m9 : Method := { name := "inflateIfNeededFor", desc := "(Ljava/lang/String;)V", sig := { parameters := [(.object "java/lang/String")], returnType := none }, accessFlags := 2, code := some k10c9 }
def k10c10 : Code := { maxStack := 4, maxLocals := 3, code := jdk_68_method_73_code, exceptionTable := #[], attributes := #[] }
def k10m10 : Method := { name := "putStringAt", desc := "(ILjava/lang/String;)V", sig := { parameters := [.int, (.object "java/lang/String")], returnType := none }, accessFlags := 2, code := some k10c10 }
/-- java/lang/AbstractStringBuilder -/
def k10 : Class := { plain "java/lang/AbstractStringBuilder" (some 0) with
  accessFlags := 1056
  interfaces := #[9, 4]
  cf := some (fileOf pool10 10 #[] #[{ accessFlags := 0, nameIndex := 7, descriptorIndex := 8, attributes := #[] }, { accessFlags := 0, nameIndex := 7, descriptorIndex := 103, attributes := #[] }, { accessFlags := 1, nameIndex := 34, descriptorIndex := 35, attributes := #[] }, { accessFlags := 2, nameIndex := 102, descriptorIndex := 103, attributes := #[] }, { accessFlags := 2, nameIndex := 106, descriptorIndex := 107, attributes := #[] }, { accessFlags := 1, nameIndex := 45, descriptorIndex := 46, attributes := #[] }, { accessFlags := 1, nameIndex := 45, descriptorIndex := 511, attributes := #[] }, { accessFlags := 16, nameIndex := 552, descriptorIndex := 403, attributes := #[] }, { accessFlags := 16, nameIndex := 85, descriptorIndex := 86, attributes := #[] }, { accessFlags := 2, nameIndex := 217, descriptorIndex := 69, attributes := #[] }, { accessFlags := 2, nameIndex := 210, descriptorIndex := 211, attributes := #[] }] 1056 4 #[444, 48] #[{ accessFlags := 0, nameIndex := 17, descriptorIndex := 14, attributes := #[] }, { accessFlags := 0, nameIndex := 24, descriptorIndex := 25, attributes := #[] }, { accessFlags := 0, nameIndex := 75, descriptorIndex := 21, attributes := #[] }, { accessFlags := 0, nameIndex := 81, descriptorIndex := 82, attributes := #[] }, { accessFlags := 26, nameIndex := 13, descriptorIndex := 14, attributes := #[] }])
  fields := #[{ name := "value", type := (.array .byte), accessFlags := 0, slot := 0, constantValue := 0 }, { name := "coder", type := .byte, accessFlags := 0, slot := 1, constantValue := 0 }, { name := "maybeLatin1", type := .boolean, accessFlags := 0, slot := 2, constantValue := 0 }, { name := "count", type := .int, accessFlags := 0, slot := 3, constantValue := 0 }, { name := "EMPTYVALUE", type := (.array .byte), accessFlags := 26, slot := 0, constantValue := 0 }]
  methods := #[k10m0, k10m1, k10m2, k10m3, k10m4, k10m5, k10m6, k10m7, k10m8, k10m9, k10m10]
  instanceTypes := #[(.array .byte), .byte, .boolean, .int]
  staticTypes := #[(.array .byte)]
  resolved := Array.replicate 609 none
  statics := none }

def pool11 : Array CpInfo := pool [(1, .methodref 2 3), (0, .class_ 4), (0, .nameAndType 5 6), (0, u "java/lang/AbstractStringBuilder"), (0, u "<init>"), (0, u "(I)V"), (11, .class_ 20), (1, u "java/lang/String"), (3, .class_ 26), (1, u "java/lang/StringBuilder"), (0, u "append"), (0, u "(Ljava/lang/String;)Ljava/lang/StringBuilder;"), (0, .methodref 2 30), (0, .nameAndType 27 31), (0, u "(Ljava/lang/String;)Ljava/lang/AbstractStringBuilder;"), (21, .methodref 2 54), (0, .nameAndType 27 55), (0, u "(I)Ljava/lang/AbstractStringBuilder;"), (81, .methodref 18 138), (0, .nameAndType 5 139), (0, u "(Ljava/lang/StringBuilder;)V"), (5, u "()V"), (10, u "()I"), (111, u "(I)Ljava/lang/StringBuilder;"), (74, .methodref 2 344), (0, .nameAndType 345 156), (0, u "length"), (3, .class_ 350), (0, u "java/lang/Appendable"), (0, .class_ 352), (0, u "java/io/Serializable"), (0, .class_ 354), (0, u "java/lang/Comparable"), (0, .class_ 356), (0, u "java/lang/CharSequence"), (0, u "serialVersionUID"), (0, u "J"), (40, u "toString"), (0, u "()Ljava/lang/String;")] 21

def k11c0 : Code := { maxStack := 2, maxLocals := 1, code := jdk_67_method_1_code, exceptionTable := #[], attributes := #[] }
def k11m0 : Method := { name := "<init>", desc := "()V", sig := { parameters := [], returnType := none }, accessFlags := 1, code := some k11c0 }
def k11c1 : Code := { maxStack := 2, maxLocals := 2, code := jdk_67_method_7_code, exceptionTable := #[], attributes := #[] }
def k11m1 : Method := { name := "append", desc := "(Ljava/lang/String;)Ljava/lang/StringBuilder;", sig := { parameters := [(.object "java/lang/String")], returnType := some (.object "java/lang/StringBuilder") }, accessFlags := 1, code := some k11c1 }
def k11c2 : Code := { maxStack := 2, maxLocals := 2, code := jdk_67_method_15_code, exceptionTable := #[], attributes := #[] }
def k11m2 : Method := { name := "append", desc := "(I)Ljava/lang/StringBuilder;", sig := { parameters := [.int], returnType := some (.object "java/lang/StringBuilder") }, accessFlags := 1, code := some k11c2 }
def k11c3 : Code := { maxStack := 3, maxLocals := 1, code := jdk_67_method_42_code, exceptionTable := #[], attributes := #[] }
def k11m3 : Method := { name := "toString", desc := "()Ljava/lang/String;", sig := { parameters := [], returnType := some (.object "java/lang/String") }, accessFlags := 1, code := some k11c3 }
def k11c4 : Code := { maxStack := 1, maxLocals := 1, code := jdk_67_method_93_code, exceptionTable := #[], attributes := #[] }
def k11m4 : Method := { name := "length", desc := "()I", sig := { parameters := [], returnType := some .int }, accessFlags := 4161, code := some k11c4 }
/-- java/lang/StringBuilder -/
def k11 : Class := { plain "java/lang/StringBuilder" (some 10) with
  accessFlags := 49
  interfaces := #[9, 2, 3, 4]
  cf := some (fileOf pool11 24 #[] #[{ accessFlags := 1, nameIndex := 5, descriptorIndex := 145, attributes := #[] }, { accessFlags := 1, nameIndex := 27, descriptorIndex := 28, attributes := #[] }, { accessFlags := 1, nameIndex := 27, descriptorIndex := 268, attributes := #[] }, { accessFlags := 1, nameIndex := 399, descriptorIndex := 400, attributes := #[] }, { accessFlags := 4161, nameIndex := 345, descriptorIndex := 156, attributes := #[] }] 49 2 #[349, 351, 353, 355] #[{ accessFlags := 24, nameIndex := 357, descriptorIndex := 358, attributes := #[] }])
  fields := #[{ name := "serialVersionUID", type := .long, accessFlags := 24, slot := 0, constantValue := 0 }]
  methods := #[k11m0, k11m1, k11m2, k11m3, k11m4]
  instanceTypes := #[(.array .byte), .byte, .boolean, .int]
  staticTypes := #[.long]
  resolved := Array.replicate 422 none
  statics := none }

def pool12 : Array CpInfo := pool [(2, .class_ 4), (1, u "java/lang/Object"), (0, u "<init>"), (0, u "()V"), (1, .class_ 10), (1, u "java/lang/System"), (0, u "allowSecurityManager"), (0, u "I"), (16, u "cons"), (0, u "Ljava/io/Console;"), (77, .class_ 110), (1, u "java/lang/System$CallersHolder"), (43, u "initialErrStream"), (0, u "Ljava/io/PrintStream;"), (19, u "security"), (0, u "Ljava/lang/SecurityManager;"), (31, .class_ 209), (0, u "java/lang/System$1"), (7, u "props"), (0, u "Ljava/util/Properties;"), (2, u "lineSeparator"), (0, u "Ljava/lang/String;"), (96, .class_ 321), (1, u "java/lang/System$LoggerFinder"), (5, .class_ 328), (0, u "java/lang/System$Logger"), (67, u "err"), (2, u "out"), (91, u "notSupportedJnuEncoding"), (15, u "in"), (17, u "initialIn"), (0, u "Ljava/io/InputStream;"), (35, u "bootLayer"), (0, u "Ljava/lang/ModuleLayer;"), (99, .class_ 664), (0, u "java/lang/System$2"), (9, u "NEVER"), (2, u "MAYBE"), (49, u "arraycopy"), (0, u "(Ljava/lang/Object;ILjava/lang/Object;II)V"), (72, .class_ 802), (0, u "java/lang/System$Logger$Level")] 31

def k12m0 : Method := { name := "<init>", desc := "()V", sig := { parameters := [], returnType := none }, accessFlags := 2, code := none }
def k12m1 : Method := { name := "arraycopy", desc := "(Ljava/lang/Object;ILjava/lang/Object;II)V", sig := { parameters := [(.object "java/lang/Object"), .int, (.object "java/lang/Object"), .int, .int], returnType := none }, accessFlags := 265, code := none }
/-- java/lang/System -/
def k12 : Class := { plain "java/lang/System" (some 0) with
  accessFlags := 49
  interfaces := #[]
  cf := some (fileOf pool12 8 #[.nestMembers #[319, 327, 801, 108, 663, 208]] #[{ accessFlags := 2, nameIndex := 5, descriptorIndex := 6, attributes := #[] }, { accessFlags := 265, nameIndex := 727, descriptorIndex := 728, attributes := #[] }] 49 2 #[] #[{ accessFlags := 25, nameIndex := 507, descriptorIndex := 526, attributes := #[] }, { accessFlags := 25, nameIndex := 399, descriptorIndex := 155, attributes := #[] }, { accessFlags := 25, nameIndex := 396, descriptorIndex := 155, attributes := #[] }, { accessFlags := 10, nameIndex := 525, descriptorIndex := 526, attributes := #[] }, { accessFlags := 26, nameIndex := 674, descriptorIndex := 12, attributes := #[] }, { accessFlags := 26, nameIndex := 677, descriptorIndex := 12, attributes := #[] }, { accessFlags := 10, nameIndex := 11, descriptorIndex := 12, attributes := #[] }, { accessFlags := 74, nameIndex := 175, descriptorIndex := 176, attributes := #[] }, { accessFlags := 10, nameIndex := 491, descriptorIndex := 222, attributes := #[] }, { accessFlags := 74, nameIndex := 29, descriptorIndex := 30, attributes := #[] }, { accessFlags := 74, nameIndex := 154, descriptorIndex := 155, attributes := #[] }, { accessFlags := 10, nameIndex := 217, descriptorIndex := 218, attributes := #[] }, { accessFlags := 10, nameIndex := 221, descriptorIndex := 222, attributes := #[] }, { accessFlags := 8, nameIndex := 562, descriptorIndex := 563, attributes := #[] }])
  fields := #[{ name := "in", type := (.object "java/io/InputStream"), accessFlags := 25, slot := 0, constantValue := 0 }, { name := "out", type := (.object "java/io/PrintStream"), accessFlags := 25, slot := 1, constantValue := 0 }, { name := "err", type := (.object "java/io/PrintStream"), accessFlags := 25, slot := 2, constantValue := 0 }, { name := "initialIn", type := (.object "java/io/InputStream"), accessFlags := 10, slot := 3, constantValue := 0 }, { name := "NEVER", type := .int, accessFlags := 26, slot := 4, constantValue := 0 }, { name := "MAYBE", type := .int, accessFlags := 26, slot := 5, constantValue := 0 }, { name := "allowSecurityManager", type := .int, accessFlags := 10, slot := 6, constantValue := 0 }, { name := "security", type := (.object "java/lang/SecurityManager"), accessFlags := 74, slot := 7, constantValue := 0 }, { name := "notSupportedJnuEncoding", type := (.object "java/lang/String"), accessFlags := 10, slot := 8, constantValue := 0 }, { name := "cons", type := (.object "java/io/Console"), accessFlags := 74, slot := 9, constantValue := 0 }, { name := "initialErrStream", type := (.object "java/io/PrintStream"), accessFlags := 74, slot := 10, constantValue := 0 }, { name := "props", type := (.object "java/util/Properties"), accessFlags := 10, slot := 11, constantValue := 0 }, { name := "lineSeparator", type := (.object "java/lang/String"), accessFlags := 10, slot := 12, constantValue := 0 }, { name := "bootLayer", type := (.object "java/lang/ModuleLayer"), accessFlags := 8, slot := 13, constantValue := 0 }]
  methods := #[k12m0, k12m1]
  instanceTypes := #[]
  staticTypes := #[(.object "java/io/InputStream"), (.object "java/io/PrintStream"), (.object "java/io/PrintStream"), (.object "java/io/InputStream"), .int, .int, .int, (.object "java/lang/SecurityManager"), (.object "java/lang/String"), (.object "java/io/Console"), (.object "java/io/PrintStream"), (.object "java/util/Properties"), (.object "java/lang/String"), (.object "java/lang/ModuleLayer")]
  resolved := Array.replicate 834 none
  statics := none }

def pool13 : Array CpInfo := pool [(2, .class_ 4), (1, u "java/lang/Object"), (0, u "<init>"), (0, u "()V"), (1, .class_ 10), (1, u "java/lang/Number"), (2, .class_ 14), (0, u "java/io/Serializable"), (0, u "serialVersionUID"), (0, u "J")] 20

def k13m0 : Method := { name := "<init>", desc := "()V", sig := { parameters := [], returnType := none }, accessFlags := 1, code := none }
/-- java/lang/Number -/
def k13 : Class := { plain "java/lang/Number" (some 0) with
  accessFlags := 1057
  interfaces := #[2]
  cf := some (fileOf pool13 8 #[] #[{ accessFlags := 1, nameIndex := 5, descriptorIndex := 6, attributes := #[] }] 1057 2 #[13] #[{ accessFlags := 26, nameIndex := 15, descriptorIndex := 16, attributes := #[] }])
  fields := #[{ name := "serialVersionUID", type := .long, accessFlags := 26, slot := 0, constantValue := 0 }]
  methods := #[k13m0]
  instanceTypes := #[]
  staticTypes := #[.long]
  resolved := Array.replicate 37 none
  statics := none }

def pool14 : Array CpInfo := pool [(1, .class_ 2), (0, u "java/lang/Integer"), (16, u "digits"), (0, u "[C"), (33, u "(I)I"), (19, u "stringSize"), (2, u "getChars"), (0, u "(II[B)I"), (4, .fieldref 1 84), (0, .nameAndType 85 86), (0, u "DigitOnes"), (0, u "[B"), (0, .fieldref 1 88), (0, .nameAndType 89 86), (0, u "DigitTens"), (99, .class_ 190), (0, u "java/lang/Integer$IntegerCache"), (3, u "I"), (8, .class_ 204), (0, u "java/lang/Number"), (2, u "value"), (94, u "TYPE"), (0, u "Ljava/lang/Class;"), (0, .class_ 305), (0, u "java/lang/Comparable"), (0, .class_ 307), (0, u "java/lang/constant/Constable"), (0, .class_ 309), (0, u "java/lang/constant/ConstantDesc"), (0, u "MIN_VALUE"), (1, u "MAX_VALUE"), (3, u "SIZE"), (1, u "BYTES"), (1, u "serialVersionUID"), (0, u "J")] 131

def k14c0 : Code := { maxStack := 4, maxLocals := 7, code := jdk_33_method_12_code, exceptionTable := #[], attributes := #[] }
def k14m0 : Method := { name := "getChars", desc := "(II[B)I", sig := { parameters := [.int, .int, (.array .byte)], returnType := some .int }, accessFlags := 8, code := some k14c0 }
def k14c1 : Code := { maxStack := 2, maxLocals := 4, code := jdk_33_method_13_code, exceptionTable := #[], attributes := #[] }
def k14m1 : Method := { name := "stringSize", desc := "(I)I", sig := { parameters := [.int], returnType := some .int }, accessFlags := 8, code := some k14c1 }
/-- java/lang/Integer -/
def k14 : Class := { plain "java/lang/Integer" (some 13) with
  accessFlags := 49
  interfaces := #[3, 5, 6]
  cf := some (fileOf pool14 1 #[.nestMembers #[189]] #[{ accessFlags := 8, nameIndex := 77, descriptorIndex := 78, attributes := #[] }, { accessFlags := 8, nameIndex := 74, descriptorIndex := 54, attributes := #[] }] 49 203 #[304, 306, 308] #[{ accessFlags := 25, nameIndex := 310, descriptorIndex := 194, attributes := #[] }, { accessFlags := 25, nameIndex := 312, descriptorIndex := 194, attributes := #[] }, { accessFlags := 25, nameIndex := 302, descriptorIndex := 303, attributes := #[] }, { accessFlags := 24, nameIndex := 19, descriptorIndex := 20, attributes := #[] }, { accessFlags := 24, nameIndex := 89, descriptorIndex := 86, attributes := #[] }, { accessFlags := 24, nameIndex := 85, descriptorIndex := 86, attributes := #[] }, { accessFlags := 18, nameIndex := 207, descriptorIndex := 194, attributes := #[] }, { accessFlags := 25, nameIndex := 316, descriptorIndex := 194, attributes := #[] }, { accessFlags := 25, nameIndex := 318, descriptorIndex := 194, attributes := #[] }, { accessFlags := 26, nameIndex := 320, descriptorIndex := 321, attributes := #[] }])
  fields := #[{ name := "MIN_VALUE", type := .int, accessFlags := 25, slot := 0, constantValue := 0 }, { name := "MAX_VALUE", type := .int, accessFlags := 25, slot := 1, constantValue := 0 }, { name := "TYPE", type := (.object "java/lang/Class"), accessFlags := 25, slot := 2, constantValue := 0 }, { name := "digits", type := (.array .char), accessFlags := 24, slot := 3, constantValue := 0 }, { name := "DigitTens", type := (.array .byte), accessFlags := 24, slot := 4, constantValue := 0 }, { name := "DigitOnes", type := (.array .byte), accessFlags := 24, slot := 5, constantValue := 0 }, { name := "value", type := .int, accessFlags := 18, slot := 0, constantValue := 0 }, { name := "SIZE", type := .int, accessFlags := 25, slot := 6, constantValue := 0 }, { name := "BYTES", type := .int, accessFlags := 25, slot := 7, constantValue := 0 }, { name := "serialVersionUID", type := .long, accessFlags := 26, slot := 8, constantValue := 0 }]
  methods := #[k14m0, k14m1]
  instanceTypes := #[.int]
  staticTypes := #[.int, .int, (.object "java/lang/Class"), (.array .char), (.array .byte), (.array .byte), .int, .int, .long]
  resolved := Array.replicate 453 none
  statics := some 1 }

def pool15 : Array CpInfo := pool [(9, u "<init>"), (6, .class_ 18), (1, u "java/lang/Object"), (0, u "()V"), (1, .class_ 23), (1, u "jdk/internal/util/ArraysSupport"), (0, u "LOG2_ARRAY_LONG_INDEX_SCALE"), (0, u "I"), (2, u "U"), (0, u "Ljdk/internal/misc/Unsafe;"), (8, u "BIG_ENDIAN"), (0, u "Z"), (8, u "LOG2_BYTE_BIT_SIZE"), (4, u "LOG2_ARRAY_INT_INDEX_SCALE"), (54, u "JLA"), (0, u "Ljdk/internal/access/JavaLangAccess;"), (11, u "LOG2_ARRAY_BOOLEAN_INDEX_SCALE"), (9, u "LOG2_ARRAY_BYTE_INDEX_SCALE"), (5, u "LOG2_ARRAY_CHAR_INDEX_SCALE"), (5, u "LOG2_ARRAY_SHORT_INDEX_SCALE"), (18, u "LOG2_ARRAY_FLOAT_INDEX_SCALE"), (24, u "LOG2_ARRAY_DOUBLE_INDEX_SCALE"), (6, .methodref 195 196), (0, .class_ 197), (0, .nameAndType 198 199), (0, u "java/lang/Math"), (0, u "max"), (0, u "(II)I"), (0, .integer 2147483639), (76, u "T_BOOLEAN"), (2, u "T_CHAR"), (1, u "T_FLOAT"), (1, u "T_DOUBLE"), (1, u "T_BYTE"), (1, u "T_SHORT"), (1, u "T_INT"), (1, u "T_LONG"), (1, u "SOFT_MAX_ARRAY_LENGTH"), (56, u "newLength"), (0, u "(III)I")] 25

def k15m0 : Method := { name := "<init>", desc := "()V", sig := { parameters := [], returnType := none }, accessFlags := 2, code := none }
def k15c1 : Code := { maxStack := 3, maxLocals := 4, code := jdk_48_method_27_code, exceptionTable := #[], attributes := #[] }
def k15m1 : Method := { name := "newLength", desc := "(III)I", sig := { parameters := [.int, .int, .int], returnType := some .int }, accessFlags := 9, code := some k15c1 }
/-- jdk/internal/util/ArraysSupport -/
def k15 : Class := { plain "jdk/internal/util/ArraysSupport" (some 0) with
  accessFlags := 33
  interfaces := #[]
  cf := some (fileOf pool15 21 #[] #[{ accessFlags := 2, nameIndex := 9, descriptorIndex := 19, attributes := #[] }, { accessFlags := 9, nameIndex := 351, descriptorIndex := 352, attributes := #[] }] 33 16 #[] #[{ accessFlags := 24, nameIndex := 28, descriptorIndex := 29, attributes := #[] }, { accessFlags := 26, nameIndex := 38, descriptorIndex := 39, attributes := #[] }, { accessFlags := 25, nameIndex := 121, descriptorIndex := 25, attributes := #[] }, { accessFlags := 25, nameIndex := 131, descriptorIndex := 25, attributes := #[] }, { accessFlags := 25, nameIndex := 137, descriptorIndex := 25, attributes := #[] }, { accessFlags := 25, nameIndex := 143, descriptorIndex := 25, attributes := #[] }, { accessFlags := 25, nameIndex := 53, descriptorIndex := 25, attributes := #[] }, { accessFlags := 25, nameIndex := 24, descriptorIndex := 25, attributes := #[] }, { accessFlags := 25, nameIndex := 162, descriptorIndex := 25, attributes := #[] }, { accessFlags := 25, nameIndex := 187, descriptorIndex := 25, attributes := #[] }, { accessFlags := 26, nameIndex := 48, descriptorIndex := 25, attributes := #[] }, { accessFlags := 25, nameIndex := 277, descriptorIndex := 25, attributes := #[] }, { accessFlags := 25, nameIndex := 280, descriptorIndex := 25, attributes := #[] }, { accessFlags := 25, nameIndex := 282, descriptorIndex := 25, attributes := #[] }, { accessFlags := 25, nameIndex := 284, descriptorIndex := 25, attributes := #[] }, { accessFlags := 25, nameIndex := 286, descriptorIndex := 25, attributes := #[] }, { accessFlags := 25, nameIndex := 288, descriptorIndex := 25, attributes := #[] }, { accessFlags := 25, nameIndex := 290, descriptorIndex := 25, attributes := #[] }, { accessFlags := 25, nameIndex := 292, descriptorIndex := 25, attributes := #[] }, { accessFlags := 26, nameIndex := 108, descriptorIndex := 109, attributes := #[] }, { accessFlags := 25, nameIndex := 294, descriptorIndex := 25, attributes := #[] }])
  fields := #[{ name := "U", type := (.object "jdk/internal/misc/Unsafe"), accessFlags := 24, slot := 0, constantValue := 0 }, { name := "BIG_ENDIAN", type := .boolean, accessFlags := 26, slot := 1, constantValue := 0 }, { name := "LOG2_ARRAY_BOOLEAN_INDEX_SCALE", type := .int, accessFlags := 25, slot := 2, constantValue := 0 }, { name := "LOG2_ARRAY_BYTE_INDEX_SCALE", type := .int, accessFlags := 25, slot := 3, constantValue := 0 }, { name := "LOG2_ARRAY_CHAR_INDEX_SCALE", type := .int, accessFlags := 25, slot := 4, constantValue := 0 }, { name := "LOG2_ARRAY_SHORT_INDEX_SCALE", type := .int, accessFlags := 25, slot := 5, constantValue := 0 }, { name := "LOG2_ARRAY_INT_INDEX_SCALE", type := .int, accessFlags := 25, slot := 6, constantValue := 0 }, { name := "LOG2_ARRAY_LONG_INDEX_SCALE", type := .int, accessFlags := 25, slot := 7, constantValue := 0 }, { name := "LOG2_ARRAY_FLOAT_INDEX_SCALE", type := .int, accessFlags := 25, slot := 8, constantValue := 0 }, { name := "LOG2_ARRAY_DOUBLE_INDEX_SCALE", type := .int, accessFlags := 25, slot := 9, constantValue := 0 }, { name := "LOG2_BYTE_BIT_SIZE", type := .int, accessFlags := 26, slot := 10, constantValue := 0 }, { name := "T_BOOLEAN", type := .int, accessFlags := 25, slot := 11, constantValue := 0 }, { name := "T_CHAR", type := .int, accessFlags := 25, slot := 12, constantValue := 0 }, { name := "T_FLOAT", type := .int, accessFlags := 25, slot := 13, constantValue := 0 }, { name := "T_DOUBLE", type := .int, accessFlags := 25, slot := 14, constantValue := 0 }, { name := "T_BYTE", type := .int, accessFlags := 25, slot := 15, constantValue := 0 }, { name := "T_SHORT", type := .int, accessFlags := 25, slot := 16, constantValue := 0 }, { name := "T_INT", type := .int, accessFlags := 25, slot := 17, constantValue := 0 }, { name := "T_LONG", type := .int, accessFlags := 25, slot := 18, constantValue := 0 }, { name := "JLA", type := (.object "jdk/internal/access/JavaLangAccess"), accessFlags := 26, slot := 19, constantValue := 0 }, { name := "SOFT_MAX_ARRAY_LENGTH", type := .int, accessFlags := 25, slot := 20, constantValue := 0 }]
  methods := #[k15m0, k15m1]
  instanceTypes := #[]
  staticTypes := #[(.object "jdk/internal/misc/Unsafe"), .boolean, .int, .int, .int, .int, .int, .int, .int, .int, .int, .int, .int, .int, .int, .int, .int, .int, .int, (.object "jdk/internal/access/JavaLangAccess"), .int]
  resolved := Array.replicate 378 none
  statics := none }

def pool16 : Array CpInfo := pool [(1, .class_ 2), (0, u "java/lang/Math"), (1, .class_ 6), (1, u "java/lang/Object"), (0, u "<init>"), (0, u "()V"), (89, .class_ 100), (1, u "java/lang/Math$RandomNumberGeneratorHolder"), (71, u "negativeZeroFloatBits"), (0, u "J"), (2, u "negativeZeroDoubleBits"), (21, u "max"), (2, u "min"), (43, u "$assertionsDisabled"), (0, u "Z"), (88, u "(II)I"), (2, u "twoToTheDoubleScaleDown"), (0, u "D"), (4, u "twoToTheDoubleScaleUp"), (9, u "E"), (3, u "PI"), (2, u "TAU"), (2, u "DEGREES_TO_RADIANS"), (0, u "RADIANS_TO_DEGREES")] 94

def k16m0 : Method := { name := "<init>", desc := "()V", sig := { parameters := [], returnType := none }, accessFlags := 2, code := none }
def k16c1 : Code := { maxStack := 2, maxLocals := 2, code := jdk_29_method_65_code, exceptionTable := #[], attributes := #[] }
def k16m1 : Method := { name := "max", desc := "(II)I", sig := { parameters := [.int, .int], returnType := some .int }, accessFlags := 9, code := some k16c1 }
def k16c2 : Code := { maxStack := 2, maxLocals := 2, code := jdk_29_method_69_code, exceptionTable := #[], attributes := #[] }
def k16m2 : Method := { name := "min", desc := "(II)I", sig := { parameters := [.int, .int], returnType := some .int }, accessFlags := 9, code := some k16c2 }
/-- java/lang/Math -/
def k16 : Class := { plain "java/lang/Math" (some 0) with
  accessFlags := 49
  interfaces := #[]
  cf := some (fileOf pool16 1 #[.nestMembers #[98]] #[{ accessFlags := 2, nameIndex := 7, descriptorIndex := 8, attributes := #[] }, { accessFlags := 9, nameIndex := 198, descriptorIndex := 335, attributes := #[] }, { accessFlags := 9, nameIndex := 201, descriptorIndex := 335, attributes := #[] }] 49 4 #[] #[{ accessFlags := 25, nameIndex := 354, descriptorIndex := 339, attributes := #[] }, { accessFlags := 25, nameIndex := 358, descriptorIndex := 339, attributes := #[] }, { accessFlags := 25, nameIndex := 361, descriptorIndex := 339, attributes := #[] }, { accessFlags := 26, nameIndex := 364, descriptorIndex := 339, attributes := #[] }, { accessFlags := 26, nameIndex := 365, descriptorIndex := 339, attributes := #[] }, { accessFlags := 26, nameIndex := 172, descriptorIndex := 173, attributes := #[] }, { accessFlags := 26, nameIndex := 176, descriptorIndex := 173, attributes := #[] }, { accessFlags := 8, nameIndex := 344, descriptorIndex := 339, attributes := #[] }, { accessFlags := 8, nameIndex := 338, descriptorIndex := 339, attributes := #[] }, { accessFlags := 4120, nameIndex := 245, descriptorIndex := 246, attributes := #[] }])
  fields := #[{ name := "E", type := .double, accessFlags := 25, slot := 0, constantValue := 0 }, { name := "PI", type := .double, accessFlags := 25, slot := 1, constantValue := 0 }, { name := "TAU", type := .double, accessFlags := 25, slot := 2, constantValue := 0 }, { name := "DEGREES_TO_RADIANS", type := .double, accessFlags := 26, slot := 3, constantValue := 0 }, { name := "RADIANS_TO_DEGREES", type := .double, accessFlags := 26, slot := 4, constantValue := 0 }, { name := "negativeZeroFloatBits", type := .long, accessFlags := 26, slot := 5, constantValue := 0 }, { name := "negativeZeroDoubleBits", type := .long, accessFlags := 26, slot := 6, constantValue := 0 }, { name := "twoToTheDoubleScaleUp", type := .double, accessFlags := 8, slot := 7, constantValue := 0 }, { name := "twoToTheDoubleScaleDown", type := .double, accessFlags := 8, slot := 8, constantValue := 0 }, { name := "$assertionsDisabled", type := .boolean, accessFlags := 4120, slot := 9, constantValue := 0 }]
  methods := #[k16m0, k16m1, k16m2]
  instanceTypes := #[]
  staticTypes := #[.double, .double, .double, .double, .double, .long, .long, .double, .double, .boolean]
  resolved := Array.replicate 460 none
  statics := none }

def pool17 : Array CpInfo := pool [(2, .class_ 4), (1, u "java/lang/Object"), (0, u "<init>"), (0, u "()V"), (7, .class_ 16), (1, u "java/util/Arrays"), (57, .class_ 76), (1, u "java/util/Arrays$NaturalOrder"), (36, .class_ 115), (1, u "java/util/Arrays$LegacyMergeSort"), (1, u "Z"), (21, u "copyOfRange"), (10, .methodref 151 152), (0, .class_ 153), (0, .nameAndType 154 155), (0, u "java/lang/System"), (0, u "arraycopy"), (0, u "(Ljava/lang/Object;ILjava/lang/Object;II)V"), (146, u "copyOf"), (1, .methodref 305 306), (0, .class_ 307), (0, .nameAndType 308 309), (0, u "java/lang/Math"), (0, u "min"), (0, u "(II)I"), (29, .methodref 14 340), (0, .nameAndType 341 342), (0, u "copyOfRangeByte"), (0, u "([BII)[B"), (0, .methodref 14 344), (0, .nameAndType 345 346), (0, u "checkLength"), (0, u "(II)V"), (28, .class_ 376), (0, u "java/util/Arrays$ArrayList"), (68, u "$assertionsDisabled"), (269, u "MIN_ARRAY_SORT_GRAN"), (0, u "I"), (2, u "INSERTIONSORT_THRESHOLD"), (149, u "([BI)[B"), (105, .class_ 976), (0, u "java/util/Arrays$ArrayItr")] 52

def k17m0 : Method := { name := "<init>", desc := "()V", sig := { parameters := [], returnType := none }, accessFlags := 2, code := none }
def k17c1 : Code := { maxStack := 6, maxLocals := 3, code := jdk_65_method_121_code, exceptionTable := #[], attributes := #[] }
def k17m1 : Method := { name := "copyOf", desc := "([BI)[B", sig := { parameters := [(.array .byte), .int], returnType := some (.array .byte) }, accessFlags := 9, code := some k17c1 }
def k17c2 : Code := { maxStack := 4, maxLocals := 2, code := jdk_65_method_131_code, exceptionTable := #[], attributes := #[] }
def k17m2 : Method := { name := "checkLength", desc := "(II)V", sig := { parameters := [.int, .int], returnType := none }, accessFlags := 10, code := some k17c2 }
def k17c3 : Code := { maxStack := 3, maxLocals := 3, code := jdk_65_method_132_code, exceptionTable := #[], attributes := #[] }
def k17m3 : Method := { name := "copyOfRange", desc := "([BII)[B", sig := { parameters := [(.array .byte), .int, .int], returnType := some (.array .byte) }, accessFlags := 9, code := some k17c3 }
def k17c4 : Code := { maxStack := 6, maxLocals := 5, code := jdk_65_method_133_code, exceptionTable := #[], attributes := #[] }
def k17m4 : Method := { name := "copyOfRangeByte", desc := "([BII)[B", sig := { parameters := [(.array .byte), .int, .int], returnType := some (.array .byte) }, accessFlags := 10, code := some k17c4 }
/-- java/util/Arrays -/
def k17 : Class := { plain "java/util/Arrays" (some 0) with
  accessFlags := 49
  interfaces := #[]
  cf := some (fileOf pool17 14 #[.nestMembers #[975, 375, 113, 74]] #[{ accessFlags := 2, nameIndex := 5, descriptorIndex := 6, attributes := #[] }, { accessFlags := 9, nameIndex := 302, descriptorIndex := 869, attributes := #[] }, { accessFlags := 10, nameIndex := 345, descriptorIndex := 346, attributes := #[] }, { accessFlags := 9, nameIndex := 139, descriptorIndex := 342, attributes := #[] }, { accessFlags := 10, nameIndex := 341, descriptorIndex := 342, attributes := #[] }] 49 2 #[] #[{ accessFlags := 26, nameIndex := 715, descriptorIndex := 716, attributes := #[] }, { accessFlags := 26, nameIndex := 719, descriptorIndex := 716, attributes := #[] }, { accessFlags := 4120, nameIndex := 445, descriptorIndex := 117, attributes := #[] }])
  fields := #[{ name := "MIN_ARRAY_SORT_GRAN", type := .int, accessFlags := 26, slot := 0, constantValue := 0 }, { name := "INSERTIONSORT_THRESHOLD", type := .int, accessFlags := 26, slot := 1, constantValue := 0 }, { name := "$assertionsDisabled", type := .boolean, accessFlags := 4120, slot := 2, constantValue := 0 }]
  methods := #[k17m0, k17m1, k17m2, k17m3, k17m4]
  instanceTypes := #[]
  staticTypes := #[.int, .int, .boolean]
  resolved := Array.replicate 1029 none
  statics := none }

def pool18 : Array CpInfo := pool [(4, .class_ 6), (1, u "java/lang/Object"), (0, u "<init>"), (0, u "()V"), (5, .class_ 16), (1, u "java/lang/StringLatin1"), (104, u "$assertionsDisabled"), (0, u "Z"), (98, .class_ 223), (1, u "java/lang/StringLatin1$LinesSpliterator"), (57, u "equals"), (0, u "([B[B)Z"), (107, .class_ 391), (0, u "java/lang/StringLatin1$CharsSpliterator")] 3

def k18m0 : Method := { name := "<init>", desc := "()V", sig := { parameters := [], returnType := none }, accessFlags := 0, code := none }
def k18c1 : Code := { maxStack := 3, maxLocals := 3, code := jdk_43_method_13_code, exceptionTable := #[], attributes := #[] }
def k18m1 : Method := { name := "equals", desc := "([B[B)Z", sig := { parameters := [(.array .byte), (.array .byte)], returnType := some .boolean }, accessFlags := 9, code := some k18c1 }
/-- java/lang/StringLatin1 -/
def k18 : Class := { plain "java/lang/StringLatin1" (some 0) with
  accessFlags := 48
  interfaces := #[]
  cf := some (fileOf pool18 14 #[.nestMembers #[390, 221]] #[{ accessFlags := 0, nameIndex := 7, descriptorIndex := 8, attributes := #[] }, { accessFlags := 9, nameIndex := 281, descriptorIndex := 282, attributes := #[] }] 48 4 #[] #[{ accessFlags := 4120, nameIndex := 121, descriptorIndex := 122, attributes := #[] }])
  fields := #[{ name := "$assertionsDisabled", type := .boolean, accessFlags := 4120, slot := 0, constantValue := 0 }]
  methods := #[k18m0, k18m1]
  instanceTypes := #[]
  staticTypes := #[.boolean]
  resolved := Array.replicate 395 none
  statics := none }

def pool19 : Array CpInfo := pool [(2, .class_ 4), (1, u "java/lang/Object"), (0, u "<init>"), (0, u "()V"), (17, .class_ 26), (1, u "jdk/internal/util/Preconditions"), (28, .class_ 56), (0, u "jdk/internal/util/Preconditions$4"), (57, .class_ 115), (0, u "jdk/internal/util/Preconditions$1"), (7, u "SIOOBE_FORMATTER"), (0, u "Ljava/util/function/BiFunction;"), (0, .class_ 126), (0, u "jdk/internal/util/Preconditions$2"), (3, u "AIOOBE_FORMATTER"), (0, .class_ 132), (0, u "jdk/internal/util/Preconditions$3"), (3, u "IOOBE_FORMATTER")] 57

def k19m0 : Method := { name := "<init>", desc := "()V", sig := { parameters := [], returnType := none }, accessFlags := 1, code := none }
/-- jdk/internal/util/Preconditions -/
def k19 : Class := { plain "jdk/internal/util/Preconditions" (some 0) with
  accessFlags := 33
  interfaces := #[]
  cf := some (fileOf pool19 24 #[.nestMembers #[55, 131, 125, 114]] #[{ accessFlags := 1, nameIndex := 5, descriptorIndex := 6, attributes := #[] }] 33 2 #[] #[{ accessFlags := 25, nameIndex := 123, descriptorIndex := 124, attributes := #[] }, { accessFlags := 25, nameIndex := 130, descriptorIndex := 124, attributes := #[] }, { accessFlags := 25, nameIndex := 136, descriptorIndex := 124, attributes := #[] }])
  fields := #[{ name := "SIOOBE_FORMATTER", type := (.object "java/util/function/BiFunction"), accessFlags := 25, slot := 0, constantValue := 0 }, { name := "AIOOBE_FORMATTER", type := (.object "java/util/function/BiFunction"), accessFlags := 25, slot := 1, constantValue := 0 }, { name := "IOOBE_FORMATTER", type := (.object "java/util/function/BiFunction"), accessFlags := 25, slot := 2, constantValue := 0 }]
  methods := #[k19m0]
  instanceTypes := #[]
  staticTypes := #[(.object "java/util/function/BiFunction"), (.object "java/util/function/BiFunction"), (.object "java/util/function/BiFunction")]
  resolved := Array.replicate 194 none
  statics := some 2 }

def pool20 : Array CpInfo := pool [(1, u "java/lang/Cloneable"), (0, .class_ 1), (0, u "java/lang/Object"), (0, .class_ 3)] 3

/-- java/lang/Cloneable -/
def k20 : Class := { plain "java/lang/Cloneable" (some 0) with
  accessFlags := 1537
  interfaces := #[]
  cf := some (fileOf pool20 2 #[] #[] 1537 4 #[] #[])
  fields := #[]
  methods := #[]
  instanceTypes := #[]
  staticTypes := #[]
  resolved := Array.replicate 8 none
  statics := none }

/-- the primitive byte -/
def k21 : Class := { plain "byte" none with kind := .primitive 'B', accessFlags := 0x411 }
/-- [B -/
def k22 : Class := { plain "[B" (some 0) with kind := .array 21 .byte, interfaces := #[20, 2], accessFlags := 1041 }

/-- [Ljava/lang/String; -/
def k23 : Class := { plain "[Ljava/lang/String;" (some 0) with kind := .array 7 (.object "java/lang/String"), interfaces := #[20, 2], accessFlags := 1041 }

def heap : Heap := #[{ cls := 7, slots := #[.long 0, .int 1, .null, .int 0, .null, .int 0, .int 0], vm := .statics 7 },
  { cls := 14, slots := #[.int 0, .int 0, .null, .null, .ref 4, .ref 3, .int 0, .int 0, .long 0], vm := .statics 14 },
  { cls := 19, slots := #[.null, .null, .null], vm := .statics 19 },
  { cls := 22, slots := #[.int 48, .int 49, .int 50, .int 51, .int 52, .int 53, .int 54, .int 55, .int 56, .int 57, .int 48, .int 49, .int 50, .int 51, .int 52, .int 53, .int 54, .int 55, .int 56, .int 57, .int 48, .int 49, .int 50, .int 51, .int 52, .int 53, .int 54, .int 55, .int 56, .int 57, .int 48, .int 49, .int 50, .int 51, .int 52, .int 53, .int 54, .int 55, .int 56, .int 57, .int 48, .int 49, .int 50, .int 51, .int 52, .int 53, .int 54, .int 55, .int 56, .int 57, .int 48, .int 49, .int 50, .int 51, .int 52, .int 53, .int 54, .int 55, .int 56, .int 57, .int 48, .int 49, .int 50, .int 51, .int 52, .int 53, .int 54, .int 55, .int 56, .int 57, .int 48, .int 49, .int 50, .int 51, .int 52, .int 53, .int 54, .int 55, .int 56, .int 57, .int 48, .int 49, .int 50, .int 51, .int 52, .int 53, .int 54, .int 55, .int 56, .int 57, .int 48, .int 49, .int 50, .int 51, .int 52, .int 53, .int 54, .int 55, .int 56, .int 57], vm := .none },
  { cls := 22, slots := #[.int 48, .int 48, .int 48, .int 48, .int 48, .int 48, .int 48, .int 48, .int 48, .int 48, .int 49, .int 49, .int 49, .int 49, .int 49, .int 49, .int 49, .int 49, .int 49, .int 49, .int 50, .int 50, .int 50, .int 50, .int 50, .int 50, .int 50, .int 50, .int 50, .int 50, .int 51, .int 51, .int 51, .int 51, .int 51, .int 51, .int 51, .int 51, .int 51, .int 51, .int 52, .int 52, .int 52, .int 52, .int 52, .int 52, .int 52, .int 52, .int 52, .int 52, .int 53, .int 53, .int 53, .int 53, .int 53, .int 53, .int 53, .int 53, .int 53, .int 53, .int 54, .int 54, .int 54, .int 54, .int 54, .int 54, .int 54, .int 54, .int 54, .int 54, .int 55, .int 55, .int 55, .int 55, .int 55, .int 55, .int 55, .int 55, .int 55, .int 55, .int 56, .int 56, .int 56, .int 56, .int 56, .int 56, .int 56, .int 56, .int 56, .int 56, .int 57, .int 57, .int 57, .int 57, .int 57, .int 57, .int 57, .int 57, .int 57, .int 57], vm := .none }]
def classes : Array Class := #[k0, k1, k2, k3, k4, k5, k6, k7, k8, k9, k10, k11, k12, k13, k14, k15, k16, k17, k18, k19, k20, k21, k22, k23]
def interned : List (Array UInt16 × Addr) := []
def slotsUsed : Nat := 219
def theMethod : MethodId := ⟨1, 1⟩
def args0 : Array Value := #[.int 0, .int 0]
def aboutOver (below : List Frame) : State where
  vm := { classes := classes, interned := interned.toArray }
  heap := heap
  slotsUsed := slotsUsed
  threads := #[{ frames := .invoking theMethod args0 :: below }]
def below0 : List Frame := [.native { method := ⟨0, 0⟩, args := #[] }]
def about1 : State := aboutOver below0
def p0 : Program := .bare "" "" ""
def e0 : Env := launch0.env 0 0 0
theorem w_frames : about1.frames = Frame.invoking theMethod args0 :: below0 := rfl
set_option maxRecDepth 65536 in
theorem w_args : argsFit about1.vm theMethod args0 = true := by decide +kernel
set_option maxRecDepth 65536 in
theorem w_heap : heapFits about1 = true := by decide +kernel
set_option maxRecDepth 65536 in
theorem w_runnable : about1.curStatus? = some .runnable := by decide +kernel
set_option maxRecDepth 65536 in
theorem w_alone : about1.alone = true := by decide +kernel
set_option maxRecDepth 65536 in
theorem w_named : about1.methodNamed? x = some theMethod := by decide +kernel
set_option maxRecDepth 65536 in
theorem w_hears : about1.hears theMethod below0 = true := by decide +kernel
set_option maxRecDepth 65536 in
theorem w_ripe : about1.ripe theMethod args0 below0 = true := by decide +kernel
theorem w_running : about1.status = .running := rfl
set_option maxRecDepth 65536 in
theorem w_room : about1.hasRoom e0.platform room_1 = true :=
  launch0.hasRoom_least _ room_1 (by decide +kernel) (by decide +kernel) (by decide +kernel) (by decide +kernel) (by decide +kernel) (by decide +kernel)
theorem allAtoms_all (ts : List Jvm.Cond) (a : Array Jvm.Value) (st : Jvm.State) : (allAtoms ts).before a st = ts.all (fun c => c.before a st) := by
  induction ts with
  | nil => rfl
  | cons c t ih =>
    show (Jvm.Cond.and c (allAtoms t)).before a st = _
    rw [Jvm.Cond.before_and, ih, List.all_cons]
def words1 : List Jvm.Cond := Jvm.Cond.code x code maxLocals ret :: tables_1
/-- a 'code' word, met by the world's own term for the bytes: nothing is compared byte by byte -/
theorem code_word {y : MethodName} {bytes : ByteArray} {mx : Nat} {rt : Option FieldType} {a : Array Value} {s : State} {m : MethodId} {meth : Method} {c : Code} (h1 : s.methodNamed? y = some m) (h2 : s.vm.method? m = some meth) (h3 : meth.code = some c) (h4 : c.code = bytes)
    (h5 : (c.maxLocals == mx && c.exceptionTable.isEmpty && decide (c.maxStack ≤ mostOperands) && decide (meth.sig.returnType = rt) && !meth.locks && decide (parseMethodDescriptor y.desc = some meth.sig)) = true) : (Jvm.Cond.code y bytes mx rt).before a s = true := by
  simp only [Bool.and_eq_true, beq_iff_eq, Bool.not_eq_true', decide_eq_true_eq] at h5
  obtain ⟨⟨⟨⟨⟨g1, g2⟩, g3⟩, g4⟩, g5⟩, g6⟩ := h5
  simp [Cond.before, Cond.holds, Cond.value, h1, h2, h3, h4, g1, g2, g3, g4, g5, g6]
def isCode : Jvm.Cond → Bool
  | .code _ _ _ _ => true
  | _ => false
theorem all_split {L : List Jvm.Cond} {P : Jvm.Cond → Bool} (h1 : L.all (fun c => isCode c || P c) = true) (h2 : ∀ c ∈ L.filter isCode, P c = true) : L.all P = true := by
  refine List.all_eq_true.mpr fun c hc => ?_
  have h := List.all_eq_true.mp h1 c hc
  rcases Bool.eq_false_or_eq_true (isCode c) with hi | hi
  · exact h2 c (List.mem_filter.mpr ⟨hc, hi⟩)
  · simpa [hi] using h
set_option maxRecDepth 65536 in
theorem w_c0 : (Jvm.Cond.code x code maxLocals ret).before args0 about1 = true := code_word (m := ⟨1, 1⟩) (meth := k1m1) (c := k1c1) (by decide +kernel) rfl rfl rfl (by decide +kernel)
set_option maxRecDepth 65536 in
theorem w_c1 : (Jvm.Cond.code ({ cls := "com/example/savepoint/savepoint/AmqpMessage", name := "<init>", desc := "([BZ)V" } : Jvm.MethodName) prog_1_method_1_code (3 : Nat) (Option.none : Option Jvm.ClassFile.FieldType)).before args0 about1 = true := code_word (m := ⟨8, 0⟩) (meth := k8m0) (c := k8c0) (by decide +kernel) rfl rfl rfl (by decide +kernel)
set_option maxRecDepth 65536 in
theorem w_c2 : (Jvm.Cond.code ({ cls := "java/lang/Object", name := "<init>", desc := "()V" } : Jvm.MethodName) object_method_1_code (1 : Nat) (Option.none : Option Jvm.ClassFile.FieldType)).before args0 about1 = true := code_word (m := ⟨0, 0⟩) (meth := k0m0) (c := k0c0) (by decide +kernel) rfl rfl rfl (by decide +kernel)
set_option maxRecDepth 65536 in
theorem w_c3 : (Jvm.Cond.code ({ cls := "com/example/savepoint/savepoint/AmqpMessage", name := "toString", desc := "()Ljava/lang/String;" } : Jvm.MethodName) prog_1_method_4_code (1 : Nat) (Option.some (Jvm.ClassFile.FieldType.object "java/lang/String"))).before args0 about1 = true := code_word (m := ⟨8, 1⟩) (meth := k8m1) (c := k8c1) (by decide +kernel) rfl rfl rfl (by decide +kernel)
set_option maxRecDepth 65536 in
theorem w_c4 : (Jvm.Cond.code ({ cls := "java/lang/StringBuilder", name := "<init>", desc := "()V" } : Jvm.MethodName) jdk_67_method_1_code (1 : Nat) (Option.none : Option Jvm.ClassFile.FieldType)).before args0 about1 = true := code_word (m := ⟨11, 0⟩) (meth := k11m0) (c := k11c0) (by decide +kernel) rfl rfl rfl (by decide +kernel)
set_option maxRecDepth 65536 in
theorem w_c5 : (Jvm.Cond.code ({ cls := "java/lang/AbstractStringBuilder", name := "<init>", desc := "(I)V" } : Jvm.MethodName) jdk_68_method_2_code (2 : Nat) (Option.none : Option Jvm.ClassFile.FieldType)).before args0 about1 = true := code_word (m := ⟨10, 1⟩) (meth := k10m1) (c := k10c1) (by decide +kernel) rfl rfl rfl (by decide +kernel)
set_option maxRecDepth 65536 in
theorem w_c6 : (Jvm.Cond.code ({ cls := "java/lang/StringBuilder", name := "append", desc := "(Ljava/lang/String;)Ljava/lang/StringBuilder;" } : Jvm.MethodName) jdk_67_method_7_code (2 : Nat) (Option.some (Jvm.ClassFile.FieldType.object "java/lang/StringBuilder"))).before args0 about1 = true := code_word (m := ⟨11, 1⟩) (meth := k11m1) (c := k11c1) (by decide +kernel) rfl rfl rfl (by decide +kernel)
set_option maxRecDepth 65536 in
theorem w_c7 : (Jvm.Cond.code ({ cls := "java/lang/AbstractStringBuilder", name := "append", desc := "(Ljava/lang/String;)Ljava/lang/AbstractStringBuilder;" } : Jvm.MethodName) jdk_68_method_22_code (3 : Nat) (Option.some (Jvm.ClassFile.FieldType.object "java/lang/AbstractStringBuilder"))).before args0 about1 = true := code_word (m := ⟨10, 5⟩) (meth := k10m5) (c := k10c5) (by decide +kernel) rfl rfl rfl (by decide +kernel)
set_option maxRecDepth 65536 in
theorem w_c8 : (Jvm.Cond.code ({ cls := "java/lang/String", name := "length", desc := "()I" } : Jvm.MethodName) jdk_42_method_54_code (1 : Nat) (Option.some Jvm.ClassFile.FieldType.int)).before args0 about1 = true := code_word (m := ⟨7, 2⟩) (meth := k7m2) (c := k7c2) (by decide +kernel) rfl rfl rfl (by decide +kernel)
set_option maxRecDepth 65536 in
theorem w_c9 : (Jvm.Cond.code ({ cls := "java/lang/String", name := "coder", desc := "()B" } : Jvm.MethodName) jdk_42_method_152_code (1 : Nat) (Option.some Jvm.ClassFile.FieldType.byte)).before args0 about1 = true := code_word (m := ⟨7, 6⟩) (meth := k7m6) (c := k7c6) (by decide +kernel) rfl rfl rfl (by decide +kernel)
set_option maxRecDepth 65536 in
theorem w_c10 : (Jvm.Cond.code ({ cls := "java/lang/AbstractStringBuilder", name := "ensureCapacityInternal", desc := "(I)V" } : Jvm.MethodName) jdk_68_method_9_code (3 : Nat) (Option.none : Option Jvm.ClassFile.FieldType)).before args0 about1 = true := code_word (m := ⟨10, 3⟩) (meth := k10m3) (c := k10c3) (by decide +kernel) rfl rfl rfl (by decide +kernel)
set_option maxRecDepth 65536 in
theorem w_c11 : (Jvm.Cond.code ({ cls := "java/lang/AbstractStringBuilder", name := "putStringAt", desc := "(ILjava/lang/String;)V" } : Jvm.MethodName) jdk_68_method_73_code (3 : Nat) (Option.none : Option Jvm.ClassFile.FieldType)).before args0 about1 = true := code_word (m := ⟨10, 10⟩) (meth := k10m10) (c := k10c10) (by decide +kernel) rfl rfl rfl (by decide +kernel)
set_option maxRecDepth 65536 in
theorem w_c12 : (Jvm.Cond.code ({ cls := "java/lang/AbstractStringBuilder", name := "inflateIfNeededFor", desc := "(Ljava/lang/String;)V" } : Jvm.MethodName) jdk_68_method_71_code (2 : Nat) (Option.none : Option Jvm.ClassFile.FieldType)).before args0 about1 = true := code_word (m := ⟨10, 9⟩) (meth := k10m9) (c := k10c9) (by decide +kernel) rfl rfl rfl (by decide +kernel)
set_option maxRecDepth 65536 in
theorem w_c13 : (Jvm.Cond.code ({ cls := "java/lang/String", name := "getBytes", desc := "([BIB)V" } : Jvm.MethodName) jdk_42_method_147_code (4 : Nat) (Option.none : Option Jvm.ClassFile.FieldType)).before args0 about1 = true := code_word (m := ⟨7, 4⟩) (meth := k7m4) (c := k7c4) (by decide +kernel) rfl rfl rfl (by decide +kernel)
set_option maxRecDepth 65536 in
theorem w_c14 : (Jvm.Cond.code ({ cls := "java/lang/StringBuilder", name := "append", desc := "(I)Ljava/lang/StringBuilder;" } : Jvm.MethodName) jdk_67_method_15_code (2 : Nat) (Option.some (Jvm.ClassFile.FieldType.object "java/lang/StringBuilder"))).before args0 about1 = true := code_word (m := ⟨11, 2⟩) (meth := k11m2) (c := k11c2) (by decide +kernel) rfl rfl rfl (by decide +kernel)
set_option maxRecDepth 65536 in
theorem w_c15 : (Jvm.Cond.code ({ cls := "java/lang/AbstractStringBuilder", name := "append", desc := "(I)Ljava/lang/AbstractStringBuilder;" } : Jvm.MethodName) jdk_68_method_32_code (4 : Nat) (Option.some (Jvm.ClassFile.FieldType.object "java/lang/AbstractStringBuilder"))).before args0 about1 = true := code_word (m := ⟨10, 6⟩) (meth := k10m6) (c := k10c6) (by decide +kernel) rfl rfl rfl (by decide +kernel)
set_option maxRecDepth 65536 in
theorem w_c16 : (Jvm.Cond.code ({ cls := "java/lang/Integer", name := "stringSize", desc := "(I)I" } : Jvm.MethodName) jdk_33_method_13_code (4 : Nat) (Option.some Jvm.ClassFile.FieldType.int)).before args0 about1 = true := code_word (m := ⟨14, 1⟩) (meth := k14m1) (c := k14c1) (by decide +kernel) rfl rfl rfl (by decide +kernel)
set_option maxRecDepth 65536 in
theorem w_c17 : (Jvm.Cond.code ({ cls := "java/lang/AbstractStringBuilder", name := "isLatin1", desc := "()Z" } : Jvm.MethodName) jdk_68_method_68_code (1 : Nat) (Option.some Jvm.ClassFile.FieldType.boolean)).before args0 about1 = true := code_word (m := ⟨10, 8⟩) (meth := k10m8) (c := k10c8) (by decide +kernel) rfl rfl rfl (by decide +kernel)
set_option maxRecDepth 65536 in
theorem w_c18 : (Jvm.Cond.code ({ cls := "java/lang/Integer", name := "getChars", desc := "(II[B)I" } : Jvm.MethodName) jdk_33_method_12_code (7 : Nat) (Option.some Jvm.ClassFile.FieldType.int)).before args0 about1 = true := code_word (m := ⟨14, 0⟩) (meth := k14m0) (c := k14c0) (by decide +kernel) rfl rfl rfl (by decide +kernel)
set_option maxRecDepth 65536 in
theorem w_c19 : (Jvm.Cond.code ({ cls := "java/lang/AbstractStringBuilder", name := "newCapacity", desc := "(I)I" } : Jvm.MethodName) jdk_68_method_10_code (6 : Nat) (Option.some Jvm.ClassFile.FieldType.int)).before args0 about1 = true := code_word (m := ⟨10, 4⟩) (meth := k10m4) (c := k10c4) (by decide +kernel) rfl rfl rfl (by decide +kernel)
set_option maxRecDepth 65536 in
theorem w_c20 : (Jvm.Cond.code ({ cls := "jdk/internal/util/ArraysSupport", name := "newLength", desc := "(III)I" } : Jvm.MethodName) jdk_48_method_27_code (4 : Nat) (Option.some Jvm.ClassFile.FieldType.int)).before args0 about1 = true := code_word (m := ⟨15, 1⟩) (meth := k15m1) (c := k15c1) (by decide +kernel) rfl rfl rfl (by decide +kernel)
set_option maxRecDepth 65536 in
theorem w_c21 : (Jvm.Cond.code ({ cls := "java/lang/Math", name := "max", desc := "(II)I" } : Jvm.MethodName) jdk_29_method_65_code (2 : Nat) (Option.some Jvm.ClassFile.FieldType.int)).before args0 about1 = true := code_word (m := ⟨16, 1⟩) (meth := k16m1) (c := k16c1) (by decide +kernel) rfl rfl rfl (by decide +kernel)
set_option maxRecDepth 65536 in
theorem w_c22 : (Jvm.Cond.code ({ cls := "java/util/Arrays", name := "copyOf", desc := "([BI)[B" } : Jvm.MethodName) jdk_65_method_121_code (3 : Nat) (Option.some (Jvm.ClassFile.FieldType.array Jvm.ClassFile.FieldType.byte))).before args0 about1 = true := code_word (m := ⟨17, 1⟩) (meth := k17m1) (c := k17c1) (by decide +kernel) rfl rfl rfl (by decide +kernel)
set_option maxRecDepth 65536 in
theorem w_c23 : (Jvm.Cond.code ({ cls := "java/lang/Math", name := "min", desc := "(II)I" } : Jvm.MethodName) jdk_29_method_69_code (2 : Nat) (Option.some Jvm.ClassFile.FieldType.int)).before args0 about1 = true := code_word (m := ⟨16, 2⟩) (meth := k16m2) (c := k16c2) (by decide +kernel) rfl rfl rfl (by decide +kernel)
set_option maxRecDepth 65536 in
theorem w_c24 : (Jvm.Cond.code ({ cls := "java/lang/StringBuilder", name := "toString", desc := "()Ljava/lang/String;" } : Jvm.MethodName) jdk_67_method_42_code (1 : Nat) (Option.some (Jvm.ClassFile.FieldType.object "java/lang/String"))).before args0 about1 = true := code_word (m := ⟨11, 3⟩) (meth := k11m3) (c := k11c3) (by decide +kernel) rfl rfl rfl (by decide +kernel)
set_option maxRecDepth 65536 in
theorem w_c25 : (Jvm.Cond.code ({ cls := "java/lang/String", name := "<init>", desc := "(Ljava/lang/StringBuilder;)V" } : Jvm.MethodName) jdk_42_method_53_code (2 : Nat) (Option.none : Option Jvm.ClassFile.FieldType)).before args0 about1 = true := code_word (m := ⟨7, 1⟩) (meth := k7m1) (c := k7c1) (by decide +kernel) rfl rfl rfl (by decide +kernel)
set_option maxRecDepth 65536 in
theorem w_c26 : (Jvm.Cond.code ({ cls := "java/lang/String", name := "<init>", desc := "(Ljava/lang/AbstractStringBuilder;Ljava/lang/Void;)V" } : Jvm.MethodName) jdk_42_method_150_code (5 : Nat) (Option.none : Option Jvm.ClassFile.FieldType)).before args0 about1 = true := code_word (m := ⟨7, 5⟩) (meth := k7m5) (c := k7c5) (by decide +kernel) rfl rfl rfl (by decide +kernel)
set_option maxRecDepth 65536 in
theorem w_c27 : (Jvm.Cond.code ({ cls := "java/lang/AbstractStringBuilder", name := "getValue", desc := "()[B" } : Jvm.MethodName) jdk_68_method_64_code (1 : Nat) (Option.some (Jvm.ClassFile.FieldType.array Jvm.ClassFile.FieldType.byte))).before args0 about1 = true := code_word (m := ⟨10, 7⟩) (meth := k10m7) (c := k10c7) (by decide +kernel) rfl rfl rfl (by decide +kernel)
set_option maxRecDepth 65536 in
theorem w_c28 : (Jvm.Cond.code ({ cls := "java/lang/StringBuilder", name := "length", desc := "()I" } : Jvm.MethodName) jdk_67_method_93_code (1 : Nat) (Option.some Jvm.ClassFile.FieldType.int)).before args0 about1 = true := code_word (m := ⟨11, 4⟩) (meth := k11m4) (c := k11c4) (by decide +kernel) rfl rfl rfl (by decide +kernel)
set_option maxRecDepth 65536 in
theorem w_c29 : (Jvm.Cond.code ({ cls := "java/lang/AbstractStringBuilder", name := "length", desc := "()I" } : Jvm.MethodName) jdk_68_method_6_code (1 : Nat) (Option.some Jvm.ClassFile.FieldType.int)).before args0 about1 = true := code_word (m := ⟨10, 2⟩) (meth := k10m2) (c := k10c2) (by decide +kernel) rfl rfl rfl (by decide +kernel)
set_option maxRecDepth 65536 in
theorem w_c30 : (Jvm.Cond.code ({ cls := "java/util/Arrays", name := "copyOfRange", desc := "([BII)[B" } : Jvm.MethodName) jdk_65_method_132_code (3 : Nat) (Option.some (Jvm.ClassFile.FieldType.array Jvm.ClassFile.FieldType.byte))).before args0 about1 = true := code_word (m := ⟨17, 3⟩) (meth := k17m3) (c := k17c3) (by decide +kernel) rfl rfl rfl (by decide +kernel)
set_option maxRecDepth 65536 in
theorem w_c31 : (Jvm.Cond.code ({ cls := "java/util/Arrays", name := "copyOfRangeByte", desc := "([BII)[B" } : Jvm.MethodName) jdk_65_method_133_code (5 : Nat) (Option.some (Jvm.ClassFile.FieldType.array Jvm.ClassFile.FieldType.byte))).before args0 about1 = true := code_word (m := ⟨17, 4⟩) (meth := k17m4) (c := k17c4) (by decide +kernel) rfl rfl rfl (by decide +kernel)
set_option maxRecDepth 65536 in
theorem w_c32 : (Jvm.Cond.code ({ cls := "java/util/Arrays", name := "checkLength", desc := "(II)V" } : Jvm.MethodName) jdk_65_method_131_code (2 : Nat) (Option.none : Option Jvm.ClassFile.FieldType)).before args0 about1 = true := code_word (m := ⟨17, 2⟩) (meth := k17m2) (c := k17c2) (by decide +kernel) rfl rfl rfl (by decide +kernel)
set_option maxRecDepth 65536 in
theorem w_c33 : (Jvm.Cond.code ({ cls := "java/lang/String", name := "equals", desc := "(Ljava/lang/Object;)Z" } : Jvm.MethodName) jdk_42_method_66_code (3 : Nat) (Option.some Jvm.ClassFile.FieldType.boolean)).before args0 about1 = true := code_word (m := ⟨7, 3⟩) (meth := k7m3) (c := k7c3) (by decide +kernel) rfl rfl rfl (by decide +kernel)
set_option maxRecDepth 65536 in
theorem w_c34 : (Jvm.Cond.code ({ cls := "java/lang/StringLatin1", name := "equals", desc := "([B[B)Z" } : Jvm.MethodName) jdk_43_method_13_code (3 : Nat) (Option.some Jvm.ClassFile.FieldType.boolean)).before args0 about1 = true := code_word (m := ⟨18, 1⟩) (meth := k18m1) (c := k18c1) (by decide +kernel) rfl rfl rfl (by decide +kernel)
def codes1 : List Jvm.Cond := [Jvm.Cond.code x code maxLocals ret, Jvm.Cond.code ({ cls := "com/example/savepoint/savepoint/AmqpMessage", name := "<init>", desc := "([BZ)V" } : Jvm.MethodName) prog_1_method_1_code (3 : Nat) (Option.none : Option Jvm.ClassFile.FieldType), Jvm.Cond.code ({ cls := "java/lang/Object", name := "<init>", desc := "()V" } : Jvm.MethodName) object_method_1_code (1 : Nat) (Option.none : Option Jvm.ClassFile.FieldType), Jvm.Cond.code ({ cls := "com/example/savepoint/savepoint/AmqpMessage", name := "toString", desc := "()Ljava/lang/String;" } : Jvm.MethodName) prog_1_method_4_code (1 : Nat) (Option.some (Jvm.ClassFile.FieldType.object "java/lang/String")), Jvm.Cond.code ({ cls := "java/lang/StringBuilder", name := "<init>", desc := "()V" } : Jvm.MethodName) jdk_67_method_1_code (1 : Nat) (Option.none : Option Jvm.ClassFile.FieldType), Jvm.Cond.code ({ cls := "java/lang/AbstractStringBuilder", name := "<init>", desc := "(I)V" } : Jvm.MethodName) jdk_68_method_2_code (2 : Nat) (Option.none : Option Jvm.ClassFile.FieldType), Jvm.Cond.code ({ cls := "java/lang/StringBuilder", name := "append", desc := "(Ljava/lang/String;)Ljava/lang/StringBuilder;" } : Jvm.MethodName) jdk_67_method_7_code (2 : Nat) (Option.some (Jvm.ClassFile.FieldType.object "java/lang/StringBuilder")), Jvm.Cond.code ({ cls := "java/lang/AbstractStringBuilder", name := "append", desc := "(Ljava/lang/String;)Ljava/lang/AbstractStringBuilder;" } : Jvm.MethodName) jdk_68_method_22_code (3 : Nat) (Option.some (Jvm.ClassFile.FieldType.object "java/lang/AbstractStringBuilder")), Jvm.Cond.code ({ cls := "java/lang/String", name := "length", desc := "()I" } : Jvm.MethodName) jdk_42_method_54_code (1 : Nat) (Option.some Jvm.ClassFile.FieldType.int), Jvm.Cond.code ({ cls := "java/lang/String", name := "coder", desc := "()B" } : Jvm.MethodName) jdk_42_method_152_code (1 : Nat) (Option.some Jvm.ClassFile.FieldType.byte), Jvm.Cond.code ({ cls := "java/lang/AbstractStringBuilder", name := "ensureCapacityInternal", desc := "(I)V" } : Jvm.MethodName) jdk_68_method_9_code (3 : Nat) (Option.none : Option Jvm.ClassFile.FieldType), Jvm.Cond.code ({ cls := "java/lang/AbstractStringBuilder", name := "putStringAt", desc := "(ILjava/lang/String;)V" } : Jvm.MethodName) jdk_68_method_73_code (3 : Nat) (Option.none : Option Jvm.ClassFile.FieldType), Jvm.Cond.code ({ cls := "java/lang/AbstractStringBuilder", name := "inflateIfNeededFor", desc := "(Ljava/lang/String;)V" } : Jvm.MethodName) jdk_68_method_71_code (2 : Nat) (Option.none : Option Jvm.ClassFile.FieldType), Jvm.Cond.code ({ cls := "java/lang/String", name := "getBytes", desc := "([BIB)V" } : Jvm.MethodName) jdk_42_method_147_code (4 : Nat) (Option.none : Option Jvm.ClassFile.FieldType), Jvm.Cond.code ({ cls := "java/lang/StringBuilder", name := "append", desc := "(I)Ljava/lang/StringBuilder;" } : Jvm.MethodName) jdk_67_method_15_code (2 : Nat) (Option.some (Jvm.ClassFile.FieldType.object "java/lang/StringBuilder")), Jvm.Cond.code ({ cls := "java/lang/AbstractStringBuilder", name := "append", desc := "(I)Ljava/lang/AbstractStringBuilder;" } : Jvm.MethodName) jdk_68_method_32_code (4 : Nat) (Option.some (Jvm.ClassFile.FieldType.object "java/lang/AbstractStringBuilder")), Jvm.Cond.code ({ cls := "java/lang/Integer", name := "stringSize", desc := "(I)I" } : Jvm.MethodName) jdk_33_method_13_code (4 : Nat) (Option.some Jvm.ClassFile.FieldType.int), Jvm.Cond.code ({ cls := "java/lang/AbstractStringBuilder", name := "isLatin1", desc := "()Z" } : Jvm.MethodName) jdk_68_method_68_code (1 : Nat) (Option.some Jvm.ClassFile.FieldType.boolean), Jvm.Cond.code ({ cls := "java/lang/Integer", name := "getChars", desc := "(II[B)I" } : Jvm.MethodName) jdk_33_method_12_code (7 : Nat) (Option.some Jvm.ClassFile.FieldType.int), Jvm.Cond.code ({ cls := "java/lang/AbstractStringBuilder", name := "newCapacity", desc := "(I)I" } : Jvm.MethodName) jdk_68_method_10_code (6 : Nat) (Option.some Jvm.ClassFile.FieldType.int), Jvm.Cond.code ({ cls := "jdk/internal/util/ArraysSupport", name := "newLength", desc := "(III)I" } : Jvm.MethodName) jdk_48_method_27_code (4 : Nat) (Option.some Jvm.ClassFile.FieldType.int), Jvm.Cond.code ({ cls := "java/lang/Math", name := "max", desc := "(II)I" } : Jvm.MethodName) jdk_29_method_65_code (2 : Nat) (Option.some Jvm.ClassFile.FieldType.int), Jvm.Cond.code ({ cls := "java/util/Arrays", name := "copyOf", desc := "([BI)[B" } : Jvm.MethodName) jdk_65_method_121_code (3 : Nat) (Option.some (Jvm.ClassFile.FieldType.array Jvm.ClassFile.FieldType.byte)), Jvm.Cond.code ({ cls := "java/lang/Math", name := "min", desc := "(II)I" } : Jvm.MethodName) jdk_29_method_69_code (2 : Nat) (Option.some Jvm.ClassFile.FieldType.int), Jvm.Cond.code ({ cls := "java/lang/StringBuilder", name := "toString", desc := "()Ljava/lang/String;" } : Jvm.MethodName) jdk_67_method_42_code (1 : Nat) (Option.some (Jvm.ClassFile.FieldType.object "java/lang/String")), Jvm.Cond.code ({ cls := "java/lang/String", name := "<init>", desc := "(Ljava/lang/StringBuilder;)V" } : Jvm.MethodName) jdk_42_method_53_code (2 : Nat) (Option.none : Option Jvm.ClassFile.FieldType), Jvm.Cond.code ({ cls := "java/lang/String", name := "<init>", desc := "(Ljava/lang/AbstractStringBuilder;Ljava/lang/Void;)V" } : Jvm.MethodName) jdk_42_method_150_code (5 : Nat) (Option.none : Option Jvm.ClassFile.FieldType), Jvm.Cond.code ({ cls := "java/lang/AbstractStringBuilder", name := "getValue", desc := "()[B" } : Jvm.MethodName) jdk_68_method_64_code (1 : Nat) (Option.some (Jvm.ClassFile.FieldType.array Jvm.ClassFile.FieldType.byte)), Jvm.Cond.code ({ cls := "java/lang/StringBuilder", name := "length", desc := "()I" } : Jvm.MethodName) jdk_67_method_93_code (1 : Nat) (Option.some Jvm.ClassFile.FieldType.int), Jvm.Cond.code ({ cls := "java/lang/AbstractStringBuilder", name := "length", desc := "()I" } : Jvm.MethodName) jdk_68_method_6_code (1 : Nat) (Option.some Jvm.ClassFile.FieldType.int), Jvm.Cond.code ({ cls := "java/util/Arrays", name := "copyOfRange", desc := "([BII)[B" } : Jvm.MethodName) jdk_65_method_132_code (3 : Nat) (Option.some (Jvm.ClassFile.FieldType.array Jvm.ClassFile.FieldType.byte)), Jvm.Cond.code ({ cls := "java/util/Arrays", name := "copyOfRangeByte", desc := "([BII)[B" } : Jvm.MethodName) jdk_65_method_133_code (5 : Nat) (Option.some (Jvm.ClassFile.FieldType.array Jvm.ClassFile.FieldType.byte)), Jvm.Cond.code ({ cls := "java/util/Arrays", name := "checkLength", desc := "(II)V" } : Jvm.MethodName) jdk_65_method_131_code (2 : Nat) (Option.none : Option Jvm.ClassFile.FieldType), Jvm.Cond.code ({ cls := "java/lang/String", name := "equals", desc := "(Ljava/lang/Object;)Z" } : Jvm.MethodName) jdk_42_method_66_code (3 : Nat) (Option.some Jvm.ClassFile.FieldType.boolean), Jvm.Cond.code ({ cls := "java/lang/StringLatin1", name := "equals", desc := "([B[B)Z" } : Jvm.MethodName) jdk_43_method_13_code (3 : Nat) (Option.some Jvm.ClassFile.FieldType.boolean)]
set_option maxRecDepth 65536 in
theorem codes_eq : words1.filter isCode = codes1 := rfl
theorem w_codes : ∀ c ∈ words1.filter isCode, c.before args0 about1 = true := by
  rw [codes_eq]
  intro c hc
  simp only [codes1, List.mem_cons, List.not_mem_nil, or_false] at hc
  rcases hc with rfl | rfl | rfl | rfl | rfl | rfl | rfl | rfl | rfl | rfl | rfl | rfl | rfl | rfl | rfl | rfl | rfl | rfl | rfl | rfl | rfl | rfl | rfl | rfl | rfl | rfl | rfl | rfl | rfl | rfl | rfl | rfl | rfl | rfl | rfl
  · exact w_c0
  · exact w_c1
  · exact w_c2
  · exact w_c3
  · exact w_c4
  · exact w_c5
  · exact w_c6
  · exact w_c7
  · exact w_c8
  · exact w_c9
  · exact w_c10
  · exact w_c11
  · exact w_c12
  · exact w_c13
  · exact w_c14
  · exact w_c15
  · exact w_c16
  · exact w_c17
  · exact w_c18
  · exact w_c19
  · exact w_c20
  · exact w_c21
  · exact w_c22
  · exact w_c23
  · exact w_c24
  · exact w_c25
  · exact w_c26
  · exact w_c27
  · exact w_c28
  · exact w_c29
  · exact w_c30
  · exact w_c31
  · exact w_c32
  · exact w_c33
  · exact w_c34
set_option maxRecDepth 65536 in
theorem w_t1 : (words1.take 24).all (fun c => isCode c || c.before args0 about1) = true := by decide +kernel
set_option maxRecDepth 65536 in
theorem w_t2 : ((words1.drop 24).take 24).all (fun c => isCode c || c.before args0 about1) = true := by decide +kernel
set_option maxRecDepth 65536 in
theorem w_t3 : (((words1.drop 24).drop 24).take 24).all (fun c => isCode c || c.before args0 about1) = true := by decide +kernel
set_option maxRecDepth 65536 in
theorem w_t4 : ((((words1.drop 24).drop 24).drop 24).take 24).all (fun c => isCode c || c.before args0 about1) = true := by decide +kernel
set_option maxRecDepth 65536 in
theorem w_t5 : (((((words1.drop 24).drop 24).drop 24).drop 24).take 24).all (fun c => isCode c || c.before args0 about1) = true := by decide +kernel
set_option maxRecDepth 65536 in
theorem w_t6 : ((((((words1.drop 24).drop 24).drop 24).drop 24).drop 24).take 24).all (fun c => isCode c || c.before args0 about1) = true := by decide +kernel
set_option maxRecDepth 65536 in
theorem w_t7 : (((((((words1.drop 24).drop 24).drop 24).drop 24).drop 24).drop 24).take 24).all (fun c => isCode c || c.before args0 about1) = true := by decide +kernel
set_option maxRecDepth 65536 in
theorem w_t8 : ((((((((words1.drop 24).drop 24).drop 24).drop 24).drop 24).drop 24).drop 24).take 24).all (fun c => isCode c || c.before args0 about1) = true := by decide +kernel
set_option maxRecDepth 65536 in
theorem w_t9 : (((((((((words1.drop 24).drop 24).drop 24).drop 24).drop 24).drop 24).drop 24).drop 24).take 24).all (fun c => isCode c || c.before args0 about1) = true := by decide +kernel
set_option maxRecDepth 65536 in
theorem w_t10 : (((((((((words1.drop 24).drop 24).drop 24).drop 24).drop 24).drop 24).drop 24).drop 24).drop 24).all (fun c => isCode c || c.before args0 about1) = true := by decide +kernel
theorem w_tables : (allAtoms (Jvm.Cond.code x code maxLocals ret :: tables_1)).before args0 about1 = true := by
  rw [allAtoms_all]
  show words1.all (fun c => c.before args0 about1) = true
  refine all_split ?_ w_codes
  rw [← List.take_append_drop 24 words1, List.all_append, w_t1, ← List.take_append_drop 24 (words1.drop 24), List.all_append, w_t2, ← List.take_append_drop 24 ((words1.drop 24).drop 24), List.all_append, w_t3, ← List.take_append_drop 24 (((words1.drop 24).drop 24).drop 24), List.all_append, w_t4, ← List.take_append_drop 24 ((((words1.drop 24).drop 24).drop 24).drop 24), List.all_append, w_t5, ← List.take_append_drop 24 (((((words1.drop 24).drop 24).drop 24).drop 24).drop 24), List.all_append, w_t6, ← List.take_append_drop 24 ((((((words1.drop 24).drop 24).drop 24).drop 24).drop 24).drop 24), List.all_append, w_t7, ← List.take_append_drop 24 (((((((words1.drop 24).drop 24).drop 24).drop 24).drop 24).drop 24).drop 24), List.all_append, w_t8, ← List.take_append_drop 24 ((((((((words1.drop 24).drop 24).drop 24).drop 24).drop 24).drop 24).drop 24).drop 24), List.all_append, w_t9, w_t10]
  rfl
set_option maxRecDepth 65536 in
theorem w_rest : rest_1_c.before args0 about1 = true := by decide +kernel
set_option maxRecDepth 65536 in
theorem w_case : (Jvm.Cond.and given_1 narrow_1).before args0 about1 = true := by decide +kernel
set_option maxRecDepth 65536 in
theorem w_consts : constsHeld consts_1 about1 := Jvm.Lit.constsHeldB_iff.mp (by decide +kernel)
theorem w_applies : (headSpec (Jvm.Cond.code x code maxLocals ret :: tables_1) room_1).applies x e0.platform about1 = true :=
  (Spec.applies_iff w_frames).mpr ⟨w_running, w_runnable, w_alone, w_named, w_hears, w_ripe, w_room, w_tables⟩
theorem atStart : AtStart classFile x code maxLocals ret World_1 tables_1 room_1 Calls_1 rest_1 Pre_1 launch0 p0 e0 about1 theMethod args0 below0 :=
  ⟨lists_1, trivial, launch0.admits_env _ _ _, launch0.least_env, fairChoices_fair.cas, fairChoices_fair.clock, w_frames, w_args, w_heap, w_applies, ⟨w_consts, trivial⟩, w_rest, w_case⟩
end start1
theorem witness_1 : WitnessClaimed_1 := ⟨start1.p0, start1.e0, start1.about1, start1.theMethod, start1.args0, start1.below0, start1.atStart⟩
end Jvm.Pilot.@@N@@
