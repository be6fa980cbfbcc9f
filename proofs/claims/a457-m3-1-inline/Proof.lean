import JvmDerived
import JvmDerived.Pilot.@@N@@Statement
import JvmDerived.Pilot.@@N@@Code
set_option linter.unusedVariables false
set_option linter.unusedSimpArgs false
namespace Jvm.RoadKit
open Sem ClassFile Op Lib Jvm.Stand Jvm.Free Jvm.LawKit
section New
variable {p : Program} {l : Launch} {e : Env} {R : Room} {s : State} {m : MethodId} {args : Array Value} {below : List Frame} {meth : Method} {c : Code} {T : State} {locs : List Loc} {cells slots : Nat}
theorem retI (X : Stand p l e R s m args below meth c T locs cells slots) (hx : p.tables.exec = Jvm.exec) {pc : Nat} {Ls : Array Slot} {z : Int32} {rest : List Value} (hret : meth.sig.returnType = some .int) (hd : decode c.code pc = .ok (.ireturn, 1)) {fs : List Frame}
    (hl : ∀ (f : JFrame) (acts : List Action), f.method = m → f.locked = none → f.entered = [] → (doReturn e (T.setTop f) acts (some (.int z))).1 = T.setFrames fs) : Steps p.tables e below (T.setTop (mkF m pc Ls (.int z :: rest))) (T.setFrames fs) := by
  have hm' : T.vm.method? m = some meth := X.method'
  have hn : narrow .int (.int z) = .int z := rfl
  show Steps p.tables e below (T.setTop { method := m, pc := pc, locals := Ls, stack := _ :: rest, locked := none }) _
  jvm_step X.here [X.here.top, hx, hd, hm', hret, hn]
  first | (intro acts; rw [hl _ acts rfl rfl rfl]) | rw [hl _ _ rfl rfl rfl]
  exact Steps.refl _
end New
end Jvm.RoadKit
namespace Jvm.Pilot.@@N@@
open Jvm Jvm.ClassFile Sem Op Lib Jvm.Free Jvm.Stand Jvm.LawKit Jvm.RoadKit Bundle Jvm.Pilot.@@N@@.Jvm.D
def Qv (r : Option Value) (h0 : Heap) (n0 : Nat) (v : Option Value) (h : Heap) (L : List Loc) : Prop := v = r ∧ Fr n0 L ∧ h = h0
def Ql (r : Option Value) (n0 : Nat) (v : Option Value) (h : Heap) (L : List Loc) : Prop := v = r ∧ Fr n0 L ∧ True
theorem own_ord {args : Array Value} {s : State} {t : Term} {C n d : String} {k : Int32} {x : Addr} (h : (Jvm.Cond.eq (.field t C n d) (.int k)).value args s none s [] = some true) (ht : t.eval args s none [] s = some (.ref x)) : s.fieldOf? x C n d = some (.int k) := by
  simp only [Cond.value, Term.eval, ht] at h
  cases hf : s.fieldOf? x C n d with
  | none => simp [hf] at h
  | some v => cases v <;> simp [hf] at h ⊢; exact h
theorem own_ne {s : State} {C n d : String} {k k' : Int32} {x y : Addr} (h : s.fieldOf? x C n d = some (.int k)) (h' : s.fieldOf? y C n d = some (.int k')) (hk : k ≠ k') : ¬ (x = y) := fun e => by
  subst e; exact hk (Value.int.inj (Option.some.inj (h.symm.trans h')))
theorem own_nf {s : State} {args : Array Value} {C : String} {y w : MethodName} (hs : (Jvm.Cond.selects C w w).before args s = true) (hc : w.cls = y.cls) : NotFace s y := fun r0 h0 => by
  obtain ⟨c2, r2, m2, q1, q2, q3, q4, kP, hkP, hkPi⟩ := Cond.selects_spec hs
  have e1 := findClass_of_methodNamed h0
  have e2 := findClass_of_methodNamed q3
  rw [hc] at e2
  have e := Option.some.inj (e1.symm.trans e2)
  exact ⟨kP, by rw [e]; exact hkP, hkPi⟩
theorem own_same {Z : State} {a0 : Array Value} {C : String} {y w : MethodName} (hs : (Jvm.Cond.selects C w w).before a0 Z = true) (hc : w.cls = y.cls) (hd : (Jvm.Cond.declares y).before a0 Z = true) (hy : y.cls ≠ "java/lang/invoke/MethodHandle" ∧ y.cls ≠ "java/lang/invoke/VarHandle") : (Jvm.Cond.sameMethod y.cls y.cls y.name y.desc).before a0 Z = true := by
  obtain ⟨r0, r, hn, -⟩ := Cond.declares_spec hd
  obtain ⟨k, hk, hi⟩ := own_nf hs hc r0 hn
  have hf := State.methodFound?_of_named hn hy
  have hcl := findClass_of_methodNamed hn
  have hn' : Z.methodNamed? ⟨y.cls, y.name, y.desc⟩ = some r0 := hn
  simp [Cond.before, Cond.holds, Cond.value, hcl, hf, hn', hk, hi]
theorem own_decl {Z : State} {a0 : Array Value} {y : MethodName} {bytes : ByteArray} {maxL : Nat} {ret : Option FieldType} (h1 : (Jvm.Cond.instanceMethod y).before a0 Z = true) (h2 : (Jvm.Cond.code y bytes maxL ret).before a0 Z = true) : (Jvm.Cond.declares y).before a0 Z = true := by
  obtain ⟨m, meth, hn, hm, hs, -⟩ := Cond.instanceMethod_spec h1
  obtain ⟨meth', c, q1, -, -, -, -, -, -, q8⟩ := Cond.code_spec hn h2
  cases hm.symm.trans q1
  simp [Cond.before, Cond.holds, Cond.value, hn, hm, hs, q8]
def EnvS (Z : State) (zc : Int32) : Prop := Sta Z Z.heap "java/lang/String" "COMPACT_STRINGS" "Z" (.int zc) ∧ ¬ (zc = (0 : Int32))
abbrev by8 (cs : List Int32) : List Value := cs.map fun c => Value.int c.toInt8.toInt32
def Bld (Z : State) (h : Heap) (b da : Addr) (k : ClassId) (N : Nat) (bs : List Int32) : Prop := Exa Z h b "java/lang/StringBuilder" ∧ Fld Z h b "java/lang/AbstractStringBuilder" "value" "[B" (.ref da) ∧ Fld Z h b "java/lang/AbstractStringBuilder" "coder" "B" (.int (0 : Int32)) ∧ Fld Z h b "java/lang/AbstractStringBuilder" "count" "I" (.int (Int32.ofNat bs.length)) ∧ Arv Z h da k .byte (Int32.ofNat N) (by8 bs) (.int (0 : Int32))
def Str (Z : State) (h : Heap) (a t : Addr) (k : ClassId) (cs : List Int32) : Prop := Exa Z h a "java/lang/String" ∧ Fld Z h a "java/lang/String" "value" "[B" (.ref t) ∧ Fld Z h a "java/lang/String" "coder" "B" (.int (0 : Int32)) ∧ Arv Z h t k .byte (Int32.ofNat cs.length) (by8 cs) (.int (0 : Int32))
theorem Str.ext {Z : State} {h h' : Heap} {a t : Addr} {k : ClassId} {cs : List Int32} (S : Str Z h a t k cs) (E : Ext h h') : Str Z h' a t k cs := ⟨S.1.ext E, S.2.1.ext E, S.2.2.1.ext E, S.2.2.2.ext E⟩
theorem Str.keep {Z : State} {h h' : Heap} {a t : Addr} {k : ClassId} {cs : List Int32} {ws : List Addr} (S : Str Z h a t k cs) (K : Keep h h' ws) (q : a ∉ ws) (r : t ∉ ws) : Str Z h' a t k cs := ⟨S.1.keep K, S.2.1.keep K q, S.2.2.1.keep K q, S.2.2.2.keep K r⟩
theorem own_shr0 (x : Int32) : x >>> ((0 : Int32) &&& 31) = x := Int32.toBitVec_inj.mp (by simp)
theorem own_shl0 (x : Int32) : x <<< ((0 : Int32) &&& 31) = x := Int32.toBitVec_inj.mp (by simp)
theorem own_ti {n : Nat} (h : n ≤ 1000) : (Int32.ofNat n).toInt = n := Int32.toInt_ofNat_small (by omega)
theorem own_nn {n : Nat} (h : n ≤ 1000) : ¬ (Int32.ofNat n < (0 : Int32)) := by rw [Int32.lt_iff_toInt_lt, own_ti h]; simp
theorem own_cl {n : Nat} (h : n ≤ 1000) : (Int32.ofNat n).toNatClampNeg = n := by show (Int32.ofNat n).toInt.toNat = n; rw [own_ti h]; rfl
theorem own_lt {n m : Nat} (h : n ≤ 1000) (h' : m ≤ 1000) : Int32.ofNat n < Int32.ofNat m ↔ n < m := by rw [Int32.lt_iff_toInt_lt, own_ti h, own_ti h']; omega
theorem own_sub {n m : Nat} (h : m ≤ n) : Int32.ofNat n - Int32.ofNat m = Int32.ofNat (n - m) := (Int32.ofNat_sub _ _ h).symm
theorem own_sub0 (x : Int32) : x - (0 : Int32) = x := Int32.sub_zero x
theorem own_fits {n N : Nat} (h : n ≤ N) (hN : N ≤ 1000) : ¬ ((0 : Int32) < Int32.ofNat n - Int32.ofNat N) := by
  have h1 := c_isub (Int32.ofNat n) (Int32.ofNat N)
  have h2 := rng32 (Int32.ofNat n - Int32.ofNat N)
  rw [own_ti hN, own_ti (Nat.le_trans h hN)] at h1
  rw [Int32.lt_iff_toInt_lt, show (0 : Int32).toInt = 0 from rfl]; omega
theorem own_addlen (bs cs : List Int32) : Int32.ofNat bs.length + Int32.ofNat cs.length = Int32.ofNat (bs ++ cs).length := by rw [List.length_append, Int32.ofNat_add]
theorem own_us (cs : List Int32) (d : Value) {m : Nat} (hm : m ≤ cs.length) : (List.range m).map (fun i => (by8 cs).getD (0 + i) d) = by8 (cs.take m) := by
  refine List.ext_getElem (by simp; omega) fun i h1 h2 => ?_
  simp at h1
  have h3 : i < cs.length := by omega
  simp [h3, List.getD_eq_getElem?_getD]
theorem own_cat (bs cs : List Int32) (d : Value) {n m : Nat} (hn : n = bs.length) (hm : m = cs.length) : (by8 bs ++ List.replicate m d).take n ++ (List.range m).map (fun i => (by8 cs).getD (0 + i) d) ++ (by8 bs ++ List.replicate m d).drop (n + m) = by8 (bs ++ cs) := by
  rw [own_us cs d (Nat.le_of_eq hm)]
  subst hn hm
  have h1 : (by8 bs ++ List.replicate cs.length d).take bs.length = by8 bs := by rw [List.take_append_of_le_length (by simp)]; exact List.take_of_length_le (by simp)
  have h2 : (by8 bs ++ List.replicate cs.length d).drop (bs.length + cs.length) = [] := List.drop_eq_nil_of_le (by simp)
  rw [h1, h2, List.take_of_length_le (Nat.le_refl _)]; simp [by8]
def Qh (r : Option Value) (h0 : Heap) (n0 : Nat) (ws : List Addr) (P : Heap → Prop) (v : Option Value) (h : Heap) (L : List Loc) : Prop := v = r ∧ Fr n0 L ∧ Keep h0 h ws ∧ P h
def Qx (h0 : Heap) (n0 : Nat) (ws : List Addr) (P : Addr → Heap → Prop) (v : Option Value) (h : Heap) (L : List Loc) : Prop := ∃ x, v = some (.ref x) ∧ Fr n0 L ∧ Keep h0 h ws ∧ P x h
def decI (x : Int32) : List Int32 := (if x < 0 then [(45 : Int32)] else []) ++ (List.range (SBG.digits x.toInt.natAbs)).map fun t => Int32.ofNat (48 + x.toInt.natAbs / 10 ^ (SBG.digits x.toInt.natAbs - 1 - t) % 10)
theorem decI_length (x : Int32) : (decI x).length = SBG.digits x.toInt.natAbs + SBG.GetChars.sgn x := by
  unfold decI SBG.GetChars.sgn; split <;> simp <;> omega
theorem decI_le (x : Int32) : (decI x).length ≤ 11 := by
  rw [decI_length]; have := (SBG.digits_pos x.toInt.natAbs).2; unfold SBG.GetChars.sgn; split <;> omega
theorem own_abs (x : Int32) : x.toInt.natAbs ≤ 2 ^ 31 ∧ (if x < 0 then x else -x) = SBG.negI x.toInt.natAbs := by
  have h := rng32 x
  have h1 : x.toInt.natAbs ≤ 2 ^ 31 := by omega
  refine ⟨h1, Int32.toInt_inj.mp ?_⟩
  rw [SBG.negI_toInt h1]
  split
  · rename_i hx; rw [Int32.lt_iff_toInt_lt] at hx; have : (0 : Int32).toInt = 0 := rfl; omega
  · rename_i hx; rw [Int32.lt_iff_toInt_lt] at hx; have : (0 : Int32).toInt = 0 := rfl
    have h2 := c_ineg x; have h3 := rng32 (-x); omega
theorem own_size (x : Int32) : SBG.strSizeOf x = Int32.ofNat (decI x).length := by
  obtain ⟨h1, h2⟩ := own_abs x
  have e := SBG.sizeLoop_digits h1
  rw [← h2] at e
  rw [decI_length, Int32.ofNat_add]
  unfold SBG.strSizeOf SBG.GetChars.sgn
  by_cases hx : x < 0
  · rw [if_pos hx] at e ⊢; rw [if_pos hx, e]; rfl
  · rw [if_neg hx] at e ⊢; rw [if_neg hx, e]; rfl
theorem own_getmap (d : Nat) (f : Nat → Int32) (i : Nat) (hi : i < d) (hf : (f i).toInt8.toInt32 = f i) (z : Value) : (by8 ((List.range d).map f)).getD i z = .int (f i) := by
  rw [List.getD_eq_getElem?_getD]; simp [hi, hf]
theorem own_getcons (a : Int32) (L : List Int32) (i : Nat) (z : Value) : (by8 (a :: L)).getD (i + 1) z = (by8 L).getD i z := by simp [by8]
def EnvD (Z : State) (ist d1 d2 : Addr) : Prop := ∃ D1 D2 : Cell, SBG.Tbl Z "DigitOnes" ist d1 D1 ∧ SBG.Tbl Z "DigitTens" ist d2 D2 ∧ SBG.Ones D1 ∧ SBG.Tens D2 ∧ ist < Z.heap.size ∧ d1 < Z.heap.size ∧ d2 < Z.heap.size
theorem own_Tbl {Z U : State} {h : Heap} {n0 : Nat} {nme : String} {ist d : Addr} {D : Cell} (O : Old Z n0 h) (hal : Z.vm.Alike U.vm) (hh : U.heap = h) (T : SBG.Tbl Z nme ist d D) : SBG.Tbl U nme ist d D := by
  have hd := T.choose_spec.choose_spec.choose_spec.choose_spec.choose_spec.2.2.2.2.2.2.2.1
  exact T.move hal (fun c q => by rw [hh]; exact O.2.2 _ _ q) (by rw [hh]; exact O.2.2 _ _ hd)
theorem own_copy (bs : List Int32) (d : Value) : (([] : List Value) ++ List.replicate bs.length d).take 0 ++ (List.range bs.length).map (fun i => (by8 bs).getD (0 + i) d) ++ (([] : List Value) ++ List.replicate bs.length d).drop (0 + bs.length) = by8 bs := by
  rw [own_us bs d (Nat.le_refl _), List.take_of_length_le (Nat.le_refl _), List.drop_eq_nil_of_le (by simp)]; simp
theorem sb_sizeB {p : Program} {l : Launch} {e : Env} {R : Room} {s : State} {args : Array Value} {below : List Frame} {W : Nat} {Z : State} {a0 : Array Value} {h : Heap} {n0 : Nat} (hZ : Z.Warmed39 s.vm) (wc : (Jvm.Cond.code (⟨"java/lang/Integer", "stringSize", "(I)I"⟩ : MethodName) jdk_33_method_13_code 4 (some .int)).before a0 Z = true) (wz : (Jvm.Cond.initialized "java/lang/Integer").before a0 Z = true) (x : Int32) (hfr : 2 ≤ R.frames) (hlo : W + 55 ≤ R.locals) :
    Back l R p e below s args (⟨"java/lang/Integer", "stringSize", "(I)I"⟩ : MethodName) 3 W (fun P a => a = #[.int x] ∧ P.U.heap = h ∧ P.cells + 0 ≤ R.cells ∧ P.slots + 0 ≤ R.slots)
      (fun P _ v B => ∃ L, Qv (some (.int (Int32.ofNat (decI x).length))) h n0 v B.U.heap L ∧ B.locs = P.locs ++ L ∧ B.cells = P.cells + 0 ∧ B.slots = P.slots + 0) := by
  intro m meth c P g ig mk a X hg hsize hdg hW hn hp'
  obtain ⟨rfl, rfl, r1, r2⟩ := hp'
  have wc' : SBG.StrSize.tab.before args s = true := mvT hZ wc
  obtain ⟨v, B, X', ⟨⟨q1, q2, q3, q4⟩, hv⟩, st⟩ := SBG.StrSize.pays (args := args) hfr hlo wc' (mvT hZ wz) m meth c P g ig mk _ X hg hsize hdg hW hn ⟨r1, r2, x, rfl⟩
  exact ⟨v, B, X', ⟨[], ⟨by rw [← own_size]; exact hv x rfl, Fr.nil n0, by first | exact q1 | exact q4⟩, by first | simpa using q1 | simpa using q2, by first | exact q2 | exact q3, by first | exact q3 | exact q4⟩, st⟩
theorem own_decAt (x : Int32) (bs : List Int32) (g : SBG.GetChars.G) (h1 : SBG.Ones g.D1) (h2 : SBG.Tens g.D2) (hx : g.x = x) (hn : g.n = x.toInt.natAbs) (hk : g.idx = bs.length + (decI x).length) (hidx : g.idx ≤ g.A.slots.size) (H : Has g.A (by8 bs) (.int (0 : Int32))) : Has (SBG.GetChars.outCell g) (by8 (bs ++ decI x)) (.int (0 : Int32)) := by
  intro j hj
  rw [SBG.outCell_size] at hj
  obtain ⟨ha, hb⟩ := own_abs x
  rw [decI_length, ← hn, ← hx] at hk
  obtain ⟨F1, F2, F3⟩ := SBG.outCell_fwd g h1 h2 (by rw [hn]; exact ha) hk hidx
  obtain ⟨-, -, A3⟩ := SBG.outCell_at g h1 h2 (by rw [hn]; exact ha) (by omega) hidx
  have hl : (decI x).length = SBG.digits g.n + SBG.GetChars.sgn g.x := by rw [decI_length, hn, hx]
  have small : ∀ k, k < 128 → (Int32.ofNat k).toInt8.toInt32 = Int32.ofNat k := SBG.dgNarrow
  by_cases c1 : j < bs.length
  · rw [F3 j c1, H j hj]
    simp [List.getD_eq_getElem?_getD, c1, List.getElem?_append_left]
  · by_cases c2 : g.idx ≤ j
    · rw [A3 j (Or.inr c2), H j hj]
      have e1 : (by8 bs).getD j (.int (0 : Int32)) = .int 0 := by simp [List.getD_eq_getElem?_getD, show bs.length ≤ j by omega]
      have e2 : (by8 (bs ++ decI x)).getD j (.int (0 : Int32)) = .int 0 := by
        rw [List.getD_eq_getElem?_getD, List.getElem?_eq_none (by simp; omega)]; rfl
      rw [e1, e2]
    · have e : (by8 (bs ++ decI x)).getD j (.int (0 : Int32)) = (by8 (decI x)).getD (j - bs.length) (.int 0) := by
        simp only [by8, List.map_append, List.getD_eq_getElem?_getD]
        rw [List.getElem?_append_right (by simp; omega)]; simp
      rw [e]
      by_cases hxn : x < 0
      · have hs : SBG.GetChars.sgn g.x = 1 := by rw [hx]; simp [SBG.GetChars.sgn, hxn]
        rw [hs] at F2 hk
        have ed : decI x = (45 : Int32) :: (List.range (SBG.digits x.toInt.natAbs)).map (fun t => Int32.ofNat (48 + x.toInt.natAbs / 10 ^ (SBG.digits x.toInt.natAbs - 1 - t) % 10)) := by unfold decI; rw [if_pos hxn]; rfl
        by_cases c3 : j = bs.length
        · subst c3
          rw [F1 (by rw [hx]; exact hxn), ed]; simp
        · have q := F2 (j - bs.length - 1) (by omega)
          rw [show bs.length + 1 + (j - bs.length - 1) = j by omega] at q
          have hb' : j - bs.length - 1 < SBG.digits x.toInt.natAbs := by rw [← hn]; omega
          have e3 : (by8 (decI x)).getD (j - bs.length) (.int 0) = .int (Int32.ofNat (48 + x.toInt.natAbs / 10 ^ (SBG.digits x.toInt.natAbs - 1 - (j - bs.length - 1)) % 10)) := by
            rw [ed, show j - bs.length = (j - bs.length - 1) + 1 by omega, own_getcons]
            exact own_getmap _ (fun t => Int32.ofNat (48 + x.toInt.natAbs / 10 ^ (SBG.digits x.toInt.natAbs - 1 - t) % 10)) _ (by omega) (small _ (by omega)) _
          rw [q, e3, hn]
      · have hs : SBG.GetChars.sgn g.x = 0 := by rw [hx]; simp [SBG.GetChars.sgn, hxn]
        rw [hs] at F2 hk
        have ed : decI x = (List.range (SBG.digits x.toInt.natAbs)).map (fun t => Int32.ofNat (48 + x.toInt.natAbs / 10 ^ (SBG.digits x.toInt.natAbs - 1 - t) % 10)) := by unfold decI; rw [if_neg hxn]; rfl
        have q := F2 (j - bs.length) (by omega)
        rw [show bs.length + 0 + (j - bs.length) = j by omega] at q
        have hb' : j - bs.length < SBG.digits x.toInt.natAbs := by rw [← hn]; omega
        have e3 : (by8 (decI x)).getD (j - bs.length) (.int 0) = .int (Int32.ofNat (48 + x.toInt.natAbs / 10 ^ (SBG.digits x.toInt.natAbs - 1 - (j - bs.length)) % 10)) := by
          rw [ed]
          exact own_getmap _ (fun t => Int32.ofNat (48 + x.toInt.natAbs / 10 ^ (SBG.digits x.toInt.natAbs - 1 - t) % 10)) _ hb' (small _ (by omega)) _
        rw [q, e3, hn]
theorem own_decFits (bs : List Int32) : ∀ i, fits .byte ((by8 bs).getD i (.int (0 : Int32))) = true := fun i => by
  rw [List.getD_eq_getElem?_getD]
  cases q : (by8 bs)[i]? with
  | none => rfl
  | some v =>
    obtain ⟨hi, hv⟩ := List.getElem?_eq_some_iff.mp q
    rw [List.getElem_map] at hv
    rw [Option.getD_some, ← hv]; exact fits_nar_byte _
theorem sb_charsB {p : Program} {l : Launch} {e : Env} {R : Room} {s : State} {args : Array Value} {below : List Frame} {W : Nat} {Z : State} {a0 : Array Value} {h : Heap} {n0 : Nat} (hZ : Z.Warmed39 s.vm) (wc : (Jvm.Cond.code (⟨"java/lang/Integer", "getChars", "(II[B)I"⟩ : MethodName) jdk_33_method_12_code 7 (some .int)).before a0 Z = true) (w1 : (Jvm.Cond.fieldLink "java/lang/Integer" 83 "java/lang/Integer" "DigitOnes" "[B").before a0 Z = true) (w2 : (Jvm.Cond.fieldLink "java/lang/Integer" 87 "java/lang/Integer" "DigitTens" "[B").before a0 Z = true) (wz : (Jvm.Cond.initialized "java/lang/Integer").before a0 Z = true)
    {ist d1 d2 da : Addr} {kd : ClassId} {N : Nat} {bs : List Int32} {x : Int32} (hD : EnvD Z ist d1 d2) (O : Old Z n0 h) (A : Arv Z h da kd .byte (Int32.ofNat N) (by8 bs) (.int (0 : Int32))) (hle : bs.length + (decI x).length ≤ N) (hN : N ≤ 1000) (gd : n0 ≤ da) (hfr : 2 ≤ R.frames) (hlo : W + 78 ≤ R.locals) :
    Back l R p e below s args (⟨"java/lang/Integer", "getChars", "(II[B)I"⟩ : MethodName) 3 W (fun P a => a = #[.int x, .int (Int32.ofNat (bs ++ decI x).length), .ref da] ∧ P.U.heap = h ∧ P.cells + 0 ≤ R.cells ∧ P.slots + 0 ≤ R.slots)
      (fun P _ v B => ∃ L, (∃ z, v = some (.int z) ∧ Fr n0 L ∧ Keep h B.U.heap [da] ∧ Arv Z B.U.heap da kd .byte (Int32.ofNat N) (by8 (bs ++ decI x)) (.int (0 : Int32))) ∧ B.locs = P.locs ++ L ∧ B.cells = P.cells + 0 ∧ B.slots = P.slots + 0) := by
  intro m meth c P g ig mk a X hg hsize hdg hW hn hp'
  obtain ⟨rfl, rfl, r1, r2⟩ := hp'
  obtain ⟨D1, D2, t1, t2, o1, o2, l1, l2, l3⟩ := hD
  obtain ⟨cA, A1, A2, A3, A4, A5, A6⟩ := A
  have hal : Z.vm.Alike P.U.vm := hZ.alike.trans X.warmed.alike
  have wc' : SBG.GetChars.tab.before args s = true := by
    have q1 := mvT (args := args) hZ wc
    have q2 := mvT (args := args) hZ w1
    have q3 := mvT (args := args) hZ w2
    show (Jvm.Cond.and _ (.and _ _)).before args s = true
    rw [Cond.before_and, Cond.before_and]
    exact (Bool.and_eq_true _ _).mpr ⟨q1, (Bool.and_eq_true _ _).mpr ⟨q2, q3⟩⟩
  obtain ⟨ha, hb⟩ := own_abs x
  have hsz : cA.slots.size = N := by rw [A3, own_cl hN]
  have hlen := decI_length x
  have nx : (bs ++ decI x).length = bs.length + (decI x).length := List.length_append
  have gd' : Z.heap.size ≤ da := by rw [O.1]; exact gd
  obtain ⟨v, B, X', ⟨hv, hc, b1, b2, b3, b4, L, b5, b6⟩, st⟩ := SBG.GetChars.pays (sargs := args) (⟨x, x.toInt.natAbs, (bs ++ decI x).length, da, cA, ist, d1, D1, d2, D2⟩ : SBG.GetChars.G) W wc' (mvT hZ wz) hfr hlo m meth c P g ig mk _ X hg hsize hdg hW hn
    ⟨rfl, r1, r2, rfl, A1.1, State.isArrayOf_alike hal A1.2.1, A1.2.2, by rw [hsz]; omega, by show (bs ++ decI x).length ≤ _; rw [hsz]; omega, by show SBG.digits x.toInt.natAbs + SBG.GetChars.sgn x ≤ (bs ++ decI x).length; omega, ha, hb, own_Tbl O hal rfl t1, own_Tbl O hal rfl t2, Nat.ne_of_gt (Nat.lt_of_lt_of_le l1 gd'), Nat.ne_of_gt (Nat.lt_of_lt_of_le l2 gd'), Nat.ne_of_gt (Nat.lt_of_lt_of_le l3 gd')⟩
  have hH := own_decAt x bs (⟨x, x.toInt.natAbs, (bs ++ decI x).length, da, cA, ist, d1, D1, d2, D2⟩ : SBG.GetChars.G) o1 o2 rfl rfl nx (by show (bs ++ decI x).length ≤ _; rw [hsz]; omega) A5
  obtain ⟨f1, f2, f3, -⟩ := SBG.GetChars.outCell_facts (⟨x, x.toInt.natAbs, (bs ++ decI x).length, da, cA, ist, d1, D1, d2, D2⟩ : SBG.GetChars.G) ha (by show SBG.digits x.toInt.natAbs + SBG.GetChars.sgn x ≤ (bs ++ decI x).length; omega) (fun i hi => by
    have q := A5 i hi
    rw [SBG.getD_of q]; exact A6 i hi)
  refine ⟨v, B, X', ⟨L, ⟨_, hv, fun y hy => by rw [b6 y hy]; exact gd, ⟨Nat.le_of_eq b3.symm, fun y cy q r => b4 y cy (fun z => r (by rw [z]; exact List.mem_singleton.mpr rfl)) q, fun y cy q => ?_⟩, ?_⟩, b5, b1, b2⟩, st⟩
  · by_cases hy : y = da
    · subst hy
      cases A1.1.symm.trans q
      exact ⟨_, hc, f1, f2, f3⟩
    · exact ⟨cy, b4 y cy hy q, rfl, rfl, rfl⟩
  · exact ⟨_, ⟨hc, ⟨fun q => by rw [f2]; exact A1.2.1.1 q, by rw [f1]; exact A1.2.1.2⟩, by rw [f2]; exact A1.2.2⟩, f1.trans A2, by rw [f3]; exact A3, A4, hH, fun i hi => own_decFits _ i⟩
theorem d8_0 : decode jdk_42_method_152_code 0 = .ok (.getstatic 38, 3) := by decide +kernel
theorem d8_3 : decode jdk_42_method_152_code 3 = .ok (.ifCond .eq 10, 3) := by decide +kernel
theorem d8_6 : decode jdk_42_method_152_code 6 = .ok (.aload_n 0, 1) := by decide +kernel
theorem d8_7 : decode jdk_42_method_152_code 7 = .ok (.getfield 15, 3) := by decide +kernel
theorem d8_10 : decode jdk_42_method_152_code 10 = .ok (.goto 4, 3) := by decide +kernel
theorem d8_14 : decode jdk_42_method_152_code 14 = .ok (.ireturn, 1) := by decide +kernel
theorem ef_1_R (m : MethodId) (x0 : Addr) : entryFrame m #[(.ref x0)] 1 = mkF m 0 #[.val (.ref x0)] [] := by first | (simp [entryFrame, mkF, argsToLocals, Value.category]; done) | rfl
theorem pn_java_lang_String : plainName "java/lang/String" = true := by first | (simp [plainName, overriddenIn]; done) | decide +kernel
set_option maxRecDepth 65536 in
set_option maxHeartbeats 40000000 in
theorem sb_coder (l : Launch) (Z : State) (a0 : Array Value) (hw : ∀ d ∈ tables_1, d.before a0 Z = true) (ws : List Jvm.Cond) (zc : Int32) (sa : Addr) (h0 : Heap) (n0 : Nat) (O : Old Z n0 h0) (hE : EnvS Z zc) (C : Fld Z h0 sa "java/lang/String" "coder" "B" (.int (0 : Int32))) :
    MetFree l (⟨"java/lang/String", "coder", "()B"⟩ : MethodName) (head1 (Jvm.Cond.code (⟨"java/lang/String", "coder", "()B"⟩ : MethodName) jdk_42_method_152_code 1 (some .byte) :: ws) ({ frames := 0, cells := 0, slots := 0, locals := 0 } : Room)) (fun a U => a = #[(.ref sa)] ∧ Z.Warmed39 U.vm ∧ U.heap = h0) (fun _ _ _ _ _ => True) (fun _ U o U' => ∃ v L, o = .returned v ∧ Qv (some (.int (0 : Int32))) h0 n0 v U'.heap L ∧ FrameEnd U o U' L ({ frames := 0, cells := 0, slots := 0, locals := 0 } : Room).cells ({ frames := 0, cells := 0, slots := 0, locals := 0 } : Room).slots) := by
  refine MetFree.of_bodySF (plainFor_of_name pn_java_lang_String) hisR ?_
  intro p e s m args below meth c s₁ Bd hml0 hP hK
  obtain ⟨rfl, hZ, hh⟩ := hP
  have hx := Bd.exec
  have hby := Bd.bytes
  have hml : c.maxLocals = 1 := hml0
  have hown : s.vm.findClass "java/lang/String" = some m.cls := findClass_of_methodNamed Bd.named
  have hnm := (name_of_methodNamed Bd.named Bd.method).1
  have X0 : Stand p l e ({ frames := 0, cells := 0, slots := 0, locals := 0 } : Room) s m #[(.ref sa)] below meth c s₁ [] 0 0 := Stand.of_body Bd
  have e0 : s₁.heap = h0 := by rw [← hh, Bd.state]; rfl
  have N0 := Fr.nil n0
  have pre0 : ∀ t, Steps p.tables e below (s₁.setTop (mkF m 0 #[.val (.ref sa)] [])) t → Steps p.tables e below (s₁.setTop (entryFrame m #[(.ref sa)] 1)) t := fun t k => castTop (ef_1_R m sa) k
  obtain ⟨Scmp, hzc⟩ := id hE
  obtain ⟨T1, X1, e1, st1⟩ := getS2 X0 hx hZ hown (host := "") (Or.inl (hw _ (List.mem_of_getElem? (i := 60) rfl))) Via.refl e0 (Scmp.ext O.2) (g := (mkF m 0 #[.val (.ref sa)] [])) rfl (hb hby d8_0)
  obtain ⟨T2, X2, e2, st2⟩ := getF X1 hx hZ hown (host := "") (Or.inl (hw _ (List.mem_of_getElem? (i := 61) rfl))) Via.refl e1 C (g := (mkF m 7 #[.val (.ref sa)] [(.ref sa)])) rfl rfl (hb hby d8_7)
  obtain ⟨fs, hr, hrun, hended, hW, hsame⟩ := X2.leave (v := some (.int (0 : Int32))) (fun h => by rw [Bd.returns] at h; cases h)
  refine ⟨_, _, pre0 _ ?_, hrun, hended, _, _, rfl, ?_, ⟨_, rfl⟩, hW, hsame.mono (by decide) (by decide)⟩
  · show Steps p.tables e below (s₁.setTop (mkF m 0 #[.val (.ref sa)] [])) _
    refine st1 _ ?_
    show Steps p.tables e below (T1.setTop (mkF m 3 #[.val (.ref sa)] [(.int zc)])) _
    refine XS.ifNo X1.here hx rfl (hb hby d8_3) rfl ((if0 _ _).trans (feq (hzc : ¬ (zc = (0 : Int32)))).1) ?_
    show Steps p.tables e below (T1.setTop (mkF m 6 #[.val (.ref sa)] [])) _
    refine XS.aloadN X1.here hx rfl (hb hby d8_6) rfl rfl ?_
    show Steps p.tables e below (T1.setTop (mkF m 7 #[.val (.ref sa)] [(.ref sa)])) _
    refine st2 _ ?_
    show Steps p.tables e below (T2.setTop (mkF m 10 #[.val (.ref sa)] [(.int (0 : Int32))])) _
    refine XS.goto X2.here hx rfl (pc0 := 10) (pc' := 14) rfl (hb hby d8_10) (by decide) (by decide) ?_
    show Steps p.tables e below (T2.setTop (mkF m 14 #[.val (.ref sa)] [(.int (0 : Int32))])) _
    exact retN X2 hx (t := .byte) Bd.returns (by simp) (hb hby d8_14) hr
  · exact ⟨rfl, N0, e2⟩
theorem d7_0 : decode jdk_42_method_54_code 0 = .ok (.aload_n 0, 1) := by decide +kernel
theorem d7_1 : decode jdk_42_method_54_code 1 = .ok (.getfield 9, 3) := by decide +kernel
theorem d7_4 : decode jdk_42_method_54_code 4 = .ok (.arraylength, 1) := by decide +kernel
theorem d7_5 : decode jdk_42_method_54_code 5 = .ok (.aload_n 0, 1) := by decide +kernel
theorem pd_2829B : parseMethodDescriptor "()B" = some ⟨[], some .byte⟩ := by decide +kernel
theorem d7_6 : decode jdk_42_method_54_code 6 = .ok (.invokevirtual 335, 3) := by decide +kernel
theorem d7_9 : decode jdk_42_method_54_code 9 = .ok (.ishr, 1) := by decide +kernel
theorem d7_10 : decode jdk_42_method_54_code 10 = .ok (.ireturn, 1) := by decide +kernel
set_option maxRecDepth 65536 in
set_option maxHeartbeats 40000000 in
theorem sb_length (l : Launch) (Z : State) (a0 : Array Value) (hw : ∀ d ∈ tables_1, d.before a0 Z = true) (ws : List Jvm.Cond) (zc : Int32) (sa sd : Addr) (ks : ClassId) (cs : List Int32) (h0 : Heap) (n0 : Nat) (O : Old Z n0 h0) (hE : EnvS Z zc) (hS : Str Z h0 sa sd ks cs) :
    MetFree l (⟨"java/lang/String", "length", "()I"⟩ : MethodName) (head1 (Jvm.Cond.code (⟨"java/lang/String", "length", "()I"⟩ : MethodName) jdk_42_method_54_code 1 (some .int) :: ws) ({ frames := 1, cells := 0, slots := 0, locals := 13 } : Room)) (fun a U => a = #[(.ref sa)] ∧ Z.Warmed39 U.vm ∧ U.heap = h0) (fun _ _ _ _ _ => True) (fun _ U o U' => ∃ v L, o = .returned v ∧ Qv (some (.int (Int32.ofNat cs.length))) h0 n0 v U'.heap L ∧ FrameEnd U o U' L ({ frames := 1, cells := 0, slots := 0, locals := 13 } : Room).cells ({ frames := 1, cells := 0, slots := 0, locals := 13 } : Room).slots) := by
  refine MetFree.of_bodySF (plainFor_of_name pn_java_lang_String) hisR ?_
  intro p e s m args below meth c s₁ Bd hml0 hP hK
  obtain ⟨rfl, hZ, hh⟩ := hP
  have hx := Bd.exec
  have hby := Bd.bytes
  have hml : c.maxLocals = 1 := hml0
  have hown : s.vm.findClass "java/lang/String" = some m.cls := findClass_of_methodNamed Bd.named
  have hnm := (name_of_methodNamed Bd.named Bd.method).1
  have X0 : Stand p l e ({ frames := 1, cells := 0, slots := 0, locals := 13 } : Room) s m #[(.ref sa)] below meth c s₁ [] 0 0 := Stand.of_body Bd
  have e0 : s₁.heap = h0 := by rw [← hh, Bd.state]; rfl
  have N0 := Fr.nil n0
  have pre0 : ∀ t, Steps p.tables e below (s₁.setTop (mkF m 0 #[.val (.ref sa)] [])) t → Steps p.tables e below (s₁.setTop (entryFrame m #[(.ref sa)] 1)) t := fun t k => castTop (ef_1_R m sa) k
  obtain ⟨Scmp, hzc⟩ := id hE
  obtain ⟨Es, Vs, Cs, As⟩ := id hS
  obtain ⟨T1, X1, e1, st1⟩ := getF X0 hx hZ hown (host := "") (Or.inl (hw _ (List.mem_of_getElem? (i := 54) rfl))) Via.refl e0 Vs (g := (mkF m 1 #[.val (.ref sa)] [(.ref sa)])) rfl rfl (hb hby d7_1)
  obtain ⟨c2, A2, q2, s2, n2, H2, G2⟩ := id As
  obtain ⟨cq3, kq3, q3a, q3b, q3c⟩ := isOf hZ e1 Es
  obtain ⟨_, _, ⟨T3, L3, k3, n3⟩, -, X3, ⟨Lc3, hQ3, l3, y3, z3⟩, st3⟩ := X1.virtualBack hx (y := (⟨"java/lang/String", "coder", "()B"⟩ : MethodName)) (z := (⟨"java/lang/String", "coder", "()B"⟩ : MethodName)) hown (mvT hZ (hw _ (List.mem_of_getElem? (i := 55) rfl))) (mvT hZ (hw _ (List.mem_of_getElem? (i := 56) rfl))) (notFace_of_selects (args := #[]) (mvT hZ (hw _ (List.mem_of_getElem? (i := 58) rfl)))) (mvT hZ (hw _ (List.mem_of_getElem? (i := 58) rfl))) (mvT hZ (hw _ (List.mem_of_getElem? (i := 57) rfl))) (by decide) (backOf (W := 1) (sb_coder l Z a0 hw [] zc sa h0 n0 O hE Cs) hZ (hw _ (List.mem_of_getElem? (i := 59) rfl)) (hw _ (List.mem_of_getElem? (i := 5) rfl)) (by decide) (by decide)) q3a q3c (g := (mkF m 6 #[.val (.ref sa)] [(.ref sa), (.int (Int32.ofNat cs.length))])) rfl (by rw [hml]; rfl) (Steps.refl _) (argsL := []) (rest := [(.int (Int32.ofNat cs.length))]) (lenOf pd_2829B rfl) rfl (by show 2 * 0 + _ ≤ _; exact Nat.le_of_eq rfl) (hb hby d7_6) (fun _ _ => ⟨rfl, e1, (by decide : 0 + 0 ≤ _), (by decide : 0 + 0 ≤ _)⟩)
  dsimp only [Pt.U, Pt.locs, Pt.cells, Pt.slots] at X3 l3 y3 z3 st3 hQ3
  subst l3 y3 z3
  obtain ⟨rfl, N3q, e3⟩ := hQ3
  have N3 := Fr.app N0 N3q
  obtain ⟨fs, hr, hrun, hended, hW, hsame⟩ := X3.leave (v := some (.int (Int32.ofNat cs.length))) (fun h => by rw [Bd.returns] at h; cases h)
  refine ⟨_, _, pre0 _ ?_, hrun, hended, _, _, rfl, ?_, ⟨_, rfl⟩, hW, hsame.mono (by decide) (by decide)⟩
  · show Steps p.tables e below (s₁.setTop (mkF m 0 #[.val (.ref sa)] [])) _
    refine XS.aloadN X0.here hx rfl (hb hby d7_0) rfl rfl ?_
    show Steps p.tables e below (s₁.setTop (mkF m 1 #[.val (.ref sa)] [(.ref sa)])) _
    refine st1 _ ?_
    show Steps p.tables e below (T1.setTop (mkF m 4 #[.val (.ref sa)] [(.ref sd)])) _
    refine X1.arraylength hx (by rw [e1]; exact A2.1) (State.isArrayOf_alike hZ.alike A2.2.1) (g := (mkF m 4 #[.val (.ref sa)] [(.ref sd)])) rfl rfl (hb hby d7_4) _ ?_
    rw [len_of s2 n2]
    show Steps p.tables e below (T1.setTop (mkF m 5 #[.val (.ref sa)] [(.int (Int32.ofNat cs.length))])) _
    refine XS.aloadN X1.here hx rfl (hb hby d7_5) rfl rfl ?_
    show Steps p.tables e below (T1.setTop (mkF m 6 #[.val (.ref sa)] [(.ref sa), (.int (Int32.ofNat cs.length))])) _
    refine st3.trans ?_
    show Steps p.tables e below (T3.setTop (mkF m 9 #[.val (.ref sa)] [(.int (0 : Int32)), (.int (Int32.ofNat cs.length))])) _
    refine XS.ishr X3.here hx rfl (hb hby d7_9) rfl ?_
    show Steps p.tables e below (T3.setTop (mkF m 10 #[.val (.ref sa)] [(.int ((Int32.ofNat cs.length) >>> ((0 : Int32) &&& 31)))])) _
    rw [own_shr0]
    show Steps p.tables e below (T3.setTop (mkF m 10 #[.val (.ref sa)] [(.int (Int32.ofNat cs.length))])) _
    exact retI X3 hx Bd.returns (hb hby d7_10) hr
  · exact ⟨rfl, N3, e3⟩
theorem d11_0 : decode jdk_68_method_71_code 0 = .ok (.getstatic 18, 3) := by decide +kernel
theorem d11_3 : decode jdk_68_method_71_code 3 = .ok (.ifCond .eq 18, 3) := by decide +kernel
theorem d11_6 : decode jdk_68_method_71_code 6 = .ok (.aload_n 0, 1) := by decide +kernel
theorem d11_7 : decode jdk_68_method_71_code 7 = .ok (.getfield 22, 3) := by decide +kernel
theorem d11_10 : decode jdk_68_method_71_code 10 = .ok (.aload_n 1, 1) := by decide +kernel
theorem d11_11 : decode jdk_68_method_71_code 11 = .ok (.invokevirtual 40, 3) := by decide +kernel
theorem d11_14 : decode jdk_68_method_71_code 14 = .ok (.if_icmp .eq 7, 3) := by decide +kernel
theorem d11_21 : decode jdk_68_method_71_code 21 = .ok (.return_, 1) := by decide +kernel
theorem ef_2_RR (m : MethodId) (x0 : Addr) (x1 : Addr) : entryFrame m #[(.ref x0), (.ref x1)] 2 = mkF m 0 #[.val (.ref x0), .val (.ref x1)] [] := by first | (simp [entryFrame, mkF, argsToLocals, Value.category]; done) | rfl
theorem pn_java_lang_AbstractStringBuilder : plainName "java/lang/AbstractStringBuilder" = true := by first | (simp [plainName, overriddenIn]; done) | decide +kernel
set_option maxRecDepth 65536 in
set_option maxHeartbeats 40000000 in
theorem sb_inflate (l : Launch) (Z : State) (a0 : Array Value) (hw : ∀ d ∈ tables_1, d.before a0 Z = true) (ws : List Jvm.Cond) (zc : Int32) (bb : Addr) (sa sd : Addr) (ks : ClassId) (cs : List Int32) (h0 : Heap) (n0 : Nat) (O : Old Z n0 h0) (hE : EnvS Z zc) (hS : Str Z h0 sa sd ks cs) (C : Fld Z h0 bb "java/lang/AbstractStringBuilder" "coder" "B" (.int (0 : Int32))) :
    MetFree l (⟨"java/lang/AbstractStringBuilder", "inflateIfNeededFor", "(Ljava/lang/String;)V"⟩ : MethodName) (head1 (Jvm.Cond.code (⟨"java/lang/AbstractStringBuilder", "inflateIfNeededFor", "(Ljava/lang/String;)V"⟩ : MethodName) jdk_68_method_71_code 2 none :: ws) ({ frames := 1, cells := 0, slots := 0, locals := 13 } : Room)) (fun a U => a = #[(.ref bb), (.ref sa)] ∧ Z.Warmed39 U.vm ∧ U.heap = h0) (fun _ _ _ _ _ => True) (fun _ U o U' => ∃ v L, o = .returned v ∧ Qv none h0 n0 v U'.heap L ∧ FrameEnd U o U' L ({ frames := 1, cells := 0, slots := 0, locals := 13 } : Room).cells ({ frames := 1, cells := 0, slots := 0, locals := 13 } : Room).slots) := by
  refine MetFree.of_bodySF (plainFor_of_name pn_java_lang_AbstractStringBuilder) hisR ?_
  intro p e s m args below meth c s₁ Bd hml0 hP hK
  obtain ⟨rfl, hZ, hh⟩ := hP
  have hx := Bd.exec
  have hby := Bd.bytes
  have hml : c.maxLocals = 2 := hml0
  have hown : s.vm.findClass "java/lang/AbstractStringBuilder" = some m.cls := findClass_of_methodNamed Bd.named
  have hnm := (name_of_methodNamed Bd.named Bd.method).1
  have X0 : Stand p l e ({ frames := 1, cells := 0, slots := 0, locals := 13 } : Room) s m #[(.ref bb), (.ref sa)] below meth c s₁ [] 0 0 := Stand.of_body Bd
  have e0 : s₁.heap = h0 := by rw [← hh, Bd.state]; rfl
  have N0 := Fr.nil n0
  have pre0 : ∀ t, Steps p.tables e below (s₁.setTop (mkF m 0 #[.val (.ref bb), .val (.ref sa)] [])) t → Steps p.tables e below (s₁.setTop (entryFrame m #[(.ref bb), (.ref sa)] 2)) t := fun t k => castTop (ef_2_RR m bb sa) k
  obtain ⟨Scmp, hzc⟩ := id hE
  obtain ⟨Es, Vs, Cs, As⟩ := id hS
  obtain ⟨T1, X1, e1, st1⟩ := getS2 X0 hx hZ hown (host := "") (Or.inl (hw _ (List.mem_of_getElem? (i := 32) rfl))) Via.refl e0 (Scmp.ext O.2) (g := (mkF m 0 #[.val (.ref bb), .val (.ref sa)] [])) rfl (hb hby d11_0)
  obtain ⟨T2, X2, e2, st2⟩ := getF X1 hx hZ hown (host := "") (Or.inl (hw _ (List.mem_of_getElem? (i := 35) rfl))) Via.refl e1 C (g := (mkF m 7 #[.val (.ref bb), .val (.ref sa)] [(.ref bb)])) rfl rfl (hb hby d11_7)
  obtain ⟨cq3, kq3, q3a, q3b, q3c⟩ := isOf hZ e2 Es
  obtain ⟨_, _, ⟨T3, L3, k3, n3⟩, -, X3, ⟨Lc3, hQ3, l3, y3, z3⟩, st3⟩ := X2.virtualBack hx (y := (⟨"java/lang/String", "coder", "()B"⟩ : MethodName)) (z := (⟨"java/lang/String", "coder", "()B"⟩ : MethodName)) hown (mvT hZ (hw _ (List.mem_of_getElem? (i := 79) rfl))) (mvT hZ (hw _ (List.mem_of_getElem? (i := 56) rfl))) (notFace_of_selects (args := #[]) (mvT hZ (hw _ (List.mem_of_getElem? (i := 58) rfl)))) (mvT hZ (hw _ (List.mem_of_getElem? (i := 58) rfl))) (mvT hZ (hw _ (List.mem_of_getElem? (i := 57) rfl))) (by decide) (backOf (W := 1) (sb_coder l Z a0 hw [] zc sa h0 n0 O hE Cs) hZ (hw _ (List.mem_of_getElem? (i := 59) rfl)) (hw _ (List.mem_of_getElem? (i := 5) rfl)) (by decide) (by decide)) q3a q3c (g := (mkF m 11 #[.val (.ref bb), .val (.ref sa)] [(.ref sa), (.int (0 : Int32))])) rfl (by rw [hml]; rfl) (Steps.refl _) (argsL := []) (rest := [(.int (0 : Int32))]) (lenOf pd_2829B rfl) rfl (by show 2 * 0 + _ ≤ _; exact Nat.le_of_eq rfl) (hb hby d11_11) (fun _ _ => ⟨rfl, e2, (by decide : 0 + 0 ≤ _), (by decide : 0 + 0 ≤ _)⟩)
  dsimp only [Pt.U, Pt.locs, Pt.cells, Pt.slots] at X3 l3 y3 z3 st3 hQ3
  subst l3 y3 z3
  obtain ⟨rfl, N3q, e3⟩ := hQ3
  have N3 := Fr.app N0 N3q
  obtain ⟨fs, hr, hrun, hended, hW, hsame⟩ := X3.leave (v := none) (fun h => rfl)
  refine ⟨_, _, pre0 _ ?_, hrun, hended, _, _, rfl, ?_, ⟨_, rfl⟩, hW, hsame.mono (by decide) (by decide)⟩
  · show Steps p.tables e below (s₁.setTop (mkF m 0 #[.val (.ref bb), .val (.ref sa)] [])) _
    refine st1 _ ?_
    show Steps p.tables e below (T1.setTop (mkF m 3 #[.val (.ref bb), .val (.ref sa)] [(.int zc)])) _
    refine XS.ifNo X1.here hx rfl (hb hby d11_3) rfl ((if0 _ _).trans (feq (hzc : ¬ (zc = (0 : Int32)))).1) ?_
    show Steps p.tables e below (T1.setTop (mkF m 6 #[.val (.ref bb), .val (.ref sa)] [])) _
    refine XS.aloadN X1.here hx rfl (hb hby d11_6) rfl rfl ?_
    show Steps p.tables e below (T1.setTop (mkF m 7 #[.val (.ref bb), .val (.ref sa)] [(.ref bb)])) _
    refine st2 _ ?_
    show Steps p.tables e below (T2.setTop (mkF m 10 #[.val (.ref bb), .val (.ref sa)] [(.int (0 : Int32))])) _
    refine XS.aloadN X2.here hx rfl (hb hby d11_10) rfl rfl ?_
    show Steps p.tables e below (T2.setTop (mkF m 11 #[.val (.ref bb), .val (.ref sa)] [(.ref sa), (.int (0 : Int32))])) _
    refine st3.trans ?_
    show Steps p.tables e below (T3.setTop (mkF m 14 #[.val (.ref bb), .val (.ref sa)] [(.int (0 : Int32)), (.int (0 : Int32))])) _
    refine XS.icmpYes X3.here hx rfl (pc0 := 14) (pc' := 21) rfl (hb hby d11_14) rfl (teq ((by decide) : (0 : Int32) = (0 : Int32))).1 (by decide) (by decide) ?_
    show Steps p.tables e below (T3.setTop (mkF m 21 #[.val (.ref bb), .val (.ref sa)] [])) _
    exact X3.returnOut hx Bd.returns (hb hby d11_21) hr
  · exact ⟨rfl, N3, e3⟩
theorem d12_0 : decode jdk_42_method_147_code 0 = .ok (.aload_n 0, 1) := by decide +kernel
theorem d12_1 : decode jdk_42_method_147_code 1 = .ok (.invokevirtual 335, 3) := by decide +kernel
theorem d12_4 : decode jdk_42_method_147_code 4 = .ok (.iload_n 3, 1) := by decide +kernel
theorem d12_5 : decode jdk_42_method_147_code 5 = .ok (.if_icmp .ne 23, 3) := by decide +kernel
theorem d12_8 : decode jdk_42_method_147_code 8 = .ok (.aload_n 0, 1) := by decide +kernel
theorem d12_9 : decode jdk_42_method_147_code 9 = .ok (.getfield 9, 3) := by decide +kernel
theorem d12_12 : decode jdk_42_method_147_code 12 = .ok (.iconst 0, 1) := by decide +kernel
theorem d12_13 : decode jdk_42_method_147_code 13 = .ok (.aload_n 1, 1) := by decide +kernel
theorem d12_14 : decode jdk_42_method_147_code 14 = .ok (.iload_n 2, 1) := by decide +kernel
theorem d12_15 : decode jdk_42_method_147_code 15 = .ok (.iload_n 3, 1) := by decide +kernel
theorem d12_16 : decode jdk_42_method_147_code 16 = .ok (.ishl, 1) := by decide +kernel
theorem d12_17 : decode jdk_42_method_147_code 17 = .ok (.aload_n 0, 1) := by decide +kernel
theorem d12_18 : decode jdk_42_method_147_code 18 = .ok (.getfield 9, 3) := by decide +kernel
theorem d12_21 : decode jdk_42_method_147_code 21 = .ok (.arraylength, 1) := by decide +kernel
theorem d12_22 : decode jdk_42_method_147_code 22 = .ok (.invokestatic 212, 3) := by decide +kernel
theorem d12_25 : decode jdk_42_method_147_code 25 = .ok (.goto 18, 3) := by decide +kernel
theorem d12_43 : decode jdk_42_method_147_code 43 = .ok (.return_, 1) := by decide +kernel
theorem ef_4_RRII (m : MethodId) (x0 : Addr) (x1 : Addr) (x2 : Int32) (x3 : Int32) : entryFrame m #[(.ref x0), (.ref x1), (.int x2), (.int x3)] 4 = mkF m 0 #[.val (.ref x0), .val (.ref x1), .val (.int x2), .val (.int x3)] [] := by first | (simp [entryFrame, mkF, argsToLocals, Value.category]; done) | rfl
set_option maxRecDepth 65536 in
set_option maxHeartbeats 40000000 in
theorem sb_getBytes (l : Launch) (Z : State) (a0 : Array Value) (hw : ∀ d ∈ tables_1, d.before a0 Z = true) (ws : List Jvm.Cond) (zc : Int32) (sa sd : Addr) (ks : ClassId) (cs : List Int32) (da : Addr) (kd : ClassId) (N : Nat) (bs : List Int32) (h0 : Heap) (n0 : Nat) (O : Old Z n0 h0) (hE : EnvS Z zc) (hS : Str Z h0 sa sd ks cs) (A : Arv Z h0 da kd .byte (Int32.ofNat N) (by8 bs) (.int (0 : Int32))) (hle : bs.length + cs.length ≤ N) (hN : N ≤ 1000) (hne : sd ≠ da) (gd : n0 ≤ da) :
    MetFree l (⟨"java/lang/String", "getBytes", "([BIB)V"⟩ : MethodName) (head1 (Jvm.Cond.code (⟨"java/lang/String", "getBytes", "([BIB)V"⟩ : MethodName) jdk_42_method_147_code 4 none :: ws) ({ frames := 1, cells := 0, slots := 0, locals := 18 } : Room)) (fun a U => a = #[(.ref sa), (.ref da), (.int (Int32.ofNat bs.length)), (.int (0 : Int32))] ∧ Z.Warmed39 U.vm ∧ U.heap = h0) (fun _ _ _ _ _ => True) (fun _ U o U' => ∃ v L, o = .returned v ∧ Qh none h0 n0 [da] (fun h => Arv Z h da kd .byte (Int32.ofNat N) (by8 (bs ++ cs)) (.int (0 : Int32))) v U'.heap L ∧ FrameEnd U o U' L ({ frames := 1, cells := 0, slots := 0, locals := 18 } : Room).cells ({ frames := 1, cells := 0, slots := 0, locals := 18 } : Room).slots) := by
  refine MetFree.of_bodySF (plainFor_of_name pn_java_lang_String) hisR ?_
  intro p e s m args below meth c s₁ Bd hml0 hP hK
  obtain ⟨rfl, hZ, hh⟩ := hP
  have hx := Bd.exec
  have hby := Bd.bytes
  have hml : c.maxLocals = 4 := hml0
  have hown : s.vm.findClass "java/lang/String" = some m.cls := findClass_of_methodNamed Bd.named
  have hnm := (name_of_methodNamed Bd.named Bd.method).1
  have X0 : Stand p l e ({ frames := 1, cells := 0, slots := 0, locals := 18 } : Room) s m #[(.ref sa), (.ref da), (.int (Int32.ofNat bs.length)), (.int (0 : Int32))] below meth c s₁ [] 0 0 := Stand.of_body Bd
  have e0 : s₁.heap = h0 := by rw [← hh, Bd.state]; rfl
  have N0 := Fr.nil n0
  have pre0 : ∀ t, Steps p.tables e below (s₁.setTop (mkF m 0 #[.val (.ref sa), .val (.ref da), .val (.int (Int32.ofNat bs.length)), .val (.int (0 : Int32))] [])) t → Steps p.tables e below (s₁.setTop (entryFrame m #[(.ref sa), (.ref da), (.int (Int32.ofNat bs.length)), (.int (0 : Int32))] 4)) t := fun t k => castTop (ef_4_RRII m sa da (Int32.ofNat bs.length) (0 : Int32)) k
  obtain ⟨Scmp, hzc⟩ := id hE
  obtain ⟨Es, Vs, Cs, As⟩ := id hS
  obtain ⟨cq1, kq1, q1a, q1b, q1c⟩ := isOf hZ e0 Es
  obtain ⟨_, _, ⟨T1, L1, k1, n1⟩, -, X1, ⟨Lc1, hQ1, l1, y1, z1⟩, st1⟩ := X0.virtualBack hx (y := (⟨"java/lang/String", "coder", "()B"⟩ : MethodName)) (z := (⟨"java/lang/String", "coder", "()B"⟩ : MethodName)) hown (mvT hZ (hw _ (List.mem_of_getElem? (i := 55) rfl))) (mvT hZ (hw _ (List.mem_of_getElem? (i := 56) rfl))) (notFace_of_selects (args := #[]) (mvT hZ (hw _ (List.mem_of_getElem? (i := 58) rfl)))) (mvT hZ (hw _ (List.mem_of_getElem? (i := 58) rfl))) (mvT hZ (hw _ (List.mem_of_getElem? (i := 57) rfl))) (by decide) (backOf (W := 0) (sb_coder l Z a0 hw [] zc sa h0 n0 O hE Cs) hZ (hw _ (List.mem_of_getElem? (i := 59) rfl)) (hw _ (List.mem_of_getElem? (i := 5) rfl)) (by decide) (by decide)) q1a q1c (g := (mkF m 1 #[.val (.ref sa), .val (.ref da), .val (.int (Int32.ofNat bs.length)), .val (.int (0 : Int32))] [(.ref sa)])) rfl (by rw [hml]; rfl) (Steps.refl _) (argsL := []) (rest := []) (lenOf pd_2829B rfl) rfl (by show 2 * 0 + _ ≤ _; exact Nat.le_of_eq rfl) (hb hby d12_1) (fun _ _ => ⟨rfl, e0, (by decide : 0 + 0 ≤ _), (by decide : 0 + 0 ≤ _)⟩)
  dsimp only [Pt.U, Pt.locs, Pt.cells, Pt.slots] at X1 l1 y1 z1 st1 hQ1
  subst l1 y1 z1
  obtain ⟨rfl, N1q, e1⟩ := hQ1
  have N1 := Fr.app N0 N1q
  obtain ⟨T2, X2, e2, st2⟩ := getF X1 hx hZ hown (host := "") (Or.inl (hw _ (List.mem_of_getElem? (i := 54) rfl))) Via.refl e1 Vs (g := (mkF m 9 #[.val (.ref sa), .val (.ref da), .val (.int (Int32.ofNat bs.length)), .val (.int (0 : Int32))] [(.ref sa)])) rfl rfl (hb hby d12_9)
  obtain ⟨T3, X3, e3, st3⟩ := getF X2 hx hZ hown (host := "") (Or.inl (hw _ (List.mem_of_getElem? (i := 54) rfl))) Via.refl e2 Vs (g := (mkF m 18 #[.val (.ref sa), .val (.ref da), .val (.int (Int32.ofNat bs.length)), .val (.int (0 : Int32))] [(.ref sa), (.int (Int32.ofNat bs.length)), (.ref da), (.int (0 : Int32)), (.ref sd)])) rfl rfl (hb hby d12_18)
  obtain ⟨c4, A4, q4, s4, n4, H4, G4⟩ := id As
  have Bp : Arv Z h0 da kd .byte (Int32.ofNat N) (by8 bs ++ List.replicate cs.length (.int (0 : Int32))) (.int (0 : Int32)) := A.pad (pad_rep (by8 bs) (.int (0 : Int32)) cs.length)
  obtain ⟨T5, h5, L5, X5, e5, N5, K5, V5, st5⟩ := cpA X3 hx hZ hown (hw _ (List.mem_of_getElem? (i := 85) rfl)) (hw _ (List.mem_of_getElem? (i := 88) rfl)) (hw _ (List.mem_of_getElem? (i := 86) rfl)) (hw _ (List.mem_of_getElem? (i := 87) rfl)) e3 As Bp (Or.inl ⟨rfl, rfl⟩) (by decide) (own_nn (by omega)) (own_nn (by omega)) (by rw [own_cl (by omega)]; show 0 + cs.length ≤ cs.length; omega) (by rw [own_cl (by omega), own_cl (by omega), own_cl (by omega)]; exact hle) rfl (by rw [own_cl (by omega), own_cl (by omega)]; simp) N1 gd (g := (mkF m 22 #[.val (.ref sa), .val (.ref da), .val (.int (Int32.ofNat bs.length)), .val (.int (0 : Int32))] [(.int (Int32.ofNat cs.length)), (.int (Int32.ofNat bs.length)), (.ref da), (.int (0 : Int32)), (.ref sd)])) rfl (by rw [hml]; rfl) rfl (hb hby d12_22) (by decide) (W := 0) (by show 2 * 0 + _ ≤ _; exact Nat.le_of_eq rfl) (by decide)
  have O5 : Old Z n0 h5 := O.keep K5 (allS (P := (n0 ≤ ·)) gd all0)
  have Kp5 : Keep h0 h5 [da] := (Keep.refl h0 [da]).trans K5 (allS (P := (fun x => x ∈ [da] ∨ h0.size ≤ x)) (Or.inl (by simp)) all0)
  have Vc : Arv Z h5 da kd .byte (Int32.ofNat N) (by8 (bs ++ cs)) (.int (0 : Int32)) := by rw [own_cl (by omega), own_cl (by omega), show (0 : Int32).toNatClampNeg = 0 from rfl, own_cat bs cs (.int (0 : Int32)) rfl rfl] at V5; exact V5
  obtain ⟨fs, hr, hrun, hended, hW, hsame⟩ := X5.leave (v := none) (fun h => rfl)
  refine ⟨_, _, pre0 _ ?_, hrun, hended, _, _, rfl, ?_, ⟨_, rfl⟩, hW, hsame.mono (by decide) (by decide)⟩
  · show Steps p.tables e below (s₁.setTop (mkF m 0 #[.val (.ref sa), .val (.ref da), .val (.int (Int32.ofNat bs.length)), .val (.int (0 : Int32))] [])) _
    refine XS.aloadN X0.here hx rfl (hb hby d12_0) rfl rfl ?_
    show Steps p.tables e below (s₁.setTop (mkF m 1 #[.val (.ref sa), .val (.ref da), .val (.int (Int32.ofNat bs.length)), .val (.int (0 : Int32))] [(.ref sa)])) _
    refine st1.trans ?_
    show Steps p.tables e below (T1.setTop (mkF m 4 #[.val (.ref sa), .val (.ref da), .val (.int (Int32.ofNat bs.length)), .val (.int (0 : Int32))] [(.int (0 : Int32))])) _
    refine XS.iloadN X1.here hx rfl (hb hby d12_4) rfl ?_
    show Steps p.tables e below (T1.setTop (mkF m 5 #[.val (.ref sa), .val (.ref da), .val (.int (Int32.ofNat bs.length)), .val (.int (0 : Int32))] [(.int (0 : Int32)), (.int (0 : Int32))])) _
    refine XS.icmpNo X1.here hx rfl (hb hby d12_5) rfl (teq ((by decide) : (0 : Int32) = (0 : Int32))).2 ?_
    show Steps p.tables e below (T1.setTop (mkF m 8 #[.val (.ref sa), .val (.ref da), .val (.int (Int32.ofNat bs.length)), .val (.int (0 : Int32))] [])) _
    refine XS.aloadN X1.here hx rfl (hb hby d12_8) rfl rfl ?_
    show Steps p.tables e below (T1.setTop (mkF m 9 #[.val (.ref sa), .val (.ref da), .val (.int (Int32.ofNat bs.length)), .val (.int (0 : Int32))] [(.ref sa)])) _
    refine st2 _ ?_
    show Steps p.tables e below (T2.setTop (mkF m 12 #[.val (.ref sa), .val (.ref da), .val (.int (Int32.ofNat bs.length)), .val (.int (0 : Int32))] [(.ref sd)])) _
    refine XS.iconst X2.here hx rfl (hb hby d12_12) ?_
    show Steps p.tables e below (T2.setTop (mkF m 13 #[.val (.ref sa), .val (.ref da), .val (.int (Int32.ofNat bs.length)), .val (.int (0 : Int32))] [(.int (0 : Int32)), (.ref sd)])) _
    refine XS.aloadN X2.here hx rfl (hb hby d12_13) rfl rfl ?_
    show Steps p.tables e below (T2.setTop (mkF m 14 #[.val (.ref sa), .val (.ref da), .val (.int (Int32.ofNat bs.length)), .val (.int (0 : Int32))] [(.ref da), (.int (0 : Int32)), (.ref sd)])) _
    refine XS.iloadN X2.here hx rfl (hb hby d12_14) rfl ?_
    show Steps p.tables e below (T2.setTop (mkF m 15 #[.val (.ref sa), .val (.ref da), .val (.int (Int32.ofNat bs.length)), .val (.int (0 : Int32))] [(.int (Int32.ofNat bs.length)), (.ref da), (.int (0 : Int32)), (.ref sd)])) _
    refine XS.iloadN X2.here hx rfl (hb hby d12_15) rfl ?_
    show Steps p.tables e below (T2.setTop (mkF m 16 #[.val (.ref sa), .val (.ref da), .val (.int (Int32.ofNat bs.length)), .val (.int (0 : Int32))] [(.int (0 : Int32)), (.int (Int32.ofNat bs.length)), (.ref da), (.int (0 : Int32)), (.ref sd)])) _
    refine XS.ishl X2.here hx rfl (hb hby d12_16) rfl ?_
    show Steps p.tables e below (T2.setTop (mkF m 17 #[.val (.ref sa), .val (.ref da), .val (.int (Int32.ofNat bs.length)), .val (.int (0 : Int32))] [(.int ((Int32.ofNat bs.length) <<< ((0 : Int32) &&& 31))), (.ref da), (.int (0 : Int32)), (.ref sd)])) _
    rw [own_shl0]
    show Steps p.tables e below (T2.setTop (mkF m 17 #[.val (.ref sa), .val (.ref da), .val (.int (Int32.ofNat bs.length)), .val (.int (0 : Int32))] [(.int (Int32.ofNat bs.length)), (.ref da), (.int (0 : Int32)), (.ref sd)])) _
    refine XS.aloadN X2.here hx rfl (hb hby d12_17) rfl rfl ?_
    show Steps p.tables e below (T2.setTop (mkF m 18 #[.val (.ref sa), .val (.ref da), .val (.int (Int32.ofNat bs.length)), .val (.int (0 : Int32))] [(.ref sa), (.int (Int32.ofNat bs.length)), (.ref da), (.int (0 : Int32)), (.ref sd)])) _
    refine st3 _ ?_
    show Steps p.tables e below (T3.setTop (mkF m 21 #[.val (.ref sa), .val (.ref da), .val (.int (Int32.ofNat bs.length)), .val (.int (0 : Int32))] [(.ref sd), (.int (Int32.ofNat bs.length)), (.ref da), (.int (0 : Int32)), (.ref sd)])) _
    refine X3.arraylength hx (by rw [e3]; exact A4.1) (State.isArrayOf_alike hZ.alike A4.2.1) (g := (mkF m 21 #[.val (.ref sa), .val (.ref da), .val (.int (Int32.ofNat bs.length)), .val (.int (0 : Int32))] [(.ref sd), (.int (Int32.ofNat bs.length)), (.ref da), (.int (0 : Int32)), (.ref sd)])) rfl rfl (hb hby d12_21) _ ?_
    rw [len_of s4 n4]
    show Steps p.tables e below (T3.setTop (mkF m 22 #[.val (.ref sa), .val (.ref da), .val (.int (Int32.ofNat bs.length)), .val (.int (0 : Int32))] [(.int (Int32.ofNat cs.length)), (.int (Int32.ofNat bs.length)), (.ref da), (.int (0 : Int32)), (.ref sd)])) _
    refine st5 _ ?_
    show Steps p.tables e below (T5.setTop (mkF m 25 #[.val (.ref sa), .val (.ref da), .val (.int (Int32.ofNat bs.length)), .val (.int (0 : Int32))] [])) _
    refine XS.goto X5.here hx rfl (pc0 := 25) (pc' := 43) rfl (hb hby d12_25) (by decide) (by decide) ?_
    show Steps p.tables e below (T5.setTop (mkF m 43 #[.val (.ref sa), .val (.ref da), .val (.int (Int32.ofNat bs.length)), .val (.int (0 : Int32))] [])) _
    exact X5.returnOut hx Bd.returns (hb hby d12_43) hr
  · exact by show Qh _ h0 n0 _ _ none T5.heap _; rw [e5]; exact ⟨rfl, N5, Kp5, Vc⟩
theorem d10_0 : decode jdk_68_method_73_code 0 = .ok (.aload_n 0, 1) := by decide +kernel
theorem d10_1 : decode jdk_68_method_73_code 1 = .ok (.aload_n 2, 1) := by decide +kernel
theorem pd_28Ljava2flang2fString3b29V : parseMethodDescriptor "(Ljava/lang/String;)V" = some ⟨[(.object "java/lang/String")], none⟩ := by decide +kernel
theorem d10_2 : decode jdk_68_method_73_code 2 = .ok (.invokevirtual 397, 3) := by decide +kernel
theorem d10_5 : decode jdk_68_method_73_code 5 = .ok (.aload_n 2, 1) := by decide +kernel
theorem d10_6 : decode jdk_68_method_73_code 6 = .ok (.aload_n 0, 1) := by decide +kernel
theorem d10_7 : decode jdk_68_method_73_code 7 = .ok (.getfield 15, 3) := by decide +kernel
theorem d10_10 : decode jdk_68_method_73_code 10 = .ok (.iload_n 1, 1) := by decide +kernel
theorem d10_11 : decode jdk_68_method_73_code 11 = .ok (.aload_n 0, 1) := by decide +kernel
theorem d10_12 : decode jdk_68_method_73_code 12 = .ok (.getfield 22, 3) := by decide +kernel
theorem pd_285bBIB29V : parseMethodDescriptor "([BIB)V" = some ⟨[(.array .byte), .int, .byte], none⟩ := by decide +kernel
theorem d10_15 : decode jdk_68_method_73_code 15 = .ok (.invokevirtual 399, 3) := by decide +kernel
theorem d10_18 : decode jdk_68_method_73_code 18 = .ok (.return_, 1) := by decide +kernel
theorem ef_3_RIR (m : MethodId) (x0 : Addr) (x1 : Int32) (x2 : Addr) : entryFrame m #[(.ref x0), (.int x1), (.ref x2)] 3 = mkF m 0 #[.val (.ref x0), .val (.int x1), .val (.ref x2)] [] := by first | (simp [entryFrame, mkF, argsToLocals, Value.category]; done) | rfl
set_option maxRecDepth 65536 in
set_option maxHeartbeats 40000000 in
theorem sb_putStr (l : Launch) (Z : State) (a0 : Array Value) (hw : ∀ d ∈ tables_1, d.before a0 Z = true) (ws : List Jvm.Cond) (zc : Int32) (bb da : Addr) (kd : ClassId) (N : Nat) (bs : List Int32) (sa sd : Addr) (ks : ClassId) (cs : List Int32) (h0 : Heap) (n0 : Nat) (O : Old Z n0 h0) (hE : EnvS Z zc) (hB : Bld Z h0 bb da kd N bs) (hS : Str Z h0 sa sd ks cs) (hle : bs.length + cs.length ≤ N) (hN : N ≤ 1000) (hne : sd ≠ da) (gd : n0 ≤ da) :
    MetFree l (⟨"java/lang/AbstractStringBuilder", "putStringAt", "(ILjava/lang/String;)V"⟩ : MethodName) (head1 (Jvm.Cond.code (⟨"java/lang/AbstractStringBuilder", "putStringAt", "(ILjava/lang/String;)V"⟩ : MethodName) jdk_68_method_73_code 3 none :: ws) ({ frames := 2, cells := 0, slots := 0, locals := 33 } : Room)) (fun a U => a = #[(.ref bb), (.int (Int32.ofNat bs.length)), (.ref sa)] ∧ Z.Warmed39 U.vm ∧ U.heap = h0) (fun _ _ _ _ _ => True) (fun _ U o U' => ∃ v L, o = .returned v ∧ Qh none h0 n0 [da] (fun h => Arv Z h da kd .byte (Int32.ofNat N) (by8 (bs ++ cs)) (.int (0 : Int32))) v U'.heap L ∧ FrameEnd U o U' L ({ frames := 2, cells := 0, slots := 0, locals := 33 } : Room).cells ({ frames := 2, cells := 0, slots := 0, locals := 33 } : Room).slots) := by
  refine MetFree.of_bodySF (plainFor_of_name pn_java_lang_AbstractStringBuilder) hisR ?_
  intro p e s m args below meth c s₁ Bd hml0 hP hK
  obtain ⟨rfl, hZ, hh⟩ := hP
  have hx := Bd.exec
  have hby := Bd.bytes
  have hml : c.maxLocals = 3 := hml0
  have hown : s.vm.findClass "java/lang/AbstractStringBuilder" = some m.cls := findClass_of_methodNamed Bd.named
  have hnm := (name_of_methodNamed Bd.named Bd.method).1
  have X0 : Stand p l e ({ frames := 2, cells := 0, slots := 0, locals := 33 } : Room) s m #[(.ref bb), (.int (Int32.ofNat bs.length)), (.ref sa)] below meth c s₁ [] 0 0 := Stand.of_body Bd
  have e0 : s₁.heap = h0 := by rw [← hh, Bd.state]; rfl
  have N0 := Fr.nil n0
  have pre0 : ∀ t, Steps p.tables e below (s₁.setTop (mkF m 0 #[.val (.ref bb), .val (.int (Int32.ofNat bs.length)), .val (.ref sa)] [])) t → Steps p.tables e below (s₁.setTop (entryFrame m #[(.ref bb), (.int (Int32.ofNat bs.length)), (.ref sa)] 3)) t := fun t k => castTop (ef_3_RIR m bb (Int32.ofNat bs.length) sa) k
  obtain ⟨Scmp, hzc⟩ := id hE
  obtain ⟨Eb, Vb, Cb, Nb, Ab⟩ := id hB
  obtain ⟨Es, Vs, Cs, As⟩ := id hS
  obtain ⟨cq1, kq1, q1a, q1b, q1c⟩ := isOf hZ e0 Eb
  obtain ⟨_, _, ⟨T1, L1, k1, n1⟩, -, X1, ⟨Lc1, hQ1, l1, y1, z1⟩, st1⟩ := X0.virtualBack hx (y := (⟨"java/lang/AbstractStringBuilder", "inflateIfNeededFor", "(Ljava/lang/String;)V"⟩ : MethodName)) (z := (⟨"java/lang/AbstractStringBuilder", "inflateIfNeededFor", "(Ljava/lang/String;)V"⟩ : MethodName)) hown (mvT hZ (hw _ (List.mem_of_getElem? (i := 74) rfl))) (mvT hZ (own_decl (hw _ (List.mem_of_getElem? (i := 75) rfl)) (hw _ (List.mem_of_getElem? (i := 78) rfl)))) (notFace_of_selects (args := #[]) (mvT hZ (hw _ (List.mem_of_getElem? (i := 77) rfl)))) (mvT hZ (hw _ (List.mem_of_getElem? (i := 77) rfl))) (mvT hZ (hw _ (List.mem_of_getElem? (i := 75) rfl))) (by decide) (backOf (W := 0) (sb_inflate l Z a0 hw [] zc bb sa sd ks cs h0 n0 O hE ⟨Es, Vs, Cs, As⟩ Cb) hZ (hw _ (List.mem_of_getElem? (i := 78) rfl)) (hw _ (List.mem_of_getElem? (i := 27) rfl)) (by decide) (by decide)) q1a q1c (g := (mkF m 2 #[.val (.ref bb), .val (.int (Int32.ofNat bs.length)), .val (.ref sa)] [(.ref sa), (.ref bb)])) rfl (by rw [hml]; rfl) (Steps.refl _) (argsL := [(.ref sa)]) (rest := []) (lenOf pd_28Ljava2flang2fString3b29V rfl) rfl (by show 2 * 0 + _ ≤ _; exact Nat.le_of_eq rfl) (hb hby d10_2) (fun _ _ => ⟨rfl, e0, (by decide : 0 + 0 ≤ _), (by decide : 0 + 0 ≤ _)⟩)
  dsimp only [Pt.U, Pt.locs, Pt.cells, Pt.slots] at X1 l1 y1 z1 st1 hQ1
  subst l1 y1 z1
  obtain ⟨rfl, N1q, e1⟩ := hQ1
  have N1 := Fr.app N0 N1q
  obtain ⟨T2, X2, e2, st2⟩ := getF X1 hx hZ hown (host := "") (Or.inl (hw _ (List.mem_of_getElem? (i := 33) rfl))) Via.refl e1 Vb (g := (mkF m 7 #[.val (.ref bb), .val (.int (Int32.ofNat bs.length)), .val (.ref sa)] [(.ref bb), (.ref sa)])) rfl rfl (hb hby d10_7)
  obtain ⟨T3, X3, e3, st3⟩ := getF X2 hx hZ hown (host := "") (Or.inl (hw _ (List.mem_of_getElem? (i := 35) rfl))) Via.refl e2 Cb (g := (mkF m 12 #[.val (.ref bb), .val (.int (Int32.ofNat bs.length)), .val (.ref sa)] [(.ref bb), (.int (Int32.ofNat bs.length)), (.ref da), (.ref sa)])) rfl rfl (hb hby d10_12)
  obtain ⟨cq4, kq4, q4a, q4b, q4c⟩ := isOf hZ e3 Es
  obtain ⟨_, _, ⟨T4, L4, k4, n4⟩, -, X4, ⟨Lc4, hQ4, l4, y4, z4⟩, st4⟩ := X3.virtualBack hx (y := (⟨"java/lang/String", "getBytes", "([BIB)V"⟩ : MethodName)) (z := (⟨"java/lang/String", "getBytes", "([BIB)V"⟩ : MethodName)) hown (mvT hZ (hw _ (List.mem_of_getElem? (i := 80) rfl))) (mvT hZ (hw _ (List.mem_of_getElem? (i := 81) rfl))) (notFace_of_selects (args := #[]) (mvT hZ (hw _ (List.mem_of_getElem? (i := 83) rfl)))) (mvT hZ (hw _ (List.mem_of_getElem? (i := 83) rfl))) (mvT hZ (hw _ (List.mem_of_getElem? (i := 82) rfl))) (by decide) (backOf (W := 0) (sb_getBytes l Z a0 hw [] zc sa sd ks cs da kd N bs h0 n0 O hE ⟨Es, Vs, Cs, As⟩ Ab hle hN hne gd) hZ (hw _ (List.mem_of_getElem? (i := 84) rfl)) (hw _ (List.mem_of_getElem? (i := 5) rfl)) (by decide) (by decide)) q4a q4c (g := (mkF m 15 #[.val (.ref bb), .val (.int (Int32.ofNat bs.length)), .val (.ref sa)] [(.int (0 : Int32)), (.int (Int32.ofNat bs.length)), (.ref da), (.ref sa)])) rfl (by rw [hml]; rfl) (Steps.refl _) (argsL := [(.ref da), (.int (Int32.ofNat bs.length)), (.int (0 : Int32))]) (rest := []) (lenOf pd_285bBIB29V rfl) rfl (by show 2 * 0 + _ ≤ _; exact Nat.le_of_eq rfl) (hb hby d10_15) (fun _ _ => ⟨rfl, e3, (by decide : 0 + 0 ≤ _), (by decide : 0 + 0 ≤ _)⟩)
  dsimp only [Pt.U, Pt.locs, Pt.cells, Pt.slots] at X4 l4 y4 z4 st4 hQ4
  subst l4 y4 z4
  obtain ⟨rfl, N4q, K4, V4⟩ := hQ4
  have N4 := Fr.app N1 N4q
  have O4 : Old Z n0 T4.heap := O.keep K4 (allS (P := (n0 ≤ ·)) gd all0)
  have Kp4 : Keep h0 T4.heap [da] := (Keep.refl h0 [da]).trans K4 (allS (P := (fun x => x ∈ [da] ∨ h0.size ≤ x)) (Or.inl (by simp)) all0)
  obtain ⟨fs, hr, hrun, hended, hW, hsame⟩ := X4.leave (v := none) (fun h => rfl)
  refine ⟨_, _, pre0 _ ?_, hrun, hended, _, _, rfl, ?_, ⟨_, rfl⟩, hW, hsame.mono (by decide) (by decide)⟩
  · show Steps p.tables e below (s₁.setTop (mkF m 0 #[.val (.ref bb), .val (.int (Int32.ofNat bs.length)), .val (.ref sa)] [])) _
    refine XS.aloadN X0.here hx rfl (hb hby d10_0) rfl rfl ?_
    show Steps p.tables e below (s₁.setTop (mkF m 1 #[.val (.ref bb), .val (.int (Int32.ofNat bs.length)), .val (.ref sa)] [(.ref bb)])) _
    refine XS.aloadN X0.here hx rfl (hb hby d10_1) rfl rfl ?_
    show Steps p.tables e below (s₁.setTop (mkF m 2 #[.val (.ref bb), .val (.int (Int32.ofNat bs.length)), .val (.ref sa)] [(.ref sa), (.ref bb)])) _
    refine st1.trans ?_
    show Steps p.tables e below (T1.setTop (mkF m 5 #[.val (.ref bb), .val (.int (Int32.ofNat bs.length)), .val (.ref sa)] [])) _
    refine XS.aloadN X1.here hx rfl (hb hby d10_5) rfl rfl ?_
    show Steps p.tables e below (T1.setTop (mkF m 6 #[.val (.ref bb), .val (.int (Int32.ofNat bs.length)), .val (.ref sa)] [(.ref sa)])) _
    refine XS.aloadN X1.here hx rfl (hb hby d10_6) rfl rfl ?_
    show Steps p.tables e below (T1.setTop (mkF m 7 #[.val (.ref bb), .val (.int (Int32.ofNat bs.length)), .val (.ref sa)] [(.ref bb), (.ref sa)])) _
    refine st2 _ ?_
    show Steps p.tables e below (T2.setTop (mkF m 10 #[.val (.ref bb), .val (.int (Int32.ofNat bs.length)), .val (.ref sa)] [(.ref da), (.ref sa)])) _
    refine XS.iloadN X2.here hx rfl (hb hby d10_10) rfl ?_
    show Steps p.tables e below (T2.setTop (mkF m 11 #[.val (.ref bb), .val (.int (Int32.ofNat bs.length)), .val (.ref sa)] [(.int (Int32.ofNat bs.length)), (.ref da), (.ref sa)])) _
    refine XS.aloadN X2.here hx rfl (hb hby d10_11) rfl rfl ?_
    show Steps p.tables e below (T2.setTop (mkF m 12 #[.val (.ref bb), .val (.int (Int32.ofNat bs.length)), .val (.ref sa)] [(.ref bb), (.int (Int32.ofNat bs.length)), (.ref da), (.ref sa)])) _
    refine st3 _ ?_
    show Steps p.tables e below (T3.setTop (mkF m 15 #[.val (.ref bb), .val (.int (Int32.ofNat bs.length)), .val (.ref sa)] [(.int (0 : Int32)), (.int (Int32.ofNat bs.length)), (.ref da), (.ref sa)])) _
    refine st4.trans ?_
    show Steps p.tables e below (T4.setTop (mkF m 18 #[.val (.ref bb), .val (.int (Int32.ofNat bs.length)), .val (.ref sa)] [])) _
    exact X4.returnOut hx Bd.returns (hb hby d10_18) hr
  · exact by show Qh _ h0 n0 _ _ none T4.heap _; exact ⟨rfl, N4, Kp4, V4⟩
theorem d9_0 : decode jdk_68_method_9_code 0 = .ok (.aload_n 0, 1) := by decide +kernel
theorem d9_1 : decode jdk_68_method_9_code 1 = .ok (.getfield 15, 3) := by decide +kernel
theorem d9_4 : decode jdk_68_method_9_code 4 = .ok (.arraylength, 1) := by decide +kernel
theorem d9_5 : decode jdk_68_method_9_code 5 = .ok (.aload_n 0, 1) := by decide +kernel
theorem d9_6 : decode jdk_68_method_9_code 6 = .ok (.getfield 22, 3) := by decide +kernel
theorem d9_9 : decode jdk_68_method_9_code 9 = .ok (.ishr, 1) := by decide +kernel
theorem d9_10 : decode jdk_68_method_9_code 10 = .ok (.istore_n 2, 1) := by decide +kernel
theorem d9_11 : decode jdk_68_method_9_code 11 = .ok (.iload_n 1, 1) := by decide +kernel
theorem d9_12 : decode jdk_68_method_9_code 12 = .ok (.iload_n 2, 1) := by decide +kernel
theorem d9_13 : decode jdk_68_method_9_code 13 = .ok (.isub, 1) := by decide +kernel
theorem d9_14 : decode jdk_68_method_9_code 14 = .ok (.ifCond .le 24, 3) := by decide +kernel
theorem d9_38 : decode jdk_68_method_9_code 38 = .ok (.return_, 1) := by decide +kernel
theorem ef_3_RI (m : MethodId) (x0 : Addr) (x1 : Int32) : entryFrame m #[(.ref x0), (.int x1)] 3 = mkF m 0 #[.val (.ref x0), .val (.int x1), .unset] [] := by first | (simp [entryFrame, mkF, argsToLocals, Value.category]; done) | rfl
set_option maxRecDepth 65536 in
set_option maxHeartbeats 40000000 in
theorem sb_ensure0 (l : Launch) (Z : State) (a0 : Array Value) (hw : ∀ d ∈ tables_1, d.before a0 Z = true) (ws : List Jvm.Cond) (bb da : Addr) (kd : ClassId) (N : Nat) (bs : List Int32) (mn : Nat) (h0 : Heap) (n0 : Nat) (O : Old Z n0 h0) (hB : Bld Z h0 bb da kd N bs) (hle : mn ≤ N) (hN : N ≤ 1000) :
    MetFree l (⟨"java/lang/AbstractStringBuilder", "ensureCapacityInternal", "(I)V"⟩ : MethodName) (head1 (Jvm.Cond.code (⟨"java/lang/AbstractStringBuilder", "ensureCapacityInternal", "(I)V"⟩ : MethodName) jdk_68_method_9_code 3 none :: ws) ({ frames := 0, cells := 0, slots := 0, locals := 0 } : Room)) (fun a U => a = #[(.ref bb), (.int (Int32.ofNat mn))] ∧ Z.Warmed39 U.vm ∧ U.heap = h0) (fun _ _ _ _ _ => True) (fun _ U o U' => ∃ v L, o = .returned v ∧ Qv none h0 n0 v U'.heap L ∧ FrameEnd U o U' L ({ frames := 0, cells := 0, slots := 0, locals := 0 } : Room).cells ({ frames := 0, cells := 0, slots := 0, locals := 0 } : Room).slots) := by
  refine MetFree.of_bodySF (plainFor_of_name pn_java_lang_AbstractStringBuilder) hisR ?_
  intro p e s m args below meth c s₁ Bd hml0 hP hK
  obtain ⟨rfl, hZ, hh⟩ := hP
  have hx := Bd.exec
  have hby := Bd.bytes
  have hml : c.maxLocals = 3 := hml0
  have hown : s.vm.findClass "java/lang/AbstractStringBuilder" = some m.cls := findClass_of_methodNamed Bd.named
  have hnm := (name_of_methodNamed Bd.named Bd.method).1
  have X0 : Stand p l e ({ frames := 0, cells := 0, slots := 0, locals := 0 } : Room) s m #[(.ref bb), (.int (Int32.ofNat mn))] below meth c s₁ [] 0 0 := Stand.of_body Bd
  have e0 : s₁.heap = h0 := by rw [← hh, Bd.state]; rfl
  have N0 := Fr.nil n0
  have pre0 : ∀ t, Steps p.tables e below (s₁.setTop (mkF m 0 #[.val (.ref bb), .val (.int (Int32.ofNat mn)), .unset] [])) t → Steps p.tables e below (s₁.setTop (entryFrame m #[(.ref bb), (.int (Int32.ofNat mn))] 3)) t := fun t k => castTop (ef_3_RI m bb (Int32.ofNat mn)) k
  obtain ⟨Eb, Vb, Cb, Nb, Ab⟩ := id hB
  obtain ⟨T1, X1, e1, st1⟩ := getF X0 hx hZ hown (host := "") (Or.inl (hw _ (List.mem_of_getElem? (i := 33) rfl))) Via.refl e0 Vb (g := (mkF m 1 #[.val (.ref bb), .val (.int (Int32.ofNat mn)), .unset] [(.ref bb)])) rfl rfl (hb hby d9_1)
  obtain ⟨c2, A2, q2, s2, n2, H2, G2⟩ := id Ab
  obtain ⟨T3, X3, e3, st3⟩ := getF X1 hx hZ hown (host := "") (Or.inl (hw _ (List.mem_of_getElem? (i := 35) rfl))) Via.refl e1 Cb (g := (mkF m 6 #[.val (.ref bb), .val (.int (Int32.ofNat mn)), .unset] [(.ref bb), (.int (Int32.ofNat N))])) rfl rfl (hb hby d9_6)
  obtain ⟨fs, hr, hrun, hended, hW, hsame⟩ := X3.leave (v := none) (fun h => rfl)
  refine ⟨_, _, pre0 _ ?_, hrun, hended, _, _, rfl, ?_, ⟨_, rfl⟩, hW, hsame.mono (by decide) (by decide)⟩
  · show Steps p.tables e below (s₁.setTop (mkF m 0 #[.val (.ref bb), .val (.int (Int32.ofNat mn)), .unset] [])) _
    refine XS.aloadN X0.here hx rfl (hb hby d9_0) rfl rfl ?_
    show Steps p.tables e below (s₁.setTop (mkF m 1 #[.val (.ref bb), .val (.int (Int32.ofNat mn)), .unset] [(.ref bb)])) _
    refine st1 _ ?_
    show Steps p.tables e below (T1.setTop (mkF m 4 #[.val (.ref bb), .val (.int (Int32.ofNat mn)), .unset] [(.ref da)])) _
    refine X1.arraylength hx (by rw [e1]; exact A2.1) (State.isArrayOf_alike hZ.alike A2.2.1) (g := (mkF m 4 #[.val (.ref bb), .val (.int (Int32.ofNat mn)), .unset] [(.ref da)])) rfl rfl (hb hby d9_4) _ ?_
    rw [len_of s2 n2]
    show Steps p.tables e below (T1.setTop (mkF m 5 #[.val (.ref bb), .val (.int (Int32.ofNat mn)), .unset] [(.int (Int32.ofNat N))])) _
    refine XS.aloadN X1.here hx rfl (hb hby d9_5) rfl rfl ?_
    show Steps p.tables e below (T1.setTop (mkF m 6 #[.val (.ref bb), .val (.int (Int32.ofNat mn)), .unset] [(.ref bb), (.int (Int32.ofNat N))])) _
    refine st3 _ ?_
    show Steps p.tables e below (T3.setTop (mkF m 9 #[.val (.ref bb), .val (.int (Int32.ofNat mn)), .unset] [(.int (0 : Int32)), (.int (Int32.ofNat N))])) _
    refine XS.ishr X3.here hx rfl (hb hby d9_9) rfl ?_
    show Steps p.tables e below (T3.setTop (mkF m 10 #[.val (.ref bb), .val (.int (Int32.ofNat mn)), .unset] [(.int ((Int32.ofNat N) >>> ((0 : Int32) &&& 31)))])) _
    rw [own_shr0]
    show Steps p.tables e below (T3.setTop (mkF m 10 #[.val (.ref bb), .val (.int (Int32.ofNat mn)), .unset] [(.int (Int32.ofNat N))])) _
    refine XS.istoreN X3.here hx rfl (hb hby d9_10) rfl (l' := #[.val (.ref bb), .val (.int (Int32.ofNat mn)), .val (.int (Int32.ofNat N))]) rfl ?_
    show Steps p.tables e below (T3.setTop (mkF m 11 #[.val (.ref bb), .val (.int (Int32.ofNat mn)), .val (.int (Int32.ofNat N))] [])) _
    refine XS.iloadN X3.here hx rfl (hb hby d9_11) rfl ?_
    show Steps p.tables e below (T3.setTop (mkF m 12 #[.val (.ref bb), .val (.int (Int32.ofNat mn)), .val (.int (Int32.ofNat N))] [(.int (Int32.ofNat mn))])) _
    refine XS.iloadN X3.here hx rfl (hb hby d9_12) rfl ?_
    show Steps p.tables e below (T3.setTop (mkF m 13 #[.val (.ref bb), .val (.int (Int32.ofNat mn)), .val (.int (Int32.ofNat N))] [(.int (Int32.ofNat N)), (.int (Int32.ofNat mn))])) _
    refine XS.isub X3.here hx rfl (hb hby d9_13) rfl ?_
    show Steps p.tables e below (T3.setTop (mkF m 14 #[.val (.ref bb), .val (.int (Int32.ofNat mn)), .val (.int (Int32.ofNat N))] [(.int ((Int32.ofNat mn) - (Int32.ofNat N)))])) _
    refine XS.ifYes X3.here hx rfl (pc0 := 14) (pc' := 38) rfl (hb hby d9_14) rfl ((if0 _ _).trans (flt (own_fits hle hN : ¬ ((0 : Int32) < ((Int32.ofNat mn) - (Int32.ofNat N))))).2.2.2) (by decide) (by decide) ?_
    show Steps p.tables e below (T3.setTop (mkF m 38 #[.val (.ref bb), .val (.int (Int32.ofNat mn)), .val (.int (Int32.ofNat N))] [])) _
    exact X3.returnOut hx Bd.returns (hb hby d9_38) hr
  · exact ⟨rfl, N0, e3⟩
theorem d6_0 : decode jdk_68_method_22_code 0 = .ok (.aload_n 1, 1) := by decide +kernel
theorem d6_1 : decode jdk_68_method_22_code 1 = .ok (.ifnonnull 8, 3) := by decide +kernel
theorem d6_9 : decode jdk_68_method_22_code 9 = .ok (.aload_n 1, 1) := by decide +kernel
theorem pd_2829I : parseMethodDescriptor "()I" = some ⟨[], some .int⟩ := by decide +kernel
theorem d6_10 : decode jdk_68_method_22_code 10 = .ok (.invokevirtual 32, 3) := by decide +kernel
theorem d6_13 : decode jdk_68_method_22_code 13 = .ok (.istore_n 2, 1) := by decide +kernel
theorem d6_14 : decode jdk_68_method_22_code 14 = .ok (.aload_n 0, 1) := by decide +kernel
theorem d6_15 : decode jdk_68_method_22_code 15 = .ok (.aload_n 0, 1) := by decide +kernel
theorem d6_16 : decode jdk_68_method_22_code 16 = .ok (.getfield 79, 3) := by decide +kernel
theorem d6_19 : decode jdk_68_method_22_code 19 = .ok (.iload_n 2, 1) := by decide +kernel
theorem d6_20 : decode jdk_68_method_22_code 20 = .ok (.iadd, 1) := by decide +kernel
theorem pd_28I29V : parseMethodDescriptor "(I)V" = some ⟨[.int], none⟩ := by decide +kernel
theorem d6_21 : decode jdk_68_method_22_code 21 = .ok (.invokevirtual 100, 3) := by decide +kernel
theorem d6_24 : decode jdk_68_method_22_code 24 = .ok (.aload_n 0, 1) := by decide +kernel
theorem d6_25 : decode jdk_68_method_22_code 25 = .ok (.aload_n 0, 1) := by decide +kernel
theorem d6_26 : decode jdk_68_method_22_code 26 = .ok (.getfield 79, 3) := by decide +kernel
theorem d6_29 : decode jdk_68_method_22_code 29 = .ok (.aload_n 1, 1) := by decide +kernel
theorem pd_28ILjava2flang2fString3b29V : parseMethodDescriptor "(ILjava/lang/String;)V" = some ⟨[.int, (.object "java/lang/String")], none⟩ := by decide +kernel
theorem d6_30 : decode jdk_68_method_22_code 30 = .ok (.invokevirtual 208, 3) := by decide +kernel
theorem d6_33 : decode jdk_68_method_22_code 33 = .ok (.aload_n 0, 1) := by decide +kernel
theorem d6_34 : decode jdk_68_method_22_code 34 = .ok (.dup, 1) := by decide +kernel
theorem d6_35 : decode jdk_68_method_22_code 35 = .ok (.getfield 79, 3) := by decide +kernel
theorem d6_38 : decode jdk_68_method_22_code 38 = .ok (.iload_n 2, 1) := by decide +kernel
theorem d6_39 : decode jdk_68_method_22_code 39 = .ok (.iadd, 1) := by decide +kernel
theorem d6_40 : decode jdk_68_method_22_code 40 = .ok (.putfield 79, 3) := by decide +kernel
theorem d6_43 : decode jdk_68_method_22_code 43 = .ok (.aload_n 0, 1) := by decide +kernel
theorem d6_44 : decode jdk_68_method_22_code 44 = .ok (.areturn, 1) := by decide +kernel
theorem ef_3_RR (m : MethodId) (x0 : Addr) (x1 : Addr) : entryFrame m #[(.ref x0), (.ref x1)] 3 = mkF m 0 #[.val (.ref x0), .val (.ref x1), .unset] [] := by first | (simp [entryFrame, mkF, argsToLocals, Value.category]; done) | rfl
set_option maxRecDepth 65536 in
set_option maxHeartbeats 40000000 in
theorem sb_asbS (l : Launch) (Z : State) (a0 : Array Value) (hw : ∀ d ∈ tables_1, d.before a0 Z = true) (ws : List Jvm.Cond) (zc : Int32) (bb da : Addr) (kd : ClassId) (N : Nat) (bs : List Int32) (sa sd : Addr) (ks : ClassId) (cs : List Int32) (h0 : Heap) (n0 : Nat) (O : Old Z n0 h0) (hE : EnvS Z zc) (hB : Bld Z h0 bb da kd N bs) (hS : Str Z h0 sa sd ks cs) (hle : bs.length + cs.length ≤ N) (hN : N ≤ 1000) (hne : sd ≠ da) (gb : n0 ≤ bb) (gd : n0 ≤ da) (hbd : bb ≠ da) :
    MetFree l (⟨"java/lang/AbstractStringBuilder", "append", "(Ljava/lang/String;)Ljava/lang/AbstractStringBuilder;"⟩ : MethodName) (head1 (Jvm.Cond.code (⟨"java/lang/AbstractStringBuilder", "append", "(Ljava/lang/String;)Ljava/lang/AbstractStringBuilder;"⟩ : MethodName) jdk_68_method_22_code 3 (some (.object "java/lang/AbstractStringBuilder")) :: ws) ({ frames := 3, cells := 0, slots := 0, locals := 47 } : Room)) (fun a U => a = #[(.ref bb), (.ref sa)] ∧ Z.Warmed39 U.vm ∧ U.heap = h0) (fun _ _ _ _ _ => True) (fun _ U o U' => ∃ v L, o = .returned v ∧ Qh (some (.ref bb)) h0 n0 [bb, da] (fun h => Bld Z h bb da kd N (bs ++ cs)) v U'.heap L ∧ FrameEnd U o U' L ({ frames := 3, cells := 0, slots := 0, locals := 47 } : Room).cells ({ frames := 3, cells := 0, slots := 0, locals := 47 } : Room).slots) := by
  refine MetFree.of_bodySF (plainFor_of_name pn_java_lang_AbstractStringBuilder) hisR ?_
  intro p e s m args below meth c s₁ Bd hml0 hP hK
  obtain ⟨rfl, hZ, hh⟩ := hP
  have hx := Bd.exec
  have hby := Bd.bytes
  have hml : c.maxLocals = 3 := hml0
  have hown : s.vm.findClass "java/lang/AbstractStringBuilder" = some m.cls := findClass_of_methodNamed Bd.named
  have hnm := (name_of_methodNamed Bd.named Bd.method).1
  have X0 : Stand p l e ({ frames := 3, cells := 0, slots := 0, locals := 47 } : Room) s m #[(.ref bb), (.ref sa)] below meth c s₁ [] 0 0 := Stand.of_body Bd
  have e0 : s₁.heap = h0 := by rw [← hh, Bd.state]; rfl
  have N0 := Fr.nil n0
  have pre0 : ∀ t, Steps p.tables e below (s₁.setTop (mkF m 0 #[.val (.ref bb), .val (.ref sa), .unset] [])) t → Steps p.tables e below (s₁.setTop (entryFrame m #[(.ref bb), (.ref sa)] 3)) t := fun t k => castTop (ef_3_RR m bb sa) k
  obtain ⟨Scmp, hzc⟩ := id hE
  obtain ⟨Eb, Vb, Cb, Nb, Ab⟩ := id hB
  obtain ⟨Es, Vs, Cs, As⟩ := id hS
  obtain ⟨cq1, kq1, q1a, q1b, q1c⟩ := isOf hZ e0 Es
  obtain ⟨_, _, ⟨T1, L1, k1, n1⟩, -, X1, ⟨Lc1, hQ1, l1, y1, z1⟩, st1⟩ := X0.virtualBack hx (y := (⟨"java/lang/String", "length", "()I"⟩ : MethodName)) (z := (⟨"java/lang/String", "length", "()I"⟩ : MethodName)) hown (mvT hZ (hw _ (List.mem_of_getElem? (i := 49) rfl))) (mvT hZ (hw _ (List.mem_of_getElem? (i := 50) rfl))) (notFace_of_selects (args := #[]) (mvT hZ (hw _ (List.mem_of_getElem? (i := 52) rfl)))) (mvT hZ (hw _ (List.mem_of_getElem? (i := 52) rfl))) (mvT hZ (hw _ (List.mem_of_getElem? (i := 51) rfl))) (by decide) (backOf (W := 0) (sb_length l Z a0 hw [] zc sa sd ks cs h0 n0 O hE ⟨Es, Vs, Cs, As⟩) hZ (hw _ (List.mem_of_getElem? (i := 53) rfl)) (hw _ (List.mem_of_getElem? (i := 5) rfl)) (by decide) (by decide)) q1a q1c (g := (mkF m 10 #[.val (.ref bb), .val (.ref sa), .unset] [(.ref sa)])) rfl (by rw [hml]; rfl) (Steps.refl _) (argsL := []) (rest := []) (lenOf pd_2829I rfl) rfl (by show 2 * 0 + _ ≤ _; exact Nat.le_of_eq rfl) (hb hby d6_10) (fun _ _ => ⟨rfl, e0, (by decide : 0 + 0 ≤ _), (by decide : 0 + 0 ≤ _)⟩)
  dsimp only [Pt.U, Pt.locs, Pt.cells, Pt.slots] at X1 l1 y1 z1 st1 hQ1
  subst l1 y1 z1
  obtain ⟨rfl, N1q, e1⟩ := hQ1
  have N1 := Fr.app N0 N1q
  obtain ⟨T2, X2, e2, st2⟩ := getF X1 hx hZ hown (host := "") (Or.inl (hw _ (List.mem_of_getElem? (i := 62) rfl))) Via.refl e1 Nb (g := (mkF m 16 #[.val (.ref bb), .val (.ref sa), .val (.int (Int32.ofNat cs.length))] [(.ref bb), (.ref bb)])) rfl rfl (hb hby d6_16)
  obtain ⟨cq3, kq3, q3a, q3b, q3c⟩ := isOf hZ e2 Eb
  obtain ⟨_, _, ⟨T3, L3, k3, n3⟩, -, X3, ⟨Lc3, hQ3, l3, y3, z3⟩, st3⟩ := X2.virtualBack hx (y := (⟨"java/lang/AbstractStringBuilder", "ensureCapacityInternal", "(I)V"⟩ : MethodName)) (z := (⟨"java/lang/AbstractStringBuilder", "ensureCapacityInternal", "(I)V"⟩ : MethodName)) hown (mvT hZ (hw _ (List.mem_of_getElem? (i := 64) rfl))) (mvT hZ (own_decl (hw _ (List.mem_of_getElem? (i := 65) rfl)) (hw _ (List.mem_of_getElem? (i := 68) rfl)))) (notFace_of_selects (args := #[]) (mvT hZ (hw _ (List.mem_of_getElem? (i := 67) rfl)))) (mvT hZ (hw _ (List.mem_of_getElem? (i := 67) rfl))) (mvT hZ (hw _ (List.mem_of_getElem? (i := 65) rfl))) (by decide) (backOf (W := 0) (sb_ensure0 l Z a0 hw [] bb da kd N bs (bs ++ cs).length h0 n0 O ⟨Eb, Vb, Cb, Nb, Ab⟩ (by rw [List.length_append]; exact hle) hN) hZ (hw _ (List.mem_of_getElem? (i := 68) rfl)) (hw _ (List.mem_of_getElem? (i := 27) rfl)) (by decide) (by decide)) q3a q3c (g := (mkF m 21 #[.val (.ref bb), .val (.ref sa), .val (.int (Int32.ofNat cs.length))] [(.int (Int32.ofNat (bs ++ cs).length)), (.ref bb)])) rfl (by rw [hml]; rfl) (Steps.refl _) (argsL := [(.int (Int32.ofNat (bs ++ cs).length))]) (rest := []) (lenOf pd_28I29V rfl) rfl (by show 2 * 0 + _ ≤ _; exact Nat.le_of_eq rfl) (hb hby d6_21) (fun _ _ => ⟨rfl, e2, (by decide : 0 + 0 ≤ _), (by decide : 0 + 0 ≤ _)⟩)
  dsimp only [Pt.U, Pt.locs, Pt.cells, Pt.slots] at X3 l3 y3 z3 st3 hQ3
  subst l3 y3 z3
  obtain ⟨rfl, N3q, e3⟩ := hQ3
  have N3 := Fr.app N1 N3q
  obtain ⟨T4, X4, e4, st4⟩ := getF X3 hx hZ hown (host := "") (Or.inl (hw _ (List.mem_of_getElem? (i := 62) rfl))) Via.refl e3 Nb (g := (mkF m 26 #[.val (.ref bb), .val (.ref sa), .val (.int (Int32.ofNat cs.length))] [(.ref bb), (.ref bb)])) rfl rfl (hb hby d6_26)
  obtain ⟨cq5, kq5, q5a, q5b, q5c⟩ := isOf hZ e4 Eb
  obtain ⟨_, _, ⟨T5, L5, k5, n5⟩, -, X5, ⟨Lc5, hQ5, l5, y5, z5⟩, st5⟩ := X4.virtualBack hx (y := (⟨"java/lang/AbstractStringBuilder", "putStringAt", "(ILjava/lang/String;)V"⟩ : MethodName)) (z := (⟨"java/lang/AbstractStringBuilder", "putStringAt", "(ILjava/lang/String;)V"⟩ : MethodName)) hown (mvT hZ (hw _ (List.mem_of_getElem? (i := 69) rfl))) (mvT hZ (own_decl (hw _ (List.mem_of_getElem? (i := 70) rfl)) (hw _ (List.mem_of_getElem? (i := 73) rfl)))) (notFace_of_selects (args := #[]) (mvT hZ (hw _ (List.mem_of_getElem? (i := 72) rfl)))) (mvT hZ (hw _ (List.mem_of_getElem? (i := 72) rfl))) (mvT hZ (hw _ (List.mem_of_getElem? (i := 70) rfl))) (by decide) (backOf (W := 0) (sb_putStr l Z a0 hw [] zc bb da kd N bs sa sd ks cs h0 n0 O hE ⟨Eb, Vb, Cb, Nb, Ab⟩ ⟨Es, Vs, Cs, As⟩ hle hN hne gd) hZ (hw _ (List.mem_of_getElem? (i := 73) rfl)) (hw _ (List.mem_of_getElem? (i := 27) rfl)) (by decide) (by decide)) q5a q5c (g := (mkF m 30 #[.val (.ref bb), .val (.ref sa), .val (.int (Int32.ofNat cs.length))] [(.ref sa), (.int (Int32.ofNat bs.length)), (.ref bb)])) rfl (by rw [hml]; rfl) (Steps.refl _) (argsL := [(.int (Int32.ofNat bs.length)), (.ref sa)]) (rest := []) (lenOf pd_28ILjava2flang2fString3b29V rfl) rfl (by show 2 * 0 + _ ≤ _; exact Nat.le_of_eq rfl) (hb hby d6_30) (fun _ _ => ⟨rfl, e4, (by decide : 0 + 0 ≤ _), (by decide : 0 + 0 ≤ _)⟩)
  dsimp only [Pt.U, Pt.locs, Pt.cells, Pt.slots] at X5 l5 y5 z5 st5 hQ5
  subst l5 y5 z5
  obtain ⟨rfl, N5q, K5, V5⟩ := hQ5
  have N5 := Fr.app N3 N5q
  have O5 : Old Z n0 T5.heap := O.keep K5 (allS (P := (n0 ≤ ·)) gd all0)
  have Kp5 : Keep h0 T5.heap [bb, da] := (Keep.refl h0 [bb, da]).trans K5 (allS (P := (fun x => x ∈ [bb, da] ∨ h0.size ≤ x)) (Or.inl (by simp)) all0)
  have f6 : Fld Z T5.heap bb "java/lang/AbstractStringBuilder" "count" "I" (.int (Int32.ofNat bs.length)) := (Nb.keep K5 (ninS hbd nin0))
  obtain ⟨T7, X7, e7, st7⟩ := getF X5 hx hZ hown (host := "") (Or.inl (hw _ (List.mem_of_getElem? (i := 62) rfl))) Via.refl rfl f6 (g := (mkF m 35 #[.val (.ref bb), .val (.ref sa), .val (.int (Int32.ofNat cs.length))] [(.ref bb), (.ref bb)])) rfl rfl (hb hby d6_35)
  have f8 : Exa Z T5.heap bb "java/lang/StringBuilder" := (Eb.keep K5)
  obtain ⟨T9, h9, X9, e9, W9, st9⟩ := putF X7 hx hZ hown (host := "") (Or.inl (hw _ (List.mem_of_getElem? (i := 62) rfl))) Via.refl e7 f6 f8 (Or.inl (hw _ (List.mem_of_getElem? (i := 63) rfl))) (hw _ (List.mem_of_getElem? (i := 18) rfl)) (ty := .int) (by decide) rfl rfl (g := (mkF m 40 #[.val (.ref bb), .val (.ref sa), .val (.int (Int32.ofNat cs.length))] [(.int (Int32.ofNat (bs ++ cs).length)), (.ref bb)])) rfl rfl (hb hby d6_40)
  have N9 := Fr.snoc X9 N5 gb
  have O9 : Old Z n0 h9 := O5.wr W9 gb
  have Kp9 : Keep h0 h9 [bb, da] := Kp5.wr W9 (Or.inl (by simp))
  have Fw9 : Fld Z h9 bb "java/lang/AbstractStringBuilder" "count" "I" (.int (Int32.ofNat (bs ++ cs).length)) := f6.same W9
  have f10 : Exa Z h9 bb "java/lang/StringBuilder" := (f8.wr W9)
  have f11 : Fld Z h9 bb "java/lang/AbstractStringBuilder" "value" "[B" (.ref da) := ((Vb.keep K5 (ninS hbd nin0)).other W9 (Or.inr (slot_ne (Or.inl (hw _ (List.mem_of_getElem? (i := 34) rfl))) (Or.inl (hw _ (List.mem_of_getElem? (i := 63) rfl))) (by decide) (t := (.array .byte)) (t' := .int) (by decide) (by decide))))
  have f12 : Fld Z h9 bb "java/lang/AbstractStringBuilder" "coder" "B" (.int (0 : Int32)) := ((Cb.keep K5 (ninS hbd nin0)).other W9 (Or.inr (slot_ne (Or.inl (hw _ (List.mem_of_getElem? (i := 36) rfl))) (Or.inl (hw _ (List.mem_of_getElem? (i := 63) rfl))) (by decide) (t := .byte) (t' := .int) (by decide) (by decide))))
  have f13 : Arv Z h9 da kd .byte (Int32.ofNat N) (by8 (bs ++ cs)) (.int (0 : Int32)) := (V5.other W9 (Ne.symm hbd))
  obtain ⟨fs, hr, hrun, hended, hW, hsame⟩ := X9.leave (v := some (.ref bb)) (fun h => by rw [Bd.returns] at h; cases h)
  refine ⟨_, _, pre0 _ ?_, hrun, hended, _, _, rfl, ?_, ⟨_, rfl⟩, hW, hsame.mono (by decide) (by decide)⟩
  · show Steps p.tables e below (s₁.setTop (mkF m 0 #[.val (.ref bb), .val (.ref sa), .unset] [])) _
    refine XS.aloadN X0.here hx rfl (hb hby d6_0) rfl rfl ?_
    show Steps p.tables e below (s₁.setTop (mkF m 1 #[.val (.ref bb), .val (.ref sa), .unset] [(.ref sa)])) _
    refine XS.ifnonnullYes X0.here hx rfl (pc0 := 1) (pc' := 9) rfl (hb hby d6_1) rfl (by decide) (by decide) ?_
    show Steps p.tables e below (s₁.setTop (mkF m 9 #[.val (.ref bb), .val (.ref sa), .unset] [])) _
    refine XS.aloadN X0.here hx rfl (hb hby d6_9) rfl rfl ?_
    show Steps p.tables e below (s₁.setTop (mkF m 10 #[.val (.ref bb), .val (.ref sa), .unset] [(.ref sa)])) _
    refine st1.trans ?_
    show Steps p.tables e below (T1.setTop (mkF m 13 #[.val (.ref bb), .val (.ref sa), .unset] [(.int (Int32.ofNat cs.length))])) _
    refine XS.istoreN X1.here hx rfl (hb hby d6_13) rfl (l' := #[.val (.ref bb), .val (.ref sa), .val (.int (Int32.ofNat cs.length))]) rfl ?_
    show Steps p.tables e below (T1.setTop (mkF m 14 #[.val (.ref bb), .val (.ref sa), .val (.int (Int32.ofNat cs.length))] [])) _
    refine XS.aloadN X1.here hx rfl (hb hby d6_14) rfl rfl ?_
    show Steps p.tables e below (T1.setTop (mkF m 15 #[.val (.ref bb), .val (.ref sa), .val (.int (Int32.ofNat cs.length))] [(.ref bb)])) _
    refine XS.aloadN X1.here hx rfl (hb hby d6_15) rfl rfl ?_
    show Steps p.tables e below (T1.setTop (mkF m 16 #[.val (.ref bb), .val (.ref sa), .val (.int (Int32.ofNat cs.length))] [(.ref bb), (.ref bb)])) _
    refine st2 _ ?_
    show Steps p.tables e below (T2.setTop (mkF m 19 #[.val (.ref bb), .val (.ref sa), .val (.int (Int32.ofNat cs.length))] [(.int (Int32.ofNat bs.length)), (.ref bb)])) _
    refine XS.iloadN X2.here hx rfl (hb hby d6_19) rfl ?_
    show Steps p.tables e below (T2.setTop (mkF m 20 #[.val (.ref bb), .val (.ref sa), .val (.int (Int32.ofNat cs.length))] [(.int (Int32.ofNat cs.length)), (.int (Int32.ofNat bs.length)), (.ref bb)])) _
    refine XS.iadd X2.here hx rfl (hb hby d6_20) rfl ?_
    show Steps p.tables e below (T2.setTop (mkF m 21 #[.val (.ref bb), .val (.ref sa), .val (.int (Int32.ofNat cs.length))] [(.int ((Int32.ofNat bs.length) + (Int32.ofNat cs.length))), (.ref bb)])) _
    rw [own_addlen]
    show Steps p.tables e below (T2.setTop (mkF m 21 #[.val (.ref bb), .val (.ref sa), .val (.int (Int32.ofNat cs.length))] [(.int (Int32.ofNat (bs ++ cs).length)), (.ref bb)])) _
    refine st3.trans ?_
    show Steps p.tables e below (T3.setTop (mkF m 24 #[.val (.ref bb), .val (.ref sa), .val (.int (Int32.ofNat cs.length))] [])) _
    refine XS.aloadN X3.here hx rfl (hb hby d6_24) rfl rfl ?_
    show Steps p.tables e below (T3.setTop (mkF m 25 #[.val (.ref bb), .val (.ref sa), .val (.int (Int32.ofNat cs.length))] [(.ref bb)])) _
    refine XS.aloadN X3.here hx rfl (hb hby d6_25) rfl rfl ?_
    show Steps p.tables e below (T3.setTop (mkF m 26 #[.val (.ref bb), .val (.ref sa), .val (.int (Int32.ofNat cs.length))] [(.ref bb), (.ref bb)])) _
    refine st4 _ ?_
    show Steps p.tables e below (T4.setTop (mkF m 29 #[.val (.ref bb), .val (.ref sa), .val (.int (Int32.ofNat cs.length))] [(.int (Int32.ofNat bs.length)), (.ref bb)])) _
    refine XS.aloadN X4.here hx rfl (hb hby d6_29) rfl rfl ?_
    show Steps p.tables e below (T4.setTop (mkF m 30 #[.val (.ref bb), .val (.ref sa), .val (.int (Int32.ofNat cs.length))] [(.ref sa), (.int (Int32.ofNat bs.length)), (.ref bb)])) _
    refine st5.trans ?_
    show Steps p.tables e below (T5.setTop (mkF m 33 #[.val (.ref bb), .val (.ref sa), .val (.int (Int32.ofNat cs.length))] [])) _
    refine XS.aloadN X5.here hx rfl (hb hby d6_33) rfl rfl ?_
    show Steps p.tables e below (T5.setTop (mkF m 34 #[.val (.ref bb), .val (.ref sa), .val (.int (Int32.ofNat cs.length))] [(.ref bb)])) _
    refine XS.dup X5.here hx rfl (hb hby d6_34) rfl rfl ?_
    show Steps p.tables e below (T5.setTop (mkF m 35 #[.val (.ref bb), .val (.ref sa), .val (.int (Int32.ofNat cs.length))] [(.ref bb), (.ref bb)])) _
    refine st7 _ ?_
    show Steps p.tables e below (T7.setTop (mkF m 38 #[.val (.ref bb), .val (.ref sa), .val (.int (Int32.ofNat cs.length))] [(.int (Int32.ofNat bs.length)), (.ref bb)])) _
    refine XS.iloadN X7.here hx rfl (hb hby d6_38) rfl ?_
    show Steps p.tables e below (T7.setTop (mkF m 39 #[.val (.ref bb), .val (.ref sa), .val (.int (Int32.ofNat cs.length))] [(.int (Int32.ofNat cs.length)), (.int (Int32.ofNat bs.length)), (.ref bb)])) _
    refine XS.iadd X7.here hx rfl (hb hby d6_39) rfl ?_
    show Steps p.tables e below (T7.setTop (mkF m 40 #[.val (.ref bb), .val (.ref sa), .val (.int (Int32.ofNat cs.length))] [(.int ((Int32.ofNat bs.length) + (Int32.ofNat cs.length))), (.ref bb)])) _
    rw [own_addlen]
    show Steps p.tables e below (T7.setTop (mkF m 40 #[.val (.ref bb), .val (.ref sa), .val (.int (Int32.ofNat cs.length))] [(.int (Int32.ofNat (bs ++ cs).length)), (.ref bb)])) _
    refine st9 _ ?_
    show Steps p.tables e below (T9.setTop (mkF m 43 #[.val (.ref bb), .val (.ref sa), .val (.int (Int32.ofNat cs.length))] [])) _
    refine XS.aloadN X9.here hx rfl (hb hby d6_43) rfl rfl ?_
    show Steps p.tables e below (T9.setTop (mkF m 44 #[.val (.ref bb), .val (.ref sa), .val (.int (Int32.ofNat cs.length))] [(.ref bb)])) _
    exact retOut X9 hx Bd.returns rfl (Or.inr (Or.inr (Or.inr (Or.inr ⟨rfl, rfl, rfl⟩)))) (hb hby d6_44) hr
  · exact by show Qh _ h0 n0 _ _ (some (.ref bb)) T9.heap _; rw [e9]; exact ⟨rfl, N9, Kp9, ⟨f10, f11, f12, Fw9, f13⟩⟩
theorem d5_0 : decode jdk_67_method_7_code 0 = .ok (.aload_n 0, 1) := by decide +kernel
theorem d5_1 : decode jdk_67_method_7_code 1 = .ok (.aload_n 1, 1) := by decide +kernel
theorem pd_28Ljava2flang2fString3b29Ljava2flang2fAbstractStringBuilder3b : parseMethodDescriptor "(Ljava/lang/String;)Ljava/lang/AbstractStringBuilder;" = some ⟨[(.object "java/lang/String")], some (.object "java/lang/AbstractStringBuilder")⟩ := by decide +kernel
theorem d5_2 : decode jdk_67_method_7_code 2 = .ok (.invokespecial 29, 3) := by decide +kernel
theorem d5_5 : decode jdk_67_method_7_code 5 = .ok (.pop, 1) := by decide +kernel
theorem d5_6 : decode jdk_67_method_7_code 6 = .ok (.aload_n 0, 1) := by decide +kernel
theorem d5_7 : decode jdk_67_method_7_code 7 = .ok (.areturn, 1) := by decide +kernel
theorem pn_java_lang_StringBuilder : plainName "java/lang/StringBuilder" = true := by first | (simp [plainName, overriddenIn]; done) | decide +kernel
set_option maxRecDepth 65536 in
set_option maxHeartbeats 40000000 in
theorem sb_sbS (l : Launch) (Z : State) (a0 : Array Value) (hw : ∀ d ∈ tables_1, d.before a0 Z = true) (ws : List Jvm.Cond) (zc : Int32) (bb da : Addr) (kd : ClassId) (N : Nat) (bs : List Int32) (sa sd : Addr) (ks : ClassId) (cs : List Int32) (h0 : Heap) (n0 : Nat) (O : Old Z n0 h0) (hE : EnvS Z zc) (hB : Bld Z h0 bb da kd N bs) (hS : Str Z h0 sa sd ks cs) (hle : bs.length + cs.length ≤ N) (hN : N ≤ 1000) (hne : sd ≠ da) (gb : n0 ≤ bb) (gd : n0 ≤ da) (hbd : bb ≠ da) :
    MetFree l (⟨"java/lang/StringBuilder", "append", "(Ljava/lang/String;)Ljava/lang/StringBuilder;"⟩ : MethodName) (head1 (Jvm.Cond.code (⟨"java/lang/StringBuilder", "append", "(Ljava/lang/String;)Ljava/lang/StringBuilder;"⟩ : MethodName) jdk_67_method_7_code 2 (some (.object "java/lang/StringBuilder")) :: ws) ({ frames := 4, cells := 0, slots := 0, locals := 61 } : Room)) (fun a U => a = #[(.ref bb), (.ref sa)] ∧ Z.Warmed39 U.vm ∧ U.heap = h0) (fun _ _ _ _ _ => True) (fun _ U o U' => ∃ v L, o = .returned v ∧ Qh (some (.ref bb)) h0 n0 [bb, da] (fun h => Bld Z h bb da kd N (bs ++ cs)) v U'.heap L ∧ FrameEnd U o U' L ({ frames := 4, cells := 0, slots := 0, locals := 61 } : Room).cells ({ frames := 4, cells := 0, slots := 0, locals := 61 } : Room).slots) := by
  refine MetFree.of_bodySF (plainFor_of_name pn_java_lang_StringBuilder) hisR ?_
  intro p e s m args below meth c s₁ Bd hml0 hP hK
  obtain ⟨rfl, hZ, hh⟩ := hP
  have hx := Bd.exec
  have hby := Bd.bytes
  have hml : c.maxLocals = 2 := hml0
  have hown : s.vm.findClass "java/lang/StringBuilder" = some m.cls := findClass_of_methodNamed Bd.named
  have hnm := (name_of_methodNamed Bd.named Bd.method).1
  have X0 : Stand p l e ({ frames := 4, cells := 0, slots := 0, locals := 61 } : Room) s m #[(.ref bb), (.ref sa)] below meth c s₁ [] 0 0 := Stand.of_body Bd
  have e0 : s₁.heap = h0 := by rw [← hh, Bd.state]; rfl
  have N0 := Fr.nil n0
  have pre0 : ∀ t, Steps p.tables e below (s₁.setTop (mkF m 0 #[.val (.ref bb), .val (.ref sa)] [])) t → Steps p.tables e below (s₁.setTop (entryFrame m #[(.ref bb), (.ref sa)] 2)) t := fun t k => castTop (ef_2_RR m bb sa) k
  obtain ⟨Scmp, hzc⟩ := id hE
  obtain ⟨Eb, Vb, Cb, Nb, Ab⟩ := id hB
  obtain ⟨_, _, ⟨T1, L1, k1, n1⟩, -, X1, ⟨Lc1, hQ1, l1, y1, z1⟩, st1⟩ := superBack X0 hx hZ (y := (⟨"java/lang/AbstractStringBuilder", "append", "(Ljava/lang/String;)Ljava/lang/AbstractStringBuilder;"⟩ : MethodName)) hown (hw _ (List.mem_of_getElem? (i := 44) rfl)) (own_same (hw _ (List.mem_of_getElem? (i := 67) rfl)) rfl (hw _ (List.mem_of_getElem? (i := 47) rfl)) (by decide)) (hw _ (List.mem_of_getElem? (i := 45) rfl)) (hw _ (List.mem_of_getElem? (i := 46) rfl)) (by decide) (backOf (W := 0) (sb_asbS l Z a0 hw [] zc bb da kd N bs sa sd ks cs h0 n0 O hE hB hS hle hN hne gb gd hbd) hZ (hw _ (List.mem_of_getElem? (i := 48) rfl)) (hw _ (List.mem_of_getElem? (i := 27) rfl)) (by decide) (by decide)) e0 (Ins.self Eb) (g := (mkF m 2 #[.val (.ref bb), .val (.ref sa)] [(.ref sa), (.ref bb)])) rfl (by rw [hml]; rfl) (hw _ (List.mem_of_getElem? (i := 48) rfl)) (argsL := [(.ref sa)]) (rest := []) (lenOf pd_28Ljava2flang2fString3b29Ljava2flang2fAbstractStringBuilder3b rfl) rfl (by show 2 * 0 + _ ≤ _; exact Nat.le_of_eq rfl) (hb hby d5_2) (fun _ _ => ⟨rfl, e0, (by decide : 0 + 0 ≤ _), (by decide : 0 + 0 ≤ _)⟩)
  dsimp only [Pt.U, Pt.locs, Pt.cells, Pt.slots] at X1 l1 y1 z1 st1 hQ1
  subst l1 y1 z1
  obtain ⟨rfl, N1q, K1, P1⟩ := hQ1
  have N1 := Fr.app N0 N1q
  have O1 : Old Z n0 T1.heap := O.keep K1 (allS (P := (n0 ≤ ·)) gb (allS (P := (n0 ≤ ·)) gd all0))
  have Kp1 : Keep h0 T1.heap [bb, da] := (Keep.refl h0 [bb, da]).trans K1 (allS (P := (fun x => x ∈ [bb, da] ∨ h0.size ≤ x)) (Or.inl (by simp)) (allS (P := (fun x => x ∈ [bb, da] ∨ h0.size ≤ x)) (Or.inl (by simp)) all0))
  have Pf := P1
  obtain ⟨fs, hr, hrun, hended, hW, hsame⟩ := X1.leave (v := some (.ref bb)) (fun h => by rw [Bd.returns] at h; cases h)
  refine ⟨_, _, pre0 _ ?_, hrun, hended, _, _, rfl, ?_, ⟨_, rfl⟩, hW, hsame.mono (by decide) (by decide)⟩
  · show Steps p.tables e below (s₁.setTop (mkF m 0 #[.val (.ref bb), .val (.ref sa)] [])) _
    refine XS.aloadN X0.here hx rfl (hb hby d5_0) rfl rfl ?_
    show Steps p.tables e below (s₁.setTop (mkF m 1 #[.val (.ref bb), .val (.ref sa)] [(.ref bb)])) _
    refine XS.aloadN X0.here hx rfl (hb hby d5_1) rfl rfl ?_
    show Steps p.tables e below (s₁.setTop (mkF m 2 #[.val (.ref bb), .val (.ref sa)] [(.ref sa), (.ref bb)])) _
    refine st1.trans ?_
    show Steps p.tables e below (T1.setTop (mkF m 5 #[.val (.ref bb), .val (.ref sa)] [(.ref bb)])) _
    refine XS.pop X1.here hx rfl (hb hby d5_5) rfl rfl ?_
    show Steps p.tables e below (T1.setTop (mkF m 6 #[.val (.ref bb), .val (.ref sa)] [])) _
    refine XS.aloadN X1.here hx rfl (hb hby d5_6) rfl rfl ?_
    show Steps p.tables e below (T1.setTop (mkF m 7 #[.val (.ref bb), .val (.ref sa)] [(.ref bb)])) _
    exact retOut X1 hx Bd.returns rfl (Or.inr (Or.inr (Or.inr (Or.inr ⟨rfl, rfl, rfl⟩)))) (hb hby d5_7) hr
  · exact by show Qh _ h0 n0 _ _ (some (.ref bb)) T1.heap _; exact ⟨rfl, N1, Kp1, Pf⟩
theorem d16_0 : decode jdk_68_method_68_code 0 = .ok (.getstatic 18, 3) := by decide +kernel
theorem d16_3 : decode jdk_68_method_68_code 3 = .ok (.ifCond .eq 14, 3) := by decide +kernel
theorem d16_6 : decode jdk_68_method_68_code 6 = .ok (.aload_n 0, 1) := by decide +kernel
theorem d16_7 : decode jdk_68_method_68_code 7 = .ok (.getfield 22, 3) := by decide +kernel
theorem d16_10 : decode jdk_68_method_68_code 10 = .ok (.ifCond .ne 7, 3) := by decide +kernel
theorem d16_13 : decode jdk_68_method_68_code 13 = .ok (.iconst 1, 1) := by decide +kernel
theorem d16_14 : decode jdk_68_method_68_code 14 = .ok (.goto 4, 3) := by decide +kernel
theorem d16_18 : decode jdk_68_method_68_code 18 = .ok (.ireturn, 1) := by decide +kernel
set_option maxRecDepth 65536 in
set_option maxHeartbeats 40000000 in
theorem sb_isLatin1 (l : Launch) (Z : State) (a0 : Array Value) (hw : ∀ d ∈ tables_1, d.before a0 Z = true) (ws : List Jvm.Cond) (zc : Int32) (bb : Addr) (h0 : Heap) (n0 : Nat) (O : Old Z n0 h0) (hE : EnvS Z zc) (C : Fld Z h0 bb "java/lang/AbstractStringBuilder" "coder" "B" (.int (0 : Int32))) :
    MetFree l (⟨"java/lang/AbstractStringBuilder", "isLatin1", "()Z"⟩ : MethodName) (head1 (Jvm.Cond.code (⟨"java/lang/AbstractStringBuilder", "isLatin1", "()Z"⟩ : MethodName) jdk_68_method_68_code 1 (some .boolean) :: ws) ({ frames := 0, cells := 0, slots := 0, locals := 0 } : Room)) (fun a U => a = #[(.ref bb)] ∧ Z.Warmed39 U.vm ∧ U.heap = h0) (fun _ _ _ _ _ => True) (fun _ U o U' => ∃ v L, o = .returned v ∧ Qv (some (.int (1 : Int32))) h0 n0 v U'.heap L ∧ FrameEnd U o U' L ({ frames := 0, cells := 0, slots := 0, locals := 0 } : Room).cells ({ frames := 0, cells := 0, slots := 0, locals := 0 } : Room).slots) := by
  refine MetFree.of_bodySF (plainFor_of_name pn_java_lang_AbstractStringBuilder) hisR ?_
  intro p e s m args below meth c s₁ Bd hml0 hP hK
  obtain ⟨rfl, hZ, hh⟩ := hP
  have hx := Bd.exec
  have hby := Bd.bytes
  have hml : c.maxLocals = 1 := hml0
  have hown : s.vm.findClass "java/lang/AbstractStringBuilder" = some m.cls := findClass_of_methodNamed Bd.named
  have hnm := (name_of_methodNamed Bd.named Bd.method).1
  have X0 : Stand p l e ({ frames := 0, cells := 0, slots := 0, locals := 0 } : Room) s m #[(.ref bb)] below meth c s₁ [] 0 0 := Stand.of_body Bd
  have e0 : s₁.heap = h0 := by rw [← hh, Bd.state]; rfl
  have N0 := Fr.nil n0
  have pre0 : ∀ t, Steps p.tables e below (s₁.setTop (mkF m 0 #[.val (.ref bb)] [])) t → Steps p.tables e below (s₁.setTop (entryFrame m #[(.ref bb)] 1)) t := fun t k => castTop (ef_1_R m bb) k
  obtain ⟨Scmp, hzc⟩ := id hE
  obtain ⟨T1, X1, e1, st1⟩ := getS2 X0 hx hZ hown (host := "") (Or.inl (hw _ (List.mem_of_getElem? (i := 32) rfl))) Via.refl e0 (Scmp.ext O.2) (g := (mkF m 0 #[.val (.ref bb)] [])) rfl (hb hby d16_0)
  obtain ⟨T2, X2, e2, st2⟩ := getF X1 hx hZ hown (host := "") (Or.inl (hw _ (List.mem_of_getElem? (i := 35) rfl))) Via.refl e1 C (g := (mkF m 7 #[.val (.ref bb)] [(.ref bb)])) rfl rfl (hb hby d16_7)
  obtain ⟨fs, hr, hrun, hended, hW, hsame⟩ := X2.leave (v := some (.int (1 : Int32))) (fun h => by rw [Bd.returns] at h; cases h)
  refine ⟨_, _, pre0 _ ?_, hrun, hended, _, _, rfl, ?_, ⟨_, rfl⟩, hW, hsame.mono (by decide) (by decide)⟩
  · show Steps p.tables e below (s₁.setTop (mkF m 0 #[.val (.ref bb)] [])) _
    refine st1 _ ?_
    show Steps p.tables e below (T1.setTop (mkF m 3 #[.val (.ref bb)] [(.int zc)])) _
    refine XS.ifNo X1.here hx rfl (hb hby d16_3) rfl ((if0 _ _).trans (feq (hzc : ¬ (zc = (0 : Int32)))).1) ?_
    show Steps p.tables e below (T1.setTop (mkF m 6 #[.val (.ref bb)] [])) _
    refine XS.aloadN X1.here hx rfl (hb hby d16_6) rfl rfl ?_
    show Steps p.tables e below (T1.setTop (mkF m 7 #[.val (.ref bb)] [(.ref bb)])) _
    refine st2 _ ?_
    show Steps p.tables e below (T2.setTop (mkF m 10 #[.val (.ref bb)] [(.int (0 : Int32))])) _
    refine XS.ifNo X2.here hx rfl (hb hby d16_10) rfl ((if0 _ _).trans (teq ((by decide) : (0 : Int32) = (0 : Int32))).2) ?_
    show Steps p.tables e below (T2.setTop (mkF m 13 #[.val (.ref bb)] [])) _
    refine XS.iconst X2.here hx rfl (hb hby d16_13) ?_
    show Steps p.tables e below (T2.setTop (mkF m 14 #[.val (.ref bb)] [(.int (1 : Int32))])) _
    refine XS.goto X2.here hx rfl (pc0 := 14) (pc' := 18) rfl (hb hby d16_14) (by decide) (by decide) ?_
    show Steps p.tables e below (T2.setTop (mkF m 18 #[.val (.ref bb)] [(.int (1 : Int32))])) _
    exact retN X2 hx (t := .boolean) Bd.returns (by simp) (hb hby d16_18) hr
  · exact ⟨rfl, N0, e2⟩
theorem d14_0 : decode jdk_68_method_32_code 0 = .ok (.aload_n 0, 1) := by decide +kernel
theorem d14_1 : decode jdk_68_method_32_code 1 = .ok (.getfield 79, 3) := by decide +kernel
theorem d14_4 : decode jdk_68_method_32_code 4 = .ok (.istore_n 2, 1) := by decide +kernel
theorem d14_5 : decode jdk_68_method_32_code 5 = .ok (.iload_n 2, 1) := by decide +kernel
theorem d14_6 : decode jdk_68_method_32_code 6 = .ok (.iload_n 1, 1) := by decide +kernel
theorem pd_28I29I : parseMethodDescriptor "(I)I" = some ⟨[.int], some .int⟩ := by decide +kernel
theorem d14_7 : decode jdk_68_method_32_code 7 = .ok (.invokestatic 245, 3) := by decide +kernel
theorem d14_10 : decode jdk_68_method_32_code 10 = .ok (.iadd, 1) := by decide +kernel
theorem d14_11 : decode jdk_68_method_32_code 11 = .ok (.istore_n 3, 1) := by decide +kernel
theorem d14_12 : decode jdk_68_method_32_code 12 = .ok (.aload_n 0, 1) := by decide +kernel
theorem d14_13 : decode jdk_68_method_32_code 13 = .ok (.iload_n 3, 1) := by decide +kernel
theorem d14_14 : decode jdk_68_method_32_code 14 = .ok (.invokevirtual 100, 3) := by decide +kernel
theorem d14_17 : decode jdk_68_method_32_code 17 = .ok (.aload_n 0, 1) := by decide +kernel
theorem pd_2829Z : parseMethodDescriptor "()Z" = some ⟨[], some .boolean⟩ := by decide +kernel
theorem d14_18 : decode jdk_68_method_32_code 18 = .ok (.invokevirtual 83, 3) := by decide +kernel
theorem d14_21 : decode jdk_68_method_32_code 21 = .ok (.ifCond .eq 16, 3) := by decide +kernel
theorem d14_24 : decode jdk_68_method_32_code 24 = .ok (.iload_n 1, 1) := by decide +kernel
theorem d14_25 : decode jdk_68_method_32_code 25 = .ok (.iload_n 3, 1) := by decide +kernel
theorem d14_26 : decode jdk_68_method_32_code 26 = .ok (.aload_n 0, 1) := by decide +kernel
theorem d14_27 : decode jdk_68_method_32_code 27 = .ok (.getfield 15, 3) := by decide +kernel
theorem pd_28II5bB29I : parseMethodDescriptor "(II[B)I" = some ⟨[.int, .int, (.array .byte)], some .int⟩ := by decide +kernel
theorem d14_30 : decode jdk_68_method_32_code 30 = .ok (.invokestatic 248, 3) := by decide +kernel
theorem d14_33 : decode jdk_68_method_32_code 33 = .ok (.pop, 1) := by decide +kernel
theorem d14_34 : decode jdk_68_method_32_code 34 = .ok (.goto 14, 3) := by decide +kernel
theorem d14_48 : decode jdk_68_method_32_code 48 = .ok (.aload_n 0, 1) := by decide +kernel
theorem d14_49 : decode jdk_68_method_32_code 49 = .ok (.iload_n 3, 1) := by decide +kernel
theorem d14_50 : decode jdk_68_method_32_code 50 = .ok (.putfield 79, 3) := by decide +kernel
theorem d14_53 : decode jdk_68_method_32_code 53 = .ok (.aload_n 0, 1) := by decide +kernel
theorem d14_54 : decode jdk_68_method_32_code 54 = .ok (.areturn, 1) := by decide +kernel
theorem ef_4_RI (m : MethodId) (x0 : Addr) (x1 : Int32) : entryFrame m #[(.ref x0), (.int x1)] 4 = mkF m 0 #[.val (.ref x0), .val (.int x1), .unset, .unset] [] := by first | (simp [entryFrame, mkF, argsToLocals, Value.category]; done) | rfl
set_option maxRecDepth 65536 in
set_option maxHeartbeats 40000000 in
theorem sb_asbI (l : Launch) (Z : State) (a0 : Array Value) (hw : ∀ d ∈ tables_1, d.before a0 Z = true) (ws : List Jvm.Cond) (zc : Int32) (bb da : Addr) (kd : ClassId) (N : Nat) (bs : List Int32) (x : Int32) (ist d1 d2 : Addr) (h0 : Heap) (n0 : Nat) (O : Old Z n0 h0) (hE : EnvS Z zc) (hB : Bld Z h0 bb da kd N bs) (hD : EnvD Z ist d1 d2) (hle : bs.length + (decI x).length ≤ N) (hN : N ≤ 1000) (gb : n0 ≤ bb) (gd : n0 ≤ da) (hbd : bb ≠ da) :
    MetFree l (⟨"java/lang/AbstractStringBuilder", "append", "(I)Ljava/lang/AbstractStringBuilder;"⟩ : MethodName) (head1 (Jvm.Cond.code (⟨"java/lang/AbstractStringBuilder", "append", "(I)Ljava/lang/AbstractStringBuilder;"⟩ : MethodName) jdk_68_method_32_code 4 (some (.object "java/lang/AbstractStringBuilder")) :: ws) ({ frames := 2, cells := 0, slots := 0, locals := 78 } : Room)) (fun a U => a = #[(.ref bb), (.int x)] ∧ Z.Warmed39 U.vm ∧ U.heap = h0) (fun _ _ _ _ _ => True) (fun _ U o U' => ∃ v L, o = .returned v ∧ Qh (some (.ref bb)) h0 n0 [bb, da] (fun h => Bld Z h bb da kd N (bs ++ decI x)) v U'.heap L ∧ FrameEnd U o U' L ({ frames := 2, cells := 0, slots := 0, locals := 78 } : Room).cells ({ frames := 2, cells := 0, slots := 0, locals := 78 } : Room).slots) := by
  refine MetFree.of_bodySF (plainFor_of_name pn_java_lang_AbstractStringBuilder) hisR ?_
  intro p e s m args below meth c s₁ Bd hml0 hP hK
  obtain ⟨rfl, hZ, hh⟩ := hP
  have hx := Bd.exec
  have hby := Bd.bytes
  have hml : c.maxLocals = 4 := hml0
  have hown : s.vm.findClass "java/lang/AbstractStringBuilder" = some m.cls := findClass_of_methodNamed Bd.named
  have hnm := (name_of_methodNamed Bd.named Bd.method).1
  have X0 : Stand p l e ({ frames := 2, cells := 0, slots := 0, locals := 78 } : Room) s m #[(.ref bb), (.int x)] below meth c s₁ [] 0 0 := Stand.of_body Bd
  have e0 : s₁.heap = h0 := by rw [← hh, Bd.state]; rfl
  have N0 := Fr.nil n0
  have pre0 : ∀ t, Steps p.tables e below (s₁.setTop (mkF m 0 #[.val (.ref bb), .val (.int x), .unset, .unset] [])) t → Steps p.tables e below (s₁.setTop (entryFrame m #[(.ref bb), (.int x)] 4)) t := fun t k => castTop (ef_4_RI m bb x) k
  obtain ⟨Scmp, hzc⟩ := id hE
  obtain ⟨Eb, Vb, Cb, Nb, Ab⟩ := id hB
  obtain ⟨T1, X1, e1, st1⟩ := getF X0 hx hZ hown (host := "") (Or.inl (hw _ (List.mem_of_getElem? (i := 62) rfl))) Via.refl e0 Nb (g := (mkF m 1 #[.val (.ref bb), .val (.int x), .unset, .unset] [(.ref bb)])) rfl rfl (hb hby d14_1)
  obtain ⟨_, _, ⟨T2, L2, k2, n2⟩, -, X2, ⟨Lc2, hQ2, l2, y2, z2⟩, st2⟩ := Jvm.LawKit.callS X1 hx (y := (⟨"java/lang/Integer", "stringSize", "(I)I"⟩ : MethodName)) hown (mvT hZ (hw _ (List.mem_of_getElem? (i := 101) rfl))) (mvT hZ (hw _ (List.mem_of_getElem? (i := 102) rfl))) (mvT hZ (hw _ (List.mem_of_getElem? (i := 103) rfl))) (mvT hZ (hw _ (List.mem_of_getElem? (i := 104) rfl))) (by decide) (sb_sizeB (W := 1) (n0 := n0) hZ (hw _ (List.mem_of_getElem? (i := 104) rfl)) (hw _ (List.mem_of_getElem? (i := 103) rfl)) x (by decide) (by decide)) (g := (mkF m 7 #[.val (.ref bb), .val (.int x), .val (.int (Int32.ofNat bs.length)), .unset] [(.int x), (.int (Int32.ofNat bs.length))])) rfl (by rw [hml]; rfl) (argsL := [(.int x)]) (rest := [(.int (Int32.ofNat bs.length))]) (lenOf pd_28I29I rfl) rfl (by show 2 * 0 + _ ≤ _; exact Nat.le_of_eq rfl) (hb hby d14_7) (fun _ _ => ⟨rfl, e1, (by decide : 0 + 0 ≤ _), (by decide : 0 + 0 ≤ _)⟩)
  dsimp only [Pt.U, Pt.locs, Pt.cells, Pt.slots] at X2 l2 y2 z2 st2 hQ2
  subst l2 y2 z2
  obtain ⟨rfl, N2q, e2⟩ := hQ2
  have N2 := Fr.app N0 N2q
  obtain ⟨cq3, kq3, q3a, q3b, q3c⟩ := isOf hZ e2 Eb
  obtain ⟨_, _, ⟨T3, L3, k3, n3⟩, -, X3, ⟨Lc3, hQ3, l3, y3, z3⟩, st3⟩ := X2.virtualBack hx (y := (⟨"java/lang/AbstractStringBuilder", "ensureCapacityInternal", "(I)V"⟩ : MethodName)) (z := (⟨"java/lang/AbstractStringBuilder", "ensureCapacityInternal", "(I)V"⟩ : MethodName)) hown (mvT hZ (hw _ (List.mem_of_getElem? (i := 64) rfl))) (mvT hZ (own_decl (hw _ (List.mem_of_getElem? (i := 65) rfl)) (hw _ (List.mem_of_getElem? (i := 68) rfl)))) (notFace_of_selects (args := #[]) (mvT hZ (hw _ (List.mem_of_getElem? (i := 67) rfl)))) (mvT hZ (hw _ (List.mem_of_getElem? (i := 67) rfl))) (mvT hZ (hw _ (List.mem_of_getElem? (i := 65) rfl))) (by decide) (backOf (W := 0) (sb_ensure0 l Z a0 hw [] bb da kd N bs (bs ++ decI x).length h0 n0 O ⟨Eb, Vb, Cb, Nb, Ab⟩ (by rw [List.length_append]; exact hle) hN) hZ (hw _ (List.mem_of_getElem? (i := 68) rfl)) (hw _ (List.mem_of_getElem? (i := 27) rfl)) (by decide) (by decide)) q3a q3c (g := (mkF m 14 #[.val (.ref bb), .val (.int x), .val (.int (Int32.ofNat bs.length)), .val (.int (Int32.ofNat (bs ++ decI x).length))] [(.int (Int32.ofNat (bs ++ decI x).length)), (.ref bb)])) rfl (by rw [hml]; rfl) (Steps.refl _) (argsL := [(.int (Int32.ofNat (bs ++ decI x).length))]) (rest := []) (lenOf pd_28I29V rfl) rfl (by show 2 * 0 + _ ≤ _; exact Nat.le_of_eq rfl) (hb hby d14_14) (fun _ _ => ⟨rfl, e2, (by decide : 0 + 0 ≤ _), (by decide : 0 + 0 ≤ _)⟩)
  dsimp only [Pt.U, Pt.locs, Pt.cells, Pt.slots] at X3 l3 y3 z3 st3 hQ3
  subst l3 y3 z3
  obtain ⟨rfl, N3q, e3⟩ := hQ3
  have N3 := Fr.app N2 N3q
  obtain ⟨cq4, kq4, q4a, q4b, q4c⟩ := isOf hZ e3 Eb
  obtain ⟨_, _, ⟨T4, L4, k4, n4⟩, -, X4, ⟨Lc4, hQ4, l4, y4, z4⟩, st4⟩ := X3.virtualBack hx (y := (⟨"java/lang/AbstractStringBuilder", "isLatin1", "()Z"⟩ : MethodName)) (z := (⟨"java/lang/AbstractStringBuilder", "isLatin1", "()Z"⟩ : MethodName)) hown (mvT hZ (hw _ (List.mem_of_getElem? (i := 105) rfl))) (mvT hZ (hw _ (List.mem_of_getElem? (i := 106) rfl))) (notFace_of_selects (args := #[]) (mvT hZ (hw _ (List.mem_of_getElem? (i := 108) rfl)))) (mvT hZ (hw _ (List.mem_of_getElem? (i := 108) rfl))) (mvT hZ (hw _ (List.mem_of_getElem? (i := 107) rfl))) (by decide) (backOf (W := 0) (sb_isLatin1 l Z a0 hw [] zc bb h0 n0 O hE Cb) hZ (hw _ (List.mem_of_getElem? (i := 109) rfl)) (hw _ (List.mem_of_getElem? (i := 27) rfl)) (by decide) (by decide)) q4a q4c (g := (mkF m 18 #[.val (.ref bb), .val (.int x), .val (.int (Int32.ofNat bs.length)), .val (.int (Int32.ofNat (bs ++ decI x).length))] [(.ref bb)])) rfl (by rw [hml]; rfl) (Steps.refl _) (argsL := []) (rest := []) (lenOf pd_2829Z rfl) rfl (by show 2 * 0 + _ ≤ _; exact Nat.le_of_eq rfl) (hb hby d14_18) (fun _ _ => ⟨rfl, e3, (by decide : 0 + 0 ≤ _), (by decide : 0 + 0 ≤ _)⟩)
  dsimp only [Pt.U, Pt.locs, Pt.cells, Pt.slots] at X4 l4 y4 z4 st4 hQ4
  subst l4 y4 z4
  obtain ⟨rfl, N4q, e4⟩ := hQ4
  have N4 := Fr.app N3 N4q
  obtain ⟨T5, X5, e5, st5⟩ := getF X4 hx hZ hown (host := "") (Or.inl (hw _ (List.mem_of_getElem? (i := 33) rfl))) Via.refl e4 Vb (g := (mkF m 27 #[.val (.ref bb), .val (.int x), .val (.int (Int32.ofNat bs.length)), .val (.int (Int32.ofNat (bs ++ decI x).length))] [(.ref bb), (.int (Int32.ofNat (bs ++ decI x).length)), (.int x)])) rfl rfl (hb hby d14_27)
  obtain ⟨_, _, ⟨T6, L6, k6, n6⟩, -, X6, ⟨Lc6, hQ6, l6, y6, z6⟩, st6⟩ := Jvm.LawKit.callS X5 hx (y := (⟨"java/lang/Integer", "getChars", "(II[B)I"⟩ : MethodName)) hown (mvT hZ (hw _ (List.mem_of_getElem? (i := 110) rfl))) (mvT hZ (hw _ (List.mem_of_getElem? (i := 111) rfl))) (mvT hZ (hw _ (List.mem_of_getElem? (i := 103) rfl))) (mvT hZ (hw _ (List.mem_of_getElem? (i := 112) rfl))) (by decide) (sb_charsB (W := 0) (n0 := n0) hZ (hw _ (List.mem_of_getElem? (i := 112) rfl)) (hw _ (List.mem_of_getElem? (i := 113) rfl)) (hw _ (List.mem_of_getElem? (i := 114) rfl)) (hw _ (List.mem_of_getElem? (i := 103) rfl)) hD O Ab hle hN gd (by decide) (by decide)) (g := (mkF m 30 #[.val (.ref bb), .val (.int x), .val (.int (Int32.ofNat bs.length)), .val (.int (Int32.ofNat (bs ++ decI x).length))] [(.ref da), (.int (Int32.ofNat (bs ++ decI x).length)), (.int x)])) rfl (by rw [hml]; rfl) (argsL := [(.int x), (.int (Int32.ofNat (bs ++ decI x).length)), (.ref da)]) (rest := []) (lenOf pd_28II5bB29I rfl) rfl (by show 2 * 0 + _ ≤ _; exact Nat.le_of_eq rfl) (hb hby d14_30) (fun _ _ => ⟨rfl, e5, (by decide : 0 + 0 ≤ _), (by decide : 0 + 0 ≤ _)⟩)
  dsimp only [Pt.U, Pt.locs, Pt.cells, Pt.slots] at X6 l6 y6 z6 st6 hQ6
  subst l6 y6 z6
  obtain ⟨zz, rfl, N6q, K6, V6⟩ := hQ6
  have N6 := Fr.app N4 N6q
  have O6 : Old Z n0 T6.heap := O.keep K6 (allS (P := (n0 ≤ ·)) gd all0)
  have Kp6 : Keep h0 T6.heap [bb, da] := (Keep.refl h0 [bb, da]).trans K6 (allS (P := (fun x => x ∈ [bb, da] ∨ h0.size ≤ x)) (Or.inl (by simp)) all0)
  have f7 : Exa Z T6.heap bb "java/lang/StringBuilder" := (Eb.keep K6)
  have f8 : Fld Z T6.heap bb "java/lang/AbstractStringBuilder" "count" "I" (.int (Int32.ofNat bs.length)) := (Nb.keep K6 (ninS hbd nin0))
  obtain ⟨T9, h9, X9, e9, W9, st9⟩ := putF X6 hx hZ hown (host := "") (Or.inl (hw _ (List.mem_of_getElem? (i := 62) rfl))) Via.refl rfl f8 f7 (Or.inl (hw _ (List.mem_of_getElem? (i := 63) rfl))) (hw _ (List.mem_of_getElem? (i := 18) rfl)) (ty := .int) (by decide) rfl rfl (g := (mkF m 50 #[.val (.ref bb), .val (.int x), .val (.int (Int32.ofNat bs.length)), .val (.int (Int32.ofNat (bs ++ decI x).length))] [(.int (Int32.ofNat (bs ++ decI x).length)), (.ref bb)])) rfl rfl (hb hby d14_50)
  have N9 := Fr.snoc X9 N6 gb
  have O9 : Old Z n0 h9 := O6.wr W9 gb
  have Kp9 : Keep h0 h9 [bb, da] := Kp6.wr W9 (Or.inl (by simp))
  have Fw9 : Fld Z h9 bb "java/lang/AbstractStringBuilder" "count" "I" (.int (Int32.ofNat (bs ++ decI x).length)) := f8.same W9
  have f10 : Exa Z h9 bb "java/lang/StringBuilder" := (f7.wr W9)
  have f11 : Fld Z h9 bb "java/lang/AbstractStringBuilder" "value" "[B" (.ref da) := ((Vb.keep K6 (ninS hbd nin0)).other W9 (Or.inr (slot_ne (Or.inl (hw _ (List.mem_of_getElem? (i := 34) rfl))) (Or.inl (hw _ (List.mem_of_getElem? (i := 63) rfl))) (by decide) (t := (.array .byte)) (t' := .int) (by decide) (by decide))))
  have f12 : Fld Z h9 bb "java/lang/AbstractStringBuilder" "coder" "B" (.int (0 : Int32)) := ((Cb.keep K6 (ninS hbd nin0)).other W9 (Or.inr (slot_ne (Or.inl (hw _ (List.mem_of_getElem? (i := 36) rfl))) (Or.inl (hw _ (List.mem_of_getElem? (i := 63) rfl))) (by decide) (t := .byte) (t' := .int) (by decide) (by decide))))
  have f13 : Arv Z h9 da kd .byte (Int32.ofNat N) (by8 (bs ++ decI x)) (.int (0 : Int32)) := (V6.other W9 (Ne.symm hbd))
  obtain ⟨fs, hr, hrun, hended, hW, hsame⟩ := X9.leave (v := some (.ref bb)) (fun h => by rw [Bd.returns] at h; cases h)
  refine ⟨_, _, pre0 _ ?_, hrun, hended, _, _, rfl, ?_, ⟨_, rfl⟩, hW, hsame.mono (by decide) (by decide)⟩
  · show Steps p.tables e below (s₁.setTop (mkF m 0 #[.val (.ref bb), .val (.int x), .unset, .unset] [])) _
    refine XS.aloadN X0.here hx rfl (hb hby d14_0) rfl rfl ?_
    show Steps p.tables e below (s₁.setTop (mkF m 1 #[.val (.ref bb), .val (.int x), .unset, .unset] [(.ref bb)])) _
    refine st1 _ ?_
    show Steps p.tables e below (T1.setTop (mkF m 4 #[.val (.ref bb), .val (.int x), .unset, .unset] [(.int (Int32.ofNat bs.length))])) _
    refine XS.istoreN X1.here hx rfl (hb hby d14_4) rfl (l' := #[.val (.ref bb), .val (.int x), .val (.int (Int32.ofNat bs.length)), .unset]) rfl ?_
    show Steps p.tables e below (T1.setTop (mkF m 5 #[.val (.ref bb), .val (.int x), .val (.int (Int32.ofNat bs.length)), .unset] [])) _
    refine XS.iloadN X1.here hx rfl (hb hby d14_5) rfl ?_
    show Steps p.tables e below (T1.setTop (mkF m 6 #[.val (.ref bb), .val (.int x), .val (.int (Int32.ofNat bs.length)), .unset] [(.int (Int32.ofNat bs.length))])) _
    refine XS.iloadN X1.here hx rfl (hb hby d14_6) rfl ?_
    show Steps p.tables e below (T1.setTop (mkF m 7 #[.val (.ref bb), .val (.int x), .val (.int (Int32.ofNat bs.length)), .unset] [(.int x), (.int (Int32.ofNat bs.length))])) _
    refine st2 _ ?_
    show Steps p.tables e below (T2.setTop (mkF m 10 #[.val (.ref bb), .val (.int x), .val (.int (Int32.ofNat bs.length)), .unset] [(.int (Int32.ofNat (decI x).length)), (.int (Int32.ofNat bs.length))])) _
    refine XS.iadd X2.here hx rfl (hb hby d14_10) rfl ?_
    show Steps p.tables e below (T2.setTop (mkF m 11 #[.val (.ref bb), .val (.int x), .val (.int (Int32.ofNat bs.length)), .unset] [(.int ((Int32.ofNat bs.length) + (Int32.ofNat (decI x).length)))])) _
    rw [own_addlen]
    show Steps p.tables e below (T2.setTop (mkF m 11 #[.val (.ref bb), .val (.int x), .val (.int (Int32.ofNat bs.length)), .unset] [(.int (Int32.ofNat (bs ++ decI x).length))])) _
    refine XS.istoreN X2.here hx rfl (hb hby d14_11) rfl (l' := #[.val (.ref bb), .val (.int x), .val (.int (Int32.ofNat bs.length)), .val (.int (Int32.ofNat (bs ++ decI x).length))]) rfl ?_
    show Steps p.tables e below (T2.setTop (mkF m 12 #[.val (.ref bb), .val (.int x), .val (.int (Int32.ofNat bs.length)), .val (.int (Int32.ofNat (bs ++ decI x).length))] [])) _
    refine XS.aloadN X2.here hx rfl (hb hby d14_12) rfl rfl ?_
    show Steps p.tables e below (T2.setTop (mkF m 13 #[.val (.ref bb), .val (.int x), .val (.int (Int32.ofNat bs.length)), .val (.int (Int32.ofNat (bs ++ decI x).length))] [(.ref bb)])) _
    refine XS.iloadN X2.here hx rfl (hb hby d14_13) rfl ?_
    show Steps p.tables e below (T2.setTop (mkF m 14 #[.val (.ref bb), .val (.int x), .val (.int (Int32.ofNat bs.length)), .val (.int (Int32.ofNat (bs ++ decI x).length))] [(.int (Int32.ofNat (bs ++ decI x).length)), (.ref bb)])) _
    refine st3.trans ?_
    show Steps p.tables e below (T3.setTop (mkF m 17 #[.val (.ref bb), .val (.int x), .val (.int (Int32.ofNat bs.length)), .val (.int (Int32.ofNat (bs ++ decI x).length))] [])) _
    refine XS.aloadN X3.here hx rfl (hb hby d14_17) rfl rfl ?_
    show Steps p.tables e below (T3.setTop (mkF m 18 #[.val (.ref bb), .val (.int x), .val (.int (Int32.ofNat bs.length)), .val (.int (Int32.ofNat (bs ++ decI x).length))] [(.ref bb)])) _
    refine st4.trans ?_
    show Steps p.tables e below (T4.setTop (mkF m 21 #[.val (.ref bb), .val (.int x), .val (.int (Int32.ofNat bs.length)), .val (.int (Int32.ofNat (bs ++ decI x).length))] [(.int (1 : Int32))])) _
    refine XS.ifNo X4.here hx rfl (hb hby d14_21) rfl ((if0 _ _).trans (feq ((by decide) : ¬ ((1 : Int32) = (0 : Int32)))).1) ?_
    show Steps p.tables e below (T4.setTop (mkF m 24 #[.val (.ref bb), .val (.int x), .val (.int (Int32.ofNat bs.length)), .val (.int (Int32.ofNat (bs ++ decI x).length))] [])) _
    refine XS.iloadN X4.here hx rfl (hb hby d14_24) rfl ?_
    show Steps p.tables e below (T4.setTop (mkF m 25 #[.val (.ref bb), .val (.int x), .val (.int (Int32.ofNat bs.length)), .val (.int (Int32.ofNat (bs ++ decI x).length))] [(.int x)])) _
    refine XS.iloadN X4.here hx rfl (hb hby d14_25) rfl ?_
    show Steps p.tables e below (T4.setTop (mkF m 26 #[.val (.ref bb), .val (.int x), .val (.int (Int32.ofNat bs.length)), .val (.int (Int32.ofNat (bs ++ decI x).length))] [(.int (Int32.ofNat (bs ++ decI x).length)), (.int x)])) _
    refine XS.aloadN X4.here hx rfl (hb hby d14_26) rfl rfl ?_
    show Steps p.tables e below (T4.setTop (mkF m 27 #[.val (.ref bb), .val (.int x), .val (.int (Int32.ofNat bs.length)), .val (.int (Int32.ofNat (bs ++ decI x).length))] [(.ref bb), (.int (Int32.ofNat (bs ++ decI x).length)), (.int x)])) _
    refine st5 _ ?_
    show Steps p.tables e below (T5.setTop (mkF m 30 #[.val (.ref bb), .val (.int x), .val (.int (Int32.ofNat bs.length)), .val (.int (Int32.ofNat (bs ++ decI x).length))] [(.ref da), (.int (Int32.ofNat (bs ++ decI x).length)), (.int x)])) _
    refine st6 _ ?_
    show Steps p.tables e below (T6.setTop (mkF m 33 #[.val (.ref bb), .val (.int x), .val (.int (Int32.ofNat bs.length)), .val (.int (Int32.ofNat (bs ++ decI x).length))] [(.int zz)])) _
    refine XS.pop X6.here hx rfl (hb hby d14_33) rfl rfl ?_
    show Steps p.tables e below (T6.setTop (mkF m 34 #[.val (.ref bb), .val (.int x), .val (.int (Int32.ofNat bs.length)), .val (.int (Int32.ofNat (bs ++ decI x).length))] [])) _
    refine XS.goto X6.here hx rfl (pc0 := 34) (pc' := 48) rfl (hb hby d14_34) (by decide) (by decide) ?_
    show Steps p.tables e below (T6.setTop (mkF m 48 #[.val (.ref bb), .val (.int x), .val (.int (Int32.ofNat bs.length)), .val (.int (Int32.ofNat (bs ++ decI x).length))] [])) _
    refine XS.aloadN X6.here hx rfl (hb hby d14_48) rfl rfl ?_
    show Steps p.tables e below (T6.setTop (mkF m 49 #[.val (.ref bb), .val (.int x), .val (.int (Int32.ofNat bs.length)), .val (.int (Int32.ofNat (bs ++ decI x).length))] [(.ref bb)])) _
    refine XS.iloadN X6.here hx rfl (hb hby d14_49) rfl ?_
    show Steps p.tables e below (T6.setTop (mkF m 50 #[.val (.ref bb), .val (.int x), .val (.int (Int32.ofNat bs.length)), .val (.int (Int32.ofNat (bs ++ decI x).length))] [(.int (Int32.ofNat (bs ++ decI x).length)), (.ref bb)])) _
    refine st9 _ ?_
    show Steps p.tables e below (T9.setTop (mkF m 53 #[.val (.ref bb), .val (.int x), .val (.int (Int32.ofNat bs.length)), .val (.int (Int32.ofNat (bs ++ decI x).length))] [])) _
    refine XS.aloadN X9.here hx rfl (hb hby d14_53) rfl rfl ?_
    show Steps p.tables e below (T9.setTop (mkF m 54 #[.val (.ref bb), .val (.int x), .val (.int (Int32.ofNat bs.length)), .val (.int (Int32.ofNat (bs ++ decI x).length))] [(.ref bb)])) _
    exact retOut X9 hx Bd.returns rfl (Or.inr (Or.inr (Or.inr (Or.inr ⟨rfl, rfl, rfl⟩)))) (hb hby d14_54) hr
  · exact by show Qh _ h0 n0 _ _ (some (.ref bb)) T9.heap _; rw [e9]; exact ⟨rfl, N9, Kp9, ⟨f10, f11, f12, Fw9, f13⟩⟩
theorem d13_0 : decode jdk_67_method_15_code 0 = .ok (.aload_n 0, 1) := by decide +kernel
theorem d13_1 : decode jdk_67_method_15_code 1 = .ok (.iload_n 1, 1) := by decide +kernel
theorem pd_28I29Ljava2flang2fAbstractStringBuilder3b : parseMethodDescriptor "(I)Ljava/lang/AbstractStringBuilder;" = some ⟨[.int], some (.object "java/lang/AbstractStringBuilder")⟩ := by decide +kernel
theorem d13_2 : decode jdk_67_method_15_code 2 = .ok (.invokespecial 53, 3) := by decide +kernel
theorem d13_5 : decode jdk_67_method_15_code 5 = .ok (.pop, 1) := by decide +kernel
theorem d13_6 : decode jdk_67_method_15_code 6 = .ok (.aload_n 0, 1) := by decide +kernel
theorem d13_7 : decode jdk_67_method_15_code 7 = .ok (.areturn, 1) := by decide +kernel
theorem ef_2_RI (m : MethodId) (x0 : Addr) (x1 : Int32) : entryFrame m #[(.ref x0), (.int x1)] 2 = mkF m 0 #[.val (.ref x0), .val (.int x1)] [] := by first | (simp [entryFrame, mkF, argsToLocals, Value.category]; done) | rfl
set_option maxRecDepth 65536 in
set_option maxHeartbeats 40000000 in
theorem sb_sbI (l : Launch) (Z : State) (a0 : Array Value) (hw : ∀ d ∈ tables_1, d.before a0 Z = true) (ws : List Jvm.Cond) (zc : Int32) (bb da : Addr) (kd : ClassId) (N : Nat) (bs : List Int32) (x : Int32) (ist d1 d2 : Addr) (h0 : Heap) (n0 : Nat) (O : Old Z n0 h0) (hE : EnvS Z zc) (hB : Bld Z h0 bb da kd N bs) (hD : EnvD Z ist d1 d2) (hle : bs.length + (decI x).length ≤ N) (hN : N ≤ 1000) (gb : n0 ≤ bb) (gd : n0 ≤ da) (hbd : bb ≠ da) :
    MetFree l (⟨"java/lang/StringBuilder", "append", "(I)Ljava/lang/StringBuilder;"⟩ : MethodName) (head1 (Jvm.Cond.code (⟨"java/lang/StringBuilder", "append", "(I)Ljava/lang/StringBuilder;"⟩ : MethodName) jdk_67_method_15_code 2 (some (.object "java/lang/StringBuilder")) :: ws) ({ frames := 3, cells := 0, slots := 0, locals := 93 } : Room)) (fun a U => a = #[(.ref bb), (.int x)] ∧ Z.Warmed39 U.vm ∧ U.heap = h0) (fun _ _ _ _ _ => True) (fun _ U o U' => ∃ v L, o = .returned v ∧ Qh (some (.ref bb)) h0 n0 [bb, da] (fun h => Bld Z h bb da kd N (bs ++ decI x)) v U'.heap L ∧ FrameEnd U o U' L ({ frames := 3, cells := 0, slots := 0, locals := 93 } : Room).cells ({ frames := 3, cells := 0, slots := 0, locals := 93 } : Room).slots) := by
  refine MetFree.of_bodySF (plainFor_of_name pn_java_lang_StringBuilder) hisR ?_
  intro p e s m args below meth c s₁ Bd hml0 hP hK
  obtain ⟨rfl, hZ, hh⟩ := hP
  have hx := Bd.exec
  have hby := Bd.bytes
  have hml : c.maxLocals = 2 := hml0
  have hown : s.vm.findClass "java/lang/StringBuilder" = some m.cls := findClass_of_methodNamed Bd.named
  have hnm := (name_of_methodNamed Bd.named Bd.method).1
  have X0 : Stand p l e ({ frames := 3, cells := 0, slots := 0, locals := 93 } : Room) s m #[(.ref bb), (.int x)] below meth c s₁ [] 0 0 := Stand.of_body Bd
  have e0 : s₁.heap = h0 := by rw [← hh, Bd.state]; rfl
  have N0 := Fr.nil n0
  have pre0 : ∀ t, Steps p.tables e below (s₁.setTop (mkF m 0 #[.val (.ref bb), .val (.int x)] [])) t → Steps p.tables e below (s₁.setTop (entryFrame m #[(.ref bb), (.int x)] 2)) t := fun t k => castTop (ef_2_RI m bb x) k
  obtain ⟨Scmp, hzc⟩ := id hE
  obtain ⟨Eb, Vb, Cb, Nb, Ab⟩ := id hB
  obtain ⟨_, _, ⟨T1, L1, k1, n1⟩, -, X1, ⟨Lc1, hQ1, l1, y1, z1⟩, st1⟩ := superBack X0 hx hZ (y := (⟨"java/lang/AbstractStringBuilder", "append", "(I)Ljava/lang/AbstractStringBuilder;"⟩ : MethodName)) hown (hw _ (List.mem_of_getElem? (i := 97) rfl)) (own_same (hw _ (List.mem_of_getElem? (i := 67) rfl)) rfl (hw _ (List.mem_of_getElem? (i := 99) rfl)) (by decide)) (hw _ (List.mem_of_getElem? (i := 98) rfl)) (hw _ (List.mem_of_getElem? (i := 46) rfl)) (by decide) (backOf (W := 0) (sb_asbI l Z a0 hw [] zc bb da kd N bs x ist d1 d2 h0 n0 O hE hB hD hle hN gb gd hbd) hZ (hw _ (List.mem_of_getElem? (i := 100) rfl)) (hw _ (List.mem_of_getElem? (i := 27) rfl)) (by decide) (by decide)) e0 (Ins.self Eb) (g := (mkF m 2 #[.val (.ref bb), .val (.int x)] [(.int x), (.ref bb)])) rfl (by rw [hml]; rfl) (hw _ (List.mem_of_getElem? (i := 100) rfl)) (argsL := [(.int x)]) (rest := []) (lenOf pd_28I29Ljava2flang2fAbstractStringBuilder3b rfl) rfl (by show 2 * 0 + _ ≤ _; exact Nat.le_of_eq rfl) (hb hby d13_2) (fun _ _ => ⟨rfl, e0, (by decide : 0 + 0 ≤ _), (by decide : 0 + 0 ≤ _)⟩)
  dsimp only [Pt.U, Pt.locs, Pt.cells, Pt.slots] at X1 l1 y1 z1 st1 hQ1
  subst l1 y1 z1
  obtain ⟨rfl, N1q, K1, P1⟩ := hQ1
  have N1 := Fr.app N0 N1q
  have O1 : Old Z n0 T1.heap := O.keep K1 (allS (P := (n0 ≤ ·)) gb (allS (P := (n0 ≤ ·)) gd all0))
  have Kp1 : Keep h0 T1.heap [bb, da] := (Keep.refl h0 [bb, da]).trans K1 (allS (P := (fun x => x ∈ [bb, da] ∨ h0.size ≤ x)) (Or.inl (by simp)) (allS (P := (fun x => x ∈ [bb, da] ∨ h0.size ≤ x)) (Or.inl (by simp)) all0))
  have Pf := P1
  obtain ⟨fs, hr, hrun, hended, hW, hsame⟩ := X1.leave (v := some (.ref bb)) (fun h => by rw [Bd.returns] at h; cases h)
  refine ⟨_, _, pre0 _ ?_, hrun, hended, _, _, rfl, ?_, ⟨_, rfl⟩, hW, hsame.mono (by decide) (by decide)⟩
  · show Steps p.tables e below (s₁.setTop (mkF m 0 #[.val (.ref bb), .val (.int x)] [])) _
    refine XS.aloadN X0.here hx rfl (hb hby d13_0) rfl rfl ?_
    show Steps p.tables e below (s₁.setTop (mkF m 1 #[.val (.ref bb), .val (.int x)] [(.ref bb)])) _
    refine XS.iloadN X0.here hx rfl (hb hby d13_1) rfl ?_
    show Steps p.tables e below (s₁.setTop (mkF m 2 #[.val (.ref bb), .val (.int x)] [(.int x), (.ref bb)])) _
    refine st1.trans ?_
    show Steps p.tables e below (T1.setTop (mkF m 5 #[.val (.ref bb), .val (.int x)] [(.ref bb)])) _
    refine XS.pop X1.here hx rfl (hb hby d13_5) rfl rfl ?_
    show Steps p.tables e below (T1.setTop (mkF m 6 #[.val (.ref bb), .val (.int x)] [])) _
    refine XS.aloadN X1.here hx rfl (hb hby d13_6) rfl rfl ?_
    show Steps p.tables e below (T1.setTop (mkF m 7 #[.val (.ref bb), .val (.int x)] [(.ref bb)])) _
    exact retOut X1 hx Bd.returns rfl (Or.inr (Or.inr (Or.inr (Or.inr ⟨rfl, rfl, rfl⟩)))) (hb hby d13_7) hr
  · exact by show Qh _ h0 n0 _ _ (some (.ref bb)) T1.heap _; exact ⟨rfl, N1, Kp1, Pf⟩
theorem d21_0 : decode jdk_68_method_64_code 0 = .ok (.aload_n 0, 1) := by decide +kernel
theorem d21_1 : decode jdk_68_method_64_code 1 = .ok (.getfield 15, 3) := by decide +kernel
theorem d21_4 : decode jdk_68_method_64_code 4 = .ok (.areturn, 1) := by decide +kernel
set_option maxRecDepth 65536 in
set_option maxHeartbeats 40000000 in
theorem sb_getValue (l : Launch) (Z : State) (a0 : Array Value) (hw : ∀ d ∈ tables_1, d.before a0 Z = true) (ws : List Jvm.Cond) (bb da : Addr) (kd : ClassId) (N : Nat) (bs : List Int32) (h0 : Heap) (n0 : Nat) (O : Old Z n0 h0) (hB : Bld Z h0 bb da kd N bs) :
    MetFree l (⟨"java/lang/AbstractStringBuilder", "getValue", "()[B"⟩ : MethodName) (head1 (Jvm.Cond.code (⟨"java/lang/AbstractStringBuilder", "getValue", "()[B"⟩ : MethodName) jdk_68_method_64_code 1 (some (.array .byte)) :: ws) ({ frames := 0, cells := 0, slots := 0, locals := 0 } : Room)) (fun a U => a = #[(.ref bb)] ∧ Z.Warmed39 U.vm ∧ U.heap = h0) (fun _ _ _ _ _ => True) (fun _ U o U' => ∃ v L, o = .returned v ∧ Qv (some (.ref da)) h0 n0 v U'.heap L ∧ FrameEnd U o U' L ({ frames := 0, cells := 0, slots := 0, locals := 0 } : Room).cells ({ frames := 0, cells := 0, slots := 0, locals := 0 } : Room).slots) := by
  refine MetFree.of_bodySF (plainFor_of_name pn_java_lang_AbstractStringBuilder) hisR ?_
  intro p e s m args below meth c s₁ Bd hml0 hP hK
  obtain ⟨rfl, hZ, hh⟩ := hP
  have hx := Bd.exec
  have hby := Bd.bytes
  have hml : c.maxLocals = 1 := hml0
  have hown : s.vm.findClass "java/lang/AbstractStringBuilder" = some m.cls := findClass_of_methodNamed Bd.named
  have hnm := (name_of_methodNamed Bd.named Bd.method).1
  have X0 : Stand p l e ({ frames := 0, cells := 0, slots := 0, locals := 0 } : Room) s m #[(.ref bb)] below meth c s₁ [] 0 0 := Stand.of_body Bd
  have e0 : s₁.heap = h0 := by rw [← hh, Bd.state]; rfl
  have N0 := Fr.nil n0
  have pre0 : ∀ t, Steps p.tables e below (s₁.setTop (mkF m 0 #[.val (.ref bb)] [])) t → Steps p.tables e below (s₁.setTop (entryFrame m #[(.ref bb)] 1)) t := fun t k => castTop (ef_1_R m bb) k
  obtain ⟨Eb, Vb, Cb, Nb, Ab⟩ := id hB
  obtain ⟨T1, X1, e1, st1⟩ := getF X0 hx hZ hown (host := "") (Or.inl (hw _ (List.mem_of_getElem? (i := 33) rfl))) Via.refl e0 Vb (g := (mkF m 1 #[.val (.ref bb)] [(.ref bb)])) rfl rfl (hb hby d21_1)
  obtain ⟨fs, hr, hrun, hended, hW, hsame⟩ := X1.leave (v := some (.ref da)) (fun h => by rw [Bd.returns] at h; cases h)
  refine ⟨_, _, pre0 _ ?_, hrun, hended, _, _, rfl, ?_, ⟨_, rfl⟩, hW, hsame.mono (by decide) (by decide)⟩
  · show Steps p.tables e below (s₁.setTop (mkF m 0 #[.val (.ref bb)] [])) _
    refine XS.aloadN X0.here hx rfl (hb hby d21_0) rfl rfl ?_
    show Steps p.tables e below (s₁.setTop (mkF m 1 #[.val (.ref bb)] [(.ref bb)])) _
    refine st1 _ ?_
    show Steps p.tables e below (T1.setTop (mkF m 4 #[.val (.ref bb)] [(.ref da)])) _
    exact retOut X1 hx Bd.returns rfl (Or.inr (Or.inr (Or.inr (Or.inr ⟨rfl, rfl, rfl⟩)))) (hb hby d21_4) hr
  · exact ⟨rfl, N0, e1⟩
theorem d23_0 : decode jdk_68_method_6_code 0 = .ok (.aload_n 0, 1) := by decide +kernel
theorem d23_1 : decode jdk_68_method_6_code 1 = .ok (.getfield 79, 3) := by decide +kernel
theorem d23_4 : decode jdk_68_method_6_code 4 = .ok (.ireturn, 1) := by decide +kernel
set_option maxRecDepth 65536 in
set_option maxHeartbeats 40000000 in
theorem sb_asbLen (l : Launch) (Z : State) (a0 : Array Value) (hw : ∀ d ∈ tables_1, d.before a0 Z = true) (ws : List Jvm.Cond) (bb da : Addr) (kd : ClassId) (N : Nat) (bs : List Int32) (h0 : Heap) (n0 : Nat) (O : Old Z n0 h0) (hB : Bld Z h0 bb da kd N bs) :
    MetFree l (⟨"java/lang/AbstractStringBuilder", "length", "()I"⟩ : MethodName) (head1 (Jvm.Cond.code (⟨"java/lang/AbstractStringBuilder", "length", "()I"⟩ : MethodName) jdk_68_method_6_code 1 (some .int) :: ws) ({ frames := 0, cells := 0, slots := 0, locals := 0 } : Room)) (fun a U => a = #[(.ref bb)] ∧ Z.Warmed39 U.vm ∧ U.heap = h0) (fun _ _ _ _ _ => True) (fun _ U o U' => ∃ v L, o = .returned v ∧ Qv (some (.int (Int32.ofNat bs.length))) h0 n0 v U'.heap L ∧ FrameEnd U o U' L ({ frames := 0, cells := 0, slots := 0, locals := 0 } : Room).cells ({ frames := 0, cells := 0, slots := 0, locals := 0 } : Room).slots) := by
  refine MetFree.of_bodySF (plainFor_of_name pn_java_lang_AbstractStringBuilder) hisR ?_
  intro p e s m args below meth c s₁ Bd hml0 hP hK
  obtain ⟨rfl, hZ, hh⟩ := hP
  have hx := Bd.exec
  have hby := Bd.bytes
  have hml : c.maxLocals = 1 := hml0
  have hown : s.vm.findClass "java/lang/AbstractStringBuilder" = some m.cls := findClass_of_methodNamed Bd.named
  have hnm := (name_of_methodNamed Bd.named Bd.method).1
  have X0 : Stand p l e ({ frames := 0, cells := 0, slots := 0, locals := 0 } : Room) s m #[(.ref bb)] below meth c s₁ [] 0 0 := Stand.of_body Bd
  have e0 : s₁.heap = h0 := by rw [← hh, Bd.state]; rfl
  have N0 := Fr.nil n0
  have pre0 : ∀ t, Steps p.tables e below (s₁.setTop (mkF m 0 #[.val (.ref bb)] [])) t → Steps p.tables e below (s₁.setTop (entryFrame m #[(.ref bb)] 1)) t := fun t k => castTop (ef_1_R m bb) k
  obtain ⟨Eb, Vb, Cb, Nb, Ab⟩ := id hB
  obtain ⟨T1, X1, e1, st1⟩ := getF X0 hx hZ hown (host := "") (Or.inl (hw _ (List.mem_of_getElem? (i := 62) rfl))) Via.refl e0 Nb (g := (mkF m 1 #[.val (.ref bb)] [(.ref bb)])) rfl rfl (hb hby d23_1)
  obtain ⟨fs, hr, hrun, hended, hW, hsame⟩ := X1.leave (v := some (.int (Int32.ofNat bs.length))) (fun h => by rw [Bd.returns] at h; cases h)
  refine ⟨_, _, pre0 _ ?_, hrun, hended, _, _, rfl, ?_, ⟨_, rfl⟩, hW, hsame.mono (by decide) (by decide)⟩
  · show Steps p.tables e below (s₁.setTop (mkF m 0 #[.val (.ref bb)] [])) _
    refine XS.aloadN X0.here hx rfl (hb hby d23_0) rfl rfl ?_
    show Steps p.tables e below (s₁.setTop (mkF m 1 #[.val (.ref bb)] [(.ref bb)])) _
    refine st1 _ ?_
    show Steps p.tables e below (T1.setTop (mkF m 4 #[.val (.ref bb)] [(.int (Int32.ofNat bs.length))])) _
    exact retI X1 hx Bd.returns (hb hby d23_4) hr
  · exact ⟨rfl, N0, e1⟩
theorem d22_0 : decode jdk_67_method_93_code 0 = .ok (.aload_n 0, 1) := by decide +kernel
theorem d22_1 : decode jdk_67_method_93_code 1 = .ok (.invokespecial 343, 3) := by decide +kernel
theorem d22_4 : decode jdk_67_method_93_code 4 = .ok (.ireturn, 1) := by decide +kernel
set_option maxRecDepth 65536 in
set_option maxHeartbeats 40000000 in
theorem sb_sbLen (l : Launch) (Z : State) (a0 : Array Value) (hw : ∀ d ∈ tables_1, d.before a0 Z = true) (ws : List Jvm.Cond) (bb da : Addr) (kd : ClassId) (N : Nat) (bs : List Int32) (h0 : Heap) (n0 : Nat) (O : Old Z n0 h0) (hB : Bld Z h0 bb da kd N bs) :
    MetFree l (⟨"java/lang/StringBuilder", "length", "()I"⟩ : MethodName) (head1 (Jvm.Cond.code (⟨"java/lang/StringBuilder", "length", "()I"⟩ : MethodName) jdk_67_method_93_code 1 (some .int) :: ws) ({ frames := 1, cells := 0, slots := 0, locals := 12 } : Room)) (fun a U => a = #[(.ref bb)] ∧ Z.Warmed39 U.vm ∧ U.heap = h0) (fun _ _ _ _ _ => True) (fun _ U o U' => ∃ v L, o = .returned v ∧ Qv (some (.int (Int32.ofNat bs.length))) h0 n0 v U'.heap L ∧ FrameEnd U o U' L ({ frames := 1, cells := 0, slots := 0, locals := 12 } : Room).cells ({ frames := 1, cells := 0, slots := 0, locals := 12 } : Room).slots) := by
  refine MetFree.of_bodySF (plainFor_of_name pn_java_lang_StringBuilder) hisR ?_
  intro p e s m args below meth c s₁ Bd hml0 hP hK
  obtain ⟨rfl, hZ, hh⟩ := hP
  have hx := Bd.exec
  have hby := Bd.bytes
  have hml : c.maxLocals = 1 := hml0
  have hown : s.vm.findClass "java/lang/StringBuilder" = some m.cls := findClass_of_methodNamed Bd.named
  have hnm := (name_of_methodNamed Bd.named Bd.method).1
  have X0 : Stand p l e ({ frames := 1, cells := 0, slots := 0, locals := 12 } : Room) s m #[(.ref bb)] below meth c s₁ [] 0 0 := Stand.of_body Bd
  have e0 : s₁.heap = h0 := by rw [← hh, Bd.state]; rfl
  have N0 := Fr.nil n0
  have pre0 : ∀ t, Steps p.tables e below (s₁.setTop (mkF m 0 #[.val (.ref bb)] [])) t → Steps p.tables e below (s₁.setTop (entryFrame m #[(.ref bb)] 1)) t := fun t k => castTop (ef_1_R m bb) k
  obtain ⟨Eb, Vb, Cb, Nb, Ab⟩ := id hB
  obtain ⟨_, _, ⟨T1, L1, k1, n1⟩, -, X1, ⟨Lc1, hQ1, l1, y1, z1⟩, st1⟩ := superBack X0 hx hZ (y := (⟨"java/lang/AbstractStringBuilder", "length", "()I"⟩ : MethodName)) hown (hw _ (List.mem_of_getElem? (i := 140) rfl)) (own_same (hw _ (List.mem_of_getElem? (i := 67) rfl)) rfl (hw _ (List.mem_of_getElem? (i := 135) rfl)) (by decide)) (hw _ (List.mem_of_getElem? (i := 136) rfl)) (hw _ (List.mem_of_getElem? (i := 46) rfl)) (by decide) (backOf (W := 0) (sb_asbLen l Z a0 hw [] bb da kd N bs h0 n0 O hB) hZ (hw _ (List.mem_of_getElem? (i := 141) rfl)) (hw _ (List.mem_of_getElem? (i := 27) rfl)) (by decide) (by decide)) e0 (Ins.self Eb) (g := (mkF m 1 #[.val (.ref bb)] [(.ref bb)])) rfl (by rw [hml]; rfl) (hw _ (List.mem_of_getElem? (i := 141) rfl)) (argsL := []) (rest := []) (lenOf pd_2829I rfl) rfl (by show 2 * 0 + _ ≤ _; exact Nat.le_of_eq rfl) (hb hby d22_1) (fun _ _ => ⟨rfl, e0, (by decide : 0 + 0 ≤ _), (by decide : 0 + 0 ≤ _)⟩)
  dsimp only [Pt.U, Pt.locs, Pt.cells, Pt.slots] at X1 l1 y1 z1 st1 hQ1
  subst l1 y1 z1
  obtain ⟨rfl, N1q, e1⟩ := hQ1
  have N1 := Fr.app N0 N1q
  obtain ⟨fs, hr, hrun, hended, hW, hsame⟩ := X1.leave (v := some (.int (Int32.ofNat bs.length))) (fun h => by rw [Bd.returns] at h; cases h)
  refine ⟨_, _, pre0 _ ?_, hrun, hended, _, _, rfl, ?_, ⟨_, rfl⟩, hW, hsame.mono (by decide) (by decide)⟩
  · show Steps p.tables e below (s₁.setTop (mkF m 0 #[.val (.ref bb)] [])) _
    refine XS.aloadN X0.here hx rfl (hb hby d22_0) rfl rfl ?_
    show Steps p.tables e below (s₁.setTop (mkF m 1 #[.val (.ref bb)] [(.ref bb)])) _
    refine st1.trans ?_
    show Steps p.tables e below (T1.setTop (mkF m 4 #[.val (.ref bb)] [(.int (Int32.ofNat bs.length))])) _
    exact retI X1 hx Bd.returns (hb hby d22_4) hr
  · exact ⟨rfl, N1, e1⟩
theorem d26_0 : decode jdk_65_method_131_code 0 = .ok (.iload_n 1, 1) := by decide +kernel
theorem d26_1 : decode jdk_65_method_131_code 1 = .ok (.iload_n 0, 1) := by decide +kernel
theorem d26_2 : decode jdk_65_method_131_code 2 = .ok (.if_icmp .ge 35, 3) := by decide +kernel
theorem d26_37 : decode jdk_65_method_131_code 37 = .ok (.return_, 1) := by decide +kernel
theorem ef_2_II (m : MethodId) (x0 : Int32) (x1 : Int32) : entryFrame m #[(.int x0), (.int x1)] 2 = mkF m 0 #[.val (.int x0), .val (.int x1)] [] := by first | (simp [entryFrame, mkF, argsToLocals, Value.category]; done) | rfl
theorem pn_java_util_Arrays : plainName "java/util/Arrays" = true := by first | (simp [plainName, overriddenIn]; done) | decide +kernel
set_option maxRecDepth 65536 in
set_option maxHeartbeats 40000000 in
theorem sb_check (l : Launch) (Z : State) (a0 : Array Value) (hw : ∀ d ∈ tables_1, d.before a0 Z = true) (ws : List Jvm.Cond) (n : Nat) (h0 : Heap) (n0 : Nat) (O : Old Z n0 h0) (hn : n ≤ 1000) :
    MetFree l (⟨"java/util/Arrays", "checkLength", "(II)V"⟩ : MethodName) (head1 (Jvm.Cond.code (⟨"java/util/Arrays", "checkLength", "(II)V"⟩ : MethodName) jdk_65_method_131_code 2 none :: ws) ({ frames := 0, cells := 0, slots := 0, locals := 0 } : Room)) (fun a U => a = #[(.int (0 : Int32)), (.int (Int32.ofNat n))] ∧ Z.Warmed39 U.vm ∧ U.heap = h0) (fun _ _ _ _ _ => True) (fun _ U o U' => ∃ v L, o = .returned v ∧ Qv none h0 n0 v U'.heap L ∧ FrameEnd U o U' L ({ frames := 0, cells := 0, slots := 0, locals := 0 } : Room).cells ({ frames := 0, cells := 0, slots := 0, locals := 0 } : Room).slots) := by
  refine MetFree.of_bodySF (plainFor_of_name pn_java_util_Arrays) hisR ?_
  intro p e s m args below meth c s₁ Bd hml0 hP hK
  obtain ⟨rfl, hZ, hh⟩ := hP
  have hx := Bd.exec
  have hby := Bd.bytes
  have hml : c.maxLocals = 2 := hml0
  have hown : s.vm.findClass "java/util/Arrays" = some m.cls := findClass_of_methodNamed Bd.named
  have hnm := (name_of_methodNamed Bd.named Bd.method).1
  have X0 : Stand p l e ({ frames := 0, cells := 0, slots := 0, locals := 0 } : Room) s m #[(.int (0 : Int32)), (.int (Int32.ofNat n))] below meth c s₁ [] 0 0 := Stand.of_body Bd
  have e0 : s₁.heap = h0 := by rw [← hh, Bd.state]; rfl
  have N0 := Fr.nil n0
  have pre0 : ∀ t, Steps p.tables e below (s₁.setTop (mkF m 0 #[.val (.int (0 : Int32)), .val (.int (Int32.ofNat n))] [])) t → Steps p.tables e below (s₁.setTop (entryFrame m #[(.int (0 : Int32)), (.int (Int32.ofNat n))] 2)) t := fun t k => castTop (ef_2_II m (0 : Int32) (Int32.ofNat n)) k
  obtain ⟨fs, hr, hrun, hended, hW, hsame⟩ := X0.leave (v := none) (fun h => rfl)
  refine ⟨_, _, pre0 _ ?_, hrun, hended, _, _, rfl, ?_, ⟨_, rfl⟩, hW, hsame.mono (by decide) (by decide)⟩
  · show Steps p.tables e below (s₁.setTop (mkF m 0 #[.val (.int (0 : Int32)), .val (.int (Int32.ofNat n))] [])) _
    refine XS.iloadN X0.here hx rfl (hb hby d26_0) rfl ?_
    show Steps p.tables e below (s₁.setTop (mkF m 1 #[.val (.int (0 : Int32)), .val (.int (Int32.ofNat n))] [(.int (Int32.ofNat n))])) _
    refine XS.iloadN X0.here hx rfl (hb hby d26_1) rfl ?_
    show Steps p.tables e below (s₁.setTop (mkF m 2 #[.val (.int (0 : Int32)), .val (.int (Int32.ofNat n))] [(.int (0 : Int32)), (.int (Int32.ofNat n))])) _
    refine XS.icmpYes X0.here hx rfl (pc0 := 2) (pc' := 37) rfl (hb hby d26_2) rfl (flt (own_nn hn : ¬ ((Int32.ofNat n) < (0 : Int32)))).2.1 (by decide) (by decide) ?_
    show Steps p.tables e below (s₁.setTop (mkF m 37 #[.val (.int (0 : Int32)), .val (.int (Int32.ofNat n))] [])) _
    exact X0.returnOut hx Bd.returns (hb hby d26_37) hr
  · exact ⟨rfl, N0, e0⟩
theorem d27_0 : decode jdk_29_method_69_code 0 = .ok (.iload_n 0, 1) := by decide +kernel
theorem d27_1 : decode jdk_29_method_69_code 1 = .ok (.iload_n 1, 1) := by decide +kernel
theorem d27_2 : decode jdk_29_method_69_code 2 = .ok (.if_icmp .gt 7, 3) := by decide +kernel
theorem d27_9 : decode jdk_29_method_69_code 9 = .ok (.iload_n 1, 1) := by decide +kernel
theorem d27_10 : decode jdk_29_method_69_code 10 = .ok (.ireturn, 1) := by decide +kernel
theorem pf_27 : plainFor (⟨"java/lang/Math", "min", "(II)I"⟩ : MethodName) = true := by decide +kernel
set_option maxRecDepth 65536 in
set_option maxHeartbeats 40000000 in
theorem sb_min2 (l : Launch) (Z : State) (a0 : Array Value) (hw : ∀ d ∈ tables_1, d.before a0 Z = true) (ws : List Jvm.Cond) (n kk : Nat) (h0 : Heap) (n0 : Nat) (O : Old Z n0 h0) (hn : n ≤ 1000) (hlt : kk < n) :
    MetFree l (⟨"java/lang/Math", "min", "(II)I"⟩ : MethodName) (head1 (Jvm.Cond.code (⟨"java/lang/Math", "min", "(II)I"⟩ : MethodName) jdk_29_method_69_code 2 (some .int) :: ws) ({ frames := 0, cells := 0, slots := 0, locals := 0 } : Room)) (fun a U => a = #[(.int (Int32.ofNat n)), (.int (Int32.ofNat kk))] ∧ Z.Warmed39 U.vm ∧ U.heap = h0) (fun _ _ _ _ _ => True) (fun _ U o U' => ∃ v L, o = .returned v ∧ Qv (some (.int (Int32.ofNat kk))) h0 n0 v U'.heap L ∧ FrameEnd U o U' L ({ frames := 0, cells := 0, slots := 0, locals := 0 } : Room).cells ({ frames := 0, cells := 0, slots := 0, locals := 0 } : Room).slots) := by
  refine MetFree.of_bodySF pf_27 hisR ?_
  intro p e s m args below meth c s₁ Bd hml0 hP hK
  obtain ⟨rfl, hZ, hh⟩ := hP
  have hx := Bd.exec
  have hby := Bd.bytes
  have hml : c.maxLocals = 2 := hml0
  have hown : s.vm.findClass "java/lang/Math" = some m.cls := findClass_of_methodNamed Bd.named
  have hnm := (name_of_methodNamed Bd.named Bd.method).1
  have X0 : Stand p l e ({ frames := 0, cells := 0, slots := 0, locals := 0 } : Room) s m #[(.int (Int32.ofNat n)), (.int (Int32.ofNat kk))] below meth c s₁ [] 0 0 := Stand.of_body Bd
  have e0 : s₁.heap = h0 := by rw [← hh, Bd.state]; rfl
  have N0 := Fr.nil n0
  have pre0 : ∀ t, Steps p.tables e below (s₁.setTop (mkF m 0 #[.val (.int (Int32.ofNat n)), .val (.int (Int32.ofNat kk))] [])) t → Steps p.tables e below (s₁.setTop (entryFrame m #[(.int (Int32.ofNat n)), (.int (Int32.ofNat kk))] 2)) t := fun t k => castTop (ef_2_II m (Int32.ofNat n) (Int32.ofNat kk)) k
  obtain ⟨fs, hr, hrun, hended, hW, hsame⟩ := X0.leave (v := some (.int (Int32.ofNat kk))) (fun h => by rw [Bd.returns] at h; cases h)
  refine ⟨_, _, pre0 _ ?_, hrun, hended, _, _, rfl, ?_, ⟨_, rfl⟩, hW, hsame.mono (by decide) (by decide)⟩
  · show Steps p.tables e below (s₁.setTop (mkF m 0 #[.val (.int (Int32.ofNat n)), .val (.int (Int32.ofNat kk))] [])) _
    refine XS.iloadN X0.here hx rfl (hb hby d27_0) rfl ?_
    show Steps p.tables e below (s₁.setTop (mkF m 1 #[.val (.int (Int32.ofNat n)), .val (.int (Int32.ofNat kk))] [(.int (Int32.ofNat n))])) _
    refine XS.iloadN X0.here hx rfl (hb hby d27_1) rfl ?_
    show Steps p.tables e below (s₁.setTop (mkF m 2 #[.val (.int (Int32.ofNat n)), .val (.int (Int32.ofNat kk))] [(.int (Int32.ofNat kk)), (.int (Int32.ofNat n))])) _
    refine XS.icmpYes X0.here hx rfl (pc0 := 2) (pc' := 9) rfl (hb hby d27_2) rfl (tlt ((own_lt (by omega) hn).mpr hlt : (Int32.ofNat kk) < (Int32.ofNat n))).2.2.1 (by decide) (by decide) ?_
    show Steps p.tables e below (s₁.setTop (mkF m 9 #[.val (.int (Int32.ofNat n)), .val (.int (Int32.ofNat kk))] [])) _
    refine XS.iloadN X0.here hx rfl (hb hby d27_9) rfl ?_
    show Steps p.tables e below (s₁.setTop (mkF m 10 #[.val (.int (Int32.ofNat n)), .val (.int (Int32.ofNat kk))] [(.int (Int32.ofNat kk))])) _
    exact retI X0 hx Bd.returns (hb hby d27_10) hr
  · exact ⟨rfl, N0, e0⟩
theorem d25_0 : decode jdk_65_method_133_code 0 = .ok (.iload_n 1, 1) := by decide +kernel
theorem d25_1 : decode jdk_65_method_133_code 1 = .ok (.iload_n 2, 1) := by decide +kernel
theorem pd_28II29V : parseMethodDescriptor "(II)V" = some ⟨[.int, .int], none⟩ := by decide +kernel
theorem d25_2 : decode jdk_65_method_133_code 2 = .ok (.invokestatic 343, 3) := by decide +kernel
theorem d25_5 : decode jdk_65_method_133_code 5 = .ok (.iload_n 2, 1) := by decide +kernel
theorem d25_6 : decode jdk_65_method_133_code 6 = .ok (.iload_n 1, 1) := by decide +kernel
theorem d25_7 : decode jdk_65_method_133_code 7 = .ok (.isub, 1) := by decide +kernel
theorem d25_8 : decode jdk_65_method_133_code 8 = .ok (.istore_n 3, 1) := by decide +kernel
theorem d25_9 : decode jdk_65_method_133_code 9 = .ok (.iload_n 3, 1) := by decide +kernel
theorem d25_10 : decode jdk_65_method_133_code 10 = .ok (.newarray .byte, 2) := by decide +kernel
theorem d25_12 : decode jdk_65_method_133_code 12 = .ok (.astore 4, 2) := by decide +kernel
theorem d25_14 : decode jdk_65_method_133_code 14 = .ok (.aload_n 0, 1) := by decide +kernel
theorem d25_15 : decode jdk_65_method_133_code 15 = .ok (.iload_n 1, 1) := by decide +kernel
theorem d25_16 : decode jdk_65_method_133_code 16 = .ok (.aload 4, 2) := by decide +kernel
theorem d25_18 : decode jdk_65_method_133_code 18 = .ok (.iconst 0, 1) := by decide +kernel
theorem d25_19 : decode jdk_65_method_133_code 19 = .ok (.aload_n 0, 1) := by decide +kernel
theorem d25_20 : decode jdk_65_method_133_code 20 = .ok (.arraylength, 1) := by decide +kernel
theorem d25_21 : decode jdk_65_method_133_code 21 = .ok (.iload_n 1, 1) := by decide +kernel
theorem d25_22 : decode jdk_65_method_133_code 22 = .ok (.isub, 1) := by decide +kernel
theorem d25_23 : decode jdk_65_method_133_code 23 = .ok (.iload_n 3, 1) := by decide +kernel
theorem pd_28II29I : parseMethodDescriptor "(II)I" = some ⟨[.int, .int], some .int⟩ := by decide +kernel
theorem d25_24 : decode jdk_65_method_133_code 24 = .ok (.invokestatic 304, 3) := by decide +kernel
theorem d25_27 : decode jdk_65_method_133_code 27 = .ok (.invokestatic 150, 3) := by decide +kernel
theorem d25_30 : decode jdk_65_method_133_code 30 = .ok (.aload 4, 2) := by decide +kernel
theorem d25_32 : decode jdk_65_method_133_code 32 = .ok (.areturn, 1) := by decide +kernel
theorem ef_5_RII (m : MethodId) (x0 : Addr) (x1 : Int32) (x2 : Int32) : entryFrame m #[(.ref x0), (.int x1), (.int x2)] 5 = mkF m 0 #[.val (.ref x0), .val (.int x1), .val (.int x2), .unset, .unset] [] := by first | (simp [entryFrame, mkF, argsToLocals, Value.category]; done) | rfl
set_option maxRecDepth 65536 in
set_option maxHeartbeats 40000000 in
theorem sb_corb (l : Launch) (Z : State) (a0 : Array Value) (hw : ∀ d ∈ tables_1, d.before a0 Z = true) (ws : List Jvm.Cond) (da : Addr) (kd : ClassId) (N : Nat) (bs : List Int32) (h0 : Heap) (n0 : Nat) (O : Old Z n0 h0) (A : Arv Z h0 da kd .byte (Int32.ofNat N) (by8 bs) (.int (0 : Int32))) (hlt : bs.length < N) (hN : N ≤ 200) :
    MetFree l (⟨"java/util/Arrays", "copyOfRangeByte", "([BII)[B"⟩ : MethodName) (head1 (Jvm.Cond.code (⟨"java/util/Arrays", "copyOfRangeByte", "([BII)[B"⟩ : MethodName) jdk_65_method_133_code 5 (some (.array .byte)) :: ws) ({ frames := 1, cells := 1, slots := 200, locals := 18 } : Room)) (fun a U => a = #[(.ref da), (.int (0 : Int32)), (.int (Int32.ofNat bs.length))] ∧ Z.Warmed39 U.vm ∧ U.heap = h0) (fun _ _ _ _ _ => True) (fun _ U o U' => ∃ v L, o = .returned v ∧ Qx h0 n0 [] (fun x h => (∃ k, Arv Z h x k .byte (Int32.ofNat bs.length) (by8 bs) (.int (0 : Int32))) ∧ h0.size ≤ x) v U'.heap L ∧ FrameEnd U o U' L ({ frames := 1, cells := 1, slots := 200, locals := 18 } : Room).cells ({ frames := 1, cells := 1, slots := 200, locals := 18 } : Room).slots) := by
  refine MetFree.of_bodySF (plainFor_of_name pn_java_util_Arrays) hisR ?_
  intro p e s m args below meth c s₁ Bd hml0 hP hK
  obtain ⟨rfl, hZ, hh⟩ := hP
  have hx := Bd.exec
  have hby := Bd.bytes
  have hml : c.maxLocals = 5 := hml0
  have hown : s.vm.findClass "java/util/Arrays" = some m.cls := findClass_of_methodNamed Bd.named
  have hnm := (name_of_methodNamed Bd.named Bd.method).1
  have X0 : Stand p l e ({ frames := 1, cells := 1, slots := 200, locals := 18 } : Room) s m #[(.ref da), (.int (0 : Int32)), (.int (Int32.ofNat bs.length))] below meth c s₁ [] 0 0 := Stand.of_body Bd
  have e0 : s₁.heap = h0 := by rw [← hh, Bd.state]; rfl
  have N0 := Fr.nil n0
  have pre0 : ∀ t, Steps p.tables e below (s₁.setTop (mkF m 0 #[.val (.ref da), .val (.int (0 : Int32)), .val (.int (Int32.ofNat bs.length)), .unset, .unset] [])) t → Steps p.tables e below (s₁.setTop (entryFrame m #[(.ref da), (.int (0 : Int32)), (.int (Int32.ofNat bs.length))] 5)) t := fun t k => castTop (ef_5_RII m da (0 : Int32) (Int32.ofNat bs.length)) k
  have hN : N ≤ 1000 := by omega
  obtain ⟨_, _, ⟨T1, L1, k1, n1⟩, -, X1, ⟨Lc1, hQ1, l1, y1, z1⟩, st1⟩ := Jvm.LawKit.callS X0 hx (y := (⟨"java/util/Arrays", "checkLength", "(II)V"⟩ : MethodName)) hown (mvT hZ (hw _ (List.mem_of_getElem? (i := 150) rfl))) (mvT hZ (hw _ (List.mem_of_getElem? (i := 151) rfl))) (mvT hZ (hw _ (List.mem_of_getElem? (i := 145) rfl))) (mvT hZ (hw _ (List.mem_of_getElem? (i := 152) rfl))) (by decide) (backOf (W := 0) (sb_check l Z a0 hw [] bs.length h0 n0 O (by omega)) hZ (hw _ (List.mem_of_getElem? (i := 152) rfl)) (hw _ (List.mem_of_getElem? (i := 145) rfl)) (by decide) (by decide)) (g := (mkF m 2 #[.val (.ref da), .val (.int (0 : Int32)), .val (.int (Int32.ofNat bs.length)), .unset, .unset] [(.int (Int32.ofNat bs.length)), (.int (0 : Int32))])) rfl (by rw [hml]; rfl) (argsL := [(.int (0 : Int32)), (.int (Int32.ofNat bs.length))]) (rest := []) (lenOf pd_28II29V rfl) rfl (by show 2 * 0 + _ ≤ _; exact Nat.le_of_eq rfl) (hb hby d25_2) (fun _ _ => ⟨rfl, e0, (by decide : 0 + 0 ≤ _), (by decide : 0 + 0 ≤ _)⟩)
  dsimp only [Pt.U, Pt.locs, Pt.cells, Pt.slots] at X1 l1 y1 z1 st1 hQ1
  subst l1 y1 z1
  obtain ⟨rfl, N1q, e1⟩ := hQ1
  have N1 := Fr.app N0 N1q
  obtain ⟨T2, h2, k2, X2, e2, E2, A2, st2⟩ := newP X1 hx hZ (hw _ (List.mem_of_getElem? (i := 7) rfl)) e1 (g := (mkF m 10 #[.val (.ref da), .val (.int (0 : Int32)), .val (.int (Int32.ofNat bs.length)), .val (.int (Int32.ofNat bs.length)), .unset] [(.int (Int32.ofNat bs.length))])) rfl (hb hby d25_10) rfl (own_nn (by omega)) (cap := 200) (by rw [own_cl (by omega)]; omega) (by decide) (by decide) (by decide)
  obtain ⟨b2, g2⟩ : ∃ z, z = h0.size := ⟨_, rfl⟩
  rw [← g2] at A2 st2
  have gb2 : n0 ≤ b2 := by have q1 := O.1; have q2 := O.2.1; omega
  have gs2 : h0.size ≤ b2 := by have q := ((Keep.refl h0 [])).1; omega
  have V2 : Arv Z h2 b2 k2 .byte (Int32.ofNat bs.length) [] (.int (0 : Int32)) := Arv.new A2 (own_nn (by omega))
  have O2 : Old Z n0 h2 := O.ext E2
  have Kp2 : Keep h0 h2 [] := (Keep.refl h0 []).ext E2
  have f3 : Arv Z h2 da kd .byte (Int32.ofNat N) (by8 bs) (.int (0 : Int32)) := (A.ext E2)
  obtain ⟨c4, A4, q4, s4, n4, H4, G4⟩ := id f3
  obtain ⟨_, _, ⟨T5, L5, k5, n5⟩, -, X5, ⟨Lc5, hQ5, l5, y5, z5⟩, st5⟩ := Jvm.LawKit.callS X2 hx (y := (⟨"java/lang/Math", "min", "(II)I"⟩ : MethodName)) hown (mvT hZ (hw _ (List.mem_of_getElem? (i := 153) rfl))) (mvT hZ (hw _ (List.mem_of_getElem? (i := 154) rfl))) (mvT hZ (hw _ (List.mem_of_getElem? (i := 155) rfl))) (mvT hZ (hw _ (List.mem_of_getElem? (i := 156) rfl))) (by decide) (backOf (W := 4) (sb_min2 l Z a0 hw [] N bs.length h2 n0 O2 hN hlt) hZ (hw _ (List.mem_of_getElem? (i := 156) rfl)) (hw _ (List.mem_of_getElem? (i := 155) rfl)) (by decide) (by decide)) (g := (mkF m 24 #[.val (.ref da), .val (.int (0 : Int32)), .val (.int (Int32.ofNat bs.length)), .val (.int (Int32.ofNat bs.length)), .val (.ref b2)] [(.int (Int32.ofNat bs.length)), (.int (Int32.ofNat N)), (.int (0 : Int32)), (.ref b2), (.int (0 : Int32)), (.ref da)])) rfl (by rw [hml]; rfl) (argsL := [(.int (Int32.ofNat N)), (.int (Int32.ofNat bs.length))]) (rest := [(.int (0 : Int32)), (.ref b2), (.int (0 : Int32)), (.ref da)]) (lenOf pd_28II29I rfl) rfl (by show 2 * 0 + _ ≤ _; exact Nat.le_of_eq rfl) (hb hby d25_24) (fun _ _ => ⟨rfl, e2, (by decide : 1 + 0 ≤ _), (by decide : 200 + 0 ≤ _)⟩)
  dsimp only [Pt.U, Pt.locs, Pt.cells, Pt.slots] at X5 l5 y5 z5 st5 hQ5
  subst l5 y5 z5
  obtain ⟨rfl, N5q, e5⟩ := hQ5
  have N5 := Fr.app N1 N5q
  have Bp : Arv Z h2 b2 k2 .byte (Int32.ofNat bs.length) ([] ++ List.replicate bs.length (.int (0 : Int32))) (.int (0 : Int32)) := V2.pad (pad_rep [] (.int (0 : Int32)) bs.length)
  obtain ⟨T6, h6, L6, X6, e6, N6, K6, V6, st6⟩ := cpA X5 hx hZ hown (hw _ (List.mem_of_getElem? (i := 157) rfl)) (hw _ (List.mem_of_getElem? (i := 88) rfl)) (hw _ (List.mem_of_getElem? (i := 86) rfl)) (hw _ (List.mem_of_getElem? (i := 87) rfl)) e5 f3 Bp (Or.inl ⟨rfl, rfl⟩) (by decide) (by decide) (own_nn (by omega)) (by rw [own_cl (by omega), own_cl hN]; show 0 + bs.length ≤ N; omega) (by rw [own_cl (by omega)]; show 0 + bs.length ≤ bs.length; omega) rfl (by rw [own_cl (by omega)]; simp) N5 gb2 (g := (mkF m 27 #[.val (.ref da), .val (.int (0 : Int32)), .val (.int (Int32.ofNat bs.length)), .val (.int (Int32.ofNat bs.length)), .val (.ref b2)] [(.int (Int32.ofNat bs.length)), (.int (0 : Int32)), (.ref b2), (.int (0 : Int32)), (.ref da)])) rfl (by rw [hml]; rfl) rfl (hb hby d25_27) (by decide) (W := 0) (by show 2 * 0 + _ ≤ _; exact Nat.le_of_eq rfl) (by decide)
  have O6 : Old Z n0 h6 := O2.keep K6 (allS (P := (n0 ≤ ·)) gb2 all0)
  have Kp6 : Keep h0 h6 [] := Kp2.trans K6 (allS (P := (fun x => x ∈ [] ∨ h0.size ≤ x)) (Or.inr gs2) all0)
  have Vc : Arv Z h6 b2 k2 .byte (Int32.ofNat bs.length) (by8 bs) (.int (0 : Int32)) := by rw [own_cl (by omega), show (0 : Int32).toNatClampNeg = 0 from rfl, own_copy bs (.int (0 : Int32))] at V6; exact V6
  obtain ⟨fs, hr, hrun, hended, hW, hsame⟩ := X6.leave (v := some (.ref b2)) (fun h => by rw [Bd.returns] at h; cases h)
  refine ⟨_, _, pre0 _ ?_, hrun, hended, _, _, rfl, ?_, ⟨_, rfl⟩, hW, hsame.mono (by decide) (by decide)⟩
  · show Steps p.tables e below (s₁.setTop (mkF m 0 #[.val (.ref da), .val (.int (0 : Int32)), .val (.int (Int32.ofNat bs.length)), .unset, .unset] [])) _
    refine XS.iloadN X0.here hx rfl (hb hby d25_0) rfl ?_
    show Steps p.tables e below (s₁.setTop (mkF m 1 #[.val (.ref da), .val (.int (0 : Int32)), .val (.int (Int32.ofNat bs.length)), .unset, .unset] [(.int (0 : Int32))])) _
    refine XS.iloadN X0.here hx rfl (hb hby d25_1) rfl ?_
    show Steps p.tables e below (s₁.setTop (mkF m 2 #[.val (.ref da), .val (.int (0 : Int32)), .val (.int (Int32.ofNat bs.length)), .unset, .unset] [(.int (Int32.ofNat bs.length)), (.int (0 : Int32))])) _
    refine st1 _ ?_
    show Steps p.tables e below (T1.setTop (mkF m 5 #[.val (.ref da), .val (.int (0 : Int32)), .val (.int (Int32.ofNat bs.length)), .unset, .unset] [])) _
    refine XS.iloadN X1.here hx rfl (hb hby d25_5) rfl ?_
    show Steps p.tables e below (T1.setTop (mkF m 6 #[.val (.ref da), .val (.int (0 : Int32)), .val (.int (Int32.ofNat bs.length)), .unset, .unset] [(.int (Int32.ofNat bs.length))])) _
    refine XS.iloadN X1.here hx rfl (hb hby d25_6) rfl ?_
    show Steps p.tables e below (T1.setTop (mkF m 7 #[.val (.ref da), .val (.int (0 : Int32)), .val (.int (Int32.ofNat bs.length)), .unset, .unset] [(.int (0 : Int32)), (.int (Int32.ofNat bs.length))])) _
    refine XS.isub X1.here hx rfl (hb hby d25_7) rfl ?_
    show Steps p.tables e below (T1.setTop (mkF m 8 #[.val (.ref da), .val (.int (0 : Int32)), .val (.int (Int32.ofNat bs.length)), .unset, .unset] [(.int ((Int32.ofNat bs.length) - (0 : Int32)))])) _
    rw [own_sub0]
    show Steps p.tables e below (T1.setTop (mkF m 8 #[.val (.ref da), .val (.int (0 : Int32)), .val (.int (Int32.ofNat bs.length)), .unset, .unset] [(.int (Int32.ofNat bs.length))])) _
    refine XS.istoreN X1.here hx rfl (hb hby d25_8) rfl (l' := #[.val (.ref da), .val (.int (0 : Int32)), .val (.int (Int32.ofNat bs.length)), .val (.int (Int32.ofNat bs.length)), .unset]) rfl ?_
    show Steps p.tables e below (T1.setTop (mkF m 9 #[.val (.ref da), .val (.int (0 : Int32)), .val (.int (Int32.ofNat bs.length)), .val (.int (Int32.ofNat bs.length)), .unset] [])) _
    refine XS.iloadN X1.here hx rfl (hb hby d25_9) rfl ?_
    show Steps p.tables e below (T1.setTop (mkF m 10 #[.val (.ref da), .val (.int (0 : Int32)), .val (.int (Int32.ofNat bs.length)), .val (.int (Int32.ofNat bs.length)), .unset] [(.int (Int32.ofNat bs.length))])) _
    refine st2 _ ?_
    show Steps p.tables e below (T2.setTop (mkF m 12 #[.val (.ref da), .val (.int (0 : Int32)), .val (.int (Int32.ofNat bs.length)), .val (.int (Int32.ofNat bs.length)), .unset] [(.ref b2)])) _
    refine XS.astore X2.here hx rfl (hb hby d25_12) rfl rfl (l' := #[.val (.ref da), .val (.int (0 : Int32)), .val (.int (Int32.ofNat bs.length)), .val (.int (Int32.ofNat bs.length)), .val (.ref b2)]) rfl ?_
    show Steps p.tables e below (T2.setTop (mkF m 14 #[.val (.ref da), .val (.int (0 : Int32)), .val (.int (Int32.ofNat bs.length)), .val (.int (Int32.ofNat bs.length)), .val (.ref b2)] [])) _
    refine XS.aloadN X2.here hx rfl (hb hby d25_14) rfl rfl ?_
    show Steps p.tables e below (T2.setTop (mkF m 15 #[.val (.ref da), .val (.int (0 : Int32)), .val (.int (Int32.ofNat bs.length)), .val (.int (Int32.ofNat bs.length)), .val (.ref b2)] [(.ref da)])) _
    refine XS.iloadN X2.here hx rfl (hb hby d25_15) rfl ?_
    show Steps p.tables e below (T2.setTop (mkF m 16 #[.val (.ref da), .val (.int (0 : Int32)), .val (.int (Int32.ofNat bs.length)), .val (.int (Int32.ofNat bs.length)), .val (.ref b2)] [(.int (0 : Int32)), (.ref da)])) _
    refine XS.aload X2.here hx rfl (hb hby d25_16) rfl rfl ?_
    show Steps p.tables e below (T2.setTop (mkF m 18 #[.val (.ref da), .val (.int (0 : Int32)), .val (.int (Int32.ofNat bs.length)), .val (.int (Int32.ofNat bs.length)), .val (.ref b2)] [(.ref b2), (.int (0 : Int32)), (.ref da)])) _
    refine XS.iconst X2.here hx rfl (hb hby d25_18) ?_
    show Steps p.tables e below (T2.setTop (mkF m 19 #[.val (.ref da), .val (.int (0 : Int32)), .val (.int (Int32.ofNat bs.length)), .val (.int (Int32.ofNat bs.length)), .val (.ref b2)] [(.int (0 : Int32)), (.ref b2), (.int (0 : Int32)), (.ref da)])) _
    refine XS.aloadN X2.here hx rfl (hb hby d25_19) rfl rfl ?_
    show Steps p.tables e below (T2.setTop (mkF m 20 #[.val (.ref da), .val (.int (0 : Int32)), .val (.int (Int32.ofNat bs.length)), .val (.int (Int32.ofNat bs.length)), .val (.ref b2)] [(.ref da), (.int (0 : Int32)), (.ref b2), (.int (0 : Int32)), (.ref da)])) _
    refine X2.arraylength hx (by rw [e2]; exact A4.1) (State.isArrayOf_alike hZ.alike A4.2.1) (g := (mkF m 20 #[.val (.ref da), .val (.int (0 : Int32)), .val (.int (Int32.ofNat bs.length)), .val (.int (Int32.ofNat bs.length)), .val (.ref b2)] [(.ref da), (.int (0 : Int32)), (.ref b2), (.int (0 : Int32)), (.ref da)])) rfl rfl (hb hby d25_20) _ ?_
    rw [len_of s4 n4]
    show Steps p.tables e below (T2.setTop (mkF m 21 #[.val (.ref da), .val (.int (0 : Int32)), .val (.int (Int32.ofNat bs.length)), .val (.int (Int32.ofNat bs.length)), .val (.ref b2)] [(.int (Int32.ofNat N)), (.int (0 : Int32)), (.ref b2), (.int (0 : Int32)), (.ref da)])) _
    refine XS.iloadN X2.here hx rfl (hb hby d25_21) rfl ?_
    show Steps p.tables e below (T2.setTop (mkF m 22 #[.val (.ref da), .val (.int (0 : Int32)), .val (.int (Int32.ofNat bs.length)), .val (.int (Int32.ofNat bs.length)), .val (.ref b2)] [(.int (0 : Int32)), (.int (Int32.ofNat N)), (.int (0 : Int32)), (.ref b2), (.int (0 : Int32)), (.ref da)])) _
    refine XS.isub X2.here hx rfl (hb hby d25_22) rfl ?_
    show Steps p.tables e below (T2.setTop (mkF m 23 #[.val (.ref da), .val (.int (0 : Int32)), .val (.int (Int32.ofNat bs.length)), .val (.int (Int32.ofNat bs.length)), .val (.ref b2)] [(.int ((Int32.ofNat N) - (0 : Int32))), (.int (0 : Int32)), (.ref b2), (.int (0 : Int32)), (.ref da)])) _
    rw [own_sub0]
    show Steps p.tables e below (T2.setTop (mkF m 23 #[.val (.ref da), .val (.int (0 : Int32)), .val (.int (Int32.ofNat bs.length)), .val (.int (Int32.ofNat bs.length)), .val (.ref b2)] [(.int (Int32.ofNat N)), (.int (0 : Int32)), (.ref b2), (.int (0 : Int32)), (.ref da)])) _
    refine XS.iloadN X2.here hx rfl (hb hby d25_23) rfl ?_
    show Steps p.tables e below (T2.setTop (mkF m 24 #[.val (.ref da), .val (.int (0 : Int32)), .val (.int (Int32.ofNat bs.length)), .val (.int (Int32.ofNat bs.length)), .val (.ref b2)] [(.int (Int32.ofNat bs.length)), (.int (Int32.ofNat N)), (.int (0 : Int32)), (.ref b2), (.int (0 : Int32)), (.ref da)])) _
    refine st5 _ ?_
    show Steps p.tables e below (T5.setTop (mkF m 27 #[.val (.ref da), .val (.int (0 : Int32)), .val (.int (Int32.ofNat bs.length)), .val (.int (Int32.ofNat bs.length)), .val (.ref b2)] [(.int (Int32.ofNat bs.length)), (.int (0 : Int32)), (.ref b2), (.int (0 : Int32)), (.ref da)])) _
    refine st6 _ ?_
    show Steps p.tables e below (T6.setTop (mkF m 30 #[.val (.ref da), .val (.int (0 : Int32)), .val (.int (Int32.ofNat bs.length)), .val (.int (Int32.ofNat bs.length)), .val (.ref b2)] [])) _
    refine XS.aload X6.here hx rfl (hb hby d25_30) rfl rfl ?_
    show Steps p.tables e below (T6.setTop (mkF m 32 #[.val (.ref da), .val (.int (0 : Int32)), .val (.int (Int32.ofNat bs.length)), .val (.int (Int32.ofNat bs.length)), .val (.ref b2)] [(.ref b2)])) _
    exact retOut X6 hx Bd.returns rfl (Or.inr (Or.inr (Or.inr (Or.inr ⟨rfl, rfl, rfl⟩)))) (hb hby d25_32) hr
  · exact by show Qx h0 n0 _ _ (some (.ref b2)) T6.heap _; rw [e6]; exact ⟨_, rfl, N6, Kp6, ⟨_, Vc⟩, gs2⟩
theorem d24_0 : decode jdk_65_method_132_code 0 = .ok (.iload_n 1, 1) := by decide +kernel
theorem d24_1 : decode jdk_65_method_132_code 1 = .ok (.ifCond .ne 9, 3) := by decide +kernel
theorem d24_4 : decode jdk_65_method_132_code 4 = .ok (.iload_n 2, 1) := by decide +kernel
theorem d24_5 : decode jdk_65_method_132_code 5 = .ok (.aload_n 0, 1) := by decide +kernel
theorem d24_6 : decode jdk_65_method_132_code 6 = .ok (.arraylength, 1) := by decide +kernel
theorem d24_7 : decode jdk_65_method_132_code 7 = .ok (.if_icmp .eq 10, 3) := by decide +kernel
theorem d24_10 : decode jdk_65_method_132_code 10 = .ok (.aload_n 0, 1) := by decide +kernel
theorem d24_11 : decode jdk_65_method_132_code 11 = .ok (.iload_n 1, 1) := by decide +kernel
theorem d24_12 : decode jdk_65_method_132_code 12 = .ok (.iload_n 2, 1) := by decide +kernel
theorem pd_285bBII295bB : parseMethodDescriptor "([BII)[B" = some ⟨[(.array .byte), .int, .int], some (.array .byte)⟩ := by decide +kernel
theorem d24_13 : decode jdk_65_method_132_code 13 = .ok (.invokestatic 339, 3) := by decide +kernel
theorem d24_16 : decode jdk_65_method_132_code 16 = .ok (.areturn, 1) := by decide +kernel
theorem ef_3_RII (m : MethodId) (x0 : Addr) (x1 : Int32) (x2 : Int32) : entryFrame m #[(.ref x0), (.int x1), (.int x2)] 3 = mkF m 0 #[.val (.ref x0), .val (.int x1), .val (.int x2)] [] := by first | (simp [entryFrame, mkF, argsToLocals, Value.category]; done) | rfl
set_option maxRecDepth 65536 in
set_option maxHeartbeats 40000000 in
theorem sb_cor (l : Launch) (Z : State) (a0 : Array Value) (hw : ∀ d ∈ tables_1, d.before a0 Z = true) (ws : List Jvm.Cond) (da : Addr) (kd : ClassId) (N : Nat) (bs : List Int32) (h0 : Heap) (n0 : Nat) (O : Old Z n0 h0) (A : Arv Z h0 da kd .byte (Int32.ofNat N) (by8 bs) (.int (0 : Int32))) (hlt : bs.length < N) (hN : N ≤ 200) :
    MetFree l (⟨"java/util/Arrays", "copyOfRange", "([BII)[B"⟩ : MethodName) (head1 (Jvm.Cond.code (⟨"java/util/Arrays", "copyOfRange", "([BII)[B"⟩ : MethodName) jdk_65_method_132_code 3 (some (.array .byte)) :: ws) ({ frames := 2, cells := 1, slots := 200, locals := 34 } : Room)) (fun a U => a = #[(.ref da), (.int (0 : Int32)), (.int (Int32.ofNat bs.length))] ∧ Z.Warmed39 U.vm ∧ U.heap = h0) (fun _ _ _ _ _ => True) (fun _ U o U' => ∃ v L, o = .returned v ∧ Qx h0 n0 [] (fun x h => (∃ k, Arv Z h x k .byte (Int32.ofNat bs.length) (by8 bs) (.int (0 : Int32))) ∧ h0.size ≤ x) v U'.heap L ∧ FrameEnd U o U' L ({ frames := 2, cells := 1, slots := 200, locals := 34 } : Room).cells ({ frames := 2, cells := 1, slots := 200, locals := 34 } : Room).slots) := by
  refine MetFree.of_bodySF (plainFor_of_name pn_java_util_Arrays) hisR ?_
  intro p e s m args below meth c s₁ Bd hml0 hP hK
  obtain ⟨rfl, hZ, hh⟩ := hP
  have hx := Bd.exec
  have hby := Bd.bytes
  have hml : c.maxLocals = 3 := hml0
  have hown : s.vm.findClass "java/util/Arrays" = some m.cls := findClass_of_methodNamed Bd.named
  have hnm := (name_of_methodNamed Bd.named Bd.method).1
  have X0 : Stand p l e ({ frames := 2, cells := 1, slots := 200, locals := 34 } : Room) s m #[(.ref da), (.int (0 : Int32)), (.int (Int32.ofNat bs.length))] below meth c s₁ [] 0 0 := Stand.of_body Bd
  have e0 : s₁.heap = h0 := by rw [← hh, Bd.state]; rfl
  have N0 := Fr.nil n0
  have pre0 : ∀ t, Steps p.tables e below (s₁.setTop (mkF m 0 #[.val (.ref da), .val (.int (0 : Int32)), .val (.int (Int32.ofNat bs.length))] [])) t → Steps p.tables e below (s₁.setTop (entryFrame m #[(.ref da), (.int (0 : Int32)), (.int (Int32.ofNat bs.length))] 3)) t := fun t k => castTop (ef_3_RII m da (0 : Int32) (Int32.ofNat bs.length)) k
  obtain ⟨c1, A1, q1, s1, n1, H1, G1⟩ := id A
  obtain ⟨_, _, ⟨T2, L2, k2, n2⟩, -, X2, ⟨Lc2, hQ2, l2, y2, z2⟩, st2⟩ := Jvm.LawKit.callS X0 hx (y := (⟨"java/util/Arrays", "copyOfRangeByte", "([BII)[B"⟩ : MethodName)) hown (mvT hZ (hw _ (List.mem_of_getElem? (i := 147) rfl))) (mvT hZ (hw _ (List.mem_of_getElem? (i := 148) rfl))) (mvT hZ (hw _ (List.mem_of_getElem? (i := 145) rfl))) (mvT hZ (hw _ (List.mem_of_getElem? (i := 149) rfl))) (by decide) (backOf (W := 0) (sb_corb l Z a0 hw [] da kd N bs h0 n0 O A hlt hN) hZ (hw _ (List.mem_of_getElem? (i := 149) rfl)) (hw _ (List.mem_of_getElem? (i := 145) rfl)) (by decide) (by decide)) (g := (mkF m 13 #[.val (.ref da), .val (.int (0 : Int32)), .val (.int (Int32.ofNat bs.length))] [(.int (Int32.ofNat bs.length)), (.int (0 : Int32)), (.ref da)])) rfl (by rw [hml]; rfl) (argsL := [(.ref da), (.int (0 : Int32)), (.int (Int32.ofNat bs.length))]) (rest := []) (lenOf pd_285bBII295bB rfl) rfl (by show 2 * 0 + _ ≤ _; exact Nat.le_of_eq rfl) (hb hby d24_13) (fun _ _ => ⟨rfl, e0, (by decide : 0 + 1 ≤ _), (by decide : 0 + 200 ≤ _)⟩)
  dsimp only [Pt.U, Pt.locs, Pt.cells, Pt.slots] at X2 l2 y2 z2 st2 hQ2
  subst l2 y2 z2
  obtain ⟨xa, rfl, N2q, K2, ⟨k2x, V2⟩, gs2⟩ := hQ2
  have N2 := Fr.app N0 N2q
  have gb2 : n0 ≤ xa := by have q1 := O.1; have q2 := O.2.1; omega
  have gz2 : h0.size ≤ xa := by have q := ((Keep.refl h0 [])).1; omega
  have O2 : Old Z n0 T2.heap := O.keep K2 all0
  have Kp2 : Keep h0 T2.heap [] := (Keep.refl h0 []).trans K2 all0
  obtain ⟨fs, hr, hrun, hended, hW, hsame⟩ := X2.leave (v := some (.ref xa)) (fun h => by rw [Bd.returns] at h; cases h)
  refine ⟨_, _, pre0 _ ?_, hrun, hended, _, _, rfl, ?_, ⟨_, rfl⟩, hW, hsame.mono (by decide) (by decide)⟩
  · show Steps p.tables e below (s₁.setTop (mkF m 0 #[.val (.ref da), .val (.int (0 : Int32)), .val (.int (Int32.ofNat bs.length))] [])) _
    refine XS.iloadN X0.here hx rfl (hb hby d24_0) rfl ?_
    show Steps p.tables e below (s₁.setTop (mkF m 1 #[.val (.ref da), .val (.int (0 : Int32)), .val (.int (Int32.ofNat bs.length))] [(.int (0 : Int32))])) _
    refine XS.ifNo X0.here hx rfl (hb hby d24_1) rfl ((if0 _ _).trans (teq ((by decide) : (0 : Int32) = (0 : Int32))).2) ?_
    show Steps p.tables e below (s₁.setTop (mkF m 4 #[.val (.ref da), .val (.int (0 : Int32)), .val (.int (Int32.ofNat bs.length))] [])) _
    refine XS.iloadN X0.here hx rfl (hb hby d24_4) rfl ?_
    show Steps p.tables e below (s₁.setTop (mkF m 5 #[.val (.ref da), .val (.int (0 : Int32)), .val (.int (Int32.ofNat bs.length))] [(.int (Int32.ofNat bs.length))])) _
    refine XS.aloadN X0.here hx rfl (hb hby d24_5) rfl rfl ?_
    show Steps p.tables e below (s₁.setTop (mkF m 6 #[.val (.ref da), .val (.int (0 : Int32)), .val (.int (Int32.ofNat bs.length))] [(.ref da), (.int (Int32.ofNat bs.length))])) _
    refine X0.arraylength hx (by rw [e0]; exact A1.1) (State.isArrayOf_alike hZ.alike A1.2.1) (g := (mkF m 6 #[.val (.ref da), .val (.int (0 : Int32)), .val (.int (Int32.ofNat bs.length))] [(.ref da), (.int (Int32.ofNat bs.length))])) rfl rfl (hb hby d24_6) _ ?_
    rw [len_of s1 n1]
    show Steps p.tables e below (s₁.setTop (mkF m 7 #[.val (.ref da), .val (.int (0 : Int32)), .val (.int (Int32.ofNat bs.length))] [(.int (Int32.ofNat N)), (.int (Int32.ofNat bs.length))])) _
    refine XS.icmpNo X0.here hx rfl (hb hby d24_7) rfl (feq ((fun q => by have := congrArg Int32.toInt q; rw [own_ti (by omega), own_ti (by omega)] at this; omega) : ¬ ((Int32.ofNat bs.length) = (Int32.ofNat N)))).1 ?_
    show Steps p.tables e below (s₁.setTop (mkF m 10 #[.val (.ref da), .val (.int (0 : Int32)), .val (.int (Int32.ofNat bs.length))] [])) _
    refine XS.aloadN X0.here hx rfl (hb hby d24_10) rfl rfl ?_
    show Steps p.tables e below (s₁.setTop (mkF m 11 #[.val (.ref da), .val (.int (0 : Int32)), .val (.int (Int32.ofNat bs.length))] [(.ref da)])) _
    refine XS.iloadN X0.here hx rfl (hb hby d24_11) rfl ?_
    show Steps p.tables e below (s₁.setTop (mkF m 12 #[.val (.ref da), .val (.int (0 : Int32)), .val (.int (Int32.ofNat bs.length))] [(.int (0 : Int32)), (.ref da)])) _
    refine XS.iloadN X0.here hx rfl (hb hby d24_12) rfl ?_
    show Steps p.tables e below (s₁.setTop (mkF m 13 #[.val (.ref da), .val (.int (0 : Int32)), .val (.int (Int32.ofNat bs.length))] [(.int (Int32.ofNat bs.length)), (.int (0 : Int32)), (.ref da)])) _
    refine st2 _ ?_
    show Steps p.tables e below (T2.setTop (mkF m 16 #[.val (.ref da), .val (.int (0 : Int32)), .val (.int (Int32.ofNat bs.length))] [(.ref xa)])) _
    exact retOut X2 hx Bd.returns rfl (Or.inr (Or.inr (Or.inr (Or.inr ⟨rfl, rfl, rfl⟩)))) (hb hby d24_16) hr
  · exact by show Qx h0 n0 _ _ (some (.ref xa)) T2.heap _; exact ⟨_, rfl, N2, Kp2, ⟨_, V2⟩, gz2⟩
theorem d20_0 : decode jdk_42_method_150_code 0 = .ok (.aload_n 0, 1) := by decide +kernel
theorem d20_1 : decode jdk_42_method_150_code 1 = .ok (.invokespecial 1, 3) := by decide +kernel
theorem d20_4 : decode jdk_42_method_150_code 4 = .ok (.aload_n 1, 1) := by decide +kernel
theorem pd_28295bB : parseMethodDescriptor "()[B" = some ⟨[], some (.array .byte)⟩ := by decide +kernel
theorem d20_5 : decode jdk_42_method_150_code 5 = .ok (.invokevirtual 552, 3) := by decide +kernel
theorem d20_8 : decode jdk_42_method_150_code 8 = .ok (.astore_n 3, 1) := by decide +kernel
theorem d20_9 : decode jdk_42_method_150_code 9 = .ok (.aload_n 1, 1) := by decide +kernel
theorem d20_10 : decode jdk_42_method_150_code 10 = .ok (.invokevirtual 549, 3) := by decide +kernel
theorem d20_13 : decode jdk_42_method_150_code 13 = .ok (.istore 4, 2) := by decide +kernel
theorem d20_15 : decode jdk_42_method_150_code 15 = .ok (.aload_n 1, 1) := by decide +kernel
theorem d20_16 : decode jdk_42_method_150_code 16 = .ok (.invokevirtual 1047, 3) := by decide +kernel
theorem d20_19 : decode jdk_42_method_150_code 19 = .ok (.ifCond .eq 22, 3) := by decide +kernel
theorem d20_22 : decode jdk_42_method_150_code 22 = .ok (.aload_n 0, 1) := by decide +kernel
theorem d20_23 : decode jdk_42_method_150_code 23 = .ok (.iconst 0, 1) := by decide +kernel
theorem d20_24 : decode jdk_42_method_150_code 24 = .ok (.putfield 15, 3) := by decide +kernel
theorem d20_27 : decode jdk_42_method_150_code 27 = .ok (.aload_n 0, 1) := by decide +kernel
theorem d20_28 : decode jdk_42_method_150_code 28 = .ok (.aload_n 3, 1) := by decide +kernel
theorem d20_29 : decode jdk_42_method_150_code 29 = .ok (.iconst 0, 1) := by decide +kernel
theorem d20_30 : decode jdk_42_method_150_code 30 = .ok (.iload 4, 2) := by decide +kernel
theorem d20_32 : decode jdk_42_method_150_code 32 = .ok (.invokestatic 54, 3) := by decide +kernel
theorem d20_35 : decode jdk_42_method_150_code 35 = .ok (.putfield 9, 3) := by decide +kernel
theorem d20_38 : decode jdk_42_method_150_code 38 = .ok (.goto 59, 3) := by decide +kernel
theorem d20_97 : decode jdk_42_method_150_code 97 = .ok (.return_, 1) := by decide +kernel
theorem ef_5_RRN (m : MethodId) (x0 : Addr) (x1 : Addr) : entryFrame m #[(.ref x0), (.ref x1), .null] 5 = mkF m 0 #[.val (.ref x0), .val (.ref x1), .val .null, .unset, .unset] [] := by first | (simp [entryFrame, mkF, argsToLocals, Value.category]; done) | rfl
set_option maxRecDepth 65536 in
set_option maxHeartbeats 40000000 in
theorem sb_strInit (l : Launch) (Z : State) (a0 : Array Value) (hw : ∀ d ∈ tables_1, d.before a0 Z = true) (ws : List Jvm.Cond) (zc : Int32) (sa : Addr) (bb da : Addr) (kd : ClassId) (N : Nat) (bs : List Int32) (h0 : Heap) (n0 : Nat) (O : Old Z n0 h0) (hE : EnvS Z zc) (hB : Bld Z h0 bb da kd N bs) (E : Exa Z h0 sa "java/lang/String") (F : Fld Z h0 sa "java/lang/String" "value" "[B" .null) (C : Fld Z h0 sa "java/lang/String" "coder" "B" (.int (0 : Int32))) (hlt : bs.length < N) (hN : N ≤ 200) (gs : n0 ≤ sa) :
    MetFree l (⟨"java/lang/String", "<init>", "(Ljava/lang/AbstractStringBuilder;Ljava/lang/Void;)V"⟩ : MethodName) (head1 (Jvm.Cond.code (⟨"java/lang/String", "<init>", "(Ljava/lang/AbstractStringBuilder;Ljava/lang/Void;)V"⟩ : MethodName) jdk_42_method_150_code 5 none :: ws) ({ frames := 3, cells := 1, slots := 200, locals := 49 } : Room)) (fun a U => a = #[(.ref sa), (.ref bb), .null] ∧ Z.Warmed39 U.vm ∧ U.heap = h0) (fun _ _ _ _ _ => True) (fun _ U o U' => ∃ v L, o = .returned v ∧ Qh none h0 n0 [sa] (fun h => ∃ t k, Str Z h sa t k bs ∧ h0.size ≤ t) v U'.heap L ∧ FrameEnd U o U' L ({ frames := 3, cells := 1, slots := 200, locals := 49 } : Room).cells ({ frames := 3, cells := 1, slots := 200, locals := 49 } : Room).slots) := by
  refine MetFree.of_bodySF (plainFor_of_name pn_java_lang_String) hisR ?_
  intro p e s m args below meth c s₁ Bd hml0 hP hK
  obtain ⟨rfl, hZ, hh⟩ := hP
  have hx := Bd.exec
  have hby := Bd.bytes
  have hml : c.maxLocals = 5 := hml0
  have hown : s.vm.findClass "java/lang/String" = some m.cls := findClass_of_methodNamed Bd.named
  have hnm := (name_of_methodNamed Bd.named Bd.method).1
  have X0 : Stand p l e ({ frames := 3, cells := 1, slots := 200, locals := 49 } : Room) s m #[(.ref sa), (.ref bb), .null] below meth c s₁ [] 0 0 := Stand.of_body Bd
  have e0 : s₁.heap = h0 := by rw [← hh, Bd.state]; rfl
  have N0 := Fr.nil n0
  have pre0 : ∀ t, Steps p.tables e below (s₁.setTop (mkF m 0 #[.val (.ref sa), .val (.ref bb), .val .null, .unset, .unset] [])) t → Steps p.tables e below (s₁.setTop (entryFrame m #[(.ref sa), (.ref bb), .null] 5)) t := fun t k => castTop (ef_5_RRN m sa bb) k
  obtain ⟨Scmp, hzc⟩ := id hE
  obtain ⟨Eb, Vb, Cb, Nb, Ab⟩ := id hB
  obtain ⟨T1, X1, e1, st1⟩ := initO X0 hx hZ hown (hw _ (List.mem_of_getElem? (i := 128) rfl)) (hw _ (List.mem_of_getElem? (i := 30) rfl)) (hw _ (List.mem_of_getElem? (i := 31) rfl)) e0 (g := (mkF m 1 #[.val (.ref sa), .val (.ref bb), .val .null, .unset, .unset] [(.ref sa)])) rfl (by rw [hml]; rfl) rfl (hb hby d20_1) (by decide) (W := 0) (by show 2 * 0 + _ ≤ _; exact Nat.le_of_eq rfl) (by decide)
  obtain ⟨cq2, kq2, q2a, q2b, q2c⟩ := isOf hZ e1 Eb
  obtain ⟨_, _, ⟨T2, L2, k2, n2⟩, -, X2, ⟨Lc2, hQ2, l2, y2, z2⟩, st2⟩ := X1.virtualBack hx (y := (⟨"java/lang/AbstractStringBuilder", "getValue", "()[B"⟩ : MethodName)) (z := (⟨"java/lang/AbstractStringBuilder", "getValue", "()[B"⟩ : MethodName)) hown (mvT hZ (hw _ (List.mem_of_getElem? (i := 129) rfl))) (mvT hZ (hw _ (List.mem_of_getElem? (i := 130) rfl))) (notFace_of_selects (args := #[]) (mvT hZ (hw _ (List.mem_of_getElem? (i := 132) rfl)))) (mvT hZ (hw _ (List.mem_of_getElem? (i := 132) rfl))) (mvT hZ (hw _ (List.mem_of_getElem? (i := 131) rfl))) (by decide) (backOf (W := 0) (sb_getValue l Z a0 hw [] bb da kd N bs h0 n0 O ⟨Eb, Vb, Cb, Nb, Ab⟩) hZ (hw _ (List.mem_of_getElem? (i := 133) rfl)) (hw _ (List.mem_of_getElem? (i := 27) rfl)) (by decide) (by decide)) q2a q2c (g := (mkF m 5 #[.val (.ref sa), .val (.ref bb), .val .null, .unset, .unset] [(.ref bb)])) rfl (by rw [hml]; rfl) (Steps.refl _) (argsL := []) (rest := []) (lenOf pd_28295bB rfl) rfl (by show 2 * 0 + _ ≤ _; exact Nat.le_of_eq rfl) (hb hby d20_5) (fun _ _ => ⟨rfl, e1, (by decide : 0 + 0 ≤ _), (by decide : 0 + 0 ≤ _)⟩)
  dsimp only [Pt.U, Pt.locs, Pt.cells, Pt.slots] at X2 l2 y2 z2 st2 hQ2
  subst l2 y2 z2
  obtain ⟨rfl, N2q, e2⟩ := hQ2
  have N2 := Fr.app N0 N2q
  obtain ⟨cq3, kq3, q3a, q3b, q3c⟩ := isOf hZ e2 Eb
  obtain ⟨_, _, ⟨T3, L3, k3, n3⟩, -, X3, ⟨Lc3, hQ3, l3, y3, z3⟩, st3⟩ := X2.virtualBack hx (y := (⟨"java/lang/AbstractStringBuilder", "length", "()I"⟩ : MethodName)) (z := (⟨"java/lang/StringBuilder", "length", "()I"⟩ : MethodName)) hown (mvT hZ (hw _ (List.mem_of_getElem? (i := 134) rfl))) (mvT hZ (hw _ (List.mem_of_getElem? (i := 135) rfl))) (own_nf (args := #[]) (mvT hZ (hw _ (List.mem_of_getElem? (i := 67) rfl))) rfl) (mvT hZ (hw _ (List.mem_of_getElem? (i := 137) rfl))) (mvT hZ (hw _ (List.mem_of_getElem? (i := 138) rfl))) (by decide) (backOf (W := 0) (sb_sbLen l Z a0 hw [] bb da kd N bs h0 n0 O ⟨Eb, Vb, Cb, Nb, Ab⟩) hZ (hw _ (List.mem_of_getElem? (i := 139) rfl)) (hw _ (List.mem_of_getElem? (i := 19) rfl)) (by decide) (by decide)) q3a q3c (g := (mkF m 10 #[.val (.ref sa), .val (.ref bb), .val .null, .val (.ref da), .unset] [(.ref bb)])) rfl (by rw [hml]; rfl) (Steps.refl _) (argsL := []) (rest := []) (lenOf pd_2829I rfl) rfl (by show 2 * 0 + _ ≤ _; exact Nat.le_of_eq rfl) (hb hby d20_10) (fun _ _ => ⟨rfl, e2, (by decide : 0 + 0 ≤ _), (by decide : 0 + 0 ≤ _)⟩)
  dsimp only [Pt.U, Pt.locs, Pt.cells, Pt.slots] at X3 l3 y3 z3 st3 hQ3
  subst l3 y3 z3
  obtain ⟨rfl, N3q, e3⟩ := hQ3
  have N3 := Fr.app N2 N3q
  obtain ⟨cq4, kq4, q4a, q4b, q4c⟩ := isOf hZ e3 Eb
  obtain ⟨_, _, ⟨T4, L4, k4, n4⟩, -, X4, ⟨Lc4, hQ4, l4, y4, z4⟩, st4⟩ := X3.virtualBack hx (y := (⟨"java/lang/AbstractStringBuilder", "isLatin1", "()Z"⟩ : MethodName)) (z := (⟨"java/lang/AbstractStringBuilder", "isLatin1", "()Z"⟩ : MethodName)) hown (mvT hZ (hw _ (List.mem_of_getElem? (i := 142) rfl))) (mvT hZ (hw _ (List.mem_of_getElem? (i := 106) rfl))) (notFace_of_selects (args := #[]) (mvT hZ (hw _ (List.mem_of_getElem? (i := 108) rfl)))) (mvT hZ (hw _ (List.mem_of_getElem? (i := 108) rfl))) (mvT hZ (hw _ (List.mem_of_getElem? (i := 107) rfl))) (by decide) (backOf (W := 0) (sb_isLatin1 l Z a0 hw [] zc bb h0 n0 O hE Cb) hZ (hw _ (List.mem_of_getElem? (i := 109) rfl)) (hw _ (List.mem_of_getElem? (i := 27) rfl)) (by decide) (by decide)) q4a q4c (g := (mkF m 16 #[.val (.ref sa), .val (.ref bb), .val .null, .val (.ref da), .val (.int (Int32.ofNat bs.length))] [(.ref bb)])) rfl (by rw [hml]; rfl) (Steps.refl _) (argsL := []) (rest := []) (lenOf pd_2829Z rfl) rfl (by show 2 * 0 + _ ≤ _; exact Nat.le_of_eq rfl) (hb hby d20_16) (fun _ _ => ⟨rfl, e3, (by decide : 0 + 0 ≤ _), (by decide : 0 + 0 ≤ _)⟩)
  dsimp only [Pt.U, Pt.locs, Pt.cells, Pt.slots] at X4 l4 y4 z4 st4 hQ4
  subst l4 y4 z4
  obtain ⟨rfl, N4q, e4⟩ := hQ4
  have N4 := Fr.app N3 N4q
  obtain ⟨T5, h5, X5, e5, W5, st5⟩ := putFN X4 hx hZ hown (hw _ (List.mem_of_getElem? (i := 61) rfl)) Via.refl e4 C E (Or.inr ⟨(hw _ (List.mem_of_getElem? (i := 9) rfl)), rfl, hnm⟩) (hw _ (List.mem_of_getElem? (i := 6) rfl)) (ty := .byte) (v' := (.int (0 : Int32))) (by decide) rfl (by decide) (g := (mkF m 24 #[.val (.ref sa), .val (.ref bb), .val .null, .val (.ref da), .val (.int (Int32.ofNat bs.length))] [(.int (0 : Int32)), (.ref sa)])) rfl rfl (hb hby d20_24)
  have N5 := Fr.snoc X5 N4 gs
  have O5 : Old Z n0 h5 := O.wr W5 gs
  have Kp5 : Keep h0 h5 [sa] := (Keep.refl h0 [sa]).wr W5 (Or.inl (by simp))
  have Fw5 : Fld Z h5 sa "java/lang/String" "coder" "B" (.int (0 : Int32)) := C.same W5
  have f6 : Arv Z h5 da kd .byte (Int32.ofNat N) (by8 bs) (.int (0 : Int32)) := (Ab.other W5 (Ne.symm (Exa.neArv E Ab (hw _ (List.mem_of_getElem? (i := 6) rfl)))))
  obtain ⟨_, _, ⟨T7, L7, k7, n7⟩, -, X7, ⟨Lc7, hQ7, l7, y7, z7⟩, st7⟩ := Jvm.LawKit.callS X5 hx (y := (⟨"java/util/Arrays", "copyOfRange", "([BII)[B"⟩ : MethodName)) hown (mvT hZ (hw _ (List.mem_of_getElem? (i := 143) rfl))) (mvT hZ (hw _ (List.mem_of_getElem? (i := 144) rfl))) (mvT hZ (hw _ (List.mem_of_getElem? (i := 145) rfl))) (mvT hZ (hw _ (List.mem_of_getElem? (i := 146) rfl))) (by decide) (backOf (W := 1) (sb_cor l Z a0 hw [] da kd N bs h5 n0 O5 f6 hlt hN) hZ (hw _ (List.mem_of_getElem? (i := 146) rfl)) (hw _ (List.mem_of_getElem? (i := 145) rfl)) (by decide) (by decide)) (g := (mkF m 32 #[.val (.ref sa), .val (.ref bb), .val .null, .val (.ref da), .val (.int (Int32.ofNat bs.length))] [(.int (Int32.ofNat bs.length)), (.int (0 : Int32)), (.ref da), (.ref sa)])) rfl (by rw [hml]; rfl) (argsL := [(.ref da), (.int (0 : Int32)), (.int (Int32.ofNat bs.length))]) (rest := [(.ref sa)]) (lenOf pd_285bBII295bB rfl) rfl (by show 2 * 0 + _ ≤ _; exact Nat.le_of_eq rfl) (hb hby d20_32) (fun _ _ => ⟨rfl, e5, (by decide : 0 + 1 ≤ _), (by decide : 0 + 200 ≤ _)⟩)
  dsimp only [Pt.U, Pt.locs, Pt.cells, Pt.slots] at X7 l7 y7 z7 st7 hQ7
  subst l7 y7 z7
  have f8 : Exa Z h5 bb "java/lang/StringBuilder" := (Eb.wr W5)
  have f9 : Fld Z h5 bb "java/lang/AbstractStringBuilder" "value" "[B" (.ref da) := (Vb.other W5 (Or.inl (Ne.symm (Exa.ne E Eb (by decide)))))
  have f10 : Fld Z h5 bb "java/lang/AbstractStringBuilder" "coder" "B" (.int (0 : Int32)) := (Cb.other W5 (Or.inl (Ne.symm (Exa.ne E Eb (by decide)))))
  have f11 : Fld Z h5 bb "java/lang/AbstractStringBuilder" "count" "I" (.int (Int32.ofNat bs.length)) := (Nb.other W5 (Or.inl (Ne.symm (Exa.ne E Eb (by decide)))))
  have f12 : Exa Z h5 sa "java/lang/String" := (E.wr W5)
  have f13 : Fld Z h5 sa "java/lang/String" "value" "[B" .null := (F.other W5 (Or.inr (slot_ne (Or.inr (hw _ (List.mem_of_getElem? (i := 8) rfl))) (Or.inr (hw _ (List.mem_of_getElem? (i := 9) rfl))) (by decide) (t := (.array .byte)) (t' := .byte) (by decide) (by decide))))
  obtain ⟨xa, rfl, N7q, K7, ⟨k7x, V7⟩, gs7⟩ := hQ7
  have N7 := Fr.app N5 N7q
  have gb7 : n0 ≤ xa := by have q1 := O5.1; have q2 := O5.2.1; omega
  have gz7 : h0.size ≤ xa := by have q := (Kp5).1; omega
  have O7 : Old Z n0 T7.heap := O5.keep K7 all0
  have Kp7 : Keep h0 T7.heap [sa] := Kp5.trans K7 all0
  have f14 : Exa Z T7.heap sa "java/lang/String" := (f12.keep K7)
  have f15 : Fld Z T7.heap sa "java/lang/String" "value" "[B" .null := (f13.keep K7 nin0)
  obtain ⟨T16, h16, X16, e16, W16, st16⟩ := putF X7 hx hZ hown (host := "") (Or.inl (hw _ (List.mem_of_getElem? (i := 54) rfl))) Via.refl rfl f15 f14 (Or.inr ⟨(hw _ (List.mem_of_getElem? (i := 8) rfl)), rfl, hnm⟩) (hw _ (List.mem_of_getElem? (i := 6) rfl)) (ty := (.array .byte)) (by decide) rfl rfl (g := (mkF m 35 #[.val (.ref sa), .val (.ref bb), .val .null, .val (.ref da), .val (.int (Int32.ofNat bs.length))] [(.ref xa), (.ref sa)])) rfl rfl (hb hby d20_35)
  have N16 := Fr.snoc X16 N7 gs
  have O16 : Old Z n0 h16 := O7.wr W16 gs
  have Kp16 : Keep h0 h16 [sa] := Kp7.wr W16 (Or.inl (by simp))
  have Fw16 : Fld Z h16 sa "java/lang/String" "value" "[B" (.ref xa) := f15.same W16
  have f17 : Exa Z h16 sa "java/lang/String" := (f14.wr W16)
  have f18 : Fld Z h16 sa "java/lang/String" "coder" "B" (.int (0 : Int32)) := ((Fw5.keep K7 nin0).other W16 (Or.inr (slot_ne (Or.inr (hw _ (List.mem_of_getElem? (i := 9) rfl))) (Or.inr (hw _ (List.mem_of_getElem? (i := 8) rfl))) (by decide) (t := .byte) (t' := (.array .byte)) (by decide) (by decide))))
  have f19 : Arv Z h16 xa k7x .byte (Int32.ofNat bs.length) (by8 bs) (.int (0 : Int32)) := (V7.other W16 (Ne.symm (Nat.ne_of_lt (Nat.lt_of_lt_of_le Fw5.lt gs7))))
  obtain ⟨fs, hr, hrun, hended, hW, hsame⟩ := X16.leave (v := none) (fun h => rfl)
  refine ⟨_, _, pre0 _ ?_, hrun, hended, _, _, rfl, ?_, ⟨_, rfl⟩, hW, hsame.mono (by decide) (by decide)⟩
  · show Steps p.tables e below (s₁.setTop (mkF m 0 #[.val (.ref sa), .val (.ref bb), .val .null, .unset, .unset] [])) _
    refine XS.aloadN X0.here hx rfl (hb hby d20_0) rfl rfl ?_
    show Steps p.tables e below (s₁.setTop (mkF m 1 #[.val (.ref sa), .val (.ref bb), .val .null, .unset, .unset] [(.ref sa)])) _
    refine st1 _ ?_
    show Steps p.tables e below (T1.setTop (mkF m 4 #[.val (.ref sa), .val (.ref bb), .val .null, .unset, .unset] [])) _
    refine XS.aloadN X1.here hx rfl (hb hby d20_4) rfl rfl ?_
    show Steps p.tables e below (T1.setTop (mkF m 5 #[.val (.ref sa), .val (.ref bb), .val .null, .unset, .unset] [(.ref bb)])) _
    refine st2.trans ?_
    show Steps p.tables e below (T2.setTop (mkF m 8 #[.val (.ref sa), .val (.ref bb), .val .null, .unset, .unset] [(.ref da)])) _
    refine XS.astoreN X2.here hx rfl (hb hby d20_8) rfl rfl (l' := #[.val (.ref sa), .val (.ref bb), .val .null, .val (.ref da), .unset]) rfl ?_
    show Steps p.tables e below (T2.setTop (mkF m 9 #[.val (.ref sa), .val (.ref bb), .val .null, .val (.ref da), .unset] [])) _
    refine XS.aloadN X2.here hx rfl (hb hby d20_9) rfl rfl ?_
    show Steps p.tables e below (T2.setTop (mkF m 10 #[.val (.ref sa), .val (.ref bb), .val .null, .val (.ref da), .unset] [(.ref bb)])) _
    refine st3.trans ?_
    show Steps p.tables e below (T3.setTop (mkF m 13 #[.val (.ref sa), .val (.ref bb), .val .null, .val (.ref da), .unset] [(.int (Int32.ofNat bs.length))])) _
    refine XS.istore X3.here hx rfl (hb hby d20_13) rfl (l' := #[.val (.ref sa), .val (.ref bb), .val .null, .val (.ref da), .val (.int (Int32.ofNat bs.length))]) rfl ?_
    show Steps p.tables e below (T3.setTop (mkF m 15 #[.val (.ref sa), .val (.ref bb), .val .null, .val (.ref da), .val (.int (Int32.ofNat bs.length))] [])) _
    refine XS.aloadN X3.here hx rfl (hb hby d20_15) rfl rfl ?_
    show Steps p.tables e below (T3.setTop (mkF m 16 #[.val (.ref sa), .val (.ref bb), .val .null, .val (.ref da), .val (.int (Int32.ofNat bs.length))] [(.ref bb)])) _
    refine st4.trans ?_
    show Steps p.tables e below (T4.setTop (mkF m 19 #[.val (.ref sa), .val (.ref bb), .val .null, .val (.ref da), .val (.int (Int32.ofNat bs.length))] [(.int (1 : Int32))])) _
    refine XS.ifNo X4.here hx rfl (hb hby d20_19) rfl ((if0 _ _).trans (feq ((by decide) : ¬ ((1 : Int32) = (0 : Int32)))).1) ?_
    show Steps p.tables e below (T4.setTop (mkF m 22 #[.val (.ref sa), .val (.ref bb), .val .null, .val (.ref da), .val (.int (Int32.ofNat bs.length))] [])) _
    refine XS.aloadN X4.here hx rfl (hb hby d20_22) rfl rfl ?_
    show Steps p.tables e below (T4.setTop (mkF m 23 #[.val (.ref sa), .val (.ref bb), .val .null, .val (.ref da), .val (.int (Int32.ofNat bs.length))] [(.ref sa)])) _
    refine XS.iconst X4.here hx rfl (hb hby d20_23) ?_
    show Steps p.tables e below (T4.setTop (mkF m 24 #[.val (.ref sa), .val (.ref bb), .val .null, .val (.ref da), .val (.int (Int32.ofNat bs.length))] [(.int (0 : Int32)), (.ref sa)])) _
    refine st5 _ ?_
    show Steps p.tables e below (T5.setTop (mkF m 27 #[.val (.ref sa), .val (.ref bb), .val .null, .val (.ref da), .val (.int (Int32.ofNat bs.length))] [])) _
    refine XS.aloadN X5.here hx rfl (hb hby d20_27) rfl rfl ?_
    show Steps p.tables e below (T5.setTop (mkF m 28 #[.val (.ref sa), .val (.ref bb), .val .null, .val (.ref da), .val (.int (Int32.ofNat bs.length))] [(.ref sa)])) _
    refine XS.aloadN X5.here hx rfl (hb hby d20_28) rfl rfl ?_
    show Steps p.tables e below (T5.setTop (mkF m 29 #[.val (.ref sa), .val (.ref bb), .val .null, .val (.ref da), .val (.int (Int32.ofNat bs.length))] [(.ref da), (.ref sa)])) _
    refine XS.iconst X5.here hx rfl (hb hby d20_29) ?_
    show Steps p.tables e below (T5.setTop (mkF m 30 #[.val (.ref sa), .val (.ref bb), .val .null, .val (.ref da), .val (.int (Int32.ofNat bs.length))] [(.int (0 : Int32)), (.ref da), (.ref sa)])) _
    refine XS.iload X5.here hx rfl (hb hby d20_30) rfl ?_
    show Steps p.tables e below (T5.setTop (mkF m 32 #[.val (.ref sa), .val (.ref bb), .val .null, .val (.ref da), .val (.int (Int32.ofNat bs.length))] [(.int (Int32.ofNat bs.length)), (.int (0 : Int32)), (.ref da), (.ref sa)])) _
    refine st7 _ ?_
    show Steps p.tables e below (T7.setTop (mkF m 35 #[.val (.ref sa), .val (.ref bb), .val .null, .val (.ref da), .val (.int (Int32.ofNat bs.length))] [(.ref xa), (.ref sa)])) _
    refine st16 _ ?_
    show Steps p.tables e below (T16.setTop (mkF m 38 #[.val (.ref sa), .val (.ref bb), .val .null, .val (.ref da), .val (.int (Int32.ofNat bs.length))] [])) _
    refine XS.goto X16.here hx rfl (pc0 := 38) (pc' := 97) rfl (hb hby d20_38) (by decide) (by decide) ?_
    show Steps p.tables e below (T16.setTop (mkF m 97 #[.val (.ref sa), .val (.ref bb), .val .null, .val (.ref da), .val (.int (Int32.ofNat bs.length))] [])) _
    exact X16.returnOut hx Bd.returns (hb hby d20_97) hr
  · exact by show Qh _ h0 n0 _ _ none T16.heap _; rw [e16]; exact ⟨rfl, N16, Kp16, _, _, ⟨f17, Fw16, f18, f19⟩, gz7⟩
theorem d19_0 : decode jdk_42_method_53_code 0 = .ok (.aload_n 0, 1) := by decide +kernel
theorem d19_1 : decode jdk_42_method_53_code 1 = .ok (.aload_n 1, 1) := by decide +kernel
theorem d19_2 : decode jdk_42_method_53_code 2 = .ok (.aconst_null, 1) := by decide +kernel
theorem pd_28Ljava2flang2fAbstractStringBuilder3bLjava2flang2fVoid3b29V : parseMethodDescriptor "(Ljava/lang/AbstractStringBuilder;Ljava/lang/Void;)V" = some ⟨[(.object "java/lang/AbstractStringBuilder"), (.object "java/lang/Void")], none⟩ := by decide +kernel
theorem d19_3 : decode jdk_42_method_53_code 3 = .ok (.invokespecial 489, 3) := by decide +kernel
theorem d19_6 : decode jdk_42_method_53_code 6 = .ok (.return_, 1) := by decide +kernel
set_option maxRecDepth 65536 in
set_option maxHeartbeats 40000000 in
theorem sb_strInit2 (l : Launch) (Z : State) (a0 : Array Value) (hw : ∀ d ∈ tables_1, d.before a0 Z = true) (ws : List Jvm.Cond) (zc : Int32) (sa : Addr) (bb da : Addr) (kd : ClassId) (N : Nat) (bs : List Int32) (h0 : Heap) (n0 : Nat) (O : Old Z n0 h0) (hE : EnvS Z zc) (hB : Bld Z h0 bb da kd N bs) (E : Exa Z h0 sa "java/lang/String") (F : Fld Z h0 sa "java/lang/String" "value" "[B" .null) (C : Fld Z h0 sa "java/lang/String" "coder" "B" (.int (0 : Int32))) (hlt : bs.length < N) (hN : N ≤ 200) (gs : n0 ≤ sa) :
    MetFree l (⟨"java/lang/String", "<init>", "(Ljava/lang/StringBuilder;)V"⟩ : MethodName) (head1 (Jvm.Cond.code (⟨"java/lang/String", "<init>", "(Ljava/lang/StringBuilder;)V"⟩ : MethodName) jdk_42_method_53_code 2 none :: ws) ({ frames := 4, cells := 1, slots := 200, locals := 65 } : Room)) (fun a U => a = #[(.ref sa), (.ref bb)] ∧ Z.Warmed39 U.vm ∧ U.heap = h0) (fun _ _ _ _ _ => True) (fun _ U o U' => ∃ v L, o = .returned v ∧ Qh none h0 n0 [sa] (fun h => ∃ t k, Str Z h sa t k bs ∧ h0.size ≤ t) v U'.heap L ∧ FrameEnd U o U' L ({ frames := 4, cells := 1, slots := 200, locals := 65 } : Room).cells ({ frames := 4, cells := 1, slots := 200, locals := 65 } : Room).slots) := by
  refine MetFree.of_bodySF (plainFor_of_name pn_java_lang_String) hisR ?_
  intro p e s m args below meth c s₁ Bd hml0 hP hK
  obtain ⟨rfl, hZ, hh⟩ := hP
  have hx := Bd.exec
  have hby := Bd.bytes
  have hml : c.maxLocals = 2 := hml0
  have hown : s.vm.findClass "java/lang/String" = some m.cls := findClass_of_methodNamed Bd.named
  have hnm := (name_of_methodNamed Bd.named Bd.method).1
  have X0 : Stand p l e ({ frames := 4, cells := 1, slots := 200, locals := 65 } : Room) s m #[(.ref sa), (.ref bb)] below meth c s₁ [] 0 0 := Stand.of_body Bd
  have e0 : s₁.heap = h0 := by rw [← hh, Bd.state]; rfl
  have N0 := Fr.nil n0
  have pre0 : ∀ t, Steps p.tables e below (s₁.setTop (mkF m 0 #[.val (.ref sa), .val (.ref bb)] [])) t → Steps p.tables e below (s₁.setTop (entryFrame m #[(.ref sa), (.ref bb)] 2)) t := fun t k => castTop (ef_2_RR m sa bb) k
  obtain ⟨Scmp, hzc⟩ := id hE
  obtain ⟨_, _, ⟨T1, L1, k1, n1⟩, -, X1, ⟨Lc1, hQ1, l1, y1, z1⟩, st1⟩ := X0.specialBack hx (y := (⟨"java/lang/String", "<init>", "(Ljava/lang/AbstractStringBuilder;Ljava/lang/Void;)V"⟩ : MethodName)) rfl hown (mvT hZ (hw _ (List.mem_of_getElem? (i := 125) rfl))) (mvT hZ (hw _ (List.mem_of_getElem? (i := 126) rfl))) (mvT hZ (hw _ (List.mem_of_getElem? (i := 127) rfl))) (by decide) (backOf (W := 0) (sb_strInit l Z a0 hw [] zc sa bb da kd N bs h0 n0 O hE hB E F C hlt hN gs) hZ (hw _ (List.mem_of_getElem? (i := 127) rfl)) (hw _ (List.mem_of_getElem? (i := 5) rfl)) (by decide) (by decide)) (g := (mkF m 3 #[.val (.ref sa), .val (.ref bb)] [.null, (.ref bb), (.ref sa)])) rfl (by rw [hml]; rfl) (Steps.refl _) (a := sa) (argsL := [(.ref bb), .null]) (rest := []) (lenOf pd_28Ljava2flang2fAbstractStringBuilder3bLjava2flang2fVoid3b29V rfl) rfl (by show 2 * 0 + _ ≤ _; exact Nat.le_of_eq rfl) (hb hby d19_3) (fun _ _ => ⟨rfl, e0, (by decide : 0 + 1 ≤ _), (by decide : 0 + 200 ≤ _)⟩)
  dsimp only [Pt.U, Pt.locs, Pt.cells, Pt.slots] at X1 l1 y1 z1 st1 hQ1
  subst l1 y1 z1
  obtain ⟨rfl, N1q, K1, P1⟩ := hQ1
  have N1 := Fr.app N0 N1q
  have O1 : Old Z n0 T1.heap := O.keep K1 (allS (P := (n0 ≤ ·)) gs all0)
  have Kp1 : Keep h0 T1.heap [sa] := (Keep.refl h0 [sa]).trans K1 (allS (P := (fun x => x ∈ [sa] ∨ h0.size ≤ x)) (Or.inl (by simp)) all0)
  have Pf := P1
  obtain ⟨fs, hr, hrun, hended, hW, hsame⟩ := X1.leave (v := none) (fun h => rfl)
  refine ⟨_, _, pre0 _ ?_, hrun, hended, _, _, rfl, ?_, ⟨_, rfl⟩, hW, hsame.mono (by decide) (by decide)⟩
  · show Steps p.tables e below (s₁.setTop (mkF m 0 #[.val (.ref sa), .val (.ref bb)] [])) _
    refine XS.aloadN X0.here hx rfl (hb hby d19_0) rfl rfl ?_
    show Steps p.tables e below (s₁.setTop (mkF m 1 #[.val (.ref sa), .val (.ref bb)] [(.ref sa)])) _
    refine XS.aloadN X0.here hx rfl (hb hby d19_1) rfl rfl ?_
    show Steps p.tables e below (s₁.setTop (mkF m 2 #[.val (.ref sa), .val (.ref bb)] [(.ref bb), (.ref sa)])) _
    refine XS.aconstNull X0.here hx rfl (hb hby d19_2) ?_
    show Steps p.tables e below (s₁.setTop (mkF m 3 #[.val (.ref sa), .val (.ref bb)] [.null, (.ref bb), (.ref sa)])) _
    refine st1.trans ?_
    show Steps p.tables e below (T1.setTop (mkF m 6 #[.val (.ref sa), .val (.ref bb)] [])) _
    exact X1.returnOut hx Bd.returns (hb hby d19_6) hr
  · exact by show Qh _ h0 n0 _ _ none T1.heap _; exact ⟨rfl, N1, Kp1, Pf⟩
theorem d18_0 : decode jdk_67_method_42_code 0 = .ok (.new 18, 3) := by decide +kernel
theorem d18_3 : decode jdk_67_method_42_code 3 = .ok (.dup, 1) := by decide +kernel
theorem d18_4 : decode jdk_67_method_42_code 4 = .ok (.aload_n 0, 1) := by decide +kernel
theorem pd_28Ljava2flang2fStringBuilder3b29V : parseMethodDescriptor "(Ljava/lang/StringBuilder;)V" = some ⟨[(.object "java/lang/StringBuilder")], none⟩ := by decide +kernel
theorem d18_5 : decode jdk_67_method_42_code 5 = .ok (.invokespecial 137, 3) := by decide +kernel
theorem d18_8 : decode jdk_67_method_42_code 8 = .ok (.areturn, 1) := by decide +kernel
set_option maxRecDepth 65536 in
set_option maxHeartbeats 40000000 in
theorem sb_toString (l : Launch) (Z : State) (a0 : Array Value) (hw : ∀ d ∈ tables_1, d.before a0 Z = true) (ws : List Jvm.Cond) (zc : Int32) (bb da : Addr) (kd : ClassId) (N : Nat) (bs : List Int32) (h0 : Heap) (n0 : Nat) (O : Old Z n0 h0) (hE : EnvS Z zc) (hB : Bld Z h0 bb da kd N bs) (hlt : bs.length < N) (hN : N ≤ 200) :
    MetFree l (⟨"java/lang/StringBuilder", "toString", "()Ljava/lang/String;"⟩ : MethodName) (head1 (Jvm.Cond.code (⟨"java/lang/StringBuilder", "toString", "()Ljava/lang/String;"⟩ : MethodName) jdk_67_method_42_code 1 (some (.object "java/lang/String")) :: ws) ({ frames := 5, cells := 2, slots := 204, locals := 79 } : Room)) (fun a U => a = #[(.ref bb)] ∧ Z.Warmed39 U.vm ∧ U.heap = h0) (fun _ _ _ _ _ => True) (fun _ U o U' => ∃ v L, o = .returned v ∧ Qx h0 n0 [] (fun x h => ∃ t k, Str Z h x t k bs ∧ h0.size ≤ x ∧ h0.size ≤ t) v U'.heap L ∧ FrameEnd U o U' L ({ frames := 5, cells := 2, slots := 204, locals := 79 } : Room).cells ({ frames := 5, cells := 2, slots := 204, locals := 79 } : Room).slots) := by
  refine MetFree.of_bodySF (plainFor_of_name pn_java_lang_StringBuilder) hisR ?_
  intro p e s m args below meth c s₁ Bd hml0 hP hK
  obtain ⟨rfl, hZ, hh⟩ := hP
  have hx := Bd.exec
  have hby := Bd.bytes
  have hml : c.maxLocals = 1 := hml0
  have hown : s.vm.findClass "java/lang/StringBuilder" = some m.cls := findClass_of_methodNamed Bd.named
  have hnm := (name_of_methodNamed Bd.named Bd.method).1
  have X0 : Stand p l e ({ frames := 5, cells := 2, slots := 204, locals := 79 } : Room) s m #[(.ref bb)] below meth c s₁ [] 0 0 := Stand.of_body Bd
  have e0 : s₁.heap = h0 := by rw [← hh, Bd.state]; rfl
  have N0 := Fr.nil n0
  have pre0 : ∀ t, Steps p.tables e below (s₁.setTop (mkF m 0 #[.val (.ref bb)] [])) t → Steps p.tables e below (s₁.setTop (entryFrame m #[(.ref bb)] 1)) t := fun t k => castTop (ef_1_R m bb) k
  obtain ⟨Scmp, hzc⟩ := id hE
  obtain ⟨Eb, Vb, Cb, Nb, Ab⟩ := id hB
  obtain ⟨T1, h1, X1, e1, E1, A1, D1, -, st1⟩ := newO X0 hx hZ hown (hw _ (List.mem_of_getElem? (i := 120) rfl)) (hw _ (List.mem_of_getElem? (i := 6) rfl)) (hw _ (List.mem_of_getElem? (i := 5) rfl)) e0 (g := (mkF m 0 #[.val (.ref bb)] [])) rfl (hb hby d18_0) (by decide) (by decide)
  obtain ⟨b1, g1⟩ : ∃ z, z = h0.size := ⟨_, rfl⟩
  rw [← g1] at A1 D1 st1
  have gb1 : n0 ≤ b1 := by have q1 := O.1; have q2 := O.2.1; omega
  have gs1 : h0.size ≤ b1 := by have q := ((Keep.refl h0 [])).1; omega
  have O1 : Old Z n0 h1 := O.ext E1
  have Kp1 : Keep h0 h1 [] := (Keep.refl h0 []).ext E1
  have F1_value : Fld Z h1 b1 "java/lang/String" "value" "[B" .null := D1 (Or.inr (hw _ (List.mem_of_getElem? (i := 8) rfl))) (ty := (.array .byte)) (by decide)
  have F1_coder : Fld Z h1 b1 "java/lang/String" "coder" "B" (.int (0 : Int32)) := D1 (Or.inr (hw _ (List.mem_of_getElem? (i := 9) rfl))) (ty := .byte) (by decide)
  have f2 : Exa Z h1 bb "java/lang/StringBuilder" := (Eb.ext E1)
  have f3 : Fld Z h1 bb "java/lang/AbstractStringBuilder" "value" "[B" (.ref da) := (Vb.ext E1)
  have f4 : Fld Z h1 bb "java/lang/AbstractStringBuilder" "coder" "B" (.int (0 : Int32)) := (Cb.ext E1)
  have f5 : Fld Z h1 bb "java/lang/AbstractStringBuilder" "count" "I" (.int (Int32.ofNat bs.length)) := (Nb.ext E1)
  have f6 : Arv Z h1 da kd .byte (Int32.ofNat N) (by8 bs) (.int (0 : Int32)) := (Ab.ext E1)
  obtain ⟨_, _, ⟨T7, L7, k7, n7⟩, -, X7, ⟨Lc7, hQ7, l7, y7, z7⟩, st7⟩ := X1.specialBack hx (y := (⟨"java/lang/String", "<init>", "(Ljava/lang/StringBuilder;)V"⟩ : MethodName)) rfl hown (mvT hZ (hw _ (List.mem_of_getElem? (i := 121) rfl))) (mvT hZ (hw _ (List.mem_of_getElem? (i := 122) rfl))) (mvT hZ (hw _ (List.mem_of_getElem? (i := 124) rfl))) (by decide) (backOf (W := 1) (sb_strInit2 l Z a0 hw [] zc b1 bb da kd N bs h1 n0 O1 hE ⟨f2, f3, f4, f5, f6⟩ A1 F1_value F1_coder hlt hN gb1) hZ (hw _ (List.mem_of_getElem? (i := 124) rfl)) (hw _ (List.mem_of_getElem? (i := 5) rfl)) (by decide) (by decide)) (g := (mkF m 5 #[.val (.ref bb)] [(.ref bb), (.ref b1), (.ref b1)])) rfl (by rw [hml]; rfl) (Steps.refl _) (a := b1) (argsL := [(.ref bb)]) (rest := [(.ref b1)]) (lenOf pd_28Ljava2flang2fStringBuilder3b29V rfl) rfl (by show 2 * 0 + _ ≤ _; exact Nat.le_of_eq rfl) (hb hby d18_5) (fun _ _ => ⟨rfl, e1, (by decide : 1 + 1 ≤ _), (by decide : 4 + 200 ≤ _)⟩)
  dsimp only [Pt.U, Pt.locs, Pt.cells, Pt.slots] at X7 l7 y7 z7 st7 hQ7
  subst l7 y7 z7
  obtain ⟨rfl, N7q, K7, ⟨tt, kt, Pf, gt⟩⟩ := hQ7
  have N7 := Fr.app N0 N7q
  have O7 : Old Z n0 T7.heap := O1.keep K7 (allS (P := (n0 ≤ ·)) gb1 all0)
  have Kp7 : Keep h0 T7.heap [] := Kp1.trans K7 (allS (P := (fun x => x ∈ [] ∨ h0.size ≤ x)) (Or.inr gs1) all0)
  have gt' : h0.size ≤ tt := by have q := Kp1.1; omega
  obtain ⟨fs, hr, hrun, hended, hW, hsame⟩ := X7.leave (v := some (.ref b1)) (fun h => by rw [Bd.returns] at h; cases h)
  refine ⟨_, _, pre0 _ ?_, hrun, hended, _, _, rfl, ?_, ⟨_, rfl⟩, hW, hsame.mono (by decide) (by decide)⟩
  · show Steps p.tables e below (s₁.setTop (mkF m 0 #[.val (.ref bb)] [])) _
    refine st1 _ ?_
    show Steps p.tables e below (T1.setTop (mkF m 3 #[.val (.ref bb)] [(.ref b1)])) _
    refine XS.dup X1.here hx rfl (hb hby d18_3) rfl rfl ?_
    show Steps p.tables e below (T1.setTop (mkF m 4 #[.val (.ref bb)] [(.ref b1), (.ref b1)])) _
    refine XS.aloadN X1.here hx rfl (hb hby d18_4) rfl rfl ?_
    show Steps p.tables e below (T1.setTop (mkF m 5 #[.val (.ref bb)] [(.ref bb), (.ref b1), (.ref b1)])) _
    refine st7.trans ?_
    show Steps p.tables e below (T7.setTop (mkF m 8 #[.val (.ref bb)] [(.ref b1)])) _
    exact retOut X7 hx Bd.returns rfl (Or.inr (Or.inr (Or.inr (Or.inr ⟨rfl, rfl, rfl⟩)))) (hb hby d18_8) hr
  · exact by show Qx h0 n0 _ _ (some (.ref b1)) T7.heap _; exact ⟨_, rfl, N7, Kp7, _, _, Pf, gs1, gt'⟩
theorem d3_0 : decode jdk_68_method_2_code 0 = .ok (.aload_n 0, 1) := by decide +kernel
theorem d3_1 : decode jdk_68_method_2_code 1 = .ok (.invokespecial 3, 3) := by decide +kernel
theorem d3_4 : decode jdk_68_method_2_code 4 = .ok (.getstatic 18, 3) := by decide +kernel
theorem d3_7 : decode jdk_68_method_2_code 7 = .ok (.ifCond .eq 18, 3) := by decide +kernel
theorem d3_10 : decode jdk_68_method_2_code 10 = .ok (.aload_n 0, 1) := by decide +kernel
theorem d3_11 : decode jdk_68_method_2_code 11 = .ok (.iload_n 1, 1) := by decide +kernel
theorem d3_12 : decode jdk_68_method_2_code 12 = .ok (.newarray .byte, 2) := by decide +kernel
theorem d3_14 : decode jdk_68_method_2_code 14 = .ok (.putfield 15, 3) := by decide +kernel
theorem d3_17 : decode jdk_68_method_2_code 17 = .ok (.aload_n 0, 1) := by decide +kernel
theorem d3_18 : decode jdk_68_method_2_code 18 = .ok (.iconst 0, 1) := by decide +kernel
theorem d3_19 : decode jdk_68_method_2_code 19 = .ok (.putfield 22, 3) := by decide +kernel
theorem d3_22 : decode jdk_68_method_2_code 22 = .ok (.goto 16, 3) := by decide +kernel
theorem d3_38 : decode jdk_68_method_2_code 38 = .ok (.return_, 1) := by decide +kernel
set_option maxRecDepth 65536 in
set_option maxHeartbeats 40000000 in
theorem sb_asbInit (l : Launch) (Z : State) (a0 : Array Value) (hw : ∀ d ∈ tables_1, d.before a0 Z = true) (ws : List Jvm.Cond) (zc : Int32) (bb : Addr) (h0 : Heap) (n0 : Nat) (O : Old Z n0 h0) (hE : EnvS Z zc) (E : Exa Z h0 bb "java/lang/StringBuilder") (F : Fld Z h0 bb "java/lang/AbstractStringBuilder" "value" "[B" .null) (C : Fld Z h0 bb "java/lang/AbstractStringBuilder" "coder" "B" (.int (0 : Int32))) (I : Fld Z h0 bb "java/lang/AbstractStringBuilder" "count" "I" (.int (0 : Int32))) (gb : n0 ≤ bb) :
    MetFree l (⟨"java/lang/AbstractStringBuilder", "<init>", "(I)V"⟩ : MethodName) (head1 (Jvm.Cond.code (⟨"java/lang/AbstractStringBuilder", "<init>", "(I)V"⟩ : MethodName) jdk_68_method_2_code 2 none :: ws) ({ frames := 1, cells := 1, slots := 16, locals := 12 } : Room)) (fun a U => a = #[(.ref bb), (.int (16 : Int32))] ∧ Z.Warmed39 U.vm ∧ U.heap = h0) (fun _ _ _ _ _ => True) (fun _ U o U' => ∃ v L, o = .returned v ∧ Qh none h0 n0 [bb] (fun h => ∃ da k, Bld Z h bb da k 16 [] ∧ h0.size ≤ da) v U'.heap L ∧ FrameEnd U o U' L ({ frames := 1, cells := 1, slots := 16, locals := 12 } : Room).cells ({ frames := 1, cells := 1, slots := 16, locals := 12 } : Room).slots) := by
  refine MetFree.of_bodySF (plainFor_of_name pn_java_lang_AbstractStringBuilder) hisR ?_
  intro p e s m args below meth c s₁ Bd hml0 hP hK
  obtain ⟨rfl, hZ, hh⟩ := hP
  have hx := Bd.exec
  have hby := Bd.bytes
  have hml : c.maxLocals = 2 := hml0
  have hown : s.vm.findClass "java/lang/AbstractStringBuilder" = some m.cls := findClass_of_methodNamed Bd.named
  have hnm := (name_of_methodNamed Bd.named Bd.method).1
  have X0 : Stand p l e ({ frames := 1, cells := 1, slots := 16, locals := 12 } : Room) s m #[(.ref bb), (.int (16 : Int32))] below meth c s₁ [] 0 0 := Stand.of_body Bd
  have e0 : s₁.heap = h0 := by rw [← hh, Bd.state]; rfl
  have N0 := Fr.nil n0
  have pre0 : ∀ t, Steps p.tables e below (s₁.setTop (mkF m 0 #[.val (.ref bb), .val (.int (16 : Int32))] [])) t → Steps p.tables e below (s₁.setTop (entryFrame m #[(.ref bb), (.int (16 : Int32))] 2)) t := fun t k => castTop (ef_2_RI m bb (16 : Int32)) k
  obtain ⟨Scmp, hzc⟩ := id hE
  obtain ⟨T1, X1, e1, st1⟩ := initO X0 hx hZ hown (hw _ (List.mem_of_getElem? (i := 29) rfl)) (hw _ (List.mem_of_getElem? (i := 30) rfl)) (hw _ (List.mem_of_getElem? (i := 31) rfl)) e0 (g := (mkF m 1 #[.val (.ref bb), .val (.int (16 : Int32))] [(.ref bb)])) rfl (by rw [hml]; rfl) rfl (hb hby d3_1) (by decide) (W := 0) (by show 2 * 0 + _ ≤ _; exact Nat.le_of_eq rfl) (by decide)
  obtain ⟨T2, X2, e2, st2⟩ := getS2 X1 hx hZ hown (host := "") (Or.inl (hw _ (List.mem_of_getElem? (i := 32) rfl))) Via.refl e1 (Scmp.ext O.2) (g := (mkF m 4 #[.val (.ref bb), .val (.int (16 : Int32))] [])) rfl (hb hby d3_4)
  obtain ⟨T3, h3, k3, X3, e3, E3, A3, st3⟩ := newP X2 hx hZ (hw _ (List.mem_of_getElem? (i := 7) rfl)) e2 (g := (mkF m 12 #[.val (.ref bb), .val (.int (16 : Int32))] [(.int (16 : Int32)), (.ref bb)])) rfl (hb hby d3_12) rfl (by decide) (cap := 16) (by decide) (by decide) (by decide) (by decide)
  obtain ⟨b3, g3⟩ : ∃ z, z = h0.size := ⟨_, rfl⟩
  rw [← g3] at A3 st3
  have gb3 : n0 ≤ b3 := by have q1 := O.1; have q2 := O.2.1; omega
  have gs3 : h0.size ≤ b3 := by have q := ((Keep.refl h0 [bb])).1; omega
  have V3 : Arv Z h3 b3 k3 .byte (16 : Int32) [] (.int (0 : Int32)) := Arv.new A3 (by decide)
  have O3 : Old Z n0 h3 := O.ext E3
  have Kp3 : Keep h0 h3 [bb] := (Keep.refl h0 [bb]).ext E3
  have f4 : Exa Z h3 bb "java/lang/StringBuilder" := (E.ext E3)
  have f5 : Fld Z h3 bb "java/lang/AbstractStringBuilder" "value" "[B" .null := (F.ext E3)
  obtain ⟨T6, h6, X6, e6, W6, st6⟩ := putF X3 hx hZ hown (host := "") (Or.inl (hw _ (List.mem_of_getElem? (i := 33) rfl))) Via.refl e3 f5 f4 (Or.inl (hw _ (List.mem_of_getElem? (i := 34) rfl))) (hw _ (List.mem_of_getElem? (i := 18) rfl)) (ty := (.array .byte)) (by decide) rfl rfl (g := (mkF m 14 #[.val (.ref bb), .val (.int (16 : Int32))] [(.ref b3), (.ref bb)])) rfl rfl (hb hby d3_14)
  have N6 := Fr.snoc X6 N0 gb
  have O6 : Old Z n0 h6 := O3.wr W6 gb
  have Kp6 : Keep h0 h6 [bb] := Kp3.wr W6 (Or.inl (by simp))
  have Fw6 : Fld Z h6 bb "java/lang/AbstractStringBuilder" "value" "[B" (.ref b3) := f5.same W6
  have f7 : Exa Z h6 bb "java/lang/StringBuilder" := (f4.wr W6)
  have f8 : Fld Z h6 bb "java/lang/AbstractStringBuilder" "coder" "B" (.int (0 : Int32)) := ((C.ext E3).other W6 (Or.inr (slot_ne (Or.inl (hw _ (List.mem_of_getElem? (i := 36) rfl))) (Or.inl (hw _ (List.mem_of_getElem? (i := 34) rfl))) (by decide) (t := .byte) (t' := (.array .byte)) (by decide) (by decide))))
  obtain ⟨T9, h9, X9, e9, W9, st9⟩ := putFN X6 hx hZ hown (hw _ (List.mem_of_getElem? (i := 35) rfl)) Via.refl e6 f8 f7 (Or.inl (hw _ (List.mem_of_getElem? (i := 36) rfl))) (hw _ (List.mem_of_getElem? (i := 18) rfl)) (ty := .byte) (v' := (.int (0 : Int32))) (by decide) rfl (by decide) (g := (mkF m 19 #[.val (.ref bb), .val (.int (16 : Int32))] [(.int (0 : Int32)), (.ref bb)])) rfl rfl (hb hby d3_19)
  have N9 := Fr.snoc X9 N6 gb
  have O9 : Old Z n0 h9 := O6.wr W9 gb
  have Kp9 : Keep h0 h9 [bb] := Kp6.wr W9 (Or.inl (by simp))
  have Fw9 : Fld Z h9 bb "java/lang/AbstractStringBuilder" "coder" "B" (.int (0 : Int32)) := f8.same W9
  have f10 : Exa Z h9 bb "java/lang/StringBuilder" := (f7.wr W9)
  have f11 : Fld Z h9 bb "java/lang/AbstractStringBuilder" "value" "[B" (.ref b3) := (Fw6.other W9 (Or.inr (slot_ne (Or.inl (hw _ (List.mem_of_getElem? (i := 34) rfl))) (Or.inl (hw _ (List.mem_of_getElem? (i := 36) rfl))) (by decide) (t := (.array .byte)) (t' := .byte) (by decide) (by decide))))
  have f12 : Fld Z h9 bb "java/lang/AbstractStringBuilder" "count" "I" (.int (0 : Int32)) := (((I.ext E3).other W6 (Or.inr (slot_ne (Or.inl (hw _ (List.mem_of_getElem? (i := 63) rfl))) (Or.inl (hw _ (List.mem_of_getElem? (i := 34) rfl))) (by decide) (t := .int) (t' := (.array .byte)) (by decide) (by decide)))).other W9 (Or.inr (slot_ne (Or.inl (hw _ (List.mem_of_getElem? (i := 63) rfl))) (Or.inl (hw _ (List.mem_of_getElem? (i := 36) rfl))) (by decide) (t := .int) (t' := .byte) (by decide) (by decide))))
  have f13 : Arv Z h9 b3 k3 .byte (16 : Int32) [] (.int (0 : Int32)) := ((V3.other W6 (Ne.symm (Nat.ne_of_lt (Nat.lt_of_lt_of_le I.lt (Nat.le_of_eq g3.symm))))).other W9 (Ne.symm (Nat.ne_of_lt (Nat.lt_of_lt_of_le I.lt (Nat.le_of_eq g3.symm)))))
  obtain ⟨fs, hr, hrun, hended, hW, hsame⟩ := X9.leave (v := none) (fun h => rfl)
  refine ⟨_, _, pre0 _ ?_, hrun, hended, _, _, rfl, ?_, ⟨_, rfl⟩, hW, hsame.mono (by decide) (by decide)⟩
  · show Steps p.tables e below (s₁.setTop (mkF m 0 #[.val (.ref bb), .val (.int (16 : Int32))] [])) _
    refine XS.aloadN X0.here hx rfl (hb hby d3_0) rfl rfl ?_
    show Steps p.tables e below (s₁.setTop (mkF m 1 #[.val (.ref bb), .val (.int (16 : Int32))] [(.ref bb)])) _
    refine st1 _ ?_
    show Steps p.tables e below (T1.setTop (mkF m 4 #[.val (.ref bb), .val (.int (16 : Int32))] [])) _
    refine st2 _ ?_
    show Steps p.tables e below (T2.setTop (mkF m 7 #[.val (.ref bb), .val (.int (16 : Int32))] [(.int zc)])) _
    refine XS.ifNo X2.here hx rfl (hb hby d3_7) rfl ((if0 _ _).trans (feq (hzc : ¬ (zc = (0 : Int32)))).1) ?_
    show Steps p.tables e below (T2.setTop (mkF m 10 #[.val (.ref bb), .val (.int (16 : Int32))] [])) _
    refine XS.aloadN X2.here hx rfl (hb hby d3_10) rfl rfl ?_
    show Steps p.tables e below (T2.setTop (mkF m 11 #[.val (.ref bb), .val (.int (16 : Int32))] [(.ref bb)])) _
    refine XS.iloadN X2.here hx rfl (hb hby d3_11) rfl ?_
    show Steps p.tables e below (T2.setTop (mkF m 12 #[.val (.ref bb), .val (.int (16 : Int32))] [(.int (16 : Int32)), (.ref bb)])) _
    refine st3 _ ?_
    show Steps p.tables e below (T3.setTop (mkF m 14 #[.val (.ref bb), .val (.int (16 : Int32))] [(.ref b3), (.ref bb)])) _
    refine st6 _ ?_
    show Steps p.tables e below (T6.setTop (mkF m 17 #[.val (.ref bb), .val (.int (16 : Int32))] [])) _
    refine XS.aloadN X6.here hx rfl (hb hby d3_17) rfl rfl ?_
    show Steps p.tables e below (T6.setTop (mkF m 18 #[.val (.ref bb), .val (.int (16 : Int32))] [(.ref bb)])) _
    refine XS.iconst X6.here hx rfl (hb hby d3_18) ?_
    show Steps p.tables e below (T6.setTop (mkF m 19 #[.val (.ref bb), .val (.int (16 : Int32))] [(.int (0 : Int32)), (.ref bb)])) _
    refine st9 _ ?_
    show Steps p.tables e below (T9.setTop (mkF m 22 #[.val (.ref bb), .val (.int (16 : Int32))] [])) _
    refine XS.goto X9.here hx rfl (pc0 := 22) (pc' := 38) rfl (hb hby d3_22) (by decide) (by decide) ?_
    show Steps p.tables e below (T9.setTop (mkF m 38 #[.val (.ref bb), .val (.int (16 : Int32))] [])) _
    exact X9.returnOut hx Bd.returns (hb hby d3_38) hr
  · exact by show Qh _ h0 n0 _ _ none T9.heap _; rw [e9]; exact ⟨rfl, N9, Kp9, _, _, ⟨f10, f11, Fw9, f12, f13⟩, gs3⟩
theorem d2_0 : decode jdk_67_method_1_code 0 = .ok (.aload_n 0, 1) := by decide +kernel
theorem d2_1 : decode jdk_67_method_1_code 1 = .ok (.bipush 16, 2) := by decide +kernel
theorem d2_3 : decode jdk_67_method_1_code 3 = .ok (.invokespecial 1, 3) := by decide +kernel
theorem d2_6 : decode jdk_67_method_1_code 6 = .ok (.return_, 1) := by decide +kernel
set_option maxRecDepth 65536 in
set_option maxHeartbeats 40000000 in
theorem sb_sbInit (l : Launch) (Z : State) (a0 : Array Value) (hw : ∀ d ∈ tables_1, d.before a0 Z = true) (ws : List Jvm.Cond) (zc : Int32) (bb : Addr) (h0 : Heap) (n0 : Nat) (O : Old Z n0 h0) (hE : EnvS Z zc) (E : Exa Z h0 bb "java/lang/StringBuilder") (F : Fld Z h0 bb "java/lang/AbstractStringBuilder" "value" "[B" .null) (C : Fld Z h0 bb "java/lang/AbstractStringBuilder" "coder" "B" (.int (0 : Int32))) (I : Fld Z h0 bb "java/lang/AbstractStringBuilder" "count" "I" (.int (0 : Int32))) (gb : n0 ≤ bb) :
    MetFree l (⟨"java/lang/StringBuilder", "<init>", "()V"⟩ : MethodName) (head1 (Jvm.Cond.code (⟨"java/lang/StringBuilder", "<init>", "()V"⟩ : MethodName) jdk_67_method_1_code 1 none :: ws) ({ frames := 2, cells := 1, slots := 16, locals := 25 } : Room)) (fun a U => a = #[(.ref bb)] ∧ Z.Warmed39 U.vm ∧ U.heap = h0) (fun _ _ _ _ _ => True) (fun _ U o U' => ∃ v L, o = .returned v ∧ Qh none h0 n0 [bb] (fun h => ∃ da k, Bld Z h bb da k 16 [] ∧ h0.size ≤ da) v U'.heap L ∧ FrameEnd U o U' L ({ frames := 2, cells := 1, slots := 16, locals := 25 } : Room).cells ({ frames := 2, cells := 1, slots := 16, locals := 25 } : Room).slots) := by
  refine MetFree.of_bodySF (plainFor_of_name pn_java_lang_StringBuilder) hisR ?_
  intro p e s m args below meth c s₁ Bd hml0 hP hK
  obtain ⟨rfl, hZ, hh⟩ := hP
  have hx := Bd.exec
  have hby := Bd.bytes
  have hml : c.maxLocals = 1 := hml0
  have hown : s.vm.findClass "java/lang/StringBuilder" = some m.cls := findClass_of_methodNamed Bd.named
  have hnm := (name_of_methodNamed Bd.named Bd.method).1
  have X0 : Stand p l e ({ frames := 2, cells := 1, slots := 16, locals := 25 } : Room) s m #[(.ref bb)] below meth c s₁ [] 0 0 := Stand.of_body Bd
  have e0 : s₁.heap = h0 := by rw [← hh, Bd.state]; rfl
  have N0 := Fr.nil n0
  have pre0 : ∀ t, Steps p.tables e below (s₁.setTop (mkF m 0 #[.val (.ref bb)] [])) t → Steps p.tables e below (s₁.setTop (entryFrame m #[(.ref bb)] 1)) t := fun t k => castTop (ef_1_R m bb) k
  obtain ⟨Scmp, hzc⟩ := id hE
  obtain ⟨_, _, ⟨T1, L1, k1, n1⟩, -, X1, ⟨Lc1, hQ1, l1, y1, z1⟩, st1⟩ := X0.specialBack hx (y := (⟨"java/lang/AbstractStringBuilder", "<init>", "(I)V"⟩ : MethodName)) rfl hown (mvT hZ (hw _ (List.mem_of_getElem? (i := 23) rfl))) (mvT hZ (hw _ (List.mem_of_getElem? (i := 24) rfl))) (mvT hZ (hw _ (List.mem_of_getElem? (i := 28) rfl))) (by decide) (backOf (W := 0) (sb_asbInit l Z a0 hw [] zc bb h0 n0 O hE E F C I gb) hZ (hw _ (List.mem_of_getElem? (i := 28) rfl)) (hw _ (List.mem_of_getElem? (i := 27) rfl)) (by decide) (by decide)) (g := (mkF m 3 #[.val (.ref bb)] [(.int (16 : Int32)), (.ref bb)])) rfl (by rw [hml]; rfl) (Steps.refl _) (a := bb) (argsL := [(.int (16 : Int32))]) (rest := []) (lenOf pd_28I29V rfl) rfl (by show 2 * 0 + _ ≤ _; exact Nat.le_of_eq rfl) (hb hby d2_3) (fun _ _ => ⟨rfl, e0, (by decide : 0 + 1 ≤ _), (by decide : 0 + 16 ≤ _)⟩)
  dsimp only [Pt.U, Pt.locs, Pt.cells, Pt.slots] at X1 l1 y1 z1 st1 hQ1
  subst l1 y1 z1
  obtain ⟨rfl, N1q, K1, P1⟩ := hQ1
  have N1 := Fr.app N0 N1q
  have O1 : Old Z n0 T1.heap := O.keep K1 (allS (P := (n0 ≤ ·)) gb all0)
  have Kp1 : Keep h0 T1.heap [bb] := (Keep.refl h0 [bb]).trans K1 (allS (P := (fun x => x ∈ [bb] ∨ h0.size ≤ x)) (Or.inl (by simp)) all0)
  have Pf := P1
  obtain ⟨fs, hr, hrun, hended, hW, hsame⟩ := X1.leave (v := none) (fun h => rfl)
  refine ⟨_, _, pre0 _ ?_, hrun, hended, _, _, rfl, ?_, ⟨_, rfl⟩, hW, hsame.mono (by decide) (by decide)⟩
  · show Steps p.tables e below (s₁.setTop (mkF m 0 #[.val (.ref bb)] [])) _
    refine XS.aloadN X0.here hx rfl (hb hby d2_0) rfl rfl ?_
    show Steps p.tables e below (s₁.setTop (mkF m 1 #[.val (.ref bb)] [(.ref bb)])) _
    refine XS.bipush X0.here hx rfl (hb hby d2_1) ?_
    show Steps p.tables e below (s₁.setTop (mkF m 3 #[.val (.ref bb)] [(.int (16 : Int32)), (.ref bb)])) _
    refine st1.trans ?_
    show Steps p.tables e below (T1.setTop (mkF m 6 #[.val (.ref bb)] [])) _
    exact X1.returnOut hx Bd.returns (hb hby d2_6) hr
  · exact by show Qh _ h0 n0 _ _ none T1.heap _; exact ⟨rfl, N1, Kp1, Pf⟩
theorem own_sameFrom (f g : Nat → Int32) : ∀ (n k : Nat), StrEq.sameFrom f g k n = true ↔ ∀ i, i < n → f (k + i) = g (k + i)
  | 0, k => by simp [StrEq.sameFrom]
  | n + 1, k => by
    simp only [StrEq.sameFrom, Bool.and_eq_true, beq_iff_eq, own_sameFrom f g n (k + 1)]
    constructor
    · rintro ⟨h1, h2⟩ i hi
      rcases Nat.eq_zero_or_pos i with rfl | hp
      · exact h1
      · have := h2 (i - 1) (by omega); rwa [show k + 1 + (i - 1) = k + i by omega] at this
    · intro h
      exact ⟨h 0 (by omega), fun i hi => by have := h (i + 1) (by omega); rwa [show k + (i + 1) = k + 1 + i by omega] at this⟩
theorem own_bytes {Z U : State} {h : Heap} {d : Addr} {k : ClassId} {cs : List Int32} (A : Arv Z h d k .byte (Int32.ofNat cs.length) (by8 cs) (.int (0 : Int32))) (hcs : cs.length ≤ 1000) (hal : Z.vm.Alike U.vm) (hh : U.heap = h) : ∃ c : Cell, StrEq.SL1E.Bytes d c U ∧ c.slots.size = cs.length ∧ ∀ i, i < cs.length → (by8 cs)[i]? = some (.int (Jvm.Lib.StringLatin1.equals.intAt c i)) := by
  obtain ⟨c, A1, -, A3, A4, A5, A6⟩ := A
  have hs : c.slots.size = cs.length := by rw [A3, own_cl hcs]
  have at_ : ∀ i, i < cs.length → c.slots[i]? = (by8 cs)[i]? := fun i hi => by
    rw [A5 i (by omega), List.getD_eq_getElem?_getD]
    have : i < (by8 cs).length := by simpa using hi
    rw [List.getElem?_eq_getElem this]; rfl
  have int_ : ∀ i, i < cs.length → c.slots[i]? = some (.int (Jvm.Lib.StringLatin1.equals.intAt c i)) := fun i hi => by
    have q := at_ i hi
    simp only [by8, List.getElem?_map, List.getElem?_eq_getElem hi, Option.map_some] at q
    simp [Jvm.Lib.StringLatin1.equals.intAt, q, SBG.getD_of q]
  exact ⟨c, ⟨by rw [hh]; exact A1.1, State.isArrayOf_alike hal A1.2.1, A1.2.2, by rw [hs]; omega, fun i hi => int_ i (by omega)⟩, hs, fun i hi => by rw [← at_ i hi]; exact int_ i hi⟩
theorem sb_leqB {p : Program} {l : Launch} {e : Env} {R : Room} {s : State} {args : Array Value} {below : List Frame} {W : Nat} {Z : State} {a0 : Array Value} {h : Heap} {n0 : Nat} (hZ : Z.Warmed39 s.vm) (wc : (Jvm.Cond.code (⟨"java/lang/StringLatin1", "equals", "([B[B)Z"⟩ : MethodName) jdk_43_method_13_code 3 (some .boolean)).before a0 Z = true) (wz : (Jvm.Cond.initialized "java/lang/StringLatin1").before a0 Z = true)
    {sd td : Addr} {ks kt : ClassId} {cs ds : List Int32} (A : Arv Z h sd ks .byte (Int32.ofNat cs.length) (by8 cs) (.int (0 : Int32))) (B : Arv Z h td kt .byte (Int32.ofNat ds.length) (by8 ds) (.int (0 : Int32))) (hcs : cs.length ≤ 1000) (hds : ds.length ≤ 1000) (hfr : 2 ≤ R.frames) (hlo : W + 54 ≤ R.locals) :
    Back l R p e below s args (⟨"java/lang/StringLatin1", "equals", "([B[B)Z"⟩ : MethodName) 3 W (fun P a => a = #[.ref sd, .ref td] ∧ P.U.heap = h ∧ P.cells + 0 ≤ R.cells ∧ P.slots + 0 ≤ R.slots)
      (fun P _ v B => ∃ L, Qv (some (.int (if by8 cs = by8 ds then 1 else 0))) h n0 v B.U.heap L ∧ B.locs = P.locs ++ L ∧ B.cells = P.cells + 0 ∧ B.slots = P.slots + 0) := by
  intro m meth c P g ig mk a X hg hsize hdg hW hn hp'
  obtain ⟨rfl, rfl, r1, r2⟩ := hp'
  have hal : Z.vm.Alike P.U.vm := hZ.alike.trans X.warmed.alike
  have wc' : StrEq.SL1E.tab.before args s = true := mvT hZ wc
  obtain ⟨ca, ba, za, ea⟩ := own_bytes A hcs hal rfl
  obtain ⟨cb, bb, zb, eb⟩ := own_bytes B hds hal rfl
  have pay := Back.of_pure (l := l) (R := R) (p := p) (e := e) (below := below) (s := s) (sargs := args) (y := StrEq.sl1eN) (len := 3) (W := W) (G := Addr × Cell × Addr × Cell) (P := fun g a U => StrEq.SL1E.P g.1 g.2.1 g.2.2.1 g.2.2.2 a U) (val := fun g => some (.int (if StrEq.sameB g.2.1 g.2.2.2 = true then 1 else 0))) (S := StrEq.SL1E.spec) (tab := StrEq.SL1E.tab) (n := 2) (bytes := StrEq.sl1eB) (maxL := 3) (ret := some .boolean)
    (fun g => StrEq.SL1E.gets l g.1 g.2.1 g.2.2.1 g.2.2.2) rfl rfl rfl (by show 1 + 1 ≤ _; omega) (by show W + (3 + 11) + 40 ≤ _; omega) (fun g a U q => by rw [q.1]; rfl) (fun g a U U' al hh q => ⟨q.1, q.2.1.move al (by rw [hh]; exact q.2.1.1), q.2.2.move al (by rw [hh]; exact q.2.2.1)⟩) (by decide) wc' wc' (mvT hZ wz)
  obtain ⟨v, B', X', ⟨⟨q1, q2, q3, q4⟩, hv⟩, st⟩ := pay m meth c P g ig mk _ X hg hsize hdg hW hn ⟨r1, r2, (sd, ca, td, cb), rfl, ba, bb⟩
  have hq := hv (sd, ca, td, cb) ⟨rfl, ba, bb⟩
  have key : StrEq.sameB ca cb = true ↔ by8 cs = by8 ds := by
    unfold StrEq.sameB
    rw [Bool.and_eq_true, beq_iff_eq, za, zb, own_sameFrom]
    constructor
    · rintro ⟨h1, h2⟩
      refine List.ext_getElem? fun i => ?_
      by_cases hi : i < cs.length
      · rw [ea i hi, eb i (by omega)]; have := h2 i hi; rw [Nat.zero_add] at this; rw [this]
      · rw [List.getElem?_eq_none (by simp; omega), List.getElem?_eq_none (by simp; omega)]
    · intro h
      have hl : cs.length = ds.length := by have := congrArg List.length h; simpa using this
      refine ⟨hl, fun i hi => ?_⟩
      have q := ea i hi
      rw [h, eb i (by omega)] at q
      rw [Nat.zero_add]; exact (Value.int.inj (Option.some.inj q)).symm
  refine ⟨v, B', X', ⟨[], ⟨?_, Fr.nil n0, by first | exact q1 | exact q4⟩, by first | simpa using q1 | simpa using q2, by first | exact q2 | exact q3, by first | exact q3 | exact q4⟩, st⟩
  rw [hq]
  by_cases h : by8 cs = by8 ds
  · rw [if_pos h, if_pos (key.mpr h)]
  · rw [if_neg h, if_neg (fun q => h (key.mp q))]
theorem d28_0 : decode jdk_42_method_66_code 0 = .ok (.aload_n 0, 1) := by decide +kernel
theorem d28_1 : decode jdk_42_method_66_code 1 = .ok (.aload_n 1, 1) := by decide +kernel
theorem d28_2 : decode jdk_42_method_66_code 2 = .ok (.if_acmp .ne 5, 3) := by decide +kernel
theorem d28_7 : decode jdk_42_method_66_code 7 = .ok (.aload_n 1, 1) := by decide +kernel
theorem d28_8 : decode jdk_42_method_66_code 8 = .ok (.instanceof 10, 3) := by decide +kernel
theorem d28_11 : decode jdk_42_method_66_code 11 = .ok (.ifCond .eq 43, 3) := by decide +kernel
theorem d28_14 : decode jdk_42_method_66_code 14 = .ok (.aload_n 1, 1) := by decide +kernel
theorem d28_15 : decode jdk_42_method_66_code 15 = .ok (.checkcast 10, 3) := by decide +kernel
theorem d28_18 : decode jdk_42_method_66_code 18 = .ok (.astore_n 2, 1) := by decide +kernel
theorem d28_19 : decode jdk_42_method_66_code 19 = .ok (.getstatic 38, 3) := by decide +kernel
theorem d28_22 : decode jdk_42_method_66_code 22 = .ok (.ifCond .eq 14, 3) := by decide +kernel
theorem d28_25 : decode jdk_42_method_66_code 25 = .ok (.aload_n 0, 1) := by decide +kernel
theorem d28_26 : decode jdk_42_method_66_code 26 = .ok (.getfield 15, 3) := by decide +kernel
theorem d28_29 : decode jdk_42_method_66_code 29 = .ok (.aload_n 2, 1) := by decide +kernel
theorem d28_30 : decode jdk_42_method_66_code 30 = .ok (.getfield 15, 3) := by decide +kernel
theorem d28_33 : decode jdk_42_method_66_code 33 = .ok (.if_icmp .ne 21, 3) := by decide +kernel
theorem d28_36 : decode jdk_42_method_66_code 36 = .ok (.aload_n 0, 1) := by decide +kernel
theorem d28_37 : decode jdk_42_method_66_code 37 = .ok (.getfield 9, 3) := by decide +kernel
theorem d28_40 : decode jdk_42_method_66_code 40 = .ok (.aload_n 2, 1) := by decide +kernel
theorem d28_41 : decode jdk_42_method_66_code 41 = .ok (.getfield 9, 3) := by decide +kernel
theorem pd_285bB5bB29Z : parseMethodDescriptor "([B[B)Z" = some ⟨[(.array .byte), (.array .byte)], some .boolean⟩ := by decide +kernel
theorem d28_44 : decode jdk_42_method_66_code 44 = .ok (.invokestatic 541, 3) := by decide +kernel
theorem d28_47 : decode jdk_42_method_66_code 47 = .ok (.ifCond .eq 7, 3) := by decide +kernel
theorem d28_50 : decode jdk_42_method_66_code 50 = .ok (.iconst 1, 1) := by decide +kernel
theorem d28_51 : decode jdk_42_method_66_code 51 = .ok (.goto 4, 3) := by decide +kernel
theorem d28_55 : decode jdk_42_method_66_code 55 = .ok (.ireturn, 1) := by decide +kernel
set_option maxRecDepth 65536 in
set_option maxHeartbeats 40000000 in
theorem sb_equals1 (l : Launch) (Z : State) (a0 : Array Value) (hw : ∀ d ∈ tables_1, d.before a0 Z = true) (ws : List Jvm.Cond) (zc : Int32) (sa sd : Addr) (ks : ClassId) (cs : List Int32) (ta td : Addr) (kt : ClassId) (ds : List Int32) (h0 : Heap) (n0 : Nat) (O : Old Z n0 h0) (hE : EnvS Z zc) (hS : Str Z h0 sa sd ks cs) (hT : Str Z h0 ta td kt ds) (hne : ¬ (sa = ta)) (hcs : cs.length ≤ 1000) (hds : ds.length ≤ 1000) (heq : by8 cs = by8 ds) :
    MetFree l (⟨"java/lang/String", "equals", "(Ljava/lang/Object;)Z"⟩ : MethodName) (head1 (Jvm.Cond.code (⟨"java/lang/String", "equals", "(Ljava/lang/Object;)Z"⟩ : MethodName) jdk_42_method_66_code 3 (some .boolean) :: ws) ({ frames := 2, cells := 0, slots := 0, locals := 54 } : Room)) (fun a U => a = #[(.ref sa), (.ref ta)] ∧ Z.Warmed39 U.vm ∧ U.heap = h0) (fun _ _ _ _ _ => True) (fun _ U o U' => ∃ v L, o = .returned v ∧ Qv (some (.int (1 : Int32))) h0 n0 v U'.heap L ∧ FrameEnd U o U' L ({ frames := 2, cells := 0, slots := 0, locals := 54 } : Room).cells ({ frames := 2, cells := 0, slots := 0, locals := 54 } : Room).slots) := by
  refine MetFree.of_bodySF (plainFor_of_name pn_java_lang_String) hisR ?_
  intro p e s m args below meth c s₁ Bd hml0 hP hK
  obtain ⟨rfl, hZ, hh⟩ := hP
  have hx := Bd.exec
  have hby := Bd.bytes
  have hml : c.maxLocals = 3 := hml0
  have hown : s.vm.findClass "java/lang/String" = some m.cls := findClass_of_methodNamed Bd.named
  have hnm := (name_of_methodNamed Bd.named Bd.method).1
  have X0 : Stand p l e ({ frames := 2, cells := 0, slots := 0, locals := 54 } : Room) s m #[(.ref sa), (.ref ta)] below meth c s₁ [] 0 0 := Stand.of_body Bd
  have e0 : s₁.heap = h0 := by rw [← hh, Bd.state]; rfl
  have N0 := Fr.nil n0
  have pre0 : ∀ t, Steps p.tables e below (s₁.setTop (mkF m 0 #[.val (.ref sa), .val (.ref ta), .unset] [])) t → Steps p.tables e below (s₁.setTop (entryFrame m #[(.ref sa), (.ref ta)] 3)) t := fun t k => castTop (ef_3_RR m sa ta) k
  obtain ⟨Scmp, hzc⟩ := id hE
  obtain ⟨Es, Vs, Cs, As⟩ := id hS
  obtain ⟨Est, Vst, Cst, Ast⟩ := id hT
  obtain ⟨T1, X1, e1, st1⟩ := instY X0 hx hZ hown (hw _ (List.mem_of_getElem? (i := 163) rfl)) e0 (Ins.self Est) (g := (mkF m 8 #[.val (.ref sa), .val (.ref ta), .unset] [(.ref ta)])) rfl rfl (hb hby d28_8)
  obtain ⟨T2, X2, e2, st2⟩ := castY X1 hx hZ hown (hw _ (List.mem_of_getElem? (i := 163) rfl)) e1 (Ins.self Est) (g := (mkF m 15 #[.val (.ref sa), .val (.ref ta), .unset] [(.ref ta)])) rfl rfl (hb hby d28_15)
  obtain ⟨T3, X3, e3, st3⟩ := getS2 X2 hx hZ hown (host := "") (Or.inl (hw _ (List.mem_of_getElem? (i := 60) rfl))) Via.refl e2 (Scmp.ext O.2) (g := (mkF m 19 #[.val (.ref sa), .val (.ref ta), .val (.ref ta)] [])) rfl (hb hby d28_19)
  obtain ⟨T4, X4, e4, st4⟩ := getF X3 hx hZ hown (host := "") (Or.inl (hw _ (List.mem_of_getElem? (i := 61) rfl))) Via.refl e3 Cs (g := (mkF m 26 #[.val (.ref sa), .val (.ref ta), .val (.ref ta)] [(.ref sa)])) rfl rfl (hb hby d28_26)
  obtain ⟨T5, X5, e5, st5⟩ := getF X4 hx hZ hown (host := "") (Or.inl (hw _ (List.mem_of_getElem? (i := 61) rfl))) Via.refl e4 Cst (g := (mkF m 30 #[.val (.ref sa), .val (.ref ta), .val (.ref ta)] [(.ref ta), (.int (0 : Int32))])) rfl rfl (hb hby d28_30)
  obtain ⟨T6, X6, e6, st6⟩ := getF X5 hx hZ hown (host := "") (Or.inl (hw _ (List.mem_of_getElem? (i := 54) rfl))) Via.refl e5 Vs (g := (mkF m 37 #[.val (.ref sa), .val (.ref ta), .val (.ref ta)] [(.ref sa)])) rfl rfl (hb hby d28_37)
  obtain ⟨T7, X7, e7, st7⟩ := getF X6 hx hZ hown (host := "") (Or.inl (hw _ (List.mem_of_getElem? (i := 54) rfl))) Via.refl e6 Vst (g := (mkF m 41 #[.val (.ref sa), .val (.ref ta), .val (.ref ta)] [(.ref ta), (.ref sd)])) rfl rfl (hb hby d28_41)
  obtain ⟨_, _, ⟨T8, L8, k8, n8⟩, -, X8, ⟨Lc8, hQ8, l8, y8, z8⟩, st8⟩ := Jvm.LawKit.callS X7 hx (y := (⟨"java/lang/StringLatin1", "equals", "([B[B)Z"⟩ : MethodName)) hown (mvT hZ (hw _ (List.mem_of_getElem? (i := 164) rfl))) (mvT hZ (hw _ (List.mem_of_getElem? (i := 165) rfl))) (mvT hZ (hw _ (List.mem_of_getElem? (i := 166) rfl))) (mvT hZ (hw _ (List.mem_of_getElem? (i := 167) rfl))) (by decide) (sb_leqB (W := 0) (n0 := n0) hZ (hw _ (List.mem_of_getElem? (i := 167) rfl)) (hw _ (List.mem_of_getElem? (i := 166) rfl)) As Ast hcs hds (by decide) (by decide)) (g := (mkF m 44 #[.val (.ref sa), .val (.ref ta), .val (.ref ta)] [(.ref td), (.ref sd)])) rfl (by rw [hml]; rfl) (argsL := [(.ref sd), (.ref td)]) (rest := []) (lenOf pd_285bB5bB29Z rfl) rfl (by show 2 * 0 + _ ≤ _; exact Nat.le_of_eq rfl) (hb hby d28_44) (fun _ _ => ⟨rfl, e7, (by decide : 0 + 0 ≤ _), (by decide : 0 + 0 ≤ _)⟩)
  dsimp only [Pt.U, Pt.locs, Pt.cells, Pt.slots] at X8 l8 y8 z8 st8 hQ8
  subst l8 y8 z8
  rw [if_pos heq] at hQ8
  obtain ⟨rfl, N8q, e8⟩ := hQ8
  have N8 := Fr.app N0 N8q
  obtain ⟨fs, hr, hrun, hended, hW, hsame⟩ := X8.leave (v := some (.int (1 : Int32))) (fun h => by rw [Bd.returns] at h; cases h)
  refine ⟨_, _, pre0 _ ?_, hrun, hended, _, _, rfl, ?_, ⟨_, rfl⟩, hW, hsame.mono (by decide) (by decide)⟩
  · show Steps p.tables e below (s₁.setTop (mkF m 0 #[.val (.ref sa), .val (.ref ta), .unset] [])) _
    refine XS.aloadN X0.here hx rfl (hb hby d28_0) rfl rfl ?_
    show Steps p.tables e below (s₁.setTop (mkF m 1 #[.val (.ref sa), .val (.ref ta), .unset] [(.ref sa)])) _
    refine XS.aloadN X0.here hx rfl (hb hby d28_1) rfl rfl ?_
    show Steps p.tables e below (s₁.setTop (mkF m 2 #[.val (.ref sa), .val (.ref ta), .unset] [(.ref ta), (.ref sa)])) _
    refine Jvm.RoadKit.acmp (g := (mkF m 2 #[.val (.ref sa), .val (.ref ta), .unset] [(.ref ta), (.ref sa)])) X0 hx rfl rfl rfl (pc0 := 2) (pc' := 7) (same := false) rfl (hb hby d28_2) rfl (decide_eq_false fun q => hne (Value.ref.inj q)) (by decide) (by decide) ?_
    show Steps p.tables e below (s₁.setTop (mkF m 7 #[.val (.ref sa), .val (.ref ta), .unset] [])) _
    refine XS.aloadN X0.here hx rfl (hb hby d28_7) rfl rfl ?_
    show Steps p.tables e below (s₁.setTop (mkF m 8 #[.val (.ref sa), .val (.ref ta), .unset] [(.ref ta)])) _
    refine st1 _ ?_
    show Steps p.tables e below (T1.setTop (mkF m 11 #[.val (.ref sa), .val (.ref ta), .unset] [(.int (1 : Int32))])) _
    refine XS.ifNo X1.here hx rfl (hb hby d28_11) rfl ((if0 _ _).trans (feq ((by decide) : ¬ ((1 : Int32) = (0 : Int32)))).1) ?_
    show Steps p.tables e below (T1.setTop (mkF m 14 #[.val (.ref sa), .val (.ref ta), .unset] [])) _
    refine XS.aloadN X1.here hx rfl (hb hby d28_14) rfl rfl ?_
    show Steps p.tables e below (T1.setTop (mkF m 15 #[.val (.ref sa), .val (.ref ta), .unset] [(.ref ta)])) _
    refine st2 _ ?_
    show Steps p.tables e below (T2.setTop (mkF m 18 #[.val (.ref sa), .val (.ref ta), .unset] [(.ref ta)])) _
    refine XS.astoreN X2.here hx rfl (hb hby d28_18) rfl rfl (l' := #[.val (.ref sa), .val (.ref ta), .val (.ref ta)]) rfl ?_
    show Steps p.tables e below (T2.setTop (mkF m 19 #[.val (.ref sa), .val (.ref ta), .val (.ref ta)] [])) _
    refine st3 _ ?_
    show Steps p.tables e below (T3.setTop (mkF m 22 #[.val (.ref sa), .val (.ref ta), .val (.ref ta)] [(.int zc)])) _
    refine XS.ifNo X3.here hx rfl (hb hby d28_22) rfl ((if0 _ _).trans (feq (hzc : ¬ (zc = (0 : Int32)))).1) ?_
    show Steps p.tables e below (T3.setTop (mkF m 25 #[.val (.ref sa), .val (.ref ta), .val (.ref ta)] [])) _
    refine XS.aloadN X3.here hx rfl (hb hby d28_25) rfl rfl ?_
    show Steps p.tables e below (T3.setTop (mkF m 26 #[.val (.ref sa), .val (.ref ta), .val (.ref ta)] [(.ref sa)])) _
    refine st4 _ ?_
    show Steps p.tables e below (T4.setTop (mkF m 29 #[.val (.ref sa), .val (.ref ta), .val (.ref ta)] [(.int (0 : Int32))])) _
    refine XS.aloadN X4.here hx rfl (hb hby d28_29) rfl rfl ?_
    show Steps p.tables e below (T4.setTop (mkF m 30 #[.val (.ref sa), .val (.ref ta), .val (.ref ta)] [(.ref ta), (.int (0 : Int32))])) _
    refine st5 _ ?_
    show Steps p.tables e below (T5.setTop (mkF m 33 #[.val (.ref sa), .val (.ref ta), .val (.ref ta)] [(.int (0 : Int32)), (.int (0 : Int32))])) _
    refine XS.icmpNo X5.here hx rfl (hb hby d28_33) rfl (teq ((by decide) : (0 : Int32) = (0 : Int32))).2 ?_
    show Steps p.tables e below (T5.setTop (mkF m 36 #[.val (.ref sa), .val (.ref ta), .val (.ref ta)] [])) _
    refine XS.aloadN X5.here hx rfl (hb hby d28_36) rfl rfl ?_
    show Steps p.tables e below (T5.setTop (mkF m 37 #[.val (.ref sa), .val (.ref ta), .val (.ref ta)] [(.ref sa)])) _
    refine st6 _ ?_
    show Steps p.tables e below (T6.setTop (mkF m 40 #[.val (.ref sa), .val (.ref ta), .val (.ref ta)] [(.ref sd)])) _
    refine XS.aloadN X6.here hx rfl (hb hby d28_40) rfl rfl ?_
    show Steps p.tables e below (T6.setTop (mkF m 41 #[.val (.ref sa), .val (.ref ta), .val (.ref ta)] [(.ref ta), (.ref sd)])) _
    refine st7 _ ?_
    show Steps p.tables e below (T7.setTop (mkF m 44 #[.val (.ref sa), .val (.ref ta), .val (.ref ta)] [(.ref td), (.ref sd)])) _
    refine st8 _ ?_
    show Steps p.tables e below (T8.setTop (mkF m 47 #[.val (.ref sa), .val (.ref ta), .val (.ref ta)] [(.int (1 : Int32))])) _
    refine XS.ifNo X8.here hx rfl (hb hby d28_47) rfl ((if0 _ _).trans (feq ((by decide) : ¬ ((1 : Int32) = (0 : Int32)))).1) ?_
    show Steps p.tables e below (T8.setTop (mkF m 50 #[.val (.ref sa), .val (.ref ta), .val (.ref ta)] [])) _
    refine XS.iconst X8.here hx rfl (hb hby d28_50) ?_
    show Steps p.tables e below (T8.setTop (mkF m 51 #[.val (.ref sa), .val (.ref ta), .val (.ref ta)] [(.int (1 : Int32))])) _
    refine XS.goto X8.here hx rfl (pc0 := 51) (pc' := 55) rfl (hb hby d28_51) (by decide) (by decide) ?_
    show Steps p.tables e below (T8.setTop (mkF m 55 #[.val (.ref sa), .val (.ref ta), .val (.ref ta)] [(.int (1 : Int32))])) _
    exact retN X8 hx (t := .boolean) Bd.returns (by simp) (hb hby d28_55) hr
  · exact ⟨rfl, N8, e8⟩
theorem d28_54 : decode jdk_42_method_66_code 54 = .ok (.iconst 0, 1) := by decide +kernel
set_option maxRecDepth 65536 in
set_option maxHeartbeats 40000000 in
theorem sb_equals0 (l : Launch) (Z : State) (a0 : Array Value) (hw : ∀ d ∈ tables_1, d.before a0 Z = true) (ws : List Jvm.Cond) (zc : Int32) (sa sd : Addr) (ks : ClassId) (cs : List Int32) (ta td : Addr) (kt : ClassId) (ds : List Int32) (h0 : Heap) (n0 : Nat) (O : Old Z n0 h0) (hE : EnvS Z zc) (hS : Str Z h0 sa sd ks cs) (hT : Str Z h0 ta td kt ds) (hne : ¬ (sa = ta)) (hcs : cs.length ≤ 1000) (hds : ds.length ≤ 1000) (heq : ¬ by8 cs = by8 ds) :
    MetFree l (⟨"java/lang/String", "equals", "(Ljava/lang/Object;)Z"⟩ : MethodName) (head1 (Jvm.Cond.code (⟨"java/lang/String", "equals", "(Ljava/lang/Object;)Z"⟩ : MethodName) jdk_42_method_66_code 3 (some .boolean) :: ws) ({ frames := 2, cells := 0, slots := 0, locals := 54 } : Room)) (fun a U => a = #[(.ref sa), (.ref ta)] ∧ Z.Warmed39 U.vm ∧ U.heap = h0) (fun _ _ _ _ _ => True) (fun _ U o U' => ∃ v L, o = .returned v ∧ Qv (some (.int (0 : Int32))) h0 n0 v U'.heap L ∧ FrameEnd U o U' L ({ frames := 2, cells := 0, slots := 0, locals := 54 } : Room).cells ({ frames := 2, cells := 0, slots := 0, locals := 54 } : Room).slots) := by
  refine MetFree.of_bodySF (plainFor_of_name pn_java_lang_String) hisR ?_
  intro p e s m args below meth c s₁ Bd hml0 hP hK
  obtain ⟨rfl, hZ, hh⟩ := hP
  have hx := Bd.exec
  have hby := Bd.bytes
  have hml : c.maxLocals = 3 := hml0
  have hown : s.vm.findClass "java/lang/String" = some m.cls := findClass_of_methodNamed Bd.named
  have hnm := (name_of_methodNamed Bd.named Bd.method).1
  have X0 : Stand p l e ({ frames := 2, cells := 0, slots := 0, locals := 54 } : Room) s m #[(.ref sa), (.ref ta)] below meth c s₁ [] 0 0 := Stand.of_body Bd
  have e0 : s₁.heap = h0 := by rw [← hh, Bd.state]; rfl
  have N0 := Fr.nil n0
  have pre0 : ∀ t, Steps p.tables e below (s₁.setTop (mkF m 0 #[.val (.ref sa), .val (.ref ta), .unset] [])) t → Steps p.tables e below (s₁.setTop (entryFrame m #[(.ref sa), (.ref ta)] 3)) t := fun t k => castTop (ef_3_RR m sa ta) k
  obtain ⟨Scmp, hzc⟩ := id hE
  obtain ⟨Es, Vs, Cs, As⟩ := id hS
  obtain ⟨Est, Vst, Cst, Ast⟩ := id hT
  obtain ⟨T1, X1, e1, st1⟩ := instY X0 hx hZ hown (hw _ (List.mem_of_getElem? (i := 163) rfl)) e0 (Ins.self Est) (g := (mkF m 8 #[.val (.ref sa), .val (.ref ta), .unset] [(.ref ta)])) rfl rfl (hb hby d28_8)
  obtain ⟨T2, X2, e2, st2⟩ := castY X1 hx hZ hown (hw _ (List.mem_of_getElem? (i := 163) rfl)) e1 (Ins.self Est) (g := (mkF m 15 #[.val (.ref sa), .val (.ref ta), .unset] [(.ref ta)])) rfl rfl (hb hby d28_15)
  obtain ⟨T3, X3, e3, st3⟩ := getS2 X2 hx hZ hown (host := "") (Or.inl (hw _ (List.mem_of_getElem? (i := 60) rfl))) Via.refl e2 (Scmp.ext O.2) (g := (mkF m 19 #[.val (.ref sa), .val (.ref ta), .val (.ref ta)] [])) rfl (hb hby d28_19)
  obtain ⟨T4, X4, e4, st4⟩ := getF X3 hx hZ hown (host := "") (Or.inl (hw _ (List.mem_of_getElem? (i := 61) rfl))) Via.refl e3 Cs (g := (mkF m 26 #[.val (.ref sa), .val (.ref ta), .val (.ref ta)] [(.ref sa)])) rfl rfl (hb hby d28_26)
  obtain ⟨T5, X5, e5, st5⟩ := getF X4 hx hZ hown (host := "") (Or.inl (hw _ (List.mem_of_getElem? (i := 61) rfl))) Via.refl e4 Cst (g := (mkF m 30 #[.val (.ref sa), .val (.ref ta), .val (.ref ta)] [(.ref ta), (.int (0 : Int32))])) rfl rfl (hb hby d28_30)
  obtain ⟨T6, X6, e6, st6⟩ := getF X5 hx hZ hown (host := "") (Or.inl (hw _ (List.mem_of_getElem? (i := 54) rfl))) Via.refl e5 Vs (g := (mkF m 37 #[.val (.ref sa), .val (.ref ta), .val (.ref ta)] [(.ref sa)])) rfl rfl (hb hby d28_37)
  obtain ⟨T7, X7, e7, st7⟩ := getF X6 hx hZ hown (host := "") (Or.inl (hw _ (List.mem_of_getElem? (i := 54) rfl))) Via.refl e6 Vst (g := (mkF m 41 #[.val (.ref sa), .val (.ref ta), .val (.ref ta)] [(.ref ta), (.ref sd)])) rfl rfl (hb hby d28_41)
  obtain ⟨_, _, ⟨T8, L8, k8, n8⟩, -, X8, ⟨Lc8, hQ8, l8, y8, z8⟩, st8⟩ := Jvm.LawKit.callS X7 hx (y := (⟨"java/lang/StringLatin1", "equals", "([B[B)Z"⟩ : MethodName)) hown (mvT hZ (hw _ (List.mem_of_getElem? (i := 164) rfl))) (mvT hZ (hw _ (List.mem_of_getElem? (i := 165) rfl))) (mvT hZ (hw _ (List.mem_of_getElem? (i := 166) rfl))) (mvT hZ (hw _ (List.mem_of_getElem? (i := 167) rfl))) (by decide) (sb_leqB (W := 0) (n0 := n0) hZ (hw _ (List.mem_of_getElem? (i := 167) rfl)) (hw _ (List.mem_of_getElem? (i := 166) rfl)) As Ast hcs hds (by decide) (by decide)) (g := (mkF m 44 #[.val (.ref sa), .val (.ref ta), .val (.ref ta)] [(.ref td), (.ref sd)])) rfl (by rw [hml]; rfl) (argsL := [(.ref sd), (.ref td)]) (rest := []) (lenOf pd_285bB5bB29Z rfl) rfl (by show 2 * 0 + _ ≤ _; exact Nat.le_of_eq rfl) (hb hby d28_44) (fun _ _ => ⟨rfl, e7, (by decide : 0 + 0 ≤ _), (by decide : 0 + 0 ≤ _)⟩)
  dsimp only [Pt.U, Pt.locs, Pt.cells, Pt.slots] at X8 l8 y8 z8 st8 hQ8
  subst l8 y8 z8
  rw [if_neg heq] at hQ8
  obtain ⟨rfl, N8q, e8⟩ := hQ8
  have N8 := Fr.app N0 N8q
  obtain ⟨fs, hr, hrun, hended, hW, hsame⟩ := X8.leave (v := some (.int (0 : Int32))) (fun h => by rw [Bd.returns] at h; cases h)
  refine ⟨_, _, pre0 _ ?_, hrun, hended, _, _, rfl, ?_, ⟨_, rfl⟩, hW, hsame.mono (by decide) (by decide)⟩
  · show Steps p.tables e below (s₁.setTop (mkF m 0 #[.val (.ref sa), .val (.ref ta), .unset] [])) _
    refine XS.aloadN X0.here hx rfl (hb hby d28_0) rfl rfl ?_
    show Steps p.tables e below (s₁.setTop (mkF m 1 #[.val (.ref sa), .val (.ref ta), .unset] [(.ref sa)])) _
    refine XS.aloadN X0.here hx rfl (hb hby d28_1) rfl rfl ?_
    show Steps p.tables e below (s₁.setTop (mkF m 2 #[.val (.ref sa), .val (.ref ta), .unset] [(.ref ta), (.ref sa)])) _
    refine Jvm.RoadKit.acmp (g := (mkF m 2 #[.val (.ref sa), .val (.ref ta), .unset] [(.ref ta), (.ref sa)])) X0 hx rfl rfl rfl (pc0 := 2) (pc' := 7) (same := false) rfl (hb hby d28_2) rfl (decide_eq_false fun q => hne (Value.ref.inj q)) (by decide) (by decide) ?_
    show Steps p.tables e below (s₁.setTop (mkF m 7 #[.val (.ref sa), .val (.ref ta), .unset] [])) _
    refine XS.aloadN X0.here hx rfl (hb hby d28_7) rfl rfl ?_
    show Steps p.tables e below (s₁.setTop (mkF m 8 #[.val (.ref sa), .val (.ref ta), .unset] [(.ref ta)])) _
    refine st1 _ ?_
    show Steps p.tables e below (T1.setTop (mkF m 11 #[.val (.ref sa), .val (.ref ta), .unset] [(.int (1 : Int32))])) _
    refine XS.ifNo X1.here hx rfl (hb hby d28_11) rfl ((if0 _ _).trans (feq ((by decide) : ¬ ((1 : Int32) = (0 : Int32)))).1) ?_
    show Steps p.tables e below (T1.setTop (mkF m 14 #[.val (.ref sa), .val (.ref ta), .unset] [])) _
    refine XS.aloadN X1.here hx rfl (hb hby d28_14) rfl rfl ?_
    show Steps p.tables e below (T1.setTop (mkF m 15 #[.val (.ref sa), .val (.ref ta), .unset] [(.ref ta)])) _
    refine st2 _ ?_
    show Steps p.tables e below (T2.setTop (mkF m 18 #[.val (.ref sa), .val (.ref ta), .unset] [(.ref ta)])) _
    refine XS.astoreN X2.here hx rfl (hb hby d28_18) rfl rfl (l' := #[.val (.ref sa), .val (.ref ta), .val (.ref ta)]) rfl ?_
    show Steps p.tables e below (T2.setTop (mkF m 19 #[.val (.ref sa), .val (.ref ta), .val (.ref ta)] [])) _
    refine st3 _ ?_
    show Steps p.tables e below (T3.setTop (mkF m 22 #[.val (.ref sa), .val (.ref ta), .val (.ref ta)] [(.int zc)])) _
    refine XS.ifNo X3.here hx rfl (hb hby d28_22) rfl ((if0 _ _).trans (feq (hzc : ¬ (zc = (0 : Int32)))).1) ?_
    show Steps p.tables e below (T3.setTop (mkF m 25 #[.val (.ref sa), .val (.ref ta), .val (.ref ta)] [])) _
    refine XS.aloadN X3.here hx rfl (hb hby d28_25) rfl rfl ?_
    show Steps p.tables e below (T3.setTop (mkF m 26 #[.val (.ref sa), .val (.ref ta), .val (.ref ta)] [(.ref sa)])) _
    refine st4 _ ?_
    show Steps p.tables e below (T4.setTop (mkF m 29 #[.val (.ref sa), .val (.ref ta), .val (.ref ta)] [(.int (0 : Int32))])) _
    refine XS.aloadN X4.here hx rfl (hb hby d28_29) rfl rfl ?_
    show Steps p.tables e below (T4.setTop (mkF m 30 #[.val (.ref sa), .val (.ref ta), .val (.ref ta)] [(.ref ta), (.int (0 : Int32))])) _
    refine st5 _ ?_
    show Steps p.tables e below (T5.setTop (mkF m 33 #[.val (.ref sa), .val (.ref ta), .val (.ref ta)] [(.int (0 : Int32)), (.int (0 : Int32))])) _
    refine XS.icmpNo X5.here hx rfl (hb hby d28_33) rfl (teq ((by decide) : (0 : Int32) = (0 : Int32))).2 ?_
    show Steps p.tables e below (T5.setTop (mkF m 36 #[.val (.ref sa), .val (.ref ta), .val (.ref ta)] [])) _
    refine XS.aloadN X5.here hx rfl (hb hby d28_36) rfl rfl ?_
    show Steps p.tables e below (T5.setTop (mkF m 37 #[.val (.ref sa), .val (.ref ta), .val (.ref ta)] [(.ref sa)])) _
    refine st6 _ ?_
    show Steps p.tables e below (T6.setTop (mkF m 40 #[.val (.ref sa), .val (.ref ta), .val (.ref ta)] [(.ref sd)])) _
    refine XS.aloadN X6.here hx rfl (hb hby d28_40) rfl rfl ?_
    show Steps p.tables e below (T6.setTop (mkF m 41 #[.val (.ref sa), .val (.ref ta), .val (.ref ta)] [(.ref ta), (.ref sd)])) _
    refine st7 _ ?_
    show Steps p.tables e below (T7.setTop (mkF m 44 #[.val (.ref sa), .val (.ref ta), .val (.ref ta)] [(.ref td), (.ref sd)])) _
    refine st8 _ ?_
    show Steps p.tables e below (T8.setTop (mkF m 47 #[.val (.ref sa), .val (.ref ta), .val (.ref ta)] [(.int (0 : Int32))])) _
    refine XS.ifYes X8.here hx rfl (pc0 := 47) (pc' := 54) rfl (hb hby d28_47) rfl ((if0 _ _).trans (teq ((by decide) : (0 : Int32) = (0 : Int32))).1) (by decide) (by decide) ?_
    show Steps p.tables e below (T8.setTop (mkF m 54 #[.val (.ref sa), .val (.ref ta), .val (.ref ta)] [])) _
    refine XS.iconst X8.here hx rfl (hb hby d28_54) ?_
    show Steps p.tables e below (T8.setTop (mkF m 55 #[.val (.ref sa), .val (.ref ta), .val (.ref ta)] [(.int (0 : Int32))])) _
    exact retN X8 hx (t := .boolean) Bd.returns (by simp) (hb hby d28_55) hr
  · exact ⟨rfl, N8, e8⟩
abbrev EL : List (String × Nat) := consts_1
theorem own_EW {Z : State} {a0 : Array Value} (hw : ∀ d ∈ tables_1, d.before a0 Z = true) : EW Z a0 EL := (EW.cons (hw _ (List.mem_of_getElem? (i := 89) rfl)) (by decide) (EW.cons (hw _ (List.mem_of_getElem? (i := 4) rfl)) (by decide) (EW.cons (hw _ (List.mem_of_getElem? (i := 176) rfl)) (by decide) (EW.cons (hw _ (List.mem_of_getElem? (i := 188) rfl)) (by decide) (EW.cons (hw _ (List.mem_of_getElem? (i := 170) rfl)) (by decide) (EW.cons (hw _ (List.mem_of_getElem? (i := 182) rfl)) (by decide) EW.nil))))))
theorem own_wS {Z : State} {a0 : Array Value} (hw : ∀ d ∈ tables_1, d.before a0 Z = true) : ∀ a ∈ Bundle.stringAtoms, a.before a0 Z = true := fun a ha => by
  simp only [Bundle.stringAtoms, List.mem_cons, List.not_mem_nil, or_false] at ha
  rcases ha with rfl | rfl | rfl | rfl | rfl | rfl | rfl
  · exact (hw _ (List.mem_of_getElem? (i := 5) rfl))
  · exact (hw _ (List.mem_of_getElem? (i := 6) rfl))
  · exact (hw _ (List.mem_of_getElem? (i := 7) rfl))
  · exact (hw _ (List.mem_of_getElem? (i := 8) rfl))
  · exact (hw _ (List.mem_of_getElem? (i := 9) rfl))
  · exact (hw _ (List.mem_of_getElem? (i := 10) rfl))
  · exact (hw _ (List.mem_of_getElem? (i := 11) rfl))
theorem d1_0 : decode prog_7_method_4_code 0 = .ok (.new 46, 3) := by decide +kernel
theorem d1_3 : decode prog_7_method_4_code 3 = .ok (.dup, 1) := by decide +kernel
theorem pd_2829V : parseMethodDescriptor "()V" = some ⟨[], none⟩ := by decide +kernel
theorem d1_4 : decode prog_7_method_4_code 4 = .ok (.invokespecial 48, 3) := by decide +kernel
theorem d1_7 : decode prog_7_method_4_code 7 = .ok (.aload_n 0, 1) := by decide +kernel
theorem d1_8 : decode prog_7_method_4_code 8 = .ok (.getfield 38, 3) := by decide +kernel
theorem pd_28Ljava2flang2fString3b29Ljava2flang2fStringBuilder3b : parseMethodDescriptor "(Ljava/lang/String;)Ljava/lang/StringBuilder;" = some ⟨[(.object "java/lang/String")], some (.object "java/lang/StringBuilder")⟩ := by decide +kernel
theorem d1_11 : decode prog_7_method_4_code 11 = .ok (.invokevirtual 51, 3) := by decide +kernel
def lit0 : List Int32 := [64]
theorem d1_14 : decode prog_7_method_4_code 14 = .ok (.ldc 55, 2) := by decide +kernel
theorem d1_16 : decode prog_7_method_4_code 16 = .ok (.invokevirtual 51, 3) := by decide +kernel
theorem d1_19 : decode prog_7_method_4_code 19 = .ok (.aload_n 0, 1) := by decide +kernel
theorem d1_20 : decode prog_7_method_4_code 20 = .ok (.getfield 42, 3) := by decide +kernel
theorem pd_28I29Ljava2flang2fStringBuilder3b : parseMethodDescriptor "(I)Ljava/lang/StringBuilder;" = some ⟨[.int], some (.object "java/lang/StringBuilder")⟩ := by decide +kernel
theorem d1_23 : decode prog_7_method_4_code 23 = .ok (.invokevirtual 57, 3) := by decide +kernel
theorem pd_2829Ljava2flang2fString3b : parseMethodDescriptor "()Ljava/lang/String;" = some ⟨[], some (.object "java/lang/String")⟩ := by decide +kernel
theorem d1_26 : decode prog_7_method_4_code 26 = .ok (.invokevirtual 60, 3) := by decide +kernel
theorem d1_29 : decode prog_7_method_4_code 29 = .ok (.areturn, 1) := by decide +kernel
theorem pn_com_example_saturation_saturation_Measure : plainName "com/example/saturation/saturation/Measure" = true := by first | (simp [plainName, overriddenIn]; done) | decide +kernel
set_option maxRecDepth 65536 in
set_option maxHeartbeats 40000000 in
theorem rm_label (l : Launch) (Z : State) (a0 : Array Value) (hw : ∀ d ∈ tables_1, d.before a0 Z = true) (ws : List Jvm.Cond) (zc : Int32) (me ab abd : Addr) (kab : ClassId) (cs : List Int32) (dp : Int32) (ist d1 d2 : Addr) (h0 : Heap) (n0 : Nat) (O : Old Z n0 h0) (hE : EnvS Z zc) (hD : EnvD Z ist d1 d2) (Fa : Fld Z h0 me "com/example/saturation/saturation/Measure" "abbreviation" "Ljava/lang/String;" (.ref ab)) (Fd : Fld Z h0 me "com/example/saturation/saturation/Measure" "depth" "I" (.int dp)) (hS : Str Z h0 ab abd kab cs) (hlen : cs.length + 1 + (decI dp).length ≤ 15) (hEL : EW Z a0 EL) :
    MetFree l (⟨"com/example/saturation/saturation/Measure", "label", "()Ljava/lang/String;"⟩ : MethodName) (head1 (Jvm.Cond.code (⟨"com/example/saturation/saturation/Measure", "label", "()Ljava/lang/String;"⟩ : MethodName) prog_7_method_4_code 1 (some (.object "java/lang/String")) :: ws) ({ frames := 6, cells := 6, slots := 232, locals := 106 } : Room)) (fun a U => a = #[(.ref me)] ∧ Z.Warmed39 U.vm ∧ U.heap = h0 ∧ CHv Z EL U.vm h0) (fun _ _ _ _ _ => True) (fun _ U o U' => ∃ v L, o = .returned v ∧ Qx h0 n0 [] (fun x h => ∃ t k, Str Z h x t k (((([] : List Int32) ++ cs) ++ lit0) ++ decI dp) ∧ h0.size ≤ x ∧ h0.size ≤ t) v U'.heap L ∧ CHr Z EL U.vm U.heap U'.vm U'.heap ∧ ReturnedEndW U o U' L ({ frames := 6, cells := 6, slots := 232, locals := 106 } : Room).cells ({ frames := 6, cells := 6, slots := 232, locals := 106 } : Room).slots) := by
  refine MetFree.of_bodySF (plainFor_of_name pn_com_example_saturation_saturation_Measure) hisR ?_
  intro p e s m args below meth c s₁ Bd hml0 hP hK
  obtain ⟨rfl, hZ, hh, hCH⟩ := hP
  have hx := Bd.exec
  have hby := Bd.bytes
  have hml : c.maxLocals = 1 := hml0
  have hown : s.vm.findClass "com/example/saturation/saturation/Measure" = some m.cls := findClass_of_methodNamed Bd.named
  have hnm := (name_of_methodNamed Bd.named Bd.method).1
  have X0 : Stand p l e ({ frames := 6, cells := 6, slots := 232, locals := 106 } : Room) (s.setVm s.vm) m #[(.ref me)] below meth c s₁ [] 0 0 := Stand.of_body Bd
  have e0 : s₁.heap = h0 := by rw [← hh, Bd.state]; rfl
  have N0 := Fr.nil n0
  have pre0 : ∀ t, Steps p.tables e below (s₁.setTop (mkF m 0 #[.val (.ref me)] [])) t → Steps p.tables e below (s₁.setTop (entryFrame m #[(.ref me)] 1)) t := fun t k => castTop (ef_1_R m me) k
  have hS0 : s.Since s.vm 0 := (State.WarmedH.refl s).since 0
  have hk0 : 0 ≤ h0.size := Nat.zero_le _
  have CR0 : CHr Z EL s.vm h0 s.vm h0 := CHr.refl hCH
  obtain ⟨Es1, Vs1, Cs1, As1⟩ := id hS
  obtain ⟨T2, h2, X2, e2, E2, A2, D2, -, st2⟩ := newO X0 hx hZ hown (hw _ (List.mem_of_getElem? (i := 17) rfl)) (hw _ (List.mem_of_getElem? (i := 18) rfl)) (hw _ (List.mem_of_getElem? (i := 19) rfl)) e0 (g := (mkF m 0 #[.val (.ref me)] [])) rfl (hb hby d1_0) (by decide) (by decide)
  obtain ⟨b2, g2⟩ : ∃ z, z = h0.size := ⟨_, rfl⟩
  rw [← g2] at A2 D2 st2
  have gb2 : n0 ≤ b2 := by have q1 := O.1; have q2 := O.2.1; omega
  have gs2 : h0.size ≤ b2 := by have q := ((Keep.refl h0 [])).1; omega
  have O2 : Old Z n0 h2 := O.ext E2
  have Kp2 : Keep h0 h2 [] := (Keep.refl h0 []).ext E2
  have Cl2 : CHr Z EL s.vm h0 s.vm h2 := CHr.ext E2 hCH
  have CR2 : CHr Z EL s.vm h0 s.vm h2 := CR0.trans Cl2
  have CH2 := CR2.1
  have hk2 : _ ≤ h2.size := Nat.le_trans hk0 Cl2.2.1
  have Sfb2_3 : Safe Z EL s.vm h2 b2 := Safe.ext E2 hCH (Safe.new (Nat.le_of_eq g2.symm))
  have F2_value : Fld Z h2 b2 "java/lang/AbstractStringBuilder" "value" "[B" .null := D2 (Or.inl (hw _ (List.mem_of_getElem? (i := 34) rfl))) (ty := (.array .byte)) (by decide)
  have F2_coder : Fld Z h2 b2 "java/lang/AbstractStringBuilder" "coder" "B" (.int (0 : Int32)) := D2 (Or.inl (hw _ (List.mem_of_getElem? (i := 36) rfl))) (ty := .byte) (by decide)
  have F2_count : Fld Z h2 b2 "java/lang/AbstractStringBuilder" "count" "I" (.int (0 : Int32)) := D2 (Or.inl (hw _ (List.mem_of_getElem? (i := 63) rfl))) (ty := .int) (by decide)
  have f4 : Fld Z h2 me "com/example/saturation/saturation/Measure" "abbreviation" "Ljava/lang/String;" (.ref ab) := (Fa.ext E2)
  have f5 : Fld Z h2 me "com/example/saturation/saturation/Measure" "depth" "I" (.int dp) := (Fd.ext E2)
  have f6 : Exa Z h2 ab "java/lang/String" := (Es1.ext E2)
  have f7 : Fld Z h2 ab "java/lang/String" "value" "[B" (.ref abd) := (Vs1.ext E2)
  have f8 : Fld Z h2 ab "java/lang/String" "coder" "B" (.int (0 : Int32)) := (Cs1.ext E2)
  have f9 : Arv Z h2 abd kab .byte (Int32.ofNat cs.length) (by8 cs) (.int (0 : Int32)) := (As1.ext E2)
  obtain ⟨_, _, ⟨T10, L10, k10, n10⟩, -, X10, ⟨Lc10, hQ10, l10, y10, z10⟩, st10⟩ := X2.specialBack hx (y := (⟨"java/lang/StringBuilder", "<init>", "()V"⟩ : MethodName)) rfl hown (mvT hZ (hw _ (List.mem_of_getElem? (i := 20) rfl))) (mvT hZ (hw _ (List.mem_of_getElem? (i := 21) rfl))) (mvT hZ (hw _ (List.mem_of_getElem? (i := 22) rfl))) (by decide) (backOf (W := 1) (sb_sbInit l Z a0 hw [] zc b2 h2 n0 O2 hE A2 F2_value F2_coder F2_count gb2) hZ (hw _ (List.mem_of_getElem? (i := 22) rfl)) (hw _ (List.mem_of_getElem? (i := 19) rfl)) (by decide) (by decide)) (g := (mkF m 4 #[.val (.ref me)] [(.ref b2), (.ref b2)])) rfl (by rw [hml]; rfl) (Steps.refl _) (a := b2) (argsL := []) (rest := [(.ref b2)]) (lenOf pd_2829V rfl) rfl (by show 2 * 0 + _ ≤ _; exact Nat.le_of_eq rfl) (hb hby d1_4) (fun _ _ => ⟨rfl, e2, (by decide : 1 + 1 ≤ _), (by decide : 4 + 16 ≤ _)⟩)
  dsimp only [Pt.U, Pt.locs, Pt.cells, Pt.slots] at X10 l10 y10 z10 st10 hQ10
  subst l10 y10 z10
  obtain ⟨rfl, N10q, K10, ⟨da10, kd10, Pb10, gd10⟩⟩ := hQ10
  have N10 := Fr.app N0 N10q
  have gz10 : h0.size ≤ da10 := Nat.le_trans Kp2.1 gd10
  have gn10 : n0 ≤ da10 := by have q1 := O2.1; have q2 := O2.2.1; omega
  have O10 : Old Z n0 T10.heap := O2.keep K10 (allS (P := (n0 ≤ ·)) gb2 all0)
  have Kp10 : Keep h0 T10.heap [] := Kp2.trans K10 (allS (P := (fun x => x ∈ [] ∨ h0.size ≤ x)) (Or.inr gs2) all0)
  have Cl10 : CHr Z EL s.vm h2 s.vm T10.heap := CHr.keep K10 (sfS Sfb2_3 sf0) CH2
  have Sfb2_10 : Safe Z EL s.vm T10.heap b2 := Cl10.safe A2.lt Sfb2_3
  have CR10 : CHr Z EL s.vm h0 s.vm T10.heap := CR2.trans Cl10
  have CH10 := CR10.1
  have hk10 : _ ≤ T10.heap.size := Nat.le_trans hk2 Cl10.2.1
  obtain ⟨Eb10, Vb10, Cb10, Nb10, Ab10⟩ := id Pb10
  have Sfda10_11 : Safe Z EL s.vm T10.heap da10 := (Safe.keep K10 (sfS Sfb2_3 sf0) CH2 (Safe.new gd10))
  have f12 : Fld Z T10.heap me "com/example/saturation/saturation/Measure" "abbreviation" "Ljava/lang/String;" (.ref ab) := (f4.keep K10 (ninS (Nat.ne_of_lt (Nat.lt_of_lt_of_le Fd.lt (Nat.le_of_eq g2.symm))) nin0))
  obtain ⟨T13, X13, e13, st13⟩ := getF X10 hx hZ hown (host := "") (Or.inl (hw _ (List.mem_of_getElem? (i := 37) rfl))) Via.refl rfl f12 (g := (mkF m 8 #[.val (.ref me)] [(.ref me), (.ref b2)])) rfl rfl (hb hby d1_8)
  have f14 : Exa Z T10.heap ab "java/lang/String" := (f6.keep K10)
  have f15 : Fld Z T10.heap ab "java/lang/String" "value" "[B" (.ref abd) := (f7.keep K10 (ninS (Nat.ne_of_lt (Nat.lt_of_lt_of_le Cs1.lt (Nat.le_of_eq g2.symm))) nin0))
  have f16 : Fld Z T10.heap ab "java/lang/String" "coder" "B" (.int (0 : Int32)) := (f8.keep K10 (ninS (Nat.ne_of_lt (Nat.lt_of_lt_of_le Cs1.lt (Nat.le_of_eq g2.symm))) nin0))
  have f17 : Arv Z T10.heap abd kab .byte (Int32.ofNat cs.length) (by8 cs) (.int (0 : Int32)) := (f9.keep K10 (ninS (Nat.ne_of_lt (Nat.lt_of_lt_of_le As1.lt (Nat.le_of_eq g2.symm))) nin0))
  obtain ⟨cq18, kq18, q18a, q18b, q18c⟩ := isOf hZ e13 Eb10
  obtain ⟨_, _, ⟨T18, L18, k18, n18⟩, -, X18, ⟨Lc18, hQ18, l18, y18, z18⟩, st18⟩ := X13.virtualBack hx (y := (⟨"java/lang/StringBuilder", "append", "(Ljava/lang/String;)Ljava/lang/StringBuilder;"⟩ : MethodName)) (z := (⟨"java/lang/StringBuilder", "append", "(Ljava/lang/String;)Ljava/lang/StringBuilder;"⟩ : MethodName)) hown (mvT hZ (hw _ (List.mem_of_getElem? (i := 39) rfl))) (mvT hZ (hw _ (List.mem_of_getElem? (i := 40) rfl))) (notFace_of_selects (args := #[]) (mvT hZ (hw _ (List.mem_of_getElem? (i := 42) rfl)))) (mvT hZ (hw _ (List.mem_of_getElem? (i := 42) rfl))) (mvT hZ (hw _ (List.mem_of_getElem? (i := 41) rfl))) (by decide) (backOf (W := 0) (sb_sbS l Z a0 hw [] zc b2 da10 kd10 16 ([] : List Int32) ab abd kab cs T10.heap n0 O10 hE ⟨Eb10, Vb10, Cb10, Nb10, Ab10⟩ ⟨f14, f15, f16, f17⟩ (by have q := decI_length dp; simp only [List.length_append, List.length_nil] at *; have : lit0.length = 1 := rfl; omega) (by decide) (Nat.ne_of_lt (Nat.lt_of_lt_of_le f9.lt gd10)) gb2 gn10 (Nat.ne_of_lt (Nat.lt_of_lt_of_le F2_count.lt gd10))) hZ (hw _ (List.mem_of_getElem? (i := 43) rfl)) (hw _ (List.mem_of_getElem? (i := 19) rfl)) (by decide) (by decide)) q18a q18c (g := (mkF m 11 #[.val (.ref me)] [(.ref ab), (.ref b2)])) rfl (by rw [hml]; rfl) (Steps.refl _) (argsL := [(.ref ab)]) (rest := []) (lenOf pd_28Ljava2flang2fString3b29Ljava2flang2fStringBuilder3b rfl) rfl (by show 2 * 0 + _ ≤ _; exact Nat.le_of_eq rfl) (hb hby d1_11) (fun _ _ => ⟨rfl, e13, (by decide : 2 + 0 ≤ _), (by decide : 20 + 0 ≤ _)⟩)
  dsimp only [Pt.U, Pt.locs, Pt.cells, Pt.slots] at X18 l18 y18 z18 st18 hQ18
  subst l18 y18 z18
  obtain ⟨rfl, N18q, K18, Pb18⟩ := hQ18
  have N18 := Fr.app N10 N18q
  have O18 : Old Z n0 T18.heap := O10.keep K18 (allS (P := (n0 ≤ ·)) gb2 (allS (P := (n0 ≤ ·)) gn10 all0))
  have Kp18 : Keep h0 T18.heap [] := Kp10.trans K18 (allS (P := (fun x => x ∈ [] ∨ h0.size ≤ x)) (Or.inr gs2) (allS (P := (fun x => x ∈ [] ∨ h0.size ≤ x)) (Or.inr gz10) all0))
  have Cl18 : CHr Z EL s.vm T10.heap s.vm T18.heap := CHr.keep K18 (sfS Sfb2_10 (sfS Sfda10_11 sf0)) CH10
  have Sfb2_18 : Safe Z EL s.vm T18.heap b2 := Cl18.safe Eb10.lt Sfb2_10
  have Sfda10_18 : Safe Z EL s.vm T18.heap da10 := Cl18.safe Ab10.lt Sfda10_11
  have CR18 : CHr Z EL s.vm h0 s.vm T18.heap := CR10.trans Cl18
  have CH18 := CR18.1
  have hk18 : _ ≤ T18.heap.size := Nat.le_trans hk10 Cl18.2.1
  obtain ⟨Eb18, Vb18, Cb18, Nb18, Ab18⟩ := id Pb18
  have f19 : Fld Z T18.heap me "com/example/saturation/saturation/Measure" "abbreviation" "Ljava/lang/String;" (.ref ab) := (f12.keep K18 (ninS (Nat.ne_of_lt (Nat.lt_of_lt_of_le Fd.lt (Nat.le_of_eq g2.symm))) (ninS (Nat.ne_of_lt (Nat.lt_of_lt_of_le f5.lt gd10)) nin0)))
  have f20 : Fld Z T18.heap me "com/example/saturation/saturation/Measure" "depth" "I" (.int dp) := ((f5.keep K10 (ninS (Nat.ne_of_lt (Nat.lt_of_lt_of_le Fd.lt (Nat.le_of_eq g2.symm))) nin0)).keep K18 (ninS (Nat.ne_of_lt (Nat.lt_of_lt_of_le Fd.lt (Nat.le_of_eq g2.symm))) (ninS (Nat.ne_of_lt (Nat.lt_of_lt_of_le f5.lt gd10)) nin0)))
  have f21 : Exa Z T18.heap ab "java/lang/String" := (f14.keep K18)
  have f22 : Fld Z T18.heap ab "java/lang/String" "value" "[B" (.ref abd) := (f15.keep K18 (ninS (Nat.ne_of_lt (Nat.lt_of_lt_of_le Cs1.lt (Nat.le_of_eq g2.symm))) (ninS (Nat.ne_of_lt (Nat.lt_of_lt_of_le f8.lt gd10)) nin0)))
  have f23 : Fld Z T18.heap ab "java/lang/String" "coder" "B" (.int (0 : Int32)) := (f16.keep K18 (ninS (Nat.ne_of_lt (Nat.lt_of_lt_of_le Cs1.lt (Nat.le_of_eq g2.symm))) (ninS (Nat.ne_of_lt (Nat.lt_of_lt_of_le f8.lt gd10)) nin0)))
  have f24 : Arv Z T18.heap abd kab .byte (Int32.ofNat cs.length) (by8 cs) (.int (0 : Int32)) := (f17.keep K18 (ninS (Nat.ne_of_lt (Nat.lt_of_lt_of_le As1.lt (Nat.le_of_eq g2.symm))) (ninS (Nat.ne_of_lt (Nat.lt_of_lt_of_le f9.lt gd10)) nin0)))
  obtain ⟨sa25, T25, h25, k25, sd25, kc25, X25, e25, E25, hS25, hk25, hZ25, ho25, Es25, Cs25, Vs25, As25, la25, lb25, Cq25, hL25, hne25, st25⟩ := ldcCH X18 hx hZ hown (hw _ (List.mem_of_getElem? (i := 89) rfl)) (own_wS hw) rfl hS0 hk18 hEL (by simp [EL, consts_1]) CH18 (vs := by8 lit0) (z := Int32.ofNat lit0.length) ⟨by decide, rfl⟩ (by decide) (by decide) (g := (mkF m 14 #[.val (.ref me)] [(.ref b2)])) rfl (hb hby d1_14) (n := 4) (by decide) (by decide) (by decide) (by decide)
  have O25 : Old Z n0 h25 := O18.ext E25
  have Kp25 : Keep h0 h25 [] := Kp18.ext E25
  have Cl25 : CHr Z EL s.vm T18.heap T25.vm h25 := Cq25
  have Sfb2_25 : Safe Z EL T25.vm h25 b2 := Cl25.safe Eb18.lt Sfb2_18
  have Sfda10_25 : Safe Z EL T25.vm h25 da10 := Cl25.safe Ab18.lt Sfda10_18
  have CR25 : CHr Z EL s.vm h0 T25.vm h25 := CR18.trans Cl25
  have CH25 := CR25.1
  have f26 : Exa Z h25 b2 "java/lang/StringBuilder" := (Eb18.ext E25)
  have f27 : Arv Z h25 da10 kd10 .byte (Int32.ofNat 16) (by8 (([] : List Int32) ++ cs)) (.int (0 : Int32)) := (Ab18.ext E25)
  have f28 : Fld Z h25 b2 "java/lang/AbstractStringBuilder" "value" "[B" (.ref da10) := (Vb18.ext E25)
  have f29 : Fld Z h25 b2 "java/lang/AbstractStringBuilder" "coder" "B" (.int (0 : Int32)) := (Cb18.ext E25)
  have f30 : Fld Z h25 b2 "java/lang/AbstractStringBuilder" "count" "I" (.int (Int32.ofNat (([] : List Int32) ++ cs).length)) := (Nb18.ext E25)
  obtain ⟨cq31, kq31, q31a, q31b, q31c⟩ := isOf hZ25 e25 f26
  obtain ⟨_, _, ⟨T31, L31, k31, n31⟩, -, X31, ⟨Lc31, hQ31, l31, y31, z31⟩, st31⟩ := X25.virtualBack hx (y := (⟨"java/lang/StringBuilder", "append", "(Ljava/lang/String;)Ljava/lang/StringBuilder;"⟩ : MethodName)) (z := (⟨"java/lang/StringBuilder", "append", "(Ljava/lang/String;)Ljava/lang/StringBuilder;"⟩ : MethodName)) ho25 (mvT hZ25 (hw _ (List.mem_of_getElem? (i := 39) rfl))) (mvT hZ25 (hw _ (List.mem_of_getElem? (i := 40) rfl))) (notFace_of_selects (args := #[]) (mvT hZ25 (hw _ (List.mem_of_getElem? (i := 42) rfl)))) (mvT hZ25 (hw _ (List.mem_of_getElem? (i := 42) rfl))) (mvT hZ25 (hw _ (List.mem_of_getElem? (i := 41) rfl))) (by decide) (backOf (W := 0) (sb_sbS l Z a0 hw [] zc b2 da10 kd10 16 (([] : List Int32) ++ cs) sa25 sd25 kc25 lit0 h25 n0 O25 hE ⟨f26, f28, f29, f30, f27⟩ ⟨Es25, Vs25, Cs25, As25⟩ (by have q := decI_length dp; simp only [List.length_append, List.length_nil] at *; have : lit0.length = 1 := rfl; omega) (by decide) (Ne.symm (hne25 _ Sfda10_25).2) gb2 gn10 (Nat.ne_of_lt (Nat.lt_of_lt_of_le F2_count.lt gd10))) hZ25 (hw _ (List.mem_of_getElem? (i := 43) rfl)) (hw _ (List.mem_of_getElem? (i := 19) rfl)) (by decide) (by decide)) q31a q31c (g := (mkF m 16 #[.val (.ref me)] [(.ref sa25), (.ref b2)])) rfl (by rw [hml]; rfl) (Steps.refl _) (argsL := [(.ref sa25)]) (rest := []) (lenOf pd_28Ljava2flang2fString3b29Ljava2flang2fStringBuilder3b rfl) rfl (by show 2 * 0 + _ ≤ _; exact Nat.le_of_eq rfl) (hb hby d1_16) (fun _ _ => ⟨rfl, e25, (by decide : 4 + 0 ≤ _), (by decide : 28 + 0 ≤ _)⟩)
  dsimp only [Pt.U, Pt.locs, Pt.cells, Pt.slots] at X31 l31 y31 z31 st31 hQ31
  subst l31 y31 z31
  obtain ⟨rfl, N31q, K31, Pb31⟩ := hQ31
  have N31 := Fr.app N18 N31q
  have O31 : Old Z n0 T31.heap := O25.keep K31 (allS (P := (n0 ≤ ·)) gb2 (allS (P := (n0 ≤ ·)) gn10 all0))
  have Kp31 : Keep h0 T31.heap [] := Kp25.trans K31 (allS (P := (fun x => x ∈ [] ∨ h0.size ≤ x)) (Or.inr gs2) (allS (P := (fun x => x ∈ [] ∨ h0.size ≤ x)) (Or.inr gz10) all0))
  have Cl31 : CHr Z EL T25.vm h25 T25.vm T31.heap := CHr.keep K31 (sfS Sfb2_25 (sfS Sfda10_25 sf0)) CH25
  have Sfb2_31 : Safe Z EL T25.vm T31.heap b2 := Cl31.safe f26.lt Sfb2_25
  have Sfda10_31 : Safe Z EL T25.vm T31.heap da10 := Cl31.safe f27.lt Sfda10_25
  have CR31 : CHr Z EL s.vm h0 T25.vm T31.heap := CR25.trans Cl31
  have CH31 := CR31.1
  have hk31 : _ ≤ T31.heap.size := Nat.le_trans hk25 Cl31.2.1
  obtain ⟨Eb31, Vb31, Cb31, Nb31, Ab31⟩ := id Pb31
  have f32 : Fld Z T31.heap me "com/example/saturation/saturation/Measure" "depth" "I" (.int dp) := ((f20.ext E25).keep K31 (ninS (Nat.ne_of_lt (Nat.lt_of_lt_of_le Fd.lt (Nat.le_of_eq g2.symm))) (ninS (Nat.ne_of_lt (Nat.lt_of_lt_of_le f5.lt gd10)) nin0)))
  obtain ⟨T33, X33, e33, st33⟩ := getF X31 hx hZ25 ho25 (host := "") (Or.inl (hw _ (List.mem_of_getElem? (i := 90) rfl))) Via.refl rfl f32 (g := (mkF m 20 #[.val (.ref me)] [(.ref me), (.ref b2)])) rfl rfl (hb hby d1_20)
  obtain ⟨cq34, kq34, q34a, q34b, q34c⟩ := isOf hZ25 e33 Eb31
  obtain ⟨_, _, ⟨T34, L34, k34, n34⟩, -, X34, ⟨Lc34, hQ34, l34, y34, z34⟩, st34⟩ := X33.virtualBack hx (y := (⟨"java/lang/StringBuilder", "append", "(I)Ljava/lang/StringBuilder;"⟩ : MethodName)) (z := (⟨"java/lang/StringBuilder", "append", "(I)Ljava/lang/StringBuilder;"⟩ : MethodName)) ho25 (mvT hZ25 (hw _ (List.mem_of_getElem? (i := 92) rfl))) (mvT hZ25 (hw _ (List.mem_of_getElem? (i := 93) rfl))) (notFace_of_selects (args := #[]) (mvT hZ25 (hw _ (List.mem_of_getElem? (i := 95) rfl)))) (mvT hZ25 (hw _ (List.mem_of_getElem? (i := 95) rfl))) (mvT hZ25 (hw _ (List.mem_of_getElem? (i := 94) rfl))) (by decide) (backOf (W := 0) (sb_sbI l Z a0 hw [] zc b2 da10 kd10 16 ((([] : List Int32) ++ cs) ++ lit0) dp ist d1 d2 T31.heap n0 O31 hE ⟨Eb31, Vb31, Cb31, Nb31, Ab31⟩ hD (by have q := decI_length dp; simp only [List.length_append, List.length_nil] at *; have : lit0.length = 1 := rfl; omega) (by decide) gb2 gn10 (Nat.ne_of_lt (Nat.lt_of_lt_of_le F2_count.lt gd10))) hZ25 (hw _ (List.mem_of_getElem? (i := 96) rfl)) (hw _ (List.mem_of_getElem? (i := 19) rfl)) (by decide) (by decide)) q34a q34c (g := (mkF m 23 #[.val (.ref me)] [(.int dp), (.ref b2)])) rfl (by rw [hml]; rfl) (Steps.refl _) (argsL := [(.int dp)]) (rest := []) (lenOf pd_28I29Ljava2flang2fStringBuilder3b rfl) rfl (by show 2 * 0 + _ ≤ _; exact Nat.le_of_eq rfl) (hb hby d1_23) (fun _ _ => ⟨rfl, e33, (by decide : 4 + 0 ≤ _), (by decide : 28 + 0 ≤ _)⟩)
  dsimp only [Pt.U, Pt.locs, Pt.cells, Pt.slots] at X34 l34 y34 z34 st34 hQ34
  subst l34 y34 z34
  obtain ⟨rfl, N34q, K34, Pb34⟩ := hQ34
  have N34 := Fr.app N31 N34q
  have O34 : Old Z n0 T34.heap := O31.keep K34 (allS (P := (n0 ≤ ·)) gb2 (allS (P := (n0 ≤ ·)) gn10 all0))
  have Kp34 : Keep h0 T34.heap [] := Kp31.trans K34 (allS (P := (fun x => x ∈ [] ∨ h0.size ≤ x)) (Or.inr gs2) (allS (P := (fun x => x ∈ [] ∨ h0.size ≤ x)) (Or.inr gz10) all0))
  have Cl34 : CHr Z EL T25.vm T31.heap T25.vm T34.heap := CHr.keep K34 (sfS Sfb2_31 (sfS Sfda10_31 sf0)) CH31
  have Sfb2_34 : Safe Z EL T25.vm T34.heap b2 := Cl34.safe Eb31.lt Sfb2_31
  have Sfda10_34 : Safe Z EL T25.vm T34.heap da10 := Cl34.safe Ab31.lt Sfda10_31
  have CR34 : CHr Z EL s.vm h0 T25.vm T34.heap := CR31.trans Cl34
  have CH34 := CR34.1
  have hk34 : _ ≤ T34.heap.size := Nat.le_trans hk31 Cl34.2.1
  obtain ⟨Eb34, Vb34, Cb34, Nb34, Ab34⟩ := id Pb34
  have f35 : Fld Z T34.heap me "com/example/saturation/saturation/Measure" "abbreviation" "Ljava/lang/String;" (.ref ab) := (((f19.ext E25).keep K31 (ninS (Nat.ne_of_lt (Nat.lt_of_lt_of_le Fd.lt (Nat.le_of_eq g2.symm))) (ninS (Nat.ne_of_lt (Nat.lt_of_lt_of_le f5.lt gd10)) nin0))).keep K34 (ninS (Nat.ne_of_lt (Nat.lt_of_lt_of_le Fd.lt (Nat.le_of_eq g2.symm))) (ninS (Nat.ne_of_lt (Nat.lt_of_lt_of_le f5.lt gd10)) nin0)))
  have f36 : Fld Z T34.heap me "com/example/saturation/saturation/Measure" "depth" "I" (.int dp) := (f32.keep K34 (ninS (Nat.ne_of_lt (Nat.lt_of_lt_of_le Fd.lt (Nat.le_of_eq g2.symm))) (ninS (Nat.ne_of_lt (Nat.lt_of_lt_of_le f5.lt gd10)) nin0)))
  have f37 : Exa Z T34.heap ab "java/lang/String" := (((f21.ext E25).keep K31).keep K34)
  have f38 : Fld Z T34.heap ab "java/lang/String" "value" "[B" (.ref abd) := (((f22.ext E25).keep K31 (ninS (Nat.ne_of_lt (Nat.lt_of_lt_of_le Cs1.lt (Nat.le_of_eq g2.symm))) (ninS (Nat.ne_of_lt (Nat.lt_of_lt_of_le f8.lt gd10)) nin0))).keep K34 (ninS (Nat.ne_of_lt (Nat.lt_of_lt_of_le Cs1.lt (Nat.le_of_eq g2.symm))) (ninS (Nat.ne_of_lt (Nat.lt_of_lt_of_le f8.lt gd10)) nin0)))
  have f39 : Fld Z T34.heap ab "java/lang/String" "coder" "B" (.int (0 : Int32)) := (((f23.ext E25).keep K31 (ninS (Nat.ne_of_lt (Nat.lt_of_lt_of_le Cs1.lt (Nat.le_of_eq g2.symm))) (ninS (Nat.ne_of_lt (Nat.lt_of_lt_of_le f8.lt gd10)) nin0))).keep K34 (ninS (Nat.ne_of_lt (Nat.lt_of_lt_of_le Cs1.lt (Nat.le_of_eq g2.symm))) (ninS (Nat.ne_of_lt (Nat.lt_of_lt_of_le f8.lt gd10)) nin0)))
  have f40 : Arv Z T34.heap abd kab .byte (Int32.ofNat cs.length) (by8 cs) (.int (0 : Int32)) := (((f24.ext E25).keep K31 (ninS (Nat.ne_of_lt (Nat.lt_of_lt_of_le As1.lt (Nat.le_of_eq g2.symm))) (ninS (Nat.ne_of_lt (Nat.lt_of_lt_of_le f9.lt gd10)) nin0))).keep K34 (ninS (Nat.ne_of_lt (Nat.lt_of_lt_of_le As1.lt (Nat.le_of_eq g2.symm))) (ninS (Nat.ne_of_lt (Nat.lt_of_lt_of_le f9.lt gd10)) nin0)))
  have f41 : Exa Z T34.heap sa25 "java/lang/String" := ((Es25.keep K31).keep K34)
  have f42 : Fld Z T34.heap sa25 "java/lang/String" "coder" "B" (.int (0 : Int32)) := ((Cs25.keep K31 (ninS (Ne.symm (hne25 _ Sfb2_25).1) (ninS (Ne.symm (hne25 _ Sfda10_25).1) nin0))).keep K34 (ninS (Ne.symm (hne25 _ Sfb2_25).1) (ninS (Ne.symm (hne25 _ Sfda10_25).1) nin0)))
  have f43 : Fld Z T34.heap sa25 "java/lang/String" "value" "[B" (.ref sd25) := ((Vs25.keep K31 (ninS (Ne.symm (hne25 _ Sfb2_25).1) (ninS (Ne.symm (hne25 _ Sfda10_25).1) nin0))).keep K34 (ninS (Ne.symm (hne25 _ Sfb2_25).1) (ninS (Ne.symm (hne25 _ Sfda10_25).1) nin0)))
  have f44 : Arv Z T34.heap sd25 kc25 .byte (Int32.ofNat lit0.length) (by8 lit0) (.int (0 : Int32)) := ((As25.keep K31 (ninS (Ne.symm (hne25 _ Sfb2_25).2) (ninS (Ne.symm (hne25 _ Sfda10_25).2) nin0))).keep K34 (ninS (Ne.symm (hne25 _ Sfb2_25).2) (ninS (Ne.symm (hne25 _ Sfda10_25).2) nin0)))
  obtain ⟨cq45, kq45, q45a, q45b, q45c⟩ := isOf hZ25 rfl Eb34
  obtain ⟨_, _, ⟨T45, L45, k45, n45⟩, -, X45, ⟨Lc45, hQ45, l45, y45, z45⟩, st45⟩ := X34.virtualBack hx (y := (⟨"java/lang/StringBuilder", "toString", "()Ljava/lang/String;"⟩ : MethodName)) (z := (⟨"java/lang/StringBuilder", "toString", "()Ljava/lang/String;"⟩ : MethodName)) ho25 (mvT hZ25 (hw _ (List.mem_of_getElem? (i := 115) rfl))) (mvT hZ25 (hw _ (List.mem_of_getElem? (i := 116) rfl))) (notFace_of_selects (args := #[]) (mvT hZ25 (hw _ (List.mem_of_getElem? (i := 118) rfl)))) (mvT hZ25 (hw _ (List.mem_of_getElem? (i := 118) rfl))) (mvT hZ25 (hw _ (List.mem_of_getElem? (i := 117) rfl))) (by decide) (backOf (W := 0) (sb_toString l Z a0 hw [] zc b2 da10 kd10 16 (((([] : List Int32) ++ cs) ++ lit0) ++ decI dp) T34.heap n0 O34 hE ⟨Eb34, Vb34, Cb34, Nb34, Ab34⟩ (by have q := decI_length dp; simp only [List.length_append, List.length_nil] at *; have : lit0.length = 1 := rfl; omega) (by decide)) hZ25 (hw _ (List.mem_of_getElem? (i := 119) rfl)) (hw _ (List.mem_of_getElem? (i := 19) rfl)) (by decide) (by decide)) q45a q45c (g := (mkF m 26 #[.val (.ref me)] [(.ref b2)])) rfl (by rw [hml]; rfl) (Steps.refl _) (argsL := []) (rest := []) (lenOf pd_2829Ljava2flang2fString3b rfl) rfl (by show 2 * 0 + _ ≤ _; exact Nat.le_of_eq rfl) (hb hby d1_26) (fun _ _ => ⟨rfl, rfl, (by decide : 4 + 2 ≤ _), (by decide : 28 + 204 ≤ _)⟩)
  dsimp only [Pt.U, Pt.locs, Pt.cells, Pt.slots] at X45 l45 y45 z45 st45 hQ45
  subst l45 y45 z45
  obtain ⟨x45, rfl, N45q, K45, ⟨t45, kx45, Ps45, gx45, gt45⟩⟩ := hQ45
  have N45 := Fr.app N34 N45q
  have gzx45 : h0.size ≤ x45 := Nat.le_trans Kp34.1 gx45
  have gnx45 : n0 ≤ x45 := by have q1 := O34.1; have q2 := O34.2.1; omega
  have gzt45 : h0.size ≤ t45 := Nat.le_trans Kp34.1 gt45
  have gnt45 : n0 ≤ t45 := by have q1 := O34.1; have q2 := O34.2.1; omega
  have O45 : Old Z n0 T45.heap := O34.keep K45 all0
  have Kp45 : Keep h0 T45.heap [] := Kp34.trans K45 all0
  have Cl45 : CHr Z EL T25.vm T34.heap T25.vm T45.heap := CHr.keep K45 sf0 CH34
  have Sfb2_45 : Safe Z EL T25.vm T45.heap b2 := Cl45.safe Eb34.lt Sfb2_34
  have Sfda10_45 : Safe Z EL T25.vm T45.heap da10 := Cl45.safe Ab34.lt Sfda10_34
  have CR45 : CHr Z EL s.vm h0 T25.vm T45.heap := CR34.trans Cl45
  have CH45 := CR45.1
  have hk45 : _ ≤ T45.heap.size := Nat.le_trans hk34 Cl45.2.1
  obtain ⟨Es46, Vs46, Cs46, As46⟩ := id Ps45
  obtain ⟨fs, hr, hrun, hended, hEnd⟩ := X45.leaveW hS25 hk45 (v := some (.ref x45)) (fun h => by rw [Bd.returns] at h; cases h)
  have hFin : CHr Z EL s.vm s.heap T45.vm T45.heap := by
    have q := CR45.trans (CHv.at X45 hZ25 hEL CH45)
    rw [hh]; exact q
  refine ⟨_, _, pre0 _ ?_, hrun, hended, _, _, rfl, ?_, hFin, hEnd⟩
  · show Steps p.tables e below (s₁.setTop (mkF m 0 #[.val (.ref me)] [])) _
    refine st2 _ ?_
    show Steps p.tables e below (T2.setTop (mkF m 3 #[.val (.ref me)] [(.ref b2)])) _
    refine XS.dup X2.here hx rfl (hb hby d1_3) rfl rfl ?_
    show Steps p.tables e below (T2.setTop (mkF m 4 #[.val (.ref me)] [(.ref b2), (.ref b2)])) _
    refine st10.trans ?_
    show Steps p.tables e below (T10.setTop (mkF m 7 #[.val (.ref me)] [(.ref b2)])) _
    refine XS.aloadN X10.here hx rfl (hb hby d1_7) rfl rfl ?_
    show Steps p.tables e below (T10.setTop (mkF m 8 #[.val (.ref me)] [(.ref me), (.ref b2)])) _
    refine st13 _ ?_
    show Steps p.tables e below (T13.setTop (mkF m 11 #[.val (.ref me)] [(.ref ab), (.ref b2)])) _
    refine st18.trans ?_
    show Steps p.tables e below (T18.setTop (mkF m 14 #[.val (.ref me)] [(.ref b2)])) _
    refine st25 _ ?_
    show Steps p.tables e below (T25.setTop (mkF m 16 #[.val (.ref me)] [(.ref sa25), (.ref b2)])) _
    refine st31.trans ?_
    show Steps p.tables e below (T31.setTop (mkF m 19 #[.val (.ref me)] [(.ref b2)])) _
    refine XS.aloadN X31.here hx rfl (hb hby d1_19) rfl rfl ?_
    show Steps p.tables e below (T31.setTop (mkF m 20 #[.val (.ref me)] [(.ref me), (.ref b2)])) _
    refine st33 _ ?_
    show Steps p.tables e below (T33.setTop (mkF m 23 #[.val (.ref me)] [(.int dp), (.ref b2)])) _
    refine st34.trans ?_
    show Steps p.tables e below (T34.setTop (mkF m 26 #[.val (.ref me)] [(.ref b2)])) _
    refine st45.trans ?_
    show Steps p.tables e below (T45.setTop (mkF m 29 #[.val (.ref me)] [(.ref x45)])) _
    exact retOut X45 hx Bd.returns rfl (Or.inr (Or.inr (Or.inr (Or.inr ⟨rfl, rfl, rfl⟩)))) (hb hby d1_29) hr
  · exact by show Qx h0 n0 _ _ (some (.ref x45)) T45.heap _; exact ⟨_, rfl, N45, Kp45, _, _, Ps45, gzx45, gzt45⟩
def GG1 (Z : State) (w ab abd : Addr) (kab : ClassId) (nme C : String) (cs : List Int32) (dp : Int32) : Prop := Sta Z Z.heap "com/example/saturation/saturation/Measure" nme "Lcom/example/saturation/saturation/Measure;" (.ref w) ∧ Exa Z Z.heap w C ∧ Fld Z Z.heap w "com/example/saturation/saturation/Measure" "abbreviation" "Ljava/lang/String;" (.ref ab) ∧ Fld Z Z.heap w "com/example/saturation/saturation/Measure" "depth" "I" (.int dp) ∧ Str Z Z.heap ab abd kab cs
def ab0 : List Int32 := [110, 68, 67, 71]
def lit1 : List Int32 := [110, 68, 67, 71, 64, 49, 48]
theorem pd_28Ljava2flang2fObject3b29Z : parseMethodDescriptor "(Ljava/lang/Object;)Z" = some ⟨[(.object "java/lang/Object")], some .boolean⟩ := by decide +kernel
theorem ef_maxLocals_I (m : MethodId) (x0 : Int32) : entryFrame m #[(.int x0)] maxLocals = mkF m 0 #[.val (.int x0), .unset, .unset, .unset] [] := by first | (simp [entryFrame, mkF, argsToLocals, Value.category, maxLocals]; done) | rfl
theorem pn_com_example_saturation_saturation_MeasureLabelPinLaw : plainName "com/example/saturation/saturation/MeasureLabelPinLaw" = true := by first | (simp [plainName, overriddenIn]; done) | decide +kernel
set_option maxRecDepth 65536 in
set_option maxHeartbeats 40000000 in
theorem rl_0 (l : Launch) (Z : State) (a0 : Array Value) (hw : ∀ d ∈ tables_1, d.before a0 Z = true) (ws : List Jvm.Cond) (zc p0 : Int32) (ist d1 d2 w0 b0 c0 : Addr) (kz0 : ClassId) (h0 : Heap) (n0 : Nat) (O : Old Z n0 h0) (hE : EnvS Z zc) (hD : EnvD Z ist d1 d2) (hG0 : GG1 Z w0 b0 c0 kz0 "NDCG" "com/example/saturation/saturation/Measure$1" ab0 (10 : Int32)) (hk : (p0 &&& (2147483647 : Int32)) % (5 : Int32) = (0 : Int32)) (hEL : EW Z a0 EL) :
    MetFree l x (head1 (Jvm.Cond.code x code maxLocals ret :: ws) room_1) (fun a U => a = #[(.int p0)] ∧ Z.Warmed39 U.vm ∧ U.heap = h0 ∧ CHv Z EL U.vm h0) (fun _ _ _ _ _ => True) (fun _ U o U' => ∃ v L, o = .returned v ∧ Ql (some (.int (1 : Int32))) n0 v U'.heap L ∧ CHr Z EL U.vm U.heap U'.vm U'.heap ∧ ReturnedEndW U o U' L 32 6336) := by
  refine MetFree.of_bodySF (plainFor_of_name pn_com_example_saturation_saturation_MeasureLabelPinLaw) hisR ?_
  intro p e s m args below meth c s₁ Bd hml0 hP hK
  obtain ⟨rfl, hZ, hh, hCH⟩ := hP
  have hx := Bd.exec
  have hby := Bd.bytes
  have hml : c.maxLocals = 4 := hml0
  have hown : s.vm.findClass "com/example/saturation/saturation/MeasureLabelPinLaw" = some m.cls := findClass_of_methodNamed Bd.named
  have hnm := (name_of_methodNamed Bd.named Bd.method).1
  have X0 : Stand p l e room_1 (s.setVm s.vm) m #[(.int p0)] below meth c s₁ [] 0 0 := Stand.of_body Bd
  have e0 : s₁.heap = h0 := by rw [← hh, Bd.state]; rfl
  have N0 := Fr.nil n0
  have pre0 : ∀ t, Steps p.tables e below (s₁.setTop (mkF m 0 #[.val (.int p0), .unset, .unset, .unset] [])) t → Steps p.tables e below (s₁.setTop (entryFrame m #[(.int p0)] maxLocals)) t := fun t k => castTop (ef_maxLocals_I m p0) k
  have hS0 : s.Since s.vm 0 := (State.WarmedH.refl s).since 0
  have hk0 : 0 ≤ h0.size := Nat.zero_le _
  have CR0 : CHr Z EL s.vm h0 s.vm h0 := CHr.refl hCH
  obtain ⟨Sw, Ew, Fa, Fd, hS⟩ := id hG0
  obtain ⟨Es1, Vs1, Cs1, As1⟩ := id (hS.ext O.2)
  obtain ⟨T2, X2, e2, st2⟩ := getS2 X0 hx hZ hown (host := "") (Or.inl (hw _ (List.mem_of_getElem? (i := 1) rfl))) Via.refl e0 (Sw.ext O.2) (g := (mkF m 11 #[.val (.int p0), .val (.int (0 : Int32)), .unset, .unset] [])) rfl (hb hby at_11)
  obtain ⟨sa3, T3, h3, k3, sd3, kc3, X3, e3, E3, hS3, hk3, hZ3, ho3, Es3, Cs3, Vs3, As3, la3, lb3, Cq3, hL3, hne3, st3⟩ := ldcCH X2 hx hZ hown (hw _ (List.mem_of_getElem? (i := 4) rfl)) (own_wS hw) e2 hS0 hk0 hEL (by simp [EL, consts_1]) hCH (vs := by8 lit1) (z := Int32.ofNat lit1.length) ⟨by decide, rfl⟩ (by decide) (by decide) (g := (mkF m 15 #[.val (.int p0), .val (.int (0 : Int32)), .val (.ref w0), .unset] [])) rfl (hb hby at_15) (n := 28) (by decide) (by decide) (by decide) (by decide)
  have O3 : Old Z n0 h3 := O.ext E3
  have Kp3 : Keep h0 h3 [] := (Keep.refl h0 []).ext E3
  have Cl3 : CHr Z EL s.vm h0 T3.vm h3 := Cq3
  have CR3 : CHr Z EL s.vm h0 T3.vm h3 := CR0.trans Cl3
  have CH3 := CR3.1
  have f4 : Exa Z h3 w0 "com/example/saturation/saturation/Measure$1" := ((Ew.ext O.2).ext E3)
  have f5 : Fld Z h3 w0 "com/example/saturation/saturation/Measure" "abbreviation" "Ljava/lang/String;" (.ref b0) := ((Fa.ext O.2).ext E3)
  have f6 : Fld Z h3 w0 "com/example/saturation/saturation/Measure" "depth" "I" (.int (10 : Int32)) := ((Fd.ext O.2).ext E3)
  have f7 : Exa Z h3 b0 "java/lang/String" := (Es1.ext E3)
  have f8 : Fld Z h3 b0 "java/lang/String" "value" "[B" (.ref c0) := (Vs1.ext E3)
  have f9 : Fld Z h3 b0 "java/lang/String" "coder" "B" (.int (0 : Int32)) := (Cs1.ext E3)
  have f10 : Arv Z h3 c0 kz0 .byte (Int32.ofNat ab0.length) (by8 ab0) (.int (0 : Int32)) := (As1.ext E3)
  obtain ⟨cq11, kq11, q11a, q11b, q11c⟩ := isOf hZ3 e3 f4
  obtain ⟨_, _, ⟨T11, L11, k11, n11⟩, -, X11p, hS11p, hg11, ⟨Lc11, hQ11, l11, y11, z11, Cq11⟩, st11⟩ := X3.virtualBackS hx (y := (⟨"com/example/saturation/saturation/Measure", "label", "()Ljava/lang/String;"⟩ : MethodName)) (z := (⟨"com/example/saturation/saturation/Measure", "label", "()Ljava/lang/String;"⟩ : MethodName)) ho3 (mvT hZ3 (hw _ (List.mem_of_getElem? (i := 12) rfl))) (mvT hZ3 (hw _ (List.mem_of_getElem? (i := 13) rfl))) (notFace_of_selects (args := #[]) (mvT hZ3 (hw _ (List.mem_of_getElem? (i := 15) rfl)))) (mvT hZ3 (hw _ (List.mem_of_getElem? (i := 15) rfl))) (mvT hZ3 (hw _ (List.mem_of_getElem? (i := 14) rfl))) (by decide) (backOfSH (W := 1) (rm_label l Z a0 hw [] zc w0 b0 c0 kz0 ab0 (10 : Int32) ist d1 d2 h3 n0 O3 hE hD f5 f6 ⟨f7, f8, f9, f10⟩ (by decide +kernel) hEL) hZ3 (hw _ (List.mem_of_getElem? (i := 16) rfl)) (hw _ (List.mem_of_getElem? (i := 2) rfl)) (by decide) (by decide) hEL CH3) q11a q11c (g := (mkF m 75 #[.val (.int p0), .val (.int (0 : Int32)), .val (.ref w0), .val (.ref sa3)] [(.ref w0), (.ref sa3)])) rfl (by rw [hml]; rfl) (Steps.refl _) (argsL := []) (rest := [(.ref sa3)]) (lenOf pd_2829Ljava2flang2fString3b rfl) rfl (by show 2 * 0 + _ ≤ _; exact Nat.le_of_eq rfl) (hb hby at_75) (fun _ _ => ⟨rfl, e3, (by decide : 2 + 6 ≤ _), (by decide : 32 + 232 ≤ _)⟩)
  dsimp only [Pt.U, Pt.locs, Pt.cells, Pt.slots] at X11p hS11p hg11 l11 y11 z11 st11 hQ11 Cq11
  subst l11 y11 z11
  obtain ⟨X11, hS11, hZ11, ho11⟩ := rebS hS3 (by rw [e3]; exact hk3) X11p hS11p hg11 hZ3 ho3
  obtain ⟨x11, rfl, N11q, K11, ⟨t11, kx11, Ps11, gx11, gt11⟩⟩ := hQ11
  have N11 := Fr.app N0 N11q
  have gzx11 : h0.size ≤ x11 := Nat.le_trans Kp3.1 gx11
  have gnx11 : n0 ≤ x11 := by have q1 := O3.1; have q2 := O3.2.1; omega
  have gzt11 : h0.size ≤ t11 := Nat.le_trans Kp3.1 gt11
  have gnt11 : n0 ≤ t11 := by have q1 := O3.1; have q2 := O3.2.1; omega
  have O11 : Old Z n0 T11.heap := O3.keep K11 all0
  have Kp11 : Keep h0 T11.heap [] := Kp3.trans K11 all0
  have Cl11 : CHr Z EL T3.vm h3 T11.vm T11.heap := Cq11
  have CR11 : CHr Z EL s.vm h0 T11.vm T11.heap := CR3.trans Cl11
  have CH11 := CR11.1
  obtain ⟨Es12, Vs12, Cs12, As12⟩ := id Ps11
  have f13 : Exa Z T11.heap sa3 "java/lang/String" := (Es3.keep K11)
  have f14 : Fld Z T11.heap sa3 "java/lang/String" "value" "[B" (.ref sd3) := (Vs3.keep K11 nin0)
  have f15 : Fld Z T11.heap sa3 "java/lang/String" "coder" "B" (.int (0 : Int32)) := (Cs3.keep K11 nin0)
  have f16 : Arv Z T11.heap sd3 kc3 .byte (Int32.ofNat lit1.length) (by8 lit1) (.int (0 : Int32)) := (As3.keep K11 nin0)
  obtain ⟨cq17, kq17, q17a, q17b, q17c⟩ := isOf hZ11 rfl f13
  obtain ⟨_, _, ⟨T17, L17, k17, n17⟩, -, X17, ⟨Lc17, hQ17, l17, y17, z17⟩, st17⟩ := X11.virtualBack hx (y := (⟨"java/lang/String", "equals", "(Ljava/lang/Object;)Z"⟩ : MethodName)) (z := (⟨"java/lang/String", "equals", "(Ljava/lang/Object;)Z"⟩ : MethodName)) ho11 (mvT hZ11 (hw _ (List.mem_of_getElem? (i := 158) rfl))) (mvT hZ11 (hw _ (List.mem_of_getElem? (i := 159) rfl))) (notFace_of_selects (args := #[]) (mvT hZ11 (hw _ (List.mem_of_getElem? (i := 161) rfl)))) (mvT hZ11 (hw _ (List.mem_of_getElem? (i := 161) rfl))) (mvT hZ11 (hw _ (List.mem_of_getElem? (i := 160) rfl))) (by decide) (backOf (W := 0) (sb_equals1 l Z a0 hw [] zc sa3 sd3 kc3 lit1 x11 t11 kx11 (((([] : List Int32) ++ ab0) ++ lit0) ++ decI (10 : Int32)) T11.heap n0 O11 hE ⟨f13, f14, f15, f16⟩ ⟨Es12, Vs12, Cs12, As12⟩ (Nat.ne_of_lt (Nat.lt_of_lt_of_le Vs3.lt gx11)) (by decide +kernel) (by decide +kernel) (by decide +kernel)) hZ11 (hw _ (List.mem_of_getElem? (i := 162) rfl)) (hw _ (List.mem_of_getElem? (i := 5) rfl)) (by decide) (by decide)) q17a q17c (g := (mkF m 78 #[.val (.int p0), .val (.int (0 : Int32)), .val (.ref w0), .val (.ref sa3)] [(.ref x11), (.ref sa3)])) rfl (by rw [hml]; rfl) (Steps.refl _) (argsL := [(.ref x11)]) (rest := []) (lenOf pd_28Ljava2flang2fObject3b29Z rfl) rfl (by show 2 * 0 + _ ≤ _; exact Nat.le_of_eq rfl) (hb hby at_78) (fun _ _ => ⟨rfl, rfl, (by decide : 8 + 0 ≤ _), (by decide : 264 + 0 ≤ _)⟩)
  dsimp only [Pt.U, Pt.locs, Pt.cells, Pt.slots] at X17 l17 y17 z17 st17 hQ17
  subst l17 y17 z17
  obtain ⟨rfl, N17q, e17⟩ := hQ17
  have N17 := Fr.app N11 N17q
  obtain ⟨fs, hr, hrun, hended, hEnd⟩ := X17.leaveW hS11 (by rw [e17]; exact (Nat.le_refl _)) (v := some (.int (1 : Int32))) (fun h => by rw [Bd.returns] at h; cases h)
  have hFin : CHr Z EL s.vm s.heap T17.vm T17.heap := by
    have q := CR11.trans (CHv.at X17 hZ11 hEL CH11)
    rw [hh, e17]; exact q
  refine ⟨_, _, pre0 _ ?_, hrun, hended, _, _, rfl, ?_, hFin, ⟨hEnd.1, hEnd.2.1, hEnd.2.2.1, hEnd.2.2.2.mono (by decide) (by decide)⟩⟩
  · show Steps p.tables e below (s₁.setTop (mkF m 0 #[.val (.int p0), .unset, .unset, .unset] [])) _
    refine XS.iloadN X0.here hx rfl (hb hby at_0) rfl ?_
    show Steps p.tables e below (s₁.setTop (mkF m 1 #[.val (.int p0), .unset, .unset, .unset] [(.int p0)])) _
    refine X0.ldcInt hx hown (mvT hZ (hw _ (List.mem_of_getElem? (i := 0) rfl))) (g := (mkF m 1 #[.val (.int p0), .unset, .unset, .unset] [(.int p0)])) rfl (hb hby at_1) _ ?_
    show Steps p.tables e below (s₁.setTop (mkF m 3 #[.val (.int p0), .unset, .unset, .unset] [(.int (2147483647 : Int32)), (.int p0)])) _
    refine XS.iand X0.here hx rfl (hb hby at_3) rfl ?_
    show Steps p.tables e below (s₁.setTop (mkF m 4 #[.val (.int p0), .unset, .unset, .unset] [(.int (p0 &&& (2147483647 : Int32)))])) _
    refine XS.iconst X0.here hx rfl (hb hby at_4) ?_
    show Steps p.tables e below (s₁.setTop (mkF m 5 #[.val (.int p0), .unset, .unset, .unset] [(.int (5 : Int32)), (.int (p0 &&& (2147483647 : Int32)))])) _
    refine Jvm.RoadKit.iremM (g := (mkF m 5 #[.val (.int p0), .unset, .unset, .unset] [(.int (5 : Int32)), (.int (p0 &&& (2147483647 : Int32)))])) X0 hx rfl (hb hby at_5) rfl (by decide) ?_
    show Steps p.tables e below (s₁.setTop (mkF m 6 #[.val (.int p0), .unset, .unset, .unset] [(.int ((p0 &&& (2147483647 : Int32)) % (5 : Int32)))])) _
    rw [hk]
    show Steps p.tables e below (s₁.setTop (mkF m 6 #[.val (.int p0), .unset, .unset, .unset] [(.int (0 : Int32))])) _
    refine XS.istoreN X0.here hx rfl (hb hby at_6) rfl (l' := #[.val (.int p0), .val (.int (0 : Int32)), .unset, .unset]) rfl ?_
    show Steps p.tables e below (s₁.setTop (mkF m 7 #[.val (.int p0), .val (.int (0 : Int32)), .unset, .unset] [])) _
    refine XS.iloadN X0.here hx rfl (hb hby at_7) rfl ?_
    show Steps p.tables e below (s₁.setTop (mkF m 8 #[.val (.int p0), .val (.int (0 : Int32)), .unset, .unset] [(.int (0 : Int32))])) _
    refine XS.ifNo X0.here hx rfl (hb hby at_8) rfl ((if0 _ _).trans (teq ((by decide) : (0 : Int32) = (0 : Int32))).2) ?_
    show Steps p.tables e below (s₁.setTop (mkF m 11 #[.val (.int p0), .val (.int (0 : Int32)), .unset, .unset] [])) _
    refine st2 _ ?_
    show Steps p.tables e below (T2.setTop (mkF m 14 #[.val (.int p0), .val (.int (0 : Int32)), .unset, .unset] [(.ref w0)])) _
    refine XS.astoreN X2.here hx rfl (hb hby at_14) rfl rfl (l' := #[.val (.int p0), .val (.int (0 : Int32)), .val (.ref w0), .unset]) rfl ?_
    show Steps p.tables e below (T2.setTop (mkF m 15 #[.val (.int p0), .val (.int (0 : Int32)), .val (.ref w0), .unset] [])) _
    refine st3 _ ?_
    show Steps p.tables e below (T3.setTop (mkF m 17 #[.val (.int p0), .val (.int (0 : Int32)), .val (.ref w0), .unset] [(.ref sa3)])) _
    refine XS.astoreN X3.here hx rfl (hb hby at_17) rfl rfl (l' := #[.val (.int p0), .val (.int (0 : Int32)), .val (.ref w0), .val (.ref sa3)]) rfl ?_
    show Steps p.tables e below (T3.setTop (mkF m 18 #[.val (.int p0), .val (.int (0 : Int32)), .val (.ref w0), .val (.ref sa3)] [])) _
    refine XS.goto X3.here hx rfl (pc0 := 18) (pc' := 73) rfl (hb hby at_18) (by decide) (by decide) ?_
    show Steps p.tables e below (T3.setTop (mkF m 73 #[.val (.int p0), .val (.int (0 : Int32)), .val (.ref w0), .val (.ref sa3)] [])) _
    refine XS.aloadN X3.here hx rfl (hb hby at_73) rfl rfl ?_
    show Steps p.tables e below (T3.setTop (mkF m 74 #[.val (.int p0), .val (.int (0 : Int32)), .val (.ref w0), .val (.ref sa3)] [(.ref sa3)])) _
    refine XS.aloadN X3.here hx rfl (hb hby at_74) rfl rfl ?_
    show Steps p.tables e below (T3.setTop (mkF m 75 #[.val (.int p0), .val (.int (0 : Int32)), .val (.ref w0), .val (.ref sa3)] [(.ref w0), (.ref sa3)])) _
    refine st11.trans ?_
    show Steps p.tables e below (T11.setTop (mkF m 78 #[.val (.int p0), .val (.int (0 : Int32)), .val (.ref w0), .val (.ref sa3)] [(.ref x11), (.ref sa3)])) _
    refine st17.trans ?_
    show Steps p.tables e below (T17.setTop (mkF m 81 #[.val (.int p0), .val (.int (0 : Int32)), .val (.ref w0), .val (.ref sa3)] [(.int (1 : Int32))])) _
    exact retN X17 hx (t := .boolean) Bd.returns (by simp) (hb hby at_81) hr
  · exact ⟨rfl, N17, trivial⟩
def ab1 : List Int32 := [80]
def lit2 : List Int32 := [80, 64, 49, 48]
set_option maxRecDepth 65536 in
set_option maxHeartbeats 40000000 in
theorem rl_1 (l : Launch) (Z : State) (a0 : Array Value) (hw : ∀ d ∈ tables_1, d.before a0 Z = true) (ws : List Jvm.Cond) (zc p0 : Int32) (ist d1 d2 w1 b1 c1 : Addr) (kz1 : ClassId) (h0 : Heap) (n0 : Nat) (O : Old Z n0 h0) (hE : EnvS Z zc) (hD : EnvD Z ist d1 d2) (hG1 : GG1 Z w1 b1 c1 kz1 "PRECISION" "com/example/saturation/saturation/Measure$2" ab1 (10 : Int32)) (hk : (p0 &&& (2147483647 : Int32)) % (5 : Int32) = (1 : Int32)) (hEL : EW Z a0 EL) :
    MetFree l x (head1 (Jvm.Cond.code x code maxLocals ret :: ws) room_1) (fun a U => a = #[(.int p0)] ∧ Z.Warmed39 U.vm ∧ U.heap = h0 ∧ CHv Z EL U.vm h0) (fun _ _ _ _ _ => True) (fun _ U o U' => ∃ v L, o = .returned v ∧ Ql (some (.int (1 : Int32))) n0 v U'.heap L ∧ CHr Z EL U.vm U.heap U'.vm U'.heap ∧ ReturnedEndW U o U' L 32 6336) := by
  refine MetFree.of_bodySF (plainFor_of_name pn_com_example_saturation_saturation_MeasureLabelPinLaw) hisR ?_
  intro p e s m args below meth c s₁ Bd hml0 hP hK
  obtain ⟨rfl, hZ, hh, hCH⟩ := hP
  have hx := Bd.exec
  have hby := Bd.bytes
  have hml : c.maxLocals = 4 := hml0
  have hown : s.vm.findClass "com/example/saturation/saturation/MeasureLabelPinLaw" = some m.cls := findClass_of_methodNamed Bd.named
  have hnm := (name_of_methodNamed Bd.named Bd.method).1
  have X0 : Stand p l e room_1 (s.setVm s.vm) m #[(.int p0)] below meth c s₁ [] 0 0 := Stand.of_body Bd
  have e0 : s₁.heap = h0 := by rw [← hh, Bd.state]; rfl
  have N0 := Fr.nil n0
  have pre0 : ∀ t, Steps p.tables e below (s₁.setTop (mkF m 0 #[.val (.int p0), .unset, .unset, .unset] [])) t → Steps p.tables e below (s₁.setTop (entryFrame m #[(.int p0)] maxLocals)) t := fun t k => castTop (ef_maxLocals_I m p0) k
  have hS0 : s.Since s.vm 0 := (State.WarmedH.refl s).since 0
  have hk0 : 0 ≤ h0.size := Nat.zero_le _
  have CR0 : CHr Z EL s.vm h0 s.vm h0 := CHr.refl hCH
  obtain ⟨Sw, Ew, Fa, Fd, hS⟩ := id hG1
  obtain ⟨Es1, Vs1, Cs1, As1⟩ := id (hS.ext O.2)
  obtain ⟨T2, X2, e2, st2⟩ := getS2 X0 hx hZ hown (host := "") (Or.inl (hw _ (List.mem_of_getElem? (i := 174) rfl))) Via.refl e0 (Sw.ext O.2) (g := (mkF m 26 #[.val (.int p0), .val (.int (1 : Int32)), .unset, .unset] [])) rfl (hb hby at_26)
  obtain ⟨sa3, T3, h3, k3, sd3, kc3, X3, e3, E3, hS3, hk3, hZ3, ho3, Es3, Cs3, Vs3, As3, la3, lb3, Cq3, hL3, hne3, st3⟩ := ldcCH X2 hx hZ hown (hw _ (List.mem_of_getElem? (i := 176) rfl)) (own_wS hw) e2 hS0 hk0 hEL (by simp [EL, consts_1]) hCH (vs := by8 lit2) (z := Int32.ofNat lit2.length) ⟨by decide, rfl⟩ (by decide) (by decide) (g := (mkF m 30 #[.val (.int p0), .val (.int (1 : Int32)), .val (.ref w1), .unset] [])) rfl (hb hby at_30) (n := 16) (by decide) (by decide) (by decide) (by decide)
  have O3 : Old Z n0 h3 := O.ext E3
  have Kp3 : Keep h0 h3 [] := (Keep.refl h0 []).ext E3
  have Cl3 : CHr Z EL s.vm h0 T3.vm h3 := Cq3
  have CR3 : CHr Z EL s.vm h0 T3.vm h3 := CR0.trans Cl3
  have CH3 := CR3.1
  have f4 : Exa Z h3 w1 "com/example/saturation/saturation/Measure$2" := ((Ew.ext O.2).ext E3)
  have f5 : Fld Z h3 w1 "com/example/saturation/saturation/Measure" "abbreviation" "Ljava/lang/String;" (.ref b1) := ((Fa.ext O.2).ext E3)
  have f6 : Fld Z h3 w1 "com/example/saturation/saturation/Measure" "depth" "I" (.int (10 : Int32)) := ((Fd.ext O.2).ext E3)
  have f7 : Exa Z h3 b1 "java/lang/String" := (Es1.ext E3)
  have f8 : Fld Z h3 b1 "java/lang/String" "value" "[B" (.ref c1) := (Vs1.ext E3)
  have f9 : Fld Z h3 b1 "java/lang/String" "coder" "B" (.int (0 : Int32)) := (Cs1.ext E3)
  have f10 : Arv Z h3 c1 kz1 .byte (Int32.ofNat ab1.length) (by8 ab1) (.int (0 : Int32)) := (As1.ext E3)
  obtain ⟨cq11, kq11, q11a, q11b, q11c⟩ := isOf hZ3 e3 f4
  obtain ⟨_, _, ⟨T11, L11, k11, n11⟩, -, X11p, hS11p, hg11, ⟨Lc11, hQ11, l11, y11, z11, Cq11⟩, st11⟩ := X3.virtualBackS hx (y := (⟨"com/example/saturation/saturation/Measure", "label", "()Ljava/lang/String;"⟩ : MethodName)) (z := (⟨"com/example/saturation/saturation/Measure", "label", "()Ljava/lang/String;"⟩ : MethodName)) ho3 (mvT hZ3 (hw _ (List.mem_of_getElem? (i := 12) rfl))) (mvT hZ3 (hw _ (List.mem_of_getElem? (i := 13) rfl))) (notFace_of_selects (args := #[]) (mvT hZ3 (hw _ (List.mem_of_getElem? (i := 177) rfl)))) (mvT hZ3 (hw _ (List.mem_of_getElem? (i := 177) rfl))) (mvT hZ3 (hw _ (List.mem_of_getElem? (i := 14) rfl))) (by decide) (backOfSH (W := 1) (rm_label l Z a0 hw [] zc w1 b1 c1 kz1 ab1 (10 : Int32) ist d1 d2 h3 n0 O3 hE hD f5 f6 ⟨f7, f8, f9, f10⟩ (by decide +kernel) hEL) hZ3 (hw _ (List.mem_of_getElem? (i := 16) rfl)) (hw _ (List.mem_of_getElem? (i := 2) rfl)) (by decide) (by decide) hEL CH3) q11a q11c (g := (mkF m 75 #[.val (.int p0), .val (.int (1 : Int32)), .val (.ref w1), .val (.ref sa3)] [(.ref w1), (.ref sa3)])) rfl (by rw [hml]; rfl) (Steps.refl _) (argsL := []) (rest := [(.ref sa3)]) (lenOf pd_2829Ljava2flang2fString3b rfl) rfl (by show 2 * 0 + _ ≤ _; exact Nat.le_of_eq rfl) (hb hby at_75) (fun _ _ => ⟨rfl, e3, (by decide : 2 + 6 ≤ _), (by decide : 20 + 232 ≤ _)⟩)
  dsimp only [Pt.U, Pt.locs, Pt.cells, Pt.slots] at X11p hS11p hg11 l11 y11 z11 st11 hQ11 Cq11
  subst l11 y11 z11
  obtain ⟨X11, hS11, hZ11, ho11⟩ := rebS hS3 (by rw [e3]; exact hk3) X11p hS11p hg11 hZ3 ho3
  obtain ⟨x11, rfl, N11q, K11, ⟨t11, kx11, Ps11, gx11, gt11⟩⟩ := hQ11
  have N11 := Fr.app N0 N11q
  have gzx11 : h0.size ≤ x11 := Nat.le_trans Kp3.1 gx11
  have gnx11 : n0 ≤ x11 := by have q1 := O3.1; have q2 := O3.2.1; omega
  have gzt11 : h0.size ≤ t11 := Nat.le_trans Kp3.1 gt11
  have gnt11 : n0 ≤ t11 := by have q1 := O3.1; have q2 := O3.2.1; omega
  have O11 : Old Z n0 T11.heap := O3.keep K11 all0
  have Kp11 : Keep h0 T11.heap [] := Kp3.trans K11 all0
  have Cl11 : CHr Z EL T3.vm h3 T11.vm T11.heap := Cq11
  have CR11 : CHr Z EL s.vm h0 T11.vm T11.heap := CR3.trans Cl11
  have CH11 := CR11.1
  obtain ⟨Es12, Vs12, Cs12, As12⟩ := id Ps11
  have f13 : Exa Z T11.heap sa3 "java/lang/String" := (Es3.keep K11)
  have f14 : Fld Z T11.heap sa3 "java/lang/String" "value" "[B" (.ref sd3) := (Vs3.keep K11 nin0)
  have f15 : Fld Z T11.heap sa3 "java/lang/String" "coder" "B" (.int (0 : Int32)) := (Cs3.keep K11 nin0)
  have f16 : Arv Z T11.heap sd3 kc3 .byte (Int32.ofNat lit2.length) (by8 lit2) (.int (0 : Int32)) := (As3.keep K11 nin0)
  obtain ⟨cq17, kq17, q17a, q17b, q17c⟩ := isOf hZ11 rfl f13
  obtain ⟨_, _, ⟨T17, L17, k17, n17⟩, -, X17, ⟨Lc17, hQ17, l17, y17, z17⟩, st17⟩ := X11.virtualBack hx (y := (⟨"java/lang/String", "equals", "(Ljava/lang/Object;)Z"⟩ : MethodName)) (z := (⟨"java/lang/String", "equals", "(Ljava/lang/Object;)Z"⟩ : MethodName)) ho11 (mvT hZ11 (hw _ (List.mem_of_getElem? (i := 158) rfl))) (mvT hZ11 (hw _ (List.mem_of_getElem? (i := 159) rfl))) (notFace_of_selects (args := #[]) (mvT hZ11 (hw _ (List.mem_of_getElem? (i := 161) rfl)))) (mvT hZ11 (hw _ (List.mem_of_getElem? (i := 161) rfl))) (mvT hZ11 (hw _ (List.mem_of_getElem? (i := 160) rfl))) (by decide) (backOf (W := 0) (sb_equals1 l Z a0 hw [] zc sa3 sd3 kc3 lit2 x11 t11 kx11 (((([] : List Int32) ++ ab1) ++ lit0) ++ decI (10 : Int32)) T11.heap n0 O11 hE ⟨f13, f14, f15, f16⟩ ⟨Es12, Vs12, Cs12, As12⟩ (Nat.ne_of_lt (Nat.lt_of_lt_of_le Vs3.lt gx11)) (by decide +kernel) (by decide +kernel) (by decide +kernel)) hZ11 (hw _ (List.mem_of_getElem? (i := 162) rfl)) (hw _ (List.mem_of_getElem? (i := 5) rfl)) (by decide) (by decide)) q17a q17c (g := (mkF m 78 #[.val (.int p0), .val (.int (1 : Int32)), .val (.ref w1), .val (.ref sa3)] [(.ref x11), (.ref sa3)])) rfl (by rw [hml]; rfl) (Steps.refl _) (argsL := [(.ref x11)]) (rest := []) (lenOf pd_28Ljava2flang2fObject3b29Z rfl) rfl (by show 2 * 0 + _ ≤ _; exact Nat.le_of_eq rfl) (hb hby at_78) (fun _ _ => ⟨rfl, rfl, (by decide : 8 + 0 ≤ _), (by decide : 252 + 0 ≤ _)⟩)
  dsimp only [Pt.U, Pt.locs, Pt.cells, Pt.slots] at X17 l17 y17 z17 st17 hQ17
  subst l17 y17 z17
  obtain ⟨rfl, N17q, e17⟩ := hQ17
  have N17 := Fr.app N11 N17q
  obtain ⟨fs, hr, hrun, hended, hEnd⟩ := X17.leaveW hS11 (by rw [e17]; exact (Nat.le_refl _)) (v := some (.int (1 : Int32))) (fun h => by rw [Bd.returns] at h; cases h)
  have hFin : CHr Z EL s.vm s.heap T17.vm T17.heap := by
    have q := CR11.trans (CHv.at X17 hZ11 hEL CH11)
    rw [hh, e17]; exact q
  refine ⟨_, _, pre0 _ ?_, hrun, hended, _, _, rfl, ?_, hFin, ⟨hEnd.1, hEnd.2.1, hEnd.2.2.1, hEnd.2.2.2.mono (by decide) (by decide)⟩⟩
  · show Steps p.tables e below (s₁.setTop (mkF m 0 #[.val (.int p0), .unset, .unset, .unset] [])) _
    refine XS.iloadN X0.here hx rfl (hb hby at_0) rfl ?_
    show Steps p.tables e below (s₁.setTop (mkF m 1 #[.val (.int p0), .unset, .unset, .unset] [(.int p0)])) _
    refine X0.ldcInt hx hown (mvT hZ (hw _ (List.mem_of_getElem? (i := 0) rfl))) (g := (mkF m 1 #[.val (.int p0), .unset, .unset, .unset] [(.int p0)])) rfl (hb hby at_1) _ ?_
    show Steps p.tables e below (s₁.setTop (mkF m 3 #[.val (.int p0), .unset, .unset, .unset] [(.int (2147483647 : Int32)), (.int p0)])) _
    refine XS.iand X0.here hx rfl (hb hby at_3) rfl ?_
    show Steps p.tables e below (s₁.setTop (mkF m 4 #[.val (.int p0), .unset, .unset, .unset] [(.int (p0 &&& (2147483647 : Int32)))])) _
    refine XS.iconst X0.here hx rfl (hb hby at_4) ?_
    show Steps p.tables e below (s₁.setTop (mkF m 5 #[.val (.int p0), .unset, .unset, .unset] [(.int (5 : Int32)), (.int (p0 &&& (2147483647 : Int32)))])) _
    refine Jvm.RoadKit.iremM (g := (mkF m 5 #[.val (.int p0), .unset, .unset, .unset] [(.int (5 : Int32)), (.int (p0 &&& (2147483647 : Int32)))])) X0 hx rfl (hb hby at_5) rfl (by decide) ?_
    show Steps p.tables e below (s₁.setTop (mkF m 6 #[.val (.int p0), .unset, .unset, .unset] [(.int ((p0 &&& (2147483647 : Int32)) % (5 : Int32)))])) _
    rw [hk]
    show Steps p.tables e below (s₁.setTop (mkF m 6 #[.val (.int p0), .unset, .unset, .unset] [(.int (1 : Int32))])) _
    refine XS.istoreN X0.here hx rfl (hb hby at_6) rfl (l' := #[.val (.int p0), .val (.int (1 : Int32)), .unset, .unset]) rfl ?_
    show Steps p.tables e below (s₁.setTop (mkF m 7 #[.val (.int p0), .val (.int (1 : Int32)), .unset, .unset] [])) _
    refine XS.iloadN X0.here hx rfl (hb hby at_7) rfl ?_
    show Steps p.tables e below (s₁.setTop (mkF m 8 #[.val (.int p0), .val (.int (1 : Int32)), .unset, .unset] [(.int (1 : Int32))])) _
    refine XS.ifYes X0.here hx rfl (pc0 := 8) (pc' := 21) rfl (hb hby at_8) rfl ((if0 _ _).trans (feq ((by decide) : ¬ ((1 : Int32) = (0 : Int32)))).2) (by decide) (by decide) ?_
    show Steps p.tables e below (s₁.setTop (mkF m 21 #[.val (.int p0), .val (.int (1 : Int32)), .unset, .unset] [])) _
    refine XS.iloadN X0.here hx rfl (hb hby at_21) rfl ?_
    show Steps p.tables e below (s₁.setTop (mkF m 22 #[.val (.int p0), .val (.int (1 : Int32)), .unset, .unset] [(.int (1 : Int32))])) _
    refine XS.iconst X0.here hx rfl (hb hby at_22) ?_
    show Steps p.tables e below (s₁.setTop (mkF m 23 #[.val (.int p0), .val (.int (1 : Int32)), .unset, .unset] [(.int (1 : Int32)), (.int (1 : Int32))])) _
    refine XS.icmpNo X0.here hx rfl (hb hby at_23) rfl (teq ((by decide) : (1 : Int32) = (1 : Int32))).2 ?_
    show Steps p.tables e below (s₁.setTop (mkF m 26 #[.val (.int p0), .val (.int (1 : Int32)), .unset, .unset] [])) _
    refine st2 _ ?_
    show Steps p.tables e below (T2.setTop (mkF m 29 #[.val (.int p0), .val (.int (1 : Int32)), .unset, .unset] [(.ref w1)])) _
    refine XS.astoreN X2.here hx rfl (hb hby at_29) rfl rfl (l' := #[.val (.int p0), .val (.int (1 : Int32)), .val (.ref w1), .unset]) rfl ?_
    show Steps p.tables e below (T2.setTop (mkF m 30 #[.val (.int p0), .val (.int (1 : Int32)), .val (.ref w1), .unset] [])) _
    refine st3 _ ?_
    show Steps p.tables e below (T3.setTop (mkF m 32 #[.val (.int p0), .val (.int (1 : Int32)), .val (.ref w1), .unset] [(.ref sa3)])) _
    refine XS.astoreN X3.here hx rfl (hb hby at_32) rfl rfl (l' := #[.val (.int p0), .val (.int (1 : Int32)), .val (.ref w1), .val (.ref sa3)]) rfl ?_
    show Steps p.tables e below (T3.setTop (mkF m 33 #[.val (.int p0), .val (.int (1 : Int32)), .val (.ref w1), .val (.ref sa3)] [])) _
    refine XS.goto X3.here hx rfl (pc0 := 33) (pc' := 73) rfl (hb hby at_33) (by decide) (by decide) ?_
    show Steps p.tables e below (T3.setTop (mkF m 73 #[.val (.int p0), .val (.int (1 : Int32)), .val (.ref w1), .val (.ref sa3)] [])) _
    refine XS.aloadN X3.here hx rfl (hb hby at_73) rfl rfl ?_
    show Steps p.tables e below (T3.setTop (mkF m 74 #[.val (.int p0), .val (.int (1 : Int32)), .val (.ref w1), .val (.ref sa3)] [(.ref sa3)])) _
    refine XS.aloadN X3.here hx rfl (hb hby at_74) rfl rfl ?_
    show Steps p.tables e below (T3.setTop (mkF m 75 #[.val (.int p0), .val (.int (1 : Int32)), .val (.ref w1), .val (.ref sa3)] [(.ref w1), (.ref sa3)])) _
    refine st11.trans ?_
    show Steps p.tables e below (T11.setTop (mkF m 78 #[.val (.int p0), .val (.int (1 : Int32)), .val (.ref w1), .val (.ref sa3)] [(.ref x11), (.ref sa3)])) _
    refine st17.trans ?_
    show Steps p.tables e below (T17.setTop (mkF m 81 #[.val (.int p0), .val (.int (1 : Int32)), .val (.ref w1), .val (.ref sa3)] [(.int (1 : Int32))])) _
    exact retN X17 hx (t := .boolean) Bd.returns (by simp) (hb hby at_81) hr
  · exact ⟨rfl, N17, trivial⟩
def ab2 : List Int32 := [77, 65, 80]
def lit3 : List Int32 := [77, 65, 80, 64, 49, 48, 48]
set_option maxRecDepth 65536 in
set_option maxHeartbeats 40000000 in
theorem rl_2 (l : Launch) (Z : State) (a0 : Array Value) (hw : ∀ d ∈ tables_1, d.before a0 Z = true) (ws : List Jvm.Cond) (zc p0 : Int32) (ist d1 d2 w2 b2 c2 : Addr) (kz2 : ClassId) (h0 : Heap) (n0 : Nat) (O : Old Z n0 h0) (hE : EnvS Z zc) (hD : EnvD Z ist d1 d2) (hG2 : GG1 Z w2 b2 c2 kz2 "AVERAGE_PRECISION" "com/example/saturation/saturation/Measure$3" ab2 (100 : Int32)) (hk : (p0 &&& (2147483647 : Int32)) % (5 : Int32) = (2 : Int32)) (hEL : EW Z a0 EL) :
    MetFree l x (head1 (Jvm.Cond.code x code maxLocals ret :: ws) room_1) (fun a U => a = #[(.int p0)] ∧ Z.Warmed39 U.vm ∧ U.heap = h0 ∧ CHv Z EL U.vm h0) (fun _ _ _ _ _ => True) (fun _ U o U' => ∃ v L, o = .returned v ∧ Ql (some (.int (1 : Int32))) n0 v U'.heap L ∧ CHr Z EL U.vm U.heap U'.vm U'.heap ∧ ReturnedEndW U o U' L 32 6336) := by
  refine MetFree.of_bodySF (plainFor_of_name pn_com_example_saturation_saturation_MeasureLabelPinLaw) hisR ?_
  intro p e s m args below meth c s₁ Bd hml0 hP hK
  obtain ⟨rfl, hZ, hh, hCH⟩ := hP
  have hx := Bd.exec
  have hby := Bd.bytes
  have hml : c.maxLocals = 4 := hml0
  have hown : s.vm.findClass "com/example/saturation/saturation/MeasureLabelPinLaw" = some m.cls := findClass_of_methodNamed Bd.named
  have hnm := (name_of_methodNamed Bd.named Bd.method).1
  have X0 : Stand p l e room_1 (s.setVm s.vm) m #[(.int p0)] below meth c s₁ [] 0 0 := Stand.of_body Bd
  have e0 : s₁.heap = h0 := by rw [← hh, Bd.state]; rfl
  have N0 := Fr.nil n0
  have pre0 : ∀ t, Steps p.tables e below (s₁.setTop (mkF m 0 #[.val (.int p0), .unset, .unset, .unset] [])) t → Steps p.tables e below (s₁.setTop (entryFrame m #[(.int p0)] maxLocals)) t := fun t k => castTop (ef_maxLocals_I m p0) k
  have hS0 : s.Since s.vm 0 := (State.WarmedH.refl s).since 0
  have hk0 : 0 ≤ h0.size := Nat.zero_le _
  have CR0 : CHr Z EL s.vm h0 s.vm h0 := CHr.refl hCH
  obtain ⟨Sw, Ew, Fa, Fd, hS⟩ := id hG2
  obtain ⟨Es1, Vs1, Cs1, As1⟩ := id (hS.ext O.2)
  obtain ⟨T2, X2, e2, st2⟩ := getS2 X0 hx hZ hown (host := "") (Or.inl (hw _ (List.mem_of_getElem? (i := 186) rfl))) Via.refl e0 (Sw.ext O.2) (g := (mkF m 41 #[.val (.int p0), .val (.int (2 : Int32)), .unset, .unset] [])) rfl (hb hby at_41)
  obtain ⟨sa3, T3, h3, k3, sd3, kc3, X3, e3, E3, hS3, hk3, hZ3, ho3, Es3, Cs3, Vs3, As3, la3, lb3, Cq3, hL3, hne3, st3⟩ := ldcCH X2 hx hZ hown (hw _ (List.mem_of_getElem? (i := 188) rfl)) (own_wS hw) e2 hS0 hk0 hEL (by simp [EL, consts_1]) hCH (vs := by8 lit3) (z := Int32.ofNat lit3.length) ⟨by decide, rfl⟩ (by decide) (by decide) (g := (mkF m 45 #[.val (.int p0), .val (.int (2 : Int32)), .val (.ref w2), .unset] [])) rfl (hb hby at_45) (n := 28) (by decide) (by decide) (by decide) (by decide)
  have O3 : Old Z n0 h3 := O.ext E3
  have Kp3 : Keep h0 h3 [] := (Keep.refl h0 []).ext E3
  have Cl3 : CHr Z EL s.vm h0 T3.vm h3 := Cq3
  have CR3 : CHr Z EL s.vm h0 T3.vm h3 := CR0.trans Cl3
  have CH3 := CR3.1
  have f4 : Exa Z h3 w2 "com/example/saturation/saturation/Measure$3" := ((Ew.ext O.2).ext E3)
  have f5 : Fld Z h3 w2 "com/example/saturation/saturation/Measure" "abbreviation" "Ljava/lang/String;" (.ref b2) := ((Fa.ext O.2).ext E3)
  have f6 : Fld Z h3 w2 "com/example/saturation/saturation/Measure" "depth" "I" (.int (100 : Int32)) := ((Fd.ext O.2).ext E3)
  have f7 : Exa Z h3 b2 "java/lang/String" := (Es1.ext E3)
  have f8 : Fld Z h3 b2 "java/lang/String" "value" "[B" (.ref c2) := (Vs1.ext E3)
  have f9 : Fld Z h3 b2 "java/lang/String" "coder" "B" (.int (0 : Int32)) := (Cs1.ext E3)
  have f10 : Arv Z h3 c2 kz2 .byte (Int32.ofNat ab2.length) (by8 ab2) (.int (0 : Int32)) := (As1.ext E3)
  obtain ⟨cq11, kq11, q11a, q11b, q11c⟩ := isOf hZ3 e3 f4
  obtain ⟨_, _, ⟨T11, L11, k11, n11⟩, -, X11p, hS11p, hg11, ⟨Lc11, hQ11, l11, y11, z11, Cq11⟩, st11⟩ := X3.virtualBackS hx (y := (⟨"com/example/saturation/saturation/Measure", "label", "()Ljava/lang/String;"⟩ : MethodName)) (z := (⟨"com/example/saturation/saturation/Measure", "label", "()Ljava/lang/String;"⟩ : MethodName)) ho3 (mvT hZ3 (hw _ (List.mem_of_getElem? (i := 12) rfl))) (mvT hZ3 (hw _ (List.mem_of_getElem? (i := 13) rfl))) (notFace_of_selects (args := #[]) (mvT hZ3 (hw _ (List.mem_of_getElem? (i := 189) rfl)))) (mvT hZ3 (hw _ (List.mem_of_getElem? (i := 189) rfl))) (mvT hZ3 (hw _ (List.mem_of_getElem? (i := 14) rfl))) (by decide) (backOfSH (W := 1) (rm_label l Z a0 hw [] zc w2 b2 c2 kz2 ab2 (100 : Int32) ist d1 d2 h3 n0 O3 hE hD f5 f6 ⟨f7, f8, f9, f10⟩ (by decide +kernel) hEL) hZ3 (hw _ (List.mem_of_getElem? (i := 16) rfl)) (hw _ (List.mem_of_getElem? (i := 2) rfl)) (by decide) (by decide) hEL CH3) q11a q11c (g := (mkF m 75 #[.val (.int p0), .val (.int (2 : Int32)), .val (.ref w2), .val (.ref sa3)] [(.ref w2), (.ref sa3)])) rfl (by rw [hml]; rfl) (Steps.refl _) (argsL := []) (rest := [(.ref sa3)]) (lenOf pd_2829Ljava2flang2fString3b rfl) rfl (by show 2 * 0 + _ ≤ _; exact Nat.le_of_eq rfl) (hb hby at_75) (fun _ _ => ⟨rfl, e3, (by decide : 2 + 6 ≤ _), (by decide : 32 + 232 ≤ _)⟩)
  dsimp only [Pt.U, Pt.locs, Pt.cells, Pt.slots] at X11p hS11p hg11 l11 y11 z11 st11 hQ11 Cq11
  subst l11 y11 z11
  obtain ⟨X11, hS11, hZ11, ho11⟩ := rebS hS3 (by rw [e3]; exact hk3) X11p hS11p hg11 hZ3 ho3
  obtain ⟨x11, rfl, N11q, K11, ⟨t11, kx11, Ps11, gx11, gt11⟩⟩ := hQ11
  have N11 := Fr.app N0 N11q
  have gzx11 : h0.size ≤ x11 := Nat.le_trans Kp3.1 gx11
  have gnx11 : n0 ≤ x11 := by have q1 := O3.1; have q2 := O3.2.1; omega
  have gzt11 : h0.size ≤ t11 := Nat.le_trans Kp3.1 gt11
  have gnt11 : n0 ≤ t11 := by have q1 := O3.1; have q2 := O3.2.1; omega
  have O11 : Old Z n0 T11.heap := O3.keep K11 all0
  have Kp11 : Keep h0 T11.heap [] := Kp3.trans K11 all0
  have Cl11 : CHr Z EL T3.vm h3 T11.vm T11.heap := Cq11
  have CR11 : CHr Z EL s.vm h0 T11.vm T11.heap := CR3.trans Cl11
  have CH11 := CR11.1
  obtain ⟨Es12, Vs12, Cs12, As12⟩ := id Ps11
  have f13 : Exa Z T11.heap sa3 "java/lang/String" := (Es3.keep K11)
  have f14 : Fld Z T11.heap sa3 "java/lang/String" "value" "[B" (.ref sd3) := (Vs3.keep K11 nin0)
  have f15 : Fld Z T11.heap sa3 "java/lang/String" "coder" "B" (.int (0 : Int32)) := (Cs3.keep K11 nin0)
  have f16 : Arv Z T11.heap sd3 kc3 .byte (Int32.ofNat lit3.length) (by8 lit3) (.int (0 : Int32)) := (As3.keep K11 nin0)
  obtain ⟨cq17, kq17, q17a, q17b, q17c⟩ := isOf hZ11 rfl f13
  obtain ⟨_, _, ⟨T17, L17, k17, n17⟩, -, X17, ⟨Lc17, hQ17, l17, y17, z17⟩, st17⟩ := X11.virtualBack hx (y := (⟨"java/lang/String", "equals", "(Ljava/lang/Object;)Z"⟩ : MethodName)) (z := (⟨"java/lang/String", "equals", "(Ljava/lang/Object;)Z"⟩ : MethodName)) ho11 (mvT hZ11 (hw _ (List.mem_of_getElem? (i := 158) rfl))) (mvT hZ11 (hw _ (List.mem_of_getElem? (i := 159) rfl))) (notFace_of_selects (args := #[]) (mvT hZ11 (hw _ (List.mem_of_getElem? (i := 161) rfl)))) (mvT hZ11 (hw _ (List.mem_of_getElem? (i := 161) rfl))) (mvT hZ11 (hw _ (List.mem_of_getElem? (i := 160) rfl))) (by decide) (backOf (W := 0) (sb_equals1 l Z a0 hw [] zc sa3 sd3 kc3 lit3 x11 t11 kx11 (((([] : List Int32) ++ ab2) ++ lit0) ++ decI (100 : Int32)) T11.heap n0 O11 hE ⟨f13, f14, f15, f16⟩ ⟨Es12, Vs12, Cs12, As12⟩ (Nat.ne_of_lt (Nat.lt_of_lt_of_le Vs3.lt gx11)) (by decide +kernel) (by decide +kernel) (by decide +kernel)) hZ11 (hw _ (List.mem_of_getElem? (i := 162) rfl)) (hw _ (List.mem_of_getElem? (i := 5) rfl)) (by decide) (by decide)) q17a q17c (g := (mkF m 78 #[.val (.int p0), .val (.int (2 : Int32)), .val (.ref w2), .val (.ref sa3)] [(.ref x11), (.ref sa3)])) rfl (by rw [hml]; rfl) (Steps.refl _) (argsL := [(.ref x11)]) (rest := []) (lenOf pd_28Ljava2flang2fObject3b29Z rfl) rfl (by show 2 * 0 + _ ≤ _; exact Nat.le_of_eq rfl) (hb hby at_78) (fun _ _ => ⟨rfl, rfl, (by decide : 8 + 0 ≤ _), (by decide : 264 + 0 ≤ _)⟩)
  dsimp only [Pt.U, Pt.locs, Pt.cells, Pt.slots] at X17 l17 y17 z17 st17 hQ17
  subst l17 y17 z17
  obtain ⟨rfl, N17q, e17⟩ := hQ17
  have N17 := Fr.app N11 N17q
  obtain ⟨fs, hr, hrun, hended, hEnd⟩ := X17.leaveW hS11 (by rw [e17]; exact (Nat.le_refl _)) (v := some (.int (1 : Int32))) (fun h => by rw [Bd.returns] at h; cases h)
  have hFin : CHr Z EL s.vm s.heap T17.vm T17.heap := by
    have q := CR11.trans (CHv.at X17 hZ11 hEL CH11)
    rw [hh, e17]; exact q
  refine ⟨_, _, pre0 _ ?_, hrun, hended, _, _, rfl, ?_, hFin, ⟨hEnd.1, hEnd.2.1, hEnd.2.2.1, hEnd.2.2.2.mono (by decide) (by decide)⟩⟩
  · show Steps p.tables e below (s₁.setTop (mkF m 0 #[.val (.int p0), .unset, .unset, .unset] [])) _
    refine XS.iloadN X0.here hx rfl (hb hby at_0) rfl ?_
    show Steps p.tables e below (s₁.setTop (mkF m 1 #[.val (.int p0), .unset, .unset, .unset] [(.int p0)])) _
    refine X0.ldcInt hx hown (mvT hZ (hw _ (List.mem_of_getElem? (i := 0) rfl))) (g := (mkF m 1 #[.val (.int p0), .unset, .unset, .unset] [(.int p0)])) rfl (hb hby at_1) _ ?_
    show Steps p.tables e below (s₁.setTop (mkF m 3 #[.val (.int p0), .unset, .unset, .unset] [(.int (2147483647 : Int32)), (.int p0)])) _
    refine XS.iand X0.here hx rfl (hb hby at_3) rfl ?_
    show Steps p.tables e below (s₁.setTop (mkF m 4 #[.val (.int p0), .unset, .unset, .unset] [(.int (p0 &&& (2147483647 : Int32)))])) _
    refine XS.iconst X0.here hx rfl (hb hby at_4) ?_
    show Steps p.tables e below (s₁.setTop (mkF m 5 #[.val (.int p0), .unset, .unset, .unset] [(.int (5 : Int32)), (.int (p0 &&& (2147483647 : Int32)))])) _
    refine Jvm.RoadKit.iremM (g := (mkF m 5 #[.val (.int p0), .unset, .unset, .unset] [(.int (5 : Int32)), (.int (p0 &&& (2147483647 : Int32)))])) X0 hx rfl (hb hby at_5) rfl (by decide) ?_
    show Steps p.tables e below (s₁.setTop (mkF m 6 #[.val (.int p0), .unset, .unset, .unset] [(.int ((p0 &&& (2147483647 : Int32)) % (5 : Int32)))])) _
    rw [hk]
    show Steps p.tables e below (s₁.setTop (mkF m 6 #[.val (.int p0), .unset, .unset, .unset] [(.int (2 : Int32))])) _
    refine XS.istoreN X0.here hx rfl (hb hby at_6) rfl (l' := #[.val (.int p0), .val (.int (2 : Int32)), .unset, .unset]) rfl ?_
    show Steps p.tables e below (s₁.setTop (mkF m 7 #[.val (.int p0), .val (.int (2 : Int32)), .unset, .unset] [])) _
    refine XS.iloadN X0.here hx rfl (hb hby at_7) rfl ?_
    show Steps p.tables e below (s₁.setTop (mkF m 8 #[.val (.int p0), .val (.int (2 : Int32)), .unset, .unset] [(.int (2 : Int32))])) _
    refine XS.ifYes X0.here hx rfl (pc0 := 8) (pc' := 21) rfl (hb hby at_8) rfl ((if0 _ _).trans (feq ((by decide) : ¬ ((2 : Int32) = (0 : Int32)))).2) (by decide) (by decide) ?_
    show Steps p.tables e below (s₁.setTop (mkF m 21 #[.val (.int p0), .val (.int (2 : Int32)), .unset, .unset] [])) _
    refine XS.iloadN X0.here hx rfl (hb hby at_21) rfl ?_
    show Steps p.tables e below (s₁.setTop (mkF m 22 #[.val (.int p0), .val (.int (2 : Int32)), .unset, .unset] [(.int (2 : Int32))])) _
    refine XS.iconst X0.here hx rfl (hb hby at_22) ?_
    show Steps p.tables e below (s₁.setTop (mkF m 23 #[.val (.int p0), .val (.int (2 : Int32)), .unset, .unset] [(.int (1 : Int32)), (.int (2 : Int32))])) _
    refine XS.icmpYes X0.here hx rfl (pc0 := 23) (pc' := 36) rfl (hb hby at_23) rfl (feq ((by decide) : ¬ ((2 : Int32) = (1 : Int32)))).2 (by decide) (by decide) ?_
    show Steps p.tables e below (s₁.setTop (mkF m 36 #[.val (.int p0), .val (.int (2 : Int32)), .unset, .unset] [])) _
    refine XS.iloadN X0.here hx rfl (hb hby at_36) rfl ?_
    show Steps p.tables e below (s₁.setTop (mkF m 37 #[.val (.int p0), .val (.int (2 : Int32)), .unset, .unset] [(.int (2 : Int32))])) _
    refine XS.iconst X0.here hx rfl (hb hby at_37) ?_
    show Steps p.tables e below (s₁.setTop (mkF m 38 #[.val (.int p0), .val (.int (2 : Int32)), .unset, .unset] [(.int (2 : Int32)), (.int (2 : Int32))])) _
    refine XS.icmpNo X0.here hx rfl (hb hby at_38) rfl (teq ((by decide) : (2 : Int32) = (2 : Int32))).2 ?_
    show Steps p.tables e below (s₁.setTop (mkF m 41 #[.val (.int p0), .val (.int (2 : Int32)), .unset, .unset] [])) _
    refine st2 _ ?_
    show Steps p.tables e below (T2.setTop (mkF m 44 #[.val (.int p0), .val (.int (2 : Int32)), .unset, .unset] [(.ref w2)])) _
    refine XS.astoreN X2.here hx rfl (hb hby at_44) rfl rfl (l' := #[.val (.int p0), .val (.int (2 : Int32)), .val (.ref w2), .unset]) rfl ?_
    show Steps p.tables e below (T2.setTop (mkF m 45 #[.val (.int p0), .val (.int (2 : Int32)), .val (.ref w2), .unset] [])) _
    refine st3 _ ?_
    show Steps p.tables e below (T3.setTop (mkF m 47 #[.val (.int p0), .val (.int (2 : Int32)), .val (.ref w2), .unset] [(.ref sa3)])) _
    refine XS.astoreN X3.here hx rfl (hb hby at_47) rfl rfl (l' := #[.val (.int p0), .val (.int (2 : Int32)), .val (.ref w2), .val (.ref sa3)]) rfl ?_
    show Steps p.tables e below (T3.setTop (mkF m 48 #[.val (.int p0), .val (.int (2 : Int32)), .val (.ref w2), .val (.ref sa3)] [])) _
    refine XS.goto X3.here hx rfl (pc0 := 48) (pc' := 73) rfl (hb hby at_48) (by decide) (by decide) ?_
    show Steps p.tables e below (T3.setTop (mkF m 73 #[.val (.int p0), .val (.int (2 : Int32)), .val (.ref w2), .val (.ref sa3)] [])) _
    refine XS.aloadN X3.here hx rfl (hb hby at_73) rfl rfl ?_
    show Steps p.tables e below (T3.setTop (mkF m 74 #[.val (.int p0), .val (.int (2 : Int32)), .val (.ref w2), .val (.ref sa3)] [(.ref sa3)])) _
    refine XS.aloadN X3.here hx rfl (hb hby at_74) rfl rfl ?_
    show Steps p.tables e below (T3.setTop (mkF m 75 #[.val (.int p0), .val (.int (2 : Int32)), .val (.ref w2), .val (.ref sa3)] [(.ref w2), (.ref sa3)])) _
    refine st11.trans ?_
    show Steps p.tables e below (T11.setTop (mkF m 78 #[.val (.int p0), .val (.int (2 : Int32)), .val (.ref w2), .val (.ref sa3)] [(.ref x11), (.ref sa3)])) _
    refine st17.trans ?_
    show Steps p.tables e below (T17.setTop (mkF m 81 #[.val (.int p0), .val (.int (2 : Int32)), .val (.ref w2), .val (.ref sa3)] [(.int (1 : Int32))])) _
    exact retN X17 hx (t := .boolean) Bd.returns (by simp) (hb hby at_81) hr
  · exact ⟨rfl, N17, trivial⟩
def ab3 : List Int32 := [82]
def lit4 : List Int32 := [82, 64, 49, 48, 48]
set_option maxRecDepth 65536 in
set_option maxHeartbeats 40000000 in
theorem rl_3 (l : Launch) (Z : State) (a0 : Array Value) (hw : ∀ d ∈ tables_1, d.before a0 Z = true) (ws : List Jvm.Cond) (zc p0 : Int32) (ist d1 d2 w3 b3 c3 : Addr) (kz3 : ClassId) (h0 : Heap) (n0 : Nat) (O : Old Z n0 h0) (hE : EnvS Z zc) (hD : EnvD Z ist d1 d2) (hG3 : GG1 Z w3 b3 c3 kz3 "RECALL" "com/example/saturation/saturation/Measure$4" ab3 (100 : Int32)) (hk : (p0 &&& (2147483647 : Int32)) % (5 : Int32) = (3 : Int32)) (hEL : EW Z a0 EL) :
    MetFree l x (head1 (Jvm.Cond.code x code maxLocals ret :: ws) room_1) (fun a U => a = #[(.int p0)] ∧ Z.Warmed39 U.vm ∧ U.heap = h0 ∧ CHv Z EL U.vm h0) (fun _ _ _ _ _ => True) (fun _ U o U' => ∃ v L, o = .returned v ∧ Ql (some (.int (1 : Int32))) n0 v U'.heap L ∧ CHr Z EL U.vm U.heap U'.vm U'.heap ∧ ReturnedEndW U o U' L 32 6336) := by
  refine MetFree.of_bodySF (plainFor_of_name pn_com_example_saturation_saturation_MeasureLabelPinLaw) hisR ?_
  intro p e s m args below meth c s₁ Bd hml0 hP hK
  obtain ⟨rfl, hZ, hh, hCH⟩ := hP
  have hx := Bd.exec
  have hby := Bd.bytes
  have hml : c.maxLocals = 4 := hml0
  have hown : s.vm.findClass "com/example/saturation/saturation/MeasureLabelPinLaw" = some m.cls := findClass_of_methodNamed Bd.named
  have hnm := (name_of_methodNamed Bd.named Bd.method).1
  have X0 : Stand p l e room_1 (s.setVm s.vm) m #[(.int p0)] below meth c s₁ [] 0 0 := Stand.of_body Bd
  have e0 : s₁.heap = h0 := by rw [← hh, Bd.state]; rfl
  have N0 := Fr.nil n0
  have pre0 : ∀ t, Steps p.tables e below (s₁.setTop (mkF m 0 #[.val (.int p0), .unset, .unset, .unset] [])) t → Steps p.tables e below (s₁.setTop (entryFrame m #[(.int p0)] maxLocals)) t := fun t k => castTop (ef_maxLocals_I m p0) k
  have hS0 : s.Since s.vm 0 := (State.WarmedH.refl s).since 0
  have hk0 : 0 ≤ h0.size := Nat.zero_le _
  have CR0 : CHr Z EL s.vm h0 s.vm h0 := CHr.refl hCH
  obtain ⟨Sw, Ew, Fa, Fd, hS⟩ := id hG3
  obtain ⟨Es1, Vs1, Cs1, As1⟩ := id (hS.ext O.2)
  obtain ⟨T2, X2, e2, st2⟩ := getS2 X0 hx hZ hown (host := "") (Or.inl (hw _ (List.mem_of_getElem? (i := 168) rfl))) Via.refl e0 (Sw.ext O.2) (g := (mkF m 56 #[.val (.int p0), .val (.int (3 : Int32)), .unset, .unset] [])) rfl (hb hby at_56)
  obtain ⟨sa3, T3, h3, k3, sd3, kc3, X3, e3, E3, hS3, hk3, hZ3, ho3, Es3, Cs3, Vs3, As3, la3, lb3, Cq3, hL3, hne3, st3⟩ := ldcCH X2 hx hZ hown (hw _ (List.mem_of_getElem? (i := 170) rfl)) (own_wS hw) e2 hS0 hk0 hEL (by simp [EL, consts_1]) hCH (vs := by8 lit4) (z := Int32.ofNat lit4.length) ⟨by decide, rfl⟩ (by decide) (by decide) (g := (mkF m 60 #[.val (.int p0), .val (.int (3 : Int32)), .val (.ref w3), .unset] [])) rfl (hb hby at_60) (n := 20) (by decide) (by decide) (by decide) (by decide)
  have O3 : Old Z n0 h3 := O.ext E3
  have Kp3 : Keep h0 h3 [] := (Keep.refl h0 []).ext E3
  have Cl3 : CHr Z EL s.vm h0 T3.vm h3 := Cq3
  have CR3 : CHr Z EL s.vm h0 T3.vm h3 := CR0.trans Cl3
  have CH3 := CR3.1
  have f4 : Exa Z h3 w3 "com/example/saturation/saturation/Measure$4" := ((Ew.ext O.2).ext E3)
  have f5 : Fld Z h3 w3 "com/example/saturation/saturation/Measure" "abbreviation" "Ljava/lang/String;" (.ref b3) := ((Fa.ext O.2).ext E3)
  have f6 : Fld Z h3 w3 "com/example/saturation/saturation/Measure" "depth" "I" (.int (100 : Int32)) := ((Fd.ext O.2).ext E3)
  have f7 : Exa Z h3 b3 "java/lang/String" := (Es1.ext E3)
  have f8 : Fld Z h3 b3 "java/lang/String" "value" "[B" (.ref c3) := (Vs1.ext E3)
  have f9 : Fld Z h3 b3 "java/lang/String" "coder" "B" (.int (0 : Int32)) := (Cs1.ext E3)
  have f10 : Arv Z h3 c3 kz3 .byte (Int32.ofNat ab3.length) (by8 ab3) (.int (0 : Int32)) := (As1.ext E3)
  obtain ⟨cq11, kq11, q11a, q11b, q11c⟩ := isOf hZ3 e3 f4
  obtain ⟨_, _, ⟨T11, L11, k11, n11⟩, -, X11p, hS11p, hg11, ⟨Lc11, hQ11, l11, y11, z11, Cq11⟩, st11⟩ := X3.virtualBackS hx (y := (⟨"com/example/saturation/saturation/Measure", "label", "()Ljava/lang/String;"⟩ : MethodName)) (z := (⟨"com/example/saturation/saturation/Measure", "label", "()Ljava/lang/String;"⟩ : MethodName)) ho3 (mvT hZ3 (hw _ (List.mem_of_getElem? (i := 12) rfl))) (mvT hZ3 (hw _ (List.mem_of_getElem? (i := 13) rfl))) (notFace_of_selects (args := #[]) (mvT hZ3 (hw _ (List.mem_of_getElem? (i := 171) rfl)))) (mvT hZ3 (hw _ (List.mem_of_getElem? (i := 171) rfl))) (mvT hZ3 (hw _ (List.mem_of_getElem? (i := 14) rfl))) (by decide) (backOfSH (W := 1) (rm_label l Z a0 hw [] zc w3 b3 c3 kz3 ab3 (100 : Int32) ist d1 d2 h3 n0 O3 hE hD f5 f6 ⟨f7, f8, f9, f10⟩ (by decide +kernel) hEL) hZ3 (hw _ (List.mem_of_getElem? (i := 16) rfl)) (hw _ (List.mem_of_getElem? (i := 2) rfl)) (by decide) (by decide) hEL CH3) q11a q11c (g := (mkF m 75 #[.val (.int p0), .val (.int (3 : Int32)), .val (.ref w3), .val (.ref sa3)] [(.ref w3), (.ref sa3)])) rfl (by rw [hml]; rfl) (Steps.refl _) (argsL := []) (rest := [(.ref sa3)]) (lenOf pd_2829Ljava2flang2fString3b rfl) rfl (by show 2 * 0 + _ ≤ _; exact Nat.le_of_eq rfl) (hb hby at_75) (fun _ _ => ⟨rfl, e3, (by decide : 2 + 6 ≤ _), (by decide : 24 + 232 ≤ _)⟩)
  dsimp only [Pt.U, Pt.locs, Pt.cells, Pt.slots] at X11p hS11p hg11 l11 y11 z11 st11 hQ11 Cq11
  subst l11 y11 z11
  obtain ⟨X11, hS11, hZ11, ho11⟩ := rebS hS3 (by rw [e3]; exact hk3) X11p hS11p hg11 hZ3 ho3
  obtain ⟨x11, rfl, N11q, K11, ⟨t11, kx11, Ps11, gx11, gt11⟩⟩ := hQ11
  have N11 := Fr.app N0 N11q
  have gzx11 : h0.size ≤ x11 := Nat.le_trans Kp3.1 gx11
  have gnx11 : n0 ≤ x11 := by have q1 := O3.1; have q2 := O3.2.1; omega
  have gzt11 : h0.size ≤ t11 := Nat.le_trans Kp3.1 gt11
  have gnt11 : n0 ≤ t11 := by have q1 := O3.1; have q2 := O3.2.1; omega
  have O11 : Old Z n0 T11.heap := O3.keep K11 all0
  have Kp11 : Keep h0 T11.heap [] := Kp3.trans K11 all0
  have Cl11 : CHr Z EL T3.vm h3 T11.vm T11.heap := Cq11
  have CR11 : CHr Z EL s.vm h0 T11.vm T11.heap := CR3.trans Cl11
  have CH11 := CR11.1
  obtain ⟨Es12, Vs12, Cs12, As12⟩ := id Ps11
  have f13 : Exa Z T11.heap sa3 "java/lang/String" := (Es3.keep K11)
  have f14 : Fld Z T11.heap sa3 "java/lang/String" "value" "[B" (.ref sd3) := (Vs3.keep K11 nin0)
  have f15 : Fld Z T11.heap sa3 "java/lang/String" "coder" "B" (.int (0 : Int32)) := (Cs3.keep K11 nin0)
  have f16 : Arv Z T11.heap sd3 kc3 .byte (Int32.ofNat lit4.length) (by8 lit4) (.int (0 : Int32)) := (As3.keep K11 nin0)
  obtain ⟨cq17, kq17, q17a, q17b, q17c⟩ := isOf hZ11 rfl f13
  obtain ⟨_, _, ⟨T17, L17, k17, n17⟩, -, X17, ⟨Lc17, hQ17, l17, y17, z17⟩, st17⟩ := X11.virtualBack hx (y := (⟨"java/lang/String", "equals", "(Ljava/lang/Object;)Z"⟩ : MethodName)) (z := (⟨"java/lang/String", "equals", "(Ljava/lang/Object;)Z"⟩ : MethodName)) ho11 (mvT hZ11 (hw _ (List.mem_of_getElem? (i := 158) rfl))) (mvT hZ11 (hw _ (List.mem_of_getElem? (i := 159) rfl))) (notFace_of_selects (args := #[]) (mvT hZ11 (hw _ (List.mem_of_getElem? (i := 161) rfl)))) (mvT hZ11 (hw _ (List.mem_of_getElem? (i := 161) rfl))) (mvT hZ11 (hw _ (List.mem_of_getElem? (i := 160) rfl))) (by decide) (backOf (W := 0) (sb_equals1 l Z a0 hw [] zc sa3 sd3 kc3 lit4 x11 t11 kx11 (((([] : List Int32) ++ ab3) ++ lit0) ++ decI (100 : Int32)) T11.heap n0 O11 hE ⟨f13, f14, f15, f16⟩ ⟨Es12, Vs12, Cs12, As12⟩ (Nat.ne_of_lt (Nat.lt_of_lt_of_le Vs3.lt gx11)) (by decide +kernel) (by decide +kernel) (by decide +kernel)) hZ11 (hw _ (List.mem_of_getElem? (i := 162) rfl)) (hw _ (List.mem_of_getElem? (i := 5) rfl)) (by decide) (by decide)) q17a q17c (g := (mkF m 78 #[.val (.int p0), .val (.int (3 : Int32)), .val (.ref w3), .val (.ref sa3)] [(.ref x11), (.ref sa3)])) rfl (by rw [hml]; rfl) (Steps.refl _) (argsL := [(.ref x11)]) (rest := []) (lenOf pd_28Ljava2flang2fObject3b29Z rfl) rfl (by show 2 * 0 + _ ≤ _; exact Nat.le_of_eq rfl) (hb hby at_78) (fun _ _ => ⟨rfl, rfl, (by decide : 8 + 0 ≤ _), (by decide : 256 + 0 ≤ _)⟩)
  dsimp only [Pt.U, Pt.locs, Pt.cells, Pt.slots] at X17 l17 y17 z17 st17 hQ17
  subst l17 y17 z17
  obtain ⟨rfl, N17q, e17⟩ := hQ17
  have N17 := Fr.app N11 N17q
  obtain ⟨fs, hr, hrun, hended, hEnd⟩ := X17.leaveW hS11 (by rw [e17]; exact (Nat.le_refl _)) (v := some (.int (1 : Int32))) (fun h => by rw [Bd.returns] at h; cases h)
  have hFin : CHr Z EL s.vm s.heap T17.vm T17.heap := by
    have q := CR11.trans (CHv.at X17 hZ11 hEL CH11)
    rw [hh, e17]; exact q
  refine ⟨_, _, pre0 _ ?_, hrun, hended, _, _, rfl, ?_, hFin, ⟨hEnd.1, hEnd.2.1, hEnd.2.2.1, hEnd.2.2.2.mono (by decide) (by decide)⟩⟩
  · show Steps p.tables e below (s₁.setTop (mkF m 0 #[.val (.int p0), .unset, .unset, .unset] [])) _
    refine XS.iloadN X0.here hx rfl (hb hby at_0) rfl ?_
    show Steps p.tables e below (s₁.setTop (mkF m 1 #[.val (.int p0), .unset, .unset, .unset] [(.int p0)])) _
    refine X0.ldcInt hx hown (mvT hZ (hw _ (List.mem_of_getElem? (i := 0) rfl))) (g := (mkF m 1 #[.val (.int p0), .unset, .unset, .unset] [(.int p0)])) rfl (hb hby at_1) _ ?_
    show Steps p.tables e below (s₁.setTop (mkF m 3 #[.val (.int p0), .unset, .unset, .unset] [(.int (2147483647 : Int32)), (.int p0)])) _
    refine XS.iand X0.here hx rfl (hb hby at_3) rfl ?_
    show Steps p.tables e below (s₁.setTop (mkF m 4 #[.val (.int p0), .unset, .unset, .unset] [(.int (p0 &&& (2147483647 : Int32)))])) _
    refine XS.iconst X0.here hx rfl (hb hby at_4) ?_
    show Steps p.tables e below (s₁.setTop (mkF m 5 #[.val (.int p0), .unset, .unset, .unset] [(.int (5 : Int32)), (.int (p0 &&& (2147483647 : Int32)))])) _
    refine Jvm.RoadKit.iremM (g := (mkF m 5 #[.val (.int p0), .unset, .unset, .unset] [(.int (5 : Int32)), (.int (p0 &&& (2147483647 : Int32)))])) X0 hx rfl (hb hby at_5) rfl (by decide) ?_
    show Steps p.tables e below (s₁.setTop (mkF m 6 #[.val (.int p0), .unset, .unset, .unset] [(.int ((p0 &&& (2147483647 : Int32)) % (5 : Int32)))])) _
    rw [hk]
    show Steps p.tables e below (s₁.setTop (mkF m 6 #[.val (.int p0), .unset, .unset, .unset] [(.int (3 : Int32))])) _
    refine XS.istoreN X0.here hx rfl (hb hby at_6) rfl (l' := #[.val (.int p0), .val (.int (3 : Int32)), .unset, .unset]) rfl ?_
    show Steps p.tables e below (s₁.setTop (mkF m 7 #[.val (.int p0), .val (.int (3 : Int32)), .unset, .unset] [])) _
    refine XS.iloadN X0.here hx rfl (hb hby at_7) rfl ?_
    show Steps p.tables e below (s₁.setTop (mkF m 8 #[.val (.int p0), .val (.int (3 : Int32)), .unset, .unset] [(.int (3 : Int32))])) _
    refine XS.ifYes X0.here hx rfl (pc0 := 8) (pc' := 21) rfl (hb hby at_8) rfl ((if0 _ _).trans (feq ((by decide) : ¬ ((3 : Int32) = (0 : Int32)))).2) (by decide) (by decide) ?_
    show Steps p.tables e below (s₁.setTop (mkF m 21 #[.val (.int p0), .val (.int (3 : Int32)), .unset, .unset] [])) _
    refine XS.iloadN X0.here hx rfl (hb hby at_21) rfl ?_
    show Steps p.tables e below (s₁.setTop (mkF m 22 #[.val (.int p0), .val (.int (3 : Int32)), .unset, .unset] [(.int (3 : Int32))])) _
    refine XS.iconst X0.here hx rfl (hb hby at_22) ?_
    show Steps p.tables e below (s₁.setTop (mkF m 23 #[.val (.int p0), .val (.int (3 : Int32)), .unset, .unset] [(.int (1 : Int32)), (.int (3 : Int32))])) _
    refine XS.icmpYes X0.here hx rfl (pc0 := 23) (pc' := 36) rfl (hb hby at_23) rfl (feq ((by decide) : ¬ ((3 : Int32) = (1 : Int32)))).2 (by decide) (by decide) ?_
    show Steps p.tables e below (s₁.setTop (mkF m 36 #[.val (.int p0), .val (.int (3 : Int32)), .unset, .unset] [])) _
    refine XS.iloadN X0.here hx rfl (hb hby at_36) rfl ?_
    show Steps p.tables e below (s₁.setTop (mkF m 37 #[.val (.int p0), .val (.int (3 : Int32)), .unset, .unset] [(.int (3 : Int32))])) _
    refine XS.iconst X0.here hx rfl (hb hby at_37) ?_
    show Steps p.tables e below (s₁.setTop (mkF m 38 #[.val (.int p0), .val (.int (3 : Int32)), .unset, .unset] [(.int (2 : Int32)), (.int (3 : Int32))])) _
    refine XS.icmpYes X0.here hx rfl (pc0 := 38) (pc' := 51) rfl (hb hby at_38) rfl (feq ((by decide) : ¬ ((3 : Int32) = (2 : Int32)))).2 (by decide) (by decide) ?_
    show Steps p.tables e below (s₁.setTop (mkF m 51 #[.val (.int p0), .val (.int (3 : Int32)), .unset, .unset] [])) _
    refine XS.iloadN X0.here hx rfl (hb hby at_51) rfl ?_
    show Steps p.tables e below (s₁.setTop (mkF m 52 #[.val (.int p0), .val (.int (3 : Int32)), .unset, .unset] [(.int (3 : Int32))])) _
    refine XS.iconst X0.here hx rfl (hb hby at_52) ?_
    show Steps p.tables e below (s₁.setTop (mkF m 53 #[.val (.int p0), .val (.int (3 : Int32)), .unset, .unset] [(.int (3 : Int32)), (.int (3 : Int32))])) _
    refine XS.icmpNo X0.here hx rfl (hb hby at_53) rfl (teq ((by decide) : (3 : Int32) = (3 : Int32))).2 ?_
    show Steps p.tables e below (s₁.setTop (mkF m 56 #[.val (.int p0), .val (.int (3 : Int32)), .unset, .unset] [])) _
    refine st2 _ ?_
    show Steps p.tables e below (T2.setTop (mkF m 59 #[.val (.int p0), .val (.int (3 : Int32)), .unset, .unset] [(.ref w3)])) _
    refine XS.astoreN X2.here hx rfl (hb hby at_59) rfl rfl (l' := #[.val (.int p0), .val (.int (3 : Int32)), .val (.ref w3), .unset]) rfl ?_
    show Steps p.tables e below (T2.setTop (mkF m 60 #[.val (.int p0), .val (.int (3 : Int32)), .val (.ref w3), .unset] [])) _
    refine st3 _ ?_
    show Steps p.tables e below (T3.setTop (mkF m 62 #[.val (.int p0), .val (.int (3 : Int32)), .val (.ref w3), .unset] [(.ref sa3)])) _
    refine XS.astoreN X3.here hx rfl (hb hby at_62) rfl rfl (l' := #[.val (.int p0), .val (.int (3 : Int32)), .val (.ref w3), .val (.ref sa3)]) rfl ?_
    show Steps p.tables e below (T3.setTop (mkF m 63 #[.val (.int p0), .val (.int (3 : Int32)), .val (.ref w3), .val (.ref sa3)] [])) _
    refine XS.goto X3.here hx rfl (pc0 := 63) (pc' := 73) rfl (hb hby at_63) (by decide) (by decide) ?_
    show Steps p.tables e below (T3.setTop (mkF m 73 #[.val (.int p0), .val (.int (3 : Int32)), .val (.ref w3), .val (.ref sa3)] [])) _
    refine XS.aloadN X3.here hx rfl (hb hby at_73) rfl rfl ?_
    show Steps p.tables e below (T3.setTop (mkF m 74 #[.val (.int p0), .val (.int (3 : Int32)), .val (.ref w3), .val (.ref sa3)] [(.ref sa3)])) _
    refine XS.aloadN X3.here hx rfl (hb hby at_74) rfl rfl ?_
    show Steps p.tables e below (T3.setTop (mkF m 75 #[.val (.int p0), .val (.int (3 : Int32)), .val (.ref w3), .val (.ref sa3)] [(.ref w3), (.ref sa3)])) _
    refine st11.trans ?_
    show Steps p.tables e below (T11.setTop (mkF m 78 #[.val (.int p0), .val (.int (3 : Int32)), .val (.ref w3), .val (.ref sa3)] [(.ref x11), (.ref sa3)])) _
    refine st17.trans ?_
    show Steps p.tables e below (T17.setTop (mkF m 81 #[.val (.int p0), .val (.int (3 : Int32)), .val (.ref w3), .val (.ref sa3)] [(.int (1 : Int32))])) _
    exact retN X17 hx (t := .boolean) Bd.returns (by simp) (hb hby at_81) hr
  · exact ⟨rfl, N17, trivial⟩
def ab4 : List Int32 := [77, 82, 82]
def lit5 : List Int32 := [77, 82, 82, 64, 49, 48]
set_option maxRecDepth 65536 in
set_option maxHeartbeats 40000000 in
theorem rl_4 (l : Launch) (Z : State) (a0 : Array Value) (hw : ∀ d ∈ tables_1, d.before a0 Z = true) (ws : List Jvm.Cond) (zc p0 : Int32) (ist d1 d2 w4 b4 c4 : Addr) (kz4 : ClassId) (h0 : Heap) (n0 : Nat) (O : Old Z n0 h0) (hE : EnvS Z zc) (hD : EnvD Z ist d1 d2) (hG4 : GG1 Z w4 b4 c4 kz4 "RECIPROCAL_RANK" "com/example/saturation/saturation/Measure$5" ab4 (10 : Int32)) (hk : (p0 &&& (2147483647 : Int32)) % (5 : Int32) = (4 : Int32)) (hEL : EW Z a0 EL) :
    MetFree l x (head1 (Jvm.Cond.code x code maxLocals ret :: ws) room_1) (fun a U => a = #[(.int p0)] ∧ Z.Warmed39 U.vm ∧ U.heap = h0 ∧ CHv Z EL U.vm h0) (fun _ _ _ _ _ => True) (fun _ U o U' => ∃ v L, o = .returned v ∧ Ql (some (.int (1 : Int32))) n0 v U'.heap L ∧ CHr Z EL U.vm U.heap U'.vm U'.heap ∧ ReturnedEndW U o U' L 32 6336) := by
  refine MetFree.of_bodySF (plainFor_of_name pn_com_example_saturation_saturation_MeasureLabelPinLaw) hisR ?_
  intro p e s m args below meth c s₁ Bd hml0 hP hK
  obtain ⟨rfl, hZ, hh, hCH⟩ := hP
  have hx := Bd.exec
  have hby := Bd.bytes
  have hml : c.maxLocals = 4 := hml0
  have hown : s.vm.findClass "com/example/saturation/saturation/MeasureLabelPinLaw" = some m.cls := findClass_of_methodNamed Bd.named
  have hnm := (name_of_methodNamed Bd.named Bd.method).1
  have X0 : Stand p l e room_1 (s.setVm s.vm) m #[(.int p0)] below meth c s₁ [] 0 0 := Stand.of_body Bd
  have e0 : s₁.heap = h0 := by rw [← hh, Bd.state]; rfl
  have N0 := Fr.nil n0
  have pre0 : ∀ t, Steps p.tables e below (s₁.setTop (mkF m 0 #[.val (.int p0), .unset, .unset, .unset] [])) t → Steps p.tables e below (s₁.setTop (entryFrame m #[(.int p0)] maxLocals)) t := fun t k => castTop (ef_maxLocals_I m p0) k
  have hS0 : s.Since s.vm 0 := (State.WarmedH.refl s).since 0
  have hk0 : 0 ≤ h0.size := Nat.zero_le _
  have CR0 : CHr Z EL s.vm h0 s.vm h0 := CHr.refl hCH
  obtain ⟨Sw, Ew, Fa, Fd, hS⟩ := id hG4
  obtain ⟨Es1, Vs1, Cs1, As1⟩ := id (hS.ext O.2)
  obtain ⟨T2, X2, e2, st2⟩ := getS2 X0 hx hZ hown (host := "") (Or.inl (hw _ (List.mem_of_getElem? (i := 180) rfl))) Via.refl e0 (Sw.ext O.2) (g := (mkF m 66 #[.val (.int p0), .val (.int (4 : Int32)), .unset, .unset] [])) rfl (hb hby at_66)
  obtain ⟨sa3, T3, h3, k3, sd3, kc3, X3, e3, E3, hS3, hk3, hZ3, ho3, Es3, Cs3, Vs3, As3, la3, lb3, Cq3, hL3, hne3, st3⟩ := ldcCH X2 hx hZ hown (hw _ (List.mem_of_getElem? (i := 182) rfl)) (own_wS hw) e2 hS0 hk0 hEL (by simp [EL, consts_1]) hCH (vs := by8 lit5) (z := Int32.ofNat lit5.length) ⟨by decide, rfl⟩ (by decide) (by decide) (g := (mkF m 70 #[.val (.int p0), .val (.int (4 : Int32)), .val (.ref w4), .unset] [])) rfl (hb hby at_70) (n := 24) (by decide) (by decide) (by decide) (by decide)
  have O3 : Old Z n0 h3 := O.ext E3
  have Kp3 : Keep h0 h3 [] := (Keep.refl h0 []).ext E3
  have Cl3 : CHr Z EL s.vm h0 T3.vm h3 := Cq3
  have CR3 : CHr Z EL s.vm h0 T3.vm h3 := CR0.trans Cl3
  have CH3 := CR3.1
  have f4 : Exa Z h3 w4 "com/example/saturation/saturation/Measure$5" := ((Ew.ext O.2).ext E3)
  have f5 : Fld Z h3 w4 "com/example/saturation/saturation/Measure" "abbreviation" "Ljava/lang/String;" (.ref b4) := ((Fa.ext O.2).ext E3)
  have f6 : Fld Z h3 w4 "com/example/saturation/saturation/Measure" "depth" "I" (.int (10 : Int32)) := ((Fd.ext O.2).ext E3)
  have f7 : Exa Z h3 b4 "java/lang/String" := (Es1.ext E3)
  have f8 : Fld Z h3 b4 "java/lang/String" "value" "[B" (.ref c4) := (Vs1.ext E3)
  have f9 : Fld Z h3 b4 "java/lang/String" "coder" "B" (.int (0 : Int32)) := (Cs1.ext E3)
  have f10 : Arv Z h3 c4 kz4 .byte (Int32.ofNat ab4.length) (by8 ab4) (.int (0 : Int32)) := (As1.ext E3)
  obtain ⟨cq11, kq11, q11a, q11b, q11c⟩ := isOf hZ3 e3 f4
  obtain ⟨_, _, ⟨T11, L11, k11, n11⟩, -, X11p, hS11p, hg11, ⟨Lc11, hQ11, l11, y11, z11, Cq11⟩, st11⟩ := X3.virtualBackS hx (y := (⟨"com/example/saturation/saturation/Measure", "label", "()Ljava/lang/String;"⟩ : MethodName)) (z := (⟨"com/example/saturation/saturation/Measure", "label", "()Ljava/lang/String;"⟩ : MethodName)) ho3 (mvT hZ3 (hw _ (List.mem_of_getElem? (i := 12) rfl))) (mvT hZ3 (hw _ (List.mem_of_getElem? (i := 13) rfl))) (notFace_of_selects (args := #[]) (mvT hZ3 (hw _ (List.mem_of_getElem? (i := 183) rfl)))) (mvT hZ3 (hw _ (List.mem_of_getElem? (i := 183) rfl))) (mvT hZ3 (hw _ (List.mem_of_getElem? (i := 14) rfl))) (by decide) (backOfSH (W := 1) (rm_label l Z a0 hw [] zc w4 b4 c4 kz4 ab4 (10 : Int32) ist d1 d2 h3 n0 O3 hE hD f5 f6 ⟨f7, f8, f9, f10⟩ (by decide +kernel) hEL) hZ3 (hw _ (List.mem_of_getElem? (i := 16) rfl)) (hw _ (List.mem_of_getElem? (i := 2) rfl)) (by decide) (by decide) hEL CH3) q11a q11c (g := (mkF m 75 #[.val (.int p0), .val (.int (4 : Int32)), .val (.ref w4), .val (.ref sa3)] [(.ref w4), (.ref sa3)])) rfl (by rw [hml]; rfl) (Steps.refl _) (argsL := []) (rest := [(.ref sa3)]) (lenOf pd_2829Ljava2flang2fString3b rfl) rfl (by show 2 * 0 + _ ≤ _; exact Nat.le_of_eq rfl) (hb hby at_75) (fun _ _ => ⟨rfl, e3, (by decide : 2 + 6 ≤ _), (by decide : 28 + 232 ≤ _)⟩)
  dsimp only [Pt.U, Pt.locs, Pt.cells, Pt.slots] at X11p hS11p hg11 l11 y11 z11 st11 hQ11 Cq11
  subst l11 y11 z11
  obtain ⟨X11, hS11, hZ11, ho11⟩ := rebS hS3 (by rw [e3]; exact hk3) X11p hS11p hg11 hZ3 ho3
  obtain ⟨x11, rfl, N11q, K11, ⟨t11, kx11, Ps11, gx11, gt11⟩⟩ := hQ11
  have N11 := Fr.app N0 N11q
  have gzx11 : h0.size ≤ x11 := Nat.le_trans Kp3.1 gx11
  have gnx11 : n0 ≤ x11 := by have q1 := O3.1; have q2 := O3.2.1; omega
  have gzt11 : h0.size ≤ t11 := Nat.le_trans Kp3.1 gt11
  have gnt11 : n0 ≤ t11 := by have q1 := O3.1; have q2 := O3.2.1; omega
  have O11 : Old Z n0 T11.heap := O3.keep K11 all0
  have Kp11 : Keep h0 T11.heap [] := Kp3.trans K11 all0
  have Cl11 : CHr Z EL T3.vm h3 T11.vm T11.heap := Cq11
  have CR11 : CHr Z EL s.vm h0 T11.vm T11.heap := CR3.trans Cl11
  have CH11 := CR11.1
  obtain ⟨Es12, Vs12, Cs12, As12⟩ := id Ps11
  have f13 : Exa Z T11.heap sa3 "java/lang/String" := (Es3.keep K11)
  have f14 : Fld Z T11.heap sa3 "java/lang/String" "value" "[B" (.ref sd3) := (Vs3.keep K11 nin0)
  have f15 : Fld Z T11.heap sa3 "java/lang/String" "coder" "B" (.int (0 : Int32)) := (Cs3.keep K11 nin0)
  have f16 : Arv Z T11.heap sd3 kc3 .byte (Int32.ofNat lit5.length) (by8 lit5) (.int (0 : Int32)) := (As3.keep K11 nin0)
  obtain ⟨cq17, kq17, q17a, q17b, q17c⟩ := isOf hZ11 rfl f13
  obtain ⟨_, _, ⟨T17, L17, k17, n17⟩, -, X17, ⟨Lc17, hQ17, l17, y17, z17⟩, st17⟩ := X11.virtualBack hx (y := (⟨"java/lang/String", "equals", "(Ljava/lang/Object;)Z"⟩ : MethodName)) (z := (⟨"java/lang/String", "equals", "(Ljava/lang/Object;)Z"⟩ : MethodName)) ho11 (mvT hZ11 (hw _ (List.mem_of_getElem? (i := 158) rfl))) (mvT hZ11 (hw _ (List.mem_of_getElem? (i := 159) rfl))) (notFace_of_selects (args := #[]) (mvT hZ11 (hw _ (List.mem_of_getElem? (i := 161) rfl)))) (mvT hZ11 (hw _ (List.mem_of_getElem? (i := 161) rfl))) (mvT hZ11 (hw _ (List.mem_of_getElem? (i := 160) rfl))) (by decide) (backOf (W := 0) (sb_equals1 l Z a0 hw [] zc sa3 sd3 kc3 lit5 x11 t11 kx11 (((([] : List Int32) ++ ab4) ++ lit0) ++ decI (10 : Int32)) T11.heap n0 O11 hE ⟨f13, f14, f15, f16⟩ ⟨Es12, Vs12, Cs12, As12⟩ (Nat.ne_of_lt (Nat.lt_of_lt_of_le Vs3.lt gx11)) (by decide +kernel) (by decide +kernel) (by decide +kernel)) hZ11 (hw _ (List.mem_of_getElem? (i := 162) rfl)) (hw _ (List.mem_of_getElem? (i := 5) rfl)) (by decide) (by decide)) q17a q17c (g := (mkF m 78 #[.val (.int p0), .val (.int (4 : Int32)), .val (.ref w4), .val (.ref sa3)] [(.ref x11), (.ref sa3)])) rfl (by rw [hml]; rfl) (Steps.refl _) (argsL := [(.ref x11)]) (rest := []) (lenOf pd_28Ljava2flang2fObject3b29Z rfl) rfl (by show 2 * 0 + _ ≤ _; exact Nat.le_of_eq rfl) (hb hby at_78) (fun _ _ => ⟨rfl, rfl, (by decide : 8 + 0 ≤ _), (by decide : 260 + 0 ≤ _)⟩)
  dsimp only [Pt.U, Pt.locs, Pt.cells, Pt.slots] at X17 l17 y17 z17 st17 hQ17
  subst l17 y17 z17
  obtain ⟨rfl, N17q, e17⟩ := hQ17
  have N17 := Fr.app N11 N17q
  obtain ⟨fs, hr, hrun, hended, hEnd⟩ := X17.leaveW hS11 (by rw [e17]; exact (Nat.le_refl _)) (v := some (.int (1 : Int32))) (fun h => by rw [Bd.returns] at h; cases h)
  have hFin : CHr Z EL s.vm s.heap T17.vm T17.heap := by
    have q := CR11.trans (CHv.at X17 hZ11 hEL CH11)
    rw [hh, e17]; exact q
  refine ⟨_, _, pre0 _ ?_, hrun, hended, _, _, rfl, ?_, hFin, ⟨hEnd.1, hEnd.2.1, hEnd.2.2.1, hEnd.2.2.2.mono (by decide) (by decide)⟩⟩
  · show Steps p.tables e below (s₁.setTop (mkF m 0 #[.val (.int p0), .unset, .unset, .unset] [])) _
    refine XS.iloadN X0.here hx rfl (hb hby at_0) rfl ?_
    show Steps p.tables e below (s₁.setTop (mkF m 1 #[.val (.int p0), .unset, .unset, .unset] [(.int p0)])) _
    refine X0.ldcInt hx hown (mvT hZ (hw _ (List.mem_of_getElem? (i := 0) rfl))) (g := (mkF m 1 #[.val (.int p0), .unset, .unset, .unset] [(.int p0)])) rfl (hb hby at_1) _ ?_
    show Steps p.tables e below (s₁.setTop (mkF m 3 #[.val (.int p0), .unset, .unset, .unset] [(.int (2147483647 : Int32)), (.int p0)])) _
    refine XS.iand X0.here hx rfl (hb hby at_3) rfl ?_
    show Steps p.tables e below (s₁.setTop (mkF m 4 #[.val (.int p0), .unset, .unset, .unset] [(.int (p0 &&& (2147483647 : Int32)))])) _
    refine XS.iconst X0.here hx rfl (hb hby at_4) ?_
    show Steps p.tables e below (s₁.setTop (mkF m 5 #[.val (.int p0), .unset, .unset, .unset] [(.int (5 : Int32)), (.int (p0 &&& (2147483647 : Int32)))])) _
    refine Jvm.RoadKit.iremM (g := (mkF m 5 #[.val (.int p0), .unset, .unset, .unset] [(.int (5 : Int32)), (.int (p0 &&& (2147483647 : Int32)))])) X0 hx rfl (hb hby at_5) rfl (by decide) ?_
    show Steps p.tables e below (s₁.setTop (mkF m 6 #[.val (.int p0), .unset, .unset, .unset] [(.int ((p0 &&& (2147483647 : Int32)) % (5 : Int32)))])) _
    rw [hk]
    show Steps p.tables e below (s₁.setTop (mkF m 6 #[.val (.int p0), .unset, .unset, .unset] [(.int (4 : Int32))])) _
    refine XS.istoreN X0.here hx rfl (hb hby at_6) rfl (l' := #[.val (.int p0), .val (.int (4 : Int32)), .unset, .unset]) rfl ?_
    show Steps p.tables e below (s₁.setTop (mkF m 7 #[.val (.int p0), .val (.int (4 : Int32)), .unset, .unset] [])) _
    refine XS.iloadN X0.here hx rfl (hb hby at_7) rfl ?_
    show Steps p.tables e below (s₁.setTop (mkF m 8 #[.val (.int p0), .val (.int (4 : Int32)), .unset, .unset] [(.int (4 : Int32))])) _
    refine XS.ifYes X0.here hx rfl (pc0 := 8) (pc' := 21) rfl (hb hby at_8) rfl ((if0 _ _).trans (feq ((by decide) : ¬ ((4 : Int32) = (0 : Int32)))).2) (by decide) (by decide) ?_
    show Steps p.tables e below (s₁.setTop (mkF m 21 #[.val (.int p0), .val (.int (4 : Int32)), .unset, .unset] [])) _
    refine XS.iloadN X0.here hx rfl (hb hby at_21) rfl ?_
    show Steps p.tables e below (s₁.setTop (mkF m 22 #[.val (.int p0), .val (.int (4 : Int32)), .unset, .unset] [(.int (4 : Int32))])) _
    refine XS.iconst X0.here hx rfl (hb hby at_22) ?_
    show Steps p.tables e below (s₁.setTop (mkF m 23 #[.val (.int p0), .val (.int (4 : Int32)), .unset, .unset] [(.int (1 : Int32)), (.int (4 : Int32))])) _
    refine XS.icmpYes X0.here hx rfl (pc0 := 23) (pc' := 36) rfl (hb hby at_23) rfl (feq ((by decide) : ¬ ((4 : Int32) = (1 : Int32)))).2 (by decide) (by decide) ?_
    show Steps p.tables e below (s₁.setTop (mkF m 36 #[.val (.int p0), .val (.int (4 : Int32)), .unset, .unset] [])) _
    refine XS.iloadN X0.here hx rfl (hb hby at_36) rfl ?_
    show Steps p.tables e below (s₁.setTop (mkF m 37 #[.val (.int p0), .val (.int (4 : Int32)), .unset, .unset] [(.int (4 : Int32))])) _
    refine XS.iconst X0.here hx rfl (hb hby at_37) ?_
    show Steps p.tables e below (s₁.setTop (mkF m 38 #[.val (.int p0), .val (.int (4 : Int32)), .unset, .unset] [(.int (2 : Int32)), (.int (4 : Int32))])) _
    refine XS.icmpYes X0.here hx rfl (pc0 := 38) (pc' := 51) rfl (hb hby at_38) rfl (feq ((by decide) : ¬ ((4 : Int32) = (2 : Int32)))).2 (by decide) (by decide) ?_
    show Steps p.tables e below (s₁.setTop (mkF m 51 #[.val (.int p0), .val (.int (4 : Int32)), .unset, .unset] [])) _
    refine XS.iloadN X0.here hx rfl (hb hby at_51) rfl ?_
    show Steps p.tables e below (s₁.setTop (mkF m 52 #[.val (.int p0), .val (.int (4 : Int32)), .unset, .unset] [(.int (4 : Int32))])) _
    refine XS.iconst X0.here hx rfl (hb hby at_52) ?_
    show Steps p.tables e below (s₁.setTop (mkF m 53 #[.val (.int p0), .val (.int (4 : Int32)), .unset, .unset] [(.int (3 : Int32)), (.int (4 : Int32))])) _
    refine XS.icmpYes X0.here hx rfl (pc0 := 53) (pc' := 66) rfl (hb hby at_53) rfl (feq ((by decide) : ¬ ((4 : Int32) = (3 : Int32)))).2 (by decide) (by decide) ?_
    show Steps p.tables e below (s₁.setTop (mkF m 66 #[.val (.int p0), .val (.int (4 : Int32)), .unset, .unset] [])) _
    refine st2 _ ?_
    show Steps p.tables e below (T2.setTop (mkF m 69 #[.val (.int p0), .val (.int (4 : Int32)), .unset, .unset] [(.ref w4)])) _
    refine XS.astoreN X2.here hx rfl (hb hby at_69) rfl rfl (l' := #[.val (.int p0), .val (.int (4 : Int32)), .val (.ref w4), .unset]) rfl ?_
    show Steps p.tables e below (T2.setTop (mkF m 70 #[.val (.int p0), .val (.int (4 : Int32)), .val (.ref w4), .unset] [])) _
    refine st3 _ ?_
    show Steps p.tables e below (T3.setTop (mkF m 72 #[.val (.int p0), .val (.int (4 : Int32)), .val (.ref w4), .unset] [(.ref sa3)])) _
    refine XS.astoreN X3.here hx rfl (hb hby at_72) rfl rfl (l' := #[.val (.int p0), .val (.int (4 : Int32)), .val (.ref w4), .val (.ref sa3)]) rfl ?_
    show Steps p.tables e below (T3.setTop (mkF m 73 #[.val (.int p0), .val (.int (4 : Int32)), .val (.ref w4), .val (.ref sa3)] [])) _
    refine XS.aloadN X3.here hx rfl (hb hby at_73) rfl rfl ?_
    show Steps p.tables e below (T3.setTop (mkF m 74 #[.val (.int p0), .val (.int (4 : Int32)), .val (.ref w4), .val (.ref sa3)] [(.ref sa3)])) _
    refine XS.aloadN X3.here hx rfl (hb hby at_74) rfl rfl ?_
    show Steps p.tables e below (T3.setTop (mkF m 75 #[.val (.int p0), .val (.int (4 : Int32)), .val (.ref w4), .val (.ref sa3)] [(.ref w4), (.ref sa3)])) _
    refine st11.trans ?_
    show Steps p.tables e below (T11.setTop (mkF m 78 #[.val (.int p0), .val (.int (4 : Int32)), .val (.ref w4), .val (.ref sa3)] [(.ref x11), (.ref sa3)])) _
    refine st17.trans ?_
    show Steps p.tables e below (T17.setTop (mkF m 81 #[.val (.int p0), .val (.int (4 : Int32)), .val (.ref w4), .val (.ref sa3)] [(.int (1 : Int32))])) _
    exact retN X17 hx (t := .boolean) Bd.returns (by simp) (hb hby at_81) hr
  · exact ⟨rfl, N17, trivial⟩
theorem own_bytesS {a : Array Value} {s : State} {C n d : String} (hfit : Fit s) (h3 : (Cond.exactly (.static C n d) "[B").before a s = true) {z : Int32} (h4 : (Cond.eq (.length (.static C n d)) (.int z)).before a s = true) (harr : (Cond.arrayClass .byte).before a s = true) :
    (SBG.bytesC (.static C n d)).before a s = true := by
  obtain ⟨sd, cB, SA, kB, hevV, hfcB, hcellB, hkB, hstatB, hclsB, -⟩ := Cond.exactly_spec h3
  have hwl := Cond.eq_int h4 (show (Term.int z).eval a s none [] s = some (.int z) from rfl)
  obtain ⟨sd', SA', hev', harrAt, -⟩ := Term.length_spec hwl
  cases hevV.symm.trans hev'
  obtain ⟨hcellB', hknA, -, -⟩ := State.arrayAt?_spec harrAt
  cases hcellB.symm.trans hcellB'
  have h31 := SBG.length_lt hevV harrAt hwl
  obtain ⟨cB', kB', comp, hnameB, hkB', hkindB⟩ := Cond.arrayClass_spec harr
  have eBA : ("[" ++ FieldType.toString .byte) = "[B" := by decide
  rw [eBA] at hnameB
  cases hfcB.symm.trans hnameB
  cases hkB.symm.trans hkB'
  have hevAll : ∀ idx, (Term.static C n d).eval a s none idx s = some (.ref sd) := fun idx => hevV
  have hby : s.isArrayOf SA .byte := ⟨(fun k h => by rw [h] at hstatB; cases hstatB), kB, (by rw [hclsB]; exact hkB), comp, hkindB⟩
  exact SBG.bytesC_of_fits hevAll harrAt h31 fun i hi => SBG.fits_byte_of_slot hby hi (hfit hcellB hi)
theorem own_envD {s : State} {args : Array Value} (hfit : Fit s) (l1 : (Jvm.Cond.laysStatic "java/lang/Integer" "DigitOnes" "[B").before args s = true) (x1 : (Jvm.Cond.exactly (.static "java/lang/Integer" "DigitOnes" "[B") "[B").before args s = true) (n1 : (Jvm.Cond.eq (.length (.static "java/lang/Integer" "DigitOnes" "[B")) (.int 100)).before args s = true) (o1 : SBG.onesW.before args s = true)
    (l2 : (Jvm.Cond.laysStatic "java/lang/Integer" "DigitTens" "[B").before args s = true) (x2 : (Jvm.Cond.exactly (.static "java/lang/Integer" "DigitTens" "[B") "[B").before args s = true) (n2 : (Jvm.Cond.eq (.length (.static "java/lang/Integer" "DigitTens" "[B")) (.int 100)).before args s = true) (o2 : SBG.tensW.before args s = true)
    (hini : (Jvm.Cond.initialized "java/lang/Integer").before args s = true) (harr : (Jvm.Cond.arrayClass .byte).before args s = true) : ∃ ist d1 d2, EnvD s ist d1 d2 := by
  have mk : ∀ nme, (Jvm.Cond.laysStatic "java/lang/Integer" nme "[B").before args s = true → (Jvm.Cond.exactly (.static "java/lang/Integer" nme "[B") "[B").before args s = true → (Jvm.Cond.eq (.length (.static "java/lang/Integer" nme "[B")) (.int 100)).before args s = true → ∀ w ∈ SBG.tblW nme, w.before args s = true := by
    intro nme l x n w hw
    simp only [SBG.tblW, List.mem_cons, List.not_mem_nil, or_false] at hw
    rcases hw with rfl | rfl | rfl | rfl
    · exact l
    · exact x
    · exact n
    · exact own_bytesS hfit x n harr
  obtain ⟨c1, k1, st1, d1, D1, a1, a2, a3, T1, O1⟩ := SBG.ones_of_words (mk _ l1 x1 n1) o1 hini harr
  obtain ⟨c2, k2, st2, d2, D2, b1, b2, b3, T2, O2⟩ := SBG.tens_of_words (mk _ l2 x2 n2) o2 hini harr
  cases a1.symm.trans b1
  cases a2.symm.trans b2
  cases a3.symm.trans b3
  refine ⟨st1, d1, d2, D1, D2, T1, T2, O1, O2, ?_, ?_, ?_⟩
  · exact (Array.getElem?_eq_some_iff.mp T1.choose_spec.choose_spec.choose_spec.choose_spec.choose_spec.2.2.2.2.1).1
  · exact (Array.getElem?_eq_some_iff.mp T1.choose_spec.choose_spec.choose_spec.choose_spec.choose_spec.2.2.2.2.2.2.2.1).1
  · exact (Array.getElem?_eq_some_iff.mp T2.choose_spec.choose_spec.choose_spec.choose_spec.choose_spec.2.2.2.2.2.2.2.1).1

def ElW (args : Array Value) (s : State) (t : Term) : Nat → List Int32 → Prop
  | _, [] => True
  | i, c :: r => (Cond.eq (.elem t (.int (Int32.ofNat i))) (.int c)).value args s none s [] = some true ∧ ElW args s t (i + 1) r
theorem ElW.hasL {args : Array Value} {s : State} {t : Term} {x : Addr} {cl : Cell} (ev : t.eval args s none [] s = some (.ref x)) (hc : s.heap[x]? = some cl) : ∀ (cs : List Int32) (i : Nat), i + cs.length ≤ 1000 → (∀ c ∈ cs, c.toInt8.toInt32 = c) → ElW args s t i cs → HasL cl i (by8 cs)
  | [], _, _, _, _ => trivial
  | c :: r, i, hl, hb, h => by
    have hl' : i + (r.length + 1) ≤ 1000 := hl
    have e1 := Cond.eq_int (Cond.before_iff.mpr h.1 : (Cond.eq _ _).before args s = true) (show (Term.int c).eval args s none [] s = some (.int c) from rfl)
    have e2 := elem_in e1 ev (Term.int_eval _) hc
    rw [own_cl (by omega)] at e2
    refine ⟨?_, ElW.hasL ev hc r (i + 1) (by omega) (fun c' h' => hb c' (List.mem_cons_of_mem _ h')) h.2⟩
    show cl.slots[i]? = some (Value.int c.toInt8.toInt32)
    rw [hb c List.mem_cons_self]; exact e2.2
theorem own_str {s : State} {args : Array Value} (hfit : Fit s) {t : Term} {x : Addr} (ev : t.eval args s none [] s = some (.ref x)) (hx : (Cond.exactly t "java/lang/String").value args s none s [] = some true)
    (ha : (Cond.arrayOf (.field t "java/lang/String" "value" "[B") .byte).value args s none s [] = some true) (cs : List Int32) (hl : (Cond.eq (.length (.field t "java/lang/String" "value" "[B")) (.int (Int32.ofNat cs.length))).value args s none s [] = some true)
    (hk : (Cond.eq (.field t "java/lang/String" "coder" "B") (.int 0)).value args s none s [] = some true) (hlen : cs.length ≤ 1000) (hb : ∀ c ∈ cs, c.toInt8.toInt32 = c) (he : ElW args s (.field t "java/lang/String" "value" "[B") 0 cs) : ∃ sd k, Str s s.heap x sd k cs := by
  obtain ⟨sd, ed⟩ := arr_v ha
  obtain ⟨cl, A⟩ := Arr.start ed ha
  have hwl := Cond.eq_int (Cond.before_iff.mpr hl : (Cond.eq _ _).before args s = true) (show (Term.int (Int32.ofNat cs.length)).eval args s none [] s = some (.int (Int32.ofNat cs.length)) from rfl)
  obtain ⟨sd', SA', hev', harrAt, hsz⟩ := Term.length_spec hwl
  cases ed.symm.trans hev'
  obtain ⟨hcellB', -, -, -⟩ := State.arrayAt?_spec harrAt
  cases A.1.symm.trans hcellB'
  have h31 := SBG.length_lt ed harrAt hwl
  have hc := Cond.eq_int (Cond.before_iff.mpr hk : (Cond.eq _ _).before args s = true) (show (Term.int 0).eval args s none [] s = some (.int 0) from rfl)
  rw [fld_at ev] at hc ed
  exact ⟨sd, cl.cls, Exa.start ev hx, Fld.start ed, Fld.start hc, Arv.start hfit A h31 (Value.int.inj hsz).symm (own_nn hlen) (by rw [own_cl hlen]; simp) (ElW.hasL hev' A.1 cs 0 (by omega) hb he)⟩

theorem own_cases (p : Int32) : (p &&& (2147483647 : Int32)) % (5 : Int32) = (0 : Int32) ∨ (p &&& (2147483647 : Int32)) % (5 : Int32) = (1 : Int32) ∨ (p &&& (2147483647 : Int32)) % (5 : Int32) = (2 : Int32) ∨ (p &&& (2147483647 : Int32)) % (5 : Int32) = (3 : Int32) ∨ (p &&& (2147483647 : Int32)) % (5 : Int32) = (4 : Int32) := by
  have h := c_mask p 2147483647 31 (by decide) (by decide)
  have h' := (c_irem (p &&& 2147483647) 5 5 (by decide)).1 (by omega)
  have h0 : ((p &&& 2147483647) % 5).toInt = 0 ∨ ((p &&& 2147483647) % 5).toInt = 1 ∨ ((p &&& 2147483647) % 5).toInt = 2 ∨ ((p &&& 2147483647) % 5).toInt = 3 ∨ ((p &&& 2147483647) % 5).toInt = 4 := by omega
  rcases h0 with q | q | q | q | q
  · exact Or.inl (Int32.toInt_inj.mp q)
  · exact Or.inr (Or.inl (Int32.toInt_inj.mp q))
  · exact Or.inr (Or.inr (Or.inl (Int32.toInt_inj.mp q)))
  · exact Or.inr (Or.inr (Or.inr (Or.inl (Int32.toInt_inj.mp q))))
  · exact Or.inr (Or.inr (Or.inr (Or.inr (Int32.toInt_inj.mp q))))
theorem rl (l : Launch) (Z : State) (a0 : Array Value) (hw : ∀ d ∈ tables_1, d.before a0 Z = true) (ws : List Jvm.Cond) (zc p0 : Int32) (ist d1 d2 : Addr) (w0 b0 c0 : Addr) (kz0 : ClassId) (w1 b1 c1 : Addr) (kz1 : ClassId) (w2 b2 c2 : Addr) (kz2 : ClassId) (w3 b3 c3 : Addr) (kz3 : ClassId) (w4 b4 c4 : Addr) (kz4 : ClassId) (h0 : Heap) (n0 : Nat) (O : Old Z n0 h0) (hE : EnvS Z zc) (hD : EnvD Z ist d1 d2) (hG0 : GG1 Z w0 b0 c0 kz0 "NDCG" "com/example/saturation/saturation/Measure$1" ab0 (10 : Int32)) (hG1 : GG1 Z w1 b1 c1 kz1 "PRECISION" "com/example/saturation/saturation/Measure$2" ab1 (10 : Int32)) (hG2 : GG1 Z w2 b2 c2 kz2 "AVERAGE_PRECISION" "com/example/saturation/saturation/Measure$3" ab2 (100 : Int32)) (hG3 : GG1 Z w3 b3 c3 kz3 "RECALL" "com/example/saturation/saturation/Measure$4" ab3 (100 : Int32)) (hG4 : GG1 Z w4 b4 c4 kz4 "RECIPROCAL_RANK" "com/example/saturation/saturation/Measure$5" ab4 (10 : Int32)) (hEL : EW Z a0 EL) :
    MetFree l x (head1 (Jvm.Cond.code x code maxLocals ret :: ws) room_1) (fun a U => a = #[(.int p0)] ∧ Z.Warmed39 U.vm ∧ U.heap = h0 ∧ CHv Z EL U.vm h0) (fun _ _ _ _ _ => True) (fun _ U o U' => ∃ v L, o = .returned v ∧ Ql (some (.int (1 : Int32))) n0 v U'.heap L ∧ CHr Z EL U.vm U.heap U'.vm U'.heap ∧ ReturnedEndW U o U' L 32 6336) := by
  rcases own_cases p0 with h | h | h | h | h
  · exact rl_0 l Z a0 hw ws zc p0 ist d1 d2 w0 b0 c0 kz0 h0 n0 O hE hD hG0 h hEL
  · exact rl_1 l Z a0 hw ws zc p0 ist d1 d2 w1 b1 c1 kz1 h0 n0 O hE hD hG1 h hEL
  · exact rl_2 l Z a0 hw ws zc p0 ist d1 d2 w2 b2 c2 kz2 h0 n0 O hE hD hG2 h hEL
  · exact rl_3 l Z a0 hw ws zc p0 ist d1 d2 w3 b3 c3 kz3 h0 n0 O hE hD hG3 h hEL
  · exact rl_4 l Z a0 hw ws zc p0 ist d1 d2 w4 b4 c4 kz4 h0 n0 O hE hD hG4 h hEL
set_option maxRecDepth 65536 in
set_option maxHeartbeats 40000000 in
theorem comes_1 {Post : Tables → Env → Array Value → State → Outcome → State → Prop} (hpost : ∀ tb e args s v u, (limb_1_1.after args s (.returned v) u = true ∧ limb_1_2.after args s (.returned v) u = true ∧ True) → Jvm.D.FramedW s (.returned v) u (Jvm.fieldLocs frame_1_writes args s ++ Jvm.arrayLocs frame_1_arrays args s ++ Jvm.staticLocs frame_1_statics s) 32 6336 → Post tb e args s (.returned v) u) :
    ArmFor flags0 classFile x code maxLocals ret World_1 tables_1 room_1 Calls_1 rest_1 Pre_1 Post := by
  intro l hfl _ _ p e ha hc hk s m args below hf hA hF happ hP
  obtain ⟨hcalls, hrest, hpre⟩ := hP
  obtain ⟨-, -, -, hnamed, -, -, -, hat⟩ := (Spec.applies_iff hf).mp happ
  obtain ⟨hg, hn⟩ := and_e (Cond.before_iff.mp (show (Jvm.Cond.and given_1 narrow_1).before args s = true from hpre))
  obtain ⟨h1, g0⟩ := and_e hg
  obtain ⟨w0, rfl⟩ : ∃ w0 : Value, args = #[w0] := by
    have hs : args.size = 1 := by simpa [Cond.value, given_1] using h1
    obtain ⟨L⟩ := args
    match L, hs with
    | [w0], _ => exact ⟨w0, rfl⟩
  have hw := fun d (hd : d ∈ tables_1) => atoms_spec (ws := Jvm.Cond.code x code maxLocals ret :: tables_1) hat d (List.mem_cons_of_mem _ hd)
  have hfit : Fit s := fun {y c} hc i hi => by
    obtain ⟨ha, rfl⟩ := Array.getElem?_eq_some_iff.mp hc
    have q := List.all_eq_true.mp ((Array.all_eq_true_iff_forall_mem.mp hF) _ (Array.getElem_mem ha)) i (List.mem_range.mpr hi)
    simpa [Array.getElem?_eq_getElem hi] using q
  obtain ⟨i0, e0⟩ := is_v g0
  obtain rfl : w0 = (.int i0) := Option.some.inj e0
  obtain ⟨hsets, hown0⟩ := atoms_of _ (rest_1_c_eq ▸ (show rest_1_c.before _ s = true from hrest))
  obtain ⟨zc, ezc⟩ := is_v (Cond.before_iff.mp (hsets _ (List.mem_of_getElem? (i := 1) rfl)))
  have hE : EnvS s zc := ⟨Sta.start ezc (Or.inl (hsets _ (List.mem_of_getElem? (i := 0) rfl))), fun q => by
    subst q
    have q1 := not_v (Cond.before_iff.mp (hsets _ (List.mem_of_getElem? (i := 2) rfl)))
    have q2 := Cond.eq_ints ezc (Term.int_eval (args := #[.int i0]) (first := s) (o := none) (idx := []) (s := s) (0 : Int32))
    rw [q2] at q1; cases q1⟩
  obtain ⟨ist, dd1, dd2, hD⟩ := own_envD hfit (hsets _ (List.mem_of_getElem? (i := 10) rfl)) (hsets _ (List.mem_of_getElem? (i := 12) rfl)) (hsets _ (List.mem_of_getElem? (i := 13) rfl)) (hsets _ (List.mem_of_getElem? (i := 14) rfl)) (hsets _ (List.mem_of_getElem? (i := 15) rfl)) (hsets _ (List.mem_of_getElem? (i := 17) rfl)) (hsets _ (List.mem_of_getElem? (i := 18) rfl)) (hsets _ (List.mem_of_getElem? (i := 19) rfl)) (hsets _ (List.mem_of_getElem? (i := 9) rfl)) (hw _ (List.mem_of_getElem? (i := 7) rfl))
  obtain ⟨q0, hn⟩ := and_e hn
  obtain ⟨q1, hn⟩ := and_e hn
  obtain ⟨q2, hn⟩ := and_e hn
  obtain ⟨q3, hn⟩ := and_e hn
  obtain ⟨q4, hn⟩ := and_e hn
  obtain ⟨q5, hn⟩ := and_e hn
  obtain ⟨q6, hn⟩ := and_e hn
  obtain ⟨q7, hn⟩ := and_e hn
  obtain ⟨q8, hn⟩ := and_e hn
  obtain ⟨q9, hn⟩ := and_e hn
  obtain ⟨q10, hn⟩ := and_e hn
  obtain ⟨q11, hn⟩ := and_e hn
  obtain ⟨q12, hn⟩ := and_e hn
  obtain ⟨q13, hn⟩ := and_e hn
  obtain ⟨q14, hn⟩ := and_e hn
  obtain ⟨q15, hn⟩ := and_e hn
  obtain ⟨q16, hn⟩ := and_e hn
  obtain ⟨q17, hn⟩ := and_e hn
  obtain ⟨q18, hn⟩ := and_e hn
  obtain ⟨q19, hn⟩ := and_e hn
  obtain ⟨q20, hn⟩ := and_e hn
  obtain ⟨q21, hn⟩ := and_e hn
  obtain ⟨q22, hn⟩ := and_e hn
  obtain ⟨q23, hn⟩ := and_e hn
  obtain ⟨q24, hn⟩ := and_e hn
  obtain ⟨q25, hn⟩ := and_e hn
  obtain ⟨q26, hn⟩ := and_e hn
  obtain ⟨q27, hn⟩ := and_e hn
  obtain ⟨q28, hn⟩ := and_e hn
  obtain ⟨q29, hn⟩ := and_e hn
  obtain ⟨q30, hn⟩ := and_e hn
  obtain ⟨q31, hn⟩ := and_e hn
  obtain ⟨q32, hn⟩ := and_e hn
  obtain ⟨q33, hn⟩ := and_e hn
  obtain ⟨q34, hn⟩ := and_e hn
  obtain ⟨q35, hn⟩ := and_e hn
  obtain ⟨q36, hn⟩ := and_e hn
  obtain ⟨q37, hn⟩ := and_e hn
  obtain ⟨q38, hn⟩ := and_e hn
  obtain ⟨q39, hn⟩ := and_e hn
  obtain ⟨q40, hn⟩ := and_e hn
  obtain ⟨q41, hn⟩ := and_e hn
  obtain ⟨q42, hn⟩ := and_e hn
  obtain ⟨q43, hn⟩ := and_e hn
  obtain ⟨q44, hn⟩ := and_e hn
  obtain ⟨q45, hn⟩ := and_e hn
  have q46 := hn
  obtain ⟨w0, v0⟩ := exa_v q0
  obtain ⟨b0, u0⟩ := exa_v q1
  obtain ⟨c0, kz0, hs0⟩ := own_str hfit u0 q1 q2 ab0 q4 q5 (by decide) (by decide) ⟨q6, q7, q8, q9, trivial⟩
  have y0 := Cond.eq_int (Cond.before_iff.mpr q10) (Term.int_eval _)
  rw [fld_at v0] at y0 u0
  have hG0 : GG1 s w0 b0 c0 kz0 "NDCG" "com/example/saturation/saturation/Measure$1" ab0 (10 : Int32) := ⟨Sta.start v0 (Or.inr ⟨(hw _ (List.mem_of_getElem? (i := 2) rfl)), (hw _ (List.mem_of_getElem? (i := 3) rfl))⟩), Exa.start v0 q0, Fld.start u0, Fld.start y0, hs0⟩
  obtain ⟨w1, v1⟩ := exa_v q19
  obtain ⟨b1, u1⟩ := exa_v q20
  obtain ⟨c1, kz1, hs1⟩ := own_str hfit u1 q20 q21 ab1 q23 q24 (by decide) (by decide) ⟨q25, trivial⟩
  have y1 := Cond.eq_int (Cond.before_iff.mpr q26) (Term.int_eval _)
  rw [fld_at v1] at y1 u1
  have hG1 : GG1 s w1 b1 c1 kz1 "PRECISION" "com/example/saturation/saturation/Measure$2" ab1 (10 : Int32) := ⟨Sta.start v1 (Or.inr ⟨(hw _ (List.mem_of_getElem? (i := 2) rfl)), (hw _ (List.mem_of_getElem? (i := 175) rfl))⟩), Exa.start v1 q19, Fld.start u1, Fld.start y1, hs1⟩
  obtain ⟨w2, v2⟩ := exa_v q37
  obtain ⟨b2, u2⟩ := exa_v q38
  obtain ⟨c2, kz2, hs2⟩ := own_str hfit u2 q38 q39 ab2 q41 q42 (by decide) (by decide) ⟨q43, q44, q45, trivial⟩
  have y2 := Cond.eq_int (Cond.before_iff.mpr q46) (Term.int_eval _)
  rw [fld_at v2] at y2 u2
  have hG2 : GG1 s w2 b2 c2 kz2 "AVERAGE_PRECISION" "com/example/saturation/saturation/Measure$3" ab2 (100 : Int32) := ⟨Sta.start v2 (Or.inr ⟨(hw _ (List.mem_of_getElem? (i := 2) rfl)), (hw _ (List.mem_of_getElem? (i := 187) rfl))⟩), Exa.start v2 q37, Fld.start u2, Fld.start y2, hs2⟩
  obtain ⟨w3, v3⟩ := exa_v q11
  obtain ⟨b3, u3⟩ := exa_v q12
  obtain ⟨c3, kz3, hs3⟩ := own_str hfit u3 q12 q13 ab3 q15 q16 (by decide) (by decide) ⟨q17, trivial⟩
  have y3 := Cond.eq_int (Cond.before_iff.mpr q18) (Term.int_eval _)
  rw [fld_at v3] at y3 u3
  have hG3 : GG1 s w3 b3 c3 kz3 "RECALL" "com/example/saturation/saturation/Measure$4" ab3 (100 : Int32) := ⟨Sta.start v3 (Or.inr ⟨(hw _ (List.mem_of_getElem? (i := 2) rfl)), (hw _ (List.mem_of_getElem? (i := 169) rfl))⟩), Exa.start v3 q11, Fld.start u3, Fld.start y3, hs3⟩
  obtain ⟨w4, v4⟩ := exa_v q27
  obtain ⟨b4, u4⟩ := exa_v q28
  obtain ⟨c4, kz4, hs4⟩ := own_str hfit u4 q28 q29 ab4 q31 q32 (by decide) (by decide) ⟨q33, q34, q35, trivial⟩
  have y4 := Cond.eq_int (Cond.before_iff.mpr q36) (Term.int_eval _)
  rw [fld_at v4] at y4 u4
  have hG4 : GG1 s w4 b4 c4 kz4 "RECIPROCAL_RANK" "com/example/saturation/saturation/Measure$5" ab4 (10 : Int32) := ⟨Sta.start v4 (Or.inr ⟨(hw _ (List.mem_of_getElem? (i := 2) rfl)), (hw _ (List.mem_of_getElem? (i := 181) rfl))⟩), Exa.start v4 q27, Fld.start u4, Fld.start y4, hs4⟩
  obtain ⟨n, o, h1, h2, h3, _, L, rfl, ⟨rfl, N, -⟩, -, hq⟩ := rl l s _ hw tables_1 zc i0 ist dd1 dd2 w0 b0 c0 kz0 w1 b1 c1 kz1 w2 b2 c2 kz2 w3 b3 c3 kz3 w4 b4 c4 kz4 s.heap s.heap.size (Old.start s) hE hD hG0 hG1 hG2 hG3 hG4 (own_EW hw) p e ha hc hk s m _ below hf ((Spec.applies_iff_loose hf).mp happ).1 ⟨rfl, State.Warmed39.refl s, rfl, CHv.start (own_EW hw) (fun p hp => hcalls.1 p hp) (hsets _ (List.mem_of_getElem? (i := 2) rfl)) (hw _ (List.mem_of_getElem? (i := 7) rfl)) (hw _ (List.mem_of_getElem? (i := 6) rfl))⟩ trivial
  exact ⟨n, _, h1, h2, h3, hpost _ _ _ _ _ _ ⟨Cond.after_iff.mpr rfl, Cond.after_iff.mpr (eq_i res_at (Term.int_eval (1)) rfl), trivial⟩ ⟨hq.1, hq.2.1, hq.2.2.1, (hq.2.2.2.sift fun y hy => Or.inr (N y hy)).mono (by decide) (by decide)⟩⟩
theorem main_1_1 : Claimed_1_1 := comes_1 fun _ _ _ _ _ _ h hF => ⟨h.1, hF⟩
theorem main_1_2 : Claimed_1_2 := comes_1 fun _ _ _ _ _ _ h hF => ⟨h.2.1, hF⟩
end Jvm.Pilot.@@N@@
namespace Jvm.Pilot.@@N@@
open Jvm Jvm.ClassFile Sem Op Lib Jvm.Free Jvm.Stand Jvm.Pilot.@@N@@.Jvm.D
/-! MADE BY PROGRAM (witnessworld.py) out of the Statement's table words and the real class files: 31 classes; the members and pool entries that the words name. The judged class is class 1, her method 1. -/
namespace start1
open Jvm.ClassFile
def u (s : String) : CpInfo := .utf8 (stringToUtf16 s)
/-- a pool by its gaps: so many unusable entries, then the entry; so many at the end -/
def gap : Nat → List CpInfo → List CpInfo
  | 0, r => r
  | n + 1, r => .unusable :: gap n r
def poolList (es : List (Nat × CpInfo)) (last : Nat) : List CpInfo := es.foldr (fun e r => gap e.1 (e.2 :: r)) (gap last [])
def pool (es : List (Nat × CpInfo)) (last : Nat) : Array CpInfo := ⟨poolList es last⟩
def fileOf (pool : Array CpInfo) (this : Nat) (attrs : Array Attribute := #[]) (ms : Array MethodInfo := #[]) (fl : Nat := 33) (sup : Nat := 0) (ifs : Array Nat := #[]) (fds : Array FieldInfo := #[]) : ClassFile where
  minorVersion := 0
  majorVersion := 65
  constantPool := pool
  accessFlags := fl
  thisClass := this
  superClass := sup
  interfaces := ifs
  fields := fds
  methods := ms
  attributes := attrs
def plain (name : String) (sup : Option ClassId) : Class where
  name := name
  kind := .ordinary
  loader := none
  accessFlags := 33
  super := sup
  interfaces := #[]
  cf := none
  fields := #[]
  methods := #[]
  instanceTypes := #[]
  staticTypes := #[]
  resolved := #[]
  callSites := []
  init := .initialized
  statics := none
  mirror := none

def pool0 : Array CpInfo := pool [(5, u "<init>"), (0, u "()V"), (1, .class_ 10), (1, u "java/lang/Object")] 113

def k0c0 : Code := { maxStack := 0, maxLocals := 1, code := object_method_1_code, exceptionTable := #[], attributes := #[] }
def k0m0 : Method := { name := "<init>", desc := "()V", sig := { parameters := [], returnType := none }, accessFlags := 1, code := some k0c0 }
/-- java/lang/Object -/
def k0 : Class := { plain "java/lang/Object" none with
  accessFlags := 33
  interfaces := #[]
  cf := some (fileOf pool0 8 #[] #[{ accessFlags := 1, nameIndex := 5, descriptorIndex := 6, attributes := #[] }] 33 0 #[] #[])
  fields := #[]
  methods := #[k0m0]
  instanceTypes := #[]
  staticTypes := #[]
  resolved := Array.replicate 124 none
  statics := none }

def pool1 : Array CpInfo := pool [(2, .class_ 4), (1, u "java/lang/Object"), (0, u "<init>"), (0, u "()V"), (0, .integer 2147483647), (0, .fieldref 9 10), (0, .class_ 11), (0, .nameAndType 12 13), (0, u "com/example/saturation/saturation/Measure"), (0, u "NDCG"), (0, u "Lcom/example/saturation/saturation/Measure;"), (0, .string 15), (0, u "nDCG@10"), (0, .fieldref 9 17), (0, .nameAndType 18 13), (0, u "PRECISION"), (0, .string 20), (0, u "P@10"), (0, .fieldref 9 22), (0, .nameAndType 23 13), (0, u "AVERAGE_PRECISION"), (0, .string 25), (0, u "MAP@100"), (0, .fieldref 9 27), (0, .nameAndType 28 13), (0, u "RECALL"), (0, .string 30), (0, u "R@100"), (0, .fieldref 9 32), (0, .nameAndType 33 13), (0, u "RECIPROCAL_RANK"), (0, .string 35), (0, u "MRR@10"), (0, .methodref 9 37), (0, .nameAndType 38 39), (0, u "label"), (0, u "()Ljava/lang/String;"), (0, .methodref 41 42), (0, .class_ 43), (0, .nameAndType 44 45), (0, u "java/lang/String"), (0, u "equals"), (0, u "(Ljava/lang/Object;)Z"), (0, .class_ 47), (0, u "com/example/saturation/saturation/MeasureLabelPinLaw"), (2, u "law"), (0, u "(I)Z")] 3

def k1m0 : Method := { name := "<init>", desc := "()V", sig := { parameters := [], returnType := none }, accessFlags := 1, code := none }
def k1c1 : Code := { maxStack := 2, maxLocals := 4, code := code, exceptionTable := #[], attributes := #[] }
def k1m1 : Method := { name := "law", desc := "(I)Z", sig := { parameters := [.int], returnType := some .boolean }, accessFlags := 9, code := some k1c1 }
/-- com/example/saturation/saturation/MeasureLabelPinLaw -/
def k1 : Class := { plain "com/example/saturation/saturation/MeasureLabelPinLaw" (some 0) with
  accessFlags := 49
  interfaces := #[]
  cf := some (fileOf pool1 46 #[] #[{ accessFlags := 1, nameIndex := 5, descriptorIndex := 6, attributes := #[] }, { accessFlags := 9, nameIndex := 50, descriptorIndex := 51, attributes := #[] }] 49 2 #[] #[])
  fields := #[]
  methods := #[k1m0, k1m1]
  instanceTypes := #[]
  staticTypes := #[]
  resolved := Array.replicate 55 none
  statics := none }

def pool2 : Array CpInfo := pool [(1, .class_ 2), (0, u "java/lang/constant/Constable"), (0, .class_ 4), (0, u "java/lang/Object")] 6

/-- java/lang/constant/Constable -/
def k2 : Class := { plain "java/lang/constant/Constable" (some 0) with
  accessFlags := 1537
  interfaces := #[]
  cf := some (fileOf pool2 1 #[] #[] 1537 3 #[] #[])
  fields := #[]
  methods := #[]
  instanceTypes := #[]
  staticTypes := #[]
  resolved := Array.replicate 11 none
  statics := none }

def pool3 : Array CpInfo := pool [(1, .class_ 2), (0, u "java/lang/Comparable"), (0, .class_ 4), (0, u "java/lang/Object")] 7

/-- java/lang/Comparable -/
def k3 : Class := { plain "java/lang/Comparable" (some 0) with
  accessFlags := 1537
  interfaces := #[]
  cf := some (fileOf pool3 1 #[] #[] 1537 3 #[] #[])
  fields := #[]
  methods := #[]
  instanceTypes := #[]
  staticTypes := #[]
  resolved := Array.replicate 12 none
  statics := none }

def pool4 : Array CpInfo := pool [(1, .class_ 2), (0, u "java/io/Serializable"), (0, .class_ 4), (0, u "java/lang/Object")] 2

/-- java/io/Serializable -/
def k4 : Class := { plain "java/io/Serializable" (some 0) with
  accessFlags := 1537
  interfaces := #[]
  cf := some (fileOf pool4 1 #[] #[] 1537 3 #[] #[])
  fields := #[]
  methods := #[]
  instanceTypes := #[]
  staticTypes := #[]
  resolved := Array.replicate 7 none
  statics := none }

def pool5 : Array CpInfo := pool [(2, .class_ 4), (1, u "java/lang/Enum"), (0, u "name"), (0, u "Ljava/lang/String;"), (2, u "ordinal"), (0, u "I"), (1, .class_ 14), (1, u "java/lang/Object"), (4, u "hash"), (86, .class_ 108), (1, u "java/lang/Enum$EnumDesc"), (2, .class_ 112), (0, u "java/lang/constant/Constable"), (0, .class_ 114), (0, u "java/lang/Comparable"), (0, .class_ 116), (0, u "java/io/Serializable")] 87

/-- java/lang/Enum -/
def k5 : Class := { plain "java/lang/Enum" (some 0) with
  accessFlags := 1057
  interfaces := #[2, 3, 4]
  cf := some (fileOf pool5 2 #[.nestMembers #[106]] #[] 1057 12 #[111, 113, 115] #[{ accessFlags := 18, nameIndex := 5, descriptorIndex := 6, attributes := #[] }, { accessFlags := 18, nameIndex := 9, descriptorIndex := 10, attributes := #[] }, { accessFlags := 2, nameIndex := 19, descriptorIndex := 10, attributes := #[] }])
  fields := #[{ name := "name", type := (.object "java/lang/String"), accessFlags := 18, slot := 0, constantValue := 0 }, { name := "ordinal", type := .int, accessFlags := 18, slot := 1, constantValue := 0 }, { name := "hash", type := .int, accessFlags := 2, slot := 2, constantValue := 0 }]
  methods := #[]
  instanceTypes := #[(.object "java/lang/String"), .int, .int]
  staticTypes := #[]
  resolved := Array.replicate 204 none
  statics := none }

def pool6 : Array CpInfo := pool [(1, .class_ 2), (0, u "com/example/saturation/saturation/Measure"), (2, u "NDCG"), (0, u "Lcom/example/saturation/saturation/Measure;"), (2, u "PRECISION"), (2, u "AVERAGE_PRECISION"), (2, u "RECALL"), (2, u "RECIPROCAL_RANK"), (2, u "$VALUES"), (0, u "[Lcom/example/saturation/saturation/Measure;"), (6, .class_ 31), (1, u "java/lang/Enum"), (4, u "<init>"), (1, .fieldref 1 39), (0, .nameAndType 40 41), (0, u "abbreviation"), (0, u "Ljava/lang/String;"), (0, .fieldref 1 43), (0, .nameAndType 44 45), (0, u "depth"), (0, u "I"), (0, .class_ 47), (0, u "java/lang/StringBuilder"), (0, .methodref 46 49), (0, .nameAndType 36 50), (0, u "()V"), (0, .methodref 46 52), (0, .nameAndType 53 54), (0, u "append"), (0, u "(Ljava/lang/String;)Ljava/lang/StringBuilder;"), (0, .string 56), (0, u "@"), (0, .methodref 46 58), (0, .nameAndType 53 59), (0, u "(I)Ljava/lang/StringBuilder;"), (0, .methodref 46 61), (0, .nameAndType 62 63), (0, u "toString"), (0, u "()Ljava/lang/String;"), (56, .class_ 121), (0, u "com/example/saturation/saturation/Measure$1"), (6, .class_ 129), (0, u "com/example/saturation/saturation/Measure$2"), (4, .class_ 135), (0, u "com/example/saturation/saturation/Measure$3"), (4, .class_ 141), (0, u "com/example/saturation/saturation/Measure$4"), (4, .class_ 147), (0, u "com/example/saturation/saturation/Measure$5"), (14, u "label")] 18

def k6c0 : Code := { maxStack := 2, maxLocals := 1, code := prog_7_method_4_code, exceptionTable := #[], attributes := #[] }
def k6m0 : Method := { name := "label", desc := "()Ljava/lang/String;", sig := { parameters := [], returnType := some (.object "java/lang/String") }, accessFlags := 0, code := some k6c0 }
/-- com/example/saturation/saturation/Measure -/
def k6 : Class := { plain "com/example/saturation/saturation/Measure" (some 5) with
  accessFlags := 17440
  interfaces := #[]
  cf := some (fileOf pool6 1 #[.nestMembers #[146, 140, 134, 128, 120]] #[{ accessFlags := 0, nameIndex := 162, descriptorIndex := 63, attributes := #[] }] 17440 29 #[] #[{ accessFlags := 16409, nameIndex := 5, descriptorIndex := 6, attributes := #[] }, { accessFlags := 16409, nameIndex := 9, descriptorIndex := 6, attributes := #[] }, { accessFlags := 16409, nameIndex := 12, descriptorIndex := 6, attributes := #[] }, { accessFlags := 16409, nameIndex := 15, descriptorIndex := 6, attributes := #[] }, { accessFlags := 16409, nameIndex := 18, descriptorIndex := 6, attributes := #[] }, { accessFlags := 18, nameIndex := 40, descriptorIndex := 41, attributes := #[] }, { accessFlags := 18, nameIndex := 44, descriptorIndex := 45, attributes := #[] }, { accessFlags := 4122, nameIndex := 21, descriptorIndex := 22, attributes := #[] }])
  fields := #[{ name := "NDCG", type := (.object "com/example/saturation/saturation/Measure"), accessFlags := 16409, slot := 0, constantValue := 0 }, { name := "PRECISION", type := (.object "com/example/saturation/saturation/Measure"), accessFlags := 16409, slot := 1, constantValue := 0 }, { name := "AVERAGE_PRECISION", type := (.object "com/example/saturation/saturation/Measure"), accessFlags := 16409, slot := 2, constantValue := 0 }, { name := "RECALL", type := (.object "com/example/saturation/saturation/Measure"), accessFlags := 16409, slot := 3, constantValue := 0 }, { name := "RECIPROCAL_RANK", type := (.object "com/example/saturation/saturation/Measure"), accessFlags := 16409, slot := 4, constantValue := 0 }, { name := "abbreviation", type := (.object "java/lang/String"), accessFlags := 18, slot := 3, constantValue := 0 }, { name := "depth", type := .int, accessFlags := 18, slot := 4, constantValue := 0 }, { name := "$VALUES", type := (.array (.object "com/example/saturation/saturation/Measure")), accessFlags := 4122, slot := 5, constantValue := 0 }]
  methods := #[k6m0]
  instanceTypes := #[(.object "java/lang/String"), .int, .int, (.object "java/lang/String"), .int]
  staticTypes := #[(.object "com/example/saturation/saturation/Measure"), (.object "com/example/saturation/saturation/Measure"), (.object "com/example/saturation/saturation/Measure"), (.object "com/example/saturation/saturation/Measure"), (.object "com/example/saturation/saturation/Measure"), (.array (.object "com/example/saturation/saturation/Measure"))]
  resolved := Array.replicate 181 none
  statics := some 0 }

def pool7 : Array CpInfo := pool [(2, .class_ 4), (1, u "java/lang/CharSequence"), (42, .class_ 48), (0, u "java/lang/CharSequence$1CodePointIterator"), (10, .class_ 60), (0, u "java/lang/CharSequence$1CharIterator"), (5, .class_ 67), (0, u "java/lang/Object")] 63

/-- java/lang/CharSequence -/
def k7 : Class := { plain "java/lang/CharSequence" (some 0) with
  accessFlags := 1537
  interfaces := #[]
  cf := some (fileOf pool7 2 #[.nestMembers #[47, 59]] #[] 1537 66 #[] #[])
  fields := #[]
  methods := #[]
  instanceTypes := #[]
  staticTypes := #[]
  resolved := Array.replicate 131 none
  statics := none }

def pool8 : Array CpInfo := pool [(1, .class_ 2), (0, u "java/lang/constant/ConstantDesc"), (0, .class_ 4), (0, u "java/lang/Object")] 32

/-- java/lang/constant/ConstantDesc -/
def k8 : Class := { plain "java/lang/constant/ConstantDesc" (some 0) with
  accessFlags := 1537
  interfaces := #[]
  cf := some (fileOf pool8 1 #[] #[] 1537 3 #[] #[])
  fields := #[]
  methods := #[]
  instanceTypes := #[]
  staticTypes := #[]
  resolved := Array.replicate 37 none
  statics := none }

def pool9 : Array CpInfo := pool [(1, .methodref 2 3), (0, .class_ 4), (0, .nameAndType 5 6), (0, u "java/lang/Object"), (0, u "<init>"), (0, u "()V"), (2, .fieldref 10 11), (0, .class_ 12), (0, .nameAndType 13 14), (0, u "java/lang/String"), (0, u "value"), (0, u "[B"), (0, .fieldref 10 16), (0, .nameAndType 17 18), (0, u "coder"), (0, u "B"), (2, u "hash"), (0, u "I"), (2, u "hashIsZero"), (0, u "Z"), (11, .fieldref 10 39), (0, .nameAndType 40 26), (0, u "COMPACT_STRINGS"), (13, .methodref 55 56), (0, .class_ 57), (0, .nameAndType 58 59), (0, u "java/util/Arrays"), (0, u "copyOfRange"), (0, u "([BII)[B"), (47, .class_ 109), (1, u "java/lang/StringLatin1"), (32, u "()Z"), (50, .class_ 195), (1, u "java/lang/System"), (16, .methodref 193 213), (0, .nameAndType 214 215), (0, u "arraycopy"), (0, u "(Ljava/lang/Object;ILjava/lang/Object;II)V"), (118, u "()I"), (0, .methodref 10 336), (0, .nameAndType 17 337), (0, u "()B"), (2, u "()[B"), (148, .methodref 10 490), (0, .nameAndType 5 491), (0, u "(Ljava/lang/AbstractStringBuilder;Ljava/lang/Void;)V"), (1, .nameAndType 494 142), (0, u "isLatin1"), (11, .nameAndType 507 334), (0, u "length"), (24, u "getBytes"), (8, .methodref 107 542), (0, .nameAndType 543 544), (0, u "equals"), (0, u "([B[B)Z"), (4, .methodref 550 506), (0, .class_ 551), (0, u "java/lang/AbstractStringBuilder"), (0, .methodref 550 553), (0, .nameAndType 554 340), (0, u "getValue"), (18, u "(Ljava/lang/Object;)Z"), (1, .class_ 576), (0, u "java/lang/CharSequence"), (22, u "CASE_INSENSITIVE_ORDER"), (0, u "Ljava/util/Comparator;"), (220, u "([BIB)V"), (225, .methodref 550 493), (53, u "serialPersistentFields"), (0, u "[Ljava/io/ObjectStreamField;"), (0, .class_ 1104), (0, u "java/lang/String$CaseInsensitiveComparator"), (1, .class_ 1107), (0, u "java/io/Serializable"), (0, .class_ 1109), (0, u "java/lang/Comparable"), (0, .class_ 1111), (0, u "java/lang/constant/Constable"), (0, .class_ 1113), (0, u "java/lang/constant/ConstantDesc"), (2, u "serialVersionUID"), (0, u "J"), (3, u "REPL"), (0, u "C"), (2, u "LATIN1"), (1, u "UTF16"), (105, u "(Ljava/lang/StringBuilder;)V")] 217

def k9m0 : Method := { name := "<init>", desc := "()V", sig := { parameters := [], returnType := none }, accessFlags := 1, code := none }
def k9c1 : Code := { maxStack := 3, maxLocals := 2, code := jdk_42_method_53_code, exceptionTable := #[], attributes := #[] }
def k9m1 : Method := { name := "<init>", desc := "(Ljava/lang/StringBuilder;)V", sig := { parameters := [(.object "java/lang/StringBuilder")], returnType := none }, accessFlags := 1, code := some k9c1 }
def k9c2 : Code := { maxStack := 2, maxLocals := 1, code := jdk_42_method_54_code, exceptionTable := #[], attributes := #[] }
def k9m2 : Method := { name := "length", desc := "()I", sig := { parameters := [], returnType := some .int }, accessFlags := 1, code := some k9c2 }
def k9c3 : Code := { maxStack := 2, maxLocals := 3, code := jdk_42_method_66_code, exceptionTable := #[], attributes := #[] }
def k9m3 : Method := { name := "equals", desc := "(Ljava/lang/Object;)Z", sig := { parameters := [(.object "java/lang/Object")], returnType := some .boolean }, accessFlags := 1, code := some k9c3 }
def k9c4 : Code := { maxStack := 5, maxLocals := 4, code := jdk_42_method_147_code, exceptionTable := #[], attributes := #[] }
def k9m4 : Method := { name := "getBytes", desc := "([BIB)V", sig := { parameters := [(.array .byte), .int, .byte], returnType := none }, accessFlags := 0, code := some k9c4 }
def k9c5 : Code := { maxStack := 5, maxLocals := 5, code := jdk_42_method_150_code, exceptionTable := #[], attributes := #[] }
def k9m5 : Method := { name := "<init>", desc := "(Ljava/lang/AbstractStringBuilder;Ljava/lang/Void;)V", sig := { parameters := [(.object "java/lang/AbstractStringBuilder"), (.object "java/lang/Void")], returnType := none }, accessFlags := 0, code := some k9c5 }
def k9c6 : Code := { maxStack := 1, maxLocals := 1, code := jdk_42_method_152_code, exceptionTable := #[], attributes := #[] }
def k9m6 : Method := { name := "coder", desc := "()B", sig := { parameters := [], returnType := some .byte }, accessFlags := 0, code := some k9c6 }
/-- java/lang/String -/
def k9 : Class := { plain "java/lang/String" (some 0) with
  accessFlags := 49
  interfaces := #[4, 3, 7, 2, 8]
  cf := some (fileOf pool9 10 #[.nestMembers #[1103]] #[{ accessFlags := 1, nameIndex := 5, descriptorIndex := 6, attributes := #[] }, { accessFlags := 1, nameIndex := 5, descriptorIndex := 1233, attributes := #[] }, { accessFlags := 1, nameIndex := 507, descriptorIndex := 334, attributes := #[] }, { accessFlags := 1, nameIndex := 543, descriptorIndex := 573, attributes := #[] }, { accessFlags := 0, nameIndex := 532, descriptorIndex := 821, attributes := #[] }, { accessFlags := 0, nameIndex := 5, descriptorIndex := 491, attributes := #[] }, { accessFlags := 0, nameIndex := 17, descriptorIndex := 337, attributes := #[] }] 49 2 #[1106, 1108, 575, 1110, 1112] #[{ accessFlags := 18, nameIndex := 13, descriptorIndex := 14, attributes := #[] }, { accessFlags := 18, nameIndex := 17, descriptorIndex := 18, attributes := #[] }, { accessFlags := 2, nameIndex := 21, descriptorIndex := 22, attributes := #[] }, { accessFlags := 2, nameIndex := 25, descriptorIndex := 26, attributes := #[] }, { accessFlags := 26, nameIndex := 1116, descriptorIndex := 1117, attributes := #[] }, { accessFlags := 24, nameIndex := 40, descriptorIndex := 26, attributes := #[] }, { accessFlags := 26, nameIndex := 1101, descriptorIndex := 1102, attributes := #[] }, { accessFlags := 26, nameIndex := 1121, descriptorIndex := 1122, attributes := #[] }, { accessFlags := 25, nameIndex := 599, descriptorIndex := 600, attributes := #[] }, { accessFlags := 24, nameIndex := 1125, descriptorIndex := 18, attributes := #[] }, { accessFlags := 24, nameIndex := 1127, descriptorIndex := 18, attributes := #[] }])
  fields := #[{ name := "value", type := (.array .byte), accessFlags := 18, slot := 0, constantValue := 0 }, { name := "coder", type := .byte, accessFlags := 18, slot := 1, constantValue := 0 }, { name := "hash", type := .int, accessFlags := 2, slot := 2, constantValue := 0 }, { name := "hashIsZero", type := .boolean, accessFlags := 2, slot := 3, constantValue := 0 }, { name := "serialVersionUID", type := .long, accessFlags := 26, slot := 0, constantValue := 0 }, { name := "COMPACT_STRINGS", type := .boolean, accessFlags := 24, slot := 1, constantValue := 0 }, { name := "serialPersistentFields", type := (.array (.object "java/io/ObjectStreamField")), accessFlags := 26, slot := 2, constantValue := 0 }, { name := "REPL", type := .char, accessFlags := 26, slot := 3, constantValue := 0 }, { name := "CASE_INSENSITIVE_ORDER", type := (.object "java/util/Comparator"), accessFlags := 25, slot := 4, constantValue := 0 }, { name := "LATIN1", type := .byte, accessFlags := 24, slot := 5, constantValue := 0 }, { name := "UTF16", type := .byte, accessFlags := 24, slot := 6, constantValue := 0 }]
  methods := #[k9m0, k9m1, k9m2, k9m3, k9m4, k9m5, k9m6]
  instanceTypes := #[(.array .byte), .byte, .int, .boolean]
  staticTypes := #[.long, .boolean, (.array (.object "java/io/ObjectStreamField")), .char, (.object "java/util/Comparator"), .byte, .byte]
  resolved := Array.replicate 1451 none
  statics := some 1 }

def pool10 : Array CpInfo := pool [(2, .class_ 4), (1, u "com/example/saturation/saturation/Measure"), (8, .class_ 15), (1, u "com/example/saturation/saturation/Measure$1")] 92

/-- com/example/saturation/saturation/Measure$1 -/
def k10 : Class := { plain "com/example/saturation/saturation/Measure$1" (some 6) with
  accessFlags := 16432
  interfaces := #[]
  cf := some (fileOf pool10 13 #[.nestHost 2] #[] 16432 2 #[] #[])
  fields := #[]
  methods := #[]
  instanceTypes := #[(.object "java/lang/String"), .int, .int, (.object "java/lang/String"), .int]
  staticTypes := #[]
  resolved := Array.replicate 108 none
  statics := none }

def pool11 : Array CpInfo := pool [(1, .class_ 2), (0, u "java/lang/Appendable"), (0, .class_ 4), (0, u "java/lang/Object")] 9

/-- java/lang/Appendable -/
def k11 : Class := { plain "java/lang/Appendable" (some 0) with
  accessFlags := 1537
  interfaces := #[]
  cf := some (fileOf pool11 1 #[] #[] 1537 3 #[] #[])
  fields := #[]
  methods := #[]
  instanceTypes := #[]
  staticTypes := #[]
  resolved := Array.replicate 14 none
  statics := none }

def pool12 : Array CpInfo := pool [(1, .class_ 2), (0, u "java/lang/String"), (0, .methodref 4 5), (0, .class_ 6), (0, .nameAndType 7 8), (0, u "java/lang/Object"), (0, u "<init>"), (0, u "()V"), (1, .class_ 12), (1, u "java/lang/AbstractStringBuilder"), (0, u "EMPTYVALUE"), (0, u "[B"), (0, .fieldref 10 16), (0, .nameAndType 17 14), (0, u "value"), (0, .fieldref 1 19), (0, .nameAndType 20 21), (0, u "COMPACT_STRINGS"), (0, u "Z"), (0, .fieldref 10 23), (0, .nameAndType 24 25), (0, u "coder"), (0, u "B"), (6, .methodref 1 33), (0, .nameAndType 34 35), (0, u "length"), (0, u "()I"), (0, .class_ 37), (0, u "java/lang/Integer"), (2, .methodref 1 41), (0, .nameAndType 24 42), (0, u "()B"), (2, u "append"), (0, u "(Ljava/lang/String;)Ljava/lang/AbstractStringBuilder;"), (1, .class_ 49), (0, u "java/lang/CharSequence"), (19, u "(Ljava/lang/String;)V"), (5, u "maybeLatin1"), (3, .fieldref 10 80), (0, .nameAndType 81 82), (0, u "count"), (0, u "I"), (0, .methodref 10 84), (0, .nameAndType 85 86), (0, u "isLatin1"), (0, u "()Z"), (13, .methodref 10 101), (0, .nameAndType 102 103), (0, u "ensureCapacityInternal"), (0, u "(I)V"), (3, u "(I)I"), (80, u "getChars"), (19, .methodref 10 209), (0, .nameAndType 210 211), (0, u "putStringAt"), (0, u "(ILjava/lang/String;)V"), (5, u "inflateIfNeededFor"), (2, .nameAndType 221 222), (0, u "getBytes"), (0, u "([BIB)V"), (22, .methodref 36 246), (0, .nameAndType 247 107), (0, u "stringSize"), (0, .methodref 36 249), (0, .nameAndType 188 250), (0, u "(II[B)I"), (146, .methodref 10 398), (0, .nameAndType 217 69), (0, .methodref 1 220), (3, u "()[B"), (40, .class_ 445), (0, u "java/lang/Appendable"), (65, u "(I)Ljava/lang/AbstractStringBuilder;"), (40, u "getValue")] 56

def k12m0 : Method := { name := "<init>", desc := "()V", sig := { parameters := [], returnType := none }, accessFlags := 0, code := none }
def k12c1 : Code := { maxStack := 2, maxLocals := 2, code := jdk_68_method_2_code, exceptionTable := #[], attributes := #[] }
def k12m1 : Method := { name := "<init>", desc := "(I)V", sig := { parameters := [.int], returnType := none }, accessFlags := 0, code := some k12c1 }
def k12c2 : Code := { maxStack := 1, maxLocals := 1, code := jdk_68_method_6_code, exceptionTable := #[], attributes := #[] }
def k12m2 : Method := { name := "length", desc := "()I", sig := { parameters := [], returnType := some .int }, accessFlags := 1, code := some k12c2 }
def k12c3 : Code := { maxStack := 4, maxLocals := 3, code := jdk_68_method_9_code, exceptionTable := #[], attributes := #[] }
def k12m3 : Method := { name := "ensureCapacityInternal", desc := "(I)V", sig := { parameters := [.int], returnType := none }, accessFlags := 2, code := some k12c3 }
def k12c4 : Code := { maxStack := 3, maxLocals := 3, code := jdk_68_method_22_code, exceptionTable := #[], attributes := #[] }
def k12m4 : Method := { name := "append", desc := "(Ljava/lang/String;)Ljava/lang/AbstractStringBuilder;", sig := { parameters := [(.object "java/lang/String")], returnType := some (.object "java/lang/AbstractStringBuilder") }, accessFlags := 1, code := some k12c4 }
def k12c5 : Code := { maxStack := 4, maxLocals := 4, code := jdk_68_method_32_code, exceptionTable := #[], attributes := #[] }
def k12m5 : Method := { name := "append", desc := "(I)Ljava/lang/AbstractStringBuilder;", sig := { parameters := [.int], returnType := some (.object "java/lang/AbstractStringBuilder") }, accessFlags := 1, code := some k12c5 }
def k12c6 : Code := { maxStack := 1, maxLocals := 1, code := jdk_68_method_64_code, exceptionTable := #[], attributes := #[] }
def k12m6 : Method := { name := "getValue", desc := "()[B", sig := { parameters := [], returnType := some (.array .byte) }, accessFlags := 16, code := some k12c6 }
def k12c7 : Code := { maxStack := 1, maxLocals := 1, code := jdk_68_method_68_code, exceptionTable := #[], attributes := #[] }
def k12m7 : Method := { name := "isLatin1", desc := "()Z", sig := { parameters := [], returnType := some .boolean }, accessFlags := 16, code := some k12c7 }
def k12c8 : Code := { maxStack := 2, maxLocals := 2, code := jdk_68_method_71_code, exceptionTable := #[], attributes := #[] }
def k12m8 : Method := { name := "inflateIfNeededFor", desc := "(Ljava/lang/String;)V", sig := { parameters := [(.object "java/lang/String")], returnType := none }, accessFlags := 2, code := some k12c8 }
def k12c9 : Code := { maxStack := 4, maxLocals := 3, code := jdk_68_method_73_code, exceptionTable := #[], attributes := #[] }
def k12m9 : Method := { name := "putStringAt", desc := "(ILjava/lang/String;)V", sig := { parameters := [.int, (.object "java/lang/String")], returnType := none }, accessFlags := 2, code := some k12c9 }
/-- java/lang/AbstractStringBuilder -/
def k12 : Class := { plain "java/lang/AbstractStringBuilder" (some 0) with
  accessFlags := 1056
  interfaces := #[11, 7]
  cf := some (fileOf pool12 10 #[] #[{ accessFlags := 0, nameIndex := 7, descriptorIndex := 8, attributes := #[] }, { accessFlags := 0, nameIndex := 7, descriptorIndex := 103, attributes := #[] }, { accessFlags := 1, nameIndex := 34, descriptorIndex := 35, attributes := #[] }, { accessFlags := 2, nameIndex := 102, descriptorIndex := 103, attributes := #[] }, { accessFlags := 1, nameIndex := 45, descriptorIndex := 46, attributes := #[] }, { accessFlags := 1, nameIndex := 45, descriptorIndex := 511, attributes := #[] }, { accessFlags := 16, nameIndex := 552, descriptorIndex := 403, attributes := #[] }, { accessFlags := 16, nameIndex := 85, descriptorIndex := 86, attributes := #[] }, { accessFlags := 2, nameIndex := 217, descriptorIndex := 69, attributes := #[] }, { accessFlags := 2, nameIndex := 210, descriptorIndex := 211, attributes := #[] }] 1056 4 #[444, 48] #[{ accessFlags := 0, nameIndex := 17, descriptorIndex := 14, attributes := #[] }, { accessFlags := 0, nameIndex := 24, descriptorIndex := 25, attributes := #[] }, { accessFlags := 0, nameIndex := 75, descriptorIndex := 21, attributes := #[] }, { accessFlags := 0, nameIndex := 81, descriptorIndex := 82, attributes := #[] }, { accessFlags := 26, nameIndex := 13, descriptorIndex := 14, attributes := #[] }])
  fields := #[{ name := "value", type := (.array .byte), accessFlags := 0, slot := 0, constantValue := 0 }, { name := "coder", type := .byte, accessFlags := 0, slot := 1, constantValue := 0 }, { name := "maybeLatin1", type := .boolean, accessFlags := 0, slot := 2, constantValue := 0 }, { name := "count", type := .int, accessFlags := 0, slot := 3, constantValue := 0 }, { name := "EMPTYVALUE", type := (.array .byte), accessFlags := 26, slot := 0, constantValue := 0 }]
  methods := #[k12m0, k12m1, k12m2, k12m3, k12m4, k12m5, k12m6, k12m7, k12m8, k12m9]
  instanceTypes := #[(.array .byte), .byte, .boolean, .int]
  staticTypes := #[(.array .byte)]
  resolved := Array.replicate 609 none
  statics := none }

def pool13 : Array CpInfo := pool [(1, .methodref 2 3), (0, .class_ 4), (0, .nameAndType 5 6), (0, u "java/lang/AbstractStringBuilder"), (0, u "<init>"), (0, u "(I)V"), (11, .class_ 20), (1, u "java/lang/String"), (3, .class_ 26), (1, u "java/lang/StringBuilder"), (0, u "append"), (0, u "(Ljava/lang/String;)Ljava/lang/StringBuilder;"), (0, .methodref 2 30), (0, .nameAndType 27 31), (0, u "(Ljava/lang/String;)Ljava/lang/AbstractStringBuilder;"), (21, .methodref 2 54), (0, .nameAndType 27 55), (0, u "(I)Ljava/lang/AbstractStringBuilder;"), (81, .methodref 18 138), (0, .nameAndType 5 139), (0, u "(Ljava/lang/StringBuilder;)V"), (5, u "()V"), (10, u "()I"), (111, u "(I)Ljava/lang/StringBuilder;"), (74, .methodref 2 344), (0, .nameAndType 345 156), (0, u "length"), (3, .class_ 350), (0, u "java/lang/Appendable"), (0, .class_ 352), (0, u "java/io/Serializable"), (0, .class_ 354), (0, u "java/lang/Comparable"), (0, .class_ 356), (0, u "java/lang/CharSequence"), (0, u "serialVersionUID"), (0, u "J"), (40, u "toString"), (0, u "()Ljava/lang/String;")] 21

def k13c0 : Code := { maxStack := 2, maxLocals := 1, code := jdk_67_method_1_code, exceptionTable := #[], attributes := #[] }
def k13m0 : Method := { name := "<init>", desc := "()V", sig := { parameters := [], returnType := none }, accessFlags := 1, code := some k13c0 }
def k13c1 : Code := { maxStack := 2, maxLocals := 2, code := jdk_67_method_7_code, exceptionTable := #[], attributes := #[] }
def k13m1 : Method := { name := "append", desc := "(Ljava/lang/String;)Ljava/lang/StringBuilder;", sig := { parameters := [(.object "java/lang/String")], returnType := some (.object "java/lang/StringBuilder") }, accessFlags := 1, code := some k13c1 }
def k13c2 : Code := { maxStack := 2, maxLocals := 2, code := jdk_67_method_15_code, exceptionTable := #[], attributes := #[] }
def k13m2 : Method := { name := "append", desc := "(I)Ljava/lang/StringBuilder;", sig := { parameters := [.int], returnType := some (.object "java/lang/StringBuilder") }, accessFlags := 1, code := some k13c2 }
def k13c3 : Code := { maxStack := 3, maxLocals := 1, code := jdk_67_method_42_code, exceptionTable := #[], attributes := #[] }
def k13m3 : Method := { name := "toString", desc := "()Ljava/lang/String;", sig := { parameters := [], returnType := some (.object "java/lang/String") }, accessFlags := 1, code := some k13c3 }
def k13c4 : Code := { maxStack := 1, maxLocals := 1, code := jdk_67_method_93_code, exceptionTable := #[], attributes := #[] }
def k13m4 : Method := { name := "length", desc := "()I", sig := { parameters := [], returnType := some .int }, accessFlags := 4161, code := some k13c4 }
/-- java/lang/StringBuilder -/
def k13 : Class := { plain "java/lang/StringBuilder" (some 12) with
  accessFlags := 49
  interfaces := #[11, 4, 3, 7]
  cf := some (fileOf pool13 24 #[] #[{ accessFlags := 1, nameIndex := 5, descriptorIndex := 145, attributes := #[] }, { accessFlags := 1, nameIndex := 27, descriptorIndex := 28, attributes := #[] }, { accessFlags := 1, nameIndex := 27, descriptorIndex := 268, attributes := #[] }, { accessFlags := 1, nameIndex := 399, descriptorIndex := 400, attributes := #[] }, { accessFlags := 4161, nameIndex := 345, descriptorIndex := 156, attributes := #[] }] 49 2 #[349, 351, 353, 355] #[{ accessFlags := 24, nameIndex := 357, descriptorIndex := 358, attributes := #[] }])
  fields := #[{ name := "serialVersionUID", type := .long, accessFlags := 24, slot := 0, constantValue := 0 }]
  methods := #[k13m0, k13m1, k13m2, k13m3, k13m4]
  instanceTypes := #[(.array .byte), .byte, .boolean, .int]
  staticTypes := #[.long]
  resolved := Array.replicate 422 none
  statics := none }

def pool14 : Array CpInfo := pool [(2, .class_ 4), (1, u "java/lang/Object"), (0, u "<init>"), (0, u "()V"), (1, .class_ 10), (1, u "java/lang/System"), (0, u "allowSecurityManager"), (0, u "I"), (16, u "cons"), (0, u "Ljava/io/Console;"), (77, .class_ 110), (1, u "java/lang/System$CallersHolder"), (43, u "initialErrStream"), (0, u "Ljava/io/PrintStream;"), (19, u "security"), (0, u "Ljava/lang/SecurityManager;"), (31, .class_ 209), (0, u "java/lang/System$1"), (7, u "props"), (0, u "Ljava/util/Properties;"), (2, u "lineSeparator"), (0, u "Ljava/lang/String;"), (96, .class_ 321), (1, u "java/lang/System$LoggerFinder"), (5, .class_ 328), (0, u "java/lang/System$Logger"), (67, u "err"), (2, u "out"), (91, u "notSupportedJnuEncoding"), (15, u "in"), (17, u "initialIn"), (0, u "Ljava/io/InputStream;"), (35, u "bootLayer"), (0, u "Ljava/lang/ModuleLayer;"), (99, .class_ 664), (0, u "java/lang/System$2"), (9, u "NEVER"), (2, u "MAYBE"), (49, u "arraycopy"), (0, u "(Ljava/lang/Object;ILjava/lang/Object;II)V"), (72, .class_ 802), (0, u "java/lang/System$Logger$Level")] 31

def k14m0 : Method := { name := "<init>", desc := "()V", sig := { parameters := [], returnType := none }, accessFlags := 2, code := none }
def k14m1 : Method := { name := "arraycopy", desc := "(Ljava/lang/Object;ILjava/lang/Object;II)V", sig := { parameters := [(.object "java/lang/Object"), .int, (.object "java/lang/Object"), .int, .int], returnType := none }, accessFlags := 265, code := none }
/-- java/lang/System -/
def k14 : Class := { plain "java/lang/System" (some 0) with
  accessFlags := 49
  interfaces := #[]
  cf := some (fileOf pool14 8 #[.nestMembers #[319, 327, 801, 108, 663, 208]] #[{ accessFlags := 2, nameIndex := 5, descriptorIndex := 6, attributes := #[] }, { accessFlags := 265, nameIndex := 727, descriptorIndex := 728, attributes := #[] }] 49 2 #[] #[{ accessFlags := 25, nameIndex := 507, descriptorIndex := 526, attributes := #[] }, { accessFlags := 25, nameIndex := 399, descriptorIndex := 155, attributes := #[] }, { accessFlags := 25, nameIndex := 396, descriptorIndex := 155, attributes := #[] }, { accessFlags := 10, nameIndex := 525, descriptorIndex := 526, attributes := #[] }, { accessFlags := 26, nameIndex := 674, descriptorIndex := 12, attributes := #[] }, { accessFlags := 26, nameIndex := 677, descriptorIndex := 12, attributes := #[] }, { accessFlags := 10, nameIndex := 11, descriptorIndex := 12, attributes := #[] }, { accessFlags := 74, nameIndex := 175, descriptorIndex := 176, attributes := #[] }, { accessFlags := 10, nameIndex := 491, descriptorIndex := 222, attributes := #[] }, { accessFlags := 74, nameIndex := 29, descriptorIndex := 30, attributes := #[] }, { accessFlags := 74, nameIndex := 154, descriptorIndex := 155, attributes := #[] }, { accessFlags := 10, nameIndex := 217, descriptorIndex := 218, attributes := #[] }, { accessFlags := 10, nameIndex := 221, descriptorIndex := 222, attributes := #[] }, { accessFlags := 8, nameIndex := 562, descriptorIndex := 563, attributes := #[] }])
  fields := #[{ name := "in", type := (.object "java/io/InputStream"), accessFlags := 25, slot := 0, constantValue := 0 }, { name := "out", type := (.object "java/io/PrintStream"), accessFlags := 25, slot := 1, constantValue := 0 }, { name := "err", type := (.object "java/io/PrintStream"), accessFlags := 25, slot := 2, constantValue := 0 }, { name := "initialIn", type := (.object "java/io/InputStream"), accessFlags := 10, slot := 3, constantValue := 0 }, { name := "NEVER", type := .int, accessFlags := 26, slot := 4, constantValue := 0 }, { name := "MAYBE", type := .int, accessFlags := 26, slot := 5, constantValue := 0 }, { name := "allowSecurityManager", type := .int, accessFlags := 10, slot := 6, constantValue := 0 }, { name := "security", type := (.object "java/lang/SecurityManager"), accessFlags := 74, slot := 7, constantValue := 0 }, { name := "notSupportedJnuEncoding", type := (.object "java/lang/String"), accessFlags := 10, slot := 8, constantValue := 0 }, { name := "cons", type := (.object "java/io/Console"), accessFlags := 74, slot := 9, constantValue := 0 }, { name := "initialErrStream", type := (.object "java/io/PrintStream"), accessFlags := 74, slot := 10, constantValue := 0 }, { name := "props", type := (.object "java/util/Properties"), accessFlags := 10, slot := 11, constantValue := 0 }, { name := "lineSeparator", type := (.object "java/lang/String"), accessFlags := 10, slot := 12, constantValue := 0 }, { name := "bootLayer", type := (.object "java/lang/ModuleLayer"), accessFlags := 8, slot := 13, constantValue := 0 }]
  methods := #[k14m0, k14m1]
  instanceTypes := #[]
  staticTypes := #[(.object "java/io/InputStream"), (.object "java/io/PrintStream"), (.object "java/io/PrintStream"), (.object "java/io/InputStream"), .int, .int, .int, (.object "java/lang/SecurityManager"), (.object "java/lang/String"), (.object "java/io/Console"), (.object "java/io/PrintStream"), (.object "java/util/Properties"), (.object "java/lang/String"), (.object "java/lang/ModuleLayer")]
  resolved := Array.replicate 834 none
  statics := none }

def pool15 : Array CpInfo := pool [(2, .class_ 4), (1, u "java/lang/Object"), (0, u "<init>"), (0, u "()V"), (1, .class_ 10), (1, u "java/lang/Number"), (2, .class_ 14), (0, u "java/io/Serializable"), (0, u "serialVersionUID"), (0, u "J")] 20

def k15m0 : Method := { name := "<init>", desc := "()V", sig := { parameters := [], returnType := none }, accessFlags := 1, code := none }
/-- java/lang/Number -/
def k15 : Class := { plain "java/lang/Number" (some 0) with
  accessFlags := 1057
  interfaces := #[4]
  cf := some (fileOf pool15 8 #[] #[{ accessFlags := 1, nameIndex := 5, descriptorIndex := 6, attributes := #[] }] 1057 2 #[13] #[{ accessFlags := 26, nameIndex := 15, descriptorIndex := 16, attributes := #[] }])
  fields := #[{ name := "serialVersionUID", type := .long, accessFlags := 26, slot := 0, constantValue := 0 }]
  methods := #[k15m0]
  instanceTypes := #[]
  staticTypes := #[.long]
  resolved := Array.replicate 37 none
  statics := none }

def pool16 : Array CpInfo := pool [(1, .class_ 2), (0, u "java/lang/Integer"), (16, u "digits"), (0, u "[C"), (33, u "(I)I"), (19, u "stringSize"), (2, u "getChars"), (0, u "(II[B)I"), (4, .fieldref 1 84), (0, .nameAndType 85 86), (0, u "DigitOnes"), (0, u "[B"), (0, .fieldref 1 88), (0, .nameAndType 89 86), (0, u "DigitTens"), (99, .class_ 190), (0, u "java/lang/Integer$IntegerCache"), (3, u "I"), (8, .class_ 204), (0, u "java/lang/Number"), (2, u "value"), (94, u "TYPE"), (0, u "Ljava/lang/Class;"), (0, .class_ 305), (0, u "java/lang/Comparable"), (0, .class_ 307), (0, u "java/lang/constant/Constable"), (0, .class_ 309), (0, u "java/lang/constant/ConstantDesc"), (0, u "MIN_VALUE"), (1, u "MAX_VALUE"), (3, u "SIZE"), (1, u "BYTES"), (1, u "serialVersionUID"), (0, u "J")] 131

def k16c0 : Code := { maxStack := 4, maxLocals := 7, code := jdk_33_method_12_code, exceptionTable := #[], attributes := #[] }
def k16m0 : Method := { name := "getChars", desc := "(II[B)I", sig := { parameters := [.int, .int, (.array .byte)], returnType := some .int }, accessFlags := 8, code := some k16c0 }
def k16c1 : Code := { maxStack := 2, maxLocals := 4, code := jdk_33_method_13_code, exceptionTable := #[], attributes := #[] }
def k16m1 : Method := { name := "stringSize", desc := "(I)I", sig := { parameters := [.int], returnType := some .int }, accessFlags := 8, code := some k16c1 }
/-- java/lang/Integer -/
def k16 : Class := { plain "java/lang/Integer" (some 15) with
  accessFlags := 49
  interfaces := #[3, 2, 8]
  cf := some (fileOf pool16 1 #[.nestMembers #[189]] #[{ accessFlags := 8, nameIndex := 77, descriptorIndex := 78, attributes := #[] }, { accessFlags := 8, nameIndex := 74, descriptorIndex := 54, attributes := #[] }] 49 203 #[304, 306, 308] #[{ accessFlags := 25, nameIndex := 310, descriptorIndex := 194, attributes := #[] }, { accessFlags := 25, nameIndex := 312, descriptorIndex := 194, attributes := #[] }, { accessFlags := 25, nameIndex := 302, descriptorIndex := 303, attributes := #[] }, { accessFlags := 24, nameIndex := 19, descriptorIndex := 20, attributes := #[] }, { accessFlags := 24, nameIndex := 89, descriptorIndex := 86, attributes := #[] }, { accessFlags := 24, nameIndex := 85, descriptorIndex := 86, attributes := #[] }, { accessFlags := 18, nameIndex := 207, descriptorIndex := 194, attributes := #[] }, { accessFlags := 25, nameIndex := 316, descriptorIndex := 194, attributes := #[] }, { accessFlags := 25, nameIndex := 318, descriptorIndex := 194, attributes := #[] }, { accessFlags := 26, nameIndex := 320, descriptorIndex := 321, attributes := #[] }])
  fields := #[{ name := "MIN_VALUE", type := .int, accessFlags := 25, slot := 0, constantValue := 0 }, { name := "MAX_VALUE", type := .int, accessFlags := 25, slot := 1, constantValue := 0 }, { name := "TYPE", type := (.object "java/lang/Class"), accessFlags := 25, slot := 2, constantValue := 0 }, { name := "digits", type := (.array .char), accessFlags := 24, slot := 3, constantValue := 0 }, { name := "DigitTens", type := (.array .byte), accessFlags := 24, slot := 4, constantValue := 0 }, { name := "DigitOnes", type := (.array .byte), accessFlags := 24, slot := 5, constantValue := 0 }, { name := "value", type := .int, accessFlags := 18, slot := 0, constantValue := 0 }, { name := "SIZE", type := .int, accessFlags := 25, slot := 6, constantValue := 0 }, { name := "BYTES", type := .int, accessFlags := 25, slot := 7, constantValue := 0 }, { name := "serialVersionUID", type := .long, accessFlags := 26, slot := 8, constantValue := 0 }]
  methods := #[k16m0, k16m1]
  instanceTypes := #[.int]
  staticTypes := #[.int, .int, (.object "java/lang/Class"), (.array .char), (.array .byte), (.array .byte), .int, .int, .long]
  resolved := Array.replicate 453 none
  statics := some 2 }

def pool17 : Array CpInfo := pool [(2, .class_ 4), (1, u "java/lang/Object"), (0, u "<init>"), (0, u "()V"), (7, .class_ 16), (1, u "java/util/Arrays"), (57, .class_ 76), (1, u "java/util/Arrays$NaturalOrder"), (36, .class_ 115), (1, u "java/util/Arrays$LegacyMergeSort"), (1, u "Z"), (21, u "copyOfRange"), (10, .methodref 151 152), (0, .class_ 153), (0, .nameAndType 154 155), (0, u "java/lang/System"), (0, u "arraycopy"), (0, u "(Ljava/lang/Object;ILjava/lang/Object;II)V"), (148, .methodref 305 306), (0, .class_ 307), (0, .nameAndType 308 309), (0, u "java/lang/Math"), (0, u "min"), (0, u "(II)I"), (29, .methodref 14 340), (0, .nameAndType 341 342), (0, u "copyOfRangeByte"), (0, u "([BII)[B"), (0, .methodref 14 344), (0, .nameAndType 345 346), (0, u "checkLength"), (0, u "(II)V"), (28, .class_ 376), (0, u "java/util/Arrays$ArrayList"), (68, u "$assertionsDisabled"), (269, u "MIN_ARRAY_SORT_GRAN"), (0, u "I"), (2, u "INSERTIONSORT_THRESHOLD"), (255, .class_ 976), (0, u "java/util/Arrays$ArrayItr")] 52

def k17m0 : Method := { name := "<init>", desc := "()V", sig := { parameters := [], returnType := none }, accessFlags := 2, code := none }
def k17c1 : Code := { maxStack := 4, maxLocals := 2, code := jdk_65_method_131_code, exceptionTable := #[], attributes := #[] }
def k17m1 : Method := { name := "checkLength", desc := "(II)V", sig := { parameters := [.int, .int], returnType := none }, accessFlags := 10, code := some k17c1 }
def k17c2 : Code := { maxStack := 3, maxLocals := 3, code := jdk_65_method_132_code, exceptionTable := #[], attributes := #[] }
def k17m2 : Method := { name := "copyOfRange", desc := "([BII)[B", sig := { parameters := [(.array .byte), .int, .int], returnType := some (.array .byte) }, accessFlags := 9, code := some k17c2 }
def k17c3 : Code := { maxStack := 6, maxLocals := 5, code := jdk_65_method_133_code, exceptionTable := #[], attributes := #[] }
def k17m3 : Method := { name := "copyOfRangeByte", desc := "([BII)[B", sig := { parameters := [(.array .byte), .int, .int], returnType := some (.array .byte) }, accessFlags := 10, code := some k17c3 }
/-- java/util/Arrays -/
def k17 : Class := { plain "java/util/Arrays" (some 0) with
  accessFlags := 49
  interfaces := #[]
  cf := some (fileOf pool17 14 #[.nestMembers #[975, 375, 113, 74]] #[{ accessFlags := 2, nameIndex := 5, descriptorIndex := 6, attributes := #[] }, { accessFlags := 10, nameIndex := 345, descriptorIndex := 346, attributes := #[] }, { accessFlags := 9, nameIndex := 139, descriptorIndex := 342, attributes := #[] }, { accessFlags := 10, nameIndex := 341, descriptorIndex := 342, attributes := #[] }] 49 2 #[] #[{ accessFlags := 26, nameIndex := 715, descriptorIndex := 716, attributes := #[] }, { accessFlags := 26, nameIndex := 719, descriptorIndex := 716, attributes := #[] }, { accessFlags := 4120, nameIndex := 445, descriptorIndex := 117, attributes := #[] }])
  fields := #[{ name := "MIN_ARRAY_SORT_GRAN", type := .int, accessFlags := 26, slot := 0, constantValue := 0 }, { name := "INSERTIONSORT_THRESHOLD", type := .int, accessFlags := 26, slot := 1, constantValue := 0 }, { name := "$assertionsDisabled", type := .boolean, accessFlags := 4120, slot := 2, constantValue := 0 }]
  methods := #[k17m0, k17m1, k17m2, k17m3]
  instanceTypes := #[]
  staticTypes := #[.int, .int, .boolean]
  resolved := Array.replicate 1029 none
  statics := none }

def pool18 : Array CpInfo := pool [(1, .class_ 2), (0, u "java/lang/Math"), (1, .class_ 6), (1, u "java/lang/Object"), (0, u "<init>"), (0, u "()V"), (89, .class_ 100), (1, u "java/lang/Math$RandomNumberGeneratorHolder"), (71, u "negativeZeroFloatBits"), (0, u "J"), (2, u "negativeZeroDoubleBits"), (24, u "min"), (43, u "$assertionsDisabled"), (0, u "Z"), (88, u "(II)I"), (2, u "twoToTheDoubleScaleDown"), (0, u "D"), (4, u "twoToTheDoubleScaleUp"), (9, u "E"), (3, u "PI"), (2, u "TAU"), (2, u "DEGREES_TO_RADIANS"), (0, u "RADIANS_TO_DEGREES")] 94

def k18m0 : Method := { name := "<init>", desc := "()V", sig := { parameters := [], returnType := none }, accessFlags := 2, code := none }
def k18c1 : Code := { maxStack := 2, maxLocals := 2, code := jdk_29_method_69_code, exceptionTable := #[], attributes := #[] }
def k18m1 : Method := { name := "min", desc := "(II)I", sig := { parameters := [.int, .int], returnType := some .int }, accessFlags := 9, code := some k18c1 }
/-- java/lang/Math -/
def k18 : Class := { plain "java/lang/Math" (some 0) with
  accessFlags := 49
  interfaces := #[]
  cf := some (fileOf pool18 1 #[.nestMembers #[98]] #[{ accessFlags := 2, nameIndex := 7, descriptorIndex := 8, attributes := #[] }, { accessFlags := 9, nameIndex := 201, descriptorIndex := 335, attributes := #[] }] 49 4 #[] #[{ accessFlags := 25, nameIndex := 354, descriptorIndex := 339, attributes := #[] }, { accessFlags := 25, nameIndex := 358, descriptorIndex := 339, attributes := #[] }, { accessFlags := 25, nameIndex := 361, descriptorIndex := 339, attributes := #[] }, { accessFlags := 26, nameIndex := 364, descriptorIndex := 339, attributes := #[] }, { accessFlags := 26, nameIndex := 365, descriptorIndex := 339, attributes := #[] }, { accessFlags := 26, nameIndex := 172, descriptorIndex := 173, attributes := #[] }, { accessFlags := 26, nameIndex := 176, descriptorIndex := 173, attributes := #[] }, { accessFlags := 8, nameIndex := 344, descriptorIndex := 339, attributes := #[] }, { accessFlags := 8, nameIndex := 338, descriptorIndex := 339, attributes := #[] }, { accessFlags := 4120, nameIndex := 245, descriptorIndex := 246, attributes := #[] }])
  fields := #[{ name := "E", type := .double, accessFlags := 25, slot := 0, constantValue := 0 }, { name := "PI", type := .double, accessFlags := 25, slot := 1, constantValue := 0 }, { name := "TAU", type := .double, accessFlags := 25, slot := 2, constantValue := 0 }, { name := "DEGREES_TO_RADIANS", type := .double, accessFlags := 26, slot := 3, constantValue := 0 }, { name := "RADIANS_TO_DEGREES", type := .double, accessFlags := 26, slot := 4, constantValue := 0 }, { name := "negativeZeroFloatBits", type := .long, accessFlags := 26, slot := 5, constantValue := 0 }, { name := "negativeZeroDoubleBits", type := .long, accessFlags := 26, slot := 6, constantValue := 0 }, { name := "twoToTheDoubleScaleUp", type := .double, accessFlags := 8, slot := 7, constantValue := 0 }, { name := "twoToTheDoubleScaleDown", type := .double, accessFlags := 8, slot := 8, constantValue := 0 }, { name := "$assertionsDisabled", type := .boolean, accessFlags := 4120, slot := 9, constantValue := 0 }]
  methods := #[k18m0, k18m1]
  instanceTypes := #[]
  staticTypes := #[.double, .double, .double, .double, .double, .long, .long, .double, .double, .boolean]
  resolved := Array.replicate 460 none
  statics := none }

def pool19 : Array CpInfo := pool [(4, .class_ 6), (1, u "java/lang/Object"), (0, u "<init>"), (0, u "()V"), (5, .class_ 16), (1, u "java/lang/StringLatin1"), (104, u "$assertionsDisabled"), (0, u "Z"), (98, .class_ 223), (1, u "java/lang/StringLatin1$LinesSpliterator"), (57, u "equals"), (0, u "([B[B)Z"), (107, .class_ 391), (0, u "java/lang/StringLatin1$CharsSpliterator")] 3

def k19m0 : Method := { name := "<init>", desc := "()V", sig := { parameters := [], returnType := none }, accessFlags := 0, code := none }
def k19c1 : Code := { maxStack := 3, maxLocals := 3, code := jdk_43_method_13_code, exceptionTable := #[], attributes := #[] }
def k19m1 : Method := { name := "equals", desc := "([B[B)Z", sig := { parameters := [(.array .byte), (.array .byte)], returnType := some .boolean }, accessFlags := 9, code := some k19c1 }
/-- java/lang/StringLatin1 -/
def k19 : Class := { plain "java/lang/StringLatin1" (some 0) with
  accessFlags := 48
  interfaces := #[]
  cf := some (fileOf pool19 14 #[.nestMembers #[390, 221]] #[{ accessFlags := 0, nameIndex := 7, descriptorIndex := 8, attributes := #[] }, { accessFlags := 9, nameIndex := 281, descriptorIndex := 282, attributes := #[] }] 48 4 #[] #[{ accessFlags := 4120, nameIndex := 121, descriptorIndex := 122, attributes := #[] }])
  fields := #[{ name := "$assertionsDisabled", type := .boolean, accessFlags := 4120, slot := 0, constantValue := 0 }]
  methods := #[k19m0, k19m1]
  instanceTypes := #[]
  staticTypes := #[.boolean]
  resolved := Array.replicate 395 none
  statics := none }

def pool20 : Array CpInfo := pool [(2, .class_ 4), (1, u "com/example/saturation/saturation/Measure"), (3, .class_ 10), (1, u "com/example/saturation/saturation/Measure$4")] 25

/-- com/example/saturation/saturation/Measure$4 -/
def k20 : Class := { plain "com/example/saturation/saturation/Measure$4" (some 6) with
  accessFlags := 16432
  interfaces := #[]
  cf := some (fileOf pool20 8 #[.nestHost 2] #[] 16432 2 #[] #[])
  fields := #[]
  methods := #[]
  instanceTypes := #[(.object "java/lang/String"), .int, .int, (.object "java/lang/String"), .int]
  staticTypes := #[]
  resolved := Array.replicate 36 none
  statics := none }

def pool21 : Array CpInfo := pool [(2, .class_ 4), (1, u "com/example/saturation/saturation/Measure"), (3, .class_ 10), (1, u "com/example/saturation/saturation/Measure$2")] 23

/-- com/example/saturation/saturation/Measure$2 -/
def k21 : Class := { plain "com/example/saturation/saturation/Measure$2" (some 6) with
  accessFlags := 16432
  interfaces := #[]
  cf := some (fileOf pool21 8 #[.nestHost 2] #[] 16432 2 #[] #[])
  fields := #[]
  methods := #[]
  instanceTypes := #[(.object "java/lang/String"), .int, .int, (.object "java/lang/String"), .int]
  staticTypes := #[]
  resolved := Array.replicate 34 none
  statics := none }

def pool22 : Array CpInfo := pool [(2, .class_ 4), (1, u "com/example/saturation/saturation/Measure"), (3, .class_ 10), (1, u "com/example/saturation/saturation/Measure$5")] 40

/-- com/example/saturation/saturation/Measure$5 -/
def k22 : Class := { plain "com/example/saturation/saturation/Measure$5" (some 6) with
  accessFlags := 16432
  interfaces := #[]
  cf := some (fileOf pool22 8 #[.nestHost 2] #[] 16432 2 #[] #[])
  fields := #[]
  methods := #[]
  instanceTypes := #[(.object "java/lang/String"), .int, .int, (.object "java/lang/String"), .int]
  staticTypes := #[]
  resolved := Array.replicate 51 none
  statics := none }

def pool23 : Array CpInfo := pool [(2, .class_ 4), (1, u "com/example/saturation/saturation/Measure"), (9, .class_ 16), (1, u "com/example/saturation/saturation/Measure$3")] 54

/-- com/example/saturation/saturation/Measure$3 -/
def k23 : Class := { plain "com/example/saturation/saturation/Measure$3" (some 6) with
  accessFlags := 16432
  interfaces := #[]
  cf := some (fileOf pool23 14 #[.nestHost 2] #[] 16432 2 #[] #[])
  fields := #[]
  methods := #[]
  instanceTypes := #[(.object "java/lang/String"), .int, .int, (.object "java/lang/String"), .int]
  staticTypes := #[]
  resolved := Array.replicate 71 none
  statics := none }

def pool24 : Array CpInfo := pool [(2, .class_ 4), (1, u "java/lang/Object"), (0, u "<init>"), (0, u "()V"), (17, .class_ 26), (1, u "jdk/internal/util/Preconditions"), (28, .class_ 56), (0, u "jdk/internal/util/Preconditions$4"), (57, .class_ 115), (0, u "jdk/internal/util/Preconditions$1"), (7, u "SIOOBE_FORMATTER"), (0, u "Ljava/util/function/BiFunction;"), (0, .class_ 126), (0, u "jdk/internal/util/Preconditions$2"), (3, u "AIOOBE_FORMATTER"), (0, .class_ 132), (0, u "jdk/internal/util/Preconditions$3"), (3, u "IOOBE_FORMATTER")] 57

def k24m0 : Method := { name := "<init>", desc := "()V", sig := { parameters := [], returnType := none }, accessFlags := 1, code := none }
/-- jdk/internal/util/Preconditions -/
def k24 : Class := { plain "jdk/internal/util/Preconditions" (some 0) with
  accessFlags := 33
  interfaces := #[]
  cf := some (fileOf pool24 24 #[.nestMembers #[55, 131, 125, 114]] #[{ accessFlags := 1, nameIndex := 5, descriptorIndex := 6, attributes := #[] }] 33 2 #[] #[{ accessFlags := 25, nameIndex := 123, descriptorIndex := 124, attributes := #[] }, { accessFlags := 25, nameIndex := 130, descriptorIndex := 124, attributes := #[] }, { accessFlags := 25, nameIndex := 136, descriptorIndex := 124, attributes := #[] }])
  fields := #[{ name := "SIOOBE_FORMATTER", type := (.object "java/util/function/BiFunction"), accessFlags := 25, slot := 0, constantValue := 0 }, { name := "AIOOBE_FORMATTER", type := (.object "java/util/function/BiFunction"), accessFlags := 25, slot := 1, constantValue := 0 }, { name := "IOOBE_FORMATTER", type := (.object "java/util/function/BiFunction"), accessFlags := 25, slot := 2, constantValue := 0 }]
  methods := #[k24m0]
  instanceTypes := #[]
  staticTypes := #[(.object "java/util/function/BiFunction"), (.object "java/util/function/BiFunction"), (.object "java/util/function/BiFunction")]
  resolved := Array.replicate 194 none
  statics := some 3 }

def pool25 : Array CpInfo := pool [(9, u "<init>"), (6, .class_ 18), (1, u "java/lang/Object"), (0, u "()V"), (1, .class_ 23), (1, u "jdk/internal/util/ArraysSupport"), (0, u "LOG2_ARRAY_LONG_INDEX_SCALE"), (0, u "I"), (2, u "U"), (0, u "Ljdk/internal/misc/Unsafe;"), (8, u "BIG_ENDIAN"), (0, u "Z"), (8, u "LOG2_BYTE_BIT_SIZE"), (4, u "LOG2_ARRAY_INT_INDEX_SCALE"), (54, u "JLA"), (0, u "Ljdk/internal/access/JavaLangAccess;"), (11, u "LOG2_ARRAY_BOOLEAN_INDEX_SCALE"), (9, u "LOG2_ARRAY_BYTE_INDEX_SCALE"), (5, u "LOG2_ARRAY_CHAR_INDEX_SCALE"), (5, u "LOG2_ARRAY_SHORT_INDEX_SCALE"), (18, u "LOG2_ARRAY_FLOAT_INDEX_SCALE"), (24, u "LOG2_ARRAY_DOUBLE_INDEX_SCALE"), (89, u "T_BOOLEAN"), (2, u "T_CHAR"), (1, u "T_FLOAT"), (1, u "T_DOUBLE"), (1, u "T_BYTE"), (1, u "T_SHORT"), (1, u "T_INT"), (1, u "T_LONG"), (1, u "SOFT_MAX_ARRAY_LENGTH")] 83

def k25m0 : Method := { name := "<init>", desc := "()V", sig := { parameters := [], returnType := none }, accessFlags := 2, code := none }
/-- jdk/internal/util/ArraysSupport -/
def k25 : Class := { plain "jdk/internal/util/ArraysSupport" (some 0) with
  accessFlags := 33
  interfaces := #[]
  cf := some (fileOf pool25 21 #[] #[{ accessFlags := 2, nameIndex := 9, descriptorIndex := 19, attributes := #[] }] 33 16 #[] #[{ accessFlags := 24, nameIndex := 28, descriptorIndex := 29, attributes := #[] }, { accessFlags := 26, nameIndex := 38, descriptorIndex := 39, attributes := #[] }, { accessFlags := 25, nameIndex := 121, descriptorIndex := 25, attributes := #[] }, { accessFlags := 25, nameIndex := 131, descriptorIndex := 25, attributes := #[] }, { accessFlags := 25, nameIndex := 137, descriptorIndex := 25, attributes := #[] }, { accessFlags := 25, nameIndex := 143, descriptorIndex := 25, attributes := #[] }, { accessFlags := 25, nameIndex := 53, descriptorIndex := 25, attributes := #[] }, { accessFlags := 25, nameIndex := 24, descriptorIndex := 25, attributes := #[] }, { accessFlags := 25, nameIndex := 162, descriptorIndex := 25, attributes := #[] }, { accessFlags := 25, nameIndex := 187, descriptorIndex := 25, attributes := #[] }, { accessFlags := 26, nameIndex := 48, descriptorIndex := 25, attributes := #[] }, { accessFlags := 25, nameIndex := 277, descriptorIndex := 25, attributes := #[] }, { accessFlags := 25, nameIndex := 280, descriptorIndex := 25, attributes := #[] }, { accessFlags := 25, nameIndex := 282, descriptorIndex := 25, attributes := #[] }, { accessFlags := 25, nameIndex := 284, descriptorIndex := 25, attributes := #[] }, { accessFlags := 25, nameIndex := 286, descriptorIndex := 25, attributes := #[] }, { accessFlags := 25, nameIndex := 288, descriptorIndex := 25, attributes := #[] }, { accessFlags := 25, nameIndex := 290, descriptorIndex := 25, attributes := #[] }, { accessFlags := 25, nameIndex := 292, descriptorIndex := 25, attributes := #[] }, { accessFlags := 26, nameIndex := 108, descriptorIndex := 109, attributes := #[] }, { accessFlags := 25, nameIndex := 294, descriptorIndex := 25, attributes := #[] }])
  fields := #[{ name := "U", type := (.object "jdk/internal/misc/Unsafe"), accessFlags := 24, slot := 0, constantValue := 0 }, { name := "BIG_ENDIAN", type := .boolean, accessFlags := 26, slot := 1, constantValue := 0 }, { name := "LOG2_ARRAY_BOOLEAN_INDEX_SCALE", type := .int, accessFlags := 25, slot := 2, constantValue := 0 }, { name := "LOG2_ARRAY_BYTE_INDEX_SCALE", type := .int, accessFlags := 25, slot := 3, constantValue := 0 }, { name := "LOG2_ARRAY_CHAR_INDEX_SCALE", type := .int, accessFlags := 25, slot := 4, constantValue := 0 }, { name := "LOG2_ARRAY_SHORT_INDEX_SCALE", type := .int, accessFlags := 25, slot := 5, constantValue := 0 }, { name := "LOG2_ARRAY_INT_INDEX_SCALE", type := .int, accessFlags := 25, slot := 6, constantValue := 0 }, { name := "LOG2_ARRAY_LONG_INDEX_SCALE", type := .int, accessFlags := 25, slot := 7, constantValue := 0 }, { name := "LOG2_ARRAY_FLOAT_INDEX_SCALE", type := .int, accessFlags := 25, slot := 8, constantValue := 0 }, { name := "LOG2_ARRAY_DOUBLE_INDEX_SCALE", type := .int, accessFlags := 25, slot := 9, constantValue := 0 }, { name := "LOG2_BYTE_BIT_SIZE", type := .int, accessFlags := 26, slot := 10, constantValue := 0 }, { name := "T_BOOLEAN", type := .int, accessFlags := 25, slot := 11, constantValue := 0 }, { name := "T_CHAR", type := .int, accessFlags := 25, slot := 12, constantValue := 0 }, { name := "T_FLOAT", type := .int, accessFlags := 25, slot := 13, constantValue := 0 }, { name := "T_DOUBLE", type := .int, accessFlags := 25, slot := 14, constantValue := 0 }, { name := "T_BYTE", type := .int, accessFlags := 25, slot := 15, constantValue := 0 }, { name := "T_SHORT", type := .int, accessFlags := 25, slot := 16, constantValue := 0 }, { name := "T_INT", type := .int, accessFlags := 25, slot := 17, constantValue := 0 }, { name := "T_LONG", type := .int, accessFlags := 25, slot := 18, constantValue := 0 }, { name := "JLA", type := (.object "jdk/internal/access/JavaLangAccess"), accessFlags := 26, slot := 19, constantValue := 0 }, { name := "SOFT_MAX_ARRAY_LENGTH", type := .int, accessFlags := 25, slot := 20, constantValue := 0 }]
  methods := #[k25m0]
  instanceTypes := #[]
  staticTypes := #[(.object "jdk/internal/misc/Unsafe"), .boolean, .int, .int, .int, .int, .int, .int, .int, .int, .int, .int, .int, .int, .int, .int, .int, .int, .int, (.object "jdk/internal/access/JavaLangAccess"), .int]
  resolved := Array.replicate 378 none
  statics := none }

def pool26 : Array CpInfo := pool [(1, u "java/lang/Cloneable"), (0, .class_ 1), (0, u "java/lang/Object"), (0, .class_ 3)] 3

/-- java/lang/Cloneable -/
def k26 : Class := { plain "java/lang/Cloneable" (some 0) with
  accessFlags := 1537
  interfaces := #[]
  cf := some (fileOf pool26 2 #[] #[] 1537 4 #[] #[])
  fields := #[]
  methods := #[]
  instanceTypes := #[]
  staticTypes := #[]
  resolved := Array.replicate 8 none
  statics := none }

/-- the primitive byte -/
def k27 : Class := { plain "byte" none with kind := .primitive 'B', accessFlags := 0x411 }
/-- [B -/
def k28 : Class := { plain "[B" (some 0) with kind := .array 27 .byte, interfaces := #[26, 4], accessFlags := 1041 }

/-- the primitive int -/
def k29 : Class := { plain "int" none with kind := .primitive 'I', accessFlags := 0x411 }
/-- [I -/
def k30 : Class := { plain "[I" (some 0) with kind := .array 29 .int, interfaces := #[26, 4], accessFlags := 1041 }

def heap : Heap := #[{ cls := 6, slots := #[.ref 14, .ref 15, .ref 16, .ref 17, .ref 18, .null], vm := .statics 6 },
  { cls := 9, slots := #[.long 0, .int 1, .null, .int 0, .null, .int 0, .int 0], vm := .statics 9 },
  { cls := 16, slots := #[.int 0, .int 0, .null, .null, .ref 20, .ref 19, .int 0, .int 0, .long 0], vm := .statics 16 },
  { cls := 24, slots := #[.null, .null, .null], vm := .statics 24 },
  { cls := 28, slots := #[.int 110, .int 68, .int 67, .int 71], vm := .none },
  { cls := 28, slots := #[.int 80], vm := .none },
  { cls := 28, slots := #[.int 77, .int 65, .int 80], vm := .none },
  { cls := 28, slots := #[.int 82], vm := .none },
  { cls := 28, slots := #[.int 77, .int 82, .int 82], vm := .none },
  { cls := 9, slots := #[.ref 4, .int 0, .int 0, .int 0], vm := .none },
  { cls := 9, slots := #[.ref 5, .int 0, .int 0, .int 0], vm := .none },
  { cls := 9, slots := #[.ref 6, .int 0, .int 0, .int 0], vm := .none },
  { cls := 9, slots := #[.ref 7, .int 0, .int 0, .int 0], vm := .none },
  { cls := 9, slots := #[.ref 8, .int 0, .int 0, .int 0], vm := .none },
  { cls := 10, slots := #[.null, .int 0, .int 0, .ref 9, .int 10], vm := .none },
  { cls := 21, slots := #[.null, .int 1, .int 0, .ref 10, .int 10], vm := .none },
  { cls := 23, slots := #[.null, .int 2, .int 0, .ref 11, .int 100], vm := .none },
  { cls := 20, slots := #[.null, .int 3, .int 0, .ref 12, .int 100], vm := .none },
  { cls := 22, slots := #[.null, .int 4, .int 0, .ref 13, .int 10], vm := .none },
  { cls := 28, slots := #[.int 48, .int 49, .int 50, .int 51, .int 52, .int 53, .int 54, .int 55, .int 56, .int 57, .int 48, .int 49, .int 50, .int 51, .int 52, .int 53, .int 54, .int 55, .int 56, .int 57, .int 48, .int 49, .int 50, .int 51, .int 52, .int 53, .int 54, .int 55, .int 56, .int 57, .int 48, .int 49, .int 50, .int 51, .int 52, .int 53, .int 54, .int 55, .int 56, .int 57, .int 48, .int 49, .int 50, .int 51, .int 52, .int 53, .int 54, .int 55, .int 56, .int 57, .int 48, .int 49, .int 50, .int 51, .int 52, .int 53, .int 54, .int 55, .int 56, .int 57, .int 48, .int 49, .int 50, .int 51, .int 52, .int 53, .int 54, .int 55, .int 56, .int 57, .int 48, .int 49, .int 50, .int 51, .int 52, .int 53, .int 54, .int 55, .int 56, .int 57, .int 48, .int 49, .int 50, .int 51, .int 52, .int 53, .int 54, .int 55, .int 56, .int 57, .int 48, .int 49, .int 50, .int 51, .int 52, .int 53, .int 54, .int 55, .int 56, .int 57], vm := .none },
  { cls := 28, slots := #[.int 48, .int 48, .int 48, .int 48, .int 48, .int 48, .int 48, .int 48, .int 48, .int 48, .int 49, .int 49, .int 49, .int 49, .int 49, .int 49, .int 49, .int 49, .int 49, .int 49, .int 50, .int 50, .int 50, .int 50, .int 50, .int 50, .int 50, .int 50, .int 50, .int 50, .int 51, .int 51, .int 51, .int 51, .int 51, .int 51, .int 51, .int 51, .int 51, .int 51, .int 52, .int 52, .int 52, .int 52, .int 52, .int 52, .int 52, .int 52, .int 52, .int 52, .int 53, .int 53, .int 53, .int 53, .int 53, .int 53, .int 53, .int 53, .int 53, .int 53, .int 54, .int 54, .int 54, .int 54, .int 54, .int 54, .int 54, .int 54, .int 54, .int 54, .int 55, .int 55, .int 55, .int 55, .int 55, .int 55, .int 55, .int 55, .int 55, .int 55, .int 56, .int 56, .int 56, .int 56, .int 56, .int 56, .int 56, .int 56, .int 56, .int 56, .int 57, .int 57, .int 57, .int 57, .int 57, .int 57, .int 57, .int 57, .int 57, .int 57], vm := .none }]
def classes : Array Class := #[k0, k1, k2, k3, k4, k5, k6, k7, k8, k9, k10, k11, k12, k13, k14, k15, k16, k17, k18, k19, k20, k21, k22, k23, k24, k25, k26, k27, k28, k29, k30]
def interned : List (Array UInt16 × Addr) := []
def slotsUsed : Nat := 282
def theMethod : MethodId := ⟨1, 1⟩
def args0 : Array Value := #[.int 0]
def aboutOver (below : List Frame) : State where
  vm := { classes := classes, interned := interned.toArray }
  heap := heap
  slotsUsed := slotsUsed
  threads := #[{ frames := .invoking theMethod args0 :: below }]
def below0 : List Frame := [.native { method := ⟨0, 0⟩, args := #[] }]
def about1 : State := aboutOver below0
def p0 : Program := .bare "" "" ""
def e0 : Env := launch0.env 0 0 0
theorem w_frames : about1.frames = Frame.invoking theMethod args0 :: below0 := rfl
set_option maxRecDepth 65536 in
theorem w_args : argsFit about1.vm theMethod args0 = true := by decide +kernel
set_option maxRecDepth 65536 in
theorem w_heap : heapFits about1 = true := by decide +kernel
set_option maxRecDepth 65536 in
theorem w_runnable : about1.curStatus? = some .runnable := by decide +kernel
set_option maxRecDepth 65536 in
theorem w_alone : about1.alone = true := by decide +kernel
set_option maxRecDepth 65536 in
theorem w_named : about1.methodNamed? x = some theMethod := by decide +kernel
set_option maxRecDepth 65536 in
theorem w_hears : about1.hears theMethod below0 = true := by decide +kernel
set_option maxRecDepth 65536 in
theorem w_ripe : about1.ripe theMethod args0 below0 = true := by decide +kernel
theorem w_running : about1.status = .running := rfl
set_option maxRecDepth 65536 in
theorem w_room : about1.hasRoom e0.platform room_1 = true :=
  launch0.hasRoom_least _ room_1 (by decide +kernel) (by decide +kernel) (by decide +kernel) (by decide +kernel) (by decide +kernel) (by decide +kernel)
theorem allAtoms_all (ts : List Jvm.Cond) (a : Array Jvm.Value) (st : Jvm.State) : (allAtoms ts).before a st = ts.all (fun c => c.before a st) := by
  induction ts with
  | nil => rfl
  | cons c t ih =>
    show (Jvm.Cond.and c (allAtoms t)).before a st = _
    rw [Jvm.Cond.before_and, ih, List.all_cons]
def words1 : List Jvm.Cond := Jvm.Cond.code x code maxLocals ret :: tables_1
/-- a 'code' word, met by the world's own term for the bytes: nothing is compared byte by byte -/
theorem code_word {y : MethodName} {bytes : ByteArray} {mx : Nat} {rt : Option FieldType} {a : Array Value} {s : State} {m : MethodId} {meth : Method} {c : Code} (h1 : s.methodNamed? y = some m) (h2 : s.vm.method? m = some meth) (h3 : meth.code = some c) (h4 : c.code = bytes)
    (h5 : (c.maxLocals == mx && c.exceptionTable.isEmpty && decide (c.maxStack ≤ mostOperands) && decide (meth.sig.returnType = rt) && !meth.locks && decide (parseMethodDescriptor y.desc = some meth.sig)) = true) : (Jvm.Cond.code y bytes mx rt).before a s = true := by
  simp only [Bool.and_eq_true, beq_iff_eq, Bool.not_eq_true', decide_eq_true_eq] at h5
  obtain ⟨⟨⟨⟨⟨g1, g2⟩, g3⟩, g4⟩, g5⟩, g6⟩ := h5
  simp [Cond.before, Cond.holds, Cond.value, h1, h2, h3, h4, g1, g2, g3, g4, g5, g6]
def isCode : Jvm.Cond → Bool
  | .code _ _ _ _ => true
  | _ => false
theorem all_split {L : List Jvm.Cond} {P : Jvm.Cond → Bool} (h1 : L.all (fun c => isCode c || P c) = true) (h2 : ∀ c ∈ L.filter isCode, P c = true) : L.all P = true := by
  refine List.all_eq_true.mpr fun c hc => ?_
  have h := List.all_eq_true.mp h1 c hc
  rcases Bool.eq_false_or_eq_true (isCode c) with hi | hi
  · exact h2 c (List.mem_filter.mpr ⟨hc, hi⟩)
  · simpa [hi] using h
set_option maxRecDepth 65536 in
theorem w_c0 : (Jvm.Cond.code x code maxLocals ret).before args0 about1 = true := code_word (m := ⟨1, 1⟩) (meth := k1m1) (c := k1c1) (by decide +kernel) rfl rfl rfl (by decide +kernel)
set_option maxRecDepth 65536 in
theorem w_c1 : (Jvm.Cond.code ({ cls := "com/example/saturation/saturation/Measure", name := "label", desc := "()Ljava/lang/String;" } : Jvm.MethodName) prog_7_method_4_code (1 : Nat) (Option.some (Jvm.ClassFile.FieldType.object "java/lang/String"))).before args0 about1 = true := code_word (m := ⟨6, 0⟩) (meth := k6m0) (c := k6c0) (by decide +kernel) rfl rfl rfl (by decide +kernel)
set_option maxRecDepth 65536 in
theorem w_c2 : (Jvm.Cond.code ({ cls := "java/lang/StringBuilder", name := "<init>", desc := "()V" } : Jvm.MethodName) jdk_67_method_1_code (1 : Nat) (Option.none : Option Jvm.ClassFile.FieldType)).before args0 about1 = true := code_word (m := ⟨13, 0⟩) (meth := k13m0) (c := k13c0) (by decide +kernel) rfl rfl rfl (by decide +kernel)
set_option maxRecDepth 65536 in
theorem w_c3 : (Jvm.Cond.code ({ cls := "java/lang/AbstractStringBuilder", name := "<init>", desc := "(I)V" } : Jvm.MethodName) jdk_68_method_2_code (2 : Nat) (Option.none : Option Jvm.ClassFile.FieldType)).before args0 about1 = true := code_word (m := ⟨12, 1⟩) (meth := k12m1) (c := k12c1) (by decide +kernel) rfl rfl rfl (by decide +kernel)
set_option maxRecDepth 65536 in
theorem w_c4 : (Jvm.Cond.code ({ cls := "java/lang/Object", name := "<init>", desc := "()V" } : Jvm.MethodName) object_method_1_code (1 : Nat) (Option.none : Option Jvm.ClassFile.FieldType)).before args0 about1 = true := code_word (m := ⟨0, 0⟩) (meth := k0m0) (c := k0c0) (by decide +kernel) rfl rfl rfl (by decide +kernel)
set_option maxRecDepth 65536 in
theorem w_c5 : (Jvm.Cond.code ({ cls := "java/lang/StringBuilder", name := "append", desc := "(Ljava/lang/String;)Ljava/lang/StringBuilder;" } : Jvm.MethodName) jdk_67_method_7_code (2 : Nat) (Option.some (Jvm.ClassFile.FieldType.object "java/lang/StringBuilder"))).before args0 about1 = true := code_word (m := ⟨13, 1⟩) (meth := k13m1) (c := k13c1) (by decide +kernel) rfl rfl rfl (by decide +kernel)
set_option maxRecDepth 65536 in
theorem w_c6 : (Jvm.Cond.code ({ cls := "java/lang/AbstractStringBuilder", name := "append", desc := "(Ljava/lang/String;)Ljava/lang/AbstractStringBuilder;" } : Jvm.MethodName) jdk_68_method_22_code (3 : Nat) (Option.some (Jvm.ClassFile.FieldType.object "java/lang/AbstractStringBuilder"))).before args0 about1 = true := code_word (m := ⟨12, 4⟩) (meth := k12m4) (c := k12c4) (by decide +kernel) rfl rfl rfl (by decide +kernel)
set_option maxRecDepth 65536 in
theorem w_c7 : (Jvm.Cond.code ({ cls := "java/lang/String", name := "length", desc := "()I" } : Jvm.MethodName) jdk_42_method_54_code (1 : Nat) (Option.some Jvm.ClassFile.FieldType.int)).before args0 about1 = true := code_word (m := ⟨9, 2⟩) (meth := k9m2) (c := k9c2) (by decide +kernel) rfl rfl rfl (by decide +kernel)
set_option maxRecDepth 65536 in
theorem w_c8 : (Jvm.Cond.code ({ cls := "java/lang/String", name := "coder", desc := "()B" } : Jvm.MethodName) jdk_42_method_152_code (1 : Nat) (Option.some Jvm.ClassFile.FieldType.byte)).before args0 about1 = true := code_word (m := ⟨9, 6⟩) (meth := k9m6) (c := k9c6) (by decide +kernel) rfl rfl rfl (by decide +kernel)
set_option maxRecDepth 65536 in
theorem w_c9 : (Jvm.Cond.code ({ cls := "java/lang/AbstractStringBuilder", name := "ensureCapacityInternal", desc := "(I)V" } : Jvm.MethodName) jdk_68_method_9_code (3 : Nat) (Option.none : Option Jvm.ClassFile.FieldType)).before args0 about1 = true := code_word (m := ⟨12, 3⟩) (meth := k12m3) (c := k12c3) (by decide +kernel) rfl rfl rfl (by decide +kernel)
set_option maxRecDepth 65536 in
theorem w_c10 : (Jvm.Cond.code ({ cls := "java/lang/AbstractStringBuilder", name := "putStringAt", desc := "(ILjava/lang/String;)V" } : Jvm.MethodName) jdk_68_method_73_code (3 : Nat) (Option.none : Option Jvm.ClassFile.FieldType)).before args0 about1 = true := code_word (m := ⟨12, 9⟩) (meth := k12m9) (c := k12c9) (by decide +kernel) rfl rfl rfl (by decide +kernel)
set_option maxRecDepth 65536 in
theorem w_c11 : (Jvm.Cond.code ({ cls := "java/lang/AbstractStringBuilder", name := "inflateIfNeededFor", desc := "(Ljava/lang/String;)V" } : Jvm.MethodName) jdk_68_method_71_code (2 : Nat) (Option.none : Option Jvm.ClassFile.FieldType)).before args0 about1 = true := code_word (m := ⟨12, 8⟩) (meth := k12m8) (c := k12c8) (by decide +kernel) rfl rfl rfl (by decide +kernel)
set_option maxRecDepth 65536 in
theorem w_c12 : (Jvm.Cond.code ({ cls := "java/lang/String", name := "getBytes", desc := "([BIB)V" } : Jvm.MethodName) jdk_42_method_147_code (4 : Nat) (Option.none : Option Jvm.ClassFile.FieldType)).before args0 about1 = true := code_word (m := ⟨9, 4⟩) (meth := k9m4) (c := k9c4) (by decide +kernel) rfl rfl rfl (by decide +kernel)
set_option maxRecDepth 65536 in
theorem w_c13 : (Jvm.Cond.code ({ cls := "java/lang/StringBuilder", name := "append", desc := "(I)Ljava/lang/StringBuilder;" } : Jvm.MethodName) jdk_67_method_15_code (2 : Nat) (Option.some (Jvm.ClassFile.FieldType.object "java/lang/StringBuilder"))).before args0 about1 = true := code_word (m := ⟨13, 2⟩) (meth := k13m2) (c := k13c2) (by decide +kernel) rfl rfl rfl (by decide +kernel)
set_option maxRecDepth 65536 in
theorem w_c14 : (Jvm.Cond.code ({ cls := "java/lang/AbstractStringBuilder", name := "append", desc := "(I)Ljava/lang/AbstractStringBuilder;" } : Jvm.MethodName) jdk_68_method_32_code (4 : Nat) (Option.some (Jvm.ClassFile.FieldType.object "java/lang/AbstractStringBuilder"))).before args0 about1 = true := code_word (m := ⟨12, 5⟩) (meth := k12m5) (c := k12c5) (by decide +kernel) rfl rfl rfl (by decide +kernel)
set_option maxRecDepth 65536 in
theorem w_c15 : (Jvm.Cond.code ({ cls := "java/lang/Integer", name := "stringSize", desc := "(I)I" } : Jvm.MethodName) jdk_33_method_13_code (4 : Nat) (Option.some Jvm.ClassFile.FieldType.int)).before args0 about1 = true := code_word (m := ⟨16, 1⟩) (meth := k16m1) (c := k16c1) (by decide +kernel) rfl rfl rfl (by decide +kernel)
set_option maxRecDepth 65536 in
theorem w_c16 : (Jvm.Cond.code ({ cls := "java/lang/AbstractStringBuilder", name := "isLatin1", desc := "()Z" } : Jvm.MethodName) jdk_68_method_68_code (1 : Nat) (Option.some Jvm.ClassFile.FieldType.boolean)).before args0 about1 = true := code_word (m := ⟨12, 7⟩) (meth := k12m7) (c := k12c7) (by decide +kernel) rfl rfl rfl (by decide +kernel)
set_option maxRecDepth 65536 in
theorem w_c17 : (Jvm.Cond.code ({ cls := "java/lang/Integer", name := "getChars", desc := "(II[B)I" } : Jvm.MethodName) jdk_33_method_12_code (7 : Nat) (Option.some Jvm.ClassFile.FieldType.int)).before args0 about1 = true := code_word (m := ⟨16, 0⟩) (meth := k16m0) (c := k16c0) (by decide +kernel) rfl rfl rfl (by decide +kernel)
set_option maxRecDepth 65536 in
theorem w_c18 : (Jvm.Cond.code ({ cls := "java/lang/StringBuilder", name := "toString", desc := "()Ljava/lang/String;" } : Jvm.MethodName) jdk_67_method_42_code (1 : Nat) (Option.some (Jvm.ClassFile.FieldType.object "java/lang/String"))).before args0 about1 = true := code_word (m := ⟨13, 3⟩) (meth := k13m3) (c := k13c3) (by decide +kernel) rfl rfl rfl (by decide +kernel)
set_option maxRecDepth 65536 in
theorem w_c19 : (Jvm.Cond.code ({ cls := "java/lang/String", name := "<init>", desc := "(Ljava/lang/StringBuilder;)V" } : Jvm.MethodName) jdk_42_method_53_code (2 : Nat) (Option.none : Option Jvm.ClassFile.FieldType)).before args0 about1 = true := code_word (m := ⟨9, 1⟩) (meth := k9m1) (c := k9c1) (by decide +kernel) rfl rfl rfl (by decide +kernel)
set_option maxRecDepth 65536 in
theorem w_c20 : (Jvm.Cond.code ({ cls := "java/lang/String", name := "<init>", desc := "(Ljava/lang/AbstractStringBuilder;Ljava/lang/Void;)V" } : Jvm.MethodName) jdk_42_method_150_code (5 : Nat) (Option.none : Option Jvm.ClassFile.FieldType)).before args0 about1 = true := code_word (m := ⟨9, 5⟩) (meth := k9m5) (c := k9c5) (by decide +kernel) rfl rfl rfl (by decide +kernel)
set_option maxRecDepth 65536 in
theorem w_c21 : (Jvm.Cond.code ({ cls := "java/lang/AbstractStringBuilder", name := "getValue", desc := "()[B" } : Jvm.MethodName) jdk_68_method_64_code (1 : Nat) (Option.some (Jvm.ClassFile.FieldType.array Jvm.ClassFile.FieldType.byte))).before args0 about1 = true := code_word (m := ⟨12, 6⟩) (meth := k12m6) (c := k12c6) (by decide +kernel) rfl rfl rfl (by decide +kernel)
set_option maxRecDepth 65536 in
theorem w_c22 : (Jvm.Cond.code ({ cls := "java/lang/StringBuilder", name := "length", desc := "()I" } : Jvm.MethodName) jdk_67_method_93_code (1 : Nat) (Option.some Jvm.ClassFile.FieldType.int)).before args0 about1 = true := code_word (m := ⟨13, 4⟩) (meth := k13m4) (c := k13c4) (by decide +kernel) rfl rfl rfl (by decide +kernel)
set_option maxRecDepth 65536 in
theorem w_c23 : (Jvm.Cond.code ({ cls := "java/lang/AbstractStringBuilder", name := "length", desc := "()I" } : Jvm.MethodName) jdk_68_method_6_code (1 : Nat) (Option.some Jvm.ClassFile.FieldType.int)).before args0 about1 = true := code_word (m := ⟨12, 2⟩) (meth := k12m2) (c := k12c2) (by decide +kernel) rfl rfl rfl (by decide +kernel)
set_option maxRecDepth 65536 in
theorem w_c24 : (Jvm.Cond.code ({ cls := "java/util/Arrays", name := "copyOfRange", desc := "([BII)[B" } : Jvm.MethodName) jdk_65_method_132_code (3 : Nat) (Option.some (Jvm.ClassFile.FieldType.array Jvm.ClassFile.FieldType.byte))).before args0 about1 = true := code_word (m := ⟨17, 2⟩) (meth := k17m2) (c := k17c2) (by decide +kernel) rfl rfl rfl (by decide +kernel)
set_option maxRecDepth 65536 in
theorem w_c25 : (Jvm.Cond.code ({ cls := "java/util/Arrays", name := "copyOfRangeByte", desc := "([BII)[B" } : Jvm.MethodName) jdk_65_method_133_code (5 : Nat) (Option.some (Jvm.ClassFile.FieldType.array Jvm.ClassFile.FieldType.byte))).before args0 about1 = true := code_word (m := ⟨17, 3⟩) (meth := k17m3) (c := k17c3) (by decide +kernel) rfl rfl rfl (by decide +kernel)
set_option maxRecDepth 65536 in
theorem w_c26 : (Jvm.Cond.code ({ cls := "java/util/Arrays", name := "checkLength", desc := "(II)V" } : Jvm.MethodName) jdk_65_method_131_code (2 : Nat) (Option.none : Option Jvm.ClassFile.FieldType)).before args0 about1 = true := code_word (m := ⟨17, 1⟩) (meth := k17m1) (c := k17c1) (by decide +kernel) rfl rfl rfl (by decide +kernel)
set_option maxRecDepth 65536 in
theorem w_c27 : (Jvm.Cond.code ({ cls := "java/lang/Math", name := "min", desc := "(II)I" } : Jvm.MethodName) jdk_29_method_69_code (2 : Nat) (Option.some Jvm.ClassFile.FieldType.int)).before args0 about1 = true := code_word (m := ⟨18, 1⟩) (meth := k18m1) (c := k18c1) (by decide +kernel) rfl rfl rfl (by decide +kernel)
set_option maxRecDepth 65536 in
theorem w_c28 : (Jvm.Cond.code ({ cls := "java/lang/String", name := "equals", desc := "(Ljava/lang/Object;)Z" } : Jvm.MethodName) jdk_42_method_66_code (3 : Nat) (Option.some Jvm.ClassFile.FieldType.boolean)).before args0 about1 = true := code_word (m := ⟨9, 3⟩) (meth := k9m3) (c := k9c3) (by decide +kernel) rfl rfl rfl (by decide +kernel)
set_option maxRecDepth 65536 in
theorem w_c29 : (Jvm.Cond.code ({ cls := "java/lang/StringLatin1", name := "equals", desc := "([B[B)Z" } : Jvm.MethodName) jdk_43_method_13_code (3 : Nat) (Option.some Jvm.ClassFile.FieldType.boolean)).before args0 about1 = true := code_word (m := ⟨19, 1⟩) (meth := k19m1) (c := k19c1) (by decide +kernel) rfl rfl rfl (by decide +kernel)
def codes1 : List Jvm.Cond := [Jvm.Cond.code x code maxLocals ret, Jvm.Cond.code ({ cls := "com/example/saturation/saturation/Measure", name := "label", desc := "()Ljava/lang/String;" } : Jvm.MethodName) prog_7_method_4_code (1 : Nat) (Option.some (Jvm.ClassFile.FieldType.object "java/lang/String")), Jvm.Cond.code ({ cls := "java/lang/StringBuilder", name := "<init>", desc := "()V" } : Jvm.MethodName) jdk_67_method_1_code (1 : Nat) (Option.none : Option Jvm.ClassFile.FieldType), Jvm.Cond.code ({ cls := "java/lang/AbstractStringBuilder", name := "<init>", desc := "(I)V" } : Jvm.MethodName) jdk_68_method_2_code (2 : Nat) (Option.none : Option Jvm.ClassFile.FieldType), Jvm.Cond.code ({ cls := "java/lang/Object", name := "<init>", desc := "()V" } : Jvm.MethodName) object_method_1_code (1 : Nat) (Option.none : Option Jvm.ClassFile.FieldType), Jvm.Cond.code ({ cls := "java/lang/StringBuilder", name := "append", desc := "(Ljava/lang/String;)Ljava/lang/StringBuilder;" } : Jvm.MethodName) jdk_67_method_7_code (2 : Nat) (Option.some (Jvm.ClassFile.FieldType.object "java/lang/StringBuilder")), Jvm.Cond.code ({ cls := "java/lang/AbstractStringBuilder", name := "append", desc := "(Ljava/lang/String;)Ljava/lang/AbstractStringBuilder;" } : Jvm.MethodName) jdk_68_method_22_code (3 : Nat) (Option.some (Jvm.ClassFile.FieldType.object "java/lang/AbstractStringBuilder")), Jvm.Cond.code ({ cls := "java/lang/String", name := "length", desc := "()I" } : Jvm.MethodName) jdk_42_method_54_code (1 : Nat) (Option.some Jvm.ClassFile.FieldType.int), Jvm.Cond.code ({ cls := "java/lang/String", name := "coder", desc := "()B" } : Jvm.MethodName) jdk_42_method_152_code (1 : Nat) (Option.some Jvm.ClassFile.FieldType.byte), Jvm.Cond.code ({ cls := "java/lang/AbstractStringBuilder", name := "ensureCapacityInternal", desc := "(I)V" } : Jvm.MethodName) jdk_68_method_9_code (3 : Nat) (Option.none : Option Jvm.ClassFile.FieldType), Jvm.Cond.code ({ cls := "java/lang/AbstractStringBuilder", name := "putStringAt", desc := "(ILjava/lang/String;)V" } : Jvm.MethodName) jdk_68_method_73_code (3 : Nat) (Option.none : Option Jvm.ClassFile.FieldType), Jvm.Cond.code ({ cls := "java/lang/AbstractStringBuilder", name := "inflateIfNeededFor", desc := "(Ljava/lang/String;)V" } : Jvm.MethodName) jdk_68_method_71_code (2 : Nat) (Option.none : Option Jvm.ClassFile.FieldType), Jvm.Cond.code ({ cls := "java/lang/String", name := "getBytes", desc := "([BIB)V" } : Jvm.MethodName) jdk_42_method_147_code (4 : Nat) (Option.none : Option Jvm.ClassFile.FieldType), Jvm.Cond.code ({ cls := "java/lang/StringBuilder", name := "append", desc := "(I)Ljava/lang/StringBuilder;" } : Jvm.MethodName) jdk_67_method_15_code (2 : Nat) (Option.some (Jvm.ClassFile.FieldType.object "java/lang/StringBuilder")), Jvm.Cond.code ({ cls := "java/lang/AbstractStringBuilder", name := "append", desc := "(I)Ljava/lang/AbstractStringBuilder;" } : Jvm.MethodName) jdk_68_method_32_code (4 : Nat) (Option.some (Jvm.ClassFile.FieldType.object "java/lang/AbstractStringBuilder")), Jvm.Cond.code ({ cls := "java/lang/Integer", name := "stringSize", desc := "(I)I" } : Jvm.MethodName) jdk_33_method_13_code (4 : Nat) (Option.some Jvm.ClassFile.FieldType.int), Jvm.Cond.code ({ cls := "java/lang/AbstractStringBuilder", name := "isLatin1", desc := "()Z" } : Jvm.MethodName) jdk_68_method_68_code (1 : Nat) (Option.some Jvm.ClassFile.FieldType.boolean), Jvm.Cond.code ({ cls := "java/lang/Integer", name := "getChars", desc := "(II[B)I" } : Jvm.MethodName) jdk_33_method_12_code (7 : Nat) (Option.some Jvm.ClassFile.FieldType.int), Jvm.Cond.code ({ cls := "java/lang/StringBuilder", name := "toString", desc := "()Ljava/lang/String;" } : Jvm.MethodName) jdk_67_method_42_code (1 : Nat) (Option.some (Jvm.ClassFile.FieldType.object "java/lang/String")), Jvm.Cond.code ({ cls := "java/lang/String", name := "<init>", desc := "(Ljava/lang/StringBuilder;)V" } : Jvm.MethodName) jdk_42_method_53_code (2 : Nat) (Option.none : Option Jvm.ClassFile.FieldType), Jvm.Cond.code ({ cls := "java/lang/String", name := "<init>", desc := "(Ljava/lang/AbstractStringBuilder;Ljava/lang/Void;)V" } : Jvm.MethodName) jdk_42_method_150_code (5 : Nat) (Option.none : Option Jvm.ClassFile.FieldType), Jvm.Cond.code ({ cls := "java/lang/AbstractStringBuilder", name := "getValue", desc := "()[B" } : Jvm.MethodName) jdk_68_method_64_code (1 : Nat) (Option.some (Jvm.ClassFile.FieldType.array Jvm.ClassFile.FieldType.byte)), Jvm.Cond.code ({ cls := "java/lang/StringBuilder", name := "length", desc := "()I" } : Jvm.MethodName) jdk_67_method_93_code (1 : Nat) (Option.some Jvm.ClassFile.FieldType.int), Jvm.Cond.code ({ cls := "java/lang/AbstractStringBuilder", name := "length", desc := "()I" } : Jvm.MethodName) jdk_68_method_6_code (1 : Nat) (Option.some Jvm.ClassFile.FieldType.int), Jvm.Cond.code ({ cls := "java/util/Arrays", name := "copyOfRange", desc := "([BII)[B" } : Jvm.MethodName) jdk_65_method_132_code (3 : Nat) (Option.some (Jvm.ClassFile.FieldType.array Jvm.ClassFile.FieldType.byte)), Jvm.Cond.code ({ cls := "java/util/Arrays", name := "copyOfRangeByte", desc := "([BII)[B" } : Jvm.MethodName) jdk_65_method_133_code (5 : Nat) (Option.some (Jvm.ClassFile.FieldType.array Jvm.ClassFile.FieldType.byte)), Jvm.Cond.code ({ cls := "java/util/Arrays", name := "checkLength", desc := "(II)V" } : Jvm.MethodName) jdk_65_method_131_code (2 : Nat) (Option.none : Option Jvm.ClassFile.FieldType), Jvm.Cond.code ({ cls := "java/lang/Math", name := "min", desc := "(II)I" } : Jvm.MethodName) jdk_29_method_69_code (2 : Nat) (Option.some Jvm.ClassFile.FieldType.int), Jvm.Cond.code ({ cls := "java/lang/String", name := "equals", desc := "(Ljava/lang/Object;)Z" } : Jvm.MethodName) jdk_42_method_66_code (3 : Nat) (Option.some Jvm.ClassFile.FieldType.boolean), Jvm.Cond.code ({ cls := "java/lang/StringLatin1", name := "equals", desc := "([B[B)Z" } : Jvm.MethodName) jdk_43_method_13_code (3 : Nat) (Option.some Jvm.ClassFile.FieldType.boolean)]
set_option maxRecDepth 65536 in
theorem codes_eq : words1.filter isCode = codes1 := rfl
theorem w_codes : ∀ c ∈ words1.filter isCode, c.before args0 about1 = true := by
  rw [codes_eq]
  intro c hc
  simp only [codes1, List.mem_cons, List.not_mem_nil, or_false] at hc
  rcases hc with rfl | rfl | rfl | rfl | rfl | rfl | rfl | rfl | rfl | rfl | rfl | rfl | rfl | rfl | rfl | rfl | rfl | rfl | rfl | rfl | rfl | rfl | rfl | rfl | rfl | rfl | rfl | rfl | rfl | rfl
  · exact w_c0
  · exact w_c1
  · exact w_c2
  · exact w_c3
  · exact w_c4
  · exact w_c5
  · exact w_c6
  · exact w_c7
  · exact w_c8
  · exact w_c9
  · exact w_c10
  · exact w_c11
  · exact w_c12
  · exact w_c13
  · exact w_c14
  · exact w_c15
  · exact w_c16
  · exact w_c17
  · exact w_c18
  · exact w_c19
  · exact w_c20
  · exact w_c21
  · exact w_c22
  · exact w_c23
  · exact w_c24
  · exact w_c25
  · exact w_c26
  · exact w_c27
  · exact w_c28
  · exact w_c29
set_option maxRecDepth 65536 in
theorem w_t1 : (words1.take 24).all (fun c => isCode c || c.before args0 about1) = true := by decide +kernel
set_option maxRecDepth 65536 in
theorem w_t2 : ((words1.drop 24).take 24).all (fun c => isCode c || c.before args0 about1) = true := by decide +kernel
set_option maxRecDepth 65536 in
theorem w_t3 : (((words1.drop 24).drop 24).take 24).all (fun c => isCode c || c.before args0 about1) = true := by decide +kernel
set_option maxRecDepth 65536 in
theorem w_t4 : ((((words1.drop 24).drop 24).drop 24).take 24).all (fun c => isCode c || c.before args0 about1) = true := by decide +kernel
set_option maxRecDepth 65536 in
theorem w_t5 : (((((words1.drop 24).drop 24).drop 24).drop 24).take 24).all (fun c => isCode c || c.before args0 about1) = true := by decide +kernel
set_option maxRecDepth 65536 in
theorem w_t6 : ((((((words1.drop 24).drop 24).drop 24).drop 24).drop 24).take 24).all (fun c => isCode c || c.before args0 about1) = true := by decide +kernel
set_option maxRecDepth 65536 in
theorem w_t7 : (((((((words1.drop 24).drop 24).drop 24).drop 24).drop 24).drop 24).take 24).all (fun c => isCode c || c.before args0 about1) = true := by decide +kernel
set_option maxRecDepth 65536 in
theorem w_t8 : ((((((((words1.drop 24).drop 24).drop 24).drop 24).drop 24).drop 24).drop 24).take 24).all (fun c => isCode c || c.before args0 about1) = true := by decide +kernel
set_option maxRecDepth 65536 in
theorem w_t9 : ((((((((words1.drop 24).drop 24).drop 24).drop 24).drop 24).drop 24).drop 24).drop 24).all (fun c => isCode c || c.before args0 about1) = true := by decide +kernel
theorem w_tables : (allAtoms (Jvm.Cond.code x code maxLocals ret :: tables_1)).before args0 about1 = true := by
  rw [allAtoms_all]
  show words1.all (fun c => c.before args0 about1) = true
  refine all_split ?_ w_codes
  rw [← List.take_append_drop 24 words1, List.all_append, w_t1, ← List.take_append_drop 24 (words1.drop 24), List.all_append, w_t2, ← List.take_append_drop 24 ((words1.drop 24).drop 24), List.all_append, w_t3, ← List.take_append_drop 24 (((words1.drop 24).drop 24).drop 24), List.all_append, w_t4, ← List.take_append_drop 24 ((((words1.drop 24).drop 24).drop 24).drop 24), List.all_append, w_t5, ← List.take_append_drop 24 (((((words1.drop 24).drop 24).drop 24).drop 24).drop 24), List.all_append, w_t6, ← List.take_append_drop 24 ((((((words1.drop 24).drop 24).drop 24).drop 24).drop 24).drop 24), List.all_append, w_t7, ← List.take_append_drop 24 (((((((words1.drop 24).drop 24).drop 24).drop 24).drop 24).drop 24).drop 24), List.all_append, w_t8, w_t9]
  rfl
set_option maxRecDepth 65536 in
theorem w_rest : rest_1_c.before args0 about1 = true := by decide +kernel
set_option maxRecDepth 65536 in
theorem w_case : (Jvm.Cond.and given_1 narrow_1).before args0 about1 = true := by decide +kernel
set_option maxRecDepth 65536 in
theorem w_consts : constsHeld consts_1 about1 := Jvm.Lit.constsHeldB_iff.mp (by decide +kernel)
theorem w_applies : (headSpec (Jvm.Cond.code x code maxLocals ret :: tables_1) room_1).applies x e0.platform about1 = true :=
  (Spec.applies_iff w_frames).mpr ⟨w_running, w_runnable, w_alone, w_named, w_hears, w_ripe, w_room, w_tables⟩
theorem atStart : AtStart classFile x code maxLocals ret World_1 tables_1 room_1 Calls_1 rest_1 Pre_1 launch0 p0 e0 about1 theMethod args0 below0 :=
  ⟨lists_1, trivial, launch0.admits_env _ _ _, launch0.least_env, fairChoices_fair.cas, fairChoices_fair.clock, w_frames, w_args, w_heap, w_applies, ⟨w_consts, trivial⟩, w_rest, w_case⟩
end start1
theorem witness_1 : WitnessClaimed_1 := ⟨start1.p0, start1.e0, start1.about1, start1.theMethod, start1.args0, start1.below0, start1.atStart⟩
end Jvm.Pilot.@@N@@
